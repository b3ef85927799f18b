import Derived.Test.YbulkaihcScriptParts
import Derived.WalkSmall
namespace Go.Proofs.Ybulkaihc
open Go Go.MapKept Go.Maps Go.ChangeMaps Go.RowKit

theorem keys_ne {a b : Int} {x y : ByteArray} (h : ¬ (a, x) = (b, y)) : (b == a) = false ∨ (b = a ∧ (y.toList == x.toList) = false) := by
  by_cases h1 : b = a
  · refine Or.inr ⟨h1, ?_⟩
    rw [← beq_toListBytes]
    refine Bool.eq_false_iff.2 fun e => h ?_
    rw [(MapKept.bytes_beq _ _).1 e, h1]
  · exact Or.inl (beq_eq_false_iff_ne.2 h1)

theorem found_next {L : List (SK × SV)} {k : SK} {j : Nat} {p : SK × SV} {fb fb' : Bool} (h : fb = foundB (L.take j) k) (hp : L[j]? = some p) (hb : fb' = (fb || decide (p.1 = k))) : fb' = foundB (L.take (j + 1)) k := by
  obtain ⟨hj, rfl⟩ := List.getElem?_eq_some_iff.1 hp
  rw [List.take_succ_eq_append_getElem hj, foundB_snoc, ← h, hb]

theorem info49 : (Yba.prog.info? 49).map (fun i => (i.zero, i.size, i.bytes)) = some (some (.agg #[.int .i64 0, .string ByteArray.empty]), 2, 24) := by kernel_rfl
theorem info46 : (Yba.prog.info? 46).map (fun i => (i.zero, i.size, i.bytes)) = some (some (.agg #[.int .i64 0, .int .i64 0]), 2, 16) := by kernel_rfl
theorem two_one (x y : Value) (hx : x.oneCell' = true) (hy : y.oneCell' = true) : ∀ u ∈ [x, y], u.oneCell' = true := by
  intro u hu
  simp at hu
  rcases hu with rfl | rfl
  · exact hx
  · exact hy

theorem cell_alloc {w : World} {a : Addr} {v : Value} (h : w.cell? a = some v) (o : Obj) : (w.alloc o).cell? a = some v := by
  rw [World.cell?_of_block (w := w) (Below.heap_alloc w o a.block (World.block_lt_of_cell? _ _ h))]
  exact h

set_option maxRecDepth 100000 in
set_option maxHeartbeats 1000000 in
theorem script_walk (b off len cap : Nat) (O : Nat → OpR) (hgood : ∀ i, i < len → (O i).good) (w : World) (hlen : len ≤ 1024) (hb : b < w.heap.size)
    (hc0 : ∀ i, i < len → w.cell? ⟨b, off + i * 5, none⟩ = some (.int .u8 (O i).1))
    (hc1 : ∀ i, i < len → w.cell? ⟨b, off + i * 5 + 1, none⟩ = some (.int .u8 (O i).2.1))
    (hc2 : ∀ i, i < len → w.cell? ⟨b, off + i * 5 + 2, none⟩ = some (.string (O i).2.2.1))
    (hc3 : ∀ i, i < len → w.cell? ⟨b, off + i * 5 + 3, none⟩ = some (.int .i64 (O i).2.2.2.1))
    (hc4 : ∀ i, i < len → w.cell? ⟨b, off + i * 5 + 4, none⟩ = some (.int .i64 (O i).2.2.2.2)) :
    Calls Yba.prog 3 #[.slice (some ⟨b, off, none⟩) len cap] w fun e w' => e = .returned (.bool true) ∧ Below w.heap.size w w' := by
  have hmm := @run_makeMap Yba.prog
  obtain ⟨i4, hi4, hz40, hz41, hz42⟩ := info_parts info49
  obtain ⟨i5, hi5, hz50, hz51, hz52⟩ := info_parts info46
  have hl : ¬ (1024 : Int) < (len : Int) := by omega
  go_enter Yba.func3, Yba.ntmps3
  go_wp2_with fail
  go_loopw [25, 4, 5] (fun i v4 v5 wr => ∃ (k : Nat) (a4 : Option Addr) (c4 : Nat) (a5 : Option Addr) (c5 : Nat), k ≤ len ∧ i = .int .i64 k ∧ v4 = .slice a4 (heldTo O k).length c4 ∧ v5 = .slice a5 (heldTo O k).length c5 ∧ Held w wr (heldTo O k) (heldTo O k) (heldTo O k) a4 c4 a5 c5)
    (fun i _ _ _ => len - (intOf i).toNat)
  case atStart =>
    refine ⟨0, none, 0, none, 0, Nat.zero_le _, rfl, rfl, rfl, ?_⟩
    refine ⟨(mapIs_made w Yba.prog 49).alloc _, ?_, World.ownsRow_nil _ _ _ _, World.ownsRow_nil _ _ _ _, ((Below.refl _ _).alloc (Nat.le_refl _) _).alloc (by simp) _, by simp⟩
    rw [World.cell?_alloc_at _ _ _ _ (by simp)]; rfl
  case round =>
    obtain ⟨k, a4, c4, a5, c5, hk, rfl, rfl, rfl, hH⟩ := hrel
    by_cases hlt : k < len
    · have hsz := hH.size
      have hg := hgood k hlt
      obtain ⟨g1, g2, g3, g4, g5⟩ := hg
      have q0 := (hH.below.cell (p := ⟨b, off + k * 5, none⟩) hb).trans (hc0 k hlt)
      have q1 := (hH.below.cell (p := ⟨b, off + k * 5 + 1, none⟩) hb).trans (hc1 k hlt)
      have q2 := (hH.below.cell (p := ⟨b, off + k * 5 + 2, none⟩) hb).trans (hc2 k hlt)
      have q3 := (hH.below.cell (p := ⟨b, off + k * 5 + 3, none⟩) hb).trans (hc3 k hlt)
      have q4 := (hH.below.cell (p := ⟨b, off + k * 5 + 4, none⟩) hb).trans (hc4 k hlt)
      clear hc0 hc1 hc2 hc3 hc4 hgood
      generalize ho : O k = o at *
      obtain ⟨o1, o2, o3, o4, o5⟩ := o
      have HO : Hid (O k = (o1, o2, o3, o4, o5)) := ho
      clear ho
      simp only at g1 g2 g3 g4 g5 q0 q1 q2 q3 q4
      go_wp2_with fail
      refine (id_any o2 o3 g3 g4 _).mono ?_
      rintro e w' ⟨rfl, rfl⟩
      have hid := idOf_le o2 o3 g5
      generalize hidv : idOf o2 o3 = id at *
      have HID : Hid (idOf o2 o3 = id) := hidv
      clear hidv
      go_wp2_with fail
      refine (keep_any (o1 % 4 - 1, id) (o4, o5) ⟨WalkArith.wf_i64 (by omega), hid⟩ (w.heap.size + 1) w.heap.size (heldTo O k) _ ((hH.alloc _).alloc _).jc ((hH.alloc _).alloc _).map).mono ?_
      rintro e w1 ⟨rfl, hm1, hg1⟩
      have hH1 := ((hH.alloc _).alloc _).grown hg1 hm1
      have r4 : w1.cell? ⟨wr.heap.size, 4, none⟩ = some (.int .i64 o5) := by
        refine hg1.cell ?_ (by simp; omega)
        rw [World.cell?_alloc_past _ _ _ (by simp), World.cell?_alloc_at _ _ _ _ rfl]; rfl
      have s0 : w1.cell? ⟨wr.heap.size + 1, 0, none⟩ = some (.int .i64 o4) := by
        refine hg1.cell ?_ (by simp; omega)
        rw [World.cell?_alloc_at _ _ _ _ (by simp)]; rfl
      have s1 : w1.cell? ⟨wr.heap.size + 1, 1, none⟩ = some (.int .i64 o5) := by
        refine hg1.cell ?_ (by simp; omega)
        rw [World.cell?_alloc_at _ _ _ _ (by simp)]; rfl
      have z1 : wr.heap.size + 2 ≤ w1.heap.size := by have := hg1.size; simp at this; omega
      clear hm1 hg1 q0 q1 q2 q3 q4
      unfold maxLen at hid
      have hk4 : ∀ i, (Value.slice a4 (heldTo O k).length c4).ownBlock = some i → i < wr.heap.size := fun i hi => (hH.keys.lt i hi).2
      clear hH
      have HL : Hid (heldTo O (k + 1) = keepL (heldTo O k) (o1 % 4 - 1, id) (o4, o5)) := by
        show keepL (heldTo O k) (O k).key (O k).span = _
        rw [HO.out, ← HID.out]
        rfl
      have hLk := heldTo_le O k
      generalize heldTo O k = L at *
      by_cases hs : 32 ≤ (id.size : Int)
      · by_cases hn : (o5 == 0) = true
        · have hL : heldTo O (k + 1) = L := by
            rw [HL.out]
            unfold keepL
            rw [if_pos (Or.inr (Or.inr (by simpa using hn)))]
          have HL' : Hid (heldTo O (k + 1) = L) := hL
          rw [← HL.out, hL] at hH1
          clear hL HL
          go_wp2
          go_roundw
          case rel => exact ⟨k + 1, a4, c4, a5, c5, by omega, by go_num, by rw [HL'.out], by rw [HL'.out], by rw [HL'.out]; exact hH1⟩
          case measure => simp [intOf]; omega
        · have hn' : (o5 == 0) = false := by simpa using hn
          clear hn
          have hidx := fun (i : Nat) (W : World) (hi : i < L.length) => index_own hH1.keys Yba.underlying41 size49 i W hi
          have hH2 := hH1.alloc (.cells #[.int .i64 (o1 % 4 - 1), .string id] 49)
          go_wp2_with fail
          go_loopw [62, 12] (fun i t wi => ∃ (j n : Nat) (fb : Bool), j ≤ L.length ∧ i = .int .i64 j ∧ t = .bool fb ∧ Hid (fb = foundB (L.take j) (o1 % 4 - 1, id)) ∧ wi = (w1.alloc (.cells #[.int .i64 (o1 % 4 - 1), .string id] 49)).drewN n)
            (fun i _ _ => L.length - (intOf i).toNat)
          case atStart => exact ⟨0, 0, false, Nat.zero_le _, rfl, rfl, rfl, rfl⟩
          case round =>
            obtain ⟨j, n, fb, hj, rfl, rfl, HF, rfl⟩ := hrel
            by_cases hjl : j < L.length
            · obtain ⟨p, hp⟩ : ∃ p, L[j]? = some p := ⟨L[j], List.getElem?_eq_getElem hjl⟩
              have hcp := hH2.keyAt hp
              obtain ⟨cp0, cp1⟩ := hcp
              have HP : Hid (L[j]? = some p) := hp
              clear hp
              have hix := hidx j
              by_cases hpk : p.1 = (o1 % 4 - 1, id)
              · rw [hpk] at cp0 cp1
                simp only at cp0 cp1
                have HK : Hid (p.1 = (o1 % 4 - 1, id)) := hpk
                clear hpk
                go_wp2_with fail
                go_region
                go_wp2
                go_roundw
                case rel => exact ⟨j + 1, _, true, by omega, by go_num, rfl, found_next HF.out HP.out (by rw [HK.out]; simp), rfl⟩
                case measure => simp [intOf]; omega
              · rcases keys_ne (a := o1 % 4 - 1) (b := p.1.1) (x := id) (y := p.1.2) (fun e => hpk e.symm) with hne | ⟨he, hne⟩
                · have HK : Hid (¬ p.1 = (o1 % 4 - 1, id)) := hpk
                  clear hpk
                  go_wp2_with fail
                  go_region
                  go_wp2
                  go_roundw
                  case rel => exact ⟨j + 1, _, fb, by omega, by go_num, rfl, found_next HF.out HP.out (by simp [HK.out]), rfl⟩
                  case measure => simp [intOf]; omega
                · have HK : Hid (¬ p.1 = (o1 % 4 - 1, id)) := hpk
                  clear hpk
                  rw [he] at cp0
                  clear he
                  go_wp2_with fail
                  go_region
                  go_wp2
                  go_roundw
                  case rel => exact ⟨j + 1, _, fb, by omega, by go_num, rfl, found_next HF.out HP.out (by simp [HK.out]), rfl⟩
                  case measure => simp [intOf]; omega
            · have hje : j = L.length := by omega
              have HB : Hid (fb = foundB L (o1 % 4 - 1, id)) := by
                rw [HF.out, hje, List.take_length]
                rfl
              clear HF hidx
              cases fb
              · have hH3 := (hH2.drewN n).alloc (.cells #[.int .i64 (o1 % 4 - 1), .string id] 49)
                have hs1 : (w1.alloc (.cells #[.int .i64 (o1 % 4 - 1), .string id] 49)).heap.size = w1.heap.size + 1 := by simp
                go_wp2_with (at_builtin; refine wpList_append_own _ rfl (.tmp 74) (.tmp 76) 41 rfl (w.heap.size + 2) 49 i4 (.agg #[.int .i64 0, .string ByteArray.empty]) 2 24 Yba.underlying41 hi4 hz40 hz41 hz42 rfl (by decide) _ _ _ rfl hH3.keys ⟨w1.heap.size + 1, 0, none⟩ 1 1 [.int .i64 (o1 % 4 - 1), .string id] rfl rfl ?q1 (two_one _ _ rfl rfl) ?q3 ?q4 ?q5 ?_)
                case q1 => rw [← hs1]; exact cell_two_new _ _ _ _
                case q3 => unfold maxLen; omega
                case q4 => omega
                case q5 => exact hH3.size
                intro v' w2 hown' hgrow _
                obtain ⟨a4', c4', hv', hH4⟩ := hH3.pushKey ((o1 % 4 - 1, id), (o4, o5)) hown' hgrow
                have t0 : w2.cell? ⟨wr.heap.size + 1, 0, none⟩ = some (.int .i64 o4) :=
                  hgrow.cell (cell_alloc (w := (w1.alloc (.cells #[.int .i64 (o1 % 4 - 1), .string id] 49)).drewN n) (cell_alloc s0 _) _) (fun e => by have := hk4 _ e.symm; simp at this; omega)
                have t1 : w2.cell? ⟨wr.heap.size + 1, 1, none⟩ = some (.int .i64 o5) :=
                  hgrow.cell (cell_alloc (w := (w1.alloc (.cells #[.int .i64 (o1 % 4 - 1), .string id] 49)).drewN n) (cell_alloc s1 _) _) (fun e => by have := hk4 _ e.symm; simp at this; omega)
                have HV : Hid (v' = .slice a4' (L ++ [((o1 % 4 - 1, id), (o4, o5))]).length c4') := hv'
                clear hown' hgrow hv' hH3 hs1 hH2 hH1 hk4
                have hH5 := hH4.alloc (.cells #[.int .i64 o4, .int .i64 o5] 46)
                go_wp2_with (at_builtin; refine wpList_append_own _ rfl (.tmp 78) (.tmp 80) 34 rfl (w.heap.size + 2) 46 i5 (.agg #[.int .i64 0, .int .i64 0]) 2 16 Yba.underlying34 hi5 hz50 hz51 hz52 rfl (by decide) _ _ _ rfl hH5.spans ⟨w2.heap.size, 0, none⟩ 1 1 [.int .i64 o4, .int .i64 o5] rfl rfl ?r1 (two_one _ _ rfl rfl) ?r3 ?r4 ?r5 ?_)
                case r1 => exact cell_two_new _ _ _ _
                case r3 => unfold maxLen; omega
                case r4 => omega
                case r5 => exact hH5.size
                intro v5' w3 hown5 hgrow5 _
                obtain ⟨a5', c5', hv5, hH6⟩ := hH5.pushSpan ((o1 % 4 - 1, id), (o4, o5)) hown5 hgrow5
                have hL : heldTo O (k + 1) = L ++ [((o1 % 4 - 1, id), (o4, o5))] := by
                  rw [HL.out]
                  unfold keepL
                  rw [if_neg]
                  rintro (h | h | h)
                  · have := (foundB_iff _ _).2 h
                    rw [← HB.out] at this
                    cases this
                  · simp only at h; omega
                  · simp only at h; simp [h] at hn'
                rw [← HL.out, hL] at hH6
                have HV5 : Hid (v5' = .slice a5' (L ++ [((o1 % 4 - 1, id), (o4, o5))]).length c5') := hv5
                have HL' : Hid (heldTo O (k + 1) = L ++ [((o1 % 4 - 1, id), (o4, o5))]) := hL
                clear hL hv5 hown5 hgrow5 hH5 hH4 HL t0 t1
                go_wp2
                go_roundw
                case rel => exact ⟨k + 1, a4', c4', a5', c5', by omega, by go_num, by rw [HL'.out]; exact HV.out, by rw [HL'.out]; exact HV5.out, by rw [HL'.out]; exact hH6⟩
                case measure => simp [intOf]; omega
              · have hL : heldTo O (k + 1) = L := by
                  rw [HL.out]
                  unfold keepL
                  rw [if_pos (Or.inl ((foundB_iff _ _).1 HB.out.symm))]
                have HL' : Hid (heldTo O (k + 1) = L) := hL
                rw [← HL.out, hL] at hH2
                clear hL HL
                go_wp2
                go_roundw
                case rel => exact ⟨k + 1, a4, c4, a5, c5, by omega, by go_num, by rw [HL'.out], by rw [HL'.out], by rw [HL'.out]; exact hH2.drewN _⟩
                case measure => simp [intOf]; omega
      · have hL : heldTo O (k + 1) = L := by
          rw [HL.out]
          unfold keepL
          rw [if_pos (Or.inr (Or.inl (by simp only; omega)))]
        have HL' : Hid (heldTo O (k + 1) = L) := hL
        rw [← HL.out, hL] at hH1
        clear hL HL
        go_wp2
        go_roundw
        case rel => exact ⟨k + 1, a4, c4, a5, c5, by omega, by go_num, by rw [HL'.out], by rw [HL'.out], by rw [HL'.out]; exact hH1⟩
        case measure => simp [intOf]; omega
    · clear hc0 hc1 hc2 hc3 hc4 hgood
      have hLk := heldTo_le O k
      generalize heldTo O k = L at *
      have hjc0 := hH.jc
      have hlm := hH.map.len Yba.underlying24 3
      have hll : ((encL L).length : Int) = (L.length : Int) := by simp [encL]
      rw [hll] at hlm
      clear hll
      go_wp2_with fail
      go_loopw [93] (fun i wi => ∃ (j : Nat), j ≤ L.length ∧ i = .int .i64 j ∧ Held w wi L L L a4 c4 a5 c5) (fun i _ => L.length - (intOf i).toNat)
      case atStart => exact ⟨0, Nat.zero_le _, rfl, hH⟩
      case round =>
        clear hlm hH hjc0
        obtain ⟨j, hj, rfl, hH⟩ := hrel
        by_cases hjl : j < L.length
        · obtain ⟨p, hp⟩ : ∃ p, L[j]? = some p := ⟨L[j], List.getElem?_eq_getElem hjl⟩
          obtain ⟨cp0, cp1⟩ := hH.keyAt hp
          obtain ⟨cs0, cs1⟩ := hH.spanAt hp
          have hix4 := fun W => index_own hH.keys Yba.underlying41 size49 j W hjl
          have hix5 := fun W => index_own hH.spans Yba.underlying34 size46 j W hjl
          have hb4 : gof a4 < wr.heap.size := World.block_lt_of_cell? _ _ cp0
          have hb5 : gof a5 < wr.heap.size := World.block_lt_of_cell? _ _ cs0
          have hjc := hH.jc
          have hjb : w.heap.size + 1 < wr.heap.size := World.block_lt_of_cell? _ _ hjc
          have hm : (kv p.1, vv p.2) ∈ encL L := mem_encL (List.mem_of_getElem? hp)
          have hl0 := hH.map.drew.look_hit keyed49 Yba.underlying24 hm true
          have hl1 := fun o => (hH.map.alloc o).drew.look_hit keyed49 Yba.underlying24 hm true
          simp only [kv, vv, if_true] at hl0 hl1
          clear hm hp
          go_wp2_with fail
          go_region
          go_wp2_with fail
          go_region
          go_wp2
          go_roundw
          case rel => exact ⟨j + 1, by omega, by go_num, (hH.alloc _).same ⟨rfl, rfl, rfl, Nat.le_refl _, fun _ _ _ => rfl⟩⟩
          case measure => simp [intOf]; omega
        · go_wp2
          go_ret
          exact ⟨rfl, hH.below⟩

set_option maxRecDepth 100000 in
set_option maxHeartbeats 400000 in
/-- More than 1024 calls: the law says nothing of them. -/
theorem script_long (a0 : Option Addr) (len cap : Nat) (w : World) (hlen : (1024 : Int) < len) :
    Calls Yba.prog 3 #[.slice a0 len cap] w fun e w' => e = .returned (.bool true) ∧ Below w.heap.size w w' := by
  go_enter Yba.func3, Yba.ntmps3
  go_wp2
  go_ret
  exact ⟨rfl, Below.refl _ _⟩

set_option maxRecDepth 100000 in
set_option maxHeartbeats 400000 in
/-- No call at all. -/
theorem script_none (a0 : Option Addr) (cap : Nat) (w : World) :
    Calls Yba.prog 3 #[.slice a0 0 cap] w fun e w' => e = .returned (.bool true) ∧ Below w.heap.size w w' := by
  have hmm := @run_makeMap Yba.prog
  have hlm : ∀ o, (Builtin.len_ #[24] 3 #[.map (some w.heap.size)]).run Yba.prog ((w.alloc (.map #[] 0)).alloc o) = .ok (.int .i64 0) ((w.alloc (.map #[] 0)).alloc o) :=
    fun o => ((mapIs_made w Yba.prog 49).alloc o).len Yba.underlying24 3
  go_enter Yba.func3, Yba.ntmps3
  go_wp2_with fail
  refine wp_loop_rounds 1 ?_
  rw [rounds_succ]
  go_wp2_with fail
  refine wp_loop_rounds 1 ?_
  rw [rounds_succ]
  go_wp2
  go_ret
  exact ⟨rfl, ((Below.refl _ _).alloc (Nat.le_refl _) _).alloc (by simp) _⟩
end Go.Proofs.Ybulkaihc

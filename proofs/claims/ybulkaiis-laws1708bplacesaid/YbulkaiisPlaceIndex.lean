/-
  'LawS1708BPlace' (function 3), an index there: the walk. By the prover of seat 061 (an AI agent).
-/
import Derived.Test.YbulkaiisPlaceWalk
namespace Go.Proofs.Ybulkaiis
open Go Go.MapKept Go.Maps Go.ChangeMaps Go.RowKit

def keyCells (L : List KV) : List Value := L.map fun p => .string p.1
theorem keyCells_snoc (L : List KV) (q : KV) : keyCells (L ++ [q]) = keyCells L ++ [.string q.1] := by simp [keyCells]
theorem puts_length_le (L : List KV) : (puts L).length ≤ L.length := by
  have : ∀ (n : Nat) (L : List KV), L.length = n → (puts L).length ≤ n := by
    intro n
    induction n with
    | zero => intro L hl; rw [List.eq_nil_of_length_eq_zero hl]; simp [puts]
    | succ n ih =>
      intro L hl
      have hne : L ≠ [] := fun e => by rw [e] at hl; simp at hl
      obtain ⟨L', q, rfl⟩ : ∃ L' q, L = L' ++ [q] := ⟨L.dropLast, L.getLast hne, (List.dropLast_concat_getLast hne).symm⟩
      have := ih L' (by simpa using hl)
      rw [puts_snoc]
      by_cases h : q.1 ∈ (puts L').map (·.1)
      · rw [put_length_old _ _ _ h]
        omega
      · rw [put_length_new _ _ _ h]
        omega
  exact this _ L rfl
/-- One key more: seen before, or new. -/
theorem puts_take (L : List KV) (a : Nat) (q : KV) (h : L[a]? = some q) : (q.1 ∈ (L.take a).map (·.1) → (puts (L.take (a + 1))).length = (puts (L.take a)).length) ∧ (q.1 ∉ (L.take a).map (·.1) → (puts (L.take (a + 1))).length = (puts (L.take a)).length + 1) := by
  have e : L.take (a + 1) = L.take a ++ [q] := by rw [List.take_add_one, h]; rfl
  rw [e, puts_snoc]
  exact ⟨fun h => put_length_old _ _ _ ((puts_keys _ _).2 h), fun h => put_length_new _ _ _ (fun h' => h ((puts_keys _ _).1 h'))⟩
theorem key_cell {w : World} {base g n c : Nat} {L : List KV} (h : w.ownsRow base 9 1 (.slice (some ⟨g, 0, none⟩) n c) n (keyCells L)) {i : Nat} {q : KV} (hi : L[i]? = some q) : w.cell? ⟨g, i, none⟩ = some (.string q.1) := by
  have hlt : i < L.length := (List.getElem?_eq_some_iff.1 hi).1
  have hl : n = L.length := by
    have := h.1
    simp [keyCells] at this
    omega
  rw [h.cellAt i (by omega), keyCells, List.getElem?_map, hi]
  rfl

set_option maxRecDepth 100000 in
set_option maxHeartbeats 2000000 in
theorem place_index (had pad : Option Addr) (hb hoff n hc pb poff p pc : Nat) (H K : Nat → ByteArray) (A : Nat → Int) (k : Int) (w : World) (hn : n ≤ 1024) (hp : p ≤ 1024) (hk0 : 0 ≤ k) (hk1 : k ≤ 255) (ha : 0 < n → had = some ⟨hb, hoff, none⟩ ∧ hb < w.heap.size) (hpb : 0 < p → pb < w.heap.size)
    (hix : ∀ (i : Nat) (W : World), i < n → (Instr.indexAt 22 (.slice had n hc) (.int .i64 (i : Int))).run Yba.prog W = .ok (.pointer (some ⟨hb, hoff + i, none⟩)) W)
    (hiy : ∀ (i : Nat) (W : World), i < p → (Instr.indexAt 23 (.slice pad p pc) (.int .i64 (i : Int))).run Yba.prog W = .ok (.pointer (some ⟨pb, poff + i * 2, none⟩)) W)
    (hH : ∀ i, i < n → w.cell? ⟨hb, hoff + i, none⟩ = some (.string (H i)) ∧ (H i).size ≤ maxLen)
    (hK : ∀ i, i < p → w.cell? ⟨pb, poff + i * 2, none⟩ = some (.string (K i)) ∧ w.cell? ⟨pb, poff + i * 2 + 1, none⟩ = some (.int .i64 (A i)) ∧ (K i).size ≤ maxLen) :
    Calls Yba.prog 3 #[.slice had n hc, .slice pad p pc, .int .u8 k, .bool false] w fun e w' => e = .returned (.bool true) ∧ Below w.heap.size w w' := by
  have g1 : ¬ (1024 : Int) < (n : Int) := by omega
  have g2 : ¬ (1024 : Int) < (p : Int) := by omega
  obtain ⟨s, hs⟩ : ∃ s : Nat, k % ((n : Int) + 2) = (s : Int) := ⟨(k % ((n : Int) + 2)).toNat, by have := Int.emod_nonneg k (show ((n : Int) + 2) ≠ 0 by omega); omega⟩
  have qT : ∀ (w : World) (r : Option Nat), (binOp .eql 26 (.map r) (.map none)).run Yba.prog w = .ok (.bool r.isNone) w := fun w r => run_eql_map_nil w _ _ _ r Yba.underlying26
  have hmk := make_strs n n (Nat.le_refl _) (by omega)
  have hmc := make_counts n (by omega)
  have hmm : ∀ W, (Instr.makeMap 26 none).run Yba.prog W = .ok (.map (some W.heap.size)) (W.alloc (.map #[] 0)) := fun W => rfl
  obtain ⟨w1, hcp, hrow, hbel, hsz⟩ := copy_hosts w had hb hoff n hc H ha (fun i hi => (hH i hi).1)
  have hidx0 := Idx.start (c := madeCells #[.int .u64 0] n) (uv := .pointer none) (cv := .slice (some ⟨w.heap.size + 1, 0, none⟩) n n) hbel hsz hrow
  have hsn : (s : Int) ≤ (n : Int) + 1 := by
    have := Int.emod_lt_of_pos k (show (0 : Int) < (n : Int) + 2 by omega)
    omega
  go_enter Yba.func3, Yba.ntmps3
  go_wp2_with (at_builtin; refine wpList_copy_run rfl (.tmp 38) (.tmp 39) 22 22 rfl _ _ rfl rfl (hcp _) ?_)
  go_loopw [61] (fun i wi => ∃ (j : Nat), j ≤ p ∧ i = .int .i64 j ∧ Idx w wi w.heap.size n H (preL K A j)) (fun i _ => p - (intOf i).toNat)
  case atStart => exact ⟨0, Nat.zero_le _, rfl, hidx0⟩
  case round =>
    clear hidx0 hcp hrow hbel hsz hmc hmm
    obtain ⟨j, hj, rfl, hI⟩ := hrel
    by_cases hlt : j < p
    · obtain ⟨q0, q1, q2⟩ := hK j hlt
      have q0 := (hI.below.cell (p := ⟨pb, poff + j * 2, none⟩) (hpb (by omega))).trans q0
      have q1 := (hI.below.cell (p := ⟨pb, poff + j * 2 + 1, none⟩) (hpb (by omega))).trans q1
      have hx := fun W => hiy j W hlt
      have c2 := hI.e2
      have hI2 := (hI.same (World.grownBy_alloc wr (.cells #[.string (K j), .int .i64 (A j)] 31) none)).same (grownBy_dr _ _)
      obtain ⟨w2, a1, a2, a3⟩ := map_put hI2.map q2 (A j)
      have hI3 : Idx w w2 w.heap.size n H (preL K A (j + 1)) := hI2.turn (grownBy_of_turned a3) (by rw [preL_succ, puts_snoc]; exact a2)
      have hltI : (j : Int) < (p : Int) := by omega
      have hb2 : w.heap.size + 2 < wr.heap.size := by have := hI.size; omega
      have hb3 : w.heap.size + 1 + 1 < wr.heap.size := by omega
      have hb4 : pb < wr.heap.size := World.block_lt_of_cell? _ _ q0
      clear hI hI2 a2 a3 hix hiy hH hK hs
      go_wp2
      go_region
      go_wp2
      go_roundw
      case rel => exact ⟨j + 1, by omega, by go_num, hI3⟩
      case measure => simp [intOf]; omega
    · obtain rfl : p = j := by omega
      have hH2 : ∀ i, i < n → wr.cell? ⟨w.heap.size, i, none⟩ = some (.string (H i)) ∧ (H i).size ≤ maxLen := fun i hi => ⟨hI.hosts.cell hi, (hH i hi).2⟩
      have hcall := place_some wr (w.heap.size + 1 + 1) w.heap.size (w.heap.size + 3) n s H (preL K A p) hn hI.e0 hI.e2 hH2 hI.map ⟨by omega, by omega⟩
      obtain ⟨L, hL⟩ : ∃ L, L = preL K A p ++ hostsL H s n := ⟨_, rfl⟩
      rw [← hL] at hcall
      have hLH : Hid (L = preL K A p ++ hostsL H s n) := hL
      have hLl : L.length = p + (n - s) := by rw [hL, List.length_append, preL_length, hostsL_length]
      clear hL hlt hj
      go_wp2_with fail
      refine hcall.mono ?_
      rintro e w2 ⟨rfl, hm2, hg2⟩
      have hI2 : Idx w w2 w.heap.size n H L := hI.turn hg2 hm2
      clear hI hm2 hg2 hcall hH2
      have c0 := hI2.e0
      go_wp2
      go_loopw [14] (fun i wi => ∃ (j : Nat), j ≤ n ∧ i = .int .i64 j ∧ Idx w wi w.heap.size n H L) (fun i _ => n - (intOf i).toNat)
      case atStart => exact ⟨0, Nat.zero_le _, rfl, hI2⟩
      case round =>
        clear hI2 c0
        obtain ⟨j, hj, rfl, hI⟩ := hrel
        have c0 := hI.e0
        have c2 := hI.e2
        by_cases hlt : j < n
        · have q0 := hI.hosts.cell hlt
          have q1 : wr.cell? ⟨hb, hoff + j, none⟩ = some (.string (H j)) := (hI.below.cell (p := ⟨hb, hoff + j, none⟩) (ha (by omega)).2).trans (hH j hlt).1
          have hx1 := fun W => hix j W hlt
          have hx2 := fun W => index_str w.heap.size n n j W hlt
          have hltI : (j : Int) < (n : Int) := by omega
          have hI3 := hI.same (grownBy_dr _ _)
          clear hix hiy hK hH ha hs hI hLl
          go_wp2
          go_region
          go_wp2
          go_roundw
          case rel => exact ⟨j + 1, by omega, by go_num, hI3⟩
          case measure => simp [intOf]; omega
        · obtain rfl : n = j := by omega
          clear hlt hj
          have hmk0 : ∀ W, (Instr.makeSlice 22 (.int .i64 0) (.int .i64 ((p : Int) + (n : Int)))).run Yba.prog W = .ok (.slice (some ⟨W.heap.size, 0, none⟩) 0 (p + n)) (W.alloc (.cells (madeCells #[.string ByteArray.empty] (p + n)) 9)) := by
            intro W
            have := make_strs 0 (p + n) (Nat.zero_le _) (by omega) W
            simpa using this
          have hI3 := hI.same (World.grownBy_alloc wr (.cells (madeCells #[.string ByteArray.empty] (p + n)) 9) none)
          have hown0 : (wr.alloc (.cells (madeCells #[.string ByteArray.empty] (p + n)) 9)).ownsRow (w.heap.size + 4) 9 1 (.slice (some ⟨wr.heap.size, 0, none⟩) 0 (p + n)) 0 [] := World.ownsRow_made wr _ _ hI.size (by unfold maxLen; omega) (by simp [size_madeCells])
          clear hI
          go_wp2
          go_loopw [122, 15] (fun i v wi => ∃ (j : Nat), j ≤ p ∧ i = .int .i64 j ∧ Idx w wi w.heap.size n H L ∧ wi.ownsRow (w.heap.size + 4) 9 1 v j (keyCells (preL K A j))) (fun i _ _ => p - (intOf i).toNat)
          case atStart => exact ⟨0, Nat.zero_le _, rfl, hI3, by simpa [keyCells, preL] using hown0⟩
          case round =>
            clear hI3 hown0 hmk0 c0 c2 hmk
            obtain ⟨j, hj, rfl, hI, hown⟩ := hrel
            by_cases hlt : j < p
            · obtain ⟨q0, q1, q2⟩ := hK j hlt
              have q0 := (hI.below.cell (p := ⟨pb, poff + j * 2, none⟩) (hpb (by omega))).trans q0
              have q1 := (hI.below.cell (p := ⟨pb, poff + j * 2 + 1, none⟩) (hpb (by omega))).trans q1
              have hx := fun W => hiy j W hlt
              have hltI : (j : Int) < (p : Int) := by omega
              have hb4 : pb < wr.heap.size := World.block_lt_of_cell? _ _ q0
              have hI2 := (hI.same (World.grownBy_alloc wr (.cells #[.string (K j), .int .i64 (A j)] 31) none)).same (World.grownBy_alloc _ (.cells #[.string (K j)] 9) none)
              have hown2 := (hown.alloc (.cells #[.string (K j), .int .i64 (A j)] 31)).alloc (.cells #[.string (K j)] 9)
              obtain ⟨v', w3, a1, a2, a3⟩ := append9 hown2 (wr.heap.size + 1) (K j) (by
                have := (MapKept.heap_alloc (wr.alloc (.cells #[.string (K j), .int .i64 (A j)] 31)) (.cells #[.string (K j)] 9)).1
                rw [show (wr.alloc (.cells #[.string (K j), .int .i64 (A j)] 31)).heap.size = wr.heap.size + 1 from by simp] at this
                exact this) (by omega) hI2.size
              have hI3 := hI2.kept a3 (fun r hr => (own_type hown2 hr).1)
              rw [← keyCells_snoc _ (K j, A j), ← preL_succ] at a2
              clear hI hown hI2 hown2 a3 hix hiy hH hK hs hLl
              go_wp2_with (at_builtin; refine wpList_append_run rfl (.tmp 126) (.tmp 129) 22 22 rfl _ _ rfl rfl a1 ?_)
              go_roundw
              case rel => exact ⟨j + 1, by omega, by go_num, hI3, a2⟩
              case measure => simp [intOf]; omega
            · obtain rfl : p = j := by omega
              clear hlt hj
              have hst : hostsL H s s = [] := hostsL_self H s s (Nat.le_refl _)
              go_wp2
              go_loopw [18, 15] (fun i v wi => ∃ (j : Nat), s ≤ j ∧ (j ≤ n ∨ j = s) ∧ i = .int .i64 j ∧ Idx w wi w.heap.size n H L ∧ wi.ownsRow (w.heap.size + 4) 9 1 v (p + (j - s)) (keyCells (preL K A p ++ hostsL H s j))) (fun i _ _ => n - (intOf i).toNat)
              case atStart => exact ⟨s, Nat.le_refl _, Or.inr rfl, rfl, hI, by rw [hst, List.append_nil, Nat.sub_self]; exact hown⟩
              case round =>
                clear hI hown hst
                obtain ⟨j, hsj, hjn, rfl, hI, hown⟩ := hrel
                by_cases hlt : j < n
                · have q0 : wr.cell? ⟨hb, hoff + j, none⟩ = some (.string (H j)) := (hI.below.cell (p := ⟨hb, hoff + j, none⟩) (ha (by omega)).2).trans (hH j hlt).1
                  have hx := fun W => hix j W hlt
                  have hltI : (j : Int) < (n : Int) := by omega
                  have hb4 : hb < wr.heap.size := World.block_lt_of_cell? _ _ q0
                  have hI2 := hI.same (World.grownBy_alloc wr (.cells #[.string (H j)] 9) none)
                  have hown2 := hown.alloc (.cells #[.string (H j)] 9)
                  obtain ⟨v', w3, a1, a2, a3⟩ := append9 hown2 wr.heap.size (H j) (MapKept.heap_alloc wr _).1 (by omega) hI2.size
                  have hI3 := hI2.kept a3 (fun r hr => (own_type hown2 hr).1)
                  rw [← keyCells_snoc _ (H j, (j : Int)), List.append_assoc, ← hostsL_succ H s j hsj, show p + (j - s) + 1 = p + (j + 1 - s) by omega] at a2
                  clear hI hown hI2 hown2 a3 hix hiy hH hK hs hLl
                  go_wp2_with (at_builtin; refine wpList_append_run rfl (.tmp 139) (.tmp 144) 22 22 rfl _ _ rfl rfl a1 ?_)
                  go_roundw
                  case rel => exact ⟨j + 1, by omega, by omega, by go_num, hI3, a2⟩
                  case measure => simp [intOf]; omega
                · have hown2 : wr.ownsRow (w.heap.size + 4) 9 1 u15 L.length (keyCells L) := by
                    have e1 : hostsL H s n = hostsL H s j := by
                      rcases hjn with h | h
                      · rw [show j = n by omega]
                      · rw [h, hostsL_self H s n (by omega), hostsL_self H s s (Nat.le_refl _)]
                    have e2 : p + (n - s) = p + (j - s) := by omega
                    rw [hLl, hLH.out, e1, e2]
                    exact hown
                  obtain ⟨g, vc, va, rfl, hva⟩ : ∃ g vc va, u15 = .slice va L.length vc ∧ (0 < L.length → va = some ⟨g, 0, none⟩) := by
                    rcases hown2.2 with ⟨e1, h0⟩ | ⟨g, cap, cur, e1, _⟩
                    · exact ⟨0, 0, none, by rw [e1, h0], fun h => by omega⟩
                    · exact ⟨g, cap, _, e1, fun _ => rfl⟩
                  obtain ⟨m, hm⟩ : ∃ m, m = L.length := ⟨_, rfl⟩
                  rw [← hm] at hown2 hva hLl ⊢
                  have hmH : Hid (m = L.length) := hm
                  have hm2 : m ≤ 2048 := by omega
                  have hltI : ¬ (j : Int) < (n : Int) := by omega
                  have hHH : Hid (∀ i, i < n → w.cell? ⟨hb, hoff + i, none⟩ = some (.string (H i))) := fun i hi => (hH i hi).1
                  have hKK : Hid (∀ i, i < p → w.cell? ⟨pb, poff + i * 2, none⟩ = some (.string (K i)) ∧ w.cell? ⟨pb, poff + i * 2 + 1, none⟩ = some (.int .i64 (A i))) := fun i hi => ⟨(hK i hi).1, (hK i hi).2.1⟩
                  clear hown hm hLl hs hH hK hlt
                  go_wp2
                  clear hltI hjn hsj
                  go_loopw [20, 19] (fun i d wi => ∃ (a : Nat), a ≤ m ∧ i = .int .i64 a ∧ d = .int .i64 ((puts (L.take a)).length : Nat) ∧ Idx w wi w.heap.size n H L ∧ wi.ownsRow (w.heap.size + 4) 9 1 (.slice va m vc) m (keyCells L)) (fun i _ _ => m - (intOf i).toNat)
                  case atStart => exact ⟨0, Nat.zero_le _, rfl, rfl, hI, hown2⟩
                  case round =>
                    clear hI hown2
                    obtain ⟨a, ha1, rfl, rfl, hI, hown⟩ := hrel
                    by_cases hlt : a < m
                    · obtain ⟨⟨x, xv⟩, hq⟩ : ∃ q, L[a]? = some q := ⟨L[a]'(by have := hmH.out; omega), List.getElem?_eq_getElem _⟩
                      have hva2 : va = some ⟨g, 0, none⟩ := hva (by omega)
                      have hx0 := fun (i : Nat) (W : World) (hi : i < m) => index_str g m vc i W hi
                      rw [← hva2] at hx0
                      have HVA : Hid (va = some ⟨g, 0, none⟩) := hva2
                      obtain ⟨hseen, hnew⟩ := puts_take L a (x, xv) hq
                      have hple := puts_length_le (L.take a)
                      have hple2 : (puts (L.take a)).length ≤ 2048 := by
                        have := List.length_take_le a L
                        omega
                      obtain ⟨D0, hD0⟩ : ∃ D0, D0 = (puts (L.take a)).length := ⟨_, rfl⟩
                      rw [← hD0] at hseen hnew hple2 ⊢
                      have hxa := fun W => hx0 a W hlt
                      have hltI : (a : Int) < (m : Int) := by omega
                      have hD0H : Hid (D0 = (puts (L.take a)).length) := hD0
                      clear hva2 hple hD0 hva
                      go_wp2
                      go_loopw [22, 21] (fun i sn wi => ∃ (b : Nat), b ≤ a ∧ i = .int .i64 b ∧ sn = .bool false ∧ Hid (∀ i q, i < b → L[i]? = some q → q.1 ≠ x) ∧ Idx w wi w.heap.size n H L ∧ wi.ownsRow (w.heap.size + 4) 9 1 (.slice va m vc) m (keyCells L)) (fun i _ _ => a - (intOf i).toNat)
                      case atStart => exact ⟨0, Nat.zero_le _, rfl, rfl, fun i q h => by omega, hI, hown⟩
                      case round =>
                        clear hI hown
                        obtain ⟨b, hb1, rfl, rfl, hno, hI, hown⟩ := hrel
                        have hownS := hown
                        rw [HVA.out] at hownS
                        have qa := key_cell hownS hq
                        simp only at qa
                        have hI2 := hI.same (grownBy_dr _ _)
                        have hown2 : wr.drew.ownsRow (w.heap.size + 4) 9 1 (.slice va m vc) m (keyCells L) := hown
                        by_cases hltb : b < a
                        · obtain ⟨⟨y, yv⟩, hqb⟩ : ∃ q, L[b]? = some q := ⟨L[b]'(by have := hmH.out; omega), List.getElem?_eq_getElem _⟩
                          have qb := key_cell hownS hqb
                          simp only at qb
                          have hxb := fun W => hx0 b W (by omega)
                          have hltbI : (b : Int) < (a : Int) := by omega
                          by_cases he : y = x
                          · subst he
                            have hs1 : (puts (L.take (a + 1))).length = D0 := hseen (List.mem_map.2 ⟨(y, yv), List.mem_of_getElem? (by rw [List.getElem?_take_of_lt hltb]; exact hqb), rfl⟩)
                            have hs1H : Hid ((puts (L.take (a + 1))).length = D0) := hs1
                            clear hI hown hownS hx0 hs1 hseen hnew hix hiy
                            go_wp2
                            go_region
                            go_wp2
                            go_roundw
                            case rel => exact ⟨a + 1, by omega, by go_num, by rw [hs1H.out], hI2, hown2⟩
                            case measure => simp [intOf]; omega
                          · have hne := str_ne he
                            have hno2 : Hid (∀ i q, i < b + 1 → L[i]? = some q → q.1 ≠ x) := fun i q hi hq' => by
                              rcases Nat.lt_or_ge i b with h | h
                              · exact hno.out i q h hq'
                              · obtain rfl : i = b := by omega
                                rw [hqb] at hq'
                                simp only [Option.some.injEq] at hq'
                                rw [← hq']
                                exact he
                            clear hI hown hownS hx0 hseen hnew hix hiy hno he
                            go_wp2
                            go_region
                            go_wp2
                            go_roundw
                            case rel => exact ⟨b + 1, by omega, by go_num, rfl, hno2, hI2, hown2⟩
                            case measure => simp [intOf]; omega
                        · obtain rfl : a = b := by omega
                          have hnot : x ∉ (L.take a).map (·.1) := fun hin => by
                            obtain ⟨q, hq1, hq2⟩ := List.mem_map.1 hin
                            obtain ⟨i, hi1, hi2⟩ := List.getElem_of_mem hq1
                            have hia : i < a := by
                              have := List.length_take_le a L
                              omega
                            refine hno.out i q hia ?_ hq2
                            rw [← List.getElem?_take_of_lt hia, ← hi2]
                            exact List.getElem?_eq_getElem hi1
                          have hs1 := hnew hnot
                          have hs1H : Hid ((puts (L.take (a + 1))).length = D0 + 1) := hs1
                          have hxin : x ∈ L.map (·.1) := List.mem_map.2 ⟨(x, xv), List.mem_of_getElem? hq, rfl⟩
                          have hwant := want_any wr had pad hb hoff n hc pb poff p pc s H K A x hn hp hix hiy (fun i hi => (hI.below.cell (p := ⟨hb, hoff + i, none⟩) (ha (by omega)).2).trans (hHH.out i hi)) (fun i hi => ⟨(hI.below.cell (p := ⟨pb, poff + i * 2, none⟩) (hpb (by omega))).trans (hKK.out i hi).1, (hI.below.cell (p := ⟨pb, poff + i * 2 + 1, none⟩) (hpb (by omega))).trans (hKK.out i hi).2⟩)
                          rw [← hLH.out] at hwant
                          have hlook : ∀ v, Last L x v → (Instr.lookup 26 (.map (some (w.heap.size + 3))) (.string x) true).run Yba.prog wr.drew = .ok (.tuple #[.int .i64 v, .bool true]) wr.drew := fun v hv => hI2.map.look_hit keyed9 Yba.underlying26 (encM_mem (last_mem hv)) true
                          have c2 := hI.e2
                          clear hI hown hownS hx0 hs1 hseen hnew hix hiy hnot hno
                          go_wp2_with fail
                          refine hwant.mono ?_
                          rintro e w3 ⟨v, ok, rfl, rfl, hok⟩
                          obtain ⟨rfl, hlast⟩ := hok hxin
                          have hlk := hlook v hlast
                          clear hwant hok hlook hlast hxin
                          go_wp2
                          go_region
                          go_wp2
                          go_roundw
                          case rel => exact ⟨a + 1, by omega, by go_num, by rw [hs1H.out]; go_num, hI2, hown2⟩
                          case measure => simp [intOf]; omega
                    · obtain rfl : m = a := by omega
                      have hml : ∀ ty, (Builtin.len_ #[26] ty #[.map (some (w.heap.size + 3))]).run Yba.prog wr = .ok (.int .i64 ((puts L).length : Nat)) wr := fun ty => by
                        have := hI.map.len Yba.underlying26 ty
                        rw [this]
                        simp [encM]
                      have htk : L.take m = L := by rw [hmH.out, List.take_length]
                      rw [htk]
                      have c2 := hI.e2
                      have hBel := hI.below
                      clear hI hown htk
                      go_wp2
                      go_ret
                      exact ⟨rfl, hBel⟩
end Go.Proofs.Ybulkaiis

/-
  The walk of 'LawS1705BModel' (function 5) and of newInstance (function 8). By the prover of seat 061 (an AI agent).
-/
import Derived.Test.YbulkaihcModelAddAny
namespace Go.Proofs.Ybulkaihc
open Go Go.MapKept Go.Maps Go.ChangeMaps Go.RowKit
open Vote (ME vf lim Step upd cnt wantTo one)

theorem info66 : (Yba.prog.info? 66).map (fun i => (i.zero, i.size, i.bytes)) = some (some (.int .u16 0), 1, 2) := by kernel_rfl

set_option maxRecDepth 100000 in
set_option maxHeartbeats 400000 in
theorem new_any (n : Nat) (m : Int) (h1 : 1 ≤ n) (hn : n ≤ 10) (w : World) :
    Calls Yba.prog 8 #[.int .i64 (n : Int), .int .i64 0, .int .i64 m] w fun r w' => r = .returned (.agg (instCells n 0 m (w.heap.size + 1) n (w.heap.size + 2) 0 0 0 false false)) ∧
      ∃ cs, w' = ((w.alloc (.cells cs 57)).alloc (.cells (madeCells #[.int .u16 0] n) 66)).alloc (.map #[] 0) := by
  have hmm := @run_makeMap Yba.prog
  have hmk := run_make_row' (P := Yba.prog) 54 66 (.int .u16 0) 2 Yba.underlying54 info66 rfl .i64 .i64 n (by omega) (by omega)
  go_enter Yba.func8, Yba.ntmps8
  go_wp2
  refine bodyPost_ret (v := .agg (instCells n 0 m (w.heap.size + 1) n (w.heap.size + 2) 0 0 0 false false)) ?_ rfl ⟨rfl, _, rfl⟩
  simp [results, Yba.results8, go_sem, instCells]

/-- The law's memory: the instance, the first votes, all else as it was. -/
structure MState (w wi : World) (n : Nat) (m asd : Int) (F : Nat → Int) (M : List ME) (V : Nat → Int) : Prop where
  inst : Inst wi (w.heap.size + 1 + 1 + 1) (w.heap.size + 1) (w.heap.size + 2) n m asd M V
  first : wi.rowIs (w.heap.size + 1 + 1 + 1 + 1) 59 11 (fun i => .int .i64 (F i))
  below : Below w.heap.size w wi

theorem MState.start (w : World) (n : Nat) (m : Int) (cs : Array Value) :
    MState w (((((w.alloc (.cells cs 57)).alloc (.cells (madeCells #[.int .u16 0] n) 66)).alloc (.map #[] 0)).alloc (.cells (instCells n 0 m (w.heap.size + 1) n (w.heap.size + 2) 0 0 0 false false) 57)).alloc
      (.cells #[.int .i64 0, .int .i64 0, .int .i64 0, .int .i64 0, .int .i64 0, .int .i64 0, .int .i64 0, .int .i64 0, .int .i64 0, .int .i64 0, .int .i64 0] 59)) n m 0 (fun _ => 0) [] (fun _ => 0) := by
  have z1 : (w.alloc (.cells cs 57)).heap.size = w.heap.size + 1 := by simp
  have z2 : ((w.alloc (.cells cs 57)).alloc (.cells (madeCells #[.int .u16 0] n) 66)).heap.size = w.heap.size + 2 := by simp
  have z3 : (((w.alloc (.cells cs 57)).alloc (.cells (madeCells #[.int .u16 0] n) 66)).alloc (.map #[] 0)).heap.size = w.heap.size + 1 + 1 + 1 := by simp
  have z4 : ((((w.alloc (.cells cs 57)).alloc (.cells (madeCells #[.int .u16 0] n) 66)).alloc (.map #[] 0)).alloc (.cells (instCells n 0 m (w.heap.size + 1) n (w.heap.size + 2) 0 0 0 false false) 57)).heap.size = w.heap.size + 1 + 1 + 1 + 1 := by simp
  refine ⟨⟨⟨n, 0, 0, 0, false, false, ?_⟩, ?_, ?_⟩, ?_, ?_⟩
  · rw [Below.heap_alloc _ _ _ (by omega), ← z3]
    exact (MapKept.heap_alloc _ _).1
  · have := World.rowIs_made (w.alloc (.cells cs 57)) (.int .u16 0) n 66
    rw [z1] at this
    exact ((this.alloc _).alloc _).alloc _
  · have := mapIs_made ((w.alloc (.cells cs 57)).alloc (.cells (madeCells #[.int .u16 0] n) 66)) Yba.prog 3
    rw [z2] at this
    exact (this.alloc _).alloc _
  · rw [← z4]
    refine World.rowIs_alloc _ _ _ _ (fun i hi => ?_)
    have hi : i < 11 := hi
    match i, hi with
    | 0, _ => rfl
    | 1, _ => rfl
    | 2, _ => rfl
    | 3, _ => rfl
    | 4, _ => rfl
    | 5, _ => rfl
    | 6, _ => rfl
    | 7, _ => rfl
    | 8, _ => rfl
    | 9, _ => rfl
    | 10, _ => rfl
  · exact (((((Below.refl _ _).alloc (Nat.le_refl _) _).alloc (by omega) _).alloc (by omega) _).alloc (by omega) _).alloc (by omega) _

theorem MState.setFirst {w wi : World} {n : Nat} {m asd : Int} {F : Nat → Int} {M : List ME} {V : Nat → Int} (h : MState w wi n m asd F M V) (k : Nat) (v : Int) :
    MState w (wi.setCell ⟨w.heap.size + 1 + 1 + 1 + 1, k, none⟩ (.int .i64 v)) n m asd (upd F k v) M V := by
  refine ⟨h.inst.blocks (Below.heap_setCell _ _ _ _ (by simp)) (Below.heap_setCell _ _ _ _ (by simp <;> omega)) (Below.heap_setCell _ _ _ _ (by simp)), ?_, h.below.setCell (by simp; omega) _⟩
  refine (h.first.set k (.int .i64 v)).congr ?_
  intro i _
  unfold upd
  by_cases e : i = k <;> simp [e]

theorem MState.added {w wi w' : World} {n : Nat} {m asd : Int} {F : Nat → Int} {M M' : List ME} {V V' : Nat → Int} (h : MState w wi n m asd F M V) (hi : Inst w' (w.heap.size + 1 + 1 + 1) (w.heap.size + 1) (w.heap.size + 2) n m asd M' V') (hs : Same3 wi w' (w.heap.size + 1 + 1 + 1) (w.heap.size + 1) (w.heap.size + 2)) :
    MState w w' n m asd F M' V' := by
  refine ⟨hi, h.first.of_block (hs.block _ h.first.lt (by simp) (by omega) (by omega)), h.below.trans ⟨hs.os, hs.tape, hs.output, hs.size, fun k hk => hs.block k ?_ (by omega) (by omega) (by omega)⟩⟩
  have := h.below.size
  omega

theorem MState.setAside {w wi : World} {n : Nat} {m asd : Int} {F : Nat → Int} {M : List ME} {V : Nat → Int} (h : MState w wi n m asd F M V) (v : Int) :
    MState w (wi.setCell ⟨w.heap.size + 1 + 1 + 1, 7, none⟩ (.int .i64 v)) n m v F M V := by
  obtain ⟨q0, q1, tot, bk, vt, eq, hr⟩ := h.inst.row
  refine ⟨⟨⟨q0, q1, tot, bk, vt, eq, blk_set hr⟩, h.inst.voters.setOther (by simp) _, h.inst.votes.setCell _ _⟩, h.first.setOther (by simp) _, h.below.setCell (by simp; omega) _⟩

theorem index_first (b : Nat) (i : Int) (h0 : 0 ≤ i) (h1 : i < 11) (W : World) :
    (Instr.indexAt 59 (.pointer (some ⟨b, 0, none⟩)) (.int .i64 i)).run Yba.prog W = .ok (.pointer (some ⟨b, i.toNat, none⟩)) W := by
  have hadd : (⟨b, 0, none⟩ : Addr).add i.toNat = ⟨b, i.toNat, none⟩ := by
    unfold Addr.add
    split
    · rename_i h; rw [h]
    · simp
  have hs : ∀ w, (sizeOf 3).run Yba.prog w = .ok 1 w := fun w => by kernel_rfl
  simp [Instr.indexAt, asIntOf, run_underlying Yba.underlying59, Instr.sureAddr, hs, h0, h1, hadd, Result.andThen]

theorem upd_first (k : Nat) : upd (fun j => if j < k then (-1 : Int) else 0) k (-1) = fun j => if j < k + 1 then (-1 : Int) else 0 := by
  funext j
  unfold upd
  by_cases e : j = k
  · rw [if_pos e, if_pos (by omega)]
  · rw [if_neg e]
    by_cases e2 : j < k
    · simp only [if_pos e2, if_pos (show j < k + 1 by omega)]
    · simp only [if_neg e2, if_neg (show ¬ j < k + 1 by omega)]

theorem good_first (n k : Nat) (h : n ≤ k) : Vote.Good n (fun j => if j < k then (-1 : Int) else 0) [] (fun _ => 0) := by
  refine ⟨fun i hi => ?_, by simp, by simp, fun _ _ _ => rfl, fun i hi e => ?_, fun i hi e => ?_, by simp⟩
  · simp only [if_pos (show i < k by omega)]; omega
  · simp only [if_pos (show i < k by omega)] at e; omega
  · simp only [if_pos (show i < k by omega)] at e; omega

theorem want_eqx {F : Nat → Int} {n : Nat} {m asd x : Int} {j : Nat} {wt : Bool} (h : wantTo F n m asd x j = wt) (hx : (((j : Int) + 1) == x) = true) : wantTo F n m asd x (j + 1) = wt := by
  have : one F n m asd x ((j : Int) + 1) = false := by
    unfold one
    simp at hx
    simp [hx]
  show (wantTo F n m asd x j || one F n m asd x ((j : Int) + 1)) = wt
  rw [h, this]
  simp

theorem want_zero {F : Nat → Int} {n : Nat} {m asd x : Int} {j : Nat} {wt : Bool} (h : wantTo F n m asd x j = wt) (hc : cnt F n ((j : Int) + 1) = 0) : wantTo F n m asd x (j + 1) = wt := by
  have : one F n m asd x ((j : Int) + 1) = false := by
    unfold one
    simp [hc]
  show (wantTo F n m asd x j || one F n m asd x ((j : Int) + 1)) = wt
  rw [h, this]
  simp

theorem want_next {F : Nat → Int} {n : Nat} {m asd x : Int} {j : Nat} {wt : Bool} {c c' : Int} (_h : wantTo F n m asd x j = wt) (hx : (((j : Int) + 1) == x) = false) (hc : cnt F n ((j : Int) + 1) = c) (hc0 : (c == 0) = false)
    (hc' : c' = if asd ≠ 0 ∧ F (asd.toNat - 1) = (j : Int) + 1 then cnt F n ((j : Int) + 1) - 1 else cnt F n ((j : Int) + 1)) (hl : lim m asd < c') : wantTo F n m asd x (j + 1) = true := by
  have : one F n m asd x ((j : Int) + 1) = true := by
    unfold one
    rw [decide_eq_true_eq, ← hc']
    exact ⟨by simpa using hx, by rw [hc]; simpa using hc0, hl⟩
  show (wantTo F n m asd x j || one F n m asd x ((j : Int) + 1)) = true
  rw [this]
  simp

theorem want_low {F : Nat → Int} {n : Nat} {m asd x : Int} {j : Nat} {wt : Bool} {c c' : Int} (h : wantTo F n m asd x j = wt) (_hc : cnt F n ((j : Int) + 1) = c)
    (hc' : c' = if asd ≠ 0 ∧ F (asd.toNat - 1) = (j : Int) + 1 then cnt F n ((j : Int) + 1) - 1 else cnt F n ((j : Int) + 1)) (hl : ¬ lim m asd < c') : wantTo F n m asd x (j + 1) = wt := by
  have : one F n m asd x ((j : Int) + 1) = false := by
    unfold one
    rw [decide_eq_false_iff_not, ← hc']
    exact fun h => hl h.2.2
  show (wantTo F n m asd x j || one F n m asd x ((j : Int) + 1)) = wt
  rw [h, this]
  simp

theorem besides_agree {n : Nat} {F : Nat → Int} {M : List ME} {V : Nat → Int} (h : Vote.Good n F M V) (m asd x : Int) (ha0 : 0 ≤ asd) (han : asd ≤ n) : besidesB M V m asd x = wantTo F n m asd x 3 := by
  rw [Bool.eq_iff_iff, ← Vote.agree h m asd x ha0 han]
  simp [besidesB, validB]

theorem small_of {n : Nat} {F : Nat → Int} {M : List ME} {V : Nat → Int} (h : Vote.Good n F M V) (hn : n ≤ 10) (hM : M.length ≤ 1500) : Small M := by
  intro e he
  obtain ⟨a1, a2, a3, a4⟩ := h.entry e he
  have := h.place_nonneg he
  have := Vote.cnt_bd F n e.1
  exact ⟨by omega, by omega, by omega, by omega⟩

set_option maxRecDepth 100000 in
set_option maxHeartbeats 1000000 in
theorem model_walk (a0 a1 a2 a3 : Int) (h0 : 0 ≤ a0 ∧ a0 ≤ 255) (h1 : 0 ≤ a1 ∧ a1 ≤ 255) (h2 : 0 ≤ a2 ∧ a2 ≤ 255) (h3 : 0 ≤ a3 ∧ a3 ≤ 255) (ad : Option Addr) (b off len cap : Nat) (Fr Vl : Nat → Int) (w : World) (hlen : len ≤ 1024) (hb : 0 < len → b < w.heap.size)
    (hidx : ∀ (i : Nat) (W : World), i < len → (Instr.indexAt 53 (.slice ad len cap) (.int .i64 (i : Int))).run Yba.prog W = .ok (.pointer (some ⟨b, off + i * 2, none⟩)) W)
    (hF : ∀ i, i < len → 0 ≤ Fr i ∧ Fr i ≤ 255) (hV : ∀ i, i < len → 0 ≤ Vl i ∧ Vl i ≤ 255)
    (hc0 : ∀ i, i < len → w.cell? ⟨b, off + i * 2, none⟩ = some (.int .u8 (Fr i)))
    (hc1 : ∀ i, i < len → w.cell? ⟨b, off + i * 2 + 1, none⟩ = some (.int .u8 (Vl i))) :
    Calls Yba.prog 5 #[.int .u8 a0, .int .u8 a1, .int .u8 a2, .int .u8 a3, .slice ad len cap] w fun e w' => e = .returned (.bool true) ∧ Below w.heap.size w w' := by
  have hl : ¬ (1024 : Int) < (len : Int) := by omega
  obtain ⟨n, hn⟩ : ∃ n : Nat, 1 + a0 % 10 = (n : Int) := ⟨(1 + a0 % 10).toNat, by omega⟩
  obtain ⟨m, hm⟩ : ∃ m : Int, a1 % 4 = m := ⟨_, rfl⟩
  obtain ⟨x, hx⟩ : ∃ x : Int, a3 % 5 = x := ⟨_, rfl⟩
  obtain ⟨asd, ha⟩ : ∃ asd : Int, a2 % ((n : Int) + 1) = asd := ⟨_, rfl⟩
  have hn1 : 1 ≤ n := by omega
  have hn10 : n ≤ 10 := by omega
  have hm0 : 0 ≤ m := by omega
  have hm3 : m ≤ 3 := by omega
  have ha0 : 0 ≤ asd := by rw [← ha]; exact Int.emod_nonneg _ (by omega)
  have han : asd ≤ n := by have := Int.emod_lt_of_pos a2 (show (0 : Int) < (n : Int) + 1 by omega); omega
  obtain ⟨h00, h01⟩ := h0
  obtain ⟨h10, h11⟩ := h1
  obtain ⟨h20, h21⟩ := h2
  obtain ⟨h30, h31⟩ := h3
  go_enter Yba.func5, Yba.ntmps5
  go_wp2_with fail
  refine (new_any n m hn1 hn10 _).mono ?_
  rintro e w1 ⟨rfl, cs, rfl⟩
  have hS := MState.start w n m cs
  unfold instCells
  go_wp2_with fail
  go_loopw [17] (fun i wi => ∃ (k : Nat), k ≤ 11 ∧ i = .int .i64 k ∧ MState w wi n m 0 (fun j => if j < k then -1 else 0) [] (fun _ => 0)) (fun i _ => 11 - (intOf i).toNat)
  case atStart => exact ⟨0, by omega, rfl, by simpa [instCells] using hS⟩
  case round =>
    clear hS
    obtain ⟨k, hk, rfl, hS⟩ := hrel
    by_cases hlt : k < 11
    · have hcf := hS.first.cell hlt
      have hff := hS.first.frozen k
      have hix := fun W => index_first (w.heap.size + 1 + 1 + 1 + 1) (k : Int) (by omega) (by omega) W
      have hS' := hS.setFirst k (-1)
      have HF : Hid (upd (fun j => if j < k then (-1 : Int) else 0) k (-1) = fun j => if j < k + 1 then (-1 : Int) else 0) := upd_first k
      go_wp2
      go_roundw
      case rel => exact ⟨k + 1, by omega, by go_num, by rw [← HF.out]; exact hS'⟩
      case measure => simp [intOf]; omega
    · have hG := good_first n k (by omega)
      generalize (fun j => if j < k then (-1 : Int) else 0) = F0 at *
      go_wp2_with fail
      go_loopw [18] (fun i wi => ∃ (k : Nat) (F : Nat → Int) (M : List ME) (V : Nat → Int), k ≤ len ∧ i = .int .i64 k ∧ Vote.Good n F M V ∧ M.length ≤ k ∧ MState w wi n m 0 F M V) (fun i _ => len - (intOf i).toNat)
      case atStart => exact ⟨0, F0, [], fun _ => 0, Nat.zero_le _, rfl, hG, Nat.le_refl _, hS⟩
      case round =>
        clear hS hG hk hlt
        obtain ⟨k, F, M, V, hk, rfl, hG, hML, hS⟩ := hrel
        by_cases hlt : k < len
        · have q0 := (hS.below.cell (p := ⟨b, off + k * 2, none⟩) (hb (by omega))).trans (hc0 k hlt)
          have q1 := (hS.below.cell (p := ⟨b, off + k * 2 + 1, none⟩) (hb (by omega))).trans (hc1 k hlt)
          have hix2 := fun W => hidx k W hlt
          obtain ⟨g1, g2⟩ := hF k hlt
          obtain ⟨g3, g4⟩ := hV k hlt
          clear hc0 hc1 hF hV
          generalize Fr k = fr at *
          generalize Vl k = vl at *
          obtain ⟨f, hf⟩ : ∃ f : Int, fr % (n : Int) = f := ⟨_, rfl⟩
          obtain ⟨v, hv⟩ : ∃ v : Int, vl % 4 = v := ⟨_, rfl⟩
          have hf0 : 0 ≤ f := by rw [← hf]; exact Int.emod_nonneg _ (by omega)
          have hfn : f < n := by rw [← hf]; exact Int.emod_lt_of_pos fr (by omega)
          have hv0 : 0 ≤ v := by omega
          have hv3 : v ≤ 3 := by omega
          have hsm : Small M := small_of hG hn10 (by omega)
          go_wp2_with fail
          refine (add_any hS.inst hsm (by omega) (f + 1) v (by omega) (by omega) hn10 hm0 hm3 hv0 hv3).mono ?_
          rintro r w1 ⟨⟨rb, rfl⟩, M', V', hst, hI, hsame⟩
          have hS1 := hS.added hI hsame
          have hfi : f.toNat < 11 := by omega
          rw [show (f + 1).toNat - 1 = f.toNat from by omega] at hst
          have hG1 := hG.step (by omega) hv0 hv3 hst
          have hML1 := hst.length
          have hcf := hS1.first.cell hfi
          have hff := hS1.first.frozen f.toNat
          have hix := fun W => index_first (w.heap.size + 1 + 1 + 1 + 1) f (by omega) (by omega) W
          clear hS hG hst hI hsame q0 q1 hsm hix2
          by_cases hneg : F f.toNat < 0
          · rw [if_pos hneg] at hG1
            have hS2 := hS1.setFirst f.toNat v
            go_wp2
            go_roundw
            case rel => exact ⟨k + 1, _, M', V', by omega, by go_num, hG1, by omega, hS2⟩
            case measure => simp [intOf]; omega
          · rw [if_neg hneg] at hG1
            go_wp2
            go_roundw
            case rel => exact ⟨k + 1, _, M', V', by omega, by go_num, hG1, by omega, hS1⟩
            case measure => simp [intOf]; omega
        · clear hc0 hc1 hF hV
          have hsm : Small M := small_of hG hn10 (by omega)
          have hS1 := hS.setAside asd
          have hcw : ∀ i, i < 11 → wr.cell? ⟨w.heap.size + 1 + 1 + 1 + 1, i, none⟩ = some (.int .i64 (F i)) := fun i hi => hS.first.cell hi
          obtain ⟨q0, q1, tot, bk, vt, eq, hrow⟩ := hS.inst.row
          have c7 : wr.cell? ⟨w.heap.size + 1 + 1 + 1, 7, none⟩ = some (.int .i64 0) := by simp [World.cell?, hrow, instCells]
          have f7 : wr.frozen? ⟨w.heap.size + 1 + 1 + 1, 7, none⟩ = false := by simp [World.frozen?, hrow]
          clear hS hrow q0 q1 tot bk vt eq
          have hlb := lim_bd m asd hm0 hm3
          have hx0 : 0 ≤ x := by omega
          have hx4 : x ≤ 4 := by omega
          have HA : Hid (a2 % ((n : Int) + 1) = asd) := ha
          have HX : Hid (a3 % 5 = x) := hx
          have HM : Hid (a1 % 4 = m) := hm
          have HN : Hid (1 + a0 % 10 = (n : Int)) := hn
          clear ha hx hm hn
          by_cases hz : asd = 0
          · have hlim : lim m asd = m := by unfold lim; rw [if_neg (by simpa using hz)]
            have hzb : (asd != 0) = false := by simpa using hz
            have HZ : Hid (asd = 0) := hz
            clear hz
            go_wp2_with fail
            go_loop [23, 22] (fun y t => ∃ (j : Nat), j ≤ 3 ∧ y = .int .i64 ((j : Int) + 1) ∧ t = .bool (wantTo F n m asd x j)) (fun y _ => 4 - (intOf y).toNat)
            case atStart => exact ⟨0, by omega, rfl, rfl⟩
            case round =>
              obtain ⟨j, hj, rfl, rfl⟩ := hrel
              generalize hwt : wantTo F n m asd x j = wt at *
              have HW : Hid (wantTo F n m asd x j = wt) := hwt
              clear hwt
              by_cases hj3 : j < 3
              · have hj3' : ((j : Int) + 1) ≤ 3 := by omega
                cases hyx : (((j : Int) + 1) == x)
                · go_wp2_with fail
                  go_loop [25, 24] (fun i t => ∃ (q : Nat), q ≤ n ∧ i = .int .i64 q ∧ t = .int .i64 (cnt F q ((j : Int) + 1))) (fun i _ => n - (intOf i).toNat)
                  case atStart => exact ⟨0, Nat.zero_le _, rfl, rfl⟩
                  case round =>
                    obtain ⟨q, hq, rfl, rfl⟩ := hrel
                    have hcb' := Vote.cnt_bd F q ((j : Int) + 1)
                    obtain ⟨hcb0, hcb1⟩ := hcb'
                    by_cases hqn : q < n
                    · have hix := fun W => index_first (w.heap.size + 1 + 1 + 1 + 1) (q : Int) (by omega) (by omega) W
                      have hca := hS1.first.cell (show q < 11 by omega)
                      have hcb := hcw q (by omega)
                      have HN1 : Hid (cnt F (q + 1) ((j : Int) + 1) = cnt F q ((j : Int) + 1) + if F q = (j : Int) + 1 then 1 else 0) := rfl
                      generalize hcq : cnt F q ((j : Int) + 1) = cq at *
                      clear hcq
                      cases hfq : (F q == ((j : Int) + 1))
                      · have HN2 : Hid (cnt F (q + 1) ((j : Int) + 1) = cq) := by
                          rw [HN1.out, if_neg (by simpa using hfq)]; show cq + 0 = cq; omega
                        go_wp2
                        go_round
                        case rel => exact ⟨q + 1, by omega, by go_num, by rw [HN2.out]⟩
                        case measure => simp [intOf]; omega
                      · have HN2 : Hid (cnt F (q + 1) ((j : Int) + 1) = cq + 1) := by
                          rw [HN1.out, if_pos (by simpa using hfq)]; rfl
                        go_wp2
                        go_round
                        case rel => exact ⟨q + 1, by omega, by go_num, by rw [HN2.out]⟩
                        case measure => simp [intOf]; omega
                    · have hqe : q = n := by omega
                      have HCN : Hid (cnt F n ((j : Int) + 1) = cnt F q ((j : Int) + 1)) := by rw [hqe]; rfl
                      generalize cnt F q ((j : Int) + 1) = c at *
                      clear hqe
                      cases hc0 : (c == 0)
                      rotate_left
                      · have HO : Hid (wantTo F n m asd x (j + 1) = wt) := want_zero HW.out (HCN.out.trans (by simpa using hc0))
                        go_wp2
                        go_round
                        case rel => exact ⟨j + 1, by omega, by go_num, by rw [HO.out]⟩
                        case measure => simp [intOf]; omega
                      have HC : Hid (c = if asd ≠ 0 ∧ F (asd.toNat - 1) = (j : Int) + 1 then cnt F n ((j : Int) + 1) - 1 else cnt F n ((j : Int) + 1)) := by
                        rw [if_neg (by simp [HZ.out])]; exact HCN.out.symm
                      by_cases hgt : m < c
                      · have HO : Hid (wantTo F n m asd x (j + 1) = true) := want_next HW.out hyx HCN.out hc0 HC.out (by rw [hlim]; exact hgt)
                        go_wp2
                        go_round
                        case rel => exact ⟨j + 1, by omega, by go_num, by rw [HO.out]⟩
                        case measure => simp [intOf]; omega
                      · have HO : Hid (wantTo F n m asd x (j + 1) = wt) := want_low HW.out HCN.out HC.out (by rw [hlim]; exact hgt)
                        go_wp2
                        go_round
                        case rel => exact ⟨j + 1, by omega, by go_num, by rw [HO.out]⟩
                        case measure => simp [intOf]; omega
                · have HO : Hid (wantTo F n m asd x (j + 1) = wt) := want_eqx HW.out hyx
                  go_wp2
                  go_round
                  case rel => exact ⟨j + 1, by omega, by go_num, by rw [HO.out]⟩
                  case measure => simp [intOf]; omega
              · have hj4 : ¬ ((j : Int) + 1) ≤ 3 := by omega
                have hje : j = 3 := by omega
                have HB : Hid (besidesB M V m asd x = wt) := by
                  rw [← HW.out, hje]
                  exact besides_agree hG m asd x ha0 han
                clear hje
                go_wp2_with fail
                refine (besides_any hS1.inst hn10 hm0 hm3 ha0 han hsm x).mono ?_
                rintro r w2 ⟨rfl, hg2⟩
                rw [HB.out]
                go_wp2
                go_ret
                exact ⟨by simp, hS1.below.grown hg2 (by have := hS1.below.size; omega) (by simp)⟩
          · have hlim : m - 1 = lim m asd := by unfold lim; rw [if_pos hz]
            have hzb : (asd != 0) = true := by simpa using hz
            go_wp2_with fail
            go_loop [23, 22] (fun y t => ∃ (j : Nat), j ≤ 3 ∧ y = .int .i64 ((j : Int) + 1) ∧ t = .bool (wantTo F n m asd x j)) (fun y _ => 4 - (intOf y).toNat)
            case atStart => exact ⟨0, by omega, rfl, rfl⟩
            case round =>
              obtain ⟨j, hj, rfl, rfl⟩ := hrel
              generalize hwt : wantTo F n m asd x j = wt at *
              have HW : Hid (wantTo F n m asd x j = wt) := hwt
              clear hwt
              by_cases hj3 : j < 3
              · have hj3' : ((j : Int) + 1) ≤ 3 := by omega
                cases hyx : (((j : Int) + 1) == x)
                · go_wp2_with fail
                  go_loop [25, 24] (fun i t => ∃ (q : Nat), q ≤ n ∧ i = .int .i64 q ∧ t = .int .i64 (cnt F q ((j : Int) + 1))) (fun i _ => n - (intOf i).toNat)
                  case atStart => exact ⟨0, Nat.zero_le _, rfl, rfl⟩
                  case round =>
                    obtain ⟨q, hq, rfl, rfl⟩ := hrel
                    have hcb' := Vote.cnt_bd F q ((j : Int) + 1)
                    obtain ⟨hcb0, hcb1⟩ := hcb'
                    by_cases hqn : q < n
                    · have hix := fun W => index_first (w.heap.size + 1 + 1 + 1 + 1) (q : Int) (by omega) (by omega) W
                      have hca := hS1.first.cell (show q < 11 by omega)
                      have hcb := hcw q (by omega)
                      have HN1 : Hid (cnt F (q + 1) ((j : Int) + 1) = cnt F q ((j : Int) + 1) + if F q = (j : Int) + 1 then 1 else 0) := rfl
                      generalize hcq : cnt F q ((j : Int) + 1) = cq at *
                      clear hcq
                      cases hfq : (F q == ((j : Int) + 1))
                      · have HN2 : Hid (cnt F (q + 1) ((j : Int) + 1) = cq) := by
                          rw [HN1.out, if_neg (by simpa using hfq)]; show cq + 0 = cq; omega
                        go_wp2
                        go_round
                        case rel => exact ⟨q + 1, by omega, by go_num, by rw [HN2.out]⟩
                        case measure => simp [intOf]; omega
                      · have HN2 : Hid (cnt F (q + 1) ((j : Int) + 1) = cq + 1) := by
                          rw [HN1.out, if_pos (by simpa using hfq)]; rfl
                        go_wp2
                        go_round
                        case rel => exact ⟨q + 1, by omega, by go_num, by rw [HN2.out]⟩
                        case measure => simp [intOf]; omega
                    · have hqe : q = n := by omega
                      have HCN : Hid (cnt F n ((j : Int) + 1) = cnt F q ((j : Int) + 1)) := by rw [hqe]; rfl
                      generalize cnt F q ((j : Int) + 1) = c at *
                      clear hqe
                      cases hc0 : (c == 0)
                      rotate_left
                      · have HO : Hid (wantTo F n m asd x (j + 1) = wt) := want_zero HW.out (HCN.out.trans (by simpa using hc0))
                        go_wp2
                        go_round
                        case rel => exact ⟨j + 1, by omega, by go_num, by rw [HO.out]⟩
                        case measure => simp [intOf]; omega
                      have hixa := fun W => index_first (w.heap.size + 1 + 1 + 1 + 1) (asd - 1) (by omega) (by omega) W
                      have hca := hS1.first.cell (show asd.toNat - 1 < 11 by omega)
                      have hcb := hcw (asd.toNat - 1) (by omega)
                      cases hfa : (F (asd.toNat - 1) == ((j : Int) + 1))
                      · have hfa' : ¬ F (asd.toNat - 1) = (j : Int) + 1 := by simpa using hfa
                        have HC : Hid (c = if asd ≠ 0 ∧ F (asd.toNat - 1) = (j : Int) + 1 then cnt F n ((j : Int) + 1) - 1 else cnt F n ((j : Int) + 1)) := by
                          rw [if_neg (fun h => hfa' h.2)]; exact HCN.out.symm
                        clear hfa'
                        by_cases hgt : lim m asd < c
                        · have HO : Hid (wantTo F n m asd x (j + 1) = true) := want_next HW.out hyx HCN.out hc0 HC.out hgt
                          go_wp2
                          go_round
                          case rel => exact ⟨j + 1, by omega, by go_num, by rw [HO.out]⟩
                          case measure => simp [intOf]; omega
                        · have HO : Hid (wantTo F n m asd x (j + 1) = wt) := want_low HW.out HCN.out HC.out hgt
                          go_wp2
                          go_round
                          case rel => exact ⟨j + 1, by omega, by go_num, by rw [HO.out]⟩
                          case measure => simp [intOf]; omega
                      · have hfa' : F (asd.toNat - 1) = (j : Int) + 1 := by simpa using hfa
                        have HC : Hid (c - 1 = if asd ≠ 0 ∧ F (asd.toNat - 1) = (j : Int) + 1 then cnt F n ((j : Int) + 1) - 1 else cnt F n ((j : Int) + 1)) := by
                          show c - 1 = _
                          rw [if_pos ⟨hz, hfa'⟩, HCN.out]
                        clear hfa'
                        by_cases hgt : lim m asd < c - 1
                        · have HO : Hid (wantTo F n m asd x (j + 1) = true) := want_next HW.out hyx HCN.out hc0 HC.out hgt
                          go_wp2
                          go_round
                          case rel => exact ⟨j + 1, by omega, by go_num, by rw [HO.out]⟩
                          case measure => simp [intOf]; omega
                        · have HO : Hid (wantTo F n m asd x (j + 1) = wt) := want_low HW.out HCN.out HC.out hgt
                          go_wp2
                          go_round
                          case rel => exact ⟨j + 1, by omega, by go_num, by rw [HO.out]⟩
                          case measure => simp [intOf]; omega
                · have HO : Hid (wantTo F n m asd x (j + 1) = wt) := want_eqx HW.out hyx
                  go_wp2
                  go_round
                  case rel => exact ⟨j + 1, by omega, by go_num, by rw [HO.out]⟩
                  case measure => simp [intOf]; omega
              · have hj4 : ¬ ((j : Int) + 1) ≤ 3 := by omega
                have hje : j = 3 := by omega
                have HB : Hid (besidesB M V m asd x = wt) := by
                  rw [← HW.out, hje]
                  exact besides_agree hG m asd x ha0 han
                clear hje
                go_wp2_with fail
                refine (besides_any hS1.inst hn10 hm0 hm3 ha0 han hsm x).mono ?_
                rintro r w2 ⟨rfl, hg2⟩
                rw [HB.out]
                go_wp2
                go_ret
                exact ⟨by simp, hS1.below.grown hg2 (by have := hS1.below.size; omega) (by simp)⟩

set_option maxRecDepth 100000 in
set_option maxHeartbeats 400000 in
/-- More than 1024 votes: the law says nothing of them. -/
theorem model_long (v0 v1 v2 v3 : Value) (ad : Option Addr) (len cap : Nat) (w : World) (hlen : (1024 : Int) < len) :
    Calls Yba.prog 5 #[v0, v1, v2, v3, .slice ad len cap] w fun e w' => e = .returned (.bool true) ∧ Below w.heap.size w w' := by
  go_enter Yba.func5, Yba.ntmps5
  go_wp2
  go_ret
  exact ⟨rfl, Below.refl _ _⟩
end Go.Proofs.Ybulkaihc

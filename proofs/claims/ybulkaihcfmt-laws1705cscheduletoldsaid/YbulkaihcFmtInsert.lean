/-
  slices.Insert at []int (function 15) and slices.BinarySearch (function 14), on a row that the call itself owns: out of the library's contracts. By the prover of seat 061 (an AI agent).
-/
import Derived.Test.YbulkaihcFmtShelf
import Derived.Test.YbulkaihcFmtMap
import Derived.Test.YbulkaihcFmtRows
import Derived.WalkKit
import Derived.WalkSpells
import Derived.ProofKit
import Derived.WalkSmall
namespace Go.Proofs.YbulkaihcFmt
open Go Go.MapKept Go.Maps Go.ChangeMaps Go.RowKit

theorem grownBy_refl (w : World) (row : Option Nat) : w.grownBy w row := ⟨rfl, rfl, rfl, Nat.le_refl _, fun _ _ _ => rfl⟩
theorem grownBy_trans {a b c : World} {row : Option Nat} (h1 : a.grownBy b row) (h2 : b.grownBy c row) : a.grownBy c row :=
  ⟨h2.os.trans h1.os, h2.tape.trans h1.tape, h2.output.trans h1.output, Nat.le_trans h1.size h2.size, fun k hk hne => (h2.block k (Nat.lt_of_lt_of_le hk h1.size) hne).trans (h1.block k hk hne)⟩
theorem grownBy_none {a b : World} (h1 : a.grownBy b none) (row : Option Nat) : a.grownBy b row :=
  ⟨h1.os, h1.tape, h1.output, h1.size, fun k hk _ => h1.block k hk (by simp)⟩
theorem grownBy_dr (w : World) (row : Option Nat) : w.grownBy w.drew row := ⟨rfl, rfl, rfl, Nat.le_refl _, fun _ _ _ => rfl⟩
theorem grownBy_setCell (w : World) (a : Addr) (v : Value) : w.grownBy (w.setCell a v) (some a.block) :=
  ⟨rfl, rfl, rfl, by simp [World.setCell], fun k _ hk => Below.heap_setCell w a v k (fun e => hk (by rw [e]))⟩
/-- What is written is a block of one's own, made since. -/
theorem grownBy_own {a b c : World} {r : Nat} {row : Option Nat} (h1 : a.grownBy b row) (h2 : b.grownBy c (some r)) (hr : a.heap.size ≤ r) : a.grownBy c row :=
  ⟨h2.os.trans h1.os, h2.tape.trans h1.tape, h2.output.trans h1.output, Nat.le_trans h1.size h2.size, fun k hk hne => (h2.block k (Nat.lt_of_lt_of_le hk h1.size) (by simp; omega)).trans (h1.block k hk hne)⟩

theorem grownBy_setCells (b : Nat) : ∀ (vs : List Value) (o : Nat) (w : World), w.grownBy (w.setCells b o vs) (some b)
  | [], _, w => grownBy_refl w _
  | v :: r, o, w => grownBy_trans (grownBy_setCell w ⟨b, o, none⟩ v) (grownBy_setCells b r (o + 1) _)

theorem setCells_blk (b : Nat) {e : TypeId} : ∀ (vs : List Value) (o : Nat) (w : World) (c : Array Value), w.heap[b]? = some (.cells c e (0, 0)) →
    ∃ c', (w.setCells b o vs).heap[b]? = some (.cells c' e (0, 0)) ∧ c'.size = c.size ∧ (∀ j v, vs[j]? = some v → o + j < c.size → c'[o + j]? = some v) ∧ (∀ j, (j < o ∨ o + vs.length ≤ j) → c'[j]? = c[j]?)
  | [], o, w, c, h => ⟨c, h, rfl, by simp, fun _ _ => rfl⟩
  | v :: r, o, w, c, h => by
    have h1 : (w.setCell ⟨b, o, none⟩ v).heap[b]? = some (.cells (c.setIfInBounds o v) e (0, 0)) := by simp [World.setCell, Array.getElem?_modify, h]
    obtain ⟨c', h2, h3, h4, h5⟩ := setCells_blk b r (o + 1) _ _ h1
    refine ⟨c', h2, by simpa using h3, fun j u hu hj => ?_, fun j hj => ?_⟩
    · cases j with
      | zero =>
        simp at hu
        subst hu
        rw [h5 (o + 0) (by omega), Array.getElem?_setIfInBounds]
        simp at hj ⊢
        exact hj
      | succ j =>
        have := h4 j u (by simpa using hu) (by simp; omega)
        rw [show o + (j + 1) = o + 1 + j by omega]
        exact this
    · simp at hj
      rw [h5 j (by omega), Array.getElem?_setIfInBounds, if_neg (by omega)]

/-- A row of one-cell elements, off its block. -/
theorem own_row1 {w : World} {base g e cap : Nat} {cur : Array Value} {xs : List Value} (hb : w.heap[g]? = some (.cells cur e (0, 0))) (hg : base ≤ g) (hsz : cur.size = cap) (hm : cap ≤ maxLen) (hn : xs.length ≤ cap) (hc : ∀ (j : Nat) (v : Value), xs[j]? = some v → cur[j]? = some v) :
    w.ownsRow base e 1 (.slice (some ⟨g, 0, none⟩) xs.length cap) xs.length xs := by
  refine ⟨by simp, Or.inr ⟨g, cap, cur, rfl, hg, hb, hn, hm, by simp [hsz], ?_⟩⟩
  apply List.ext_getElem?
  intro j
  rw [Nat.mul_one, List.getElem?_take]
  by_cases hj : j < xs.length
  · rw [if_pos hj]
    obtain ⟨v, hv⟩ : ∃ v, xs[j]? = some v := ⟨xs[j], List.getElem?_eq_getElem hj⟩
    rw [hv]
    have := hc j v hv
    simpa using this
  · rw [if_neg hj, List.getElem?_eq_none (by omega)]

def insAt (ts : List Int) (i : Nat) (t : Int) : List Int := ts.take i ++ t :: ts.drop i
theorem insAt_length (ts : List Int) (i : Nat) (t : Int) (h : i ≤ ts.length) : (insAt ts i t).length = ts.length + 1 := by
  simp [insAt]; omega

theorem insAt_get (ts : List Int) (i : Nat) (t : Int) (h : i ≤ ts.length) (j : Nat) : (insAt ts i t)[j]? = if j < i then ts[j]? else if j = i then some t else ts[j - 1]? := by
  unfold insAt
  by_cases h1 : j < i
  · rw [if_pos h1, List.getElem?_append_left (by simp; omega), List.getElem?_take, if_pos h1]
  · rw [if_neg h1]
    have hl : (ts.take i).length = i := by simp; omega
    rw [List.getElem?_append_right (by omega), hl]
    by_cases h2 : j = i
    · subst h2; simp
    · rw [if_neg h2]
      obtain ⟨d, hd⟩ : ∃ d, j - i = d + 1 := ⟨j - i - 1, by omega⟩
      rw [hd, List.getElem?_cons_succ, List.getElem?_drop]
      congr 1; omega

theorem ints_one (ts : List Int) : ∀ v ∈ ts.map (Value.int .i64), v.oneCell' = true := by
  intro v hv
  obtain ⟨z, _, rfl⟩ := List.mem_map.1 hv
  rfl

theorem info3 : (Ybaf.prog.info? 3).map (fun i => (i.zero, i.size, i.bytes)) = some (some (.int .i64 0), 1, 8) := by kernel_rfl

/-- slices.Insert(ts, i, t) on the call's own row of ints. -/
theorem insert_own {w : World} {base : Nat} {tv : Value} {ts : List Int} (hown : w.ownsRow base 3 1 tv ts.length (ts.map (Value.int .i64))) (i : Nat) (hi : i ≤ ts.length) (t : Int) (vb : Nat) (hvc : w.heap[vb]? = some (.cells #[.int .i64 t] 3 (0, 0))) (hvb : ∀ g, tv.ownBlock = some g → vb ≠ g)
    (hlen : ts.length ≤ 1000000) (hbase : base ≤ w.heap.size) :
    Calls Ybaf.prog 15 #[tv, .int .i64 (i : Int), .slice (some ⟨vb, 0, none⟩) 1 1] w fun e w' => ∃ tv', e = .returned tv' ∧ w'.ownsRow base 3 1 tv' (insAt ts i t).length ((insAt ts i t).map (Value.int .i64)) ∧ w.grownBy w' tv.ownBlock ∧ (tv'.ownBlock = tv.ownBlock ∨ tv'.ownBlock = some w.heap.size) := by
  have hvs : ∀ j v, [Value.int .i64 t][j]? = some v → w.cell? ⟨vb, 0 + j, none⟩ = some v := by
    intro j v hv
    have hj : j < 1 := (List.getElem?_eq_some_iff.1 hv).1
    obtain rfl : j = 0 := by omega
    simp at hv
    subst hv
    simp [World.cell?, hvc]
  have hv1 : ∀ v ∈ [Value.int .i64 t], v.oneCell' = true := by intro v hv; simp at hv; subst hv; rfl
  have hll : (insAt ts i t).length = ts.length + 1 := insAt_length ts i t hi
  have hGe : ∀ c, ts.length + 1 ≤ grownCap w (ts.length + 1) c 3 := fun c => grownCap_ge w _ c 3
  have hGm : ∀ c, grownCap w (ts.length + 1) c 3 ≤ maxLen := fun c => grownCap_le_maxLen w _ c 3 (by unfold maxLen; omega)
  have hzs : ∀ k, (Builtin.zeroCells (Value.int .i64 0).cells k).size = k := fun k => by rw [size_zeroCells]; simp [Value.cells]
  have hmapg : ∀ j v, ((insAt ts i t).map (Value.int .i64))[j]? = some v → (j < i ∧ (ts.map (Value.int .i64))[j]? = some v) ∨ (j = i ∧ v = .int .i64 t) ∨ (i < j ∧ (ts.map (Value.int .i64))[j - 1]? = some v) := by
    intro j v hv
    rw [List.getElem?_map, insAt_get ts i t hi] at hv
    by_cases h1 : j < i
    · rw [if_pos h1] at hv
      exact Or.inl ⟨h1, by rw [List.getElem?_map]; exact hv⟩
    · rw [if_neg h1] at hv
      by_cases h2 : j = i
      · rw [if_pos h2] at hv
        simp at hv
        exact Or.inr (Or.inl ⟨h2, hv.symm⟩)
      · rw [if_neg h2] at hv
        exact Or.inr (Or.inr ⟨by omega, by rw [List.getElem?_map]; exact hv⟩)
  have hfin : ∀ (w' : World) (g cap : Nat) (cur : Array Value), w'.heap[g]? = some (.cells cur 3 (0, 0)) → base ≤ g → cur.size = cap → cap ≤ maxLen → ts.length + 1 ≤ cap →
      (∀ (j : Nat) (v : Value), ((insAt ts i t).map (Value.int .i64))[j]? = some v → cur[j]? = some v) →
      w'.ownsRow base 3 1 (.slice (some ⟨g, 0, none⟩) (ts.length + 1) cap) (insAt ts i t).length ((insAt ts i t).map (Value.int .i64)) := by
    intro w' g cap cur h1 h2 h3 h4 h5 h6
    have := own_row1 (xs := (insAt ts i t).map (Value.int .i64)) h1 h2 h3 h4 (by simp [hll]; omega) h6
    simpa [hll] using this
  rcases hown.2 with ⟨rfl, h0⟩ | ⟨g, cap, cur, rfl, hbg, hg, hnc, hcm, hcs, htake⟩
  · have hts : ts = [] := List.eq_nil_of_length_eq_zero h0
    subst hts
    obtain rfl : i = 0 := by simpa using hi
    refine (Any2.slices_Insert_int_end_grow Ybaf.laysNm221 none 0 0 vb 0 1 1 [] [.int .i64 t] w (by omega) (by omega) (by omega) (by omega) rfl rfl (fun _ => rfl) (by intro a h; cases h) hvs hv1).mono ?_
    rintro e w' ⟨rfl, rfl⟩
    refine ⟨_, rfl, hfin _ _ _ _ (MapKept.heap_alloc w.drew _).1 hbase ?_ (hGm 0) (hGe 0) ?_, ⟨rfl, rfl, rfl, by simp, fun k hk _ => Below.heap_alloc w.drew _ k hk⟩, Or.inr rfl⟩
    · have := hGe 0
      simp only [Array.size_append, List.size_toArray, List.length_append, List.length_cons, List.length_nil, hzs]
      have this : 1 ≤ grownCap w (0 + 1) 0 3 := this
      show 0 + (0 + 1) + (grownCap w (0 + 1) 0 3 - (0 + 1)) = grownCap w (0 + 1) 0 3
      omega
    · intro j v hv
      rcases hmapg j v hv with ⟨h, _⟩ | ⟨rfl, rfl⟩ | ⟨_, h⟩
      · omega
      · rw [Array.getElem?_append_left (by simp)]
        rfl
      · simp at h
  · have hcell : ∀ (j : Nat) (v : Value), (ts.map (Value.int .i64))[j]? = some v → cur[j]? = some v := by
      intro j v hv
      have hj : j < ts.length := by simpa using (List.getElem?_eq_some_iff.1 hv).1
      rw [← htake, List.getElem?_take, if_pos (by omega)] at hv
      simpa using hv
    have hcells : ∀ j v, (ts.map (Value.int .i64))[j]? = some v → w.cell? ⟨g, 0 + j, none⟩ = some v := by
      intro j v hv
      simp [World.cell?, hg, hcell j v hv]
    have hsz : cur.size = cap := by omega
    have hfz : ∀ j, w.frozen? ⟨g, j, none⟩ = false := fun j => by simp [World.frozen?, hg]
    have hne : vb ≠ g := hvb g rfl
    have hthere : ∀ j, j < cap → (w.cell? ⟨g, j, none⟩).isSome = true := by
      intro j hj
      have : j < cur.size := by omega
      simp [World.cell?, hg, this]
    have hgl : g < w.heap.size := (Array.getElem?_eq_some_iff.1 hg).1
    by_cases hin : i = ts.length
    · subst hin
      by_cases hroom : ts.length + 1 ≤ cap
      · refine (Any2.slices_Insert_int_end_room Ybaf.laysNm221 g 0 ts.length cap vb 0 1 1 [.int .i64 t] w (by omega) hroom (by unfold maxLen at hcm; omega) rfl (fun j hj => hthere _ (by omega)) (fun j _ => hfz _) hvs hv1).mono ?_
        rintro e w' ⟨rfl, rfl⟩
        obtain ⟨c', b1, b2, b3, b4⟩ := setCells_blk g [.int .i64 t] (0 + ts.length) w cur hg
        refine ⟨_, rfl, hfin _ g cap c' b1 hbg (by omega) hcm hroom ?_, grownBy_setCells g _ _ w, Or.inl rfl⟩
        intro j v hv
        rcases hmapg j v hv with ⟨h1, h2⟩ | ⟨rfl, rfl⟩ | ⟨h1, h2⟩
        · rw [b4 j (by omega)]; exact hcell j v h2
        · have := b3 0 (.int .i64 t) rfl (by omega)
          simpa using this
        · have : j - 1 < ts.length := by simpa using (List.getElem?_eq_some_iff.1 h2).1
          omega
      · refine (Any2.slices_Insert_int_end_grow Ybaf.laysNm221 (some ⟨g, 0, none⟩) ts.length cap vb 0 1 1 (ts.map (Value.int .i64)) [.int .i64 t] w (by omega) hnc (by omega) (by omega) (by simp) rfl (by simp) ?_ hvs hv1).mono ?_
        · intro a ha j v hv
          cases ha
          have : (⟨g, 0, none⟩ : Addr).add j = ⟨g, 0 + j, none⟩ := Go.WideShapes.add_plain _ _ _
          rw [this]
          exact hcells j v hv
        rintro e w' ⟨rfl, rfl⟩
        refine ⟨_, rfl, hfin _ _ _ _ (MapKept.heap_alloc w.drew _).1 hbase ?_ (hGm cap) (hGe cap) ?_, ⟨rfl, rfl, rfl, by simp, fun k hk _ => Below.heap_alloc w.drew _ k hk⟩, Or.inr rfl⟩
        · have := hGe cap
          simp only [Array.size_append, List.size_toArray, List.length_append, List.length_cons, List.length_nil, List.length_map, hzs]
          show ts.length + (0 + 1) + (grownCap w (ts.length + 1) cap 3 - (ts.length + 1)) = grownCap w (ts.length + 1) cap 3
          omega
        · intro j v hv
          have hjl : j < ts.length + 1 := by
            have := (List.getElem?_eq_some_iff.1 hv).1
            simp [hll] at this
            omega
          rw [Array.getElem?_append_left (by simp; omega)]
          rcases hmapg j v hv with ⟨h1, h2⟩ | ⟨rfl, rfl⟩ | ⟨h1, h2⟩
          · simp only [List.getElem?_toArray]
            rw [List.getElem?_append_left (by simpa using h1)]
            exact h2
          · simp
          · omega
    · have hlt : i < ts.length := by omega
      have hdrop : ∀ (j : Nat) (v : Value), (ts.map (Value.int .i64))[j]? = some v → i ≤ j → ((ts.map (Value.int .i64)).drop i)[j - i]? = some v := by
        intro j v hv hij
        rw [List.getElem?_drop, show i + (j - i) = j by omega]
        exact hv
      by_cases hroom : ts.length + 1 ≤ cap
      · refine (Any2.slices_Insert_int_shift Ybaf.laysNm221 g 0 ts.length cap i vb 0 1 1 (ts.map (Value.int .i64)) [.int .i64 t] w hlt (by omega) hroom (by unfold maxLen at hcm; omega) hne (by simp) rfl hcells (fun j hj => by simpa using hthere j (by omega)) (fun j _ => by simpa using hfz j) hvs (ints_one ts) hv1
          3 3 1 cap (by simp [World.shape?, hvc]) (by simp [World.shape?, hg, hsz]) (by omega) (by simp [World.frozen?, hvc]) (by simp [World.frozen?, hvc])).mono ?_
        rintro e w' ⟨rfl, rfl⟩
        obtain ⟨c1, b1, b2, b3, b4⟩ := setCells_blk g ((ts.map (Value.int .i64)).drop i) (0 + (i + 1)) w.drew cur hg
        obtain ⟨c2, d1, d2, d3, d4⟩ := setCells_blk g [.int .i64 t] (0 + i) _ c1 b1
        refine ⟨_, rfl, hfin _ g cap c2 d1 hbg (by omega) hcm hroom ?_, grownBy_trans (grownBy_trans (grownBy_dr w _) (grownBy_setCells g _ _ w.drew)) (grownBy_setCells g _ _ _), Or.inl rfl⟩
        intro j v hv
        rcases hmapg j v hv with ⟨h1, h2⟩ | ⟨rfl, rfl⟩ | ⟨h1, h2⟩
        · rw [d4 j (by omega), b4 j (by omega)]; exact hcell j v h2
        · have := d3 0 (.int .i64 t) rfl (by omega)
          simpa using this
        · have hj1 : j - 1 < ts.length := by simpa using (List.getElem?_eq_some_iff.1 h2).1
          rw [d4 j (by simp; omega)]
          have := b3 (j - 1 - i) v (hdrop (j - 1) v h2 (by omega)) (by omega)
          rw [show 0 + (i + 1) + (j - 1 - i) = j by omega] at this
          exact this
      · refine (Any2.slices_Insert_int_grow Ybaf.laysNm221 g 0 ts.length cap i vb 0 1 1 (ts.map (Value.int .i64)) [.int .i64 t] w hlt (by omega) hnc (by omega) (by omega) (by simp) rfl hcells hvs (ints_one ts) hv1).mono ?_
        rintro e w' ⟨rfl, rfl⟩
        have hge := hGe cap
        obtain ⟨c0, hc0⟩ : ∃ c0, c0 = ((ts.map (Value.int .i64)).take i).toArray ++ Builtin.zeroCells (Value.int .i64 0).cells (ts.length + 1 - i) ++ Builtin.zeroCells (Value.int .i64 0).cells (grownCap w (ts.length + 1) cap 3 - (ts.length + 1)) := ⟨_, rfl⟩
        have hs0 : c0.size = grownCap w (ts.length + 1) cap 3 := by
          rw [hc0]
          simp only [Array.size_append, List.size_toArray, List.length_take, List.length_map, hzs]
          omega
        have h0 : (w.alloc (.cells c0 3)).drew.heap[w.heap.size]? = some (.cells c0 3 (0, 0)) := (MapKept.heap_alloc w _).1
        obtain ⟨c1, b1, b2, b3, b4⟩ := setCells_blk w.heap.size [.int .i64 t] i _ c0 h0
        obtain ⟨c2, d1, d2, d3, d4⟩ := setCells_blk w.heap.size ((ts.map (Value.int .i64)).drop i) (i + 1) (((w.alloc (.cells c0 3)).drew.setCells w.heap.size i [.int .i64 t]).drew) c1 b1
        rw [hc0] at d1
        refine ⟨_, rfl, hfin _ _ _ c2 d1 hbase (by rw [d2, b2, hs0]; rfl) (hGm cap) hge ?_, ?_, Or.inr rfl⟩
        · intro j v hv
          have hjl : j < ts.length + 1 := by
            have := (List.getElem?_eq_some_iff.1 hv).1
            simp [hll] at this
            omega
          rcases hmapg j v hv with ⟨h1, h2⟩ | ⟨rfl, rfl⟩ | ⟨h1, h2⟩
          · rw [d4 j (by omega), b4 j (by omega), hc0, Array.getElem?_append_left (by simp; omega), Array.getElem?_append_left (by simp; omega)]
            simp only [List.getElem?_toArray]
            rw [List.getElem?_take, if_pos h1]
            exact h2
          · rw [d4 j (by omega)]
            have := b3 0 (.int .i64 t) rfl (by omega)
            simpa using this
          · have hj1 : j - 1 < ts.length := by simpa using (List.getElem?_eq_some_iff.1 h2).1
            have := d3 (j - 1 - i) v (hdrop (j - 1) v h2 (by omega)) (by omega)
            rw [show i + 1 + (j - 1 - i) = j by omega] at this
            exact this
        · refine grownBy_own (r := w.heap.size) (grownBy_own (r := w.heap.size) (World.grownBy_alloc w _ _) (grownBy_trans (grownBy_dr _ _) (grownBy_setCells _ _ _ _)) (Nat.le_refl _)) (grownBy_trans (grownBy_dr _ _) (grownBy_setCells _ _ _ _)) (Nat.le_refl _)
end Go.Proofs.YbulkaihcFmt

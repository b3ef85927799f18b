/-
  What is in flight: the cluster's block, the row of times, the map of rows of deliveries: the laws, without a walk. By the prover of seat 061 (an AI agent).
-/
import Derived.Test.YbulkaihcFmtInsert
import Derived.Deep.RegionHeld3
import Derived.Deep.AppendLies
import Derived.Deep.DrawnRows
namespace Go.Proofs.YbulkaihcFmt
open Go Go.MapKept Go.Maps Go.ChangeMaps Go.RowKit

abbrev Del := Int × ByteArray
def dArr (d : Del) : Array Value := #[.int .i64 (-1), .int .i64 d.1, .pointer none, .string d.2, .int .i64 0]
def delCells (ds : List Del) : List Value := ds.flatMap fun d => (dArr d).toList

/-- A time's entry: the time, the slice that the map holds, the deliveries. -/
abbrev Ent := Int × Value × List Del
def encG (G : List Ent) : List (Value × Value) := G.map fun g => (.int .i64 g.1, g.2.1)

def clCells (nv tv av dv : Value) (st : Int) : Array Value :=
  #[nv, tv, av, .nilIface, dv, .pointer none, .nilIface, .slice none 0 0, .map none, .map none, .bool false, .int .i64 0, .int .i64 st, .int .i64 0, .bool false]

theorem keyed3 : Keyed Ybaf.prog 3 := int_keyed Ybaf.underlying3

/-- slices.BinarySearch on the call's own row of ints. -/
theorem search_own {w : World} {base : Nat} {tv : Value} {ts : List Int} (hown : w.ownsRow base 3 1 tv ts.length (ts.map (Value.int .i64))) (t : Int) (hlen : ts.length ≤ 1000000) (hs : ts.Pairwise (· < ·)) :
    Calls Ybaf.prog 14 #[tv, .int .i64 t] w fun e w' => (∃ b, e = .returned (.tuple #[.int .i64 ((ts.countP (· < t) : Nat) : Int), .bool b])) ∧ ∃ q, w' = w.drewN q := by
  by_cases h0 : ts.length = 0
  · have hts : ts = [] := List.eq_nil_of_length_eq_zero h0
    subst hts
    obtain ⟨a, c, rfl⟩ : ∃ a c, tv = .slice a 0 c := by
      rcases hown.2 with ⟨rfl, _⟩ | ⟨g, cap, cur, rfl, _⟩
      · exact ⟨none, 0, rfl⟩
      · exact ⟨_, _, rfl⟩
    refine (Any.slices_BinarySearch_int_empty Ybaf.laysNm225 a c t w).mono ?_
    rintro e w' ⟨rfl, rfl⟩
    exact ⟨⟨false, rfl⟩, 0, rfl⟩
  · rcases hown.2 with ⟨rfl, h⟩ | ⟨g, cap, cur, rfl, hbg, hg, hnc, hcm, hcs, htake⟩
    · exact absurd h h0
    · refine (Any.slices_BinarySearch_int Ybaf.laysNm225 g 0 ts.length cap ts t w (Nat.le_refl _) (by omega) ?_ ?_).mono ?_
      · intro j hj
        have hv : (ts.map (Value.int .i64))[j]? = some (.int .i64 (ts.getD j 0)) := by simp [hj]
        rw [← htake, List.getElem?_take, if_pos (by omega)] at hv
        simp [World.cell?, hg]
        simpa using hv
      · rw [List.take_length]
        exact hs.imp (fun h => Int.le_of_lt h)
      · rintro e w' ⟨rfl, q, rfl⟩
        rw [List.take_length]
        exact ⟨⟨_, rfl⟩, q, rfl⟩

/-- But for the cluster's own block, rows of ints and of deliveries and maps made since, the world is as it was. -/
structure Kept (w w' : World) (B cb : Nat) : Prop where
  os : w'.os = w.os
  tape : w'.tape = w.tape
  output : w'.output = w.output
  size : w.heap.size ≤ w'.heap.size
  block : ∀ k, k < w.heap.size → k ≠ cb → (k < B ∨ ∃ c e, w.heap[k]? = some (.cells c e (0, 0)) ∧ e ≠ 3 ∧ e ≠ 49) → w'.heap[k]? = w.heap[k]?

theorem Kept.refl (w : World) (B cb : Nat) : Kept w w B cb := ⟨rfl, rfl, rfl, Nat.le_refl _, fun _ _ _ _ => rfl⟩
theorem Kept.trans {a b c : World} {B cb : Nat} (h : Kept a b B cb) (k : Kept b c B cb) : Kept a c B cb := by
  refine ⟨k.os.trans h.os, k.tape.trans h.tape, k.output.trans h.output, Nat.le_trans h.size k.size, fun i hi hne hc => ?_⟩
  have h1 := h.block i hi hne hc
  refine (k.block i (Nat.lt_of_lt_of_le hi h.size) hne ?_).trans h1
  rcases hc with hc | ⟨c', e, he, hr⟩
  · exact Or.inl hc
  · exact Or.inr ⟨c', e, h1.trans he, hr⟩
theorem Kept.of_grown {w w' : World} {B cb : Nat} {row : Option Nat} (hg : w.grownBy w' row) (h : ∀ r, row = some r → r = cb ∨ (B ≤ r ∧ ∀ c e, w.heap[r]? = some (.cells c e (0, 0)) → e = 3 ∨ e = 49)) : Kept w w' B cb := by
  refine ⟨hg.os, hg.tape, hg.output, hg.size, fun k hk hne hc => hg.block k hk fun e => ?_⟩
  rcases h k e.symm with h1 | ⟨h1, h2⟩
  · exact hne h1
  · rcases hc with hc | ⟨c, e', he, n3, n49⟩
    · omega
    · rcases h2 c e' he with q | q
      · exact n3 q
      · exact n49 q
theorem Kept.alloc (w : World) (o : Obj) (B cb : Nat) : Kept w (w.alloc o) B cb := Kept.of_grown (World.grownBy_alloc w o none) (by simp)
theorem Kept.drewN (w : World) (n : Nat) (B cb : Nat) : Kept w (w.drewN n) B cb := ⟨rfl, rfl, rfl, Nat.le_refl _, fun _ _ _ _ => rfl⟩
theorem Kept.drew (w : World) (B cb : Nat) : Kept w w.drew B cb := ⟨rfl, rfl, rfl, Nat.le_refl _, fun _ _ _ _ => rfl⟩

/-- What is in flight. -/
structure Fly (w : World) (B cb : Nat) (nv dv : Value) (st : Int) (tv : Value) (ts : List Int) (av : Option Nat) (G : List Ent) : Prop where
  row : w.heap[cb]? = some (.cells (clCells nv tv (.map av) dv st) 43 (0, 0))
  times : w.ownsRow B 3 1 tv ts.length (ts.map (Value.int .i64))
  hmap : ∀ mb, av = some mb → B ≤ mb ∧ MapIs Ybaf.prog 3 w mb (encG G)
  hnone : av = none → G = []
  vals : ∀ g ∈ G, w.ownsRow B 49 5 g.2.1 g.2.2.length (delCells g.2.2) ∧ g.2.2 ≠ []
  apart : G.Pairwise (fun a b => a.2.1.ownBlock ≠ b.2.1.ownBlock)
  lt : cb < B ∧ B ≤ w.heap.size

section
variable {w w' : World} {B cb : Nat} {nv dv : Value} {st : Int} {tv : Value} {ts : List Int} {av : Option Nat} {G : List Ent}

/-- An owned row's block is of that row's type. -/
theorem own_type {W : World} {base e z n : Nat} {v : Value} {xs : List Value} (h : W.ownsRow base e z v n xs) {g : Nat} (hg : v.ownBlock = some g) : base ≤ g ∧ ∃ cur, W.heap[g]? = some (.cells cur e (0, 0)) := by
  rcases h.2 with ⟨rfl, _⟩ | ⟨g', cap, cur, rfl, hb, hh, _⟩
  · simp [Value.ownBlock] at hg
  · simp [Value.ownBlock] at hg
    subst hg
    exact ⟨hb, cur, hh⟩

theorem rows_apart {W : World} {B B' e e' z z' n m : Nat} {v u : Value} {xs ys : List Value} (h : W.ownsRow B e z v n xs) (h' : W.ownsRow B' e' z' u m ys) (hne : e ≠ e') : u.ownBlock = none ∨ u.ownBlock ≠ v.ownBlock := by
  cases hu : u.ownBlock with
  | none => exact Or.inl rfl
  | some g =>
    refine Or.inr fun hv => ?_
    obtain ⟨_, c, h1⟩ := own_type h' hu
    obtain ⟨_, c', h2⟩ := own_type h hv.symm
    rw [h1] at h2
    simp at h2
    exact hne h2.2.symm

theorem own_some {W : World} {base e z n : Nat} {v : Value} {xs : List Value} (h : W.ownsRow base e z v n xs) (hn : 0 < n) : ∃ g cap, v = .slice (some ⟨g, 0, none⟩) n cap := by
  rcases h.2 with ⟨_, h0⟩ | ⟨g, cap, cur, rfl, _⟩
  · omega
  · exact ⟨g, cap, rfl⟩

theorem map_ne {W : World} {base e z n mb : Nat} {v : Value} {xs : List Value} {l : List (Value × Value)} (h : W.ownsRow base e z v n xs) (hm : MapIs Ybaf.prog 3 W mb l) : v.ownBlock ≠ some mb := by
  intro e1
  obtain ⟨_, c, h1⟩ := own_type h e1
  obtain ⟨es, clock, h2, _⟩ := hm
  rw [h2] at h1
  cases h1

/-- Nothing of it is touched. -/
theorem Fly.same (h : Fly w B cb nv dv st tv ts av G) (hg : w.grownBy w' none) : Fly w' B cb nv dv st tv ts av G := by
  have hcb : cb < w.heap.size := (Array.getElem?_eq_some_iff.1 h.row).1
  refine ⟨(hg.block cb hcb (by simp)).trans h.row, h.times.kept hg ?_, fun mb e => ⟨(h.hmap mb e).1, (h.hmap mb e).2.kept hg (by simp)⟩, h.hnone, fun g hg' => ⟨(h.vals g hg').1.kept hg ?_, (h.vals g hg').2⟩, h.apart, h.lt.1, Nat.le_trans h.lt.2 hg.size⟩
  · cases tv.ownBlock <;> simp
  · cases g.2.1.ownBlock <;> simp
theorem Fly.alloc (h : Fly w B cb nv dv st tv ts av G) (o : Obj) : Fly (w.alloc o) B cb nv dv st tv ts av G := h.same (World.grownBy_alloc _ _ _)
theorem Fly.drewN (h : Fly w B cb nv dv st tv ts av G) (n : Nat) : Fly (w.drewN n) B cb nv dv st tv ts av G := h.same ⟨rfl, rfl, rfl, Nat.le_refl _, fun _ _ _ => rfl⟩
theorem Fly.drew (h : Fly w B cb nv dv st tv ts av G) : Fly w.drew B cb nv dv st tv ts av G := h.same ⟨rfl, rfl, rfl, Nat.le_refl _, fun _ _ _ => rfl⟩

/-- A cell of the cluster is written. -/
theorem set_cb {W : World} {base e z n k : Nat} {v u : Value} {xs : List Value} (h : W.ownsRow base e z v n xs) (hk : k < base) (i : Nat) : (W.setCell ⟨k, i, none⟩ u).ownsRow base e z v n xs :=
  h.kept (grownBy_setCell W ⟨k, i, none⟩ u) (Or.inr fun e1 => by
    have := (h.lt k e1).1
    omega)

/-- The times anew. -/
theorem Fly.setTimes (h : Fly w B cb nv dv st tv ts av G) {tv' : Value} {ts' : List Int} (hown : w'.ownsRow B 3 1 tv' ts'.length (ts'.map (Value.int .i64))) (hg : w.grownBy w' tv.ownBlock) :
    Fly (w'.setCell ⟨cb, 1, none⟩ tv') B cb nv dv st tv' ts' av G ∧ Kept w (w'.setCell ⟨cb, 1, none⟩ tv') B cb := by
  have hcb : cb < w.heap.size := (Array.getElem?_eq_some_iff.1 h.row).1
  have hne : some cb ≠ tv.ownBlock := fun e => by
    have := (h.times.lt cb e.symm).1
    have := h.lt.1
    omega
  have hr : w'.heap[cb]? = some (.cells (clCells nv tv (.map av) dv st) 43 (0, 0)) := (hg.block cb hcb hne).trans h.row
  refine ⟨⟨?_, set_cb hown h.lt.1 1, fun mb e => ⟨(h.hmap mb e).1, ((h.hmap mb e).2.kept hg (fun q => map_ne h.times (h.hmap mb e).2 q.symm)).setCell _ _⟩, h.hnone, fun g hg' => ⟨set_cb ((h.vals g hg').1.kept hg (rows_apart h.times (h.vals g hg').1 (by decide))) h.lt.1 1, (h.vals g hg').2⟩, h.apart, h.lt.1, Nat.le_trans h.lt.2 (Nat.le_trans hg.size (grownBy_setCell w' ⟨cb, 1, none⟩ tv').size)⟩, ?_⟩
  · simp [World.setCell, Array.getElem?_modify, hr, clCells]
  · refine (Kept.of_grown hg ?_).trans (Kept.of_grown (grownBy_setCell w' ⟨cb, 1, none⟩ tv') (fun r hr => Or.inl (by cases hr; rfl)))
    intro r hr'
    obtain ⟨h1, c, h2⟩ := own_type h.times hr'
    exact Or.inr ⟨h1, fun c' e he => by rw [h2] at he; simp at he; exact Or.inl he.2.symm⟩

/-- The map made. -/
theorem Fly.setMap (h : Fly w B cb nv dv st tv ts none G) : Fly ((w.alloc (.map #[] 0)).setCell ⟨cb, 2, none⟩ (.map (some w.heap.size))) B cb nv dv st tv ts (some w.heap.size) G := by
  have hcb : cb < w.heap.size := (Array.getElem?_eq_some_iff.1 h.row).1
  have hG := h.hnone rfl
  subst hG
  have h1 := h.alloc (.map #[] 0)
  refine ⟨?_, set_cb h1.times h.lt.1 2, fun mb e => ?_, by simp, by simp, by simp, h.lt.1, Nat.le_trans h1.lt.2 (grownBy_setCell _ _ _).size⟩
  · simp [World.setCell, Array.getElem?_modify, h1.row, clCells]
  · cases e
    exact ⟨h.lt.2, (mapIs_made w Ybaf.prog 3).setCell _ _⟩

/-- One more on its way. -/
theorem Fly.stir (h : Fly w B cb nv dv st tv ts av G) (st' : Int) : Fly (w.setCell ⟨cb, 12, none⟩ (.int .i64 st')) B cb nv dv st' tv ts av G ∧ Kept w (w.setCell ⟨cb, 12, none⟩ (.int .i64 st')) B cb := by
  refine ⟨⟨?_, set_cb h.times h.lt.1 12, fun mb e => ⟨(h.hmap mb e).1, (h.hmap mb e).2.setCell _ _⟩, h.hnone, fun g hg' => ⟨set_cb (h.vals g hg').1 h.lt.1 12, (h.vals g hg').2⟩, h.apart, h.lt.1, Nat.le_trans h.lt.2 (grownBy_setCell _ _ _).size⟩, Kept.of_grown (grownBy_setCell w ⟨cb, 12, none⟩ _) (fun r hr => Or.inl (by cases hr; rfl))⟩
  simp [World.setCell, Array.getElem?_modify, h.row, clCells]

theorem encG_append (G1 G2 : List Ent) : encG (G1 ++ G2) = encG G1 ++ encG G2 := by simp [encG]
theorem delCells_snoc (ds : List Del) (d : Del) : delCells (ds ++ [d]) = delCells ds ++ (dArr d).toList := by simp [delCells]

/-- The first delivery of a time. -/
theorem Fly.pushNew {mb : Nat} (h : Fly w B cb nv dv st tv ts (some mb) G) {w2 w3 : World} {t : Int} {d : Del} {v' : Value} (hown : w2.ownsRow B 49 5 v' 1 (dArr d).toList) (hg : w.grownBy w2 none) (hnew : v'.ownBlock = some w.heap.size)
    (hm3 : MapIs Ybaf.prog 3 w3 mb (encG G ++ [(.int .i64 t, v')])) (ht : w2.mapTurned w3 mb) : Fly w3 B cb nv dv st tv ts (some mb) (G ++ [(t, v', [d])]) ∧ Kept w w3 B cb := by
  have h2 := h.same hg
  have hg3 := grownBy_of_turned ht
  have hm2 := (h2.hmap mb rfl).2
  have hcb : cb < w2.heap.size := (Array.getElem?_eq_some_iff.1 h2.row).1
  have hmb := (h2.hmap mb rfl).1
  have hcm : cb ≠ mb := by have := h.lt.1; omega
  refine ⟨⟨(hg3.block cb hcb (by simpa using hcm)).trans h2.row, h2.times.kept hg3 (Or.inr (map_ne h2.times hm2)), fun m e => ?_, by simp, ?_, ?_, h.lt.1, Nat.le_trans h2.lt.2 hg3.size⟩, ?_⟩
  · cases e
    exact ⟨hmb, by rw [encG_append]; exact hm3⟩
  · intro g hg'
    rcases List.mem_append.1 hg' with hg' | hg'
    · exact ⟨(h2.vals g hg').1.kept hg3 (Or.inr (map_ne (h2.vals g hg').1 hm2)), (h2.vals g hg').2⟩
    · rw [List.mem_singleton.1 hg']
      refine ⟨?_, by simp⟩
      have := hown.kept hg3 (Or.inr (map_ne hown hm2))
      simpa [delCells] using this
  · refine List.pairwise_append.2 ⟨h.apart, by simp, fun a ha b hb => ?_⟩
    rw [List.mem_singleton.1 hb]
    intro e
    rw [hnew] at e
    have := ((h.vals a ha).1.lt _ e).2
    omega
  · exact (Kept.of_grown hg (by simp)).trans (Kept.of_grown hg3 (fun r hr => Or.inr (by
      cases hr
      refine ⟨hmb, fun c e he => ?_⟩
      obtain ⟨es, clock, hh, _⟩ := hm2
      rw [hh] at he
      cases he)))

/-- One delivery more at a time that is there. -/
theorem Fly.pushOld {mb : Nat} {G1 G2 : List Ent} {t : Int} {v : Value} {ds : List Del} (h : Fly w B cb nv dv st tv ts (some mb) (G1 ++ (t, v, ds) :: G2)) {w2 w3 : World} {d : Del} {v' : Value} (hown : w2.ownsRow B 49 5 v' (ds.length + 1) (delCells ds ++ (dArr d).toList)) (hg : w.grownBy w2 v.ownBlock) (hloc : v'.ownBlock = v.ownBlock ∨ v'.ownBlock = some w.heap.size)
    (hm3 : MapIs Ybaf.prog 3 w3 mb (encG G1 ++ (.int .i64 t, v') :: encG G2)) (ht : w2.mapTurned w3 mb) : Fly w3 B cb nv dv st tv ts (some mb) (G1 ++ (t, v', ds ++ [d]) :: G2) ∧ Kept w w3 B cb := by
  have hv := (h.vals (t, v, ds) (by simp)).1
  simp only at hv
  have hg3 := grownBy_of_turned ht
  have hcbw : cb < w.heap.size := (Array.getElem?_eq_some_iff.1 h.row).1
  have hmb := (h.hmap mb rfl).1
  have hcm : cb ≠ mb := by have := h.lt.1; omega
  have hm1 := (h.hmap mb rfl).2
  have hncb : some cb ≠ v.ownBlock := fun e => by
    have := (hv.lt cb e.symm).1
    have := h.lt.1
    omega
  have hm2 := hm1.kept hg (fun e => map_ne hv hm1 e.symm)
  have hr2 := (hg.block cb hcbw hncb).trans h.row
  have hcb2 : cb < w2.heap.size := Nat.lt_of_lt_of_le hcbw hg.size
  have ht2 := h.times.kept hg (rows_apart hv h.times (by decide))
  have hap := h.apart
  rw [List.pairwise_append, List.pairwise_cons] at hap
  obtain ⟨p1, ⟨p2, p3⟩, p4⟩ := hap
  have hothers : ∀ g, g ∈ G1 ∨ g ∈ G2 → w3.ownsRow B 49 5 g.2.1 g.2.2.length (delCells g.2.2) ∧ g.2.2 ≠ [] := by
    intro g hg'
    have hm : g ∈ G1 ++ (t, v, ds) :: G2 := by
      rcases hg' with q | q
      · simp [q]
      · simp [q]
    have hne : g.2.1.ownBlock ≠ v.ownBlock := by
      rcases hg' with q | q
      · exact p4 g q (t, v, ds) (by simp)
      · exact (p2 g q).symm
    have h2 := (h.vals g hm).1.kept hg (Or.inr hne)
    exact ⟨h2.kept hg3 (Or.inr (map_ne h2 hm2)), (h.vals g hm).2⟩
  have hapart' : ∀ g, g ∈ G1 ++ (t, v, ds) :: G2 → g.2.1.ownBlock ≠ v.ownBlock → g.2.1.ownBlock ≠ v'.ownBlock := by
    intro g hm hne
    rcases hloc with q | q
    · rw [q]; exact hne
    · rw [q]
      intro e
      have := ((h.vals g hm).1.lt _ e).2
      omega
  refine ⟨⟨(hg3.block cb hcb2 (by simpa using hcm)).trans hr2, ht2.kept hg3 (Or.inr (map_ne ht2 hm2)), fun m e => ?_, by simp, ?_, ?_, h.lt.1, Nat.le_trans h.lt.2 (Nat.le_trans hg.size hg3.size)⟩, ?_⟩
  · cases e
    refine ⟨hmb, ?_⟩
    rw [encG_append]
    exact hm3
  · intro g hg'
    rcases List.mem_append.1 hg' with q | q
    · exact hothers g (Or.inl q)
    · rcases List.mem_cons.1 q with rfl | q
      · refine ⟨?_, by simp⟩
        have := hown.kept hg3 (Or.inr (map_ne hown hm2))
        simpa [delCells_snoc] using this
      · exact hothers g (Or.inr q)
  · rw [List.pairwise_append, List.pairwise_cons]
    refine ⟨p1, ⟨fun b hb => ?_, p3⟩, fun a ha b hb => ?_⟩
    · exact (hapart' b (by simp [hb]) (p2 b hb).symm).symm
    · rcases List.mem_cons.1 hb with rfl | hb
      · exact hapart' a (by simp [ha]) (p4 a ha (t, v, ds) (by simp))
      · exact p4 a ha b (by simp [hb])
  · refine (Kept.of_grown hg ?_).trans (Kept.of_grown hg3 (fun r hr => Or.inr ?_))
    · intro r hr
      obtain ⟨q1, c, q2⟩ := own_type hv hr
      exact Or.inr ⟨q1, fun c' e he => by rw [q2] at he; simp at he; exact Or.inr he.2.symm⟩
    · cases hr
      refine ⟨hmb, fun c e he => ?_⟩
      obtain ⟨es, clock, hh, _⟩ := hm2
      rw [hh] at he
      cases he
end

end Go.Proofs.YbulkaihcFmt

/-
  'LawS1705AScript': the parts: the ids (function 6), the plain fold, what the rows of keys and spans own. By the prover of seat 061 (an AI agent).
-/
import Derived.Test.YbulkaihcKeep
import Derived.Deep.Draws
import Derived.Deep.QuietTactic
import Derived.BigQuiet
namespace Go.Proofs.Ybulkaihc
open Go Go.MapKept Go.Maps Go.ChangeMaps Go.RowKit

/-- What 'zzs1705aid' gives. -/
def idOf (p : Int) (s : ByteArray) : ByteArray :=
  if p % 5 = 0 then { data := #[] }
  else if p % 5 = 1 then { data := #[115, 104, 111, 114, 116] }
  else if p % 5 = 2 then { data := #[48, 49, 50, 51, 52, 53, 54, 55, 56, 57, 97, 98, 99, 100, 101, 102, 48, 49, 50, 51, 52, 53, 54, 55, 56, 57, 97, 98, 99, 100, 101, 102] }
  else if p % 5 = 3 then { data := #[48, 49, 50, 51, 52, 53, 54, 55, 56, 57, 97, 98, 99, 100, 101, 102, 48, 49, 50, 51, 52, 53, 54, 55, 56, 57, 97, 98, 99, 100, 101, 102, 120] }
  else s

theorem idOf_le (p : Int) (s : ByteArray) (h : s.size ≤ maxLen) : (idOf p s).size ≤ maxLen := by
  unfold idOf
  split
  · show 0 ≤ maxLen; unfold maxLen; omega
  · split
    · show 5 ≤ maxLen; unfold maxLen; omega
    · split
      · show 32 ≤ maxLen; unfold maxLen; omega
      · split
        · show 33 ≤ maxLen; unfold maxLen; omega
        · exact h

set_option maxHeartbeats 400000 in
theorem id_any (p : Int) (s : ByteArray) (h0 : 0 ≤ p) (h1 : p ≤ 255) (w : World) :
    Calls Yba.prog 6 #[.int .u8 p, .string s] w fun e w' => e = .returned (.string (idOf p s)) ∧ w' = w := by
  have hm0 : 0 ≤ p % 5 := by omega
  have hm5 : p % 5 < 5 := by omega
  have hc : p % 5 = 0 ∨ p % 5 = 1 ∨ p % 5 = 2 ∨ p % 5 = 3 ∨ p % 5 = 4 := by omega
  rcases hc with c | c | c | c | c
  · have hid : idOf p s = { data := #[] } := by simp [idOf, c]
    rw [hid]; clear hid
    go_enter Yba.func6, Yba.ntmps6
    go_wp2
    go_ret
    exact ⟨rfl, rfl⟩
  · have hid : idOf p s = { data := #[115, 104, 111, 114, 116] } := by simp [idOf, c]
    rw [hid]; clear hid
    go_enter Yba.func6, Yba.ntmps6
    go_wp2
    go_ret
    exact ⟨rfl, rfl⟩
  · have hid : idOf p s = { data := #[48, 49, 50, 51, 52, 53, 54, 55, 56, 57, 97, 98, 99, 100, 101, 102, 48, 49, 50, 51, 52, 53, 54, 55, 56, 57, 97, 98, 99, 100, 101, 102] } := by simp [idOf, c]
    rw [hid]; clear hid
    go_enter Yba.func6, Yba.ntmps6
    go_wp2
    go_ret
    exact ⟨rfl, rfl⟩
  · have hid : idOf p s = { data := #[48, 49, 50, 51, 52, 53, 54, 55, 56, 57, 97, 98, 99, 100, 101, 102, 48, 49, 50, 51, 52, 53, 54, 55, 56, 57, 97, 98, 99, 100, 101, 102, 120] } := by simp [idOf, c]
    rw [hid]; clear hid
    go_enter Yba.func6, Yba.ntmps6
    go_wp2
    go_ret
    exact ⟨rfl, rfl⟩
  · have hid : idOf p s = s := by simp [idOf, c]
    rw [hid]; clear hid
    go_enter Yba.func6, Yba.ntmps6
    go_wp2
    go_ret
    exact ⟨rfl, rfl⟩

/-- One call of the script: slot, pick, S, At, N. -/
abbrev OpR := Int × Int × ByteArray × Int × Int
def OpR.key (o : OpR) : SK := (o.1 % 4 - 1, idOf o.2.1 o.2.2.1)
def OpR.span (o : OpR) : SV := (o.2.2.2.1, o.2.2.2.2)
/-- The numbers and lengths are Go's. -/
def OpR.good (o : OpR) : Prop := 0 ≤ o.1 ∧ o.1 ≤ 255 ∧ 0 ≤ o.2.1 ∧ o.2.1 ≤ 255 ∧ o.2.2.1.size ≤ maxLen

/-- What is held after k calls. -/
def heldTo (O : Nat → OpR) : Nat → List (SK × SV)
  | 0 => []
  | k + 1 => keepL (heldTo O k) (O k).key (O k).span

theorem keepL_length (L : List (SK × SV)) (k : SK) (s : SV) : (keepL L k s).length ≤ L.length + 1 := by
  unfold keepL; split <;> simp

theorem heldTo_le (O : Nat → OpR) (k : Nat) : (heldTo O k).length ≤ k := by
  induction k with
  | zero => simp [heldTo]
  | succ k ih => have := keepL_length (heldTo O k) (O k).key (O k).span; simp only [heldTo]; omega

theorem key_good (o : OpR) (h : o.good) : o.key.good := by
  obtain ⟨h1, h2, h3, h4, h5⟩ := h
  refine ⟨?_, idOf_le _ _ h5⟩
  simp only [OpR.key]
  exact WalkArith.wf_i64 (by omega)

/-- The cells of the keys, of the spans. -/
def keyCells (L : List (SK × SV)) : List Value := L.flatMap fun p => [.int .i64 p.1.1, .string p.1.2]
def spanCells (L : List (SK × SV)) : List Value := L.flatMap fun p => [.int .i64 p.2.1, .int .i64 p.2.2]


/-- The block that a slice lies in. -/
def gof (a : Option Addr) : Nat := (a.map (·.block)).getD 0

/-- The world in the law's first loop: the map holds L; the two slices hold K4's keys and K5's spans; what was there is as it was. -/
structure Held (w wr : World) (L K4 K5 : List (SK × SV)) (a4 : Option Addr) (c4 : Nat) (a5 : Option Addr) (c5 : Nat) : Prop where
  map : MapIs Yba.prog 49 wr w.heap.size (encL L)
  jc : wr.cell? ⟨w.heap.size + 1, 49, none⟩ = some (.map (some w.heap.size))
  keys : wr.ownsRow (w.heap.size + 2) 49 2 (.slice a4 K4.length c4) K4.length (keyCells K4)
  spans : wr.ownsRow (w.heap.size + 2) 46 2 (.slice a5 K5.length c5) K5.length (spanCells K5)
  below : Below w.heap.size w wr
  size : w.heap.size + 2 ≤ wr.heap.size

section
variable {w wr w' : World} {L L' K4 K5 : List (SK × SV)} {a4 : Option Addr} {c4 : Nat} {a5 : Option Addr} {c5 : Nat}

theorem Held.grown (h : Held w wr L K4 K5 a4 c4 a5 c5) (hg : wr.grownBy w' (some w.heap.size)) (hm : MapIs Yba.prog 49 w' w.heap.size (encL L')) : Held w w' L' K4 K5 a4 c4 a5 c5 := by
  have h4 := fun k hk => (h.keys.lt k hk).1
  have h5 := fun k hk => (h.spans.lt k hk).1
  refine ⟨hm, hg.cell h.jc (by simp), h.keys.kept hg ?_, h.spans.kept hg ?_, h.below.grown hg (by have := h.size; omega) (fun k hk => by cases hk; omega), Nat.le_trans h.size hg.size⟩
  · refine Or.inr fun e => ?_
    have := h4 _ e
    omega
  · refine Or.inr fun e => ?_
    have := h5 _ e
    omega

theorem Held.same (h : Held w wr L K4 K5 a4 c4 a5 c5) (hg : wr.grownBy w' none) : Held w w' L K4 K5 a4 c4 a5 c5 :=
  h.grown (grownBy_none hg _) (h.map.kept hg (by simp))

theorem Held.alloc (h : Held w wr L K4 K5 a4 c4 a5 c5) (o : Obj) : Held w (wr.alloc o) L K4 K5 a4 c4 a5 c5 := h.same (World.grownBy_alloc _ _ _)
theorem Held.drewN (h : Held w wr L K4 K5 a4 c4 a5 c5) (n : Nat) : Held w (wr.drewN n) L K4 K5 a4 c4 a5 c5 :=
  h.same ⟨rfl, rfl, rfl, Nat.le_refl _, fun _ _ _ => rfl⟩

/-- Two rows of different element types lie in different blocks. -/
theorem rows_apart {W : World} {B B' e e' z z' n m : Nat} {v u : Value} {xs ys : List Value} (h : W.ownsRow B e z v n xs) (h' : W.ownsRow B' e' z' u m ys) (hne : e ≠ e') : u.ownBlock = none ∨ u.ownBlock ≠ v.ownBlock := by
  rcases h'.2 with ⟨rfl, _⟩ | ⟨g', cap', cur', rfl, _, hg', _⟩
  · exact Or.inl rfl
  · rcases h.2 with ⟨rfl, _⟩ | ⟨g, cap, cur, rfl, _, hg, _⟩
    · exact Or.inr (by simp [Value.ownBlock])
    · refine Or.inr fun e1 => ?_
      simp [Value.ownBlock] at e1
      rw [e1, hg] at hg'
      simp at hg'
      exact hne hg'.2

theorem own_shape {W : World} {B e z n : Nat} {v : Value} {xs : List Value} (h : W.ownsRow B e z v n xs) : ∃ a c, v = .slice a n c := by
  rcases h.2 with ⟨rfl, rfl⟩ | ⟨g, cap, cur, rfl, _⟩
  · exact ⟨none, 0, rfl⟩
  · exact ⟨_, _, rfl⟩

/-- Behind 'keys = append(keys, k)'. -/
theorem Held.pushKey (h : Held w wr L K4 K5 a4 c4 a5 c5) (p : SK × SV) {v' : Value} (hown : w'.ownsRow (w.heap.size + 2) 49 2 v' (K4.length + 1) (keyCells K4 ++ [.int .i64 p.1.1, .string p.1.2])) (hg : wr.grownBy w' (Value.slice a4 K4.length c4).ownBlock) :
    ∃ a c, v' = .slice a (K4 ++ [p]).length c ∧ Held w w' L (K4 ++ [p]) K5 a c a5 c5 := by
  obtain ⟨a, c, rfl⟩ := own_shape hown
  refine ⟨a, c, by simp, ?_⟩
  have h4 := fun k hk => (h.keys.lt k hk).1
  have e1 : keyCells (K4 ++ [p]) = keyCells K4 ++ [.int .i64 p.1.1, .string p.1.2] := by simp [keyCells]
  refine ⟨h.map.kept hg ?_, hg.cell h.jc ?_, ?_, h.spans.kept hg (rows_apart h.keys h.spans (by decide)), h.below.grown hg (by have := h.size; omega) (fun k hk => by have := h4 k hk; omega), Nat.le_trans h.size hg.size⟩
  · intro e
    have := h4 _ e.symm
    omega
  · intro e
    have := h4 _ e.symm
    simp at this
  · rw [e1]
    simpa using hown

/-- Behind 'spans = append(spans, s)'. -/
theorem Held.pushSpan (h : Held w wr L K4 K5 a4 c4 a5 c5) (p : SK × SV) {v' : Value} (hown : w'.ownsRow (w.heap.size + 2) 46 2 v' (K5.length + 1) (spanCells K5 ++ [.int .i64 p.2.1, .int .i64 p.2.2])) (hg : wr.grownBy w' (Value.slice a5 K5.length c5).ownBlock) :
    ∃ a c, v' = .slice a (K5 ++ [p]).length c ∧ Held w w' L K4 (K5 ++ [p]) a4 c4 a c := by
  obtain ⟨a, c, rfl⟩ := own_shape hown
  refine ⟨a, c, by simp, ?_⟩
  have h5 := fun k hk => (h.spans.lt k hk).1
  have e1 : spanCells (K5 ++ [p]) = spanCells K5 ++ [.int .i64 p.2.1, .int .i64 p.2.2] := by simp [spanCells]
  refine ⟨h.map.kept hg ?_, hg.cell h.jc ?_, h.keys.kept hg (rows_apart h.spans h.keys (by decide)), ?_, h.below.grown hg (by have := h.size; omega) (fun k hk => by have := h5 k hk; omega), Nat.le_trans h.size hg.size⟩
  · intro e
    have := h5 _ e.symm
    omega
  · intro e
    have := h5 _ e.symm
    simp at this
  · rw [e1]
    simpa using hown
end

theorem owned_slice {w : World} {base e n m c : Nat} {a : Option Addr} {xs : List Value} (h : w.ownsRow base e 2 (.slice a n c) m xs) (hm : 0 < m) : a = some ⟨gof a, 0, none⟩ ∧ n = m := by
  rcases h.2 with ⟨_, h0⟩ | ⟨g, cap, cur, hv, _⟩
  · omega
  · simp only [Value.slice.injEq] at hv
    obtain ⟨rfl, rfl, rfl⟩ := hv
    exact ⟨rfl, rfl⟩

/-- 'xs[i]', the elements of two cells each. -/
theorem index_own {P : Program} {w : World} {base e n c : Nat} {a : Option Addr} {xs : List Value} (h : w.ownsRow base e 2 (.slice a n c) n xs) {t : TypeId} (ht : P.underlying t = some (.slice e)) (hs : ∀ w, (sizeOf e).run P w = .ok 2 w) (i : Nat) (W : World) (hi : i < n) :
    (Instr.indexAt t (.slice a n c) (.int .i64 (i : Int))).run P W = .ok (.pointer (some ⟨gof a, i * 2, none⟩)) W := by
  obtain ⟨ha, _⟩ := owned_slice h (by omega)
  generalize gof a = g at *
  subst ha
  have hadd : (⟨g, 0, none⟩ : Addr).add (i * 2) = ⟨g, i * 2, none⟩ := by
    unfold Addr.add
    split
    · rename_i h0; rw [h0]
    · simp
  simp [Instr.indexAt, asIntOf, run_underlying ht, hs, hi, hadd, Result.andThen]

theorem cell_own {w : World} {base e n c : Nat} {a : Option Addr} {xs : List Value} (h : w.ownsRow base e 2 (.slice a n c) n xs) {j : Nat} (hj : j < n * 2) : w.cell? ⟨gof a, j, none⟩ = xs[j]? := by
  obtain ⟨ha, _⟩ := owned_slice h (by omega)
  rw [ha] at h
  exact h.cellAt j hj

theorem flat2 {α : Type} (f g : α → Value) : ∀ (l : List α) (i : Nat) (p : α), l[i]? = some p → (l.flatMap fun p => [f p, g p])[i * 2]? = some (f p) ∧ (l.flatMap fun p => [f p, g p])[i * 2 + 1]? = some (g p)
  | [], _, _, h => by simp at h
  | a :: l, 0, p, h => by simp at h; subst h; simp
  | a :: l, i + 1, p, h => by
    have := flat2 f g l i p (by simpa using h)
    rw [show (i + 1) * 2 = i * 2 + 2 by omega]
    simpa using this

theorem Held.keyAt {w wr : World} {L K K5 : List (SK × SV)} {a4 : Option Addr} {c4 : Nat} {a5 : Option Addr} {c5 : Nat} (h : Held w wr L K K5 a4 c4 a5 c5) {i : Nat} {p : SK × SV} (hp : K[i]? = some p) :
    wr.cell? ⟨gof a4, i * 2, none⟩ = some (.int .i64 p.1.1) ∧ wr.cell? ⟨gof a4, i * 2 + 1, none⟩ = some (.string p.1.2) := by
  have hi : i < K.length := (List.getElem?_eq_some_iff.1 hp).1
  have := flat2 (fun p : SK × SV => Value.int .i64 p.1.1) (fun p => .string p.1.2) K i p hp
  rw [cell_own h.keys (by omega), cell_own h.keys (by omega)]
  exact this

theorem Held.spanAt {w wr : World} {L K4 K : List (SK × SV)} {a4 : Option Addr} {c4 : Nat} {a5 : Option Addr} {c5 : Nat} (h : Held w wr L K4 K a4 c4 a5 c5) {i : Nat} {p : SK × SV} (hp : K[i]? = some p) :
    wr.cell? ⟨gof a5, i * 2, none⟩ = some (.int .i64 p.2.1) ∧ wr.cell? ⟨gof a5, i * 2 + 1, none⟩ = some (.int .i64 p.2.2) := by
  have hi : i < K.length := (List.getElem?_eq_some_iff.1 hp).1
  have := flat2 (fun p : SK × SV => Value.int .i64 p.2.1) (fun p => .int .i64 p.2.2) K i p hp
  rw [cell_own h.spans (by omega), cell_own h.spans (by omega)]
  exact this

theorem size49 (w : World) : (sizeOf 49).run Yba.prog w = .ok 2 w := by kernel_rfl
theorem size46 (w : World) : (sizeOf 46).run Yba.prog w = .ok 2 w := by kernel_rfl

/-- 'is the key among them?' -/
def foundB (K : List (SK × SV)) (k : SK) : Bool := K.any fun q => decide (q.1 = k)
theorem foundB_snoc (K : List (SK × SV)) (p : SK × SV) (k : SK) : foundB (K ++ [p]) k = (foundB K k || decide (p.1 = k)) := by simp [foundB]
theorem foundB_iff (K : List (SK × SV)) (k : SK) : foundB K k = true ↔ ∃ p ∈ K, p.1 = k := by simp [foundB]

end Go.Proofs.Ybulkaihc

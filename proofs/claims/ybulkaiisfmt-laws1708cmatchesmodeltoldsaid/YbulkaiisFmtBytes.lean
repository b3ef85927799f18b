/-
  Slices of bytes: append, slices.Clone (function 9). By the prover of seat 061 (an AI agent).
-/
import Derived.Test.YbulkaiisFmtRead
namespace Go.Proofs.YbulkaiisFmt
open Go Go.MapKept Go.Maps Go.ChangeMaps Go.RowKit

theorem info5 : (Ybaf.prog.info? 5).map (fun i => (i.zero.map (·.cells.size), i.size, decide (i.bytes ≤ 64))) = some (some 1, 1, true) := by kernel_rfl

/-- A slice of the bytes l, as an argument: wherever it lies. -/
def Bytes (w : World) (ad : Option Addr) (n : Nat) (l : List UInt8) : Prop := l.length = n ∧ (ad = none → n = 0) ∧ ∀ a, ad = some a → ∀ j (hj : j < l.length), w.cell? (a.add j) = some (.int .u8 (l[j]).toNat)

/-- append(v, s...). -/
theorem append5 {w : World} {base n : Nat} {v : Value} {xs : List Value} (hown : w.ownsRow base 5 1 v n xs) {ad : Option Addr} {m c : Nat} {l : List UInt8} (hb : Bytes w ad m l) (hnil : ad = none → c = 0) (hn : n ≤ 1000000) (hm : m ≤ 1000000) (hbase : base ≤ w.heap.size) :
    ∃ v' w', (∀ ty, (Builtin.append_ #[26, 26] ty #[v, .slice ad m c]).run Ybaf.prog w = .ok v' w') ∧ w'.ownsRow base 5 1 v' (n + m) (xs ++ Lib.byteCells l) ∧ w.grownBy w' v.ownBlock := by
  have h1 := info5
  cases hi : Ybaf.prog.info? 5 with
  | none => rw [hi] at h1; cases h1
  | some i =>
    rw [hi] at h1
    simp at h1
    obtain ⟨⟨z, hz, hzs⟩, hsz, h2⟩ := h1
    obtain ⟨hl, hn0, hcell⟩ := hb
    cases ad with
    | none =>
      obtain rfl := hn0 rfl
      obtain rfl := hnil rfl
      obtain rfl : l = [] := List.eq_nil_of_length_eq_zero hl
      exact ⟨v, w, fun ty => run_append_owned_none w base 26 ty 5 i 1 Ybaf.underlying26 hi v n xs hown, by simpa [Lib.byteCells] using hown, grownBy_refl _ _⟩
    | some a =>
      have hcell := hcell a rfl
      have hall := fun ty => run_append_own_at w base 26 ty 5 i z 1 i.bytes Ybaf.underlying26 hi hz hsz rfl hzs (by omega) v n xs hown a m c (Lib.byteCells l) (by rw [Lib.byteCells_length, hl]; omega) (by
        intro j u hu
        have hj : j < l.length := by
          have := (List.getElem?_eq_some_iff.1 hu).1
          rwa [Lib.byteCells_length] at this
        rw [hcell j hj]
        simp [Lib.byteCells, hj] at hu
        rw [hu]) (by
        intro u hu
        obtain ⟨b, _, rfl⟩ := List.mem_map.1 hu
        rfl) (by unfold maxLen; omega) (by
        have : (n + m) * i.bytes ≤ 2000000 * 64 := Nat.mul_le_mul (by omega) h2
        omega) hbase
      obtain ⟨v', w', a1, a2, a3, _, _⟩ := hall 26
      exact ⟨v', w', fun ty => a1, a2, a3⟩

theorem own_byte {w : World} {base g n c : Nat} {l : List UInt8} (h : w.ownsRow base 5 1 (.slice (some ⟨g, 0, none⟩) n c) n (Lib.byteCells l)) : l.length = n ∧ n ≤ c ∧ ∀ j (hj : j < l.length), w.cell? ⟨g, j, none⟩ = some (.int .u8 (l[j]).toNat) := by
  have hl : l.length = n := by
    have := h.1
    rw [Lib.byteCells_length] at this
    omega
  refine ⟨hl, ?_, fun j hj => ?_⟩
  · rcases h.2 with ⟨e, _⟩ | ⟨g', cap, cur, e, _, _, hc, _⟩
    · injection e with e1
      cases e1
    · injection e with _ _ e3
      omega
  · rw [h.cellAt j (by omega)]
    simp [Lib.byteCells, hj]

theorem eql_nil (W : World) (a : Option Addr) (n c : Nat) : (binOp .eql 26 (.slice a n c) (.slice none 0 0)).run Ybaf.prog W = .ok (.bool a.isNone) W := by
  exact Lib.run_eql_slice_nil W 26 5 a n c 0 0 Ybaf.underlying26

set_option maxRecDepth 100000 in
/-- slices.Clone. -/
theorem clone_any (w : World) (ad : Option Addr) (n c : Nat) (l : List UInt8) (hb : Bytes w ad n l) (hlt : ∀ a, ad = some a → 0 < n → a.block < w.heap.size) (hn : n ≤ 100000) :
    Calls Ybaf.prog 9 #[.slice ad n c] w fun e w' => ∃ v, e = .returned v ∧ w'.ownsRow w.heap.size 5 1 v n (Lib.byteCells l) ∧ w.grownBy w' none := by
  have hq := eql_nil
  cases had : ad with
  | none =>
    subst had
    obtain ⟨hl, hn0, _⟩ := hb
    obtain rfl := hn0 rfl
    obtain rfl : l = [] := List.eq_nil_of_length_eq_zero hl
    go_enter Ybaf.func9, Ybaf.ntmps9
    go_wp2
    go_ret
    exact ⟨_, rfl, World.ownsRow_nil _ _ _ _, grownBy_refl _ _⟩
  | some a =>
    subst had
    have hb2 : Bytes (w.alloc (.cells #[] 5)) (some a) n l := by
      refine ⟨hb.1, by simp, fun a' ha' => ?_⟩
      have h2 := hb.2.2 a' ha'
      intro j hj
      exact (World.cell?_alloc_lt _ _ _ (World.block_lt_of_cell? _ _ (h2 j hj))).trans (h2 j hj)
    have hown : (w.alloc (.cells #[] 5)).ownsRow w.heap.size 5 1 (.slice (some ⟨w.heap.size, 0, none⟩) 0 0) 0 [] := World.ownsRow_made w _ _ (Nat.le_refl _) (by simp [maxLen]) (by simp)
    obtain ⟨v', w', a1, a2, a3⟩ := append5 hown hb2 (c := c) (by simp) (by omega) (by omega) (by simp)
    have hg : w.grownBy w' none := by
      refine ⟨a3.os, a3.tape, a3.output, Nat.le_trans (by simp) a3.size, fun k hk _ => ?_⟩
      refine (a3.block k (by simp; omega) (fun e => ?_)).trans (Below.heap_alloc _ _ _ hk)
      simp [Value.ownBlock] at e
      omega
    simp only [Nat.zero_add, List.nil_append] at a2
    clear hown a3
    go_enter Ybaf.func9, Ybaf.ntmps9
    go_wp2_with (at_builtin; refine wpList_append_run rfl (.tmp 5) (.tmp 6) 26 26 rfl _ _ rfl rfl (a1 _) ?_)
    go_ret
    exact ⟨_, rfl, a2, hg⟩
end Go.Proofs.YbulkaiisFmt

/-
  'LawS1708CMatchesModel' (function 5): the reader's and the model's contracts at a buffer, in one form. By the prover of seat 061 (an AI agent).
-/
import Derived.Test.YbulkaiisFmtReadLong
import Derived.Test.YbulkaiisFmtModel
import Derived.Test.YbulkaiisFmtRoundWalk
namespace Go.Proofs.YbulkaiisFmt
open Go Go.MapKept Go.Maps Go.ChangeMaps Go.RowKit Go.Extern.Stop Go.Stop Go.Extern

/-- A buffer's slice: nil, or a block of its own whose first n bytes are D. -/
def Buf (w : World) (ad : Option Addr) (n c : Nat) (D : List UInt8) : Prop :=
  D.length = n ∧ n ≤ c ∧ ((ad = none ∧ n = 0 ∧ c = 0) ∨ ∃ g, ad = some ⟨g, 0, none⟩ ∧ ∀ j (hj : j < D.length), w.cell? ⟨g, j, none⟩ = some (.int .u8 (D[j]).toNat))

theorem buf_own {w : World} {base n : Nat} {v : Value} {D : List UInt8} (h : w.ownsRow base 5 1 v n (Lib.byteCells D)) : ∃ ad c, v = .slice ad n c ∧ Buf w ad n c D ∧ ∀ a, ad = some a → a.block < w.heap.size := by
  rcases h.2 with ⟨rfl, rfl⟩ | ⟨g, cap, cur, rfl, hb, hh, hr⟩
  · have hl : D.length = 0 := by
      have := h.1
      rw [Lib.byteCells_length] at this
      omega
    exact ⟨none, 0, rfl, ⟨hl, Nat.le_refl _, Or.inl ⟨rfl, rfl, rfl⟩⟩, by simp⟩
  · obtain ⟨h1, h2, h3⟩ := own_byte h
    refine ⟨_, cap, rfl, ⟨h1, h2, Or.inr ⟨g, rfl, h3⟩⟩, fun a ha => ?_⟩
    cases ha
    exact (Array.getElem?_eq_some_iff.1 hh).1

theorem Buf.alloc {w : World} {ad : Option Addr} {n c : Nat} {D : List UInt8} (h : Buf w ad n c D) (hlt : ∀ a, ad = some a → a.block < w.heap.size) (o : Obj) : Buf (w.alloc o) ad n c D := by
  refine ⟨h.1, h.2.1, ?_⟩
  rcases h.2.2 with h0 | ⟨g, rfl, h2⟩
  · exact Or.inl h0
  · exact Or.inr ⟨g, rfl, fun j hj => (World.cell?_alloc_lt w o ⟨g, j, none⟩ (hlt ⟨g, 0, none⟩ rfl : g < w.heap.size)).trans (h2 j hj)⟩

theorem Buf.kept {w w' : World} {ad : Option Addr} {n c : Nat} {D : List UInt8} (h : Buf w ad n c D) (hk : ∀ a, ad = some a → w'.heap[a.block]? = w.heap[a.block]?) : Buf w' ad n c D := by
  refine ⟨h.1, h.2.1, ?_⟩
  rcases h.2.2 with h0 | ⟨g, rfl, h2⟩
  · exact Or.inl h0
  · exact Or.inr ⟨g, rfl, fun j hj => (same_cell (hk _ rfl) j).trans (h2 j hj)⟩

/-- uvarint, where the model reads. -/
theorem read_good {w : World} {rb n c p : Nat} {ad : Option Addr} {av wv : Value} {wh : ByteArray} {D : List UInt8} {x k : Nat} (hr : w.heap[rb]? = some (.cells #[.slice ad n c, .int .i64 (p : Nat), av, wv] 31 (0, 0))) (hb : Buf w ad n c D) (hn : n ≤ 1024) (hs : shortFrom 0 0 (D.drop p) = some (x, k)) :
    Calls Ybaf.prog 10 #[.pointer (some ⟨rb, 0, none⟩), .string wh] w fun e w' => e = .returned (.tuple #[.int .u64 (x : Int), .nilIface]) ∧ (w.setCell ⟨rb, 1, none⟩ (.int .i64 ((p : Int) + (k : Int)))).grownBy w' none := by
  obtain ⟨hD, hc, hb⟩ := hb
  obtain ⟨h1, h2, h3, h4⟩ := short_some _ _ _ _ _ hs
  rw [List.length_drop] at h3
  rcases hb with ⟨rfl, rfl, rfl⟩ | ⟨g, rfl, hcell⟩
  · omega
  · refine uvarint_good hr hD hcell (by omega) hc (by omega) h2 (by omega) h1 (fun hk b hbb => h4 b ?_ hk)
    rw [List.getElem?_drop, ← hbb]
    congr 1
    omega

/-- uvarint, where the model does not. -/
theorem read_bad (F : Interp) {w : World} (hF : F.answers w.tape) {rb n c p : Nat} {ad : Option Addr} {at' : Int} {what wh : ByteArray} {D : List UInt8} (hr : w.heap[rb]? = some (.cells #[.slice ad n c, .int .i64 (p : Nat), .int .i64 at', .string what] 31 (0, 0))) (hb : Buf w ad n c D) (hn : n ≤ 1024) (hp : p ≤ n) (hs : shortFrom 0 0 (D.drop p) = none) :
    Calls Ybaf.prog 10 #[.pointer (some ⟨rb, 0, none⟩), .string wh] w fun e w' => (∃ v, e = .returned (.tuple #[.int .u64 0, .iface 50 v])) ∧ w.grownBy w' none := by
  obtain ⟨hD, hc, hb⟩ := hb
  by_cases hpn : p = n
  · subst hpn
    refine uvarint_end F hF hr (by omega) hc ?_
    rcases hb with h | ⟨g, h, _⟩
    · exact Or.inl h
    · exact Or.inr ⟨g, h⟩
  · rcases hb with ⟨rfl, rfl, rfl⟩ | ⟨g, rfl, hcell⟩
    · omega
    · rcases short_none _ _ _ hs with h | ⟨x, k, h1, h2, _, h4, h5⟩
      · exact uvarint_bad F hF hr hD hcell hc (by omega) (x := (Lib.uvarintDec (D.drop p)).1) (k := (Lib.uvarintDec (D.drop p)).2) rfl h
      · rw [List.length_drop] at h4
        refine uvarint_long F hF hr hD hcell (by omega) hc (by omega) h1 h2 (by omega) ?_
        rw [List.getElem?_drop] at h5
        rw [← h5]
        congr 1
        omega

/-- The model at a buffer. -/
theorem model_buf {w : World} {ad : Option Addr} {n c p : Nat} {D : List UInt8} (hb : Buf w ad n c D) (hn : n ≤ 1024) (hp : p ≤ n) :
    Calls Ybaf.prog 11 #[.slice ad n c, .int .i64 (p : Int)] w fun e w' => e = .returned (modelOut p (shortFrom 0 0 (D.drop p))) ∧ w' = w := by
  refine model_walk w ad n c p D hb.1 hn hp fun j hj => ?_
  rcases hb.2.2 with ⟨rfl, h0, rfl⟩ | ⟨g, rfl, hcell⟩
  · have := hb.1
    omega
  · exact ⟨_, fun W => index_byte g n c j W (by have := hb.1; omega), hcell j hj⟩

theorem neq_nilErr (W : World) : (binOp .neq 34 .nilIface .nilIface).run Ybaf.prog W = .ok (.bool false) W := by kernel_rfl
end Go.Proofs.YbulkaiisFmt

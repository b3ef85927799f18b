/-
  'LawS1705CSchedule': what the law's variables hold while submit runs. By the prover of seat 061 (an AI agent).
-/
import Derived.Test.YbulkaihcFmtWind
namespace Go.Proofs.YbulkaihcFmt
open Go Go.MapKept Go.Maps Go.ChangeMaps Go.RowKit

/-- Where the law's variables lie. -/
structure Gear where
  B : Nat
  cb : Nat
  A : Nat
  kb : Nat
  lg : Nat
  nb : Nat
  n : Nat
  dad : Option Addr
  db : Nat
  doff : Nat
  dl : Nat
  dc : Nat
  N : Nat → Nat
  P : Nat → Nat
  ids : Nat → Int
  Ds : Nat → Int

namespace Gear
def nv (e : Gear) : Value := .slice (some ⟨e.nb, 0, none⟩) e.n e.n
def dv (e : Gear) : Value := .func (.func 6) #[] #[.pointer (some ⟨e.A, 0, none⟩), .pointer (some ⟨e.kb, 0, none⟩), .pointer (some ⟨e.lg, 0, none⟩)]
def T (e : Gear) (q : Nat) : Int := if 0 < e.dl then 1 + e.Ds (q % e.dl) else 1
/-- A variable that submit does not write. -/
def Low (e : Gear) (x : Nat) : Prop := x < e.B ∧ x ≠ e.cb ∧ x ≠ e.kb ∧ x ≠ e.lg
structure Ok (e : Gear) : Prop where
  cb : e.cb < e.B
  A : e.Low e.A
  db : 0 < e.dl → e.Low e.db
  nb : ∀ i, i < e.n → e.Low e.nb ∧ e.Low (e.N i) ∧ e.Low (e.P i)
  kb : e.kb < e.B ∧ e.kb ≠ e.cb
  lg : e.lg < e.B ∧ e.lg ≠ e.cb
  ne : e.kb ≠ e.lg
  Ds : ∀ i, i < e.dl → 0 ≤ e.Ds i ∧ e.Ds i ≤ 255
  idx : ∀ i W, i < e.dl → (Instr.indexAt 35 (.slice e.dad e.dl e.dc) (.int .i64 (i : Int))).run Ybaf.prog W = .ok (.pointer (some ⟨e.db, e.doff + i, none⟩)) W
end Gear

variable {e : Gear} {w w' w'' : World}

theorem T_bd (h : e.Ok) (q : Nat) : 1 ≤ e.T q ∧ e.T q ≤ 256 := by
  unfold Gear.T
  split
  · rename_i hd
    have := h.Ds (q % e.dl) (Nat.mod_lt _ hd)
    omega
  · omega

/-- The fixed variables. -/
structure Fixed (e : Gear) (w : World) : Prop where
  box : w.cell? ⟨e.A, 0, none⟩ = some (.slice e.dad e.dl e.dc)
  ds : ∀ i, i < e.dl → w.cell? ⟨e.db, e.doff + i, none⟩ = some (.int .u8 (e.Ds i))
  node : ∀ i, i < e.n → w.cell? ⟨e.nb, i, none⟩ = some (.pointer (some ⟨e.N i, 0, none⟩)) ∧ w.cell? ⟨e.N i, 0, none⟩ = some (.pointer (some ⟨e.P i, 0, none⟩)) ∧ w.cell? ⟨e.P i, 0, none⟩ = some (.int .i64 (e.ids i))
  size : e.B ≤ w.heap.size

/-- Submit's frame. -/
structure Blown (e : Gear) (w w' : World) : Prop where
  os : w'.os = w.os
  tape : w'.tape = w.tape
  output : w'.output = w.output
  size : w.heap.size ≤ w'.heap.size
  block : ∀ k, k < w.heap.size → e.Low k → w'.heap[k]? = w.heap[k]?
theorem Blown.refl (e : Gear) (w : World) : Blown e w w := ⟨rfl, rfl, rfl, Nat.le_refl _, fun _ _ _ => rfl⟩
theorem Blown.trans (h : Blown e w w') (k : Blown e w' w'') : Blown e w w'' :=
  ⟨k.os.trans h.os, k.tape.trans h.tape, k.output.trans h.output, Nat.le_trans h.size k.size, fun i hi hl => (k.block i (Nat.lt_of_lt_of_le hi h.size) hl).trans (h.block i hi hl)⟩
theorem Blown.of_kept (h : Kept w w' e.B e.cb) : Blown e w w' :=
  ⟨h.os, h.tape, h.output, h.size, fun k hk hl => h.block k hk hl.2.1 (Or.inl hl.1)⟩
theorem Blown.cell (h : Blown e w w') {b i : Nat} {v : Value} (hl : e.Low b) (hc : w.cell? ⟨b, i, none⟩ = some v) : w'.cell? ⟨b, i, none⟩ = some v :=
  (same_cell (h.block b (World.block_lt_of_cell? _ _ hc) hl) i).trans hc
theorem Fixed.blown (h : Fixed e w) (ho : e.Ok) (hb : Blown e w w') : Fixed e w' :=
  ⟨hb.cell ho.A h.box, fun i hi => hb.cell (ho.db (by omega)) (h.ds i hi), fun i hi => ⟨hb.cell (ho.nb i hi).1 (h.node i hi).1, hb.cell (ho.nb i hi).2.1 (h.node i hi).2.1, hb.cell (ho.nb i hi).2.2 (h.node i hi).2.2⟩, Nat.le_trans h.size hb.size⟩

/-- The count and the log. -/
structure Wind (e : Gear) (w : World) (q : Nat) (E : List Call) : Prop where
  count : w.heap[e.kb]? = some (.cells #[.int .i64 (q : Nat)] 3 (0, 0))
  log : ∃ lv, w.heap[e.lg]? = some (.cells #[lv] 68 (0, 0)) ∧ w.ownsRow e.B 70 4 lv E.length (logCells E)
theorem Wind.kept {q : Nat} {E : List Call} (h : Wind e w q E) (ho : e.Ok) (hk : Kept w w' e.B e.cb) : Wind e w' q E := by
  have h1 : e.kb < w.heap.size := (Array.getElem?_eq_some_iff.1 h.count).1
  obtain ⟨lv, hl, hw⟩ := h.log
  have h2 : e.lg < w.heap.size := (Array.getElem?_eq_some_iff.1 hl).1
  refine ⟨(hk.block _ h1 ho.kb.2 (Or.inl ho.kb.1)).trans h.count, lv, (hk.block _ h2 ho.lg.2 (Or.inl ho.lg.1)).trans hl, own_block hw fun g hg => ?_⟩
  obtain ⟨h3, c, h4⟩ := own_type hw hg
  refine hk.block g (Array.getElem?_eq_some_iff.1 h4).1 (fun e1 => ?_) (Or.inr ⟨c, 70, h4, by decide, by decide⟩)
  have := ho.cb
  omega

/-- Behind the delay. -/
theorem Logged.all {q : Nat} {lv : Value} {E : List Call} {c : Call} (h : Logged w w' e.B e.kb e.lg q lv E c) (ho : e.Ok) (hW : w.heap[e.kb]? = some (.cells #[.int .i64 (q : Nat)] 3 (0, 0))) (hl : w.heap[e.lg]? = some (.cells #[lv] 68 (0, 0))) (hw : w.ownsRow e.B 70 4 lv E.length (logCells E)) :
    Wind e w' (q + 1) (E ++ [c]) ∧ Blown e w w' ∧ (∀ G, Spare w G w' G) ∧ ∀ {nv dv : Value} {st : Int} {tv : Value} {ts : List Int} {av : Option Nat} {G : List Ent}, Fly w e.B e.cb nv dv st tv ts av G → Fly w' e.B e.cb nv dv st tv ts av G := by
  refine ⟨⟨h.count, ?_⟩, ⟨h.os, h.tape, h.output, h.size, fun k hk hlow => ?_⟩, fun G D c' hD hn => ⟨?_, hn⟩, fun hF => hF.of_blocks h.size fun k hk hc => ?_⟩
  · obtain ⟨lv', h1, h2⟩ := h.log
    exact ⟨lv', h1, by simpa using h2⟩
  · refine h.block k hk hlow.2.2.1 hlow.2.2.2 fun e1 => ?_
    have := (hw.lt k e1).1
    have := hlow.1
    omega
  · refine (h.block D (Array.getElem?_eq_some_iff.1 hD).1 (fun e1 => ?_) (fun e1 => ?_) fun e1 => ?_).trans hD
    · rw [e1, hW] at hD
      simp at hD
    · rw [e1, hl] at hD
      simp at hD
    · obtain ⟨_, c2, h2⟩ := own_type hw e1
      rw [hD] at h2
      simp at h2
  · refine h.block k hk (fun e1 => ?_) (fun e1 => ?_) fun e1 => ?_
    · have := ho.kb
      rcases hc with hc | ⟨hc, _⟩
      · exact this.2 (e1.symm.trans hc)
      · omega
    · have := ho.lg
      rcases hc with hc | ⟨hc, _⟩
      · exact this.2 (e1.symm.trans hc)
      · omega
    · obtain ⟨h1, c2, h2⟩ := own_type hw e1
      rcases hc with hc | ⟨_, hc⟩
      · have := ho.cb
        omega
      · rcases hc c2 70 h2 with h3 | ⟨h3, _⟩
        · exact absurd h3 (by decide)
        · exact absurd h3 (by decide)

end Go.Proofs.YbulkaihcFmt

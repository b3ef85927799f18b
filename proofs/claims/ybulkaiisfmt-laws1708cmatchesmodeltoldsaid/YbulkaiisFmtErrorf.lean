/-
  wireReader.errorf (function 15), at its three formats. By the prover of seat 061 (an AI agent).
-/
import Derived.Test.YbulkaiisFmtErr
namespace Go.Proofs.YbulkaiisFmt
open Go Go.MapKept Go.Maps Go.ChangeMaps Go.RowKit Go.Extern.Stop Go.Stop Go.Extern

attribute [local go_sem ↓] Go.wp_at_zero Go.wp_at_succ

/-- What the reader's variable and the operands' row hold. -/
def Held4 (rb ab : Nat) (pos at' : Int) (wh x : ByteArray) (u : World) : Prop := u.cell? ⟨rb, 1, none⟩ = some (.int .i64 pos) ∧ u.cell? ⟨rb, 2, none⟩ = some (.int .i64 at') ∧ u.cell? ⟨rb, 3, none⟩ = some (.string wh) ∧ u.cell? ⟨ab, 0, none⟩ = some (.iface 9 (.string x))
theorem held_grown {rb ab : Nat} {pos at' : Int} {wh x : ByteArray} {w w' : World} (h : Held4 rb ab pos at' wh x w) (hg : w.grownBy w' none) : Held4 rb ab pos at' wh x w' :=
  ⟨hg.cell h.1 (by simp), hg.cell h.2.1 (by simp), hg.cell h.2.2.1 (by simp), hg.cell h.2.2.2 (by simp)⟩
theorem new_cell (w : World) (c : Array Value) (t : TypeId) (i : Nat) : ((w.alloc (.cells c t)).drew.drew).cell? ⟨w.heap.size, i, none⟩ = c[i]? := by
  show (w.alloc (.cells c t)).cell? _ = _
  rw [World.cell?_alloc_at _ _ _ _ rfl]

set_option maxRecDepth 100000 in
set_option maxHeartbeats 1000000 in
theorem errorf_cut (F : Interp) (w : World) (hF : F.answers w.tape) (rb ab : Nat) (pos at' : Int) (wh x : ByteArray) (hS : Held4 rb ab pos at' wh x w) :
    Calls Ybaf.prog 15 #[.pointer (some ⟨rb, 0, none⟩), .string ⟨#[99, 117, 116, 32, 115, 104, 111, 114, 116, 32, 105, 110, 32, 37, 115]⟩, .slice (some ⟨ab, 0, none⟩) 1 1] w fun e w' => ∃ v, e = .returned (.iface 50 v) ∧ w.grownBy w' none := by
  have hF' := answers_open hF
  have hgr := fun (n : Int) (T : ByteArray) => grownBy_trans (World.grownBy_alloc w (.cells #[.iface 9 (.string wh), .iface 3 (.int .i64 n), .iface 9 (.string T)] 20) none) (grownBy_trans (grownBy_dr _ none) (grownBy_dr _ none))
  have hcall := fun (n : Int) (T : ByteArray) => fmt_errorf F ((w.alloc (.cells #[.iface 9 (.string wh), .iface 3 (.int .i64 n), .iface 9 (.string T)] 20)).drew.drew) hF w.heap.size wh T n (new_cell w _ 20 0) (new_cell w _ 20 1) (new_cell w _ 20 2)
  have hk := fun (n : Int) (T : ByteArray) (w2 : World) (hg : ((w.alloc (.cells #[.iface 9 (.string wh), .iface 3 (.int .i64 n), .iface 9 (.string T)] 20)).drew.drew).grownBy w2 none) => held_grown hS (grownBy_trans (hgr n T) hg)
  have h1 := hS.1
  have h2 := hS.2.1
  have h3 := hS.2.2.1
  have ha := hS.2.2.2
  unfold Held4 at hk
  go_enter Ybaf.func15, Ybaf.ntmps15
  go_wp2
  go_region_held3 (fun u => u.cell? ⟨rb, 1, none⟩ = some (.int .i64 pos) ∧ u.cell? ⟨rb, 2, none⟩ = some (.int .i64 at') ∧ u.cell? ⟨rb, 3, none⟩ = some (.string wh) ∧ u.cell? ⟨ab, 0, none⟩ = some (.iface 9 (.string x)))
    (first
      | assumption
      | go_keep)
    (first | (go_at_call 16; refine (hcall _ _).mono ?_; rintro e w2 ⟨v, rfl, hg⟩; have kS2 := hk _ _ _ hg; have hfin := grownBy_trans (hgr _ _) hg) | (go_simp; apply rows_value Ybaf.nextTurns; (case hr => (go_simp; exact ⟨rfl, rfl⟩))))
  all_goals
    clear hcall hk
    go_wp2
    go_ret
    exact ⟨_, rfl, hfin⟩

set_option maxRecDepth 100000 in
set_option maxHeartbeats 1000000 in
theorem errorf_big (F : Interp) (w : World) (hF : F.answers w.tape) (rb ab : Nat) (pos at' : Int) (wh x : ByteArray) (hS : Held4 rb ab pos at' wh x w) :
    Calls Ybaf.prog 15 #[.pointer (some ⟨rb, 0, none⟩), .string ⟨#[37, 115, 32, 100, 111, 101, 115, 32, 110, 111, 116, 32, 102, 105, 116, 32, 105, 110, 32, 54, 52, 32, 98, 105, 116, 115]⟩, .slice (some ⟨ab, 0, none⟩) 1 1] w fun e w' => ∃ v, e = .returned (.iface 50 v) ∧ w.grownBy w' none := by
  have hF' := answers_open hF
  have hgr := fun (n : Int) (T : ByteArray) => grownBy_trans (World.grownBy_alloc w (.cells #[.iface 9 (.string wh), .iface 3 (.int .i64 n), .iface 9 (.string T)] 20) none) (grownBy_trans (grownBy_dr _ none) (grownBy_dr _ none))
  have hcall := fun (n : Int) (T : ByteArray) => fmt_errorf F ((w.alloc (.cells #[.iface 9 (.string wh), .iface 3 (.int .i64 n), .iface 9 (.string T)] 20)).drew.drew) hF w.heap.size wh T n (new_cell w _ 20 0) (new_cell w _ 20 1) (new_cell w _ 20 2)
  have hk := fun (n : Int) (T : ByteArray) (w2 : World) (hg : ((w.alloc (.cells #[.iface 9 (.string wh), .iface 3 (.int .i64 n), .iface 9 (.string T)] 20)).drew.drew).grownBy w2 none) => held_grown hS (grownBy_trans (hgr n T) hg)
  have h1 := hS.1
  have h2 := hS.2.1
  have h3 := hS.2.2.1
  have ha := hS.2.2.2
  unfold Held4 at hk
  go_enter Ybaf.func15, Ybaf.ntmps15
  go_wp2
  go_region_held3 (fun u => u.cell? ⟨rb, 1, none⟩ = some (.int .i64 pos) ∧ u.cell? ⟨rb, 2, none⟩ = some (.int .i64 at') ∧ u.cell? ⟨rb, 3, none⟩ = some (.string wh) ∧ u.cell? ⟨ab, 0, none⟩ = some (.iface 9 (.string x)))
    (first
      | assumption
      | go_keep)
    (first | (go_at_call 16; refine (hcall _ _).mono ?_; rintro e w2 ⟨v, rfl, hg⟩; have kS2 := hk _ _ _ hg; have hfin := grownBy_trans (hgr _ _) hg) | (go_simp; apply rows_value Ybaf.nextTurns; (case hr => (go_simp; exact ⟨rfl, rfl⟩))))
  all_goals
    clear hcall hk
    go_wp2
    go_ret
    exact ⟨_, rfl, hfin⟩

set_option maxRecDepth 100000 in
set_option maxHeartbeats 1000000 in
theorem errorf_long (F : Interp) (w : World) (hF : F.answers w.tape) (rb ab : Nat) (pos at' : Int) (wh x : ByteArray) (hS : Held4 rb ab pos at' wh x w) :
    Calls Ybaf.prog 15 #[.pointer (some ⟨rb, 0, none⟩), .string ⟨#[37, 115, 32, 105, 115, 32, 110, 111, 116, 32, 105, 110, 32, 105, 116, 115, 32, 115, 104, 111, 114, 116, 101, 115, 116, 32, 102, 111, 114, 109]⟩, .slice (some ⟨ab, 0, none⟩) 1 1] w fun e w' => ∃ v, e = .returned (.iface 50 v) ∧ w.grownBy w' none := by
  have hF' := answers_open hF
  have hgr := fun (n : Int) (T : ByteArray) => grownBy_trans (World.grownBy_alloc w (.cells #[.iface 9 (.string wh), .iface 3 (.int .i64 n), .iface 9 (.string T)] 20) none) (grownBy_trans (grownBy_dr _ none) (grownBy_dr _ none))
  have hcall := fun (n : Int) (T : ByteArray) => fmt_errorf F ((w.alloc (.cells #[.iface 9 (.string wh), .iface 3 (.int .i64 n), .iface 9 (.string T)] 20)).drew.drew) hF w.heap.size wh T n (new_cell w _ 20 0) (new_cell w _ 20 1) (new_cell w _ 20 2)
  have hk := fun (n : Int) (T : ByteArray) (w2 : World) (hg : ((w.alloc (.cells #[.iface 9 (.string wh), .iface 3 (.int .i64 n), .iface 9 (.string T)] 20)).drew.drew).grownBy w2 none) => held_grown hS (grownBy_trans (hgr n T) hg)
  have h1 := hS.1
  have h2 := hS.2.1
  have h3 := hS.2.2.1
  have ha := hS.2.2.2
  unfold Held4 at hk
  go_enter Ybaf.func15, Ybaf.ntmps15
  go_wp2
  go_region_held3 (fun u => u.cell? ⟨rb, 1, none⟩ = some (.int .i64 pos) ∧ u.cell? ⟨rb, 2, none⟩ = some (.int .i64 at') ∧ u.cell? ⟨rb, 3, none⟩ = some (.string wh) ∧ u.cell? ⟨ab, 0, none⟩ = some (.iface 9 (.string x)))
    (first
      | assumption
      | go_keep)
    (first | (go_at_call 16; refine (hcall _ _).mono ?_; rintro e w2 ⟨v, rfl, hg⟩; have kS2 := hk _ _ _ hg; have hfin := grownBy_trans (hgr _ _) hg) | (go_simp; apply rows_value Ybaf.nextTurns; (case hr => (go_simp; exact ⟨rfl, rfl⟩))))
  all_goals
    clear hcall hk
    go_wp2
    go_ret
    exact ⟨_, rfl, hfin⟩
end Go.Proofs.YbulkaiisFmt

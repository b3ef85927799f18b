/-
  fmt.Errorf (function 16) and wireReader.errorf (function 15): an error comes back, whatever fmt's text. By the prover of seat 061 (an AI agent).
-/
import Derived.Test.YbulkaiisFmtFacts
namespace Go.Proofs.YbulkaiisFmt
open Go Go.MapKept Go.Maps Go.ChangeMaps Go.RowKit Go.Extern.Stop Go.Stop Go.Extern

theorem ptr_err (w : World) : (FmtStop.ptrTo "errors.errorString").run Ybaf.prog w = .ok 50 w := by kernel_rfl
theorem elem_err (w : World) : (elemOf 50).run Ybaf.prog w = .ok 52 w := by kernel_rfl
theorem neq_err (x : Value) (w : World) : (binOp .neq 34 (.iface 50 x) .nilIface).run Ybaf.prog w = .ok (.bool true) w := by kernel_rfl

set_option maxRecDepth 100000 in
set_option maxHeartbeats 1000000 in
theorem fmt_errorf (F : Interp) (w : World) (hF : F.answers w.tape) (ab : Nat) (a b : ByteArray) (n : Int) (h0 : w.cell? ⟨ab, 0, none⟩ = some (.iface 9 (.string a))) (h1 : w.cell? ⟨ab, 1, none⟩ = some (.iface 3 (.int .i64 n))) (h2 : w.cell? ⟨ab, 2, none⟩ = some (.iface 9 (.string b))) :
    Calls Ybaf.prog 16 #[.string ⟨#[97, 110, 116, 101, 99, 108, 111, 99, 107, 58, 32, 100, 101, 99, 111, 100, 105, 110, 103, 32, 97, 32, 37, 115, 58, 32, 97, 116, 32, 98, 121, 116, 101, 32, 37, 100, 58, 32, 37, 115]⟩, .slice (some ⟨ab, 0, none⟩) 3 3] w fun e w' => ∃ v, e = .returned (.iface 50 v) ∧ w.grownBy w' none := by
  have hF' := answers_open hF
  have hp := ptr_err
  have he := elem_err
  have hq := neq_err
  have hg := fun o => grownBy_trans (World.grownBy_alloc w o none) (grownBy_dr (w.alloc o) none)
  clear hF
  go_enter Ybaf.func16, Ybaf.ntmps16
  go_wp2
  go_ret
  exact ⟨_, rfl, hg _⟩
end Go.Proofs.YbulkaiisFmt

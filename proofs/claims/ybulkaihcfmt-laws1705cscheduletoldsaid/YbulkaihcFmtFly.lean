/-
  The walks of deliveries.add (function 10) and of onWay (function 8). By the prover of seat 061 (an AI agent).
-/
import Derived.Test.YbulkaihcFmtFlyLaws
namespace Go.Proofs.YbulkaihcFmt
open Go Go.MapKept Go.Maps Go.ChangeMaps Go.RowKit

/-- A step of a region that draws: append, its run known by an equation. -/
theorem step_append_run {P : Program} {ops : Array Oper} {o : Oper} {a : Act} {w : World} {K : Act → World → Prop} {Q : Exit → Act → World → Prop} {E : Prop}
    (hg : o.guard = none) (s x : Operand) (tS tX : TypeId) (hop : o.op = Op.call { callee := Callee.builtin Builtin.append, args := #[s, x], argTypes := #[tS, tX] })
    (v u : Value) (hs : a.eval s = v) (hx : a.eval x = u) {v' : Value} {w' : World} (hr : (Builtin.append_ #[tS, tX] o.type #[v, u]).run P w = .ok v' w') (hK : K (a.put o.dst v') w') :
    if Region.wanted o (yielded ops a.tmps) = true then Oper.wp P o a w K Q else E := by
  have hw : Region.wanted o (yielded ops a.tmps) = true := by simp [Region.wanted, hg]
  rw [if_pos hw]
  unfold Oper.wp execOp
  simp only [hop, resolve, invoke, builtin, Sem.run_bind, Sem.run_pure, Result.andThen_ok, List.map_toArray, List.map_cons, List.map_nil, hs, hx, hr]
  exact hK

attribute [local go_sem ↓] Go.wp_at_zero Go.wp_at_succ

set_option maxRecDepth 100000 in
set_option maxHeartbeats 1000000 in
/-- The time is there already. -/
theorem add_old {w w2 w3 : World} {cb mb : Nat} {nv tv dv : Value} {st : Int} {t to : Int} {rq : ByteArray} {v v' : Value}
    (hr : w.heap[cb]? = some (.cells (clCells nv tv (.map (some mb)) dv st) 43 (0, 0)))
    (hlk : ∀ o, (Instr.lookup 26 (.map (some mb)) (.int .i64 t) true).run Ybaf.prog (w.alloc o) = .ok (.tuple #[v, .bool true]) (w.alloc o))
    (hlk1 : ∀ o, (Instr.lookup 26 (.map (some mb)) (.int .i64 t) false).run Ybaf.prog (w.alloc o).drew = .ok v (w.alloc o).drew)
    (hlk2 : ∀ o o2, (Instr.lookup 26 (.map (some mb)) (.int .i64 t) false).run Ybaf.prog ((w.alloc o).alloc o2).drew = .ok v ((w.alloc o).alloc o2).drew)
    (hap : (Builtin.append_ #[45, 45] 45 #[v, .slice (some ⟨w.heap.size + 1, 0, none⟩) 1 1]).run Ybaf.prog ((w.alloc (.cells #[.int .i64 (-1), .int .i64 to, .pointer none, .string rq, .int .i64 0] 49)).alloc (.cells #[.int .i64 (-1), .int .i64 to, .pointer none, .string rq, .int .i64 0] 49)).drew = .ok v' w2)
    (kS : w2.cell? ⟨cb, 2, none⟩ = some (.map (some mb)) ∧ w2.cell? ⟨w.heap.size, 0, none⟩ = some (.int .i64 (-1)) ∧ w2.cell? ⟨w.heap.size, 1, none⟩ = some (.int .i64 to) ∧ w2.cell? ⟨w.heap.size, 2, none⟩ = some (.pointer none) ∧ w2.cell? ⟨w.heap.size, 3, none⟩ = some (.string rq) ∧ w2.cell? ⟨w.heap.size, 4, none⟩ = some (.int .i64 0))
    (kT : w3.cell? ⟨cb, 2, none⟩ = some (.map (some mb)) ∧ w3.cell? ⟨w.heap.size, 0, none⟩ = some (.int .i64 (-1)) ∧ w3.cell? ⟨w.heap.size, 1, none⟩ = some (.int .i64 to) ∧ w3.cell? ⟨w.heap.size, 2, none⟩ = some (.pointer none) ∧ w3.cell? ⟨w.heap.size, 3, none⟩ = some (.string rq) ∧ w3.cell? ⟨w.heap.size, 4, none⟩ = some (.int .i64 0))
    (hst : (Instr.mapUpdate 26 (.map (some mb)) (.int .i64 t) v').run Ybaf.prog w2 = .ok () w3) :
    Calls Ybaf.prog 10 #[.pointer (some ⟨cb, 1, none⟩), .int .i64 t, .agg #[.int .i64 (-1), .int .i64 to, .pointer none, .string rq, .int .i64 0]] w fun e w' => e = .returned (.tuple #[]) ∧ w' = w3 := by
  have hcb : cb < w.heap.size := (Array.getElem?_eq_some_iff.1 hr).1
  have hcb1 : cb < w.heap.size + 1 := by omega
  have hcb2 : cb < w.heap.size + 2 := by omega
  have c2 : w.cell? ⟨cb, 2, none⟩ = some (.map (some mb)) := by simp [World.cell?, hr, clCells]
  have qT : ∀ (w : World) (r : Option Nat), (binOp .eql 26 (.map r) (.map none)).run Ybaf.prog w = .ok (.bool r.isNone) w := fun w r => run_eql_map_nil w _ _ _ r Ybaf.underlying26
  clear hr
  go_enter Ybaf.func10, Ybaf.ntmps10
  go_wp2
  go_region_held3 (fun w' => w'.cell? ⟨cb, 2, none⟩ = some (.map (some mb)) ∧ w'.cell? ⟨w.heap.size, 0, none⟩ = some (.int .i64 (-1)) ∧ w'.cell? ⟨w.heap.size, 1, none⟩ = some (.int .i64 to) ∧ w'.cell? ⟨w.heap.size, 2, none⟩ = some (.pointer none) ∧ w'.cell? ⟨w.heap.size, 3, none⟩ = some (.string rq) ∧ w'.cell? ⟨w.heap.size, 4, none⟩ = some (.int .i64 0))
    (first
      | exact kS
      | exact kT
      | go_keep)
    ((refine step_append_run (by rfl) _ _ 45 45 (by rfl) v _ (by rfl) (by rfl) hap ?_))
  all_goals
    go_wp2
    go_end0
    exact ⟨rfl, rfl⟩
end Go.Proofs.YbulkaihcFmt

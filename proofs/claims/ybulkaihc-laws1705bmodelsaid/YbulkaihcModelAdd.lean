/-
  'LawS1705BModel': the walk of add (function 9). By the prover of seat 061 (an AI agent).
-/
import Derived.Test.YbulkaihcModelValid
namespace Go.Proofs.Ybulkaihc
open Go Go.MapKept Go.Maps Go.ChangeMaps Go.RowKit
open Vote (ME vf lim Step upd)

/-- But for three blocks and new ones the world is as it was. -/
structure Same3 (w w' : World) (a b c : Nat) : Prop where
  os : w'.os = w.os
  tape : w'.tape = w.tape
  output : w'.output = w.output
  size : w.heap.size ≤ w'.heap.size
  block : ∀ k, k < w.heap.size → k ≠ a → k ≠ b → k ≠ c → w'.heap[k]? = w.heap[k]?

set_option maxRecDepth 100000 in
set_option maxHeartbeats 1000000 in
theorem add_voted {w : World} {ib vb mb n : Nat} {q0 q1 tot bk m asd : Int} {vt eq : Bool} {V : Nat → Int} (hr : w.heap[ib]? = some (.cells (instCells q0 q1 m vb n mb tot bk asd vt eq) 57 (0, 0))) (hvo : w.rowIs vb 66 n (fun i => .int .u16 (V i)))
    (fr x : Int) (h1 : 1 ≤ fr) (hfn : fr ≤ n) (hn : n ≤ 10) (hvf : (V (fr.toNat - 1) != 0) = true) (cn : Bool) (c p : Int)
    (hlk : (Instr.lookup 55 (.map (some mb)) (.int .i64 x) true).run Yba.prog w = .ok (.tuple #[.agg #[.int .i64 c, .int .u16 p], .bool cn]) w) :
    Calls Yba.prog 9 #[.pointer (some ⟨ib, 0, none⟩), .int .i64 fr, .int .i64 x] w fun r w' => (∃ b, r = .returned (.bool b)) ∧ (∃ eq', w' = (w.setCell ⟨ib, 9, none⟩ (.bool eq')).alloc (.cells #[.int .i64 c, .int .u16 p] 68)) := by
  have hib : ib < w.heap.size := (Array.getElem?_eq_some_iff.1 hr).1
  have hvb : vb < w.heap.size := hvo.lt
  have c3 : w.cell? ⟨ib, 3, none⟩ = some (.slice (some ⟨vb, 0, none⟩) n n) := by simp [World.cell?, hr, instCells]
  have c4 : w.cell? ⟨ib, 4, none⟩ = some (.map (some mb)) := by simp [World.cell?, hr, instCells]
  have c9 : w.cell? ⟨ib, 9, none⟩ = some (.bool eq) := by simp [World.cell?, hr, instCells]
  have f9 : w.frozen? ⟨ib, 9, none⟩ = false := by simp [World.frozen?, hr]
  have hi : fr.toNat - 1 < n := by omega
  have hcv : w.cell? ⟨vb, fr.toNat - 1, none⟩ = some (.int .u16 (V (fr.toNat - 1))) := hvo.cell hi
  have hix := fun W => index1 (P := Yba.prog) (t := 54) (e := 66) Yba.underlying54 size66 vb n n (fr - 1) (by omega) (by omega) W
  generalize V (fr.toNat - 1) = vf0 at *
  clear hr hvo
  go_enter Yba.func9, Yba.ntmps9
  go_wp2
  all_goals
    go_ret
    exact ⟨⟨_, rfl⟩, _, rfl⟩

set_option maxRecDepth 100000 in
set_option maxHeartbeats 1000000 in
theorem add_nil {w : World} {ib vb mb n : Nat} {q0 q1 tot bk m asd : Int} {vt eq : Bool} {V : Nat → Int} (hr : w.heap[ib]? = some (.cells (instCells q0 q1 m vb n mb tot bk asd vt eq) 57 (0, 0))) (hvo : w.rowIs vb 66 n (fun i => .int .u16 (V i)))
    (fr : Int) (h1 : 1 ≤ fr) (hfn : fr ≤ n) (hn : n ≤ 10) (hvf : V (fr.toNat - 1) = 0) (cn : Bool) (c p : Int)
    (hlk : (Instr.lookup 55 (.map (some mb)) (.int .i64 0) true).run Yba.prog w = .ok (.tuple #[.agg #[.int .i64 c, .int .u16 p], .bool cn]) w) :
    Calls Yba.prog 9 #[.pointer (some ⟨ib, 0, none⟩), .int .i64 fr, .int .i64 0] w fun r w' => (∃ b, r = .returned (.bool b)) ∧ (∃ tot' : Int, w' = ((w.setCell ⟨ib, 5, none⟩ (.int .i64 tot')).setCell ⟨vb, fr.toNat - 1, none⟩ (.int .u16 1)).alloc (.cells #[.int .i64 c, .int .u16 p] 68)) := by
  have hib : ib < w.heap.size := (Array.getElem?_eq_some_iff.1 hr).1
  have hvb : vb < w.heap.size := hvo.lt
  have hne : ib ≠ vb := by
    intro e
    obtain ⟨cs, hb, _⟩ := hvo
    rw [← e, hr] at hb
    simp at hb
  have c3 : w.cell? ⟨ib, 3, none⟩ = some (.slice (some ⟨vb, 0, none⟩) n n) := by simp [World.cell?, hr, instCells]
  have c4 : w.cell? ⟨ib, 4, none⟩ = some (.map (some mb)) := by simp [World.cell?, hr, instCells]
  have c5 : w.cell? ⟨ib, 5, none⟩ = some (.int .i64 tot) := by simp [World.cell?, hr, instCells]
  have f5 : w.frozen? ⟨ib, 5, none⟩ = false := by simp [World.frozen?, hr]
  have hi : fr.toNat - 1 < n := by omega
  have hcv : w.cell? ⟨vb, fr.toNat - 1, none⟩ = some (.int .u16 (V (fr.toNat - 1))) := hvo.cell hi
  rw [hvf] at hcv
  have hfv : w.frozen? ⟨vb, fr.toNat - 1, none⟩ = false := hvo.frozen _
  have hix := fun W => index1 (P := Yba.prog) (t := 54) (e := 66) Yba.underlying54 size66 vb n n (fr - 1) (by omega) (by omega) W
  clear hr hvo hvf
  go_enter Yba.func9, Yba.ntmps9
  go_wp2
  go_ret
  exact ⟨⟨_, rfl⟩, _, rfl⟩

set_option maxRecDepth 100000 in
set_option maxHeartbeats 1000000 in
theorem add_more {w w2 : World} {ib vb mb n : Nat} {q0 q1 tot bk m asd : Int} {vt eq : Bool} {V : Nat → Int} (hr : w.heap[ib]? = some (.cells (instCells q0 q1 m vb n mb tot bk asd vt eq) 57 (0, 0))) (hvo : w.rowIs vb 66 n (fun i => .int .u16 (V i)))
    (fr x : Int) (h1 : 1 ≤ fr) (hfn : fr ≤ n) (hn : n ≤ 10) (hvf : V (fr.toNat - 1) = 0) (hx : (x == 0) = false) (c p : Int) (hc0 : 0 ≤ c) (hc1 : c ≤ 2000) (hp0 : 0 ≤ p) (hp1 : p ≤ 2000) (hm0 : 0 ≤ m) (hm3 : m ≤ 3)
    (hlk : (Instr.lookup 55 (.map (some mb)) (.int .i64 x) true).run Yba.prog w = .ok (.tuple #[.agg #[.int .i64 c, .int .u16 p], .bool true]) w) (heq : ((c + 1) == m + 1) = false)
    (hst : (Instr.mapUpdate 55 (.map (some mb)) (.int .i64 x) (.agg #[.int .i64 (c + 1), .int .u16 p])).run Yba.prog (((w.setCell ⟨ib, 5, none⟩ (.int .i64 (wrap64 (tot + 1)))).alloc (.cells #[.int .i64 (c + 1), .int .u16 p] 68)).drew.drew) = .ok () w2)
    (k3 : w2.cell? ⟨ib, 3, none⟩ = some (.slice (some ⟨vb, 0, none⟩) n n)) (kt : w2.cell? ⟨w.heap.size, 1, none⟩ = some (.int .u16 p)) (kv : w2.cell? ⟨vb, fr.toNat - 1, none⟩ = some (.int .u16 0)) (kf : w2.frozen? ⟨vb, fr.toNat - 1, none⟩ = false) :
    Calls Yba.prog 9 #[.pointer (some ⟨ib, 0, none⟩), .int .i64 fr, .int .i64 x] w fun r w' => (∃ b, r = .returned (.bool b)) ∧ w' = (w2.setCell ⟨vb, fr.toNat - 1, none⟩ (.int .u16 (p + 2))).drew := by
  have hib : ib < w.heap.size := (Array.getElem?_eq_some_iff.1 hr).1
  have hvb : vb < w.heap.size := hvo.lt
  have hne : ib ≠ vb := by
    intro e
    obtain ⟨cs, hb, _⟩ := hvo
    rw [← e, hr] at hb
    simp at hb
  have c2 : w.cell? ⟨ib, 2, none⟩ = some (.int .i64 m) := by simp [World.cell?, hr, instCells]
  have c3 : w.cell? ⟨ib, 3, none⟩ = some (.slice (some ⟨vb, 0, none⟩) n n) := by simp [World.cell?, hr, instCells]
  have c4 : w.cell? ⟨ib, 4, none⟩ = some (.map (some mb)) := by simp [World.cell?, hr, instCells]
  have c5 : w.cell? ⟨ib, 5, none⟩ = some (.int .i64 tot) := by simp [World.cell?, hr, instCells]
  have f5 : w.frozen? ⟨ib, 5, none⟩ = false := by simp [World.frozen?, hr]
  have c6 : w.cell? ⟨ib, 6, none⟩ = some (.int .i64 bk) := by simp [World.cell?, hr, instCells]
  have f6 : w.frozen? ⟨ib, 6, none⟩ = false := by simp [World.frozen?, hr]
  have hi : fr.toNat - 1 < n := by omega
  have hcv : w.cell? ⟨vb, fr.toNat - 1, none⟩ = some (.int .u16 (V (fr.toNat - 1))) := hvo.cell hi
  rw [hvf] at hcv
  have hix := fun W => index1 (P := Yba.prog) (t := 54) (e := 66) Yba.underlying54 size66 vb n n (fr - 1) (by omega) (by omega) W
  have hwp : IntKind.u16.wrap (p + 2) = p + 2 := by rw [IntKind.wrap_u16]; omega
  have hwm : IntKind.i64.wrap (m + 1) = m + 1 := by rw [IntKind.wrap_i64]; omega
  have hwf : IntKind.i64.wrap (fr - 1) = fr - 1 := by rw [IntKind.wrap_i64]; omega
  clear hr hvo hvf
  go_enter Yba.func9, Yba.ntmps9
  go_wp2
  go_region
  go_wp2
  go_region
  go_wp2
  go_region
  go_wp2
  go_ret
  exact ⟨⟨_, rfl⟩, rfl⟩

set_option maxRecDepth 100000 in
set_option maxHeartbeats 1000000 in
theorem add_more_backed {w w2 : World} {ib vb mb n : Nat} {q0 q1 tot bk m asd : Int} {vt eq : Bool} {V : Nat → Int} (hr : w.heap[ib]? = some (.cells (instCells q0 q1 m vb n mb tot bk asd vt eq) 57 (0, 0))) (hvo : w.rowIs vb 66 n (fun i => .int .u16 (V i)))
    (fr x : Int) (h1 : 1 ≤ fr) (hfn : fr ≤ n) (hn : n ≤ 10) (hvf : V (fr.toNat - 1) = 0) (hx : (x == 0) = false) (c p : Int) (hc0 : 0 ≤ c) (hc1 : c ≤ 2000) (hp0 : 0 ≤ p) (hp1 : p ≤ 2000) (hm0 : 0 ≤ m) (hm3 : m ≤ 3)
    (hlk : (Instr.lookup 55 (.map (some mb)) (.int .i64 x) true).run Yba.prog w = .ok (.tuple #[.agg #[.int .i64 c, .int .u16 p], .bool true]) w) (heq : ((c + 1) == m + 1) = true)
    (hst : (Instr.mapUpdate 55 (.map (some mb)) (.int .i64 x) (.agg #[.int .i64 (c + 1), .int .u16 p])).run Yba.prog ((((w.setCell ⟨ib, 5, none⟩ (.int .i64 (wrap64 (tot + 1)))).setCell ⟨ib, 6, none⟩ (.int .i64 (wrap64 (bk + 1)))).alloc (.cells #[.int .i64 (c + 1), .int .u16 p] 68)).drew.drew) = .ok () w2)
    (k3 : w2.cell? ⟨ib, 3, none⟩ = some (.slice (some ⟨vb, 0, none⟩) n n)) (kt : w2.cell? ⟨w.heap.size, 1, none⟩ = some (.int .u16 p)) (kv : w2.cell? ⟨vb, fr.toNat - 1, none⟩ = some (.int .u16 0)) (kf : w2.frozen? ⟨vb, fr.toNat - 1, none⟩ = false) :
    Calls Yba.prog 9 #[.pointer (some ⟨ib, 0, none⟩), .int .i64 fr, .int .i64 x] w fun r w' => (∃ b, r = .returned (.bool b)) ∧ w' = (w2.setCell ⟨vb, fr.toNat - 1, none⟩ (.int .u16 (p + 2))).drew := by
  have hib : ib < w.heap.size := (Array.getElem?_eq_some_iff.1 hr).1
  have hvb : vb < w.heap.size := hvo.lt
  have hne : ib ≠ vb := by
    intro e
    obtain ⟨cs, hb, _⟩ := hvo
    rw [← e, hr] at hb
    simp at hb
  have c2 : w.cell? ⟨ib, 2, none⟩ = some (.int .i64 m) := by simp [World.cell?, hr, instCells]
  have c3 : w.cell? ⟨ib, 3, none⟩ = some (.slice (some ⟨vb, 0, none⟩) n n) := by simp [World.cell?, hr, instCells]
  have c4 : w.cell? ⟨ib, 4, none⟩ = some (.map (some mb)) := by simp [World.cell?, hr, instCells]
  have c5 : w.cell? ⟨ib, 5, none⟩ = some (.int .i64 tot) := by simp [World.cell?, hr, instCells]
  have f5 : w.frozen? ⟨ib, 5, none⟩ = false := by simp [World.frozen?, hr]
  have c6 : w.cell? ⟨ib, 6, none⟩ = some (.int .i64 bk) := by simp [World.cell?, hr, instCells]
  have f6 : w.frozen? ⟨ib, 6, none⟩ = false := by simp [World.frozen?, hr]
  have hi : fr.toNat - 1 < n := by omega
  have hcv : w.cell? ⟨vb, fr.toNat - 1, none⟩ = some (.int .u16 (V (fr.toNat - 1))) := hvo.cell hi
  rw [hvf] at hcv
  have hix := fun W => index1 (P := Yba.prog) (t := 54) (e := 66) Yba.underlying54 size66 vb n n (fr - 1) (by omega) (by omega) W
  have hwp : IntKind.u16.wrap (p + 2) = p + 2 := by rw [IntKind.wrap_u16]; omega
  have hwm : IntKind.i64.wrap (m + 1) = m + 1 := by rw [IntKind.wrap_i64]; omega
  have hwf : IntKind.i64.wrap (fr - 1) = fr - 1 := by rw [IntKind.wrap_i64]; omega
  clear hr hvo hvf
  go_enter Yba.func9, Yba.ntmps9
  go_wp2
  go_region
  go_wp2
  go_region
  go_wp2
  go_region
  go_wp2
  go_ret
  exact ⟨⟨_, rfl⟩, rfl⟩

set_option maxRecDepth 100000 in
set_option maxHeartbeats 1000000 in
theorem add_new {w w2 : World} {ib vb mb n : Nat} {q0 q1 tot bk m asd : Int} {vt eq : Bool} {V : Nat → Int} (hr : w.heap[ib]? = some (.cells (instCells q0 q1 m vb n mb tot bk asd vt eq) 57 (0, 0))) (hvo : w.rowIs vb 66 n (fun i => .int .u16 (V i)))
    (fr x : Int) (h1 : 1 ≤ fr) (hfn : fr ≤ n) (hn : n ≤ 10) (hvf : V (fr.toNat - 1) = 0) (hx : (x == 0) = false) (p : Int) (hp0 : 0 ≤ p) (hp1 : p ≤ 2000) (hm0 : 0 ≤ m) (hm3 : m ≤ 3)
    (hlk : (Instr.lookup 55 (.map (some mb)) (.int .i64 x) true).run Yba.prog w = .ok (.tuple #[.agg #[.int .i64 0, .int .u16 0], .bool false]) w) (heq : (1 == m + 1) = false)
    (hln : (Builtin.len_ #[55] 3 #[.map (some mb)]).run Yba.prog ((w.setCell ⟨ib, 5, none⟩ (.int .i64 (wrap64 (tot + 1)))).alloc (.cells #[.int .i64 0, .int .u16 0] 68)) = .ok (.int .i64 p) ((w.setCell ⟨ib, 5, none⟩ (.int .i64 (wrap64 (tot + 1)))).alloc (.cells #[.int .i64 0, .int .u16 0] 68)))
    (hst : (Instr.mapUpdate 55 (.map (some mb)) (.int .i64 x) (.agg #[.int .i64 1, .int .u16 p])).run Yba.prog (((w.setCell ⟨ib, 5, none⟩ (.int .i64 (wrap64 (tot + 1)))).alloc (.cells #[.int .i64 1, .int .u16 p] 68)).drew.drew) = .ok () w2)
    (k3 : w2.cell? ⟨ib, 3, none⟩ = some (.slice (some ⟨vb, 0, none⟩) n n)) (kt : w2.cell? ⟨w.heap.size, 1, none⟩ = some (.int .u16 p)) (kv : w2.cell? ⟨vb, fr.toNat - 1, none⟩ = some (.int .u16 0)) (kf : w2.frozen? ⟨vb, fr.toNat - 1, none⟩ = false) :
    Calls Yba.prog 9 #[.pointer (some ⟨ib, 0, none⟩), .int .i64 fr, .int .i64 x] w fun r w' => (∃ b, r = .returned (.bool b)) ∧ w' = (w2.setCell ⟨vb, fr.toNat - 1, none⟩ (.int .u16 (p + 2))).drew := by
  have hib : ib < w.heap.size := (Array.getElem?_eq_some_iff.1 hr).1
  have hvb : vb < w.heap.size := hvo.lt
  have hne : ib ≠ vb := by
    intro e
    obtain ⟨cs, hb, _⟩ := hvo
    rw [← e, hr] at hb
    simp at hb
  have c2 : w.cell? ⟨ib, 2, none⟩ = some (.int .i64 m) := by simp [World.cell?, hr, instCells]
  have c3 : w.cell? ⟨ib, 3, none⟩ = some (.slice (some ⟨vb, 0, none⟩) n n) := by simp [World.cell?, hr, instCells]
  have c4 : w.cell? ⟨ib, 4, none⟩ = some (.map (some mb)) := by simp [World.cell?, hr, instCells]
  have c5 : w.cell? ⟨ib, 5, none⟩ = some (.int .i64 tot) := by simp [World.cell?, hr, instCells]
  have f5 : w.frozen? ⟨ib, 5, none⟩ = false := by simp [World.frozen?, hr]
  have c6 : w.cell? ⟨ib, 6, none⟩ = some (.int .i64 bk) := by simp [World.cell?, hr, instCells]
  have f6 : w.frozen? ⟨ib, 6, none⟩ = false := by simp [World.frozen?, hr]
  have hi : fr.toNat - 1 < n := by omega
  have hcv : w.cell? ⟨vb, fr.toNat - 1, none⟩ = some (.int .u16 (V (fr.toNat - 1))) := hvo.cell hi
  rw [hvf] at hcv
  have hix := fun W => index1 (P := Yba.prog) (t := 54) (e := 66) Yba.underlying54 size66 vb n n (fr - 1) (by omega) (by omega) W
  have hwp : IntKind.u16.wrap (p + 2) = p + 2 := by rw [IntKind.wrap_u16]; omega
  have hwm : IntKind.i64.wrap (m + 1) = m + 1 := by rw [IntKind.wrap_i64]; omega
  have hwf : IntKind.i64.wrap (fr - 1) = fr - 1 := by rw [IntKind.wrap_i64]; omega
  have hwq : IntKind.u16.wrap p = p := by rw [IntKind.wrap_u16]; omega
  clear hr hvo hvf
  go_enter Yba.func9, Yba.ntmps9
  go_wp2
  go_region
  go_wp2
  go_region
  go_wp2
  go_region
  go_wp2
  go_ret
  exact ⟨⟨_, rfl⟩, rfl⟩

set_option maxRecDepth 100000 in
set_option maxHeartbeats 1000000 in
theorem add_new_backed {w w2 : World} {ib vb mb n : Nat} {q0 q1 tot bk m asd : Int} {vt eq : Bool} {V : Nat → Int} (hr : w.heap[ib]? = some (.cells (instCells q0 q1 m vb n mb tot bk asd vt eq) 57 (0, 0))) (hvo : w.rowIs vb 66 n (fun i => .int .u16 (V i)))
    (fr x : Int) (h1 : 1 ≤ fr) (hfn : fr ≤ n) (hn : n ≤ 10) (hvf : V (fr.toNat - 1) = 0) (hx : (x == 0) = false) (p : Int) (hp0 : 0 ≤ p) (hp1 : p ≤ 2000) (hm0 : 0 ≤ m) (hm3 : m ≤ 3)
    (hlk : (Instr.lookup 55 (.map (some mb)) (.int .i64 x) true).run Yba.prog w = .ok (.tuple #[.agg #[.int .i64 0, .int .u16 0], .bool false]) w) (heq : (1 == m + 1) = true)
    (hln : (Builtin.len_ #[55] 3 #[.map (some mb)]).run Yba.prog ((w.setCell ⟨ib, 5, none⟩ (.int .i64 (wrap64 (tot + 1)))).alloc (.cells #[.int .i64 0, .int .u16 0] 68)) = .ok (.int .i64 p) ((w.setCell ⟨ib, 5, none⟩ (.int .i64 (wrap64 (tot + 1)))).alloc (.cells #[.int .i64 0, .int .u16 0] 68)))
    (hst : (Instr.mapUpdate 55 (.map (some mb)) (.int .i64 x) (.agg #[.int .i64 1, .int .u16 p])).run Yba.prog ((((w.setCell ⟨ib, 5, none⟩ (.int .i64 (wrap64 (tot + 1)))).setCell ⟨ib, 6, none⟩ (.int .i64 (wrap64 (bk + 1)))).alloc (.cells #[.int .i64 1, .int .u16 p] 68)).drew.drew) = .ok () w2)
    (k3 : w2.cell? ⟨ib, 3, none⟩ = some (.slice (some ⟨vb, 0, none⟩) n n)) (kt : w2.cell? ⟨w.heap.size, 1, none⟩ = some (.int .u16 p)) (kv : w2.cell? ⟨vb, fr.toNat - 1, none⟩ = some (.int .u16 0)) (kf : w2.frozen? ⟨vb, fr.toNat - 1, none⟩ = false) :
    Calls Yba.prog 9 #[.pointer (some ⟨ib, 0, none⟩), .int .i64 fr, .int .i64 x] w fun r w' => (∃ b, r = .returned (.bool b)) ∧ w' = (w2.setCell ⟨vb, fr.toNat - 1, none⟩ (.int .u16 (p + 2))).drew := by
  have hib : ib < w.heap.size := (Array.getElem?_eq_some_iff.1 hr).1
  have hvb : vb < w.heap.size := hvo.lt
  have hne : ib ≠ vb := by
    intro e
    obtain ⟨cs, hb, _⟩ := hvo
    rw [← e, hr] at hb
    simp at hb
  have c2 : w.cell? ⟨ib, 2, none⟩ = some (.int .i64 m) := by simp [World.cell?, hr, instCells]
  have c3 : w.cell? ⟨ib, 3, none⟩ = some (.slice (some ⟨vb, 0, none⟩) n n) := by simp [World.cell?, hr, instCells]
  have c4 : w.cell? ⟨ib, 4, none⟩ = some (.map (some mb)) := by simp [World.cell?, hr, instCells]
  have c5 : w.cell? ⟨ib, 5, none⟩ = some (.int .i64 tot) := by simp [World.cell?, hr, instCells]
  have f5 : w.frozen? ⟨ib, 5, none⟩ = false := by simp [World.frozen?, hr]
  have c6 : w.cell? ⟨ib, 6, none⟩ = some (.int .i64 bk) := by simp [World.cell?, hr, instCells]
  have f6 : w.frozen? ⟨ib, 6, none⟩ = false := by simp [World.frozen?, hr]
  have hi : fr.toNat - 1 < n := by omega
  have hcv : w.cell? ⟨vb, fr.toNat - 1, none⟩ = some (.int .u16 (V (fr.toNat - 1))) := hvo.cell hi
  rw [hvf] at hcv
  have hix := fun W => index1 (P := Yba.prog) (t := 54) (e := 66) Yba.underlying54 size66 vb n n (fr - 1) (by omega) (by omega) W
  have hwp : IntKind.u16.wrap (p + 2) = p + 2 := by rw [IntKind.wrap_u16]; omega
  have hwm : IntKind.i64.wrap (m + 1) = m + 1 := by rw [IntKind.wrap_i64]; omega
  have hwf : IntKind.i64.wrap (fr - 1) = fr - 1 := by rw [IntKind.wrap_i64]; omega
  have hwq : IntKind.u16.wrap p = p := by rw [IntKind.wrap_u16]; omega
  clear hr hvo hvf
  go_enter Yba.func9, Yba.ntmps9
  go_wp2
  go_region
  go_wp2
  go_region
  go_wp2
  go_region
  go_wp2
  go_ret
  exact ⟨⟨_, rfl⟩, rfl⟩

end Go.Proofs.Ybulkaihc

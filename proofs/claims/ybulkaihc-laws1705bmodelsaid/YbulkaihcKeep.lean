/-
  The walk of '(*journal).keep' (function 7). By the prover of seat 061 (an AI agent).
-/
import Derived.Test.YbulkaihcMap
import Derived.Test.YbulkaihcRows
import Derived.WalkKit
import Derived.WalkSpells
import Derived.ProofKit
namespace Go.Proofs.Ybulkaihc
open Go Go.MapKept Go.Maps Go.ChangeMaps Go.RowKit

theorem laidOut : laidOutB Yba.prog = true := by kernel_rfl
theorem keyed49 : Keyed Yba.prog 49 := Keyed.of_law (deep_law_laid laidOut (m := 2) (by omega) (of_decide_eq_true (by kernel_rfl)) (by kernel_rfl) (by kernel_rfl))
theorem zero46 (w : World) : (zeroValue 46).run Yba.prog w = .ok (.agg #[.int .i64 0, .int .i64 0]) w := by kernel_rfl

abbrev SK := Int × ByteArray
abbrev SV := Int × Int
def kv (k : SK) : Value := .agg #[.int .i64 k.1, .string k.2]
def vv (s : SV) : Value := .agg #[.int .i64 s.1, .int .i64 s.2]
def encL (L : List (SK × SV)) : List (Value × Value) := L.map fun p => (kv p.1, vv p.2)

theorem kv_inj {a b : SK} (h : kv a = kv b) : a = b := by
  obtain ⟨a1, a2⟩ := a
  obtain ⟨b1, b2⟩ := b
  simp [kv] at h
  simp [h]

theorem grownBy_refl (w : World) (row : Option Nat) : w.grownBy w row := ⟨rfl, rfl, rfl, Nat.le_refl _, fun _ _ _ => rfl⟩
theorem grownBy_trans {a b c : World} {row : Option Nat} (h1 : a.grownBy b row) (h2 : b.grownBy c row) : a.grownBy c row :=
  ⟨h2.os.trans h1.os, h2.tape.trans h1.tape, h2.output.trans h1.output, Nat.le_trans h1.size h2.size, fun k hk hne => (h2.block k (Nat.lt_of_lt_of_le hk h1.size) hne).trans (h1.block k hk hne)⟩
theorem grownBy_none {a b : World} (h1 : a.grownBy b none) (row : Option Nat) : a.grownBy b row :=
  ⟨h1.os, h1.tape, h1.output, h1.size, fun k hk _ => h1.block k hk (by simp)⟩
theorem grownBy_drew {a b : World} {row : Option Nat} (h : a.grownBy b row) : a.grownBy b.drew row := ⟨h.os, h.tape, h.output, h.size, h.block⟩
theorem grown3 (w : World) (o1 o2 o3 : Obj) (row : Option Nat) : w.grownBy (((w.alloc o1).alloc o2).alloc o3) row :=
  grownBy_trans (grownBy_trans (World.grownBy_alloc _ _ _) (World.grownBy_alloc _ _ _)) (World.grownBy_alloc _ _ _)

set_option maxHeartbeats 400000 in
/-- The key is there: nothing turns but three new blocks and a draw. -/
theorem keep_there (slot : Int) (id : ByteArray) (at_ n : Int) (jb mb : Nat) (a0 n0 : Int) (w : World)
    (hjb : jb < w.heap.size) (hj : w.cell? ⟨jb, 49, none⟩ = some (.map (some mb)))
    (hlk : ∀ o1 o2, (Instr.lookup 24 (.map (some mb)) (.agg #[.int .i64 slot, .string id]) true).run Yba.prog ((w.alloc o1).alloc o2).drew = .ok (.tuple #[.agg #[.int .i64 a0, .int .i64 n0], .bool true]) ((w.alloc o1).alloc o2).drew)
    (hlk3 : ∀ o1 o2 o3, (Instr.lookup 24 (.map (some mb)) (.agg #[.int .i64 slot, .string id]) true).run Yba.prog (((w.alloc o1).alloc o2).alloc o3).drew = .ok (.tuple #[.agg #[.int .i64 a0, .int .i64 n0], .bool true]) (((w.alloc o1).alloc o2).alloc o3).drew) :
    Calls Yba.prog 7 #[.pointer (some ⟨jb, 0, none⟩), .int .i64 slot, .string id, .agg #[.int .i64 at_, .int .i64 n]] w fun e w' => e = .returned (.tuple #[]) ∧ w.grownBy w' none := by
  have hjb1 : jb < w.heap.size + 1 := by omega
  have hjb2 : jb < w.heap.size + 2 := by omega
  have hjb3 : jb < w.heap.size + 3 := by omega
  go_enter Yba.func7, Yba.ntmps7
  go_wp2
  go_region
  go_wp2
  refine bodyPost_ret (results_none rfl _ _ _) rfl ?_
  exact ⟨rfl, grownBy_drew (grown3 _ _ _ _ _)⟩

set_option maxHeartbeats 400000 in
/-- The key is new, but nothing is kept. -/
theorem keep_not (slot : Int) (id : ByteArray) (at_ n : Int) (jb mb : Nat) (w : World) (hid : id.size ≤ maxLen)
    (hno : ((id.size : Int) < 32) ∨ n = 0)
    (hjb : jb < w.heap.size) (hj : w.cell? ⟨jb, 49, none⟩ = some (.map (some mb)))
    (hlk : ∀ o1 o2, (Instr.lookup 24 (.map (some mb)) (.agg #[.int .i64 slot, .string id]) true).run Yba.prog ((w.alloc o1).alloc o2).drew = .ok (.tuple #[.agg #[.int .i64 0, .int .i64 0], .bool false]) ((w.alloc o1).alloc o2).drew)
    (hlk3 : ∀ o1 o2 o3, (Instr.lookup 24 (.map (some mb)) (.agg #[.int .i64 slot, .string id]) true).run Yba.prog (((w.alloc o1).alloc o2).alloc o3).drew = .ok (.tuple #[.agg #[.int .i64 0, .int .i64 0], .bool false]) (((w.alloc o1).alloc o2).alloc o3).drew) :
    Calls Yba.prog 7 #[.pointer (some ⟨jb, 0, none⟩), .int .i64 slot, .string id, .agg #[.int .i64 at_, .int .i64 n]] w fun e w' => e = .returned (.tuple #[]) ∧ w.grownBy w' none := by
  have hjb1 : jb < w.heap.size + 1 := by omega
  have hjb2 : jb < w.heap.size + 2 := by omega
  have hjb3 : jb < w.heap.size + 3 := by omega
  unfold maxLen at hid
  by_cases hs : (id.size : Int) < 32
  · go_enter Yba.func7, Yba.ntmps7
    go_wp2
    go_region
    go_wp2
    refine bodyPost_ret (results_none rfl _ _ _) rfl ?_
    exact ⟨rfl, grownBy_drew (grown3 _ _ _ _ _)⟩
  · have hn : n = 0 := by omega
    subst hn
    go_enter Yba.func7, Yba.ntmps7
    go_wp2
    go_region
    go_wp2
    refine bodyPost_ret (results_none rfl _ _ _) rfl ?_
    exact ⟨rfl, grownBy_drew (grown3 _ _ _ _ _)⟩

set_option maxRecDepth 100000 in
set_option maxHeartbeats 400000 in
/-- The key is new and the entry is kept. -/
theorem keep_new (slot : Int) (id : ByteArray) (at_ n : Int) (jb mb : Nat) (w w' : World) (hid : id.size ≤ maxLen)
    (hs : 32 ≤ (id.size : Int)) (hn : (n == 0) = false)
    (hjb : jb < w.heap.size) (hj : w.cell? ⟨jb, 49, none⟩ = some (.map (some mb)))
    (hlk : ∀ o1 o2, (Instr.lookup 24 (.map (some mb)) (.agg #[.int .i64 slot, .string id]) true).run Yba.prog ((w.alloc o1).alloc o2).drew = .ok (.tuple #[.agg #[.int .i64 0, .int .i64 0], .bool false]) ((w.alloc o1).alloc o2).drew)
    (hlk3 : ∀ o1 o2 o3, (Instr.lookup 24 (.map (some mb)) (.agg #[.int .i64 slot, .string id]) true).run Yba.prog (((w.alloc o1).alloc o2).alloc o3).drew = .ok (.tuple #[.agg #[.int .i64 0, .int .i64 0], .bool false]) (((w.alloc o1).alloc o2).alloc o3).drew)
    (hst : (Instr.mapUpdate 24 (.map (some mb)) (.agg #[.int .i64 slot, .string id]) (.agg #[.int .i64 at_, .int .i64 n])).run Yba.prog
      ((((w.alloc (.cells #[.int .i64 at_, .int .i64 n] 46)).alloc (.cells #[.int .i64 slot, .string id] 49)).alloc (.cells #[.int .i64 0, .int .i64 0] 46)).drew.drew) = .ok () w') :
    Calls Yba.prog 7 #[.pointer (some ⟨jb, 0, none⟩), .int .i64 slot, .string id, .agg #[.int .i64 at_, .int .i64 n]] w fun e w1 => e = .returned (.tuple #[]) ∧ w1 = w' := by
  have hjb1 : jb < w.heap.size + 1 := by omega
  have hjb2 : jb < w.heap.size + 2 := by omega
  have hjb3 : jb < w.heap.size + 3 := by omega
  unfold maxLen at hid
  go_enter Yba.func7, Yba.ntmps7
  go_wp2
  go_region
  go_wp2
  go_region
  go_end0
  exact ⟨rfl, rfl⟩

/-- The keys that are read: their numbers and lengths are Go's. -/
def SK.good (k : SK) : Prop := (Lit.int .i64 k.1).wf = true ∧ k.2.size ≤ maxLen

theorem cells49 : Yba.prog.cellsOf 49 = 2 := by kernel_rfl
theorem cells46 : Yba.prog.cellsOf 46 = 2 := by kernel_rfl
theorem cells3 : Yba.prog.cellsOf 3 = 1 := by kernel_rfl
theorem cells9 : Yba.prog.cellsOf 9 = 1 := by kernel_rfl
theorem typesSize : Yba.prog.types.size = 127 := by kernel_rfl
theorem keyType49 : Yba.prog.keyType 49 = true := by kernel_rfl

theorem lits49 (d : Nat) (s : Int) (id : ByteArray) (h1 : (Lit.int .i64 s).wf = true) (h2 : id.size ≤ maxLen) : Yba.prog.keyLits (d + 2) 49 [.int .i64 s, .string id] = some [.int .i64 s, .string id.data.toList] := by
  simp [Program.keyLits, Yba.underlying49, Yba.underlying3, Yba.underlying9, cells49, cells3, cells9, h1, h2]

theorem key_of (k : SK) (h : k.good) : ∃ q, keyOf Yba.prog 49 (kv k) = some q := by
  obtain ⟨s, id⟩ := k
  obtain ⟨h1, h2⟩ := h
  refine ⟨.string (keyBytes [.int .i64 s, .string id.data.toList]), ?_⟩
  obtain ⟨d, e⟩ : ∃ d, Yba.prog.types.size + 1 = d + 2 := ⟨126, by rw [typesSize]⟩
  have hl := lits49 d s id h1 h2
  have hf : (kv (s, id)).formed Yba.prog 49 = true := by simp [Value.formed, kv, Yba.underlying49, cells49]
  have hc : (kv (s, id)).cells.toList = [.int .i64 s, .string id] := rfl
  unfold keyOf
  simp only [Yba.underlying49, keyType49, hf, e, hc, hl, Bool.and_self, if_true, Option.map_some]

def keepL (L : List (SK × SV)) (k : SK) (s : SV) : List (SK × SV) :=
  if (∃ p ∈ L, p.1 = k) ∨ k.2.size < 32 ∨ s.2 = 0 then L else L ++ [(k, s)]

theorem mem_encL {L : List (SK × SV)} {k : SK} {s : SV} (h : (k, s) ∈ L) : (kv k, vv s) ∈ encL L := List.mem_map.2 ⟨(k, s), h, rfl⟩
theorem not_encL {L : List (SK × SV)} {k : SK} (h : ¬ ∃ p ∈ L, p.1 = k) : ∀ p ∈ encL L, p.1 ≠ kv k := by
  intro p hp e
  obtain ⟨q, hq, rfl⟩ := List.mem_map.1 hp
  exact h ⟨q, hq, kv_inj e⟩

/-- 'keep' keeps. -/
theorem keep_any (k : SK) (s : SV) (hk : k.good) (jb mb : Nat) (L : List (SK × SV)) (w : World)
    (hj : w.cell? ⟨jb, 49, none⟩ = some (.map (some mb))) (hm : MapIs Yba.prog 49 w mb (encL L)) :
    Calls Yba.prog 7 #[.pointer (some ⟨jb, 0, none⟩), .int .i64 k.1, .string k.2, vv s] w fun e w' => e = .returned (.tuple #[]) ∧ MapIs Yba.prog 49 w' mb (encL (keepL L k s)) ∧ w.grownBy w' (some mb) := by
  have hjb : jb < w.heap.size := World.block_lt_of_cell? _ _ hj
  obtain ⟨q, hq⟩ := key_of k hk
  by_cases hin : ∃ p ∈ L, p.1 = k
  · obtain ⟨⟨k', a0, n0⟩, hp, rfl⟩ := hin
    have hl : keepL L k' s = L := by
      unfold keepL
      rw [if_pos (Or.inl ⟨_, hp, rfl⟩)]
    simp only [hl]
    refine (keep_there k'.1 k'.2 s.1 s.2 jb mb a0 n0 w hjb hj (fun o1 o2 => ?_) (fun o1 o2 o3 => ?_)).mono fun e w' ⟨he, hg⟩ => ⟨he, hm.kept hg (by simp), grownBy_none hg _⟩
    · exact ((hm.alloc o1).alloc o2).drew.look_hit keyed49 Yba.underlying24 (mem_encL hp) true
    · exact (((hm.alloc o1).alloc o2).alloc o3).drew.look_hit keyed49 Yba.underlying24 (mem_encL hp) true
  · have hnot := not_encL hin
    have hlk : ∀ o1 o2, (Instr.lookup 24 (.map (some mb)) (kv k) true).run Yba.prog ((w.alloc o1).alloc o2).drew = .ok (.tuple #[.agg #[.int .i64 0, .int .i64 0], .bool false]) ((w.alloc o1).alloc o2).drew :=
      fun o1 o2 => ((hm.alloc o1).alloc o2).drew.look_miss keyed49 Yba.underlying24 (zero46 _) hq hnot true
    have hlk3 : ∀ o1 o2 o3, (Instr.lookup 24 (.map (some mb)) (kv k) true).run Yba.prog (((w.alloc o1).alloc o2).alloc o3).drew = .ok (.tuple #[.agg #[.int .i64 0, .int .i64 0], .bool false]) (((w.alloc o1).alloc o2).alloc o3).drew :=
      fun o1 o2 o3 => (((hm.alloc o1).alloc o2).alloc o3).drew.look_miss keyed49 Yba.underlying24 (zero46 _) hq hnot true
    by_cases hno : k.2.size < 32 ∨ s.2 = 0
    · have hl : keepL L k s = L := by
        unfold keepL
        rw [if_pos (Or.inr hno)]
      simp only [hl]
      exact (keep_not k.1 k.2 s.1 s.2 jb mb w hk.2 (by omega) hjb hj hlk hlk3).mono fun e w' ⟨he, hg⟩ => ⟨he, hm.kept hg (by simp), grownBy_none hg _⟩
    · have hl : keepL L k s = L ++ [(k, s)] := by
        unfold keepL
        rw [if_neg (by rintro (h | h); exact hin h; exact hno h)]
      simp only [hl]
      obtain ⟨w', hrun, hm', ht⟩ := ((((hm.alloc (.cells #[.int .i64 s.1, .int .i64 s.2] 46)).alloc (.cells #[.int .i64 k.1, .string k.2] 49)).alloc (.cells #[.int .i64 0, .int .i64 0] 46)).drew.drew).store_new keyed49 Yba.underlying24 hq hnot (vv s)
      refine (keep_new k.1 k.2 s.1 s.2 jb mb w w' hk.2 (by omega) (beq_eq_false_iff_ne.2 (by omega)) hjb hj hlk hlk3 hrun).mono fun e w1 ⟨he, hg⟩ => ?_
      subst hg
      refine ⟨he, ?_, grownBy_trans (grownBy_drew (grownBy_drew (grown3 _ _ _ _ _))) (grownBy_of_turned ht)⟩
      have e1 : encL (L ++ [(k, s)]) = encL L ++ [(kv k, vv s)] := by simp [encL]
      rw [e1]
      exact hm'

end Go.Proofs.Ybulkaihc

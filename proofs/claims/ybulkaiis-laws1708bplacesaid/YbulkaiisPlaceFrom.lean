/-
  placeFrom (function 4) and zzs1708bwant (function 5): their contracts. By the prover of seat 061 (an AI agent).
-/
import Derived.Test.YbulkaiisKit
namespace Go.Proofs.Ybulkaiis
open Go Go.MapKept Go.Maps Go.ChangeMaps Go.RowKit

/-- What placeFrom stores of the hosts from s up to k. -/
def hostsL (H : Nat → ByteArray) (s k : Nat) : List KV := (List.range (k - s)).map fun i => (H (s + i), ((s + i : Nat) : Int))
theorem hostsL_succ (H : Nat → ByteArray) (s k : Nat) (h : s ≤ k) : hostsL H s (k + 1) = hostsL H s k ++ [(H k, (k : Int))] := by
  unfold hostsL
  rw [show k + 1 - s = (k - s) + 1 by omega, List.range_succ, List.map_append]
  simp only [List.map_cons, List.map_nil, show s + (k - s) = k by omega]
theorem hostsL_self (H : Nat → ByteArray) (s k : Nat) (h : k ≤ s) : hostsL H s k = [] := by
  unfold hostsL
  rw [show k - s = 0 by omega]
  rfl

theorem index_str (b n c i : Nat) (W : World) (hi : i < n) : (Instr.indexAt 22 (.slice (some ⟨b, 0, none⟩) n c) (.int .i64 (i : Int))).run Yba.prog W = .ok (.pointer (some ⟨b, i, none⟩)) W := by
  have hadd : (⟨b, 0, none⟩ : Addr).add i = ⟨b, i, none⟩ := by
    unfold Addr.add
    split
    · rename_i h0; rw [h0]
    · simp
  simp [Instr.indexAt, asIntOf, run_underlying Yba.underlying22, hi, hadd, Result.andThen]

/-- There is no index. -/
theorem place_none (w : World) (eb : Nat) (s : Int) (h2 : w.cell? ⟨eb, 2, none⟩ = some (.map none)) : Calls Yba.prog 4 #[.pointer (some ⟨eb, 0, none⟩), .int .i64 s] w fun e w' => e = .returned (.tuple #[]) ∧ w' = w := by
  have qT : ∀ (w : World) (r : Option Nat), (binOp .eql 26 (.map r) (.map none)).run Yba.prog w = .ok (.bool r.isNone) w := fun w r => run_eql_map_nil w _ _ _ r Yba.underlying26
  go_enter Yba.func4, Yba.ntmps4
  go_wp2
  refine bodyPost_ret (results_none rfl _ _ _) rfl ?_
  exact ⟨rfl, rfl⟩

set_option maxRecDepth 100000 in
set_option maxHeartbeats 1000000 in
theorem place_some (w : World) (eb hb mb n s : Nat) (H : Nat → ByteArray) (L0 : List KV) (hn : n ≤ 1024) (h0 : w.cell? ⟨eb, 0, none⟩ = some (.slice (some ⟨hb, 0, none⟩) n n)) (h2 : w.cell? ⟨eb, 2, none⟩ = some (.map (some mb))) (hH : ∀ i, i < n → w.cell? ⟨hb, i, none⟩ = some (.string (H i)) ∧ (H i).size ≤ maxLen) (hm : MapIs Yba.prog 9 w mb (encM (puts L0))) (hne : eb ≠ mb ∧ hb ≠ mb) :
    Calls Yba.prog 4 #[.pointer (some ⟨eb, 0, none⟩), .int .i64 (s : Int)] w fun e w' => e = .returned (.tuple #[]) ∧ MapIs Yba.prog 9 w' mb (encM (puts (L0 ++ hostsL H s n))) ∧ w.grownBy w' (some mb) := by
  have qT : ∀ (w : World) (r : Option Nat), (binOp .eql 26 (.map r) (.map none)).run Yba.prog w = .ok (.bool r.isNone) w := fun w r => run_eql_map_nil w _ _ _ r Yba.underlying26
  go_enter Yba.func4, Yba.ntmps4
  go_wp2
  go_loopw [1] (fun i wi => ∃ (k : Nat), s ≤ k ∧ (k ≤ n ∨ k = s) ∧ i = .int .i64 (k : Nat) ∧ MapIs Yba.prog 9 wi mb (encM (puts (L0 ++ hostsL H s k))) ∧ w.grownBy wi (some mb)) (fun i _ => n - (intOf i).toNat)
  case atStart => exact ⟨s, Nat.le_refl _, Or.inr rfl, rfl, by rw [hostsL_self H s s (Nat.le_refl _), List.append_nil]; exact hm, grownBy_refl _ _⟩
  case round =>
    obtain ⟨k, hsk, hkn, rfl, hM, hg⟩ := hrel
    have c0 := hg.cell h0 (by simpa using hne.1)
    have c2 := hg.cell h2 (by simpa using hne.1)
    by_cases hlt : k < n
    · have q0 := hg.cell (hH k hlt).1 (by simpa using hne.2)
      have hix := fun W => index_str hb n n k W hlt
      obtain ⟨w2, a1, a2, a3⟩ := map_put hM.drew (hH k hlt).2 (k : Int)
      have hg2 := grownBy_trans hg (grownBy_trans (grownBy_dr wr (some mb)) (grownBy_of_turned a3))
      have hM2 : MapIs Yba.prog 9 w2 mb (encM (puts (L0 ++ hostsL H s (k + 1)))) := by
        rw [hostsL_succ H s k hsk, ← List.append_assoc, puts_snoc]
        exact a2
      have hltI : (k : Int) < (n : Int) := by omega
      clear hH hM a2 a3 h0 h2 hm hg
      go_wp2
      go_region
      go_wp2
      go_roundw
      case rel => exact ⟨k + 1, by omega, by omega, by go_num, hM2, hg2⟩
      case measure => simp [intOf]; omega
    · have hfin : hostsL H s n = hostsL H s k := by
        rcases hkn with h | h
        · rw [show k = n by omega]
        · rw [h, hostsL_self H s n (by omega), hostsL_self H s s (Nat.le_refl _)]
      rw [← hfin] at hM
      clear hfin
      have hltI : ¬ (k : Int) < (n : Int) := by omega
      clear hH
      go_wp2
      go_end0
      exact ⟨rfl, hM, hg⟩

def preL (K : Nat → ByteArray) (A : Nat → Int) (p : Nat) : List KV := (List.range p).map fun i => (K i, A i)
theorem preL_length (K : Nat → ByteArray) (A : Nat → Int) (p : Nat) : (preL K A p).length = p := by simp [preL]
theorem preL_succ (K : Nat → ByteArray) (A : Nat → Int) (p : Nat) : preL K A (p + 1) = preL K A p ++ [(K p, A p)] := by simp [preL, List.range_succ]
theorem preL_get (K : Nat → ByteArray) (A : Nat → Int) (p i : Nat) (h : i < p) : (preL K A p)[i]? = some (K i, A i) := by simp [preL, h]
theorem hostsL_length (H : Nat → ByteArray) (s n : Nat) : (hostsL H s n).length = n - s := by simp [hostsL]
theorem hostsL_get (H : Nat → ByteArray) (s n i : Nat) (h : i < n - s) : (hostsL H s n)[i]? = some (H (s + i), ((s + i : Nat) : Int)) := by simp [hostsL, h]

/-- What the law asks of an answer of zzs1708bwant. -/
def WantPost (w : World) (L : List KV) (h : ByteArray) (e : Ending) (w' : World) : Prop := ∃ v ok, e = .returned (.tuple #[.int .i64 v, .bool ok]) ∧ w' = w ∧ (h ∈ L.map (·.1) → ok = true ∧ Last L h v)

theorem want_host {w : World} {H K : Nat → ByteArray} {A : Nat → Int} {p s n j : Nat} (hs : s ≤ j) (hj : j < n) (hno : ∀ i, j + 1 ≤ i → i < n → H i ≠ H j) : WantPost w (preL K A p ++ hostsL H s n) (H j) (.returned (.tuple #[.int .i64 (j : Int), .bool true])) w := by
  refine ⟨_, _, rfl, rfl, fun _ => ⟨rfl, p + (j - s), ?_, fun i q hi hq => ?_⟩⟩
  · rw [List.getElem?_append_right (by rw [preL_length]; omega), preL_length, show p + (j - s) - p = j - s by omega, hostsL_get H s n (j - s) (by omega), show s + (j - s) = j by omega]
  · have hlt := (List.getElem?_eq_some_iff.1 hq).1
    rw [List.length_append, preL_length, hostsL_length] at hlt
    rw [List.getElem?_append_right (by rw [preL_length]; omega), preL_length, hostsL_get H s n (i - p) (by omega)] at hq
    simp at hq
    subst hq
    exact hno _ (by omega) (by omega)
theorem want_pre {w : World} {H K : Nat → ByteArray} {A : Nat → Int} {p s n j : Nat} (hj : j < p) (hno : ∀ i, s ≤ i → i < n → H i ≠ K j) (hnp : ∀ i, j + 1 ≤ i → i < p → K i ≠ K j) : WantPost w (preL K A p ++ hostsL H s n) (K j) (.returned (.tuple #[.int .i64 (A j), .bool true])) w := by
  refine ⟨_, _, rfl, rfl, fun _ => ⟨rfl, j, ?_, fun i q hi hq => ?_⟩⟩
  · rw [List.getElem?_append_left (by rw [preL_length]; omega), preL_get K A p j hj]
  · have hlt := (List.getElem?_eq_some_iff.1 hq).1
    rw [List.length_append, preL_length, hostsL_length] at hlt
    by_cases hip : i < p
    · rw [List.getElem?_append_left (by rw [preL_length]; omega), preL_get K A p i hip] at hq
      simp at hq
      subst hq
      exact hnp i (by omega) hip
    · rw [List.getElem?_append_right (by rw [preL_length]; omega), preL_length, hostsL_get H s n (i - p) (by omega)] at hq
      simp at hq
      subst hq
      exact hno _ (by omega) (by omega)
theorem want_none {w : World} {H K : Nat → ByteArray} {A : Nat → Int} {p s n : Nat} {h : ByteArray} (hno : ∀ i, s ≤ i → i < n → H i ≠ h) (hnp : ∀ i, i < p → K i ≠ h) : WantPost w (preL K A p ++ hostsL H s n) h (.returned (.tuple #[.int .i64 0, .bool false])) w := by
  refine ⟨_, _, rfl, rfl, fun hin => ?_⟩
  exfalso
  obtain ⟨q, hq, rfl⟩ := List.mem_map.1 hin
  rcases List.mem_append.1 hq with hq | hq
  · obtain ⟨i, hi, rfl⟩ := List.mem_map.1 hq
    exact hnp i (List.mem_range.1 hi) rfl
  · obtain ⟨i, hi, rfl⟩ := List.mem_map.1 hq
    have := List.mem_range.1 hi
    exact hno (s + i) (by omega) (by omega) rfl

theorem str_ne {x h : ByteArray} (he : ¬ x = h) : (x.toList == h.toList) = false := by
  rw [← beq_toListBytes]
  exact Bool.eq_false_iff.2 fun e => he ((MapKept.bytes_beq _ _).1 e)

set_option maxRecDepth 100000 in
set_option maxHeartbeats 1000000 in
theorem want_any (w : World) (had pad : Option Addr) (hb hoff n hc pb poff p pc s : Nat) (H K : Nat → ByteArray) (A : Nat → Int) (h : ByteArray) (hn : n ≤ 1024) (hp : p ≤ 1024)
    (hix : ∀ (i : Nat) (W : World), i < n → (Instr.indexAt 22 (.slice had n hc) (.int .i64 (i : Int))).run Yba.prog W = .ok (.pointer (some ⟨hb, hoff + i, none⟩)) W)
    (hiy : ∀ (i : Nat) (W : World), i < p → (Instr.indexAt 23 (.slice pad p pc) (.int .i64 (i : Int))).run Yba.prog W = .ok (.pointer (some ⟨pb, poff + i * 2, none⟩)) W)
    (hH : ∀ i, i < n → w.cell? ⟨hb, hoff + i, none⟩ = some (.string (H i)))
    (hK : ∀ i, i < p → w.cell? ⟨pb, poff + i * 2, none⟩ = some (.string (K i)) ∧ w.cell? ⟨pb, poff + i * 2 + 1, none⟩ = some (.int .i64 (A i))) :
    Calls Yba.prog 5 #[.slice had n hc, .slice pad p pc, .int .i64 (s : Int), .string h] w fun e w' => WantPost w (preL K A p ++ hostsL H s n) h e w' := by
  have hw1 : IntKind.i64.wrap ((n : Int) - 1) = (n : Int) - 1 := by rw [IntKind.wrap_i64]; omega
  have hw2 : IntKind.i64.wrap ((p : Int) - 1) = (p : Int) - 1 := by rw [IntKind.wrap_i64]; omega
  obtain ⟨L, hL⟩ : ∃ L, L = preL K A p ++ hostsL H s n := ⟨_, rfl⟩
  rw [← hL]
  have hLH : Hid (L = preL K A p ++ hostsL H s n) := hL
  clear hL
  go_enter Yba.func5, Yba.ntmps5
  go_wp2
  go_loop [10] (fun i => ∃ (k : Nat), k ≤ n ∧ i = .int .i64 ((k : Int) - 1) ∧ Hid (∀ i, k ≤ i → i < n → H i ≠ h)) (fun i => (intOf i + 1).toNat)
  case atStart => exact ⟨n, Nat.le_refl _, rfl, fun i h1 h2 => by omega⟩
  case round =>
    obtain ⟨k, hk, rfl, hno⟩ := hrel
    by_cases hlt : s < k
    · obtain ⟨j, rfl⟩ : ∃ j, k = j + 1 := ⟨k - 1, by omega⟩
      have q0 := hH j (by omega)
      have hx := fun W => hix j W (by omega)
      have e1 : ((j + 1 : Nat) : Int) - 1 = (j : Int) := by omega
      rw [e1]
      have hsj : (s : Int) ≤ (j : Int) := by omega
      by_cases he : H j = h
      · have hfin : WantPost w L h (.returned (.tuple #[.int .i64 (j : Int), .bool true])) w := by
          rw [hLH.out, ← he]
          exact want_host (by omega) (by omega) (fun i h1 h2 => by rw [he]; exact hno.out i h1 h2)
        rw [he] at q0
        clear hix hiy hH hK hno e1
        go_wp2
        refine bodyPost_ret (results_tmp2 rfl _ _ _) rfl ?_
        exact hfin
      · have hno2 : Hid (∀ i, j ≤ i → i < n → H i ≠ h) := fun i h1 h2 => by
          rcases Nat.eq_or_lt_of_le h1 with e | e
          · rw [← e]; exact he
          · exact hno.out i e h2
        have hwj : IntKind.i64.wrap ((j : Int) - 1) = (j : Int) - 1 := by rw [IntKind.wrap_i64]; omega
        have hne := str_ne he
        clear hix hiy hH hK hno e1 he
        generalize H j = x at *
        go_wp2
        go_round
        case rel => exact ⟨j, by omega, rfl, hno2⟩
        case measure => simp [intOf]
    · have hno2 : Hid (∀ i, s ≤ i → i < n → H i ≠ h) := fun i h1 h2 => hno.out i (by omega) h2
      have hsj : ¬ (s : Int) ≤ (k : Int) - 1 := by omega
      clear hno hH hix
      go_wp2
      go_loop [11] (fun i => ∃ (k : Nat), k ≤ p ∧ i = .int .i64 ((k : Int) - 1) ∧ Hid (∀ i, k ≤ i → i < p → K i ≠ h)) (fun i => (intOf i + 1).toNat)
      case atStart => exact ⟨p, Nat.le_refl _, rfl, fun i h1 h2 => by omega⟩
      case round =>
        clear hsj hlt hk
        obtain ⟨k, hk, rfl, hno⟩ := hrel
        by_cases hlt : 0 < k
        · obtain ⟨j, rfl⟩ : ∃ j, k = j + 1 := ⟨k - 1, by omega⟩
          obtain ⟨q0, q1⟩ := hK j (by omega)
          have hx := fun W => hiy j W (by omega)
          have e1 : ((j + 1 : Nat) : Int) - 1 = (j : Int) := by omega
          rw [e1]
          by_cases he : K j = h
          · have hfin : WantPost w L h (.returned (.tuple #[.int .i64 (A j), .bool true])) w := by
              rw [hLH.out, ← he]
              exact want_pre (by omega) (fun i h1 h2 => by rw [he]; exact hno2.out i h1 h2) (fun i h1 h2 => by rw [he]; exact hno.out i h1 h2)
            rw [he] at q0
            clear hiy hK hno e1
            go_wp2
            refine bodyPost_ret (results_tmp2 rfl _ _ _) rfl ?_
            exact hfin
          · have hno3 : Hid (∀ i, j ≤ i → i < p → K i ≠ h) := fun i h1 h2 => by
              rcases Nat.eq_or_lt_of_le h1 with e | e
              · rw [← e]; exact he
              · exact hno.out i e h2
            have hwj : IntKind.i64.wrap ((j : Int) - 1) = (j : Int) - 1 := by rw [IntKind.wrap_i64]; omega
            have hne := str_ne he
            clear hiy hK hno e1 he
            generalize K j = x at *
            go_wp2
            go_round
            case rel => exact ⟨j, by omega, rfl, hno3⟩
            case measure => simp [intOf]
        · obtain rfl : k = 0 := by omega
          have hfin : WantPost w L h (.returned (.tuple #[.int .i64 0, .bool false])) w := by
            rw [hLH.out]
            exact want_none hno2.out (fun i hi => hno.out i (Nat.zero_le _) hi)
          clear hiy hK hno
          go_wp2
          refine bodyPost_ret (results_tmp2 rfl _ _ _) rfl ?_
          exact hfin
end Go.Proofs.Ybulkaiis

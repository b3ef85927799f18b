/-
  'LawS1705CSchedule' (function 4): the walk. By the prover of seat 061 (an AI agent).
-/
import Derived.Test.YbulkaihcFmtSeen
namespace Go.Proofs.YbulkaihcFmt
open Go Go.MapKept Go.Maps Go.ChangeMaps Go.RowKit

set_option maxRecDepth 100000 in
set_option maxHeartbeats 2000000 in
theorem sched_walk (iad dad rad : Option Addr) (ib ioff n ic db doff dl dc rb roff r rc : Nat) (ids Ds : Nat → Int) (R : Nat → ByteArray) (w : World) (hn : n ≤ 256) (hr : r ≤ 256) (hnr : n * r ≤ 16384)
    (hbi : 0 < n → ib < w.heap.size) (hbd : 0 < dl → db < w.heap.size) (hbr : 0 < r → rb < w.heap.size)
    (hix : ∀ (i : Nat) (W : World), i < n → (Instr.indexAt 25 (.slice iad n ic) (.int .i64 (i : Int))).run Ybaf.prog W = .ok (.pointer (some ⟨ib, ioff + i, none⟩)) W)
    (hid : ∀ (i : Nat) (W : World), i < dl → (Instr.indexAt 35 (.slice dad dl dc) (.int .i64 (i : Int))).run Ybaf.prog W = .ok (.pointer (some ⟨db, doff + i, none⟩)) W)
    (hir : ∀ (i : Nat) (W : World), i < r → (Instr.indexAt 22 (.slice rad r rc) (.int .i64 (i : Int))).run Ybaf.prog W = .ok (.pointer (some ⟨rb, roff + i, none⟩)) W)
    (hci : ∀ i, i < n → w.cell? ⟨ib, ioff + i, none⟩ = some (.int .i64 (ids i)))
    (hcd : ∀ i, i < dl → w.cell? ⟨db, doff + i, none⟩ = some (.int .u8 (Ds i))) (hDs : ∀ i, i < dl → 0 ≤ Ds i ∧ Ds i ≤ 255)
    (hcr : ∀ i, i < r → w.cell? ⟨rb, roff + i, none⟩ = some (.string (R i))) :
    Calls Ybaf.prog 4 #[.slice iad n ic, .slice dad dl dc, .slice rad r rc] w fun e w' => e = .returned (.bool true) ∧ Below w.heap.size w w' := by
  have hmk := make_nodes n hn
  have g1 : ¬ (256 : Int) < (n : Int) := by omega
  have g2 : ¬ (256 : Int) < (r : Int) := by omega
  obtain ⟨m, hm⟩ : ∃ m, m = r * n := ⟨_, rfl⟩
  have g3 : (n : Int) * (r : Int) = (m : Int) := by rw [hm, Int.natCast_mul, Int.mul_comm]
  have hm1 : m ≤ 16384 := by rw [hm, Nat.mul_comm]; exact hnr
  have hmH : Hid (m = r * n) := hm
  clear hm hnr
  have g4 : ¬ (16384 : Int) < (m : Int) := by omega
  have g5 : IntKind.i64.wrap (m : Int) = (m : Int) := by rw [IntKind.wrap_i64]; omega
  go_enter Ybaf.func4, Ybaf.ntmps4
  go_wp2
  go_loopw [46] (fun i wi => ∃ (k : Nat), k ≤ n ∧ i = .int .i64 k ∧ Nodes w wi w.heap.size n k ids (.slice dad dl dc)) (fun i _ => n - (intOf i).toNat)
  case atStart => exact ⟨0, Nat.zero_le _, rfl, Nodes.start w n ids _⟩
  case round =>
    clear hmk
    obtain ⟨k, hk, rfl, hN⟩ := hrel
    by_cases hlt : k < n
    · have q0 : wr.cell? ⟨ib, ioff + k, none⟩ = some (.int .i64 (ids k)) := (hN.below.cell (p := ⟨ib, ioff + k, none⟩) (hbi (by omega))).trans (hci k hlt)
      have q1 := hN.row.cell hlt
      rw [if_neg (by omega)] at q1
      have q2 := hN.row.frozen k
      have q3 : w.heap.size + 1 < wr.heap.size := hN.row.lt
      have q4 : w.heap.size + 1 < wr.heap.size + 1 := by omega
      have hx1 := fun W => hix k W hlt
      have hx2 := fun W => index_node (w.heap.size + 1) n k W hlt
      clear hix hid hir hci hcd hcr g4 g5
      go_wp2
      go_roundw
      case rel => exact ⟨k + 1, by omega, by go_num, hN.step rfl rfl⟩
      case measure => simp [intOf]; omega
    · obtain rfl : n = k := by omega
      have hmf : ∀ (fn : Fn) (first cap : Array Value) (w : World), (Instr.makeFunc fn first cap).run Ybaf.prog w = .ok (.func fn first cap) w := fun _ _ _ _ => rfl
      obtain ⟨T, hT, hsub⟩ := submit_seen hN hn hr hmH.out hbd hbr hid hir hcd hDs hcr
      clear hN hid hcd hDs
      go_wp2_with fail
      refine hsub.mono ?_
      rintro x w1 ⟨rfl, B, nv, dv, nt, ta, ct, al, cl, av, G, hSeen⟩
      clear hsub hmf
      generalize wr.heap.size + 1 = kb at *
      generalize wr.heap.size = lg at *
      obtain ⟨gl, hgl⟩ := hSeen.logAddr
      obtain ⟨gt, hgt⟩ := hSeen.timeAddr
      obtain ⟨c12, c13, c1, c2, cl0⟩ := hSeen.cells
      go_wp2_with fail
      go_loopw [16] (fun i wi => ∃ (k : Nat), k ≤ m ∧ i = .int .i64 k ∧ Seen w wi B (kb + 1) lg nv dv m (fun p => ids (p % n)) T (fun p => (((p % n : Nat) : Int), R (p / n))) nt ta ct al cl av G) (fun i _ => m - (intOf i).toNat)
      case atStart => exact ⟨0, Nat.zero_le _, rfl, hSeen⟩
      case round =>
        clear hSeen c12 c13 c1 c2 cl0
        obtain ⟨q, hq, rfl, hSeen⟩ := hrel
        obtain ⟨c12, c13, c1, c2, cl0⟩ := hSeen.cells
        by_cases hlt : q < m
        · have hn0 : 0 < n := by
            rcases Nat.eq_zero_or_pos n with h0 | h0
            · have := hmH.out
              rw [h0] at this
              omega
            · exact h0
          have hnI : (0 : Int) < (n : Int) := by omega
          have hql : q % n < n := Nat.mod_lt _ hn0
          have hmod : ((q % n : Nat) : Int) = ((q : Nat) : Int) % ((n : Nat) : Int) := by omega
          have hx1 := fun W => hix (q % n) W hql
          rw [hmod] at hx1
          have q0 : wr.cell? ⟨ib, ioff + q % n, none⟩ = some (.int .i64 (ids (q % n))) := (hSeen.below.cell (p := ⟨ib, ioff + q % n, none⟩) (hbi (by omega))).trans (hci _ hql)
          obtain ⟨r0, r1, r2, r3, r4⟩ := hSeen.logAt hgl q hlt
          have hal : al = some ⟨gl, 0, none⟩ := hgl (by omega)
          have hx2 := fun W => index_log gl m cl q W hlt
          rw [← hal] at hx2
          have hlg : lg < wr.heap.size := World.block_lt_of_cell? _ _ cl0
          have hib : ib < wr.heap.size := World.block_lt_of_cell? _ _ q0
          have hS2 := (hSeen.same (World.grownBy_alloc wr (.cells #[.int .i64 0, .int .i64 0, .int .i64 (ids (q % n)), .int .i64 (T q)] 70) none)).same (grownBy_dr _ _)
          have hmodH : Hid (((q % n : Nat) : Int) = ((q : Nat) : Int) % ((n : Nat) : Int)) := hmod
          have HA : Hid (al = some ⟨gl, 0, none⟩) := hal
          have hltI : (q : Int) < (m : Int) := by omega
          clear hmod hal hSeen c12 c13 c1 c2 hix hci hir hcr hgl hgt
          obtain ⟨o, ho⟩ : ∃ o, o = ioff + q % n := ⟨_, rfl⟩
          rw [← ho] at q0 hx1
          clear ho
          obtain ⟨d, hd⟩ : ∃ d, d = ids (q % n) := ⟨_, rfl⟩
          rw [← hd] at q0 r2 hS2
          have HD : Hid (d = ids (q % n)) := hd
          clear hd
          obtain ⟨a, ha⟩ : ∃ a, a = q * 4 := ⟨_, rfl⟩
          rw [← ha] at r0 r1 r2 r3 hx2
          clear ha
          go_wp2_with fail
          go_region
          go_wp2
          go_roundw
          case rel => exact ⟨q + 1, by omega, by go_num, hS2⟩
          case measure => simp [intOf]; omega
        · obtain rfl : m = q := by omega
          clear hlt hq
          obtain ⟨D, hD⟩ : ∃ D : Nat → Del, D = fun p => (((p % n : Nat) : Int), R (p / n)) := ⟨_, rfl⟩
          rw [← hD] at hSeen
          have hDH : Hid (D = fun p => (((p % n : Nat) : Int), R (p / n))) := hD
          clear hD
          obtain ⟨I, hI⟩ : ∃ I : Nat → Int, I = fun p => ids (p % n) := ⟨_, rfl⟩
          rw [← hI] at hSeen
          clear hI hix hci hbi
          have hsrt := (right_of (sentL T D m)).sorted
          have hnum := hSeen.num
          have hall := sumT_all T D m
          have hmem := fun t h => times_mem T D m t h
          have hpos := fun t h => cntT_pos T D m t h
          obtain ⟨TS, hTS⟩ : ∃ TS, TS = timesOf (sentL T D m) := ⟨_, rfl⟩
          rw [← hTS] at hsrt hnum hall hmem hpos
          have hTSH : Hid (TS = timesOf (sentL T D m)) := hTS
          have hnumH : Hid (nt = TS.length) := hnum
          have hntm : nt ≤ m := by
            rw [hnum, hTS]
            exact times_le T D m
          have hntm2 : nt ≤ 16384 := by omega
          clear hTS hnum
          go_wp2_with fail
          go_loopw [125, 18, 19] (fun i s18 s19 wi => ∃ (j : Nat) (prev : Int), j ≤ nt ∧ i = .int .i64 j ∧ s18 = .int .i64 (sumT T m (TS.take j) : Nat) ∧ s19 = .int .i64 prev ∧ (∀ t, TS[j]? = some t → prev < t) ∧ Seen w wi B (kb + 1) lg nv dv m I T D nt ta ct al cl av G) (fun i _ _ _ => nt - (intOf i).toNat)
          case atStart =>
            refine ⟨0, 0, Nat.zero_le _, rfl, rfl, rfl, fun t ht => ?_, hSeen⟩
            obtain ⟨p, _, rfl⟩ := hmem t (List.mem_of_getElem? ht)
            have := (hT p).1
            omega
          case round =>
            clear hSeen c12 c13 c1 c2 cl0
            obtain ⟨j, prev, hj, rfl, rfl, rfl, hprev, hSeen⟩ := hrel
            obtain ⟨c12, c13, c1, c2, cl0⟩ := hSeen.cells
            by_cases hlt : j < nt
            · obtain ⟨t, ht⟩ : ∃ t, TS[j]? = some t := ⟨TS[j]'(by have := hnumH.out; omega), List.getElem?_eq_getElem _⟩
              have htm : t ∈ TS := List.mem_of_getElem? ht
              have hpt := hprev t ht
              obtain ⟨p0, hp0, hTp⟩ := hmem t htm
              have ht1 : 1 ≤ t ∧ t ≤ 256 := by rw [← hTp]; exact hT p0
              obtain ⟨t1, t2⟩ := ht1
              have hta : ta = some ⟨gt, 0, none⟩ := hgt (by omega)
              have hx1 := fun W => index_time gt nt ct j W hlt
              rw [← hta] at hx1
              have hct := hSeen.timeAt hgt (j := j) (t := t) (by rw [← hTSH.out]; exact ht)
              obtain ⟨mb, gd, cd, hav, hown, hin⟩ := hSeen.look (t := t) (by rw [← hTSH.out]; exact htm)
              have hlk := (hSeen.fly.hmap mb hav).2.look_hit keyed3 Ybaf.underlying26 hin false
              rw [← hav] at hlk
              have hc0 := hpos t htm
              have hcm := cntT_le T t m
              have hnext := sorted_next hsrt ht
              have hsum : sumT T m (TS.take (j + 1)) = sumT T m (TS.take j) + cntT T t m := by rw [take_succ_snoc TS j t ht, sumT_snoc]
              have hsle := sumT_take_le T m TS hsrt (j + 1)
              rw [hsum] at hsle
              have hsumH : Hid (sumT T m (TS.take (j + 1)) = sumT T m (TS.take j) + cntT T t m) := hsum
              have HTA : Hid (ta = some ⟨gt, 0, none⟩) := hta
              have HAV : Hid (av = some mb) := hav
              have HTP : Hid (T p0 = t) := hTp
              have hltI : (j : Int) < (nt : Int) := by omega
              clear hsum hta hav hTp hin hprev hall hmem hpos
              generalize sumT T m (TS.take j) = S0 at hsumH hsle ⊢
              obtain ⟨C, hC⟩ : ∃ C, C = cntT T t m := ⟨_, rfl⟩
              have hCH : Hid (C = cntT T t m) := hC
              have hsumH2 : Hid (sumT T m (TS.take (j + 1)) = S0 + C) := by rw [hC]; exact hsumH
              rw [← hC] at hown hlk hc0 hcm hsle
              clear hC hsumH
              simp only [Bool.false_eq_true, if_false] at hlk
              go_wp2_with fail
              go_loopw [24, 23] (fun i s23 wi => ∃ (q : Nat), q ≤ m ∧ i = .int .i64 q ∧ s23 = .int .i64 (cntT T t q : Nat) ∧ Seen w wi B (kb + 1) lg nv dv m I T D nt ta ct al cl av G ∧ wi.ownsRow B 49 5 (.slice (some ⟨gd, 0, none⟩) C cd) C (delCells (sentAt (sentL T D m) t))) (fun i _ _ => m - (intOf i).toNat)
              case atStart => exact ⟨0, Nat.zero_le _, rfl, rfl, hSeen, hown⟩
              case round =>
                clear hSeen c12 c13 c1 c2 cl0 hown hct hlk
                obtain ⟨q, hq, rfl, rfl, hSeen, hown⟩ := hrel
                obtain ⟨c12, c13, c1, c2, cl0⟩ := hSeen.cells
                by_cases hltq : q < m
                · obtain ⟨r0, r1, r2, r3, r4⟩ := hSeen.logAt hgl q hltq
                  have hal : al = some ⟨gl, 0, none⟩ := hgl (by omega)
                  have hx2 := fun W => index_log gl m cl q W hltq
                  rw [← hal] at hx2
                  have HA : Hid (al = some ⟨gl, 0, none⟩) := hal
                  have hltqI : (q : Int) < (m : Int) := by omega
                  have hcs := cntT_succ T t q
                  by_cases htq : T q = t
                  · rw [if_pos htq] at hcs
                    have hcl := cntT_lt T t q m hltq htq
                    have hn0 : 0 < n := by
                      rcases Nat.eq_zero_or_pos n with h0 | h0
                      · have := hmH.out
                        rw [h0] at this
                        omega
                      · exact h0
                    have hnI : (0 : Int) < (n : Int) := by omega
                    have hmod : ((q % n : Nat) : Int) = ((q : Nat) : Int) % ((n : Nat) : Int) := by omega
                    have hdiv : ((q / n : Nat) : Int) = ((q : Nat) : Int) / ((n : Nat) : Int) := by omega
                    have hxr : q / n < r := Nat.div_lt_of_lt_mul (by rw [Nat.mul_comm, ← hmH.out]; exact hltq)
                    have hw64 := wrap_div q n (by omega)
                    have hx3 := fun W => hir (q / n) W hxr
                    rw [hdiv] at hx3
                    have q0 : wr.cell? ⟨rb, roff + q / n, none⟩ = some (.string (R (q / n))) := (hSeen.below.cell (p := ⟨rb, roff + q / n, none⟩) (hbr (Nat.lt_of_le_of_lt (Nat.zero_le _) hxr))).trans (hcr _ hxr)
                    have hgd : gd < wr.heap.size := (hown.lt gd rfl).2
                    have hDq : D q = (((q % n : Nat) : Int), R (q / n)) := by rw [hDH.out]
                    rw [← hCH.out] at hcl
                    obtain ⟨e0, e1, e2, e3, e4⟩ := row_cell hown (i := cntT T t q) (d := D q) (sentAt_get T D m t q hltq htq) hcl
                    rw [hDq] at e1 e3
                    simp only [hmod] at e1 e3
                    have hx4 := fun W => index_row gd C cd (cntT T t q) W hcl
                    have hrb : rb < wr.heap.size := World.block_lt_of_cell? _ _ q0
                    have hclI : ¬ (C : Int) ≤ ((cntT T t q : Nat) : Int) := by omega
                    have hcq := cntT_le T t q
                    have hne := neq_same (R (q / n)) ((q : Int) % (n : Int))
                    have hcsH : Hid (cntT T t (q + 1) = cntT T t q + 1) := hcs
                    have hg2 : wr.grownBy ((wr.alloc (.cells #[.int .i64 (-1), .int .i64 ((q : Int) % (n : Int)), .pointer none, .string (R (q / n)), .int .i64 0] 49)).drew).drew none := grownBy_trans (World.grownBy_alloc _ _ _) (grownBy_trans (grownBy_dr _ _) (grownBy_dr _ _))
                    have hS2 := hSeen.same hg2
                    have ho2 := hown.kept hg2 (Or.inr (by simp [Value.ownBlock]))
                    rw [htq] at r3
                    obtain ⟨a, ha⟩ : ∃ a, a = q * 4 := ⟨_, rfl⟩
                    rw [← ha] at r0 r1 r2 r3 hx2
                    generalize roff + q / n = oq at q0 hx3
                    generalize R (q / n) = rs at q0 e3 hne hS2 ho2
                    generalize hcc : cntT T t q = c at *
                    have hccH : Hid (cntT T t q = c) := hcc
                    obtain ⟨f, hf⟩ : ∃ f, f = c * 5 := ⟨_, rfl⟩
                    rw [← hf] at e0 e1 e2 e3 e4 hx4
                    have hbn : (t != t) = false := by simp
                    clear hcs hal ha hx1 c12 c13 c1 c2 hcc hf hSeen hown htq hDq hmod hdiv hg2 hir hcr
                    go_wp2_with fail
                    go_region
                    go_wp2_with fail
                    go_region
                    go_wp2_with fail
                    go_roundw
                    case rel => exact ⟨q + 1, by omega, by go_num, by rw [hcsH.out]; go_num, hS2, ho2⟩
                    case measure => simp [intOf]; omega
                  · rw [if_neg htq] at hcs
                    have hcsH : Hid (cntT T t (q + 1) = cntT T t q) := hcs
                    obtain ⟨tq, htqe⟩ : ∃ tq, tq = T q := ⟨_, rfl⟩
                    rw [← htqe] at r3 htq
                    obtain ⟨a, ha⟩ : ∃ a, a = q * 4 := ⟨_, rfl⟩
                    rw [← ha] at r0 r1 r2 r3 hx2
                    have hbn : (tq != t) = true := by simpa using htq
                    clear hcs hal ha htqe hx1 c12 c13 c1 c2
                    go_wp2_with fail
                    go_roundw
                    case rel => exact ⟨q + 1, by omega, by go_num, by rw [hcsH.out], hSeen, hown⟩
                    case measure => simp [intOf]; omega
                · obtain rfl : m = q := by omega
                  rw [← hCH.out]
                  have hb0 : ((C : Int) == 0) = false := by simp; omega
                  have hb1 : ((C : Int) != (C : Int)) = false := by simp
                  clear hx1 hown hir hcr c12 c13 c1 c2 cl0 hT
                  go_wp2_with fail
                  go_roundw
                  case rel =>
                    refine ⟨j + 1, t, by omega, by go_num, ?_, rfl, hnext, hSeen⟩
                    rw [hsumH2.out]
                    go_num
                  case measure => simp [intOf]; omega
            · obtain rfl : nt = j := by omega
              have hfull : sumT T m (TS.take nt) = m := by rw [hnumH.out, List.take_length]; exact hall
              rw [hfull] at *
              have hml := fun ty => hSeen.mapLen ty
              have hml2 := fun ty => (hSeen.same (grownBy_dr _ _)).mapLen ty
              have hBel := (hSeen.same (grownBy_dr _ _)).below
              clear hSeen hfull hall hmem hpos hsrt
              go_wp2_with fail
              go_region
              go_wp2
              go_ret
              exact ⟨rfl, hBel⟩
end Go.Proofs.YbulkaihcFmt

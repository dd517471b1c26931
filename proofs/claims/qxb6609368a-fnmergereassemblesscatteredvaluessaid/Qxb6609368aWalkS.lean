/-
  SEAT b6609368a: the walk of FnMergeReassemblesScatteredValues.
-/
import Derived.Test.Qxb6609368aSwap
namespace Go.Proofs.Qxb6609368a
open Go.RowKit

theorem sameQ (h : Hd) (w : World) (m n : Nat) (hv : VRow w h) :
    Calls Try.prog 13 #[.slice h.a h.n h.c, .slice h.a h.n h.c] (w.drewN (m + n)) fun e w'' => e = .returned (.bool true) ∧ ∃ j, w'' = w.drewN (m + j) :=
  (sameValue h (w.drewN (m + n)) (hv.below (B := w.heap.size) (w' := w.drewN (m + n)) ⟨rfl, rfl, rfl, Nat.le_refl _, fun _ _ => rfl⟩ (Nat.le_refl _))).mono fun _ _ ⟨he, j, hj⟩ => ⟨he, n + j, by rw [hj, World.drewN_drewN, Nat.add_assoc]⟩

set_option maxHeartbeats 4000000 in
set_option maxRecDepth 100000 in
theorem walkS_main (a0 a2 : Option Addr) (c0 c2 : Nat) (kind : Int) (ns : List Int) (ks : List (Int × Hd)) (w : World) (hargs : Args w a0 a2 ns ks) (hn0 : 0 < ns.length) (hn : ns.length ≤ 4096) (hN : ks.length ≤ 4096) (hk1 : 1 ≤ kind) (hk2 : kind ≤ 15) :
    Calls Try.prog 3 #[.slice a0 ns.length c0, .int .u8 kind, .slice a2 ks.length c2] w fun e w' => e = .returned (.bool true) ∧ Below w.heap.size w w' := by
  have HA : Hid (Args w a0 a2 ns ks) := hargs
  have hm26 := run_make_row' (P := Try.prog) 26 4 (.bool false) 1 Try.underlying26 info4 rfl .i64 .i64 ns.length (by omega) (by omega)
  have hm30 := run_make_row' (P := Try.prog) 30 3 (.int .i64 0) 8 Try.underlying30 info3 rfl .i64 .i64 ns.length (by omega) (by omega)
  have hm3N := run_make_row' (P := Try.prog) 30 3 (.int .i64 0) 8 Try.underlying30 info3 rfl .i64 .i64 ks.length (by omega) (by omega)
  have hm31 := run_make_row' (P := Try.prog) 31 32 (.slice none 0 0) 24 Try.underlying31 info32 rfl .i64 .i64 ns.length (by omega) (by omega)
  clear hargs
  go_enter Try.func3, Try.ntmps3
  go_wp2_with fail
  refine (bytes8 a0 a2 ns.length c0 c2 kind ks w HA.out.keys HA.out.vals (by unfold maxLen; omega) (by unfold maxLen; omega)).mono ?_
  rintro e w' ⟨⟨q, rfl⟩, rfl⟩
  cases q with
  | false =>
    go_wp2_with fail
    go_ret
    exact ⟨rfl, Below.refl _ _⟩
  | true =>
    go_wp2_with fail
    refine (scatterBytes a0 a2 ns.length c0 c2 ks _ HA.out.keys HA.out.vals hN hn).mono ?_
    rintro e w' ⟨⟨v, rfl⟩, rfl⟩
    by_cases hv : 1048576 < v
    · go_wp2_with fail
      go_ret
      exact ⟨rfl, Below.refl _ _⟩
    · go_wp2_with fail
      go_loopw [6, 9] (fun r i wr => ∃ (k : Nat) (C : Array Value), k ≤ ks.length ∧ i = .int .i64 k ∧ r = .bool false ∧ wr = w'.alloc (.cells C 4) ∧ Hid (C.size = ns.length) ∧ Hid (∀ p, p < ns.length → ∃ q, C[p]? = some (.bool q) ∧ (q = true → ∃ j, j < k ∧ kP ks j = (p : Int))) ∧ Hid (∀ j, j < k → 0 ≤ kP ks j ∧ kP ks j < ns.length)) (fun _ i _ => ks.length - (intOf i).toNat)
      case atStart =>
        refine ⟨0, _, Nat.zero_le _, rfl, rfl, rfl, size_madeCells _ _, fun p hp => ⟨false, ?_, fun h => by cases h⟩, fun j hj => by omega⟩
        simp [madeCells, hp, Nat.mod_one]
      case round =>
        obtain ⟨k, C, hk, rfl, rfl, rfl, hC, hS, hP⟩ := hrel
        by_cases hlt : k < ks.length
        · obtain ⟨b, off, rfl, hc⟩ := HA.out.keys (by omega)
          have c1 := (hc k hlt).1
          have hbl : b < w'.heap.size := World.block_lt_of_cell? w' _ c1
          have b2 : (k : Int) < (ks.length : Int) := by omega
          obtain ⟨x, hx⟩ : ∃ x, x = kP ks k := ⟨_, rfl⟩
          rw [← hx] at c1
          have HX : Hid (x = kP ks k) := hx
          clear hc hx hm26 hm30 hm3N hm31
          by_cases q1 : x < 0
          · have d1 : decide (x < 0) = true := by simp [q1]
            go_wp2_with fail
            go_ret
            exact ⟨rfl, (Below.refl _ _).alloc (Nat.le_refl _) _⟩
          · have d1 : decide (x < 0) = false := by simp; omega
            by_cases q2 : (ns.length : Int) ≤ x
            · have d2 : decide ((ns.length : Int) ≤ x) = true := by simp [q2]
              go_wp2_with fail
              go_ret
              exact ⟨rfl, (Below.refl _ _).alloc (Nat.le_refl _) _⟩
            · have d2 : decide ((ns.length : Int) ≤ x) = false := by simp; omega
              obtain ⟨p, rfl⟩ : ∃ p : Nat, x = (p : Int) := ⟨x.toNat, by omega⟩
              have hpC : Hid (p < C.size) := by have := hC.out; show p < C.size; omega
              obtain ⟨q0, hq0, _⟩ := hS.out p (by omega)
              have hpn : (p : Int) < (ns.length : Int) := by omega
              go_wp2_with fail
              go_roundw
              case rel =>
                refine ⟨k + 1, C.setIfInBounds p (.bool true), by omega, by go_num, rfl, rfl, by simpa [Hid] using hC.out, fun r hr => ?_, fun j hj => ?_⟩
                · by_cases e : r = p
                  · subst e
                    exact ⟨true, by simp [hpC.out], fun _ => ⟨k, by omega, HX.out.symm⟩⟩
                  · obtain ⟨q, hq1, hq2⟩ := hS.out r hr
                    refine ⟨q, by rw [Array.getElem?_setIfInBounds, if_neg (fun h => e h.symm)]; exact hq1, fun hq => ?_⟩
                    obtain ⟨j, hj, hj2⟩ := hq2 hq
                    exact ⟨j, by omega, hj2⟩
                · by_cases e : j = k
                  · rw [e, ← HX.out]; omega
                  · exact hP.out j (by omega)
              case measure => simp [intOf]; omega
        · obtain rfl : ks.length = k := by omega
          go_wp2_with fail
          go_loopw [6, 10] (fun r i wr => ∃ p : Nat, p ≤ ns.length ∧ i = .int .i64 p ∧ r = .bool false ∧ wr = w'.alloc (.cells C 4) ∧ Hid (∀ q, q < p → C[q]? = some (.bool true))) (fun _ i _ => ns.length - (intOf i).toNat)
          case atStart => exact ⟨0, Nat.zero_le _, rfl, rfl, rfl, fun q hq => by omega⟩
          case round =>
            obtain ⟨p, hp, rfl, rfl, rfl, hT⟩ := hrel
            by_cases hpn : p < ns.length
            · obtain ⟨q, hq1, hq2⟩ := hS.out p hpn
              have b2 : (p : Int) < (ns.length : Int) := by omega
              clear hq2
              cases q with
              | false =>
                go_wp2_with fail
                go_ret
                exact ⟨rfl, (Below.refl _ _).alloc (Nat.le_refl _) _⟩
              | true =>
                go_wp2_with fail
                go_roundw
                case rel =>
                  refine ⟨p + 1, by omega, by go_num, by first | trivial | rfl, by first | trivial | rfl, fun q hq => ?_⟩
                  by_cases e : q = p
                  · rw [e]; exact hq1
                  · exact hT.out q (by omega)
                case measure => simp [intOf]; omega
            · obtain rfl : ns.length = p := by omega
              have HALL : Hid (∀ p, p < ns.length → ∃ j, j < ks.length ∧ kP ks j = (p : Int)) := fun p hp => by
                obtain ⟨q, hq1, hq2⟩ := hS.out p hp
                have := hT.out p hp
                rw [this] at hq1
                simp at hq1
                exact hq2 hq1
              obtain ⟨w1, hw1⟩ : ∃ w1, w1 = w'.alloc (.cells C 4) := ⟨_, rfl⟩
              have B1 : Hid (Below w'.heap.size w' w1) := by rw [hw1]; exact (Below.refl _ _).alloc (Nat.le_refl _) _
              have A1 : Hid (Args w1 a0 a2 ns ks) := HA.out.below B1.out (Nat.le_refl _)
              rw [← hw1]
              clear hw1 hS hT HA hC
              go_wp2_with fail
              go_loopw [12] (fun i wr => ∃ (k : Nat) (D : Array Value), k ≤ ns.length ∧ i = .int .i64 k ∧ wr = w1.alloc (.cells D 3) ∧ Hid (D.size = ns.length)) (fun i _ => ns.length - (intOf i).toNat)
              case atStart => exact ⟨0, _, Nat.zero_le _, rfl, rfl, size_madeCells _ _⟩
              case round =>
                obtain ⟨k, D, hk, rfl, rfl, hD⟩ := hrel
                by_cases hlt : k < ns.length
                · have b2 : (k : Int) < (ns.length : Int) := by omega
                  obtain ⟨d0, hd0⟩ : ∃ d0, D[k]? = some d0 := ⟨_, Array.getElem?_eq_getElem (by have := hD.out; omega)⟩
                  clear hm26 hm30 hm3N hm31
                  go_wp2_with fail
                  go_roundw
                  case rel => exact ⟨k + 1, D.setIfInBounds k (.int .i64 k), by omega, by go_num, rfl, by simpa [Hid] using hD.out⟩
                  case measure => simp [intOf]; omega
                · obtain rfl : ns.length = k := by omega
                  obtain ⟨w2, hw2⟩ : ∃ w2, w2 = w1.alloc (.cells D 3) := ⟨_, rfl⟩
                  have bel12 : Below w1.heap.size w1 w2 := by rw [hw2]; exact (Below.refl _ _).alloc (Nat.le_refl _) _
                  have B2 : Hid (Below w'.heap.size w' w2) := B1.out.trans (bel12.mono B1.out.size)
                  have A2 : Hid (Args w2 a0 a2 ns ks) := A1.out.below bel12 (Nat.le_refl _)
                  rw [← hw2]
                  obtain ⟨bs, hbs⟩ : ∃ bs, bs = w1.heap.size := ⟨_, rfl⟩
                  rw [← hbs]
                  clear hw2 hD A1 B1 bel12 hbs
                  go_wp2_with fail
                  have hfs := fam_start w2 ns.length ks
                  obtain ⟨B, hB⟩ : ∃ B, B = w2.heap.size := ⟨_, rfl⟩
                  rw [← hB] at hfs
                  rw [← hB]
                  have HB : Hid (B = w2.heap.size) := hB
                  have hbB : w'.heap.size ≤ B := by rw [hB]; exact B2.out.size
                  clear hB
                  go_loopw [15, 16] (fun i p wr => ∃ k : Nat, k ≤ ks.length ∧ i = .int .i64 k ∧ Hid (Fam w2 B ns.length ks k wr)) (fun i _ _ => ks.length - (intOf i).toNat)
                  case atStart => exact ⟨0, Nat.zero_le _, rfl, hfs⟩
                  case round =>
                    clear hfs
                    obtain ⟨k, hk, rfl, hF⟩ := hrel
                    by_cases hlt : k < ks.length
                    · obtain ⟨b, off, rfl, hc⟩ := A2.out.keys (by omega)
                      have ck := hc k hlt
                      have hbl : b < B := by rw [HB.out]; exact World.block_lt_of_cell? w2 _ ck.1
                      have c1 : wr.cell? ⟨b, off + k * 2, none⟩ = some (.int .i64 (kP ks k)) := by rw [hF.out.below.cell (p := ⟨b, off + k * 2, none⟩) (by show b < B; omega)]; exact ck.1
                      have c2 : wr.cell? ⟨b, off + k * 2 + 1, none⟩ = some (.slice (kV ks k).a (kV ks k).n (kV ks k).c) := by rw [hF.out.below.cell (p := ⟨b, off + k * 2 + 1, none⟩) (by show b < B; omega)]; exact ck.2
                      have hpp := hP.out k hlt
                      obtain ⟨p, hp⟩ : ∃ p : Nat, kP ks k = (p : Int) := ⟨(kP ks k).toNat, by omega⟩
                      have hpn : p < ns.length := by omega
                      obtain ⟨f, hf, _⟩ := hF.out.idx
                      have f0 := hf.cell hlt
                      have f1 := hf.frozen k
                      obtain ⟨L, hL, hO, hDi⟩ := hF.out.lists
                      have l0 := hL.cell hpn
                      obtain ⟨g, c, w5, hrun, ⟨o5, ho5⟩, hz5, hF5⟩ := fam_append hF.out hlt hN hp hpn hL hO hDi 32
                      have hBB : ¬ b = B := by omega
                      have b2 : (k : Int) < (ks.length : Int) := by omega
                      have b3 : (p : Int) < (ns.length : Int) := by omega
                      have HF5 : Hid (Fam w2 B ns.length ks (k + 1) (w5.setCell ⟨B + 1, p, none⟩ (.slice (some ⟨g, 0, none⟩) (cnt ks p k + 1) c))) := hF5
                      rw [hp] at c1
                      have hlb : B + 1 < wr.heap.size := hL.lt
                      have hbw : b < wr.heap.size := by omega
                      generalize kV ks k = u at *
                      generalize cnt ks p k = cc at *
                      generalize L p = Lp at *
                      clear hp hpp hc ck hf hO hDi hL hF5 hF hm26 hm30 hm3N hm31
                      go_wp2_with fail
                      go_region_law (refine step_append_run rfl _ _ 32 rfl _ _ _ _ rfl rfl hrun ?_)
                      all_goals
                        go_wp2_with fail
                        go_roundw
                        case rel => exact ⟨k + 1, by omega, by go_num, HF5⟩
                        case measure => simp [intOf]; omega
                    · obtain rfl : ks.length = k := by omega
                      obtain ⟨G, Cp, hLs⟩ := hF.out.lists' HALL.out
                      have B4 : Hid (Below w'.heap.size w' wr) := B2.out.trans (hF.out.below.mono hbB)
                      have A4 : Hid (Args wr a0 a2 ns ks) := A2.out.below hF.out.below (by rw [HB.out]; exact Nat.le_refl _)
                      have HL : Hid (Lists wr B ns.length ks G Cp) := hLs
                      clear hLs hF A2 B2 hm26 hm30 hm3N hm31
                      have hm34 := run_make34 ns.length hn
                      go_wp2_with fail
                      have hrs := rs_start wr ns.length ns ks G Cp
                      obtain ⟨br, hbr⟩ : ∃ br, br = wr.heap.size := ⟨_, rfl⟩
                      rw [← hbr] at hrs
                      rw [← hbr]
                      have HBR : Hid (br = wr.heap.size) := hbr
                      have hbr4 : w'.heap.size ≤ br := by rw [hbr]; exact B4.out.size
                      obtain ⟨w4, hw4⟩ : ∃ w4, w4 = wr := ⟨_, rfl⟩
                      rw [← hw4] at hrs
                      clear hbr
                      go_loopw [18] (fun i wr => ∃ k : Nat, k ≤ ns.length ∧ i = .int .i64 k ∧ Hid (Rs w4 br ns.length ns ks G Cp k wr)) (fun i _ => ns.length - (intOf i).toNat)
                      case atStart => rw [← hw4]; exact ⟨0, Nat.zero_le _, rfl, hrs⟩
                      case round =>
                        subst hw4
                        clear hrs
                        obtain ⟨k, hk, rfl, hR⟩ := hrel
                        by_cases hlt : k < ns.length
                        · obtain ⟨f, hf, _⟩ := hR.out.row
                          have f0 := hf.cell (i := k * 3) (by omega)
                          have f1 := hf.cell (i := k * 3 + 1) (by omega)
                          have f2 := hf.cell (i := k * 3 + 2) (by omega)
                          have z0 := hf.frozen (k * 3)
                          have z1 := hf.frozen (k * 3 + 1)
                          have z2 := hf.frozen (k * 3 + 2)
                          obtain ⟨bn, offn, rfl, hcn⟩ := A4.out.nums hn0
                          have k1 : wr.cell? ⟨bn, offn + k, none⟩ = some (.int .i64 (ns.getD k 0)) := keep_cell hR.out.below (by rw [HBR.out]; exact Nat.le_refl _) (hcn k hlt)
                          have k2 := keep_cell hR.out.below (by rw [HBR.out]; exact Nat.le_refl _) (HL.out.hd k hlt)
                          have b2 : (k : Int) < (ns.length : Int) := by omega
                          obtain ⟨x, hx⟩ : ∃ x, x = ns.getD k 0 := ⟨_, rfl⟩
                          rw [← hx] at k1
                          have HX : Hid (x = ns.getD k 0) := hx
                          obtain ⟨lg, hlg⟩ : ∃ lg, lg = G k := ⟨_, rfl⟩
                          obtain ⟨ll, hll⟩ : ∃ ll, ll = cnt ks k ks.length := ⟨_, rfl⟩
                          obtain ⟨lc, hlc⟩ : ∃ lc, lc = Cp k := ⟨_, rfl⟩
                          rw [← hlg, ← hll, ← hlc] at k2
                          have HV : Hid (Value.slice (some ⟨lg, 0, none⟩) ll lc = .slice (some ⟨G k, 0, none⟩) (cnt ks k ks.length) (Cp k)) := by rw [hlg, hll, hlc]; rfl
                          clear hf hcn hx hlg hll hlc hm34
                          go_wp2_with fail
                          go_region
                          all_goals
                            go_wp2_with fail
                            go_roundw
                            case rel => exact ⟨k + 1, by omega, by go_num, (hR.out.step HX.out HV.out).drewN 1⟩
                            case measure => simp [intOf]; omega
                        · obtain rfl : ns.length = k := by omega
                          have B5 : Hid (Below w'.heap.size w' wr) := B4.out.trans (hR.out.below.mono hbr4)
                          go_wp2_with fail
                          refine (newSplit wr (some ⟨bs, 0, none⟩) (some ⟨B, 0, none⟩) ns.length ns.length ks.length ks.length kind).mono ?_
                          rintro e w6 ⟨rfl, x1, hw6⟩
                          have hgot := got_start (bs := bs) (kind := kind) (x1 := x1) A4.out HL.out hR.out HBR.out
                          rw [← hw6] at hgot
                          have B6 : Hid (Below w'.heap.size w' w6) := by rw [hw6]; exact B5.out.alloc B5.out.size _
                          obtain ⟨S, hS⟩ : ∃ S, S = wr.heap.size := ⟨_, rfl⟩
                          rw [← hS] at hgot
                          rw [← hS]
                          have HG : Hid (Got w6 a0 a2 S bs B br kind ns ks G Cp) := hgot
                          clear hgot hw6 hS A4 B4 HL hR B5 HBR hbr4 hbB HB
                          go_wp2_with fail
                          refine (merge w6 S bs B br ns.length kind ks _ _ (got_min HG.out br (fun p => sel ks p ks.length) (got_own HG.out)) hn0 hn hN hP.out).mono ?_
                          intro e w7 hM1
                          obtain ⟨V, rfl, hV1, hV2⟩ := hM1.yes (fun p _ => (sel_length ks p ks.length).symm)
                          have hb67 : Below w6.heap.size w6 w7 := hM1.below
                          have HV : Hid (∀ j, j < ks.length → w7.cell? ⟨V, j, none⟩ = some (.slice (kV ks j).a (kV ks j).n (kV ks j).c)) := fun j hj => by
                            have h9 := hV2 j hj
                            have hpj := hP.out j hj
                            rw [pick_at (p := (kP ks j).toNat) (by omega) rfl hj] at h9
                            exact h9
                          have B7 : Hid (Below w'.heap.size w' w7) := B6.out.trans (hb67.mono B6.out.size)
                          have G7 : Hid (Got w7 a0 a2 S bs B br kind ns ks G Cp) := HG.out.below hb67 (Nat.le_refl _)
                          obtain ⟨want, hwant⟩ : ∃ want, want = wantOf kind (fun p => ns.getD p 0) ns.length := ⟨_, rfl⟩
                          rw [← hwant]
                          have HWT : Hid (want = wantOf kind (fun p => ns.getD p 0) ns.length) := hwant
                          clear hM1 hV1 hV2 hb67 HG B6 hwant hm34
                          go_wp2_with fail
                          obtain ⟨w8, hw8⟩ : ∃ w8, w8 = w7.alloc (.cells #[.nilIface, .int .i64 want, .slice (some ⟨V, 0, none⟩) ks.length ks.length] 38) := ⟨_, rfl⟩
                          rw [← hw8]
                          have hb78 : Below w7.heap.size w7 w8 := by rw [hw8]; exact (Below.refl _ _).alloc (Nat.le_refl _) _
                          have B8 : Hid (Below w'.heap.size w' w8) := B7.out.trans (hb78.mono B7.out.size)
                          have G8 : Hid (Got w8 a0 a2 S bs B br kind ns ks G Cp) := G7.out.below hb78 (Nat.le_refl _)
                          have HV8 : Hid (∀ j, j < ks.length → w8.cell? ⟨V, j, none⟩ = some (.slice (kV ks j).a (kV ks j).n (kV ks j).c)) := fun j hj => keep_cell hb78 (Nat.le_refl _) (HV.out j hj)
                          have r0 : w8.cell? ⟨w7.heap.size, 0, none⟩ = some .nilIface := by rw [hw8, World.cell?_alloc_at _ _ _ _ rfl]; rfl
                          have r1 : w8.cell? ⟨w7.heap.size, 1, none⟩ = some (.int .i64 want) := by rw [hw8, World.cell?_alloc_at _ _ _ _ rfl]; rfl
                          have r2 : w8.cell? ⟨w7.heap.size, 2, none⟩ = some (.slice (some ⟨V, 0, none⟩) ks.length ks.length) := by rw [hw8, World.cell?_alloc_at _ _ _ _ rfl]; rfl
                          obtain ⟨b20, hb20⟩ : ∃ b20, b20 = w7.heap.size := ⟨_, rfl⟩
                          rw [← hb20] at r0 r1 r2
                          rw [← hb20]
                          clear hb20 hw8 hb78 HV G7 B7
                          refine (kindSums kind _ (by omega) (by omega)).mono ?_
                          rintro e w9 ⟨rfl, h9⟩
                          rw [h9]
                          clear h9
                          by_cases hk56 : kind = 5 ∨ kind = 6
                          · have d : decide (kind = 5 ∨ kind = 6) = true := by simp [hk56]
                            rw [d]
                            have HW2 : Hid (wsum (fun p => ns.getD p 0) ns.length = want) := by
                              have := HWT.out
                              rw [wantOf, if_pos hk56] at this
                              exact this.symm
                            clear d hk56 HWT
                            go_wp2_with fail
                            go_loopw [22, 23] (fun t i wr => ∃ k : Nat, k ≤ ns.length ∧ i = .int .i64 k ∧ t = .int .i64 (wsum (fun p => ns.getD p 0) k) ∧ wr = w8) (fun _ i _ => ns.length - (intOf i).toNat)
                            case atStart => exact ⟨0, Nat.zero_le _, rfl, rfl, rfl⟩
                            case round =>
                              obtain ⟨k, hk, rfl, rfl, hwr⟩ := hrel
                              have hwr' := hwr.symm
                              clear hwr
                              subst hwr'
                              by_cases hlt : k < ns.length
                              · obtain ⟨bn, offn, rfl, hcn⟩ := G8.out.args.nums hn0
                                have k1 := hcn k hlt
                                have b2 : (k : Int) < (ns.length : Int) := by omega
                                obtain ⟨x, hx⟩ : ∃ x, x = ns.getD k 0 := ⟨_, rfl⟩
                                obtain ⟨sk, hsk⟩ : ∃ sk, sk = wsum (fun p => ns.getD p 0) k := ⟨_, rfl⟩
                                rw [← hx] at k1
                                rw [← hsk]
                                have HS : Hid (wrap64 (sk + x) = wsum (fun p => ns.getD p 0) (k + 1)) := by rw [hx, hsk]; rfl
                                clear hx hsk hcn r0 r1 r2
                                go_wp2_with fail
                                go_roundw
                                case rel => exact ⟨k + 1, by omega, by go_num, by rw [HS.out], by first | trivial | rfl⟩
                                case measure => simp [intOf]; omega
                              · obtain rfl : ns.length = k := by omega
                                rw [HW2.out]
                                have hw : (want != want) = false := by simp
                                have hNN : ((ks.length : Int) != (ks.length : Int)) = false := by simp
                                go_wp2_with fail
                                go_loopw [24] (fun i wr => ∃ k m : Nat, k ≤ ks.length ∧ i = .int .i64 k ∧ wr = w8.drewN m) (fun i _ => ks.length - (intOf i).toNat)
                                case atStart => exact ⟨0, 0, Nat.zero_le _, rfl, rfl⟩
                                case round =>
                                  obtain ⟨k, m, hk, rfl, rfl⟩ := hrel
                                  by_cases hlt : k < ks.length
                                  · obtain ⟨b, off, rfl, hc⟩ := G8.out.args.keys (by omega)
                                    have c2' := (hc k hlt).2
                                    have v0 := HV8.out k hlt
                                    have HVR : Hid (VRow w8 (kV ks k)) := G8.out.args.vals k hlt
                                    have b2 : (k : Int) < (ks.length : Int) := by omega
                                    generalize kV ks k = u at *
                                    clear hc r0 r1
                                    go_wp2_with fail
                                    go_quiet (exact sameQ u w8 m _ HVR.out)
                                    go_wp2_with fail
                                    go_roundw
                                    case rel => exact ⟨k + 1, m + nq, by omega, by go_num, by simp⟩
                                    case measure => simp [intOf]; omega
                                  · obtain rfl : ks.length = k := by omega
                                    have hbW : Below w8.heap.size w8 (w8.drewN m) := ⟨rfl, rfl, rfl, Nat.le_refl _, fun _ _ => rfl⟩
                                    obtain ⟨W0, hW0⟩ : ∃ W0, W0 = w8.drewN m := ⟨_, rfl⟩
                                    rw [← hW0] at hbW
                                    rw [← hW0]
                                    have G0 : Hid (Got W0 _ _ S bs B br kind ns ks G Cp) := G8.out.below hbW (Nat.le_refl _)
                                    have B0 : Hid (Below w'.heap.size w' W0) := B8.out.trans (hbW.mono B8.out.size)
                                    clear hW0 hbW G8 B8 HV8 r0 r1 r2 hw hNN
                                    obtain ⟨last, hlast⟩ : ∃ last, ns.length = last + 1 := ⟨ns.length - 1, by omega⟩
                                    have hlI : (ns.length : Int) - 1 = (last : Int) := by omega
                                    have hln : last < ns.length := by omega
                                    have hlnI : (last : Int) < (ns.length : Int) := by omega
                                    have e1 := G0.out.lists.hd last hln
                                    have hB1 : B + 1 < W0.heap.size := World.block_lt_of_cell? W0 _ e1
                                    have hB2 : B + 1 < W0.heap.size + 1 := by omega
                                    obtain ⟨arr1, hcp1, ha1⟩ := copy_surplus W0 3 (G last) (cnt ks last ks.length) (Cp last) (sel ks last ks.length) (sel_length _ _ _) (G0.out.lists.el last hln)
                                    have hlle : cnt ks last ks.length ≤ 4096 := by have := cnt_le ks last ks.length; omega
                                    have hmS : ∀ w, (Instr.makeSlice 32 (.int .i64 ((cnt ks last ks.length : Int) + 1)) (.int .i64 ((cnt ks last ks.length : Int) + 1))).run Try.prog w = .ok (.slice (some ⟨w.heap.size, 0, none⟩) (cnt ks last ks.length + 1) (cnt ks last ks.length + 1)) (w.alloc (.cells (madeCells #[.slice none 0 0] (cnt ks last ks.length + 1)) 33)) := fun w => by
                                      have := run_make_row' (P := Try.prog) 32 33 (.slice none 0 0) 24 Try.underlying32 info33 rfl .i64 .i64 (cnt ks last ks.length + 1) (by omega) (by omega) w
                                      simpa using this
                                    have hbA : ∀ o, Below W0.heap.size W0 (W0.alloc o) := fun o => (Below.refl _ _).alloc (Nat.le_refl _) _
                                    obtain ⟨arr2, hcp2, hs2, ha2⟩ := copy_results (W0.alloc (.cells arr1 33)) 3 br ns.length (fres ns ks G Cp) (fun i hi => keep_cell (hbA _) (Nat.le_refl _) (got_cells G0.out i hi)) (fres_one ns ks G Cp)
                                    have hsz1 : (W0.alloc (.cells arr1 33)).heap.size = W0.heap.size + 1 := by simp
                                    rw [hsz1] at hcp2
                                    obtain ⟨o2, x2⟩ : ∃ o2, arr2[last * 3 + 2]? = some o2 := ⟨_, ha2 (last * 3 + 2) (by omega)⟩
                                    have hm34 := run_make34 ns.length hn
                                    obtain ⟨ll, hll⟩ : ∃ ll, ll = cnt ks last ks.length := ⟨_, rfl⟩
                                    obtain ⟨lg, hlg⟩ : ∃ lg, lg = G last := ⟨_, rfl⟩
                                    obtain ⟨lc, hlc⟩ : ∃ lc, lc = Cp last := ⟨_, rfl⟩
                                    rw [← hll, ← hlg, ← hlc] at e1 hcp1
                                    rw [← hll] at hmS ha1 hlle
                                    have HLL : Hid (ll = cnt ks last ks.length) := hll
                                    have HA1 : Hid (∀ j, j < ll + 1 → arr1[j]? = some (.slice ((sel ks last ks.length ++ [default]).getD j default).a ((sel ks last ks.length ++ [default]).getD j default).n ((sel ks last ks.length ++ [default]).getD j default).c)) := ha1
                                    have HA2 : Hid (∀ i, i < ns.length * 3 → arr2[i]? = some (fres ns ks G Cp i)) := ha2
                                    have HS2 : Hid (arr2.size = ns.length * 3) := hs2
                                    have HLAST : Hid (ns.length = last + 1) := hlast
                                    clear hll hlg hlc ha1 ha2 hs2 hlast hsz1 hbA
                                    go_wp2_with fail
                                    refine (merge_more G0.out hn0 hn hN hP.out hln HLL.out HA1.out HA2.out HS2.out).mono ?_
                                    rintro e w10 ⟨rfl, hb10⟩
                                    have B10 : Hid (Below w'.heap.size w' w10) := B0.out.trans (hb10.mono B0.out.size)
                                    have G10 : Hid (Got w10 _ _ S bs B br kind ns ks G Cp) := G0.out.below hb10 (Nat.le_refl _)
                                    clear hb10 G0 B0 hcp1 hcp2 x2 e1 hmS HA1 HA2 HS2 hB1 hB2 hlI hlnI HLL hlle
                                    have f0 := G10.out.lists.hd 0 hn0
                                    have hB1 : B + 1 < w10.heap.size := World.block_lt_of_cell? w10 _ f0
                                    have hB2 : B + 1 < w10.heap.size + 1 := by omega
                                    obtain ⟨l0, hl0⟩ : ∃ l0, l0 + 1 = cnt ks 0 ks.length := ⟨cnt ks 0 ks.length - 1, by have := G10.out.lists.pos 0 hn0; omega⟩
                                    have hcap := G10.out.lists.cap 0 hn0
                                    rw [← hl0] at f0 hcap
                                    obtain ⟨arr3, hcp3, hs3, ha3⟩ := copy_results (w10.alloc (.cells #[.nilIface, .int .i64 0, .slice none 0 0] 38)) 3 br ns.length (fres ns ks G Cp) (fun i hi => keep_cell (below_alloc _ _) (Nat.le_refl _) (got_cells G10.out i hi)) (fres_one ns ks G Cp)
                                    have hsz3 : (w10.alloc (.cells #[.nilIface, .int .i64 0, .slice none 0 0] 38)).heap.size = w10.heap.size + 1 := by simp
                                    rw [hsz3] at hcp3
                                    obtain ⟨o3, x3⟩ : ∃ o3, arr3[2]? = some o3 := ⟨_, ha3 2 (by omega)⟩
                                    have HL0 : Hid (l0 + 1 = cnt ks 0 ks.length) := hl0
                                    have HA3 : Hid (∀ i, i < ns.length * 3 → arr3[i]? = some (fres ns ks G Cp i)) := ha3
                                    have HS3 : Hid (arr3.size = ns.length * 3) := hs3
                                    have b00 : (0 : Int) < (ns.length : Int) := by omega
                                    have hl0b : l0 + 1 ≤ 4096 := by have := cnt_le ks 0 ks.length; omega
                                    obtain ⟨g0, hg0⟩ : ∃ g0, g0 = G 0 := ⟨_, rfl⟩
                                    obtain ⟨cp0, hcp0⟩ : ∃ cp0, cp0 = Cp 0 := ⟨_, rfl⟩
                                    rw [← hg0, ← hcp0] at f0
                                    rw [← hcp0] at hcap
                                    have HG0 : Hid (g0 = G 0) := hg0
                                    have HC0 : Hid (cp0 = Cp 0) := hcp0
                                    have hl0c : (l0 : Int) ≤ (cp0 : Int) := by omega
                                    clear hl0 ha3 hs3 hsz3 hg0 hcp0
                                    go_wp2_with fail
                                    go_region
                                    go_wp2_with fail
                                    refine (merge_less (o := .cells #[.nilIface, .int .i64 0, .slice none 0 0] 38) (n := 1) G10.out hn0 hn hN hP.out HL0.out HA3.out HS3.out (by rw [HG0.out, HC0.out]; rfl)).mono ?_
                                    rintro e w11 ⟨rfl, hb11⟩
                                    have q0 : w11.cell? ⟨w10.heap.size, 0, none⟩ = some .nilIface := by rw [hb11.cell (p := ⟨w10.heap.size, 0, none⟩) (Nat.lt_succ_self _), World.cell?_alloc_at _ _ _ _ rfl]; rfl
                                    have q1 : w11.cell? ⟨w10.heap.size, 1, none⟩ = some (.int .i64 0) := by rw [hb11.cell (p := ⟨w10.heap.size, 1, none⟩) (Nat.lt_succ_self _), World.cell?_alloc_at _ _ _ _ rfl]; rfl
                                    have q2 : w11.cell? ⟨w10.heap.size, 2, none⟩ = some (.slice none 0 0) := by rw [hb11.cell (p := ⟨w10.heap.size, 2, none⟩) (Nat.lt_succ_self _), World.cell?_alloc_at _ _ _ _ rfl]; rfl
                                    have hlt28 : w10.heap.size < w11.heap.size := World.block_lt_of_cell? w11 _ q0
                                    have B11 : Hid (Below w'.heap.size w' w11) := (B10.out.alloc B10.out.size _).trans (hb11.mono (Nat.le_succ_of_le B10.out.size))
                                    clear hb11 G10 B10 hcp3 x3 f0 hm34 hB1 hB2 HA3 HS3
                                    go_wp2_with fail
                                    refine (isZero _).mono ?_
                                    rintro e w12 ⟨rfl, hb12⟩
                                    have p0 : w12.cell? ⟨w11.heap.size, 0, none⟩ = some .nilIface := keep_cell hb12 (Nat.le_refl _) (by rw [World.cell?_alloc_at _ _ _ _ rfl]; rfl)
                                    have p1 : w12.cell? ⟨w11.heap.size, 1, none⟩ = some (.int .i64 0) := keep_cell hb12 (Nat.le_refl _) (by rw [World.cell?_alloc_at _ _ _ _ rfl]; rfl)
                                    have p2 : w12.cell? ⟨w11.heap.size, 2, none⟩ = some (.slice none 0 0) := keep_cell hb12 (Nat.le_refl _) (by rw [World.cell?_alloc_at _ _ _ _ rfl]; rfl)
                                    have B12 : Hid (Below w'.heap.size w' w12) := (B11.out.alloc B11.out.size _).trans (hb12.mono (B11.out.alloc B11.out.size _).size)
                                    clear hb12 B11 q0 q1 q2
                                    go_wp2_with fail
                                    refine (isZero _).mono ?_
                                    rintro e w13 ⟨rfl, hb13⟩
                                    have B13 : Hid (Below w'.heap.size w' w13) := B12.out.trans (hb13.mono B12.out.size)
                                    clear hb13 B12 p0 p1 p2
                                    go_wp2_with fail
                                    go_ret
                                    exact ⟨rfl, B13.out⟩
                          · have d : decide (kind = 5 ∨ kind = 6) = false := by simp [hk56]
                            rw [d]
                            obtain ⟨bn, offn, rfl, hcn⟩ := G8.out.args.nums hn0
                            have k1 : w8.cell? ⟨bn, offn, none⟩ = some (.int .i64 want) := by
                              have h1 := hcn 0 hn0
                              have := HWT.out
                              rw [wantOf, if_neg hk56] at this
                              rw [this]
                              exact h1
                            have b0 : (0 : Int) < (ns.length : Int) := by omega
                            clear d hk56 HWT hcn
                            have hw : (want != want) = false := by simp
                            have hNN : ((ks.length : Int) != (ks.length : Int)) = false := by simp
                            go_wp2_with fail
                            go_loopw [24] (fun i wr => ∃ k m : Nat, k ≤ ks.length ∧ i = .int .i64 k ∧ wr = w8.drewN m) (fun i _ => ks.length - (intOf i).toNat)
                            case atStart => exact ⟨0, 0, Nat.zero_le _, rfl, rfl⟩
                            case round =>
                              obtain ⟨k, m, hk, rfl, rfl⟩ := hrel
                              by_cases hlt : k < ks.length
                              · obtain ⟨b, off, rfl, hc⟩ := G8.out.args.keys (by omega)
                                have c2' := (hc k hlt).2
                                have v0 := HV8.out k hlt
                                have HVR : Hid (VRow w8 (kV ks k)) := G8.out.args.vals k hlt
                                have b2 : (k : Int) < (ks.length : Int) := by omega
                                generalize kV ks k = u at *
                                clear hc r0 r1 k1
                                go_wp2_with fail
                                go_quiet (exact sameQ u w8 m _ HVR.out)
                                go_wp2_with fail
                                go_roundw
                                case rel => exact ⟨k + 1, m + nq, by omega, by go_num, by simp⟩
                                case measure => simp [intOf]; omega
                              · obtain rfl : ks.length = k := by omega
                                have hbW : Below w8.heap.size w8 (w8.drewN m) := ⟨rfl, rfl, rfl, Nat.le_refl _, fun _ _ => rfl⟩
                                obtain ⟨W0, hW0⟩ : ∃ W0, W0 = w8.drewN m := ⟨_, rfl⟩
                                rw [← hW0] at hbW
                                rw [← hW0]
                                have G0 : Hid (Got W0 _ _ S bs B br kind ns ks G Cp) := G8.out.below hbW (Nat.le_refl _)
                                have B0 : Hid (Below w'.heap.size w' W0) := B8.out.trans (hbW.mono B8.out.size)
                                clear hW0 hbW G8 B8 HV8 r0 r1 r2 k1 hw hNN
                                obtain ⟨last, hlast⟩ : ∃ last, ns.length = last + 1 := ⟨ns.length - 1, by omega⟩
                                have hlI : (ns.length : Int) - 1 = (last : Int) := by omega
                                have hln : last < ns.length := by omega
                                have hlnI : (last : Int) < (ns.length : Int) := by omega
                                have e1 := G0.out.lists.hd last hln
                                have hB1 : B + 1 < W0.heap.size := World.block_lt_of_cell? W0 _ e1
                                have hB2 : B + 1 < W0.heap.size + 1 := by omega
                                obtain ⟨arr1, hcp1, ha1⟩ := copy_surplus W0 3 (G last) (cnt ks last ks.length) (Cp last) (sel ks last ks.length) (sel_length _ _ _) (G0.out.lists.el last hln)
                                have hlle : cnt ks last ks.length ≤ 4096 := by have := cnt_le ks last ks.length; omega
                                have hmS : ∀ w, (Instr.makeSlice 32 (.int .i64 ((cnt ks last ks.length : Int) + 1)) (.int .i64 ((cnt ks last ks.length : Int) + 1))).run Try.prog w = .ok (.slice (some ⟨w.heap.size, 0, none⟩) (cnt ks last ks.length + 1) (cnt ks last ks.length + 1)) (w.alloc (.cells (madeCells #[.slice none 0 0] (cnt ks last ks.length + 1)) 33)) := fun w => by
                                  have := run_make_row' (P := Try.prog) 32 33 (.slice none 0 0) 24 Try.underlying32 info33 rfl .i64 .i64 (cnt ks last ks.length + 1) (by omega) (by omega) w
                                  simpa using this
                                have hbA : ∀ o, Below W0.heap.size W0 (W0.alloc o) := fun o => (Below.refl _ _).alloc (Nat.le_refl _) _
                                obtain ⟨arr2, hcp2, hs2, ha2⟩ := copy_results (W0.alloc (.cells arr1 33)) 3 br ns.length (fres ns ks G Cp) (fun i hi => keep_cell (hbA _) (Nat.le_refl _) (got_cells G0.out i hi)) (fres_one ns ks G Cp)
                                have hsz1 : (W0.alloc (.cells arr1 33)).heap.size = W0.heap.size + 1 := by simp
                                rw [hsz1] at hcp2
                                obtain ⟨o2, x2⟩ : ∃ o2, arr2[last * 3 + 2]? = some o2 := ⟨_, ha2 (last * 3 + 2) (by omega)⟩
                                have hm34 := run_make34 ns.length hn
                                obtain ⟨ll, hll⟩ : ∃ ll, ll = cnt ks last ks.length := ⟨_, rfl⟩
                                obtain ⟨lg, hlg⟩ : ∃ lg, lg = G last := ⟨_, rfl⟩
                                obtain ⟨lc, hlc⟩ : ∃ lc, lc = Cp last := ⟨_, rfl⟩
                                rw [← hll, ← hlg, ← hlc] at e1 hcp1
                                rw [← hll] at hmS ha1 hlle
                                have HLL : Hid (ll = cnt ks last ks.length) := hll
                                have HA1 : Hid (∀ j, j < ll + 1 → arr1[j]? = some (.slice ((sel ks last ks.length ++ [default]).getD j default).a ((sel ks last ks.length ++ [default]).getD j default).n ((sel ks last ks.length ++ [default]).getD j default).c)) := ha1
                                have HA2 : Hid (∀ i, i < ns.length * 3 → arr2[i]? = some (fres ns ks G Cp i)) := ha2
                                have HS2 : Hid (arr2.size = ns.length * 3) := hs2
                                have HLAST : Hid (ns.length = last + 1) := hlast
                                clear hll hlg hlc ha1 ha2 hs2 hlast hsz1 hbA
                                go_wp2_with fail
                                refine (merge_more G0.out hn0 hn hN hP.out hln HLL.out HA1.out HA2.out HS2.out).mono ?_
                                rintro e w10 ⟨rfl, hb10⟩
                                have B10 : Hid (Below w'.heap.size w' w10) := B0.out.trans (hb10.mono B0.out.size)
                                have G10 : Hid (Got w10 _ _ S bs B br kind ns ks G Cp) := G0.out.below hb10 (Nat.le_refl _)
                                clear hb10 G0 B0 hcp1 hcp2 x2 e1 hmS HA1 HA2 HS2 hB1 hB2 hlI hlnI HLL hlle
                                have f0 := G10.out.lists.hd 0 hn0
                                have hB1 : B + 1 < w10.heap.size := World.block_lt_of_cell? w10 _ f0
                                have hB2 : B + 1 < w10.heap.size + 1 := by omega
                                obtain ⟨l0, hl0⟩ : ∃ l0, l0 + 1 = cnt ks 0 ks.length := ⟨cnt ks 0 ks.length - 1, by have := G10.out.lists.pos 0 hn0; omega⟩
                                have hcap := G10.out.lists.cap 0 hn0
                                rw [← hl0] at f0 hcap
                                obtain ⟨arr3, hcp3, hs3, ha3⟩ := copy_results (w10.alloc (.cells #[.nilIface, .int .i64 0, .slice none 0 0] 38)) 3 br ns.length (fres ns ks G Cp) (fun i hi => keep_cell (below_alloc _ _) (Nat.le_refl _) (got_cells G10.out i hi)) (fres_one ns ks G Cp)
                                have hsz3 : (w10.alloc (.cells #[.nilIface, .int .i64 0, .slice none 0 0] 38)).heap.size = w10.heap.size + 1 := by simp
                                rw [hsz3] at hcp3
                                obtain ⟨o3, x3⟩ : ∃ o3, arr3[2]? = some o3 := ⟨_, ha3 2 (by omega)⟩
                                have HL0 : Hid (l0 + 1 = cnt ks 0 ks.length) := hl0
                                have HA3 : Hid (∀ i, i < ns.length * 3 → arr3[i]? = some (fres ns ks G Cp i)) := ha3
                                have HS3 : Hid (arr3.size = ns.length * 3) := hs3
                                have b00 : (0 : Int) < (ns.length : Int) := by omega
                                have hl0b : l0 + 1 ≤ 4096 := by have := cnt_le ks 0 ks.length; omega
                                obtain ⟨g0, hg0⟩ : ∃ g0, g0 = G 0 := ⟨_, rfl⟩
                                obtain ⟨cp0, hcp0⟩ : ∃ cp0, cp0 = Cp 0 := ⟨_, rfl⟩
                                rw [← hg0, ← hcp0] at f0
                                rw [← hcp0] at hcap
                                have HG0 : Hid (g0 = G 0) := hg0
                                have HC0 : Hid (cp0 = Cp 0) := hcp0
                                have hl0c : (l0 : Int) ≤ (cp0 : Int) := by omega
                                clear hl0 ha3 hs3 hsz3 hg0 hcp0
                                go_wp2_with fail
                                go_region
                                go_wp2_with fail
                                refine (merge_less (o := .cells #[.nilIface, .int .i64 0, .slice none 0 0] 38) (n := 1) G10.out hn0 hn hN hP.out HL0.out HA3.out HS3.out (by rw [HG0.out, HC0.out]; rfl)).mono ?_
                                rintro e w11 ⟨rfl, hb11⟩
                                have q0 : w11.cell? ⟨w10.heap.size, 0, none⟩ = some .nilIface := by rw [hb11.cell (p := ⟨w10.heap.size, 0, none⟩) (Nat.lt_succ_self _), World.cell?_alloc_at _ _ _ _ rfl]; rfl
                                have q1 : w11.cell? ⟨w10.heap.size, 1, none⟩ = some (.int .i64 0) := by rw [hb11.cell (p := ⟨w10.heap.size, 1, none⟩) (Nat.lt_succ_self _), World.cell?_alloc_at _ _ _ _ rfl]; rfl
                                have q2 : w11.cell? ⟨w10.heap.size, 2, none⟩ = some (.slice none 0 0) := by rw [hb11.cell (p := ⟨w10.heap.size, 2, none⟩) (Nat.lt_succ_self _), World.cell?_alloc_at _ _ _ _ rfl]; rfl
                                have hlt28 : w10.heap.size < w11.heap.size := World.block_lt_of_cell? w11 _ q0
                                have B11 : Hid (Below w'.heap.size w' w11) := (B10.out.alloc B10.out.size _).trans (hb11.mono (Nat.le_succ_of_le B10.out.size))
                                clear hb11 G10 B10 hcp3 x3 f0 hm34 hB1 hB2 HA3 HS3
                                go_wp2_with fail
                                refine (isZero _).mono ?_
                                rintro e w12 ⟨rfl, hb12⟩
                                have p0 : w12.cell? ⟨w11.heap.size, 0, none⟩ = some .nilIface := keep_cell hb12 (Nat.le_refl _) (by rw [World.cell?_alloc_at _ _ _ _ rfl]; rfl)
                                have p1 : w12.cell? ⟨w11.heap.size, 1, none⟩ = some (.int .i64 0) := keep_cell hb12 (Nat.le_refl _) (by rw [World.cell?_alloc_at _ _ _ _ rfl]; rfl)
                                have p2 : w12.cell? ⟨w11.heap.size, 2, none⟩ = some (.slice none 0 0) := keep_cell hb12 (Nat.le_refl _) (by rw [World.cell?_alloc_at _ _ _ _ rfl]; rfl)
                                have B12 : Hid (Below w'.heap.size w' w12) := (B11.out.alloc B11.out.size _).trans (hb12.mono (B11.out.alloc B11.out.size _).size)
                                clear hb12 B11 q0 q1 q2
                                go_wp2_with fail
                                refine (isZero _).mono ?_
                                rintro e w13 ⟨rfl, hb13⟩
                                have B13 : Hid (Below w'.heap.size w' w13) := B12.out.trans (hb13.mono B12.out.size)
                                clear hb13 B12 p0 p1 p2
                                go_wp2_with fail
                                go_ret
                                exact ⟨rfl, B13.out⟩
end Go.Proofs.Qxb6609368a

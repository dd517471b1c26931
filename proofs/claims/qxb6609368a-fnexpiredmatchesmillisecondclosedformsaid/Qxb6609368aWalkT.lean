/-
  SEAT b6609368a: the walk of FnExpiredTurnsOnceAtItsDeadline (5).
-/
import Derived.Test.Qxb6609368aExpired
import Derived.Laws.IdiomStrings
namespace Go.Proofs.Qxb6609368a
open Go.RowKit Go.Maps
set_option linter.unusedVariables false

theorem ERow.below {B : Nat} {w w' : World} {a : Option Addr} {es : List (ByteArray × Int)} (h : ERow w a es) (hb : Below B w w') (hB : w.heap.size ≤ B) : ERow w' a es := by
  intro h0
  obtain ⟨b, off, e, hc⟩ := h h0
  refine ⟨b, off, e, fun i hi => ?_⟩
  have hci := hc i hi
  have hlt : b < w.heap.size := World.block_lt_of_cell? w _ hci.1
  rw [hb.cell (p := ⟨b, off + i * 2, none⟩) (by show b < B; omega), hb.cell (p := ⟨b, off + i * 2 + 1, none⟩) (by show b < B; omega)]
  exact hci

theorem Row.below' {B : Nat} {w w' : World} {a : Option Addr} {xs : List Int} (h : Row w a xs) (hb : Below B w w') (hB : w.heap.size ≤ B) : Row w' a xs := by
  intro h0
  obtain ⟨b, off, e, hc⟩ := h h0
  refine ⟨b, off, e, fun i hi => ?_⟩
  have hci := hc i hi
  have hlt : b < w.heap.size := World.block_lt_of_cell? w _ hci
  rw [hb.cell (p := ⟨b, off + i, none⟩) (by show b < B; omega)]
  exact hci

theorem row_conv (w : World) (s : ByteArray) (c : Nat) (m : Nat × Nat) : Row (w.alloc (.cells (bytesRow s c) 5 m)) (some ⟨w.heap.size, 0, none⟩) (sb s) := by
  intro _
  refine ⟨w.heap.size, 0, rfl, fun j hj => ?_⟩
  have hlt : j < s.data.size := by rw [sb_length] at hj; exact hj
  have hb : (w.alloc (.cells (bytesRow s c) 5 m)).heap[w.heap.size]? = some (.cells (bytesRow s c) 5 m) := by
    show (w.heap.push _)[w.heap.size]? = _
    simp
  rw [Nat.zero_add, show (w.alloc (.cells (bytesRow s c) 5 m)).cell? ⟨w.heap.size, j, none⟩ = (bytesRow s c)[j]? from by simp only [World.cell?, hb]; simp, bytesRow_at s c j hlt, sb_getD s j hlt]
  rfl

set_option maxHeartbeats 4000000 in
set_option maxRecDepth 100000 in
theorem walkT_in (now1 now2 : Int) (a : Option Addr) (c : Nat) (es : List (ByteArray × Int)) (I : Nat) (w : World) (h : ERow w a es) (hl : es.length ≤ 4096) (hs : ∀ i, (eK es i).size ≤ maxLen) (hw : ∀ i, (Lit.int .i64 (eT es i)).wf = true)
    (hI : I < es.length) (h1l : -9223372036854775808 ≤ now1) (h1u : now1 ≤ 9223372036854775807) (h2l : -9223372036854775808 ≤ now2) (h2u : now2 ≤ 9223372036854775807) (h12 : now1 ≤ now2) :
    Calls Try.prog 5 #[.int .i64 now1, .int .i64 now2, .slice a es.length c, .int .i64 I] w fun e w' => e = .returned (.bool true) ∧ Below w.heap.size w w' := by
  have hcv := fun w s => run_bytes_of_string (P := Try.prog) w 9 48 5 s Try.underlying9 Try.underlying48 Try.underlying5
  obtain ⟨b, off, rfl, hc⟩ := h (by omega)
  have HE : Hid (ERow w (some ⟨b, off, none⟩) es) := h
  have HSS : Hid (∀ i, (eK es i).size ≤ maxLen) := hs
  have HWW : Hid (∀ i, (Lit.int .i64 (eT es i)).wf = true) := hw
  obtain ⟨s, hs'⟩ : ∃ s, s = eK es I := ⟨_, rfl⟩
  obtain ⟨t, ht'⟩ : ∃ t, t = eT es I := ⟨_, rfl⟩
  have k1 : w.cell? ⟨b, off + I * 2, none⟩ = some (.string s) := by rw [hs']; exact (hc I hI).1
  have k2 : w.cell? ⟨b, off + I * 2 + 1, none⟩ = some (.int .i64 t) := by rw [ht']; exact (hc I hI).2
  have HS1 : Hid (s = eK es I) := hs'
  have HT1 : Hid (t = eT es I) := ht'
  have b1 : (I : Int) < (es.length : Int) := by omega
  have hsz : s.size ≤ maxLen := by rw [hs']; exact hs I
  clear hs hw hc hs' ht' h
  go_enter Try.func5, Try.ntmps5
  go_wp2_with fail
  refine (bytes22 now1 now2 _ es.length c I es rfl w HE.out (by unfold maxLen; omega) HSS.out).mono ?_
  rintro e w' ⟨⟨q, rfl, hq⟩, rfl⟩
  clear hq
  cases q with
  | false =>
    go_wp2_with fail
    go_ret
    exact ⟨rfl, Below.refl _ _⟩
  | true =>
    go_wp2_with fail
    refine (entriesBytes _ es.length c es rfl _ HE.out (by omega) HSS.out).mono ?_
    rintro e w' ⟨⟨v, rfl⟩, rfl⟩
    by_cases hv : v ≤ 1048576
    · go_wp2_with fail
      refine (reachable _ es.length c es rfl _ HE.out (by omega)).mono ?_
      rintro e w2 ⟨⟨q, rfl, hq⟩, n2, rfl⟩
      cases q with
      | false =>
        clear hq
        go_wp2_with fail
        go_ret
        exact ⟨rfl, rfl, rfl, rfl, Nat.le_refl _, fun _ _ => rfl⟩
      | true =>
        have HAP : Hid (Apart es) := hq rfl
        clear hq
        by_cases q1 : t < -9223372036854
        · go_wp2_with fail
          go_ret
          exact ⟨rfl, rfl, rfl, rfl, Nat.le_refl _, fun _ _ => rfl⟩
        · by_cases q2 : 9223372036853 < t
          · go_wp2_with fail
            go_ret
            exact ⟨rfl, rfl, rfl, rfl, Nat.le_refl _, fun _ _ => rfl⟩
          · go_wp2_with fail
            refine (first_any t _ (by omega) (by omega)).mono ?_
            rintro e w3 ⟨rfl, rfl⟩
            have HX : Hid (∀ X, expB es (ofB (sb s)) X = decide (firstNs t ≤ X)) := fun X => by rw [ofB_sb, HS1.out, HT1.out]; exact exp_apart es HAP.out I hI X
            have hfb : -9223372036854775807 ≤ firstNs t ∧ firstNs t ≤ 9223372036854775807 := by unfold firstNs; split <;> omega
            generalize hT : firstNs t = T at *
            clear hT
            go_wp2_with fail
            generalize grownCap (w'.drewN n2) s.size 0 5 = gc
            obtain ⟨W3, hW3⟩ : ∃ W3, W3 = ((w'.drewN (n2 + 1)).alloc (.cells (bytesRow s gc) 5 ((bytesRow s gc).size, (bytesRow s gc).size + 1))) := ⟨_, rfl⟩
            rw [← hW3]
            have hb3 : Below w'.heap.size w' W3 := by
              rw [hW3]
              exact Below.alloc (B := w'.heap.size) (a := w') (w := w'.drewN (n2 + 1)) ⟨rfl, rfl, rfl, Nat.le_refl w'.heap.size, fun _ _ => rfl⟩ (Nat.le_refl w'.heap.size) _
            have E3 : Hid (ERow W3 (some ⟨b, off, none⟩) es) := HE.out.below hb3 (Nat.le_refl _)
            have K3 : Hid (Row W3 (some ⟨w'.heap.size, 0, none⟩) (sb s)) := by rw [hW3]; exact row_conv (w'.drewN (n2 + 1)) s gc _
            have B3 : Hid (Below w'.heap.size w' W3) := hb3
            have e1 : decide (T ≤ T - 1) = false := by simp; omega
            have e2 : decide (T ≤ T) = true := by simp
            clear hb3 hW3 HE k1 k2 hcv HAP HS1 HT1
            rcases (show (T ≤ now1 ∧ T ≤ now2) ∨ (¬ T ≤ now1 ∧ T ≤ now2) ∨ (¬ T ≤ now1 ∧ ¬ T ≤ now2) by omega) with ⟨d1, d2⟩ | ⟨d1, d2⟩ | ⟨d1, d2⟩
            · have e3 : decide (T ≤ now1) = true := by simpa using d1
              have e4 : decide (T ≤ now2) = true := by simpa using d2
              refine (zzReplica (T - 1) (some ⟨b, off, none⟩) es.length c es rfl (W3) (show ERow (W3) _ _ from E3.out) (by omega) HSS.out HWW.out).mono ?_
              rintro e W4 ⟨R4, rfl, hR4, hrep4, hbel4⟩
              have hb4 : Below W3.heap.size W3 W4 := ⟨hbel4.os, hbel4.tape, hbel4.output, hbel4.size, hbel4.block⟩
              have E4 : Hid (ERow W4 (some ⟨b, off, none⟩) es) := E3.out.below hb4 (Nat.le_refl _)
              have K4 : Hid (Row W4 (some ⟨w'.heap.size, 0, none⟩) (sb s)) := K3.out.below' hb4 (Nat.le_refl _)
              have B4 : Hid (Below w'.heap.size w' W4) := B3.out.trans (hb4.mono B3.out.size)
              have P4 : Hid (Rep W4 R4 (T - 1) es es.length es.length) := hrep4
              clear hbel4 hb4 hrep4 hR4
              go_wp2_with fail
              refine (zzexpired R4 (T - 1) es (some ⟨w'.heap.size, 0, none⟩) s.size gc (sb s) (sb_length s).symm W4 P4.out K4.out (fun e => by cases e) (by omega) (by rw [sb_length]; exact hsz) (by omega) (by omega)).mono ?_
              rintro e w9 ⟨rfl, m4, rfl⟩
              rw [HX.out, e1]
              clear P4
              go_wp2_with fail
              refine (zzReplica T (some ⟨b, off, none⟩) es.length c es rfl (W4.drewN m4) (show ERow (W4.drewN m4) _ _ from E4.out) (by omega) HSS.out HWW.out).mono ?_
              rintro e W5 ⟨R5, rfl, hR5, hrep5, hbel5⟩
              have hb5 : Below W4.heap.size W4 W5 := ⟨hbel5.os, hbel5.tape, hbel5.output, hbel5.size, hbel5.block⟩
              have E5 : Hid (ERow W5 (some ⟨b, off, none⟩) es) := E4.out.below hb5 (Nat.le_refl _)
              have K5 : Hid (Row W5 (some ⟨w'.heap.size, 0, none⟩) (sb s)) := K4.out.below' hb5 (Nat.le_refl _)
              have B5 : Hid (Below w'.heap.size w' W5) := B4.out.trans (hb5.mono B4.out.size)
              have P5 : Hid (Rep W5 R5 T es es.length es.length) := hrep5
              clear hbel5 hb5 hrep5 hR5
              go_wp2_with fail
              refine (zzexpired R5 T es (some ⟨w'.heap.size, 0, none⟩) s.size gc (sb s) (sb_length s).symm W5 P5.out K5.out (fun e => by cases e) (by omega) (by rw [sb_length]; exact hsz) (by omega) (by omega)).mono ?_
              rintro e w9 ⟨rfl, m5, rfl⟩
              rw [HX.out, e2]
              clear P5
              go_wp2_with fail
              refine (zzReplica now1 (some ⟨b, off, none⟩) es.length c es rfl (W5.drewN m5) (show ERow (W5.drewN m5) _ _ from E5.out) (by omega) HSS.out HWW.out).mono ?_
              rintro e W6 ⟨R6, rfl, hR6, hrep6, hbel6⟩
              have hb6 : Below W5.heap.size W5 W6 := ⟨hbel6.os, hbel6.tape, hbel6.output, hbel6.size, hbel6.block⟩
              have E6 : Hid (ERow W6 (some ⟨b, off, none⟩) es) := E5.out.below hb6 (Nat.le_refl _)
              have K6 : Hid (Row W6 (some ⟨w'.heap.size, 0, none⟩) (sb s)) := K5.out.below' hb6 (Nat.le_refl _)
              have B6 : Hid (Below w'.heap.size w' W6) := B5.out.trans (hb6.mono B5.out.size)
              have P6 : Hid (Rep W6 R6 now1 es es.length es.length) := hrep6
              clear hbel6 hb6 hrep6 hR6
              go_wp2_with fail
              refine (zzexpired R6 now1 es (some ⟨w'.heap.size, 0, none⟩) s.size gc (sb s) (sb_length s).symm W6 P6.out K6.out (fun e => by cases e) (by omega) (by rw [sb_length]; exact hsz) (by omega) (by omega)).mono ?_
              rintro e w9 ⟨rfl, m6, rfl⟩
              rw [HX.out, e3]
              clear P6
              go_wp2_with fail
              refine (zzReplica now2 (some ⟨b, off, none⟩) es.length c es rfl (W6.drewN m6) (show ERow (W6.drewN m6) _ _ from E6.out) (by omega) HSS.out HWW.out).mono ?_
              rintro e W7 ⟨R7, rfl, hR7, hrep7, hbel7⟩
              have hb7 : Below W6.heap.size W6 W7 := ⟨hbel7.os, hbel7.tape, hbel7.output, hbel7.size, hbel7.block⟩
              have E7 : Hid (ERow W7 (some ⟨b, off, none⟩) es) := E6.out.below hb7 (Nat.le_refl _)
              have K7 : Hid (Row W7 (some ⟨w'.heap.size, 0, none⟩) (sb s)) := K6.out.below' hb7 (Nat.le_refl _)
              have B7 : Hid (Below w'.heap.size w' W7) := B6.out.trans (hb7.mono B6.out.size)
              have P7 : Hid (Rep W7 R7 now2 es es.length es.length) := hrep7
              clear hbel7 hb7 hrep7 hR7
              go_wp2_with fail
              refine (zzexpired R7 now2 es (some ⟨w'.heap.size, 0, none⟩) s.size gc (sb s) (sb_length s).symm W7 P7.out K7.out (fun e => by cases e) (by omega) (by rw [sb_length]; exact hsz) (by omega) (by omega)).mono ?_
              rintro e w9 ⟨rfl, m7, rfl⟩
              rw [HX.out, e4]
              clear P7
              go_wp2
              go_ret
              exact ⟨rfl, B7.out.os, B7.out.tape, B7.out.output, B7.out.size, B7.out.block⟩
            · have e3 : decide (T ≤ now1) = false := by simpa using d1
              have e4 : decide (T ≤ now2) = true := by simpa using d2
              refine (zzReplica (T - 1) (some ⟨b, off, none⟩) es.length c es rfl (W3) (show ERow (W3) _ _ from E3.out) (by omega) HSS.out HWW.out).mono ?_
              rintro e W4 ⟨R4, rfl, hR4, hrep4, hbel4⟩
              have hb4 : Below W3.heap.size W3 W4 := ⟨hbel4.os, hbel4.tape, hbel4.output, hbel4.size, hbel4.block⟩
              have E4 : Hid (ERow W4 (some ⟨b, off, none⟩) es) := E3.out.below hb4 (Nat.le_refl _)
              have K4 : Hid (Row W4 (some ⟨w'.heap.size, 0, none⟩) (sb s)) := K3.out.below' hb4 (Nat.le_refl _)
              have B4 : Hid (Below w'.heap.size w' W4) := B3.out.trans (hb4.mono B3.out.size)
              have P4 : Hid (Rep W4 R4 (T - 1) es es.length es.length) := hrep4
              clear hbel4 hb4 hrep4 hR4
              go_wp2_with fail
              refine (zzexpired R4 (T - 1) es (some ⟨w'.heap.size, 0, none⟩) s.size gc (sb s) (sb_length s).symm W4 P4.out K4.out (fun e => by cases e) (by omega) (by rw [sb_length]; exact hsz) (by omega) (by omega)).mono ?_
              rintro e w9 ⟨rfl, m4, rfl⟩
              rw [HX.out, e1]
              clear P4
              go_wp2_with fail
              refine (zzReplica T (some ⟨b, off, none⟩) es.length c es rfl (W4.drewN m4) (show ERow (W4.drewN m4) _ _ from E4.out) (by omega) HSS.out HWW.out).mono ?_
              rintro e W5 ⟨R5, rfl, hR5, hrep5, hbel5⟩
              have hb5 : Below W4.heap.size W4 W5 := ⟨hbel5.os, hbel5.tape, hbel5.output, hbel5.size, hbel5.block⟩
              have E5 : Hid (ERow W5 (some ⟨b, off, none⟩) es) := E4.out.below hb5 (Nat.le_refl _)
              have K5 : Hid (Row W5 (some ⟨w'.heap.size, 0, none⟩) (sb s)) := K4.out.below' hb5 (Nat.le_refl _)
              have B5 : Hid (Below w'.heap.size w' W5) := B4.out.trans (hb5.mono B4.out.size)
              have P5 : Hid (Rep W5 R5 T es es.length es.length) := hrep5
              clear hbel5 hb5 hrep5 hR5
              go_wp2_with fail
              refine (zzexpired R5 T es (some ⟨w'.heap.size, 0, none⟩) s.size gc (sb s) (sb_length s).symm W5 P5.out K5.out (fun e => by cases e) (by omega) (by rw [sb_length]; exact hsz) (by omega) (by omega)).mono ?_
              rintro e w9 ⟨rfl, m5, rfl⟩
              rw [HX.out, e2]
              clear P5
              go_wp2_with fail
              refine (zzReplica now1 (some ⟨b, off, none⟩) es.length c es rfl (W5.drewN m5) (show ERow (W5.drewN m5) _ _ from E5.out) (by omega) HSS.out HWW.out).mono ?_
              rintro e W6 ⟨R6, rfl, hR6, hrep6, hbel6⟩
              have hb6 : Below W5.heap.size W5 W6 := ⟨hbel6.os, hbel6.tape, hbel6.output, hbel6.size, hbel6.block⟩
              have E6 : Hid (ERow W6 (some ⟨b, off, none⟩) es) := E5.out.below hb6 (Nat.le_refl _)
              have K6 : Hid (Row W6 (some ⟨w'.heap.size, 0, none⟩) (sb s)) := K5.out.below' hb6 (Nat.le_refl _)
              have B6 : Hid (Below w'.heap.size w' W6) := B5.out.trans (hb6.mono B5.out.size)
              have P6 : Hid (Rep W6 R6 now1 es es.length es.length) := hrep6
              clear hbel6 hb6 hrep6 hR6
              go_wp2_with fail
              refine (zzexpired R6 now1 es (some ⟨w'.heap.size, 0, none⟩) s.size gc (sb s) (sb_length s).symm W6 P6.out K6.out (fun e => by cases e) (by omega) (by rw [sb_length]; exact hsz) (by omega) (by omega)).mono ?_
              rintro e w9 ⟨rfl, m6, rfl⟩
              rw [HX.out, e3]
              clear P6
              go_wp2_with fail
              refine (zzReplica now2 (some ⟨b, off, none⟩) es.length c es rfl (W6.drewN m6) (show ERow (W6.drewN m6) _ _ from E6.out) (by omega) HSS.out HWW.out).mono ?_
              rintro e W7 ⟨R7, rfl, hR7, hrep7, hbel7⟩
              have hb7 : Below W6.heap.size W6 W7 := ⟨hbel7.os, hbel7.tape, hbel7.output, hbel7.size, hbel7.block⟩
              have E7 : Hid (ERow W7 (some ⟨b, off, none⟩) es) := E6.out.below hb7 (Nat.le_refl _)
              have K7 : Hid (Row W7 (some ⟨w'.heap.size, 0, none⟩) (sb s)) := K6.out.below' hb7 (Nat.le_refl _)
              have B7 : Hid (Below w'.heap.size w' W7) := B6.out.trans (hb7.mono B6.out.size)
              have P7 : Hid (Rep W7 R7 now2 es es.length es.length) := hrep7
              clear hbel7 hb7 hrep7 hR7
              go_wp2_with fail
              refine (zzexpired R7 now2 es (some ⟨w'.heap.size, 0, none⟩) s.size gc (sb s) (sb_length s).symm W7 P7.out K7.out (fun e => by cases e) (by omega) (by rw [sb_length]; exact hsz) (by omega) (by omega)).mono ?_
              rintro e w9 ⟨rfl, m7, rfl⟩
              rw [HX.out, e4]
              clear P7
              go_wp2
              go_ret
              exact ⟨rfl, B7.out.os, B7.out.tape, B7.out.output, B7.out.size, B7.out.block⟩
            · have e3 : decide (T ≤ now1) = false := by simpa using d1
              have e4 : decide (T ≤ now2) = false := by simpa using d2
              refine (zzReplica (T - 1) (some ⟨b, off, none⟩) es.length c es rfl (W3) (show ERow (W3) _ _ from E3.out) (by omega) HSS.out HWW.out).mono ?_
              rintro e W4 ⟨R4, rfl, hR4, hrep4, hbel4⟩
              have hb4 : Below W3.heap.size W3 W4 := ⟨hbel4.os, hbel4.tape, hbel4.output, hbel4.size, hbel4.block⟩
              have E4 : Hid (ERow W4 (some ⟨b, off, none⟩) es) := E3.out.below hb4 (Nat.le_refl _)
              have K4 : Hid (Row W4 (some ⟨w'.heap.size, 0, none⟩) (sb s)) := K3.out.below' hb4 (Nat.le_refl _)
              have B4 : Hid (Below w'.heap.size w' W4) := B3.out.trans (hb4.mono B3.out.size)
              have P4 : Hid (Rep W4 R4 (T - 1) es es.length es.length) := hrep4
              clear hbel4 hb4 hrep4 hR4
              go_wp2_with fail
              refine (zzexpired R4 (T - 1) es (some ⟨w'.heap.size, 0, none⟩) s.size gc (sb s) (sb_length s).symm W4 P4.out K4.out (fun e => by cases e) (by omega) (by rw [sb_length]; exact hsz) (by omega) (by omega)).mono ?_
              rintro e w9 ⟨rfl, m4, rfl⟩
              rw [HX.out, e1]
              clear P4
              go_wp2_with fail
              refine (zzReplica T (some ⟨b, off, none⟩) es.length c es rfl (W4.drewN m4) (show ERow (W4.drewN m4) _ _ from E4.out) (by omega) HSS.out HWW.out).mono ?_
              rintro e W5 ⟨R5, rfl, hR5, hrep5, hbel5⟩
              have hb5 : Below W4.heap.size W4 W5 := ⟨hbel5.os, hbel5.tape, hbel5.output, hbel5.size, hbel5.block⟩
              have E5 : Hid (ERow W5 (some ⟨b, off, none⟩) es) := E4.out.below hb5 (Nat.le_refl _)
              have K5 : Hid (Row W5 (some ⟨w'.heap.size, 0, none⟩) (sb s)) := K4.out.below' hb5 (Nat.le_refl _)
              have B5 : Hid (Below w'.heap.size w' W5) := B4.out.trans (hb5.mono B4.out.size)
              have P5 : Hid (Rep W5 R5 T es es.length es.length) := hrep5
              clear hbel5 hb5 hrep5 hR5
              go_wp2_with fail
              refine (zzexpired R5 T es (some ⟨w'.heap.size, 0, none⟩) s.size gc (sb s) (sb_length s).symm W5 P5.out K5.out (fun e => by cases e) (by omega) (by rw [sb_length]; exact hsz) (by omega) (by omega)).mono ?_
              rintro e w9 ⟨rfl, m5, rfl⟩
              rw [HX.out, e2]
              clear P5
              go_wp2_with fail
              refine (zzReplica now1 (some ⟨b, off, none⟩) es.length c es rfl (W5.drewN m5) (show ERow (W5.drewN m5) _ _ from E5.out) (by omega) HSS.out HWW.out).mono ?_
              rintro e W6 ⟨R6, rfl, hR6, hrep6, hbel6⟩
              have hb6 : Below W5.heap.size W5 W6 := ⟨hbel6.os, hbel6.tape, hbel6.output, hbel6.size, hbel6.block⟩
              have E6 : Hid (ERow W6 (some ⟨b, off, none⟩) es) := E5.out.below hb6 (Nat.le_refl _)
              have K6 : Hid (Row W6 (some ⟨w'.heap.size, 0, none⟩) (sb s)) := K5.out.below' hb6 (Nat.le_refl _)
              have B6 : Hid (Below w'.heap.size w' W6) := B5.out.trans (hb6.mono B5.out.size)
              have P6 : Hid (Rep W6 R6 now1 es es.length es.length) := hrep6
              clear hbel6 hb6 hrep6 hR6
              go_wp2_with fail
              refine (zzexpired R6 now1 es (some ⟨w'.heap.size, 0, none⟩) s.size gc (sb s) (sb_length s).symm W6 P6.out K6.out (fun e => by cases e) (by omega) (by rw [sb_length]; exact hsz) (by omega) (by omega)).mono ?_
              rintro e w9 ⟨rfl, m6, rfl⟩
              rw [HX.out, e3]
              clear P6
              go_wp2_with fail
              refine (zzReplica now2 (some ⟨b, off, none⟩) es.length c es rfl (W6.drewN m6) (show ERow (W6.drewN m6) _ _ from E6.out) (by omega) HSS.out HWW.out).mono ?_
              rintro e W7 ⟨R7, rfl, hR7, hrep7, hbel7⟩
              have hb7 : Below W6.heap.size W6 W7 := ⟨hbel7.os, hbel7.tape, hbel7.output, hbel7.size, hbel7.block⟩
              have E7 : Hid (ERow W7 (some ⟨b, off, none⟩) es) := E6.out.below hb7 (Nat.le_refl _)
              have K7 : Hid (Row W7 (some ⟨w'.heap.size, 0, none⟩) (sb s)) := K6.out.below' hb7 (Nat.le_refl _)
              have B7 : Hid (Below w'.heap.size w' W7) := B6.out.trans (hb7.mono B6.out.size)
              have P7 : Hid (Rep W7 R7 now2 es es.length es.length) := hrep7
              clear hbel7 hb7 hrep7 hR7
              go_wp2_with fail
              refine (zzexpired R7 now2 es (some ⟨w'.heap.size, 0, none⟩) s.size gc (sb s) (sb_length s).symm W7 P7.out K7.out (fun e => by cases e) (by omega) (by rw [sb_length]; exact hsz) (by omega) (by omega)).mono ?_
              rintro e w9 ⟨rfl, m7, rfl⟩
              rw [HX.out, e4]
              clear P7
              go_wp2
              go_ret
              exact ⟨rfl, B7.out.os, B7.out.tape, B7.out.output, B7.out.size, B7.out.block⟩
    · go_wp2_with fail
      go_ret
      exact ⟨rfl, Below.refl _ _⟩

set_option maxHeartbeats 4000000 in
set_option maxRecDepth 100000 in
theorem walkT (now1 now2 : Int) (a : Option Addr) (c : Nat) (es : List (ByteArray × Int)) (i : Int) (w : World) (h : ERow w a es) (hlm : es.length ≤ maxLen) (hs : ∀ i, (eK es i).size ≤ maxLen) (hw : ∀ i, (Lit.int .i64 (eT es i)).wf = true)
    (h1l : -9223372036854775808 ≤ now1) (h1u : now1 ≤ 9223372036854775807) (h2l : -9223372036854775808 ≤ now2) (h2u : now2 ≤ 9223372036854775807) :
    Calls Try.prog 5 #[.int .i64 now1, .int .i64 now2, .slice a es.length c, .int .i64 i] w fun e w' => e = .returned (.bool true) ∧ Below w.heap.size w w' := by
  have HE : Hid (ERow w a es) := h
  have HSS : Hid (∀ i, (eK es i).size ≤ maxLen) := hs
  by_cases hl : es.length ≤ 4096
  · by_cases hi0 : i < 0
    · clear h hs hw
      go_enter Try.func5, Try.ntmps5
      go_wp2_with fail
      refine (bytes22 now1 now2 a es.length c i es rfl w HE.out hlm HSS.out).mono ?_
      rintro e w' ⟨⟨q, rfl, hq⟩, rfl⟩
      clear hq
      cases q with
      | false =>
        go_wp2_with fail
        go_ret
        exact ⟨rfl, Below.refl _ _⟩
      | true =>
        go_wp2_with fail
        refine (entriesBytes a es.length c es rfl _ HE.out (by omega) HSS.out).mono ?_
        rintro e w' ⟨⟨v, rfl⟩, rfl⟩
        by_cases hv : v ≤ 1048576
        · go_wp2_with fail
          go_ret
          exact ⟨rfl, Below.refl _ _⟩
        · go_wp2_with fail
          go_ret
          exact ⟨rfl, Below.refl _ _⟩
    · by_cases hi1 : (es.length : Int) ≤ i
      · clear h hs hw
        go_enter Try.func5, Try.ntmps5
        go_wp2_with fail
        refine (bytes22 now1 now2 a es.length c i es rfl w HE.out hlm HSS.out).mono ?_
        rintro e w' ⟨⟨q, rfl, hq⟩, rfl⟩
        clear hq
        cases q with
        | false =>
          go_wp2_with fail
          go_ret
          exact ⟨rfl, Below.refl _ _⟩
        | true =>
          go_wp2_with fail
          refine (entriesBytes a es.length c es rfl _ HE.out (by omega) HSS.out).mono ?_
          rintro e w' ⟨⟨v, rfl⟩, rfl⟩
          by_cases hv : v ≤ 1048576
          · go_wp2_with fail
            go_ret
            exact ⟨rfl, Below.refl _ _⟩
          · go_wp2_with fail
            go_ret
            exact ⟨rfl, Below.refl _ _⟩
      · obtain ⟨I, rfl⟩ := Int.eq_ofNat_of_zero_le (show 0 ≤ i by omega)
        by_cases h12 : now1 ≤ now2
        · exact walkT_in now1 now2 a c es I w h hl hs hw (by omega) h1l h1u h2l h2u h12
        · clear h hs hw
          go_enter Try.func5, Try.ntmps5
          go_wp2_with fail
          refine (bytes22 now1 now2 a es.length c I es rfl w HE.out hlm HSS.out).mono ?_
          rintro e w' ⟨⟨q, rfl, hq⟩, rfl⟩
          clear hq
          cases q with
          | false =>
            go_wp2_with fail
            go_ret
            exact ⟨rfl, Below.refl _ _⟩
          | true =>
            go_wp2_with fail
            refine (entriesBytes a es.length c es rfl _ HE.out (by omega) HSS.out).mono ?_
            rintro e w' ⟨⟨v, rfl⟩, rfl⟩
            by_cases hv : v ≤ 1048576
            · go_wp2_with fail
              refine (reachable a es.length c es rfl _ HE.out (by omega)).mono ?_
              rintro e w2 ⟨⟨q, rfl, hq⟩, n2, rfl⟩
              clear hq
              cases q with
              | false =>
                go_wp2_with fail
                go_ret
                exact ⟨rfl, rfl, rfl, rfl, Nat.le_refl _, fun _ _ => rfl⟩
              | true =>
                go_wp2_with fail
                go_ret
                exact ⟨rfl, rfl, rfl, rfl, Nat.le_refl _, fun _ _ => rfl⟩
            · go_wp2_with fail
              go_ret
              exact ⟨rfl, Below.refl _ _⟩
  · clear h hs hw
    have hl' : (4096 : Int) < (es.length : Int) := by omega
    unfold maxLen at hlm
    go_enter Try.func5, Try.ntmps5
    go_wp2_with fail
    refine (bytes22 now1 now2 a es.length c i es rfl w HE.out (by unfold maxLen; exact hlm) HSS.out).mono ?_
    rintro e w' ⟨⟨q, rfl, hq⟩, rfl⟩
    clear hq
    cases q with
    | false =>
      go_wp2_with fail
      go_ret
      exact ⟨rfl, Below.refl _ _⟩
    | true =>
      go_wp2_with fail
      go_ret
      exact ⟨rfl, Below.refl _ _⟩
end Go.Proofs.Qxb6609368a

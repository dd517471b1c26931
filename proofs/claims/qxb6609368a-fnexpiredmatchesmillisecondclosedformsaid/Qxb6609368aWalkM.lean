/-
  SEAT b6609368a: the walk of FnExpiredMatchesMillisecondClosedForm (4).
-/
import Derived.Test.Qxb6609368aWalkT
import Derived.Test.Qxb6609368aClone
namespace Go.Proofs.Qxb6609368a
open Go.RowKit Go.Maps
set_option linter.unusedVariables false

/-- found so far, and its instant -/
def fnd (es : List (ByteArray × Int)) (s : ByteArray) (k : Nat) : Bool := (ix es s k).isSome
def fat (es : List (ByteArray × Int)) (s : ByteArray) (k : Nat) : Int := match ix es s k with | some i => eT es i | none => 0

theorem fnd_yes {es : List (ByteArray × Int)} {s : ByteArray} {k : Nat} (h : eK es k = s) : fnd es s (k + 1) = true ∧ fat es s (k + 1) = eT es k := by
  simp [fnd, fat, ix, h]
theorem fnd_no {es : List (ByteArray × Int)} {s : ByteArray} {k : Nat} (h : ¬ eK es k = s) : fnd es s (k + 1) = fnd es s k ∧ fat es s (k + 1) = fat es s k := by
  simp [fnd, fat, ix, h]

theorem eqB_text (s : ByteArray) (xs : List Int) (h : ∀ x ∈ xs, 0 ≤ x ∧ x < 256) : eqB (sb s) xs = decide (s = ofB xs) := by
  by_cases e : s = ofB xs
  · subst e
    rw [eqB_yes (sb_ofB xs h)]; simp
  · rw [eqB_no (fun h2 => e (sb_inj' (by rw [h2, sb_ofB xs h])))]; simp [e]







set_option maxHeartbeats 4000000 in
set_option maxRecDepth 100000 in
theorem walkM_full (now : Int) (a : Option Addr) (c : Nat) (es : List (ByteArray × Int)) (ad : Addr) (c' : Nat) (xs : List Int) (w : World) (h : ERow w a es) (hl : es.length ≤ 4096) (hs : ∀ i, (eK es i).size ≤ maxLen) (hw : ∀ i, (Lit.int .i64 (eT es i)).wf = true)
    (hk : Row w (some ad) xs) (hxm : xs.length ≤ maxLen) (hxb0 : ∀ x ∈ xs, 0 ≤ x ∧ x < 256) (h0 : -9223372036854775808 ≤ now) (h1 : now ≤ 9223372036854775807) (h0e : 0 < es.length) :
    Calls Try.prog 4 #[.int .i64 now, .slice a es.length c, .slice (some ad) xs.length c'] w fun e w' => e = .returned (.bool true) ∧ Below w.heap.size w w' := by
  obtain ⟨b, off, rfl, _⟩ := h h0e
  have HE : Hid (ERow w (some ⟨b, off, none⟩) es) := h
  have HK : Hid (Row w (some ad) xs) := hk
  have HSS : Hid (∀ i, (eK es i).size ≤ maxLen) := hs
  have HWW : Hid (∀ i, (Lit.int .i64 (eT es i)).wf = true) := hw
  have hxb : Hid (∀ x ∈ xs, 0 ≤ x ∧ x < 256) := hxb0
  clear h hs hw hk hxb0
  go_enter Try.func4, Try.ntmps4
  go_wp2_with fail
  refine (bytes15 now (some ⟨b, off, none⟩) (some ad) es.length c xs.length c' es rfl w HE.out (by unfold maxLen; omega) hxm HSS.out).mono ?_
  rintro e w' ⟨⟨q, rfl, hq⟩, rfl⟩
  cases q with
  | false =>
    clear hq
    go_wp2_with fail
    go_ret
    exact ⟨rfl, Below.refl _ _⟩
  | true =>
    obtain ⟨_, hxl, hsm⟩ := hq rfl
    have HSM : Hid (∀ i, i < es.length → (eK es i).size ≤ 1048576) := hsm
    clear hq hsm
    go_wp2_with fail
    refine (entriesBytes (some ⟨b, off, none⟩) es.length c es rfl _ HE.out (by omega) HSS.out).mono ?_
    rintro e w' ⟨⟨v, rfl⟩, rfl⟩
    by_cases hv : 1048576 < wrap64 (v + (xs.length : Int))
    · go_wp2_with fail
      go_ret
      exact ⟨rfl, Below.refl _ _⟩
    · go_wp2_with fail
      refine (reachable (some ⟨b, off, none⟩) es.length c es rfl _ HE.out (by omega)).mono ?_
      rintro e w2 ⟨⟨q, rfl, hq⟩, n2, rfl⟩
      clear hq
      cases q with
      | false =>
        go_wp2_with fail
        go_ret
        exact ⟨rfl, rfl, rfl, rfl, Nat.le_refl _, fun _ _ => rfl⟩
      | true =>
        have hneq := fun w n c => run_neq_slice_nil_any (P := Try.prog) w 48 5 (some ad) n c 0 0 Try.underlying48
        have hmk := run_make_row' (P := Try.prog) 48 5 (.int .u8 0) 1 Try.underlying48 info5 rfl .i64 .i64 xs.length (by omega) (by omega)
        have hcp := run_copy_made ad c' xs (w'.drewN n2) (HK.out.drewN n2)
        have e0 : (w'.drewN n2).heap.size = w'.heap.size := rfl
        rw [e0] at hcp
        clear e0
        go_wp2_with fail
        obtain ⟨W3, hW3⟩ : ∃ W3, W3 = (w'.drewN n2).alloc (.cells (bc xs).toArray 5) := ⟨_, rfl⟩
        have hb3 : Below w'.heap.size w' W3 := by
          rw [hW3]
          exact Below.alloc (B := w'.heap.size) (a := w') (w := w'.drewN n2) ⟨rfl, rfl, rfl, Nat.le_refl w'.heap.size, fun _ _ => rfl⟩ (Nat.le_refl w'.heap.size) _
        have E3 : Hid (ERow W3 (some ⟨b, off, none⟩) es) := HE.out.below hb3 (Nat.le_refl _)
        have K3 : Hid (Row W3 (some ⟨w'.heap.size, 0, none⟩) xs) := by
          rw [hW3]
          intro _
          refine ⟨w'.heap.size, 0, rfl, fun i hi => ?_⟩
          show ((w'.drewN n2).alloc _).cell? ⟨(w'.drewN n2).heap.size, 0 + i, none⟩ = _
          rw [Nat.zero_add, World.cell?_alloc_at _ _ _ _ rfl]
          simp [bc, hi]
        have B3 : Hid (Below w'.heap.size w' W3) := hb3
        have hcp' : True := trivial
        clear hcp hmk hneq
        rw [← hW3]
        clear hb3 hW3 HK
        refine (zzReplica now (some ⟨b, off, none⟩) es.length c es rfl (W3) E3.out (by omega) HSS.out HWW.out).mono ?_
        rintro e W4 ⟨R4, rfl, hR4, hrep4, hbel4⟩
        have E4 : Hid (ERow W4 (some ⟨b, off, none⟩) es) := E3.out.below hbel4 (Nat.le_refl _)
        have K4 : Hid (Row W4 (some ⟨w'.heap.size, 0, none⟩) xs) := K3.out.below' hbel4 (Nat.le_refl _)
        have B4 : Hid (Below w'.heap.size w' W4) := B3.out.trans (hbel4.mono B3.out.size)
        have P4 : Hid (Rep W4 R4 now es es.length es.length) := hrep4
        clear hbel4 hrep4 hR4
        go_wp2_with fail
        refine (zzexpired R4 now es (some ⟨w'.heap.size, 0, none⟩) xs.length xs.length xs rfl W4 P4.out K4.out (fun e => by cases e) (by omega) hxm h0 h1).mono ?_
        rintro e w9 ⟨rfl, m4, rfl⟩
        obtain ⟨s, hs⟩ : ∃ s, s = ofB xs := ⟨_, rfl⟩
        rw [← hs]
        obtain ⟨got, hgot⟩ : ∃ got, got = expB es s now := ⟨_, rfl⟩
        rw [← hgot]
        have HX : Hid (got = (volB es s && decide (atOf es s < now.tdiv 1000000))) := hgot
        have HST : Hid (∀ t : ByteArray, eqB (sb t) xs = decide (t = s)) := fun t => by rw [hs]; exact eqB_text t xs hxb.out
        clear hs hgot P4
        obtain ⟨b', off', e1, hc4⟩ := E4.out h0e
        simp only [Option.some.injEq, Addr.mk.injEq, and_true] at e1
        obtain ⟨rfl, rfl⟩ := e1
        have HC : Hid (∀ i, i < es.length → W4.cell? ⟨b, off + i * 2, none⟩ = some (.string (eK es i)) ∧ W4.cell? ⟨b, off + i * 2 + 1, none⟩ = some (.int .i64 (eT es i))) := hc4
        clear hc4
        go_wp2_with fail
        go_loopw [9, 10, 11] (fun f t i wr => ∃ k : Nat, k ≤ es.length ∧ f = .bool (fnd es s k) ∧ t = .int .i64 (fat es s k) ∧ i = .int .i64 k ∧ ∃ m, wr = W4.drewN m) (fun _ _ i _ => es.length - (intOf i).toNat)
        case atStart => exact ⟨0, Nat.zero_le _, rfl, rfl, rfl, m4, rfl⟩
        case round =>
          obtain ⟨k, hk, rfl, rfl, rfl, m5, rfl⟩ := hrel
          by_cases hlt : k < es.length
          · obtain ⟨u, hu⟩ : ∃ u, u = eK es k := ⟨_, rfl⟩
            obtain ⟨v, hv⟩ : ∃ v, v = eT es k := ⟨_, rfl⟩
            have c1 : W4.cell? ⟨b, off + k * 2, none⟩ = some (.string u) := by rw [hu]; exact (HC.out k hlt).1
            have c2 : W4.cell? ⟨b, off + k * 2 + 1, none⟩ = some (.int .i64 v) := by rw [hv]; exact (HC.out k hlt).2
            have b2 : (k : Int) < (es.length : Int) := by omega
            have hus : u.size ≤ 1048576 := by rw [hu]; exact HSM.out k hlt
            by_cases hks : u = s
            · have e1 := fnd_yes (es := es) (s := s) (k := k) (by rw [← hu]; exact hks)
              have HE1 : Hid (fnd es s (k + 1) = true ∧ fat es s (k + 1) = v) := by rw [hv]; exact e1
              have e2 : eqB (sb u) xs = true := by rw [HST.out]; simp [hks]
              clear e1 hu hv hks
              generalize fnd es s k = fk
              generalize fat es s k = tk
              go_wp2_with fail
              refine (sameText u (some ⟨w'.heap.size, 0, none⟩) xs.length xs (W4.drewN m5) (show Row (W4.drewN m5) _ _ from K4.out) (by omega) (by omega)).mono ?_
              rintro e w9 ⟨rfl, m6, rfl⟩
              rw [e2]
              go_wp2
              go_roundw
              case rel => exact ⟨k + 1, by omega, by rw [HE1.out.1], by rw [HE1.out.2], by go_num, m5 + m6, by simp⟩
              case measure => simp [intOf]; omega
            · have e1 := fnd_no (es := es) (s := s) (k := k) (by rw [← hu]; exact hks)
              have e2 : eqB (sb u) xs = false := by rw [HST.out]; simp [hks]
              obtain ⟨fk, hfk⟩ : ∃ fk, fk = fnd es s k := ⟨_, rfl⟩
              obtain ⟨tk, htk⟩ : ∃ tk, tk = fat es s k := ⟨_, rfl⟩
              rw [← hfk, ← htk] at e1
              rw [← hfk, ← htk]
              have HE1 : Hid (fnd es s (k + 1) = fk ∧ fat es s (k + 1) = tk) := e1
              clear e1 hu hv hks hfk htk
              go_wp2_with fail
              refine (sameText u (some ⟨w'.heap.size, 0, none⟩) xs.length xs (W4.drewN m5) (show Row (W4.drewN m5) _ _ from K4.out) (by omega) (by omega)).mono ?_
              rintro e w9 ⟨rfl, m6, rfl⟩
              rw [e2]
              go_wp2
              go_roundw
              case rel => exact ⟨k + 1, by omega, by rw [HE1.out.1], by rw [HE1.out.2], by go_num, m5 + m6, by simp⟩
              case measure => simp [intOf]; omega
          · obtain rfl : k = es.length := by omega
            have hfo : fnd es s es.length = volB es s := rfl
            have hfa : fat es s es.length = atOf es s := rfl
            have HQ := HX.out
            clear HX
            rw [hfo, hfa] at *
            generalize atOf es s = t at *
            cases hv : volB es s with
            | false =>
              rw [hv, Bool.false_and] at HQ
              subst HQ
              go_wp2
              go_ret
              exact ⟨rfl, B4.out.os, B4.out.tape, B4.out.output, B4.out.size, B4.out.block⟩
            | true =>
              rw [hv, Bool.true_and] at HQ
              have e9 : (got == decide (t < now.tdiv 1000000)) = true := by rw [HQ]; simp
              clear HQ
              go_wp2_with fail
              refine (passed_any t now _ h0 h1).mono ?_
              rintro e w9 ⟨rfl, rfl⟩
              generalize decide (t < now.tdiv 1000000) = dd at *
              go_wp2
              go_ret
              exact ⟨rfl, B4.out.os, B4.out.tape, B4.out.output, B4.out.size, B4.out.block⟩

set_option maxHeartbeats 4000000 in
set_option maxRecDepth 100000 in
theorem walkM_nokey (now : Int) (a : Option Addr) (c : Nat) (es : List (ByteArray × Int)) (xs : List Int) (w : World) (h : ERow w a es) (hl : es.length ≤ 4096) (hs : ∀ i, (eK es i).size ≤ maxLen) (hw : ∀ i, (Lit.int .i64 (eT es i)).wf = true)
    (hk : Row w none xs) (hxm : xs.length ≤ maxLen) (hxb0 : ∀ x ∈ xs, 0 ≤ x ∧ x < 256) (h0 : -9223372036854775808 ≤ now) (h1 : now ≤ 9223372036854775807) (h0e : 0 < es.length) (hx0 : xs = []) :
    Calls Try.prog 4 #[.int .i64 now, .slice a es.length c, .slice none 0 0] w fun e w' => e = .returned (.bool true) ∧ Below w.heap.size w w' := by
  subst hx0
  obtain ⟨b, off, rfl, _⟩ := h h0e
  have HE : Hid (ERow w (some ⟨b, off, none⟩) es) := h
  have HK : Hid (Row w none []) := hk
  have HSS : Hid (∀ i, (eK es i).size ≤ maxLen) := hs
  have HWW : Hid (∀ i, (Lit.int .i64 (eT es i)).wf = true) := hw
  have hxb : Hid (∀ x ∈ ([] : List Int), 0 ≤ x ∧ x < 256) := hxb0
  clear h hs hw hk hxb0
  go_enter Try.func4, Try.ntmps4
  go_wp2_with fail
  refine (bytes15 now (some ⟨b, off, none⟩) none es.length c 0 0 es rfl w HE.out (by unfold maxLen; omega) hxm HSS.out).mono ?_
  rintro e w' ⟨⟨q, rfl, hq⟩, rfl⟩
  cases q with
  | false =>
    clear hq
    go_wp2_with fail
    go_ret
    exact ⟨rfl, Below.refl _ _⟩
  | true =>
    obtain ⟨_, hxl, hsm⟩ := hq rfl
    have HSM : Hid (∀ i, i < es.length → (eK es i).size ≤ 1048576) := hsm
    clear hq hsm
    go_wp2_with fail
    refine (entriesBytes (some ⟨b, off, none⟩) es.length c es rfl _ HE.out (by omega) HSS.out).mono ?_
    rintro e w' ⟨⟨v, rfl⟩, rfl⟩
    by_cases hv : 1048576 < wrap64 v
    · go_wp2_with fail
      go_ret
      exact ⟨rfl, Below.refl _ _⟩
    · go_wp2_with fail
      refine (reachable (some ⟨b, off, none⟩) es.length c es rfl _ HE.out (by omega)).mono ?_
      rintro e w2 ⟨⟨q, rfl, hq⟩, n2, rfl⟩
      clear hq
      cases q with
      | false =>
        go_wp2_with fail
        go_ret
        exact ⟨rfl, rfl, rfl, rfl, Nat.le_refl _, fun _ _ => rfl⟩
      | true =>
        have hneq := fun w n c => run_neq_slice_nil_any (P := Try.prog) w 48 5 none n c 0 0 Try.underlying48
        go_wp2_with fail
        have E3 : Hid (ERow (w'.drewN n2) (some ⟨b, off, none⟩) es) := HE.out
        have K3 : Hid (Row (w'.drewN n2) none []) := HK.out
        have B3 : Hid (Below w'.heap.size w' (w'.drewN n2)) := ⟨rfl, rfl, rfl, Nat.le_refl w'.heap.size, fun _ _ => rfl⟩
        clear hneq
        refine (zzReplica now (some ⟨b, off, none⟩) es.length c es rfl (w'.drewN n2) E3.out (by omega) HSS.out HWW.out).mono ?_
        rintro e W4 ⟨R4, rfl, hR4, hrep4, hbel4⟩
        have E4 : Hid (ERow W4 (some ⟨b, off, none⟩) es) := E3.out.below hbel4 (Nat.le_refl _)
        have K4 : Hid (Row W4 none []) := K3.out.below' hbel4 (Nat.le_refl _)
        have B4 : Hid (Below w'.heap.size w' W4) := B3.out.trans (hbel4.mono B3.out.size)
        have P4 : Hid (Rep W4 R4 now es es.length es.length) := hrep4
        clear hbel4 hrep4 hR4
        go_wp2_with fail
        refine (zzexpired R4 now es none 0 0 [] rfl W4 P4.out K4.out (fun _ => ⟨rfl, rfl⟩) (by omega) hxm h0 h1).mono ?_
        rintro e w9 ⟨rfl, m4, rfl⟩
        obtain ⟨s, hs⟩ : ∃ s, s = ofB [] := ⟨_, rfl⟩
        rw [← hs]
        obtain ⟨got, hgot⟩ : ∃ got, got = expB es s now := ⟨_, rfl⟩
        rw [← hgot]
        have HX : Hid (got = (volB es s && decide (atOf es s < now.tdiv 1000000))) := hgot
        have HST : Hid (∀ t : ByteArray, eqB (sb t) [] = decide (t = s)) := fun t => by rw [hs]; exact eqB_text t [] hxb.out
        clear hs hgot P4
        obtain ⟨b', off', e1, hc4⟩ := E4.out h0e
        simp only [Option.some.injEq, Addr.mk.injEq, and_true] at e1
        obtain ⟨rfl, rfl⟩ := e1
        have HC : Hid (∀ i, i < es.length → W4.cell? ⟨b, off + i * 2, none⟩ = some (.string (eK es i)) ∧ W4.cell? ⟨b, off + i * 2 + 1, none⟩ = some (.int .i64 (eT es i))) := hc4
        clear hc4
        go_wp2_with fail
        go_loopw [9, 10, 11] (fun f t i wr => ∃ k : Nat, k ≤ es.length ∧ f = .bool (fnd es s k) ∧ t = .int .i64 (fat es s k) ∧ i = .int .i64 k ∧ ∃ m, wr = W4.drewN m) (fun _ _ i _ => es.length - (intOf i).toNat)
        case atStart => exact ⟨0, Nat.zero_le _, rfl, rfl, rfl, m4, rfl⟩
        case round =>
          obtain ⟨k, hk, rfl, rfl, rfl, m5, rfl⟩ := hrel
          by_cases hlt : k < es.length
          · obtain ⟨u, hu⟩ : ∃ u, u = eK es k := ⟨_, rfl⟩
            obtain ⟨v, hv⟩ : ∃ v, v = eT es k := ⟨_, rfl⟩
            have c1 : W4.cell? ⟨b, off + k * 2, none⟩ = some (.string u) := by rw [hu]; exact (HC.out k hlt).1
            have c2 : W4.cell? ⟨b, off + k * 2 + 1, none⟩ = some (.int .i64 v) := by rw [hv]; exact (HC.out k hlt).2
            have b2 : (k : Int) < (es.length : Int) := by omega
            have hus : u.size ≤ 1048576 := by rw [hu]; exact HSM.out k hlt
            by_cases hks : u = s
            · have e1 := fnd_yes (es := es) (s := s) (k := k) (by rw [← hu]; exact hks)
              have HE1 : Hid (fnd es s (k + 1) = true ∧ fat es s (k + 1) = v) := by rw [hv]; exact e1
              have e2 : eqB (sb u) [] = true := by rw [HST.out]; simp [hks]
              clear e1 hu hv hks
              generalize fnd es s k = fk
              generalize fat es s k = tk
              go_wp2_with fail
              refine (sameText u none 0 [] (W4.drewN m5) (show Row (W4.drewN m5) _ _ from K4.out) (by omega) (Nat.zero_le _)).mono ?_
              rintro e w9 ⟨rfl, m6, rfl⟩
              rw [e2]
              go_wp2
              go_roundw
              case rel => exact ⟨k + 1, by omega, by rw [HE1.out.1], by rw [HE1.out.2], by go_num, m5 + m6, by simp⟩
              case measure => simp [intOf]; omega
            · have e1 := fnd_no (es := es) (s := s) (k := k) (by rw [← hu]; exact hks)
              have e2 : eqB (sb u) [] = false := by rw [HST.out]; simp [hks]
              obtain ⟨fk, hfk⟩ : ∃ fk, fk = fnd es s k := ⟨_, rfl⟩
              obtain ⟨tk, htk⟩ : ∃ tk, tk = fat es s k := ⟨_, rfl⟩
              rw [← hfk, ← htk] at e1
              rw [← hfk, ← htk]
              have HE1 : Hid (fnd es s (k + 1) = fk ∧ fat es s (k + 1) = tk) := e1
              clear e1 hu hv hks hfk htk
              go_wp2_with fail
              refine (sameText u none 0 [] (W4.drewN m5) (show Row (W4.drewN m5) _ _ from K4.out) (by omega) (Nat.zero_le _)).mono ?_
              rintro e w9 ⟨rfl, m6, rfl⟩
              rw [e2]
              go_wp2
              go_roundw
              case rel => exact ⟨k + 1, by omega, by rw [HE1.out.1], by rw [HE1.out.2], by go_num, m5 + m6, by simp⟩
              case measure => simp [intOf]; omega
          · obtain rfl : k = es.length := by omega
            have hfo : fnd es s es.length = volB es s := rfl
            have hfa : fat es s es.length = atOf es s := rfl
            have HQ := HX.out
            clear HX
            rw [hfo, hfa] at *
            generalize atOf es s = t at *
            cases hv : volB es s with
            | false =>
              rw [hv, Bool.false_and] at HQ
              subst HQ
              go_wp2
              go_ret
              exact ⟨rfl, B4.out.os, B4.out.tape, B4.out.output, B4.out.size, B4.out.block⟩
            | true =>
              rw [hv, Bool.true_and] at HQ
              have e9 : (got == decide (t < now.tdiv 1000000)) = true := by rw [HQ]; simp
              clear HQ
              go_wp2_with fail
              refine (passed_any t now _ h0 h1).mono ?_
              rintro e w9 ⟨rfl, rfl⟩
              generalize decide (t < now.tdiv 1000000) = dd at *
              go_wp2
              go_ret
              exact ⟨rfl, B4.out.os, B4.out.tape, B4.out.output, B4.out.size, B4.out.block⟩

set_option maxHeartbeats 4000000 in
set_option maxRecDepth 100000 in
theorem walkM_none (now : Int) (a : Option Addr) (c : Nat) (es : List (ByteArray × Int)) (ad : Addr) (c' : Nat) (xs : List Int) (w : World) (h : ERow w a es) (hl : es.length ≤ 4096) (hs : ∀ i, (eK es i).size ≤ maxLen) (hw : ∀ i, (Lit.int .i64 (eT es i)).wf = true)
    (hk : Row w (some ad) xs) (hxm : xs.length ≤ maxLen) (hxb0 : ∀ x ∈ xs, 0 ≤ x ∧ x < 256) (h0 : -9223372036854775808 ≤ now) (h1 : now ≤ 9223372036854775807) (h0e : es.length = 0) :
    Calls Try.prog 4 #[.int .i64 now, .slice a es.length c, .slice (some ad) xs.length c'] w fun e w' => e = .returned (.bool true) ∧ Below w.heap.size w w' := by
  obtain rfl : es = [] := List.eq_nil_of_length_eq_zero h0e
  have HE : Hid (ERow w a []) := h
  have HK : Hid (Row w (some ad) xs) := hk
  have HSS : Hid (∀ i, (eK [] i).size ≤ maxLen) := hs
  have HWW : Hid (∀ i, (Lit.int .i64 (eT [] i)).wf = true) := hw
  have hxb : Hid (∀ x ∈ xs, 0 ≤ x ∧ x < 256) := hxb0
  clear h hs hw hk hxb0
  go_enter Try.func4, Try.ntmps4
  go_wp2_with fail
  refine (bytes15 now a (some ad) 0 c xs.length c' [] rfl w HE.out (by unfold maxLen; omega) hxm HSS.out).mono ?_
  rintro e w' ⟨⟨q, rfl, hq⟩, rfl⟩
  cases q with
  | false =>
    clear hq
    go_wp2_with fail
    go_ret
    exact ⟨rfl, Below.refl _ _⟩
  | true =>
    obtain ⟨_, hxl, hsm⟩ := hq rfl
    have HSM : Hid (∀ i, i < 0 → (eK [] i).size ≤ 1048576) := hsm
    clear hq hsm
    go_wp2_with fail
    refine (entriesBytes a 0 c [] rfl _ HE.out (by omega) HSS.out).mono ?_
    rintro e w' ⟨⟨v, rfl⟩, rfl⟩
    by_cases hv : 1048576 < wrap64 (v + (xs.length : Int))
    · go_wp2_with fail
      go_ret
      exact ⟨rfl, Below.refl _ _⟩
    · go_wp2_with fail
      refine (reachable a 0 c [] rfl _ HE.out (by omega)).mono ?_
      rintro e w2 ⟨⟨q, rfl, hq⟩, n2, rfl⟩
      clear hq
      cases q with
      | false =>
        go_wp2_with fail
        go_ret
        exact ⟨rfl, rfl, rfl, rfl, Nat.le_refl _, fun _ _ => rfl⟩
      | true =>
        have hneq := fun w n c => run_neq_slice_nil_any (P := Try.prog) w 48 5 (some ad) n c 0 0 Try.underlying48
        have hmk := run_make_row' (P := Try.prog) 48 5 (.int .u8 0) 1 Try.underlying48 info5 rfl .i64 .i64 xs.length (by omega) (by omega)
        have hcp := run_copy_made ad c' xs (w'.drewN n2) (HK.out.drewN n2)
        have e0 : (w'.drewN n2).heap.size = w'.heap.size := rfl
        rw [e0] at hcp
        clear e0
        go_wp2_with fail
        obtain ⟨W3, hW3⟩ : ∃ W3, W3 = (w'.drewN n2).alloc (.cells (bc xs).toArray 5) := ⟨_, rfl⟩
        have hb3 : Below w'.heap.size w' W3 := by
          rw [hW3]
          exact Below.alloc (B := w'.heap.size) (a := w') (w := w'.drewN n2) ⟨rfl, rfl, rfl, Nat.le_refl w'.heap.size, fun _ _ => rfl⟩ (Nat.le_refl w'.heap.size) _
        have E3 : Hid (ERow W3 a []) := HE.out.below hb3 (Nat.le_refl _)
        have K3 : Hid (Row W3 (some ⟨w'.heap.size, 0, none⟩) xs) := by
          rw [hW3]
          intro _
          refine ⟨w'.heap.size, 0, rfl, fun i hi => ?_⟩
          show ((w'.drewN n2).alloc _).cell? ⟨(w'.drewN n2).heap.size, 0 + i, none⟩ = _
          rw [Nat.zero_add, World.cell?_alloc_at _ _ _ _ rfl]
          simp [bc, hi]
        have B3 : Hid (Below w'.heap.size w' W3) := hb3
        have hcp' : True := trivial
        clear hcp hmk hneq
        rw [← hW3]
        clear hb3 hW3 HK
        refine (zzReplica now a 0 c [] rfl (W3) E3.out (by omega) HSS.out HWW.out).mono ?_
        rintro e W4 ⟨R4, rfl, hR4, hrep4, hbel4⟩
        have E4 : Hid (ERow W4 a []) := E3.out.below hbel4 (Nat.le_refl _)
        have K4 : Hid (Row W4 (some ⟨w'.heap.size, 0, none⟩) xs) := K3.out.below' hbel4 (Nat.le_refl _)
        have B4 : Hid (Below w'.heap.size w' W4) := B3.out.trans (hbel4.mono B3.out.size)
        have P4 : Hid (Rep W4 R4 now [] 0 0) := hrep4
        clear hbel4 hrep4 hR4
        go_wp2_with fail
        refine (zzexpired R4 now [] (some ⟨w'.heap.size, 0, none⟩) xs.length xs.length xs rfl W4 P4.out K4.out (fun e => by cases e) (by omega) hxm h0 h1).mono ?_
        rintro e w9 ⟨rfl, m4, rfl⟩
        obtain ⟨s, hs⟩ : ∃ s, s = ofB xs := ⟨_, rfl⟩
        rw [← hs]
        obtain ⟨got, hgot⟩ : ∃ got, got = expB [] s now := ⟨_, rfl⟩
        rw [← hgot]
        have HX : Hid (got = (volB [] s && decide (atOf [] s < now.tdiv 1000000))) := hgot
        have HST : Hid (∀ t : ByteArray, eqB (sb t) xs = decide (t = s)) := fun t => by rw [hs]; exact eqB_text t xs hxb.out
        clear hs hgot P4
        go_wp2_with fail
        refine wp_loop_rounds 1 ?_
        rw [rounds_succ]
        have HQ := HX.out
        have hv : volB ([] : List (ByteArray × Int)) s = false := rfl
        rw [hv, Bool.false_and] at HQ
        subst HQ
        go_wp2
        go_ret
        exact ⟨rfl, B4.out.os, B4.out.tape, B4.out.output, B4.out.size, B4.out.block⟩

set_option maxHeartbeats 4000000 in
set_option maxRecDepth 100000 in
theorem walkM_void (now : Int) (a : Option Addr) (c : Nat) (es : List (ByteArray × Int)) (xs : List Int) (w : World) (h : ERow w a es) (hl : es.length ≤ 4096) (hs : ∀ i, (eK es i).size ≤ maxLen) (hw : ∀ i, (Lit.int .i64 (eT es i)).wf = true)
    (hk : Row w none xs) (hxm : xs.length ≤ maxLen) (hxb0 : ∀ x ∈ xs, 0 ≤ x ∧ x < 256) (h0 : -9223372036854775808 ≤ now) (h1 : now ≤ 9223372036854775807) (h0e : es.length = 0) (hx0 : xs = []) :
    Calls Try.prog 4 #[.int .i64 now, .slice a es.length c, .slice none 0 0] w fun e w' => e = .returned (.bool true) ∧ Below w.heap.size w w' := by
  subst hx0
  obtain rfl : es = [] := List.eq_nil_of_length_eq_zero h0e
  have HE : Hid (ERow w a []) := h
  have HK : Hid (Row w none []) := hk
  have HSS : Hid (∀ i, (eK [] i).size ≤ maxLen) := hs
  have HWW : Hid (∀ i, (Lit.int .i64 (eT [] i)).wf = true) := hw
  have hxb : Hid (∀ x ∈ ([] : List Int), 0 ≤ x ∧ x < 256) := hxb0
  clear h hs hw hk hxb0
  go_enter Try.func4, Try.ntmps4
  go_wp2_with fail
  refine (bytes15 now a none 0 c 0 0 [] rfl w HE.out (by unfold maxLen; omega) hxm HSS.out).mono ?_
  rintro e w' ⟨⟨q, rfl, hq⟩, rfl⟩
  cases q with
  | false =>
    clear hq
    go_wp2_with fail
    go_ret
    exact ⟨rfl, Below.refl _ _⟩
  | true =>
    obtain ⟨_, hxl, hsm⟩ := hq rfl
    have HSM : Hid (∀ i, i < 0 → (eK [] i).size ≤ 1048576) := hsm
    clear hq hsm
    go_wp2_with fail
    refine (entriesBytes a 0 c [] rfl _ HE.out (by omega) HSS.out).mono ?_
    rintro e w' ⟨⟨v, rfl⟩, rfl⟩
    by_cases hv : 1048576 < wrap64 v
    · go_wp2_with fail
      go_ret
      exact ⟨rfl, Below.refl _ _⟩
    · go_wp2_with fail
      refine (reachable a 0 c [] rfl _ HE.out (by omega)).mono ?_
      rintro e w2 ⟨⟨q, rfl, hq⟩, n2, rfl⟩
      clear hq
      cases q with
      | false =>
        go_wp2_with fail
        go_ret
        exact ⟨rfl, rfl, rfl, rfl, Nat.le_refl _, fun _ _ => rfl⟩
      | true =>
        have hneq := fun w n c => run_neq_slice_nil_any (P := Try.prog) w 48 5 none n c 0 0 Try.underlying48
        go_wp2_with fail
        have E3 : Hid (ERow (w'.drewN n2) a []) := HE.out
        have K3 : Hid (Row (w'.drewN n2) none []) := HK.out
        have B3 : Hid (Below w'.heap.size w' (w'.drewN n2)) := ⟨rfl, rfl, rfl, Nat.le_refl w'.heap.size, fun _ _ => rfl⟩
        clear hneq
        refine (zzReplica now a 0 c [] rfl (w'.drewN n2) E3.out (by omega) HSS.out HWW.out).mono ?_
        rintro e W4 ⟨R4, rfl, hR4, hrep4, hbel4⟩
        have E4 : Hid (ERow W4 a []) := E3.out.below hbel4 (Nat.le_refl _)
        have K4 : Hid (Row W4 none []) := K3.out.below' hbel4 (Nat.le_refl _)
        have B4 : Hid (Below w'.heap.size w' W4) := B3.out.trans (hbel4.mono B3.out.size)
        have P4 : Hid (Rep W4 R4 now [] 0 0) := hrep4
        clear hbel4 hrep4 hR4
        go_wp2_with fail
        refine (zzexpired R4 now [] none 0 0 [] rfl W4 P4.out K4.out (fun _ => ⟨rfl, rfl⟩) (by omega) hxm h0 h1).mono ?_
        rintro e w9 ⟨rfl, m4, rfl⟩
        obtain ⟨s, hs⟩ : ∃ s, s = ofB [] := ⟨_, rfl⟩
        rw [← hs]
        obtain ⟨got, hgot⟩ : ∃ got, got = expB [] s now := ⟨_, rfl⟩
        rw [← hgot]
        have HX : Hid (got = (volB [] s && decide (atOf [] s < now.tdiv 1000000))) := hgot
        have HST : Hid (∀ t : ByteArray, eqB (sb t) [] = decide (t = s)) := fun t => by rw [hs]; exact eqB_text t [] hxb.out
        clear hs hgot P4
        go_wp2_with fail
        refine wp_loop_rounds 1 ?_
        rw [rounds_succ]
        have HQ := HX.out
        have hv : volB ([] : List (ByteArray × Int)) s = false := rfl
        rw [hv, Bool.false_and] at HQ
        subst HQ
        go_wp2
        go_ret
        exact ⟨rfl, B4.out.os, B4.out.tape, B4.out.output, B4.out.size, B4.out.block⟩

set_option maxHeartbeats 4000000 in
set_option maxRecDepth 100000 in
theorem walkM_long (now : Int) (a : Option Addr) (c : Nat) (es : List (ByteArray × Int)) (a' : Option Addr) (c' : Nat) (xs : List Int) (w : World) (h : ERow w a es) (hm : es.length ≤ maxLen) (hl : 4096 < es.length) (hs : ∀ i, (eK es i).size ≤ maxLen) (hxm : xs.length ≤ maxLen) :
    Calls Try.prog 4 #[.int .i64 now, .slice a es.length c, .slice a' xs.length c'] w fun e w' => e = .returned (.bool true) ∧ Below w.heap.size w w' := by
  have HE : Hid (ERow w a es) := h
  have HSS : Hid (∀ i, (eK es i).size ≤ maxLen) := hs
  clear h hs
  go_enter Try.func4, Try.ntmps4
  go_wp2_with fail
  refine (bytes15 now a a' es.length c xs.length c' es rfl w HE.out hm hxm HSS.out).mono ?_
  rintro e w' ⟨⟨q, rfl, hq⟩, rfl⟩
  cases q with
  | false =>
    clear hq
    go_wp2_with fail
    go_ret
    exact ⟨rfl, Below.refl _ _⟩
  | true =>
    obtain ⟨hel, hxl, hsm⟩ := hq rfl
    clear hq hsm
    go_wp2_with fail
    go_ret
    exact ⟨rfl, Below.refl _ _⟩

theorem walkM (now : Int) (a : Option Addr) (c : Nat) (es : List (ByteArray × Int)) (a' : Option Addr) (c' : Nat) (xs : List Int) (w : World) (h : ERow w a es) (hm : es.length ≤ maxLen) (hs : ∀ i, (eK es i).size ≤ maxLen) (hw : ∀ i, (Lit.int .i64 (eT es i)).wf = true)
    (hk : Row w a' xs) (hxm : xs.length ≤ maxLen) (hxb : ∀ x ∈ xs, 0 ≤ x ∧ x < 256) (hz : a' = none → xs.length = 0 ∧ c' = 0) (h0 : -9223372036854775808 ≤ now) (h1 : now ≤ 9223372036854775807) :
    Calls Try.prog 4 #[.int .i64 now, .slice a es.length c, .slice a' xs.length c'] w fun e w' => e = .returned (.bool true) ∧ Below w.heap.size w w' := by
  by_cases hl : es.length ≤ 4096
  · cases a' with
    | none =>
      obtain ⟨hx, rfl⟩ := hz rfl
      obtain rfl : xs = [] := List.eq_nil_of_length_eq_zero hx
      by_cases h0e : 0 < es.length
      · exact walkM_nokey now a c es [] w h hl hs hw hk hxm hxb h0 h1 h0e rfl
      · exact walkM_void now a c es [] w h hl hs hw hk hxm hxb h0 h1 (by omega) rfl
    | some ad =>
      by_cases h0e : 0 < es.length
      · exact walkM_full now a c es ad c' xs w h hl hs hw hk hxm hxb h0 h1 h0e
      · exact walkM_none now a c es ad c' xs w h hl hs hw hk hxm hxb h0 h1 (by omega)
  · exact walkM_long now a c es a' c' xs w h hm (by omega) hs hxm

/-- A slice of bytes that came in, as a row of bytes, with its bounds. -/
theorem row_in' {w : World} {a : Option Addr} {len cap : Nat} {zs : List Int}
    (h : (a = none ∧ len = 0 ∧ cap = 0 ∧ zs = []) ∨ ∃ x, a = some x ∧ len ≤ cap ∧ cap ≤ maxLen ∧ zs.length = cap ∧ (∀ i, i < zs.length → w.cell? (x.add i) = some (.int .u8 (zs.getD i 0))) ∧ ∀ n ∈ zs, (Lit.int .u8 n).wf = true) :
    ∃ xs : List Int, len = xs.length ∧ Row w a xs ∧ (∀ x ∈ xs, 0 ≤ x ∧ x < 256) ∧ (a = none → len = 0 ∧ cap = 0) ∧ len ≤ maxLen := by
  rcases h with ⟨rfl, rfl, rfl, rfl⟩ | ⟨x, rfl, hl, hm, hz, hcell, hwz⟩
  · exact ⟨[], rfl, fun h => absurd h (by simp), (fun x hx => by cases hx), fun _ => ⟨rfl, rfl⟩, Nat.zero_le _⟩
  · have hlt : len = (zs.take len).length := by rw [List.length_take]; omega
    refine ⟨zs.take len, hlt, fun h0 => ?_, fun x hx => ?_, (fun e => by cases e), (by omega)⟩
    · rw [← hlt] at h0
      obtain ⟨b, off, spot⟩ := x
      have hc := hcell 0 (by omega)
      have hspot : spot = none := by simpa [Addr.add] using World.cell?_spot hc
      subst hspot
      refine ⟨b, off, rfl, fun i hi => ?_⟩
      rw [← hlt] at hi
      have hci := hcell i (by omega)
      rw [Addr.add_lit] at hci
      rw [hci]
      simp [List.getD, hi]
    · have := hwz x (List.mem_of_mem_take hx)
      simp [Lit.wf, IntKind.min, IntKind.max, IntKind.bits, IntKind.signed] at this
      omega
end Go.Proofs.Qxb6609368a

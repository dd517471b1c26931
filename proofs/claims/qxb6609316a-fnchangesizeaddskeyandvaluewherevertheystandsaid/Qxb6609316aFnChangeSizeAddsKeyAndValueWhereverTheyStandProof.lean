/-
  THE PROOF OF 'Rows.FnChangeSizeAddsKeyAndValueWhereverTheyStandSaid': the guide's frame (the seat's shell) and the walk.
-/
import Derived.Test.Qxb6609316aRows
import Derived.WalkKit
import Derived.ProofKit
import Derived.OpenShut
import Derived.ShutString
namespace Go.Proofs.Qxb6609316a.fnChangeSizeAddsKeyAndValueWhereverTheyStand
open Go.ChangeShapes Go.WideShapes Go.ChangeAt Go.RowKit
open Go.ChangeMaps (open_string shut_string)
set_option linter.unusedVariables false      -- a walk need not use every 'w<i>' (that an integer argument fits its kind)

theorem own : ownKnob Try.prog.godebug = none := by kernel_rfl

/-! ### STEP 1: THE WALK -/
def fits (a b c : Nat) : Bool := decide (a + b + c ≤ 1048576)
theorem fits_yes {a b c : Nat} (h : a + b + c ≤ 1048576) : fits a b c = true := by simp [fits, h]
theorem fits_no {a b c : Nat} (h : ¬ a + b + c ≤ 1048576) : fits a b c = false := by simp [fits]; omega

theorem gtrans {a b c : World} (h : Grown a b) (k : Grown b c) : Grown a c :=
  ⟨World.keptBut_trans h.1 k.1, fun x => (k.2.1 x).trans (h.2.1 x), Nat.le_trans h.2.2 k.2.2⟩
theorem ret_bool {a b : Bool} (h : a = b) : Ending.returned (.bool a) = .returned (.bool b) := by rw [h]
theorem bytes_any (a0 : Int) (a1 a2 a3 : ByteArray) (w : World) (w1 : a1.size ≤ maxLen) (w2 : a2.size ≤ maxLen) (w3 : a3.size ≤ maxLen) :
    Calls Try.prog 4 #[.int .u64 a0, .string a1, .string a2, .string a3] w fun e w' => e = .returned (.bool (fits a1.size a2.size a3.size)) ∧ w' = w := by
  unfold maxLen at w1 w2 w3
  go_enter Try.func4, Try.ntmps4
  go_wp2
  all_goals go_ret
  all_goals (refine ⟨?_, rfl⟩; first | exact ret_bool (fits_no (by omega)).symm | exact ret_bool (fits_yes (by omega)).symm)

theorem size_any (r : Int) (o k v : ByteArray) (w : World) (hk : k.size ≤ 2097152) (hv : v.size ≤ 2097152) :
    Calls Try.prog 5 #[.agg #[.int .u64 r, .string o, .string k, .string v]] w fun e w' => e = .returned (.int .i64 ((k.size : Int) + (v.size : Int))) ∧ Grown w w' := by
  go_enter Try.func5, Try.ntmps5
  go_wp2
  go_ret
  exact ⟨rfl, by repeat (first | exact Grown.refl _ | apply Grown.drew | apply Grown.alloc)⟩

theorem walk (a0 : Int) (a1 : ByteArray) (a2 : ByteArray) (a3 : ByteArray) (w0 : (Lit.int .u64 a0).wf = true) (w1 : a1.size ≤ maxLen) (w2 : a2.size ≤ maxLen) (w3 : a3.size ≤ maxLen) (w : World) :
    Calls Try.prog 3 #[.int .u64 a0, .string a1, .string a2, .string a3] w fun e w' => e = .returned (.bool true) ∧ Grown w w' := by
  by_cases hf : a1.size + a2.size + a3.size ≤ 1048576
  · have hfit := fits_yes hf
    go_enter Try.func3, Try.ntmps3
    go_wp2_with fail
    refine (bytes_any _ _ _ _ _ w1 w2 w3).mono ?_
    rintro e w' ⟨rfl, rfl⟩
    by_cases b1 : a1.size ≤ 262144
    · by_cases b2 : a2.size ≤ 262144
      · by_cases b3 : a3.size ≤ 262144
        · go_wp2_with fail
          refine (size_any _ _ _ _ _ (by omega) (by omega)).mono ?_
          rintro e w1 ⟨rfl, g1⟩
          go_wp2_with fail
          refine (size_any _ _ _ _ _ (by omega) (by decide)).mono ?_
          rintro e w2 ⟨rfl, g2⟩
          go_wp2_with fail
          refine (size_any _ _ _ _ _ (by decide) (by omega)).mono ?_
          rintro e w3 ⟨rfl, g3⟩
          go_wp2_with fail
          refine (size_any _ _ _ _ _ (by simp [ByteArray.size_append]; omega) (by decide)).mono ?_
          rintro e w4 ⟨rfl, g4⟩
          go_wp2_with fail
          refine (size_any _ _ _ _ _ (by decide) (by simp [ByteArray.size_append]; omega)).mono ?_
          rintro e w5 ⟨rfl, g5⟩
          go_wp2_with fail
          refine (size_any _ _ _ _ _ (by omega) (by omega)).mono ?_
          rintro e w6 ⟨rfl, g6⟩
          have e1 : ((a2.size : Int) + (a3.size : Int) == (a3.size : Int) + (a2.size : Int)) = true := beq_iff_eq.2 (by omega)
          go_wp2
          go_ret
          exact ⟨rfl, gtrans (gtrans (gtrans (gtrans (gtrans g1 g2) g3) g4) g5) g6⟩
        · go_wp2_with fail
          go_ret
          exact ⟨rfl, Grown.refl _⟩
      · go_wp2_with fail
        go_ret
        exact ⟨rfl, Grown.refl _⟩
    · go_wp2_with fail
      go_ret
      exact ⟨rfl, Grown.refl _⟩
  · have hfit := fits_no hf
    go_enter Try.func3, Try.ntmps3
    go_wp2_with fail
    refine (bytes_any _ _ _ _ _ w1 w2 w3).mono ?_
    rintro e w' ⟨rfl, rfl⟩
    go_wp2_with fail
    go_ret
    exact ⟨rfl, Grown.refl _⟩

/-! ### THE ROW's STEP: WRITTEN OUT: LEAVE IT -/
set_option maxRecDepth 100000 in
theorem lifted (os : Os) (started : os.Started) (H : Type) (enc : TypeId × Value → H) :
    ReturnsInHanded {} Try.checked os 3 .any (Rows.fnChangeSizeAddsKeyAndValueWhereverTheyStandSpec.pre6 enc Try.prog Try.f3 Rows.fnChangeSizeAddsKeyAndValueWhereverTheyStandRow.domain false) (Rows.fnChangeSizeAddsKeyAndValueWhereverTheyStandSpec.post enc Try.prog Try.f3 false true false false) := by
  refine returnsInHanded_of_change (C := Try.checked) own started (by kernel_rfl) Try.func3
    (ChangeSpec.witness6 (enc := enc) (C := Try.checked) false ⟨#[], #[.int .u64 0, .string ByteArray.empty, .string ByteArray.empty, .string ByteArray.empty], []⟩ 8 (by kernel_rfl) (by kernel_rfl) (by kernel_rfl) (by kernel_rfl)) ?_
  intro W base args ds gs before hval0 hW hcnd _
  have hval : ∀ (j : Nat) t v, Try.f3.params[j]? = some t → args[j]? = some v → Value.okWide Try.prog W .any base t v := hval0
  have hW' := hW
  obtain ⟨p, q, hA0, hV, rfl, hfz, hnd⟩ := hW
  have hA : DataW.TrodAll enc Try.prog W 0 (fun _ => true) true Try.f3.params.toList args.toList ds p := hA0
  rw [Try.params3] at hA hval
  obtain ⟨v0, vs0, d0, ds0, p0, q0, hargs, rfl, rfl, h0, r0⟩ := trodAll_cons hA
  obtain ⟨v1, vs1, d1, ds1, p1, q1, rfl, rfl, rfl, h1, r1⟩ := trodAll_cons r0
  obtain ⟨v2, vs2, d2, ds2, p2, q2, rfl, rfl, rfl, h2, r2⟩ := trodAll_cons r1
  obtain ⟨v3, vs3, d3, ds3, p3, q3, rfl, rfl, rfl, h3, r3⟩ := trodAll_cons r2
  obtain ⟨rfl, rfl, rfl⟩ := trodAll_nil r3
  obtain rfl : args = #[v0, v1, v2, v3] := by cases args; simp_all
  obtain ⟨rfl, rfl⟩ := trodVars_none hV
  obtain ⟨a0, rfl, rfl, rfl, w0⟩ := open_int Try.underlying22 (hval 0 22 v0 rfl rfl) h0
  obtain ⟨a1, rfl, rfl, rfl, w1⟩ := open_string Try.underlying9 (hval 1 9 v1 rfl rfl) h1
  obtain ⟨a2, rfl, rfl, rfl, w2⟩ := open_string Try.underlying9 (hval 2 9 v2 rfl rfl) h2
  obtain ⟨a3, rfl, rfl, rfl, w3⟩ := open_string Try.underlying9 (hval 3 9 v3 rfl rfl) h3
  clear hA0 hval0
  simp only [List.append_nil] at hW'
  refine (walk a0 a1 a2 a3 w0 w1 w2 w3 W).mono fun e W' ⟨he, hg⟩ => ?_
  subst he
  exact ⟨_, rfl, post_of_same (pa := []) (pv := []) hW' (fun _ _ _ => (trodAll_cons_mk (shut_bool Try.underlying4 _) trodAll_mk0)) (fun sp _ => (trodAll_cons_mk (shut_int Try.underlying22 w0) (trodAll_cons_mk (shut_string Try.underlying9 w1) (trodAll_cons_mk (shut_string Try.underlying9 w2) (trodAll_cons_mk (shut_string Try.underlying9 w3) trodAll_mk0))))) (fun _ _ => rfl) rfl
    (hg.frame _) hg.2.1 (ok_one (by kernel_rfl) rfl (okWide_bool_mk Try.underlying4 _))⟩

theorem over : Rows.fnChangeSizeAddsKeyAndValueWhereverTheyStandRow.holds Try.pinned (OpenSpec.ofChange Rows.fnChangeSizeAddsKeyAndValueWhereverTheyStandSpec) :=
  OpenClaim.holds_of_wide 3 Try.f3 rfl rfl rfl rfl rfl rfl rfl ⟨rfl, rfl, rfl, rfl, rfl⟩ rfl rfl rfl rfl rfl (by kernel_rfl) Try.func3 (by kernel_rfl)
    (of_decide_eq_true (by kernel_rfl)) (by unfold Func.isWrapper; first | (rw [if_pos (by decide +kernel)]; kernel_rfl) | (rw [if_neg (by decide +kernel)]; exact ⟨rfl, rfl⟩))
    (fun os started H enc _ => lifted os started H enc)

/-- ████ THE STATEMENT ████ -/
theorem proved : Rows.FnChangeSizeAddsKeyAndValueWhereverTheyStandSaid :=
  over
#print axioms proved
end Go.Proofs.Qxb6609316a.fnChangeSizeAddsKeyAndValueWhereverTheyStand

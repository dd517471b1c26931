/-
  SEAT b6609368a: the walk of FnNoticeReadsBackExactly (6).
-/
import Derived.Test.Qxb6609368aReadN
import Derived.Test.Qxb6609368aIn
namespace Go.Proofs.Qxb6609368a
open Go.RowKit

theorem notice_length (x : Int) (ys : List Int) : (notice x ys).length = 7 + (uv ys.length).length + ys.length := by rw [notice_eq]; simp; omega

set_option maxHeartbeats 2000000 in
set_option maxRecDepth 100000 in
theorem walk6 (a0 : Option Addr) (cap0 : Nat) (xs : List Int) (a1 : Int) (a2 : ByteArray) (w : World) (hrow : Row w a0 xs) (hnil : a0 = none → xs.length = 0 ∧ cap0 = 0) (hlm : xs.length ≤ maxLen) (hx0 : 0 ≤ a1) (hx1 : a1 < 4294967296) (w2 : a2.size ≤ maxLen) :
    Calls Try.prog 6 #[.slice a0 xs.length cap0, .int .u32 a1, .string a2] w fun e w' => e = .returned (.bool true) ∧ Below w.heap.size w w' := by
  by_cases hf : xs.length + a2.size ≤ 1048576
  · have hfit := fit2_yes hf
    have hsl := sb_length a2
    have hul := uv_length a2.size (by omega)
    have hnl := notice_length a1 (sb a2)
    rw [hsl] at hnl
    have HNL : Hid ((notice a1 (sb a2)).length = 7 + (uv a2.size).length + a2.size) := hnl
    have HSL : Hid ((sb a2).length = a2.size) := hsl
    clear hsl hnl
    go_enter Try.func6, Try.ntmps6
    go_wp2_with fail
    refine (bytes24 _ _ _ _ _ _ hlm w2).mono ?_
    rintro e w' ⟨rfl, rfl⟩
    go_wp2_with fail
    refine (clone_any a0 xs.length cap0 xs rfl _ hrow hnil (by omega)).mono ?_
    rintro e w1 ⟨v1, rfl, ho1, hbel1, hfull⟩
    clear hrow hnil
    obtain ⟨a1', c1, hv1, _, hrow1, hz1⟩ := row_of_own ho1
    subst hv1
    have hs1 := hbel1.size
    go_wp2_with fail
    refine (appNotice w'.heap.size xs.length _ (bc xs) a1 hx0 hx1 a2 _ ho1 hs1 (by omega)).mono ?_
    rintro e w2 ⟨v2, rfl, ho2, g2, f2⟩
    have hfr := f2 hfull
    clear f2 hfull
    rw [← bc_append] at ho2
    obtain ⟨os, hos⟩ : ∃ os, os = xs ++ notice a1 (sb a2) := ⟨_, rfl⟩
    have hol : os.length = xs.length + (notice a1 (sb a2)).length := by rw [hos]; simp
    obtain ⟨g, c, hv2, hg0, hg1, hc2, hcell⟩ := own_at (xs := xs ++ notice a1 (sb a2)) ho2 (by rw [← hos]; have := HNL.out; omega)
    subst hv2
    have hr2 : Row w2 a1' xs := hrow1.below hfr.below (Nat.le_refl _)
    have hleft : Row w2 (some ⟨g, 0, none⟩) xs := row_left hcell
    have hright : Row w2 (some ⟨g, 0 + xs.length, none⟩) (notice a1 (sb a2)) := row_right hcell rfl (fun _ => rfl)
    have hbel2 : Below w'.heap.size w' w2 := hbel1.trans (hfr.below.mono hs1)
    rw [← hos] at hc2 ⊢
    have HO : Hid (os = xs ++ notice a1 (sb a2)) := hos
    have HL : Hid (os.length = xs.length + (notice a1 (sb a2)).length) := hol
    have hcx : ¬ c = xs.length := by have := HNL.out; omega
    have i1 : (xs.length : Int) ≤ (os.length : Int) := by omega
    have i2 : (os.length : Int) ≤ (c : Int) := by omega
    have i3 : (xs.length : Int) ≤ (c : Int) := by omega
    clear hcell ho2 hos hol ho1 hrow1 hz1 hfr
    have heq : eqB xs xs = true := eqB_yes rfl
    clear g2
    go_wp2_with fail
    refine (bytesEqual (some ⟨g, 0, none⟩) a1' c c1 xs xs w2 hleft hr2 (by omega) (by omega)).mono ?_
    rintro e w3 ⟨rfl, n3, rfl⟩
    clear hleft hr2
    go_wp2_with fail
    rw [Nat.zero_add] at hright
    refine (readNotice g xs.length (c - xs.length) a1 (sb a2) (os.length - xs.length) (by have := HL.out; omega) hx0 hx1 _ (hright.drewN n3) (by have := HSL.out; omega) (by omega)).mono ?_
    rintro e w4 ⟨a', c', rfl, hra, n4, rfl⟩
    have heq2 : eqB (sb a2) (sb a2) = true := eqB_yes rfl
    have hb1 : (a1 == a1) = true := by simp
    go_wp2_with fail
    refine (sameText a2 a' c' (sb a2) (w2.drewN (n3 + n4)) (show Row (w2.drewN (n3 + n4)) a' (sb a2) from hra) (by omega) (by have := HSL.out; omega)).mono ?_
    rintro e w5 ⟨rfl, n5, rfl⟩
    go_wp2
    go_ret
    exact ⟨rfl, hbel2.os, hbel2.tape, hbel2.output, hbel2.size, hbel2.block⟩
  · have hfit := fit2_no hf
    go_enter Try.func6, Try.ntmps6
    go_wp2_with fail
    refine (bytes24 _ _ _ _ _ _ hlm w2).mono ?_
    rintro e w' ⟨rfl, rfl⟩
    go_wp2_with fail
    go_ret
    exact ⟨rfl, Below.refl _ _⟩
end Go.Proofs.Qxb6609368a

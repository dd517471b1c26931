/-
  SEAT b6609368a: the walk of FnNoticeIsInjectiveAndBeginsWithItsHeader (7).
-/
import Derived.Test.Qxb6609368aInj
import Derived.Test.Qxb6609368aIn
namespace Go.Proofs.Qxb6609368a
open Go.RowKit

/-- the row of a slice that the call owns, seen in a later world -/
theorem cells_below {w w' : World} {B g : Nat} {xs : List Int} (h : ∀ i, i < xs.length → w.cell? ⟨g, 0 + i, none⟩ = some (.int .u8 (xs.getD i 0))) (hb : Below B w w') (hg : g < B) :
    ∀ i, i < xs.length → w'.cell? ⟨g, 0 + i, none⟩ = some (.int .u8 (xs.getD i 0)) := fun i hi => by
  rw [hb.cell (p := ⟨g, 0 + i, none⟩) hg]; exact h i hi

theorem bytesEqualN (a a' : Option Addr) (n n' c c' : Nat) (xs ys : List Int) (w : World) (hn : n = xs.length) (hn' : n' = ys.length) (h : Row w a xs) (h' : Row w a' ys) (hl : xs.length ≤ 4611686018427387904) (hl' : ys.length ≤ 4611686018427387904) :
    Calls Try.prog 27 #[.slice a n c, .slice a' n' c'] w fun e w' => e = .returned (.bool (eqB xs ys)) ∧ ∃ n, w' = w.drewN n := by
  subst hn; subst hn'; exact bytesEqual a a' c c' xs ys w h h' hl hl'
theorem sameTextN (s : ByteArray) (a' : Option Addr) (n c' : Nat) (ys : List Int) (w : World) (hn : n = ys.length) (h' : Row w a' ys) (hl : s.size ≤ 4611686018427387904) (hl' : ys.length ≤ 4611686018427387904) :
    Calls Try.prog 20 #[.string s, .slice a' n c'] w fun e w' => e = .returned (.bool (eqB (sb s) ys)) ∧ ∃ n, w' = w.drewN n := by
  subst hn; exact sameText s a' c' ys w h' hl hl'

set_option maxHeartbeats 4000000 in
set_option maxRecDepth 100000 in
theorem walk7 (a0 : Option Addr) (cap0 : Nat) (xs : List Int) (n1 : Int) (s1 : ByteArray) (n2 : Int) (s2 : ByteArray) (w : World) (hrow : Row w a0 xs) (hnil : a0 = none → xs.length = 0 ∧ cap0 = 0) (hlm : xs.length ≤ maxLen)
    (hx0 : 0 ≤ n1) (hx1 : n1 < 4294967296) (hy0 : 0 ≤ n2) (hy1 : n2 < 4294967296) (ws1 : s1.size ≤ maxLen) (ws2 : s2.size ≤ maxLen) :
    Calls Try.prog 7 #[.slice a0 xs.length cap0, .int .u32 n1, .string s1, .int .u32 n2, .string s2] w fun e w' => e = .returned (.bool true) ∧ Below w.heap.size w w' := by
  by_cases hf : xs.length + s1.size + s2.size ≤ 1048576
  · have hfit := fit3_yes hf
    have hul := uv_length s1.size (by omega)
    have hup := uv_pos s1.size
    have hul2 := uv_length s2.size (by omega)
    have HSL : Hid ((sb s1).length = s1.size) := sb_length s1
    have HSL2 : Hid ((sb s2).length = s2.size) := sb_length s2
    have HNL : Hid ((notice n1 (sb s1)).length = 7 + (uv s1.size).length + s1.size) := by have := notice_length n1 (sb s1); rw [sb_length] at this; exact this
    have HNL2 : Hid ((notice n2 (sb s2)).length = 7 + (uv s2.size).length + s2.size) := by have := notice_length n2 (sb s2); rw [sb_length] at this; exact this
    have HTN : Hid (eqB (xs ++ notice n1 (sb s1)) (xs ++ notice n2 (sb s2)) = ((n1 == n2) && (s1.toList == s2.toList))) := by
      show _ = _
      rw [two_notices xs hx0 hy0 (by omega) (by omega)]
      congr 1
      rw [Bool.eq_iff_iff]
      simp only [decide_eq_true_eq, beq_iff_eq, ByteArray.toList_eq]
      constructor
      · intro h; rw [h]
      · intro h
        exact sb_inj (by simp only [sb, h])
    go_enter Try.func7, Try.ntmps7
    go_wp2_with fail
    refine (bytes29 _ _ _ _ _ _ _ _ hlm ws1 ws2).mono ?_
    rintro e w' ⟨rfl, rfl⟩
    go_wp2_with fail
    refine (clone_any a0 xs.length cap0 xs rfl _ hrow hnil (by omega)).mono ?_
    rintro e w1 ⟨v1, rfl, ho1, hbel1, _⟩
    clear hrow hnil
    obtain ⟨a1', c1, hv1, _, hrow1, hz1⟩ := row_of_own ho1
    subst hv1
    clear ho1
    have hs1 := hbel1.size
    go_wp2_with fail
    refine (clone_any a1' xs.length c1 xs rfl _ hrow1 hz1 (by omega)).mono ?_
    rintro e w2 ⟨v2, rfl, ho2, hbel2, hfull2⟩
    have hs2 := hbel2.size
    go_wp2_with fail
    refine (appNotice w1.heap.size xs.length _ (bc xs) n1 hx0 hx1 s1 _ ho2 hs2 (by omega)).mono ?_
    rintro e w3 ⟨v3, rfl, ho3, _, f3⟩
    have hfr3 := f3 hfull2
    clear f3 hfull2 ho2
    rw [← bc_append] at ho3
    obtain ⟨o1, ho1⟩ : ∃ os, os = xs ++ notice n1 (sb s1) := ⟨_, rfl⟩
    have hol1 : o1.length = xs.length + (notice n1 (sb s1)).length := by rw [ho1]; simp
    obtain ⟨g3, c3, hv3, hg30, hg31, hc3, hcell3⟩ := own_at (xs := xs ++ notice n1 (sb s1)) ho3 (by rw [← ho1]; have := HNL.out; omega)
    subst hv3
    have hb13 : Below w1.heap.size w1 w3 := hbel2.trans (hfr3.below.mono hs2)
    have hrow3 : Row w3 a1' xs := hrow1.below hb13 (Nat.le_refl _)
    have hb3 : Below w'.heap.size w' w3 := hbel1.trans (hb13.mono hs1)
    have hs3 := hb13.size
    rw [← ho1] at hc3 hcell3 ⊢
    have HO1 : Hid (o1 = xs ++ notice n1 (sb s1)) := ho1
    have HOL1 : Hid (o1.length = xs.length + (notice n1 (sb s1)).length) := hol1
    have HC3 : Hid (∀ i, i < o1.length → w3.cell? ⟨g3, 0 + i, none⟩ = some (.int .u8 (o1.getD i 0))) := hcell3
    clear hol1 ho1 hcell3 ho3 hrow1 hfr3 hbel2 hb13
    go_wp2_with fail
    refine (clone_any a1' xs.length c1 xs rfl _ hrow3 hz1 (by omega)).mono ?_
    rintro e w4 ⟨v4, rfl, ho4, hbel4, hfull4⟩
    have hs4 := hbel4.size
    go_wp2_with fail
    refine (appNotice w3.heap.size xs.length _ (bc xs) n2 hy0 hy1 s2 _ ho4 hs4 (by omega)).mono ?_
    rintro e w5 ⟨v5, rfl, ho5, _, f5⟩
    have hfr5 := f5 hfull4
    clear f5 hfull4 ho4
    rw [← bc_append] at ho5
    obtain ⟨o2, ho2⟩ : ∃ os, os = xs ++ notice n2 (sb s2) := ⟨_, rfl⟩
    have hol2 : o2.length = xs.length + (notice n2 (sb s2)).length := by rw [ho2]; simp
    obtain ⟨g5, c5, hv5, hg50, hg51, hc5, hcell5⟩ := own_at (xs := xs ++ notice n2 (sb s2)) ho5 (by rw [← ho2]; have := HNL2.out; omega)
    subst hv5
    have hb35 : Below w3.heap.size w3 w5 := hbel4.trans (hfr5.below.mono hs4)
    have hrow5 : Row w5 a1' xs := hrow3.below hb35 (Nat.le_refl _)
    have hb5 : Below w'.heap.size w' w5 := hb3.trans (hb35.mono hb3.size)
    have hs5 := hb35.size
    have hcell35 := cells_below HC3.out hb35 hg31
    rw [← ho2] at hc5 hcell5 ⊢
    have R1 : Row w5 (some ⟨g3, 0, none⟩) o1 := fun _ => ⟨g3, 0, rfl, hcell35⟩
    have R2 : Row w5 (some ⟨g5, 0, none⟩) o2 := fun _ => ⟨g5, 0, rfl, hcell5⟩
    have HE : Hid (eqB o1 o2 = ((n1 == n2) && (s1.toList == s2.toList))) := by rw [HO1.out, ho2]; exact HTN.out
    have HC5 : Hid (∀ i, i < o1.length → w5.cell? ⟨g3, 0 + i, none⟩ = some (.int .u8 (o1.getD i 0))) := hcell35
    have hol2b : o2.length ≤ 4194304 := by have := HNL2.out; omega
    have hol1b : o1.length ≤ 4194304 := by have := HNL.out; have := HOL1.out; omega
    clear hcell35 hcell5 ho5 hrow3 hfr5 hbel4 hb35 HC3 ho2 hol2 hb3 hbel1 HTN
    have heqx : eqB xs xs = true := eqB_yes rfl
    obtain ⟨same, hsm1, hsm2⟩ : ∃ same : Bool, eqB o1 o2 = same ∧ ((n1 == n2) && (s1.toList == s2.toList)) = same := ⟨_, rfl, HE.out.symm⟩
    have HS1 : Hid (eqB o1 o2 = same) := hsm1
    clear hsm1 HE
    rcases (show ((n1 == n2) = false ∧ same = false) ∨ ((n1 == n2) = true ∧ (s1.toList == s2.toList) = same) by cases hh : (n1 == n2) <;> simp_all) with ⟨q1, q2⟩ | ⟨q1, q2⟩
    all_goals clear hsm2
    · subst q2
      go_wp2_with fail
      refine (bytesEqual (some ⟨g3, 0, none⟩) (some ⟨g5, 0, none⟩) c3 c5 o1 o2 w5 R1 R2 (by omega) (by omega)).mono ?_
      rintro e w6 ⟨rfl, n6, rfl⟩
      have hE := HS1.out
      clear R2 HS1
      go_wp2_with fail
      refine (appNotice w5.heap.size 0 (.slice none 0 0) [] n1 hx0 hx1 s1 (w5.drewN n6) (World.ownsRow_nil _ _ _ _) (by exact Nat.le_refl _) (by omega)).mono ?_
      rintro e w7 ⟨v7, rfl, ho7, _, f7⟩
      have hfr7 := f7 (.inl rfl)
      clear f7
      simp only [Nat.zero_add, List.nil_append] at ho7
      obtain ⟨g7, c7, hv7, hg70, hg71, hc7, hcell7⟩ := own_at (xs := notice n1 (sb s1)) ho7 (by have := HNL.out; omega)
      subst hv7
      have hb7 : Below w5.heap.size w5 w7 := ⟨hfr7.below.os, hfr7.below.tape, hfr7.below.output, hfr7.below.size, hfr7.below.block⟩
      have hrow7 : Row w7 a1' xs := hrow5.below hb7 (Nat.le_refl _)
      have hcell17 := cells_below HC5.out hb7 (by omega)
      have hb07 : Below w'.heap.size w' w7 := hb5.trans (hb7.mono hb5.size)
      have hleft : Row w7 (some ⟨g3, 0, none⟩) xs := row_left (ys := notice n1 (sb s1)) (by rw [← HO1.out]; exact hcell17)
      have hright : Row w7 (some ⟨g3, 0 + xs.length, none⟩) (notice n1 (sb s1)) := row_right (ps := xs) (ys := notice n1 (sb s1)) (by rw [← HO1.out]; exact hcell17) rfl (fun _ => rfl)
      rw [Nat.zero_add] at hright
      have Rb : Row w7 (some ⟨g7, 0, none⟩) (notice n1 (sb s1)) := fun _ => ⟨g7, 0, rfl, hcell7⟩
      obtain ⟨bare, hbare⟩ : ∃ b, b = notice n1 (sb s1) := ⟨_, rfl⟩
      rw [← hbare] at hc7 hcell7 hright Rb ⊢
      have HB : Hid (bare = notice n1 (sb s1)) := hbare
      have HBL : Hid (bare.length = 7 + (uv s1.size).length + s1.size) := by have := HNL.out; rw [← hbare] at this; exact this
      have HOL : Hid (o1.length = xs.length + bare.length) := by have := HOL1.out; rw [← hbare] at this; exact this
      have HC7 : Hid (∀ i, i < bare.length → w7.cell? ⟨g7, 0 + i, none⟩ = some (.int .u8 (bare.getD i 0))) := hcell7
      have j1 : ((o1.length : Int) != (xs.length : Int) + (bare.length : Int)) = false := by have := HOL.out; simp; omega
      have j2 : (xs.length : Int) ≤ (o1.length : Int) := by have := HOL.out; omega
      have j3 : (xs.length : Int) ≤ (c3 : Int) := by omega
      have j4 : ¬ c3 = xs.length := by have := HOL.out; have := HBL.out; omega
      have j5 : bare.length ≤ 4194304 := by have := HBL.out; omega
      have heqb : eqB bare bare = true := eqB_yes rfl
      have hs7 := hb7.size
      clear hcell7 hcell17 hbare ho7 hfr7 hrow5 HC5 hb5 R1
      go_wp2_with fail
      refine (bytesEqual (some ⟨g3, 0, none⟩) a1' c3 c1 xs xs w7 hleft hrow7 (by omega) (by omega)).mono ?_
      rintro e w8 ⟨rfl, n8, rfl⟩
      clear hleft hrow7
      go_wp2_with fail
      refine (bytesEqualN (some ⟨g3, xs.length, none⟩) (some ⟨g7, 0, none⟩) (o1.length - xs.length) bare.length (c3 - xs.length) c7 bare bare (w7.drewN n8) (by have := HOL.out; omega) rfl hright Rb (by omega) (by omega)).mono ?_
      rintro e w9 ⟨rfl, n9, rfl⟩
      clear hright Rb
      go_wp2_with fail
      refine (appHeader w7.heap.size 0 (.slice none 0 0) [] n1 0 hx0 hx1 (by omega) (by omega) (w7.drewN (n8 + n9)) (World.ownsRow_nil _ _ _ _) (by exact Nat.le_refl _) (by omega)).mono ?_
      rintro e w10 ⟨v10, rfl, ho10, _, f10⟩
      have hfr10 := f10 (.inl rfl)
      clear f10
      simp only [Nat.zero_add, List.nil_append] at ho10
      obtain ⟨g10, c10, hv10, hg100, hg101, hc10, hcell10⟩ := own_at (xs := be4 n1 ++ be2 0) ho10 (by simp [be4, be2])
      subst hv10
      have hb10 : Below w7.heap.size w7 w10 := ⟨hfr10.below.os, hfr10.below.tape, hfr10.below.output, hfr10.below.size, hfr10.below.block⟩
      have hbel : Below w'.heap.size w' w10 := hb07.trans (hb10.mono hb07.size)
      have hcell710 := cells_below HC7.out hb10 hg71
      have hsplit : bare = (be4 n1 ++ be2 0) ++ ([0] ++ str (sb s1)) := by rw [HB.out]; simp [notice]
      have hsplit2 : bare = ([n1 / 16777216, n1 / 65536 % 256, n1 / 256 % 256, n1 % 256, 0, 0, 0] ++ uv (sb s1).length) ++ sb s1 := by rw [HB.out, notice_eq]
      have k1 : w10.cell? ⟨g7, 6, none⟩ = some (.int .u8 0) := by
        have := hcell710 6 (by have := HBL.out; omega)
        rw [Nat.zero_add] at this
        rw [this, hsplit2]
        rfl
      have hhl : Row w10 (some ⟨g7, 0, none⟩) (be4 n1 ++ be2 0) := row_left (ys := [0] ++ str (sb s1)) (by rw [← hsplit]; exact hcell710)
      have hhr : ∀ c : Option Addr, (0 < (sb s1).length → c = some ⟨g7, 0 + (bare.length - s1.size), none⟩) → Row w10 c (sb s1) := fun c hc =>
        row_right (ps := [n1 / 16777216, n1 / 65536 % 256, n1 / 256 % 256, n1 % 256, 0, 0, 0] ++ uv (sb s1).length) (ys := sb s1) (by rw [← hsplit2]; exact hcell710) (by have := HBL.out; have := HSL.out; rw [this]; simp; omega) hc
      have Rh : Row w10 (some ⟨g10, 0, none⟩) (be4 n1 ++ be2 0) := fun _ => ⟨g10, 0, rfl, hcell10⟩
      obtain ⟨hd, hhd⟩ : ∃ hd, hd = be4 n1 ++ be2 0 := ⟨_, rfl⟩
      have hhd6 : hd.length = 6 := by rw [hhd]; rfl
      rw [← hhd] at hc10 hhl Rh ⊢
      have k2 : w10.cell? ⟨g7, hd.length, none⟩ = some (.int .u8 0) := by rw [hhd6]; exact k1
      have HH6 : Hid (hd.length = 6) := hhd6
      have HHR : Hid (∀ c : Option Addr, (0 < (sb s1).length → c = some ⟨g7, 0 + (bare.length - s1.size), none⟩) → Row w10 c (sb s1)) := hhr
      have l1 : ¬ (bare.length : Int) < (hd.length : Int) + 1 + (s1.size : Int) := by have := HBL.out; omega
      have l2 : (hd.length : Int) ≤ (bare.length : Int) := by have := HBL.out; omega
      have l3 : (hd.length : Int) ≤ (c7 : Int) := by omega
      have l4 : (hd.length : Int) < (bare.length : Int) := by have := HBL.out; omega
      have l5 : hd.length ≤ 6 := by omega
      have heqh : eqB hd hd = true := eqB_yes rfl
      have hs10 := hb10.size
      clear k1 hhr hcell10 hcell710 hsplit hsplit2 hhd hhd6 ho10 hfr10 HC7 hb07
      go_wp2_with fail
      refine (bytesEqual (some ⟨g7, 0, none⟩) (some ⟨g10, 0, none⟩) c7 c10 hd hd w10 hhl Rh (by omega) (by omega)).mono ?_
      rintro e w11 ⟨rfl, n11, rfl⟩
      clear hhl Rh
      have m1 : (s1.size : Int) ≤ (bare.length : Int) := by omega
      have heqs : eqB (sb s1) (sb s1) = true := eqB_yes rfl
      go_wp2_with fail
      · refine (sameTextN s1 (some ⟨g7, 0, none⟩) (bare.length - (bare.length - s1.size)) 0 (sb s1) (w10.drewN n11) (by have := HSL.out; omega) (HHR.out _ (fun hp => by have := HSL.out; omega)) (by omega) (by have := HSL.out; omega)).mono ?_
        rintro e w12 ⟨rfl, n12, rfl⟩
        go_wp2
        go_ret
        exact ⟨rfl, hbel.os, hbel.tape, hbel.output, hbel.size, hbel.block⟩
      · refine (sameTextN s1 (some ⟨g7, bare.length - s1.size, none⟩) (bare.length - (bare.length - s1.size)) (c7 - (bare.length - s1.size)) (sb s1) (w10.drewN n11) (by have := HSL.out; omega) (HHR.out _ (fun hp => by rw [Nat.zero_add])) (by omega) (by have := HSL.out; omega)).mono ?_
        rintro e w12 ⟨rfl, n12, rfl⟩
        go_wp2
        go_ret
        exact ⟨rfl, hbel.os, hbel.tape, hbel.output, hbel.size, hbel.block⟩
    · go_wp2_with fail
      refine (bytesEqual (some ⟨g3, 0, none⟩) (some ⟨g5, 0, none⟩) c3 c5 o1 o2 w5 R1 R2 (by omega) (by omega)).mono ?_
      rintro e w6 ⟨rfl, n6, rfl⟩
      have hE := HS1.out
      clear R2 HS1
      go_wp2_with fail
      refine (appNotice w5.heap.size 0 (.slice none 0 0) [] n1 hx0 hx1 s1 (w5.drewN n6) (World.ownsRow_nil _ _ _ _) (by exact Nat.le_refl _) (by omega)).mono ?_
      rintro e w7 ⟨v7, rfl, ho7, _, f7⟩
      have hfr7 := f7 (.inl rfl)
      clear f7
      simp only [Nat.zero_add, List.nil_append] at ho7
      obtain ⟨g7, c7, hv7, hg70, hg71, hc7, hcell7⟩ := own_at (xs := notice n1 (sb s1)) ho7 (by have := HNL.out; omega)
      subst hv7
      have hb7 : Below w5.heap.size w5 w7 := ⟨hfr7.below.os, hfr7.below.tape, hfr7.below.output, hfr7.below.size, hfr7.below.block⟩
      have hrow7 : Row w7 a1' xs := hrow5.below hb7 (Nat.le_refl _)
      have hcell17 := cells_below HC5.out hb7 (by omega)
      have hb07 : Below w'.heap.size w' w7 := hb5.trans (hb7.mono hb5.size)
      have hleft : Row w7 (some ⟨g3, 0, none⟩) xs := row_left (ys := notice n1 (sb s1)) (by rw [← HO1.out]; exact hcell17)
      have hright : Row w7 (some ⟨g3, 0 + xs.length, none⟩) (notice n1 (sb s1)) := row_right (ps := xs) (ys := notice n1 (sb s1)) (by rw [← HO1.out]; exact hcell17) rfl (fun _ => rfl)
      rw [Nat.zero_add] at hright
      have Rb : Row w7 (some ⟨g7, 0, none⟩) (notice n1 (sb s1)) := fun _ => ⟨g7, 0, rfl, hcell7⟩
      obtain ⟨bare, hbare⟩ : ∃ b, b = notice n1 (sb s1) := ⟨_, rfl⟩
      rw [← hbare] at hc7 hcell7 hright Rb ⊢
      have HB : Hid (bare = notice n1 (sb s1)) := hbare
      have HBL : Hid (bare.length = 7 + (uv s1.size).length + s1.size) := by have := HNL.out; rw [← hbare] at this; exact this
      have HOL : Hid (o1.length = xs.length + bare.length) := by have := HOL1.out; rw [← hbare] at this; exact this
      have HC7 : Hid (∀ i, i < bare.length → w7.cell? ⟨g7, 0 + i, none⟩ = some (.int .u8 (bare.getD i 0))) := hcell7
      have j1 : ((o1.length : Int) != (xs.length : Int) + (bare.length : Int)) = false := by have := HOL.out; simp; omega
      have j2 : (xs.length : Int) ≤ (o1.length : Int) := by have := HOL.out; omega
      have j3 : (xs.length : Int) ≤ (c3 : Int) := by omega
      have j4 : ¬ c3 = xs.length := by have := HOL.out; have := HBL.out; omega
      have j5 : bare.length ≤ 4194304 := by have := HBL.out; omega
      have heqb : eqB bare bare = true := eqB_yes rfl
      have hs7 := hb7.size
      clear hcell7 hcell17 hbare ho7 hfr7 hrow5 HC5 hb5 R1
      go_wp2_with fail
      refine (bytesEqual (some ⟨g3, 0, none⟩) a1' c3 c1 xs xs w7 hleft hrow7 (by omega) (by omega)).mono ?_
      rintro e w8 ⟨rfl, n8, rfl⟩
      clear hleft hrow7
      go_wp2_with fail
      refine (bytesEqualN (some ⟨g3, xs.length, none⟩) (some ⟨g7, 0, none⟩) (o1.length - xs.length) bare.length (c3 - xs.length) c7 bare bare (w7.drewN n8) (by have := HOL.out; omega) rfl hright Rb (by omega) (by omega)).mono ?_
      rintro e w9 ⟨rfl, n9, rfl⟩
      clear hright Rb
      go_wp2_with fail
      refine (appHeader w7.heap.size 0 (.slice none 0 0) [] n1 0 hx0 hx1 (by omega) (by omega) (w7.drewN (n8 + n9)) (World.ownsRow_nil _ _ _ _) (by exact Nat.le_refl _) (by omega)).mono ?_
      rintro e w10 ⟨v10, rfl, ho10, _, f10⟩
      have hfr10 := f10 (.inl rfl)
      clear f10
      simp only [Nat.zero_add, List.nil_append] at ho10
      obtain ⟨g10, c10, hv10, hg100, hg101, hc10, hcell10⟩ := own_at (xs := be4 n1 ++ be2 0) ho10 (by simp [be4, be2])
      subst hv10
      have hb10 : Below w7.heap.size w7 w10 := ⟨hfr10.below.os, hfr10.below.tape, hfr10.below.output, hfr10.below.size, hfr10.below.block⟩
      have hbel : Below w'.heap.size w' w10 := hb07.trans (hb10.mono hb07.size)
      have hcell710 := cells_below HC7.out hb10 hg71
      have hsplit : bare = (be4 n1 ++ be2 0) ++ ([0] ++ str (sb s1)) := by rw [HB.out]; simp [notice]
      have hsplit2 : bare = ([n1 / 16777216, n1 / 65536 % 256, n1 / 256 % 256, n1 % 256, 0, 0, 0] ++ uv (sb s1).length) ++ sb s1 := by rw [HB.out, notice_eq]
      have k1 : w10.cell? ⟨g7, 6, none⟩ = some (.int .u8 0) := by
        have := hcell710 6 (by have := HBL.out; omega)
        rw [Nat.zero_add] at this
        rw [this, hsplit2]
        rfl
      have hhl : Row w10 (some ⟨g7, 0, none⟩) (be4 n1 ++ be2 0) := row_left (ys := [0] ++ str (sb s1)) (by rw [← hsplit]; exact hcell710)
      have hhr : ∀ c : Option Addr, (0 < (sb s1).length → c = some ⟨g7, 0 + (bare.length - s1.size), none⟩) → Row w10 c (sb s1) := fun c hc =>
        row_right (ps := [n1 / 16777216, n1 / 65536 % 256, n1 / 256 % 256, n1 % 256, 0, 0, 0] ++ uv (sb s1).length) (ys := sb s1) (by rw [← hsplit2]; exact hcell710) (by have := HBL.out; have := HSL.out; rw [this]; simp; omega) hc
      have Rh : Row w10 (some ⟨g10, 0, none⟩) (be4 n1 ++ be2 0) := fun _ => ⟨g10, 0, rfl, hcell10⟩
      obtain ⟨hd, hhd⟩ : ∃ hd, hd = be4 n1 ++ be2 0 := ⟨_, rfl⟩
      have hhd6 : hd.length = 6 := by rw [hhd]; rfl
      rw [← hhd] at hc10 hhl Rh ⊢
      have k2 : w10.cell? ⟨g7, hd.length, none⟩ = some (.int .u8 0) := by rw [hhd6]; exact k1
      have HH6 : Hid (hd.length = 6) := hhd6
      have HHR : Hid (∀ c : Option Addr, (0 < (sb s1).length → c = some ⟨g7, 0 + (bare.length - s1.size), none⟩) → Row w10 c (sb s1)) := hhr
      have l1 : ¬ (bare.length : Int) < (hd.length : Int) + 1 + (s1.size : Int) := by have := HBL.out; omega
      have l2 : (hd.length : Int) ≤ (bare.length : Int) := by have := HBL.out; omega
      have l3 : (hd.length : Int) ≤ (c7 : Int) := by omega
      have l4 : (hd.length : Int) < (bare.length : Int) := by have := HBL.out; omega
      have l5 : hd.length ≤ 6 := by omega
      have heqh : eqB hd hd = true := eqB_yes rfl
      have hs10 := hb10.size
      clear k1 hhr hcell10 hcell710 hsplit hsplit2 hhd hhd6 ho10 hfr10 HC7 hb07
      go_wp2_with fail
      refine (bytesEqual (some ⟨g7, 0, none⟩) (some ⟨g10, 0, none⟩) c7 c10 hd hd w10 hhl Rh (by omega) (by omega)).mono ?_
      rintro e w11 ⟨rfl, n11, rfl⟩
      clear hhl Rh
      have m1 : (s1.size : Int) ≤ (bare.length : Int) := by omega
      have heqs : eqB (sb s1) (sb s1) = true := eqB_yes rfl
      go_wp2_with fail
      · refine (sameTextN s1 (some ⟨g7, 0, none⟩) (bare.length - (bare.length - s1.size)) 0 (sb s1) (w10.drewN n11) (by have := HSL.out; omega) (HHR.out _ (fun hp => by have := HSL.out; omega)) (by omega) (by have := HSL.out; omega)).mono ?_
        rintro e w12 ⟨rfl, n12, rfl⟩
        go_wp2
        go_ret
        exact ⟨rfl, hbel.os, hbel.tape, hbel.output, hbel.size, hbel.block⟩
      · refine (sameTextN s1 (some ⟨g7, bare.length - s1.size, none⟩) (bare.length - (bare.length - s1.size)) (c7 - (bare.length - s1.size)) (sb s1) (w10.drewN n11) (by have := HSL.out; omega) (HHR.out _ (fun hp => by rw [Nat.zero_add])) (by omega) (by have := HSL.out; omega)).mono ?_
        rintro e w12 ⟨rfl, n12, rfl⟩
        go_wp2
        go_ret
        exact ⟨rfl, hbel.os, hbel.tape, hbel.output, hbel.size, hbel.block⟩
  · have hfit := fit3_no hf
    go_enter Try.func7, Try.ntmps7
    go_wp2_with fail
    refine (bytes29 _ _ _ _ _ _ _ _ hlm ws1 ws2).mono ?_
    rintro e w' ⟨rfl, rfl⟩
    go_wp2_with fail
    go_ret
    exact ⟨rfl, Below.refl _ _⟩
end Go.Proofs.Qxb6609368a

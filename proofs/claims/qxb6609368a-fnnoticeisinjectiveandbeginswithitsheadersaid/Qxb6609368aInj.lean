/-
  SEAT b6609368a: a notice tells its number and its text (plain).
-/
import Derived.Test.Qxb6609368aReadN
namespace Go.Proofs.Qxb6609368a
open Go.RowKit

theorem notice_length (x : Int) (ys : List Int) : (notice x ys).length = 7 + (uv ys.length).length + ys.length := by rw [notice_eq]; simp; omega

theorem uv_len {x : Nat} (h : x < 2097152) : (uv x).length = if x < 128 then 1 else if x < 16384 then 2 else 3 := by
  by_cases h1 : x < 128
  · rw [uv_small h1, if_pos h1]; rfl
  · by_cases h2 : x < 16384
    · rw [uv_two (by omega) h2, if_neg h1, if_pos h2]; rfl
    · rw [uv_three (by omega) h, if_neg h1, if_neg h2]; rfl

theorem uv_len_inj {x y : Nat} (hx : x < 2097152) (hy : y < 2097152) (h : (uv x).length + x = (uv y).length + y) : x = y := by
  rw [uv_len hx, uv_len hy] at h
  split at h <;> split at h <;> (try split at h) <;> (try split at h) <;> omega

theorem notice_inj {x y : Int} {xs ys : List Int} (_hx0 : 0 ≤ x) (_hy0 : 0 ≤ y) (hx : xs.length < 2097152) (hy : ys.length < 2097152) (h : notice x xs = notice y ys) : x = y ∧ xs = ys := by
  have hl := congrArg List.length h
  rw [notice_length, notice_length] at hl
  have hlen : xs.length = ys.length := uv_len_inj hx hy (by omega)
  rw [notice_eq, notice_eq, hlen, List.append_assoc, List.append_assoc] at h
  simp only [List.cons_append, List.nil_append, List.cons.injEq, List.append_cancel_left_eq, true_and] at h
  obtain ⟨h1, h2, h3, h4, h5⟩ := h
  exact ⟨by omega, h5⟩

theorem sb_inj {s t : ByteArray} (h : sb s = sb t) : s = t := by
  have h1 : s.data.toList = t.data.toList := by
    refine (List.map_inj_right (f := fun c : UInt8 => (c.toNat : Int)) ?_).1 h
    intro a b hab
    have hab' : a.toNat = b.toNat := by have h' : (a.toNat : Int) = (b.toNat : Int) := hab; omega
    exact UInt8.toNat_inj.1 hab'
  have h2 : s.data = t.data := by
    rw [← Array.toArray_toList (xs := s.data), ← Array.toArray_toList (xs := t.data), h1]
  cases s; cases t; simp_all

theorem two_notices {x y : Int} {s t : ByteArray} (bs : List Int) (hx0 : 0 ≤ x) (hy0 : 0 ≤ y) (hx : s.size < 2097152) (hy : t.size < 2097152) :
    eqB (bs ++ notice x (sb s)) (bs ++ notice y (sb t)) = ((x == y) && decide (s = t)) := by
  by_cases h : x = y ∧ s = t
  · obtain ⟨rfl, rfl⟩ := h
    rw [eqB_yes rfl]; simp
  · rw [eqB_no]
    · symm
      simp only [Bool.and_eq_false_iff, beq_eq_false_iff_ne, decide_eq_false_iff_not]
      by_cases h1 : x = y
      · exact .inr fun e => h ⟨h1, e⟩
      · exact .inl h1
    · intro e
      have e' := notice_inj hx0 hy0 (by rw [sb_length]; exact hx) (by rw [sb_length]; exact hy) (List.append_cancel_left e)
      exact h ⟨e'.1, sb_inj e'.2⟩
end Go.Proofs.Qxb6609368a

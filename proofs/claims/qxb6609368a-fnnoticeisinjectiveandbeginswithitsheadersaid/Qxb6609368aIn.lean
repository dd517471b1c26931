/-
  SEAT b6609368a: what came in, and what is owned, as rows of bytes.
-/
import Derived.Test.Qxb6609368aClone
namespace Go.Proofs.Qxb6609368a
open Go.RowKit

/-- A slice of bytes that came in (the shell's 'IsRow'), as a row. -/
theorem row_in {w : World} {a : Option Addr} {len cap : Nat} {zs : List Int}
    (h : (a = none ∧ len = 0 ∧ cap = 0 ∧ zs = []) ∨ ∃ x, a = some x ∧ len ≤ cap ∧ cap ≤ maxLen ∧ zs.length = cap ∧ (∀ i, i < zs.length → w.cell? (x.add i) = some (.int .u8 (zs.getD i 0))) ∧ ∀ n ∈ zs, (Lit.int .u8 n).wf = true) :
    ∃ xs : List Int, len = xs.length ∧ Row w a xs ∧ (a = none → len = 0 ∧ cap = 0) := by
  rcases h with ⟨rfl, rfl, rfl, rfl⟩ | ⟨x, rfl, hl, hm, hz, hcell, hwz⟩
  · exact ⟨[], rfl, fun h => absurd h (by simp), fun _ => ⟨rfl, rfl⟩⟩
  · have hlt : len = (zs.take len).length := by rw [List.length_take]; omega
    refine ⟨zs.take len, hlt, fun h0 => ?_, fun e => by cases e⟩
    rw [← hlt] at h0
    obtain ⟨b, off, spot⟩ := x
    have hc := hcell 0 (by omega)
    have hspot : spot = none := by simpa [Addr.add] using World.cell?_spot hc
    subst hspot
    refine ⟨b, off, rfl, fun i hi => ?_⟩
    rw [← hlt] at hi
    have hci := hcell i (by omega)
    rw [Addr.add_lit] at hci
    rw [hci]
    simp [List.getD, hi]

theorem Row.below {B : Nat} {w w' : World} {a : Option Addr} {xs : List Int} (h : Row w a xs) (hb : Below B w w') (hB : w.heap.size ≤ B) : Row w' a xs := by
  intro h0
  obtain ⟨b, off, e, hc⟩ := h h0
  refine ⟨b, off, e, fun i hi => ?_⟩
  have hci := hc i hi
  have hlt : b < w.heap.size := World.block_lt_of_cell? w _ hci
  rw [hb.cell (p := ⟨b, off + i, none⟩) (by show b < B; omega)]
  exact hci

/-- what is owned, and not empty -/
theorem own_at {w : World} {B : Nat} {v : Value} {n : Nat} {xs : List Int} (h : w.ownsRow B 5 1 v n (bc xs)) (h0 : 0 < xs.length) :
    ∃ g c, v = .slice (some ⟨g, 0, none⟩) xs.length c ∧ B ≤ g ∧ g < w.heap.size ∧ xs.length ≤ c ∧ ∀ i, i < xs.length → w.cell? ⟨g, 0 + i, none⟩ = some (.int .u8 (xs.getD i 0)) := by
  have hn : n = xs.length := by have := h.1; rw [bc_length] at this; omega
  subst hn
  rcases h.2 with ⟨rfl, h1⟩ | ⟨g, cap, cur, rfl, hb, hg, hnc, _⟩
  · omega
  · refine ⟨g, cap, rfl, hb, (Array.getElem?_eq_some_iff.1 hg).1, hnc, fun i hi => ?_⟩
    rw [Nat.zero_add, h.cellAt i (by omega)]
    simp [bc, hi]

/-- a row's first part, its rest -/
theorem row_left {w : World} {g off : Nat} {ps ys : List Int} (h : ∀ i, i < (ps ++ ys).length → w.cell? ⟨g, off + i, none⟩ = some (.int .u8 ((ps ++ ys).getD i 0))) : Row w (some ⟨g, off, none⟩) ps := by
  intro h0
  refine ⟨g, off, rfl, fun i hi => ?_⟩
  rw [h i (by simp; omega)]
  simp only [List.getD, List.getElem?_append_left hi]
theorem row_right {w : World} {g off k : Nat} {ps ys : List Int} {c : Option Addr} (h : ∀ i, i < (ps ++ ys).length → w.cell? ⟨g, off + i, none⟩ = some (.int .u8 ((ps ++ ys).getD i 0))) (hk : ps.length = k) (hc : 0 < ys.length → c = some ⟨g, off + k, none⟩) : Row w c ys := by
  intro h0
  refine ⟨g, off + k, hc h0, fun i hi => ?_⟩
  have := h (k + i) (by simp; omega)
  rw [← Nat.add_assoc] at this
  rw [this]
  simp only [List.getD, List.getElem?_append_right (show ps.length ≤ k + i by omega), hk, Nat.add_sub_cancel_left]

def fit2 (a b : Nat) : Bool := decide (a + b ≤ 1048576)
theorem fit2_yes {a b : Nat} (h : a + b ≤ 1048576) : fit2 a b = true := by simp [fit2, h]
theorem fit2_no {a b : Nat} (h : ¬ a + b ≤ 1048576) : fit2 a b = false := by simp [fit2]; omega

theorem bytes24 (a : Option Addr) (len cap : Nat) (x : Int) (s : ByteArray) (w : World) (hl : len ≤ maxLen) (hs : s.size ≤ maxLen) :
    Calls Try.prog 24 #[.slice a len cap, .int .u32 x, .string s] w fun e w' => e = .returned (.bool (fit2 len s.size)) ∧ w' = w := by
  unfold maxLen at hl hs
  go_enter Try.func24, Try.ntmps24
  go_wp2
  all_goals go_ret
  all_goals (refine ⟨?_, rfl⟩; first | exact ret_bool (fit2_no (by omega)).symm | exact ret_bool (fit2_yes (by omega)).symm)

def fit3 (a b c : Nat) : Bool := decide (a + b + c ≤ 1048576)
theorem fit3_yes {a b c : Nat} (h : a + b + c ≤ 1048576) : fit3 a b c = true := by simp [fit3, h]
theorem fit3_no {a b c : Nat} (h : ¬ a + b + c ≤ 1048576) : fit3 a b c = false := by simp [fit3]; omega

theorem bytes29 (a : Option Addr) (len cap : Nat) (x y : Int) (s t : ByteArray) (w : World) (hl : len ≤ maxLen) (hs : s.size ≤ maxLen) (ht : t.size ≤ maxLen) :
    Calls Try.prog 29 #[.slice a len cap, .int .u32 x, .string s, .int .u32 y, .string t] w fun e w' => e = .returned (.bool (fit3 len s.size t.size)) ∧ w' = w := by
  unfold maxLen at hl hs ht
  go_enter Try.func29, Try.ntmps29
  go_wp2
  all_goals go_ret
  all_goals (refine ⟨?_, rfl⟩; first | exact ret_bool (fit3_no (by omega)).symm | exact ret_bool (fit3_yes (by omega)).symm)
end Go.Proofs.Qxb6609368a

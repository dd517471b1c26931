/-
  SEAT b6609467a: the reader after k skips.
-/
import Derived.Test.Qxb6609467aReader
namespace Go.Proofs.Qxb6609467a
open Go.RowKit

theorem tabAt_ne : ∀ (xs : List Int) (j : Nat), j < tabAt xs → ¬ xs.getD j 0 = 9
  | [], j, h => by simp [tabAt] at h
  | c :: t, j, h => by
    by_cases hc : c = 9
    · simp [tabAt, hc] at h
    · cases j with
      | zero => simpa using hc
      | succ j =>
        have h' : j < tabAt t := by simp only [tabAt] at h ⊢; simp [hc] at h; exact h
        have := tabAt_ne t j h'
        simpa using this

theorem tabAt_is : ∀ (xs : List Int), tabAt xs < xs.length → xs.getD (tabAt xs) 0 = 9
  | [], h => by simp at h
  | c :: t, h => by
    by_cases hc : c = 9
    · simp [tabAt, hc]
    · have e : tabAt (c :: t) = tabAt t + 1 := by simp [tabAt, hc]
      rw [e] at h ⊢
      have := tabAt_is t (by simpa using h)
      simpa using this

def prevAt (xs : List Int) (k : Nat) : Int := if k = 0 then 0 else xs.getD (k - 1) 0
def TL (xs : List Int) (line tl : Int) (k : Nat) : Int := if tl = 0 ∧ tabAt xs < k then line else tl
def TC (xs : List Int) (col tl tc : Int) (k : Nat) : Int := if tl = 0 ∧ tabAt xs < k then col + chars (xs.take (tabAt xs)) else tc

theorem col_step (xs : List Int) (k : Nat) (h : k < xs.length) (col : Int) : stepCol (xs.getD k 0) (col + chars (xs.take k)) = col + chars (xs.take (k + 1)) := by
  rw [chars_snoc xs k h, stepCol]
  split <;> simp <;> omega

theorem tl_step (xs : List Int) (k : Nat) (h : k < xs.length) (line tl : Int) (hl : ¬ line = 0) : tabL (xs.getD k 0) line (TL xs line tl k) = TL xs line tl (k + 1) := by
  unfold tabL TL
  by_cases h0 : tl = 0
  · by_cases h1 : tabAt xs < k
    · simp [h0, h1, hl, show tabAt xs < k + 1 by omega]
    · by_cases h2 : tabAt xs = k
      · have := tabAt_is xs (by omega)
        rw [h2] at this
        rw [this]
        simp [h0, h2]
      · have := tabAt_ne xs k (by omega)
        simp only [h0, h1, this, show ¬ tabAt xs < k + 1 by omega, and_false, false_and, if_false]
  · simp [h0]

theorem tc_step (xs : List Int) (k : Nat) (h : k < xs.length) (line col tl tc : Int) (hl : ¬ line = 0) : tabC (xs.getD k 0) (col + chars (xs.take k)) (TL xs line tl k) (TC xs col tl tc k) = TC xs col tl tc (k + 1) := by
  unfold tabC TL TC
  by_cases h0 : tl = 0
  · by_cases h1 : tabAt xs < k
    · simp [h0, h1, hl, show tabAt xs < k + 1 by omega]
    · by_cases h2 : tabAt xs = k
      · have := tabAt_is xs (by omega)
        rw [h2] at this
        rw [this]
        simp [h0, h2]
      · have := tabAt_ne xs k (by omega)
        simp only [h0, h1, this, show ¬ tabAt xs < k + 1 by omega, and_false, false_and, if_false]
  · simp [h0]

/-- the reader (block w1.heap.size) after k skips -/
structure Inv (w1 : World) (a0 : Option Addr) (xs : List Int) (line col tl tc : Int) (k : Nat) (w : World) : Prop where
  rd : ∃ a, Rd w w1.heap.size (.slice a (xs.length - k) (xs.length - k)) line (col + chars (xs.take k)) (prevAt xs k) (TL xs line tl k) (TC xs col tl tc k) ∧ (k < xs.length → ∃ b off, a0 = some ⟨b, off, none⟩ ∧ a = some ⟨b, off + k, none⟩)
  bel : Below w1.heap.size w1 w

theorem inv_start {w1 w2 : World} {a0 : Option Addr} {xs : List Int} {line col tl tc : Int} (hrow : Row w1 a0 xs) (h : Rd w2 w1.heap.size (.slice a0 xs.length xs.length) line col 0 tl tc) (hb : Below w1.heap.size w1 w2) : Inv w1 a0 xs line col tl tc 0 w2 := by
  refine ⟨⟨a0, ?_, fun h0 => ?_⟩, hb⟩
  · simpa [chars, prevAt, TL, TC] using h
  · obtain ⟨b, off, e, _⟩ := hrow.1 (by omega)
    exact ⟨b, off, e, by simpa using e⟩

theorem inv_skip (w1 : World) (a0 : Option Addr) (xs : List Int) (line col tl tc : Int) (k : Nat) (w : World) (h : Inv w1 a0 xs line col tl tc k w) (hrow : Row w1 a0 xs) (hk : k < xs.length) (hl : ¬ line = 0) (hc0 : 0 ≤ col) (hc1 : col ≤ 9223372036853727231) (hx : xs.length ≤ 1048576) :
    Calls Try.prog 11 #[.pointer (some ⟨w1.heap.size, 0, none⟩)] w fun e w' => e = .returned (.tuple #[]) ∧ Inv w1 a0 xs line col tl tc (k + 1) w' := by
  obtain ⟨a, hrd, hat⟩ := h.rd
  obtain ⟨b, off, e0, rfl⟩ := hat hk
  obtain ⟨b', off', e1, hcell⟩ := hrow.1 (by omega)
  rw [e0] at e1
  simp only [Option.some.injEq, Addr.mk.injEq, and_true] at e1
  obtain ⟨rfl, rfl⟩ := e1
  have hbl : b < w1.heap.size := World.block_lt_of_cell? w1 _ (hcell k hk)
  have hx' : w.cell? ⟨b, off + k, none⟩ = some (.int .u8 (xs.getD k 0)) := by rw [h.bel.cell (p := ⟨b, off + k, none⟩) hbl]; exact hcell k hk
  obtain ⟨n, hn⟩ : ∃ n, xs.length - k = n + 1 := ⟨xs.length - k - 1, by omega⟩
  rw [hn] at hrd
  have hcl := chars_le (xs.take k)
  have htl : (xs.take k).length ≤ k := List.length_take_le _ _
  have hby := hrow.byte k
  refine (zzskip w1.heap.size b (off + k) n (n + 1) line _ _ _ _ (xs.getD k 0) w hrd hx' hbl (Nat.le_refl _) (by omega) (by omega) (by omega) hby.1 hby.2).mono ?_
  rintro e w' ⟨rfl, ⟨a, ha, hr⟩, hbel⟩
  refine ⟨rfl, ⟨a, ?_, fun hlt => ⟨b, off, e0, ?_⟩⟩, h.bel.trans hbel⟩
  · rw [col_step xs k hk, tl_step xs k hk line tl hl, tc_step xs k hk line col tl tc hl] at hr
    have e2 : xs.length - (k + 1) = n := by omega
    have e3 : prevAt xs (k + 1) = xs.getD k 0 := by simp [prevAt]
    rw [e2, e3]
    simpa using hr
  · rw [ha (by omega), Nat.add_assoc]
end Go.Proofs.Qxb6609467a

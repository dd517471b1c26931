/-
  SEAT b6609467a: plain functions on lists of bytes (numbers 0 .. 255): whole UTF-8 sequences, characters, the first tab. No Go in sight.
-/
import Derived.Laws.BitsLemmas
namespace Go.Proofs.Qxb6609467a

/-- a continuation byte -/
def cont (c : Int) : Bool := decide (128 ≤ c ∧ c < 192)
/-- how many continuation bytes the lead byte c asks for; 9: it is no lead byte -/
def lead (c : Int) : Nat := if c < 128 then 0 else if c < 192 then 9 else if c < 224 then 1 else if c < 240 then 2 else if c < 248 then 3 else 9

/-- the number of sequences, p continuation bytes being owed -/
def seqs : Nat → List Int → Option Nat
  | 0, [] => some 0
  | _ + 1, [] => none
  | 0, c :: t => if lead c = 9 then none else (seqs (lead c) t).map (· + 1)
  | p + 1, c :: t => if cont c then seqs p t else none

/-- the bytes that are no continuation bytes -/
def chars (l : List Int) : Nat := (l.filter fun c => !cont c).length

theorem cont_of_lead {c : Int} (h : ¬ lead c = 9) : cont c = false := by
  unfold lead at h
  simp only [cont, decide_eq_false_iff_not]
  split at h
  · omega
  · split at h
    · omega
    · omega

theorem seqs_chars : ∀ (l : List Int) (p n : Nat), seqs p l = some n → n = chars l
  | [], 0, n, h => by simp [seqs] at h; simp [chars, ← h]
  | [], p + 1, n, h => by simp [seqs] at h
  | c :: t, 0, n, h => by
    by_cases h9 : lead c = 9
    · simp [seqs, h9] at h
    · simp only [seqs, h9, if_false, Option.map_eq_some_iff] at h
      obtain ⟨m, hm, rfl⟩ := h
      have := seqs_chars t _ m hm
      simp [chars, cont_of_lead h9, this]
  | c :: t, p + 1, n, h => by
    by_cases hc : cont c = true
    · simp only [seqs, hc, if_true] at h
      have := seqs_chars t _ n h
      simp [chars, hc, this]
    · simp [seqs, hc] at h

theorem seqs_short : ∀ (l : List Int) (p : Nat), l.length < p → seqs p l = none
  | [], p + 1, _ => rfl
  | c :: t, p + 1, h => by
    have := seqs_short t p (by simpa using h)
    simp [seqs, this]

/-- up to a tab the bytes are whole sequences -/
theorem seqs_tab : ∀ (l r : List Int) (p n : Nat), seqs p (l ++ 9 :: r) = some n → ∃ m, seqs p l = some m
  | [], r, 0, n, _ => ⟨0, rfl⟩
  | [], r, p + 1, n, h => by simp [seqs, cont] at h
  | c :: t, r, 0, n, h => by
    by_cases h9 : lead c = 9
    · simp [seqs, h9] at h
    · simp only [List.cons_append, seqs, h9, if_false, Option.map_eq_some_iff] at h
      obtain ⟨m, hm, rfl⟩ := h
      obtain ⟨k, hk⟩ := seqs_tab t r _ m hm
      exact ⟨k + 1, by simp [seqs, h9, hk]⟩
  | c :: t, r, p + 1, n, h => by
    by_cases hc : cont c = true
    · simp only [List.cons_append, seqs, hc, if_true] at h
      obtain ⟨k, hk⟩ := seqs_tab t r _ n h
      exact ⟨k, by simp [seqs, hc, hk]⟩
    · simp [seqs, hc] at h

theorem chars_le (l : List Int) : chars l ≤ l.length := List.length_filter_le _ _
theorem chars_append (l r : List Int) : chars (l ++ r) = chars l + chars r := by simp [chars]
theorem take_snoc (l : List Int) (k : Nat) (h : k < l.length) : l.take (k + 1) = l.take k ++ [l.getD k 0] := by
  rw [List.take_succ_eq_append_getElem h]
  simp [List.getD, h]
theorem drop_cons (l : List Int) (k : Nat) (h : k < l.length) : l.drop k = l.getD k 0 :: l.drop (k + 1) := by
  rw [List.drop_eq_getElem_cons h]
  simp [List.getD, h]
theorem chars_snoc (l : List Int) (k : Nat) (h : k < l.length) : chars (l.take (k + 1)) = chars (l.take k) + if cont (l.getD k 0) then 0 else 1 := by
  rw [take_snoc l k h, chars_append]
  generalize l.getD k 0 = c
  by_cases hc : cont c = true
  · simp [chars, hc]
  · simp [chars, hc]

/-! the walk's words on one byte -/
set_option maxRecDepth 100000 in
theorem and_nat : ∀ a : Fin 256, (a.val &&& 192 = 128 ↔ (128 ≤ a.val ∧ a.val < 192)) ∧ (a.val &&& 224 = 192 ↔ (192 ≤ a.val ∧ a.val < 224)) ∧ (a.val &&& 240 = 224 ↔ (224 ≤ a.val ∧ a.val < 240)) ∧ (a.val &&& 248 = 240 ↔ (240 ≤ a.val ∧ a.val < 248)) := by decide

theorem and_u8 (a : Int) (b : Nat) (hb : b < 256) (h₀ : 0 ≤ a) (h₁ : a < 256) : bits .and .u8 a (b : Int) = ((a.toNat &&& b : Nat) : Int) := by
  obtain ⟨n, rfl⟩ := Int.eq_ofNat_of_zero_le h₀
  have hn : n < 256 := by omega
  have h := (bits_nat .u8 8 (by decide) wraps_u8 n b (by simpa using hn) (by simpa using hb)).1
  rw [h]
  simp

theorem and192 (a : Int) (h₀ : 0 ≤ a) (h₁ : a < 256) : (bits .and .u8 a 192 = 128) ↔ (128 ≤ a ∧ a < 192) := by
  have h := and_u8 a 192 (by decide) h₀ h₁
  have k := (and_nat ⟨a.toNat, by omega⟩).1
  simp only at k
  rw [show ((192 : Nat) : Int) = 192 from rfl] at h
  rw [h]
  omega
theorem and224 (a : Int) (h₀ : 0 ≤ a) (h₁ : a < 256) : (bits .and .u8 a 224 = 192) ↔ (192 ≤ a ∧ a < 224) := by
  have h := and_u8 a 224 (by decide) h₀ h₁
  have k := (and_nat ⟨a.toNat, by omega⟩).2.1
  simp only at k
  rw [show ((224 : Nat) : Int) = 224 from rfl] at h
  rw [h]
  omega
theorem and240 (a : Int) (h₀ : 0 ≤ a) (h₁ : a < 256) : (bits .and .u8 a 240 = 224) ↔ (224 ≤ a ∧ a < 240) := by
  have h := and_u8 a 240 (by decide) h₀ h₁
  have k := (and_nat ⟨a.toNat, by omega⟩).2.2.1
  simp only at k
  rw [show ((240 : Nat) : Int) = 240 from rfl] at h
  rw [h]
  omega
theorem and248 (a : Int) (h₀ : 0 ≤ a) (h₁ : a < 256) : (bits .and .u8 a 248 = 240) ↔ (240 ≤ a ∧ a < 248) := by
  have h := and_u8 a 248 (by decide) h₀ h₁
  have k := (and_nat ⟨a.toNat, by omega⟩).2.2.2
  simp only at k
  rw [show ((248 : Nat) : Int) = 248 from rfl] at h
  rw [h]
  omega
end Go.Proofs.Qxb6609467a

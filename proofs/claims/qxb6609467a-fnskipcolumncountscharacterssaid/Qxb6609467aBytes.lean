/-
  SEAT b6609467a: rows of bytes, and the contracts of the functions that read them or copy them: zzSeqCount (8), zzCloneBytes (9), zzIndexTab (13), zzBytes.. (7, 14).
-/
import Derived.Test.Qxb6609467aProg
import Derived.Test.Qxb6609467aPlain
import Derived.WalkKit
import Derived.BigQuiet
import Derived.Deep.QuietTactic
import Derived.Deep.Draws
import Derived.Deep.OwnRows
import Derived.WalkSpells
import Derived.KernelRfl
namespace Go.Proofs.Qxb6609467a
open Go.RowKit

/-- A slice of bytes at address 'a' whose elements are 'xs' (its length is xs.length). -/
def Row (w : World) (a : Option Addr) (xs : List Int) : Prop :=
  (0 < xs.length → ∃ b off, a = some ⟨b, off, none⟩ ∧ ∀ i, i < xs.length → w.cell? ⟨b, off + i, none⟩ = some (.int .u8 (xs.getD i 0))) ∧ ∀ x ∈ xs, 0 ≤ x ∧ x < 256

theorem Row.drewN {w : World} {a : Option Addr} {xs : List Int} (h : Row w a xs) (n : Nat) : Row (w.drewN n) a xs := h
theorem Row.byte {w : World} {a : Option Addr} {xs : List Int} (h : Row w a xs) (k : Nat) : 0 ≤ xs.getD k 0 ∧ xs.getD k 0 < 256 := by
  by_cases hk : k < xs.length
  · have := h.2 (xs.getD k 0) (by simp [List.getD, hk])
    exact this
  · simp [List.getD, List.getElem?_eq_none (show xs.length ≤ k by omega)]
theorem Row.below {B : Nat} {w w' : World} {a : Option Addr} {xs : List Int} (h : Row w a xs) (hb : Below B w w') (hB : w.heap.size ≤ B) : Row w' a xs := by
  refine ⟨fun h0 => ?_, h.2⟩
  obtain ⟨b, off, e, hc⟩ := h.1 h0
  refine ⟨b, off, e, fun i hi => ?_⟩
  have hci := hc i hi
  have hlt : b < w.heap.size := World.block_lt_of_cell? w _ hci
  rw [hb.cell (p := ⟨b, off + i, none⟩) (by show b < B; omega)]
  exact hci

theorem ret_bool {a b : Bool} (h : a = b) : Ending.returned (.bool a) = .returned (.bool b) := by rw [h]
theorem ret_int {k : IntKind} {a b : Int} (h : a = b) : Ending.returned (.int k a) = .returned (.int k b) := by rw [h]
theorem ret_pair {a b : Int} {c d : Bool} (h : a = b) (h' : c = d) : Ending.returned (.tuple #[.int .i64 a, .bool c]) = .returned (.tuple #[.int .i64 b, .bool d]) := by rw [h, h']

theorem info5 : (Try.prog.info? 5).map (fun i => (i.zero, i.size, i.bytes)) = some (some (.int .u8 0), 1, 1) := by kernel_rfl

def fit1 (a : Nat) : Bool := decide (a ≤ 1048576)
theorem fit1_yes {a : Nat} (h : a ≤ 1048576) : fit1 a = true := by simp [fit1, h]
theorem fit1_no {a : Nat} (h : ¬ a ≤ 1048576) : fit1 a = false := by simp [fit1]; omega

theorem bytes7 (a : Option Addr) (len cap : Nat) (x y z : Int) (b : Bool) (w : World) (hl : len ≤ maxLen) :
    Calls Try.prog 7 #[.slice a len cap, .int .i64 x, .int .i64 y, .bool b, .int .i64 z] w fun e w' => e = .returned (.bool (fit1 len)) ∧ w' = w := by
  unfold maxLen at hl
  go_enter Try.func7, Try.ntmps7
  go_wp2
  all_goals go_ret
  all_goals (refine ⟨?_, rfl⟩; first | exact ret_bool (fit1_no (by omega)).symm | exact ret_bool (fit1_yes (by omega)).symm)
theorem bytes14 (a : Option Addr) (len cap : Nat) (x y z : Int) (w : World) (hl : len ≤ maxLen) :
    Calls Try.prog 14 #[.slice a len cap, .int .i64 x, .int .i64 y, .int .i64 z] w fun e w' => e = .returned (.bool (fit1 len)) ∧ w' = w := by
  unfold maxLen at hl
  go_enter Try.func14, Try.ntmps14
  go_wp2
  all_goals go_ret
  all_goals (refine ⟨?_, rfl⟩; first | exact ret_bool (fit1_no (by omega)).symm | exact ret_bool (fit1_yes (by omega)).symm)

/-! ### zzIndexTab -/
/-- the place of the first tab; the length where there is none -/
def tabAt (xs : List Int) : Nat := (xs.takeWhile (fun c => !(c == 9))).length

theorem tabAt_le (xs : List Int) : tabAt xs ≤ xs.length := by
  unfold tabAt
  exact (List.takeWhile_sublist _).length_le

theorem tabAt_first : ∀ (xs : List Int) (k : Nat), k < xs.length → (∀ j, j < k → ¬ xs.getD j 0 = 9) → xs.getD k 0 = 9 → tabAt xs = k
  | c :: t, 0, _, _, h => by simp at h; simp [tabAt, h]
  | c :: t, k + 1, hk, hn, h => by
    have h0 := hn 0 (by omega)
    simp at h0
    have := tabAt_first t k (by simpa using hk) (fun j hj => by have := hn (j + 1) (by omega); simpa using this) (by simpa using h)
    simp only [tabAt] at this ⊢
    simp [h0, this]

theorem tabAt_none : ∀ (xs : List Int), (∀ j, j < xs.length → ¬ xs.getD j 0 = 9) → tabAt xs = xs.length
  | [], _ => rfl
  | c :: t, hn => by
    have h0 := hn 0 (by simp)
    simp at h0
    have := tabAt_none t (fun j hj => by have := hn (j + 1) (by simpa using hj); simpa using this)
    simp only [tabAt] at this ⊢
    simp [h0, this]

/-- what zzIndexTab answers -/
def tabInt (xs : List Int) : Int := if tabAt xs < xs.length then (tabAt xs : Int) else -1

set_option maxHeartbeats 1000000 in
theorem indexTab (a : Option Addr) (c n : Nat) (xs : List Int) (hn : n = xs.length) (w : World) (h : Row w a xs) (hl : xs.length ≤ 4611686018427387904) :
    Calls Try.prog 13 #[.slice a n c] w fun e w' => e = .returned (.int .i64 (tabInt xs)) ∧ w' = w := by
  subst hn
  by_cases h0 : 0 < xs.length
  · obtain ⟨b, off, rfl, hc⟩ := h.1 h0
    have HC : Hid (∀ i, i < xs.length → w.cell? ⟨b, off + i, none⟩ = some (.int .u8 (xs.getD i 0))) := hc
    clear h hc
    go_enter Try.func13, Try.ntmps13
    go_wp2
    go_loop [3] (fun i => ∃ k : Nat, k ≤ xs.length ∧ i = .int .i64 k ∧ Hid (∀ j, j < k → ¬ xs.getD j 0 = 9)) (fun i => xs.length - (intOf i).toNat)
    case atStart => exact ⟨0, Nat.zero_le _, rfl, fun j hj => by omega⟩
    case round =>
      obtain ⟨k, hk, rfl, ht⟩ := hrel
      by_cases hlt : k < xs.length
      · obtain ⟨x, hx⟩ : ∃ x, x = xs.getD k 0 := ⟨_, rfl⟩
        have c1 : w.cell? ⟨b, off + k, none⟩ = some (.int .u8 x) := by rw [hx]; exact HC.out k hlt
        have HX : Hid (x = xs.getD k 0) := hx
        have b2 : (k : Int) < (xs.length : Int) := by omega
        clear hx
        by_cases h9 : x = 9
        · have hB : (x == 9) = true := by simp [h9]
          have H9 : Hid (x = 9) := h9
          clear h9
          go_wp2
          go_ret
          refine ⟨ret_int ?_, rfl⟩
          have e := tabAt_first xs k hlt ht.out (by rw [← HX.out]; exact H9.out)
          simp only [tabInt, e, hlt, if_true]
        · have hB : (x == 9) = false := by simp [h9]
          go_wp2
          go_round
          case rel =>
            refine ⟨k + 1, by omega, by go_num, fun j hj => ?_⟩
            by_cases e : j = k
            · rw [e, ← HX.out]; exact h9
            · exact ht.out j (by omega)
          case measure => simp [intOf]; omega
      · go_wp2
        go_ret
        refine ⟨ret_int ?_, rfl⟩
        have e := tabAt_none xs (fun j hj => ht.out j (by omega))
        simp [tabInt, e]
  · obtain rfl : xs = [] := List.eq_nil_of_length_eq_zero (by omega)
    clear h
    go_enter Try.func13, Try.ntmps13
    go_wp2
    refine wp_loop_rounds 1 ?_
    rw [rounds_succ]
    go_wp2
    go_ret
    exact ⟨ret_int (by simp [tabInt]), rfl⟩

/-! ### zzSeqCount -/
theorem lead_facts (x : Int) (h0 : 0 ≤ x) (h1 : x < 256) :
    (x < 128 ∧ lead x = 0) ∨
    (¬ x < 128 ∧ (bits .and .u8 x 224 == 192) = true ∧ lead x = 1) ∨
    (¬ x < 128 ∧ (bits .and .u8 x 224 == 192) = false ∧ (bits .and .u8 x 240 == 224) = true ∧ lead x = 2) ∨
    (¬ x < 128 ∧ (bits .and .u8 x 224 == 192) = false ∧ (bits .and .u8 x 240 == 224) = false ∧ (bits .and .u8 x 248 == 240) = true ∧ lead x = 3) ∨
    (¬ x < 128 ∧ (bits .and .u8 x 224 == 192) = false ∧ (bits .and .u8 x 240 == 224) = false ∧ (bits .and .u8 x 248 == 240) = false ∧ lead x = 9) := by
  have k1 := and224 x h0 h1
  have k2 := and240 x h0 h1
  have k3 := and248 x h0 h1
  simp only [beq_iff_eq, beq_eq_false_iff_ne, ne_eq, k1, k2, k3, lead]
  by_cases a1 : x < 128
  · simp [a1]
  · by_cases a2 : x < 192
    · simp [a1, a2]; omega
    · by_cases a3 : x < 224
      · simp [a1, a2, a3]; omega
      · by_cases a4 : x < 240
        · simp [a1, a2, a3, a4]; omega
        · by_cases a5 : x < 248
          · simp [a1, a2, a3, a4, a5]; omega
          · simp [a1, a2, a3, a4, a5]

theorem seqs_lead (xs : List Int) (i : Nat) (h : i < xs.length) (h9 : ¬ lead (xs.getD i 0) = 9) : seqs 0 (xs.drop i) = (seqs (lead (xs.getD i 0)) (xs.drop (i + 1))).map (· + 1) := by
  rw [drop_cons xs i h]
  generalize xs.getD i 0 = y at *
  simp [seqs, h9]
theorem seqs_bad (xs : List Int) (i : Nat) (h : i < xs.length) (h9 : lead (xs.getD i 0) = 9) : seqs 0 (xs.drop i) = none := by
  rw [drop_cons xs i h]
  generalize xs.getD i 0 = y at *
  simp [seqs, h9]
theorem seqs_cont (xs : List Int) (p j : Nat) (h : j < xs.length) (hc : cont (xs.getD j 0) = true) : seqs (p + 1) (xs.drop j) = seqs p (xs.drop (j + 1)) := by
  rw [drop_cons xs j h]
  generalize xs.getD j 0 = y at *
  simp [seqs, hc]
theorem seqs_nocont (xs : List Int) (p j : Nat) (h : j < xs.length) (hc : cont (xs.getD j 0) = false) : seqs (p + 1) (xs.drop j) = none := by
  rw [drop_cons xs j h]
  generalize xs.getD j 0 = y at *
  simp [seqs, hc]

/-- what zzSeqCount answers -/
def cnt (xs : List Int) : Int := ((seqs 0 xs).getD 0 : Nat)
def okB (xs : List Int) : Bool := (seqs 0 xs).isSome

/-- where it stands: 'count' sequences behind it, 'p' continuation bytes owed, at place i -/
def At (xs : List Int) (count p i : Nat) : Prop := seqs 0 xs = (seqs p (xs.drop i)).map (· + count)

theorem At.none {xs : List Int} {count p i : Nat} (h : At xs count p i) (e : seqs p (xs.drop i) = .none) : cnt xs = 0 ∧ okB xs = false := by
  unfold At at h
  rw [e] at h
  simp [cnt, okB, h]
theorem At.lead {xs : List Int} {count i : Nat} (h : At xs count 0 i) (hi : i < xs.length) (h9 : ¬ lead (xs.getD i 0) = 9) : At xs (count + 1) (lead (xs.getD i 0)) (i + 1) := by
  unfold At at h ⊢
  rw [h, seqs_lead xs i hi h9]
  cases seqs (Qxb6609467a.lead (xs.getD i 0)) (xs.drop (i + 1)) <;> simp
  omega
theorem At.cont {xs : List Int} {count p j : Nat} (h : At xs count (p + 1) j) (hj : j < xs.length) (hc : cont (xs.getD j 0) = true) : At xs count p (j + 1) := by
  unfold At at h ⊢
  rw [h, seqs_cont xs p j hj hc]
theorem At.fin {xs : List Int} {count i : Nat} (h : At xs count 0 i) (hi : i = xs.length) : cnt xs = count ∧ okB xs = true := by
  unfold At at h
  rw [hi, List.drop_length] at h
  simp [cnt, okB, h, seqs]

set_option maxHeartbeats 4000000 in
set_option maxRecDepth 100000 in
theorem seqCount (a : Option Addr) (c n : Nat) (xs : List Int) (hn : n = xs.length) (w : World) (h : Row w a xs) (hl : xs.length ≤ 4611686018427387000) :
    Calls Try.prog 8 #[.slice a n c] w fun e w' => e = .returned (.tuple #[.int .i64 (cnt xs), .bool (okB xs)]) ∧ w' = w := by
  subst hn
  by_cases h0 : 0 < xs.length
  · obtain ⟨b, off, rfl, hc⟩ := h.1 h0
    have HC : Hid (∀ i, i < xs.length → w.cell? ⟨b, off + i, none⟩ = some (.int .u8 (xs.getD i 0))) := hc
    have HB : Hid (∀ k, 0 ≤ xs.getD k 0 ∧ xs.getD k 0 < 256) := h.byte
    clear h hc
    go_enter Try.func8, Try.ntmps8
    go_wp2
    go_loop [2, 3, 4, 5, 6, 7, 8] (fun r s ct i _ _ _ => ∃ k m : Nat, k ≤ xs.length ∧ m ≤ k ∧ r = .int .i64 0 ∧ s = .bool false ∧ i = .int .i64 k ∧ ct = .int .i64 m ∧ At xs m 0 k) (fun _ _ _ i _ _ _ => xs.length - (intOf i).toNat)
    case atStart => exact ⟨0, 0, Nat.zero_le _, Nat.le_refl _, rfl, rfl, rfl, rfl, by simp [At]⟩
    case round =>
      obtain ⟨k, m, hk, hmk, rfl, rfl, rfl, rfl, ht⟩ := hrel
      by_cases hlt : k < xs.length
      · obtain ⟨x, hx⟩ : ∃ x, x = xs.getD k 0 := ⟨_, rfl⟩
        have c1 : w.cell? ⟨b, off + k, none⟩ = some (.int .u8 x) := by rw [hx]; exact HC.out k hlt
        have HX : Hid (x = xs.getD k 0) := hx
        have hxb := HB.out k
        rw [← hx] at hxb
        have b2 : (k : Int) < (xs.length : Int) := by omega
        have hcase := lead_facts x hxb.1 hxb.2
        clear hx
        rcases hcase with ⟨q1, q2⟩ | ⟨q1, q2, q3⟩ | ⟨q1, q2, q3, q4⟩ | ⟨q1, q2, q3, q4, q5⟩ | ⟨q1, q2, q3, q4, q5⟩
        · have HQ : Hid (Qxb6609467a.lead x = 0) := q2
          clear q2
          have hA1 : At xs (m + 1) (1 - 1) (k + 1) := by
            have := ht.lead hlt (by rw [← HX.out, HQ.out]; decide)
            rw [← HX.out, HQ.out] at this
            exact this
          by_cases hsh : k + 1 ≤ xs.length
          · have hshi : ¬ (xs.length : Int) - (k : Int) < 1 := by omega
            go_wp2
            go_loop [2, 3, 8] (fun r s jv => ∃ j : Nat, 1 ≤ j ∧ j ≤ 1 ∧ r = .int .i64 0 ∧ s = .bool false ∧ jv = .int .i64 j ∧ At xs (m + 1) (1 - j) (k + j)) (fun _ _ jv => 1 - (intOf jv).toNat)
            case atStart => exact ⟨1, Nat.le_refl _, by omega, rfl, rfl, rfl, hA1⟩
            case round =>
              obtain ⟨j, hj1, hj2, rfl, rfl, rfl, hA⟩ := hrel
              by_cases hjw : j < 1
              · omega
              · have hj : j = 1 := by omega
                subst hj
                go_wp2
                go_round
                case rel => exact ⟨k + 1, m + 1, by omega, by omega, rfl, rfl, by go_num, by go_num, hA⟩
                case measure => simp [intOf]; omega
          · have hshi : (xs.length : Int) - (k : Int) < 1 := by omega
            go_wp2
            go_ret2
            have e := hA1.none (seqs_short _ _ (by simp; omega))
            exact ⟨ret_pair e.1.symm e.2.symm, rfl⟩
        · have HQ : Hid (Qxb6609467a.lead x = 1) := q3
          clear q3
          have hA1 : At xs (m + 1) (2 - 1) (k + 1) := by
            have := ht.lead hlt (by rw [← HX.out, HQ.out]; decide)
            rw [← HX.out, HQ.out] at this
            exact this
          by_cases hsh : k + 2 ≤ xs.length
          · have hshi : ¬ (xs.length : Int) - (k : Int) < 2 := by omega
            go_wp2
            go_loop [2, 3, 8] (fun r s jv => ∃ j : Nat, 1 ≤ j ∧ j ≤ 2 ∧ r = .int .i64 0 ∧ s = .bool false ∧ jv = .int .i64 j ∧ At xs (m + 1) (2 - j) (k + j)) (fun _ _ jv => 2 - (intOf jv).toNat)
            case atStart => exact ⟨1, Nat.le_refl _, by omega, rfl, rfl, rfl, hA1⟩
            case round =>
              obtain ⟨j, hj1, hj2, rfl, rfl, rfl, hA⟩ := hrel
              by_cases hjw : j < 2
              · obtain ⟨y, hy⟩ : ∃ y, y = xs.getD (k + j) 0 := ⟨_, rfl⟩
                have c2 : w.cell? ⟨b, off + (k + j), none⟩ = some (.int .u8 y) := by rw [hy]; exact HC.out (k + j) (by omega)
                have HY : Hid (y = xs.getD (k + j) 0) := hy
                have hyb := HB.out (k + j)
                rw [← hy] at hyb
                have k1 := and192 y hyb.1 hyb.2
                have b3 : (k : Int) + (j : Int) < (xs.length : Int) := by omega
                clear hy
                by_cases hcont : 128 ≤ y ∧ y < 192
                · have hB : (bits .and .u8 y 192 != 128) = false := by simp [k1, hcont]
                  have HCO : Hid (128 ≤ y ∧ y < 192) := hcont
                  clear k1 hcont
                  go_wp2
                  go_round
                  case rel =>
                    refine ⟨j + 1, by omega, by omega, rfl, rfl, by go_num, ?_⟩
                    have e1 : 2 - j = (2 - (j + 1)) + 1 := by omega
                    rw [e1] at hA
                    exact hA.cont (by omega) (by rw [← HY.out]; simp [Qxb6609467a.cont, HCO.out])
                  case measure => simp [intOf]; omega
                · have hB : (bits .and .u8 y 192 != 128) = true := by simp [k1]; omega
                  have HCO : Hid (¬ (128 ≤ y ∧ y < 192)) := hcont
                  clear k1 hcont
                  go_wp2
                  go_ret2
                  have e1 : 2 - j = (2 - (j + 1)) + 1 := by omega
                  rw [e1] at hA
                  have e := hA.none (seqs_nocont xs _ (k + j) (by omega) (by rw [← HY.out]; have := HCO.out; simp [Qxb6609467a.cont]; omega))
                  exact ⟨ret_pair e.1.symm e.2.symm, rfl⟩
              · have hj : j = 2 := by omega
                subst hj
                go_wp2
                go_round
                case rel => exact ⟨k + 2, m + 1, by omega, by omega, rfl, rfl, by go_num, by go_num, hA⟩
                case measure => simp [intOf]; omega
          · have hshi : (xs.length : Int) - (k : Int) < 2 := by omega
            go_wp2
            go_ret2
            have e := hA1.none (seqs_short _ _ (by simp; omega))
            exact ⟨ret_pair e.1.symm e.2.symm, rfl⟩
        · have HQ : Hid (Qxb6609467a.lead x = 2) := q4
          clear q4
          have hA1 : At xs (m + 1) (3 - 1) (k + 1) := by
            have := ht.lead hlt (by rw [← HX.out, HQ.out]; decide)
            rw [← HX.out, HQ.out] at this
            exact this
          by_cases hsh : k + 3 ≤ xs.length
          · have hshi : ¬ (xs.length : Int) - (k : Int) < 3 := by omega
            go_wp2
            go_loop [2, 3, 8] (fun r s jv => ∃ j : Nat, 1 ≤ j ∧ j ≤ 3 ∧ r = .int .i64 0 ∧ s = .bool false ∧ jv = .int .i64 j ∧ At xs (m + 1) (3 - j) (k + j)) (fun _ _ jv => 3 - (intOf jv).toNat)
            case atStart => exact ⟨1, Nat.le_refl _, by omega, rfl, rfl, rfl, hA1⟩
            case round =>
              obtain ⟨j, hj1, hj2, rfl, rfl, rfl, hA⟩ := hrel
              by_cases hjw : j < 3
              · obtain ⟨y, hy⟩ : ∃ y, y = xs.getD (k + j) 0 := ⟨_, rfl⟩
                have c2 : w.cell? ⟨b, off + (k + j), none⟩ = some (.int .u8 y) := by rw [hy]; exact HC.out (k + j) (by omega)
                have HY : Hid (y = xs.getD (k + j) 0) := hy
                have hyb := HB.out (k + j)
                rw [← hy] at hyb
                have k1 := and192 y hyb.1 hyb.2
                have b3 : (k : Int) + (j : Int) < (xs.length : Int) := by omega
                clear hy
                by_cases hcont : 128 ≤ y ∧ y < 192
                · have hB : (bits .and .u8 y 192 != 128) = false := by simp [k1, hcont]
                  have HCO : Hid (128 ≤ y ∧ y < 192) := hcont
                  clear k1 hcont
                  go_wp2
                  go_round
                  case rel =>
                    refine ⟨j + 1, by omega, by omega, rfl, rfl, by go_num, ?_⟩
                    have e1 : 3 - j = (3 - (j + 1)) + 1 := by omega
                    rw [e1] at hA
                    exact hA.cont (by omega) (by rw [← HY.out]; simp [Qxb6609467a.cont, HCO.out])
                  case measure => simp [intOf]; omega
                · have hB : (bits .and .u8 y 192 != 128) = true := by simp [k1]; omega
                  have HCO : Hid (¬ (128 ≤ y ∧ y < 192)) := hcont
                  clear k1 hcont
                  go_wp2
                  go_ret2
                  have e1 : 3 - j = (3 - (j + 1)) + 1 := by omega
                  rw [e1] at hA
                  have e := hA.none (seqs_nocont xs _ (k + j) (by omega) (by rw [← HY.out]; have := HCO.out; simp [Qxb6609467a.cont]; omega))
                  exact ⟨ret_pair e.1.symm e.2.symm, rfl⟩
              · have hj : j = 3 := by omega
                subst hj
                go_wp2
                go_round
                case rel => exact ⟨k + 3, m + 1, by omega, by omega, rfl, rfl, by go_num, by go_num, hA⟩
                case measure => simp [intOf]; omega
          · have hshi : (xs.length : Int) - (k : Int) < 3 := by omega
            go_wp2
            go_ret2
            have e := hA1.none (seqs_short _ _ (by simp; omega))
            exact ⟨ret_pair e.1.symm e.2.symm, rfl⟩
        · have HQ : Hid (Qxb6609467a.lead x = 3) := q5
          clear q5
          have hA1 : At xs (m + 1) (4 - 1) (k + 1) := by
            have := ht.lead hlt (by rw [← HX.out, HQ.out]; decide)
            rw [← HX.out, HQ.out] at this
            exact this
          by_cases hsh : k + 4 ≤ xs.length
          · have hshi : ¬ (xs.length : Int) - (k : Int) < 4 := by omega
            go_wp2
            go_loop [2, 3, 8] (fun r s jv => ∃ j : Nat, 1 ≤ j ∧ j ≤ 4 ∧ r = .int .i64 0 ∧ s = .bool false ∧ jv = .int .i64 j ∧ At xs (m + 1) (4 - j) (k + j)) (fun _ _ jv => 4 - (intOf jv).toNat)
            case atStart => exact ⟨1, Nat.le_refl _, by omega, rfl, rfl, rfl, hA1⟩
            case round =>
              obtain ⟨j, hj1, hj2, rfl, rfl, rfl, hA⟩ := hrel
              by_cases hjw : j < 4
              · obtain ⟨y, hy⟩ : ∃ y, y = xs.getD (k + j) 0 := ⟨_, rfl⟩
                have c2 : w.cell? ⟨b, off + (k + j), none⟩ = some (.int .u8 y) := by rw [hy]; exact HC.out (k + j) (by omega)
                have HY : Hid (y = xs.getD (k + j) 0) := hy
                have hyb := HB.out (k + j)
                rw [← hy] at hyb
                have k1 := and192 y hyb.1 hyb.2
                have b3 : (k : Int) + (j : Int) < (xs.length : Int) := by omega
                clear hy
                by_cases hcont : 128 ≤ y ∧ y < 192
                · have hB : (bits .and .u8 y 192 != 128) = false := by simp [k1, hcont]
                  have HCO : Hid (128 ≤ y ∧ y < 192) := hcont
                  clear k1 hcont
                  go_wp2
                  go_round
                  case rel =>
                    refine ⟨j + 1, by omega, by omega, rfl, rfl, by go_num, ?_⟩
                    have e1 : 4 - j = (4 - (j + 1)) + 1 := by omega
                    rw [e1] at hA
                    exact hA.cont (by omega) (by rw [← HY.out]; simp [Qxb6609467a.cont, HCO.out])
                  case measure => simp [intOf]; omega
                · have hB : (bits .and .u8 y 192 != 128) = true := by simp [k1]; omega
                  have HCO : Hid (¬ (128 ≤ y ∧ y < 192)) := hcont
                  clear k1 hcont
                  go_wp2
                  go_ret2
                  have e1 : 4 - j = (4 - (j + 1)) + 1 := by omega
                  rw [e1] at hA
                  have e := hA.none (seqs_nocont xs _ (k + j) (by omega) (by rw [← HY.out]; have := HCO.out; simp [Qxb6609467a.cont]; omega))
                  exact ⟨ret_pair e.1.symm e.2.symm, rfl⟩
              · have hj : j = 4 := by omega
                subst hj
                go_wp2
                go_round
                case rel => exact ⟨k + 4, m + 1, by omega, by omega, rfl, rfl, by go_num, by go_num, hA⟩
                case measure => simp [intOf]; omega
          · have hshi : (xs.length : Int) - (k : Int) < 4 := by omega
            go_wp2
            go_ret2
            have e := hA1.none (seqs_short _ _ (by simp; omega))
            exact ⟨ret_pair e.1.symm e.2.symm, rfl⟩
        · have HQ : Hid (Qxb6609467a.lead x = 9) := q5
          clear q5
          go_wp2
          go_ret2
          have e := ht.none (seqs_bad xs k hlt (by rw [← HX.out]; exact HQ.out))
          exact ⟨ret_pair e.1.symm e.2.symm, rfl⟩
      · go_wp2
        go_ret2
        have e := ht.fin (by omega)
        exact ⟨ret_pair e.1.symm e.2.symm, rfl⟩
  · obtain rfl : xs = [] := List.eq_nil_of_length_eq_zero (by omega)
    clear h
    go_enter Try.func8, Try.ntmps8
    go_wp2
    refine wp_loop_rounds 1 ?_
    rw [rounds_succ]
    go_wp2
    go_ret2
    exact ⟨ret_pair (by simp [cnt, seqs]) (by simp [okB, seqs]), rfl⟩
end Go.Proofs.Qxb6609467a

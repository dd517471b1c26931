/-
  SEAT b6609368a: slices of ExpiryEntry, and the contracts of the functions that read them: zzBytes.. (15, 22), zzEntriesBytes (16), zzEntriesReachable (17); zzPassed (21), zzFirstExpiredNs (23).
-/
import Derived.Test.Qxb6609368aBytes
namespace Go.Proofs.Qxb6609368a
open Go.RowKit

def eK (es : List (ByteArray × Int)) (i : Nat) : ByteArray := (es.getD i (ByteArray.empty, 0)).1
def eT (es : List (ByteArray × Int)) (i : Nat) : Int := (es.getD i (ByteArray.empty, 0)).2

/-- A slice of entries at address 'a' whose elements are 'es'. -/
def ERow (w : World) (a : Option Addr) (es : List (ByteArray × Int)) : Prop :=
  0 < es.length → ∃ b off, a = some ⟨b, off, none⟩ ∧ ∀ i, i < es.length → w.cell? ⟨b, off + i * 2, none⟩ = some (.string (eK es i)) ∧ w.cell? ⟨b, off + i * 2 + 1, none⟩ = some (.int .i64 (eT es i))

set_option maxHeartbeats 1000000 in
theorem entriesBytes (a : Option Addr) (n c : Nat) (es : List (ByteArray × Int)) (hn : n = es.length) (w : World) (h : ERow w a es) (hl : es.length ≤ 1048576) (hk : ∀ i, (eK es i).size ≤ maxLen) :
    Calls Try.prog 16 #[.slice a n c] w fun e w' => (∃ v, e = .returned (.int .i64 v)) ∧ w' = w := by
  subst hn
  by_cases h0 : 0 < es.length
  · obtain ⟨b, off, rfl, hc⟩ := h h0
    have HC : Hid (∀ i, i < es.length → w.cell? ⟨b, off + i * 2, none⟩ = some (.string (eK es i)) ∧ w.cell? ⟨b, off + i * 2 + 1, none⟩ = some (.int .i64 (eT es i))) := hc
    have HK : Hid (∀ i, (eK es i).size ≤ maxLen) := hk
    clear h hc hk
    go_enter Try.func16, Try.ntmps16
    go_wp2
    go_loop [3, 4] (fun t i => ∃ (k : Nat) (v : Int), k ≤ es.length ∧ i = .int .i64 k ∧ t = .int .i64 v) (fun _ i => es.length - (intOf i).toNat)
    case atStart => exact ⟨0, _, Nat.zero_le _, rfl, rfl⟩
    case round =>
      obtain ⟨k, v, hk, rfl, rfl⟩ := hrel
      by_cases hlt : k < es.length
      · have hks := HK.out k
        generalize hs : eK es k = s at hks
        have c1 : w.cell? ⟨b, off + k * 2, none⟩ = some (.string s) := by rw [← hs]; exact (HC.out k hlt).1
        have b2 : (k : Int) < (es.length : Int) := by omega
        clear hs
        unfold maxLen at hks
        go_wp2
        go_round
        case rel => exact ⟨k + 1, _, by omega, by go_num, rfl⟩
        case measure => simp [intOf]; omega
      · go_wp2
        go_ret
        exact ⟨⟨v, rfl⟩, rfl⟩
  · obtain rfl : es = [] := List.eq_nil_of_length_eq_zero (by omega)
    clear h
    go_enter Try.func16, Try.ntmps16
    go_wp2
    refine wp_loop_rounds 1 ?_
    rw [rounds_succ]
    go_wp2
    go_ret
    exact ⟨⟨_, rfl⟩, rfl⟩

/-- no two keys are the same -/
def Apart (es : List (ByteArray × Int)) : Prop := ∀ i j, i < j → j < es.length → ¬ eK es i = eK es j

/-- the answer is some bool; where it is true P holds -/
def Says (P : Prop) (e : Ending) : Prop := ∃ b, e = .returned (.bool b) ∧ (b = true → P)
theorem says_no {P : Prop} : Says P (.returned (.bool false)) := ⟨false, rfl, fun h => by cases h⟩
theorem says_yes {P : Prop} (h : P) : Says P (.returned (.bool true)) := ⟨true, rfl, fun _ => h⟩

theorem toList_ne {s t : ByteArray} (h : (s.toList == t.toList) = false) : ¬ s = t := by
  intro e
  subst e
  simp at h

set_option maxHeartbeats 4000000 in
set_option maxRecDepth 100000 in
theorem reachable (a : Option Addr) (n c : Nat) (es : List (ByteArray × Int)) (hn : n = es.length) (w : World) (h : ERow w a es) (hl : es.length ≤ 1048576) :
    Calls Try.prog 17 #[.slice a n c] w fun e w' => Says (Apart es) e ∧ ∃ n, w' = w.drewN n := by
  subst hn
  by_cases h0 : 0 < es.length
  · obtain ⟨b, off, rfl, hc⟩ := h h0
    have HC : Hid (∀ i, i < es.length → w.cell? ⟨b, off + i * 2, none⟩ = some (.string (eK es i)) ∧ w.cell? ⟨b, off + i * 2 + 1, none⟩ = some (.int .i64 (eT es i))) := hc
    clear h hc
    go_enter Try.func17, Try.ntmps17
    go_wp2
    go_loopw [2, 3] (fun r i wr => ∃ k : Nat, 1 ≤ k ∧ r = .bool false ∧ i = .int .i64 k ∧ k ≤ 1048576 ∧ ∃ n, wr = w.drewN n) (fun _ i _ => es.length - (intOf i).toNat)
    case atStart => exact ⟨1, Nat.le_refl _, rfl, rfl, by omega, 0, rfl⟩
    case round =>
      obtain ⟨k, hk1, rfl, rfl, hkb, n1, rfl⟩ := hrel
      by_cases hlt : k < es.length
      · obtain ⟨p, hp⟩ : ∃ p, p = (k - 1) / 2 := ⟨_, rfl⟩
        have hpk : p < es.length := by omega
        obtain ⟨x, hx⟩ : ∃ x, x = eT es p := ⟨_, rfl⟩
        obtain ⟨y, hy⟩ : ∃ y, y = eT es k := ⟨_, rfl⟩
        have c1 : w.cell? ⟨b, off + (k - 1) / 2 * 2 + 1, none⟩ = some (.int .i64 x) := by rw [hx, ← hp]; exact (HC.out p hpk).2
        have c2 : w.cell? ⟨b, off + k * 2 + 1, none⟩ = some (.int .i64 y) := by rw [hy]; exact (HC.out k hlt).2
        have b2 : (k : Int) < (es.length : Int) := by omega
        have b3 : ((k : Int) - 1) / 2 < (es.length : Int) := by omega
        have b4 : 0 ≤ ((k : Int) - 1) / 2 := by omega
        clear hx hy hp
        by_cases hxy : y < x
        · go_wp2
          go_quiet (fail)
          go_wp2
          go_ret
          exact ⟨says_no, n1 + nq, by simp⟩
        · go_wp2
          go_quiet (fail)
          go_wp2
          go_roundw
          case rel => exact ⟨k + 1, by omega, rfl, by go_num, by omega, n1 + nq, by simp⟩
          case measure => simp [intOf]; omega
      · have hlt' : ¬ (k : Int) < (es.length : Int) := by omega
        go_wp2
        clear hlt hlt' hk1 hkb
        go_loopw [2, 4, 5] (fun r i _ wr => ∃ k : Nat, k ≤ es.length ∧ r = .bool false ∧ i = .int .i64 k ∧ Hid (∀ i j, i < k → i < j → j < es.length → ¬ eK es i = eK es j) ∧ ∃ n, wr = w.drewN n) (fun _ i _ _ => es.length - (intOf i).toNat)
        case atStart => exact ⟨0, Nat.zero_le _, rfl, rfl, fun i j hi => by omega, n1, rfl⟩
        case round =>
          obtain ⟨k, hk, rfl, rfl, hA, n2, rfl⟩ := hrel
          by_cases hlt : k < es.length
          · have b2 : (k : Int) < (es.length : Int) := by omega
            obtain ⟨s, hs⟩ : ∃ s, s = eK es k := ⟨_, rfl⟩
            have c1 : w.cell? ⟨b, off + k * 2, none⟩ = some (.string s) := by rw [hs]; exact (HC.out k hlt).1
            have HS : Hid (s = eK es k) := hs
            clear hs
            go_wp2
            go_loopw [2, 5] (fun r i wr => ∃ m : Nat, k + 1 ≤ m ∧ m ≤ es.length ∧ r = .bool false ∧ i = .int .i64 m ∧ Hid (∀ j, k < j → j < m → ¬ eK es k = eK es j) ∧ ∃ n, wr = w.drewN n) (fun _ i _ => es.length - (intOf i).toNat)
            case atStart => exact ⟨k + 1, Nat.le_refl _, hlt, rfl, by go_num, fun j h1 h2 => by omega, n2, rfl⟩
            case round =>
              obtain ⟨m, hm1, hm2, rfl, rfl, hB, n3, rfl⟩ := hrel
              by_cases hml : m < es.length
              · have b3 : (m : Int) < (es.length : Int) := by omega
                obtain ⟨t, ht⟩ : ∃ t, t = eK es m := ⟨_, rfl⟩
                have c2 : w.cell? ⟨b, off + m * 2, none⟩ = some (.string t) := by rw [ht]; exact (HC.out m hml).1
                have HT : Hid (t = eK es m) := ht
                clear ht
                cases hst : (s.toList == t.toList) with
                | true =>
                  go_wp2
                  go_quiet (fail)
                  go_wp2
                  go_ret
                  exact ⟨says_no, n3 + nq, by simp⟩
                | false =>
                  have HN : Hid (¬ s = t) := toList_ne hst
                  go_wp2
                  go_quiet (fail)
                  go_wp2
                  go_roundw
                  case rel =>
                    refine ⟨m + 1, by omega, by omega, rfl, by go_num, fun j h1 h2 => ?_, n3 + nq, by simp⟩
                    by_cases e : j = m
                    · rw [e, ← HS.out, ← HT.out]; exact HN.out
                    · exact hB.out j h1 (by omega)
                  case measure => simp [intOf]; omega
              · have hml' : ¬ (m : Int) < (es.length : Int) := by omega
                go_wp2
                go_roundw
                case rel =>
                  refine ⟨k + 1, by omega, rfl, by go_num, fun i j h1 h2 h3 => ?_, n3, rfl⟩
                  by_cases e : i = k
                  · rw [e]; exact hB.out j (by omega) (by omega)
                  · exact hA.out i j (by omega) h2 h3
                case measure => simp [intOf]; omega
          · have hlt' : ¬ (k : Int) < (es.length : Int) := by omega
            go_wp2
            go_ret
            exact ⟨says_yes fun i j h1 h2 => hA.out i j (by omega) h1 h2, n2, rfl⟩
  · obtain rfl : es = [] := List.eq_nil_of_length_eq_zero (by omega)
    clear h
    go_enter Try.func17, Try.ntmps17
    go_wp2
    refine wp_loop_rounds 1 ?_
    rw [rounds_succ]
    go_wp2
    refine wp_loop_rounds 1 ?_
    rw [rounds_succ]
    go_wp2
    go_ret
    exact ⟨says_yes fun i j _ hj => by simp at hj, 0, rfl⟩

/-! ### the two tests on lengths -/
/-- what the tests on lengths tell -/
def Small (es : List (ByteArray × Int)) (m : Nat) : Prop := es.length ≤ 1048576 ∧ m ≤ 1048576 ∧ ∀ i, i < es.length → (eK es i).size ≤ 1048576


set_option maxHeartbeats 4000000 in
set_option maxRecDepth 100000 in
theorem bytes15 (now : Int) (a a' : Option Addr) (n c m c' : Nat) (es : List (ByteArray × Int)) (hn : n = es.length) (w : World) (h : ERow w a es) (hl : es.length ≤ maxLen) (hm : m ≤ maxLen) (hk : ∀ i, (eK es i).size ≤ maxLen) :
    Calls Try.prog 15 #[.int .i64 now, .slice a n c, .slice a' m c'] w fun e w' => Says (Small es m) e ∧ w' = w := by
  subst hn
  unfold maxLen at hl hm hk
  by_cases hbig : es.length ≤ 1048576
  · by_cases h0 : 0 < es.length
    · obtain ⟨b, off, rfl, hc⟩ := h h0
      have HC : Hid (∀ i, i < es.length → w.cell? ⟨b, off + i * 2, none⟩ = some (.string (eK es i)) ∧ w.cell? ⟨b, off + i * 2 + 1, none⟩ = some (.int .i64 (eT es i))) := hc
      have HK : Hid (∀ i, (eK es i).size ≤ 2 ^ 63 - 1) := hk
      clear h hc hk
      go_enter Try.func15, Try.ntmps15
      go_wp2
      go_loop [6, 7, 8] (fun r t i => ∃ (k : Nat) (v : Int), k ≤ es.length ∧ r = .bool false ∧ i = .int .i64 k ∧ t = .int .i64 v ∧ 0 ≤ v ∧ v ≤ 1048576 ∧ Hid (∀ i, i < k → (eK es i).size ≤ 1048576)) (fun _ _ i => es.length - (intOf i).toNat)
      case atStart => exact ⟨0, _, Nat.zero_le _, rfl, rfl, rfl, by omega, by omega, fun i hi => by omega⟩
      case round =>
        obtain ⟨k, v, hk, rfl, rfl, rfl, hv0, hv1, hA⟩ := hrel
        by_cases hlt : k < es.length
        · have hks := HK.out k
          obtain ⟨s, hs⟩ : ∃ s, s = eK es k := ⟨_, rfl⟩
          rw [← hs] at hks
          have c1 : w.cell? ⟨b, off + k * 2, none⟩ = some (.string s) := by rw [hs]; exact (HC.out k hlt).1
          have HS : Hid (s = eK es k) := hs
          have b2 : (k : Int) < (es.length : Int) := by omega
          clear hs
          by_cases q1 : s.size ≤ 1048576
          · by_cases q2 : v + (s.size : Int) ≤ 1048576
            · go_wp2
              go_round
              case rel =>
                refine ⟨k + 1, _, by omega, rfl, by go_num, rfl, by omega, q2, fun i hi => ?_⟩
                by_cases e : i = k
                · rw [e, ← HS.out]; exact q1
                · exact hA.out i (by omega)
              case measure => simp [intOf]; omega
            · go_wp2
              go_ret
              exact ⟨says_no, rfl⟩
          · go_wp2
            go_ret
            exact ⟨says_no, rfl⟩
        · have hlt' : ¬ (k : Int) < (es.length : Int) := by omega
          by_cases q1 : m ≤ 1048576
          · by_cases q2 : v + (m : Int) ≤ 1048576
            · go_wp2
              go_ret
              exact ⟨says_yes ⟨hbig, q1, fun i hi => hA.out i (by omega)⟩, rfl⟩
            · go_wp2
              go_ret
              exact ⟨says_no, rfl⟩
          · go_wp2
            go_ret
            exact ⟨says_no, rfl⟩
    · obtain rfl : es = [] := List.eq_nil_of_length_eq_zero (by omega)
      clear h hk
      by_cases q1 : m ≤ 1048576
      · go_enter Try.func15, Try.ntmps15
        go_wp2
        refine wp_loop_rounds 1 ?_
        rw [rounds_succ]
        go_wp2
        go_ret
        exact ⟨says_yes ⟨by simp, q1, fun i hi => by simp at hi⟩, rfl⟩
      · go_enter Try.func15, Try.ntmps15
        go_wp2
        refine wp_loop_rounds 1 ?_
        rw [rounds_succ]
        go_wp2
        go_ret
        exact ⟨says_no, rfl⟩
  · clear h hk
    go_enter Try.func15, Try.ntmps15
    go_wp2
    go_ret
    exact ⟨says_no, rfl⟩

set_option maxHeartbeats 4000000 in
set_option maxRecDepth 100000 in
theorem bytes22 (now now' : Int) (a : Option Addr) (n c : Nat) (j : Int) (es : List (ByteArray × Int)) (hn : n = es.length) (w : World) (h : ERow w a es) (hl : es.length ≤ maxLen) (hk : ∀ i, (eK es i).size ≤ maxLen) :
    Calls Try.prog 22 #[.int .i64 now, .int .i64 now', .slice a n c, .int .i64 j] w fun e w' => Says (Small es 0) e ∧ w' = w := by
  subst hn
  unfold maxLen at hl hk
  by_cases hbig : es.length ≤ 1048576
  · by_cases h0 : 0 < es.length
    · obtain ⟨b, off, rfl, hc⟩ := h h0
      have HC : Hid (∀ i, i < es.length → w.cell? ⟨b, off + i * 2, none⟩ = some (.string (eK es i)) ∧ w.cell? ⟨b, off + i * 2 + 1, none⟩ = some (.int .i64 (eT es i))) := hc
      have HK : Hid (∀ i, (eK es i).size ≤ 2 ^ 63 - 1) := hk
      clear h hc hk
      go_enter Try.func22, Try.ntmps22
      go_wp2
      go_loop [8, 9, 10] (fun r t i => ∃ (k : Nat) (v : Int), k ≤ es.length ∧ r = .bool false ∧ i = .int .i64 k ∧ t = .int .i64 v ∧ 0 ≤ v ∧ v ≤ 1048576 ∧ Hid (∀ i, i < k → (eK es i).size ≤ 1048576)) (fun _ _ i => es.length - (intOf i).toNat)
      case atStart => exact ⟨0, _, Nat.zero_le _, rfl, rfl, rfl, by omega, by omega, fun i hi => by omega⟩
      case round =>
        obtain ⟨k, v, hk, rfl, rfl, rfl, hv0, hv1, hA⟩ := hrel
        by_cases hlt : k < es.length
        · have hks := HK.out k
          obtain ⟨s, hs⟩ : ∃ s, s = eK es k := ⟨_, rfl⟩
          rw [← hs] at hks
          have c1 : w.cell? ⟨b, off + k * 2, none⟩ = some (.string s) := by rw [hs]; exact (HC.out k hlt).1
          have HS : Hid (s = eK es k) := hs
          have b2 : (k : Int) < (es.length : Int) := by omega
          clear hs
          by_cases q1 : s.size ≤ 1048576
          · by_cases q2 : v + (s.size : Int) ≤ 1048576
            · go_wp2
              go_round
              case rel =>
                refine ⟨k + 1, _, by omega, rfl, by go_num, rfl, by omega, q2, fun i hi => ?_⟩
                by_cases e : i = k
                · rw [e, ← HS.out]; exact q1
                · exact hA.out i (by omega)
              case measure => simp [intOf]; omega
            · go_wp2
              go_ret
              exact ⟨says_no, rfl⟩
          · go_wp2
            go_ret
            exact ⟨says_no, rfl⟩
        · have hlt' : ¬ (k : Int) < (es.length : Int) := by omega
          go_wp2
          go_ret
          exact ⟨says_yes ⟨hbig, Nat.zero_le _, fun i hi => hA.out i (by omega)⟩, rfl⟩
    · obtain rfl : es = [] := List.eq_nil_of_length_eq_zero (by omega)
      clear h hk
      go_enter Try.func22, Try.ntmps22
      go_wp2
      refine wp_loop_rounds 1 ?_
      rw [rounds_succ]
      go_wp2
      go_ret
      exact ⟨says_yes ⟨by simp, Nat.zero_le _, fun i hi => by simp at hi⟩, rfl⟩
  · clear h hk
    go_enter Try.func22, Try.ntmps22
    go_wp2
    go_ret
    exact ⟨says_no, rfl⟩
end Go.Proofs.Qxb6609368a

/-
  SEAT b6609368a: rows of bytes, and the contracts of the functions that read them: zzBytesEqual (27), zzSameText (20).
-/
import Derived.Test.Qxb6609368aProg
import Derived.WalkKit
import Derived.BigQuiet
import Derived.Deep.QuietTactic
import Derived.Deep.Draws
import Derived.KernelRfl
namespace Go.Proofs.Qxb6609368a
open Go.RowKit

/-- A slice of bytes at address 'a' whose elements are 'xs' (its length is xs.length). -/
def Row (w : World) (a : Option Addr) (xs : List Int) : Prop :=
  0 < xs.length → ∃ b off, a = some ⟨b, off, none⟩ ∧ ∀ i, i < xs.length → w.cell? ⟨b, off + i, none⟩ = some (.int .u8 (xs.getD i 0))

theorem Row.drewN {w : World} {a : Option Addr} {xs : List Int} (h : Row w a xs) (n : Nat) : Row (w.drewN n) a xs := h

theorem ret_bool {a b : Bool} (h : a = b) : Ending.returned (.bool a) = .returned (.bool b) := by rw [h]
theorem ret_int {k : IntKind} {a b : Int} (h : a = b) : Ending.returned (.int k a) = .returned (.int k b) := by rw [h]

/-- two lists are one -/
def eqB (xs ys : List Int) : Bool := decide (xs = ys)
theorem eqB_yes {xs ys : List Int} (h : xs = ys) : eqB xs ys = true := by simp [eqB, h]
theorem eqB_no {xs ys : List Int} (h : ¬ xs = ys) : eqB xs ys = false := by simp [eqB, h]

theorem take_step {xs ys : List Int} {k : Nat} (h1 : k < xs.length) (h2 : k < ys.length) (h : xs.take k = ys.take k) (hk : xs.getD k 0 = ys.getD k 0) : xs.take (k + 1) = ys.take (k + 1) := by
  rw [List.take_succ_eq_append_getElem h1, List.take_succ_eq_append_getElem h2, h]
  congr 2
  simpa [List.getD, h1, h2] using hk

theorem take_all {xs ys : List Int} {k : Nat} (h1 : xs.length ≤ k) (h2 : ys.length ≤ k) (h : xs.take k = ys.take k) : xs = ys := by
  rwa [List.take_of_length_le h1, List.take_of_length_le h2] at h

set_option maxHeartbeats 1000000 in
theorem bytesEqual (a a' : Option Addr) (c c' : Nat) (xs ys : List Int) (w : World) (h : Row w a xs) (h' : Row w a' ys) (hl : xs.length ≤ 4611686018427387904) (hl' : ys.length ≤ 4611686018427387904) :
    Calls Try.prog 27 #[.slice a xs.length c, .slice a' ys.length c'] w fun e w' => e = .returned (.bool (eqB xs ys)) ∧ ∃ n, w' = w.drewN n := by
  by_cases hne : xs.length = ys.length
  · have hb : ((xs.length : Int) != (ys.length : Int)) = false := by simp; omega
    by_cases h0 : 0 < xs.length
    · obtain ⟨b, off, rfl, hc⟩ := h h0
      obtain ⟨b', off', rfl, hc'⟩ := h' (by omega)
      have HN : Hid (xs.length = ys.length) := hne
      have HC : Hid (∀ i, i < xs.length → w.cell? ⟨b, off + i, none⟩ = some (.int .u8 (xs.getD i 0))) := hc
      have HC' : Hid (∀ i, i < ys.length → w.cell? ⟨b', off' + i, none⟩ = some (.int .u8 (ys.getD i 0))) := hc'
      clear hne h h' hc hc'
      go_enter Try.func27, Try.ntmps27
      go_wp2
      go_loopw [5] (fun i wr => ∃ k : Nat, k ≤ xs.length ∧ i = .int .i64 k ∧ Hid (xs.take k = ys.take k) ∧ ∃ n, wr = w.drewN n) (fun i _ => xs.length - (intOf i).toNat)
      case atStart => exact ⟨0, Nat.zero_le _, rfl, rfl, 0, rfl⟩
      case round =>
        obtain ⟨k, hk, rfl, ht, n, rfl⟩ := hrel
        by_cases hlt : k < xs.length
        · obtain ⟨x, hx⟩ : ∃ x, x = xs.getD k 0 := ⟨_, rfl⟩
          obtain ⟨y, hy⟩ : ∃ y, y = ys.getD k 0 := ⟨_, rfl⟩
          have c1 : w.cell? ⟨b, off + k, none⟩ = some (.int .u8 x) := by rw [hx]; exact HC.out k hlt
          have c2 : w.cell? ⟨b', off' + k, none⟩ = some (.int .u8 y) := by rw [hy]; exact HC'.out k (by have := HN.out; omega)
          have HX : Hid (x = xs.getD k 0) := hx
          have HY : Hid (y = ys.getD k 0) := hy
          have b1 : (k : Int) < (ys.length : Int) := by have := HN.out; omega
          have b2 : (k : Int) < (xs.length : Int) := by omega
          clear hx hy
          by_cases hxy : x = y
          · have hB : (x != y) = false := by simp [hxy]
            have HXY : Hid (x = y) := hxy
            clear hxy
            go_wp2
            go_quiet (fail)
            go_wp2
            go_roundw
            case rel =>
              refine ⟨k + 1, by omega, by go_num, ?_, _, rfl⟩
              exact take_step hlt (by have := HN.out; omega) ht.out (by rw [← HX.out, ← HY.out]; exact HXY.out)
            case measure => simp [intOf]; omega
          · have hB : (x != y) = true := by simp [hxy]
            go_wp2
            go_quiet (fail)
            go_wp2
            go_ret
            refine ⟨ret_bool (eqB_no ?_).symm, n + nq, by simp⟩
            intro e
            exact hxy (by rw [HX.out, HY.out, e])
        · go_wp2
          go_ret
          exact ⟨ret_bool (eqB_yes (take_all (by omega) (by have := HN.out; omega) ht.out)).symm, n, rfl⟩
    · obtain rfl : xs = [] := List.eq_nil_of_length_eq_zero (by omega)
      obtain rfl : ys = [] := List.eq_nil_of_length_eq_zero (by simpa using hne.symm)
      clear h h' hne
      go_enter Try.func27, Try.ntmps27
      go_wp2
      refine wp_loop_rounds 1 ?_
      rw [rounds_succ]
      go_wp2
      go_ret
      exact ⟨ret_bool (eqB_yes rfl).symm, 0, rfl⟩
  · have hb : ((xs.length : Int) != (ys.length : Int)) = true := by simp; omega
    clear h h'
    go_enter Try.func27, Try.ntmps27
    go_wp2
    go_ret
    exact ⟨ret_bool (eqB_no (fun e => hne (by rw [e]))).symm, 0, rfl⟩

/-- the bytes of a string -/
def sb (s : ByteArray) : List Int := s.data.toList.map fun c => (c.toNat : Int)
theorem sb_length (s : ByteArray) : (sb s).length = s.size := by simp [sb]
theorem sb_getD (s : ByteArray) (k : Nat) (h : k < s.size) : (sb s).getD k 0 = ((s[k]).toNat : Int) := by
  have h' : k < s.data.size := h
  have e : s.data[k]? = some s.data[k] := Array.getElem?_eq_getElem h'
  simp only [sb, List.getD, List.getElem?_map, Array.getElem?_toList, e]
  rfl

set_option maxHeartbeats 1000000 in
theorem sameText (s : ByteArray) (a' : Option Addr) (c' : Nat) (ys : List Int) (w : World) (h' : Row w a' ys) (hl : s.size ≤ 4611686018427387904) (hl' : ys.length ≤ 4611686018427387904) :
    Calls Try.prog 20 #[.string s, .slice a' ys.length c'] w fun e w' => e = .returned (.bool (eqB (sb s) ys)) ∧ ∃ n, w' = w.drewN n := by
  have hsl := sb_length s
  by_cases hne : s.size = ys.length
  · have hb : ((s.size : Int) != (ys.length : Int)) = false := by simp; omega
    by_cases h0 : 0 < ys.length
    · obtain ⟨b', off', rfl, hc'⟩ := h' (by omega)
      have HN : Hid (s.size = ys.length) := hne
      have HS : Hid ((sb s).length = s.size) := hsl
      have HC' : Hid (∀ i, i < ys.length → w.cell? ⟨b', off' + i, none⟩ = some (.int .u8 (ys.getD i 0))) := hc'
      clear hne h' hc' hsl
      go_enter Try.func20, Try.ntmps20
      go_wp2
      go_loopw [5] (fun i wr => ∃ k : Nat, k ≤ ys.length ∧ i = .int .i64 k ∧ Hid ((sb s).take k = ys.take k) ∧ ∃ n, wr = w.drewN n) (fun i _ => ys.length - (intOf i).toNat)
      case atStart => exact ⟨0, Nat.zero_le _, rfl, rfl, 0, rfl⟩
      case round =>
        obtain ⟨k, hk, rfl, ht, n, rfl⟩ := hrel
        by_cases hlt : k < ys.length
        · have hks : k < s.size := by have := HN.out; omega
          obtain ⟨y, hy⟩ : ∃ y, y = ys.getD k 0 := ⟨_, rfl⟩
          have c2 : w.cell? ⟨b', off' + k, none⟩ = some (.int .u8 y) := by rw [hy]; exact HC'.out k hlt
          have HY : Hid (y = ys.getD k 0) := hy
          have b1 : (k : Int) < (ys.length : Int) := by omega
          have b2 : (k : Int) < (s.size : Int) := by omega
          clear hy
          by_cases hxy : ((s[k]).toNat : Int) = y
          · have hB : (((s[k]).toNat : Int) != y) = false := by simp [hxy]
            have HXY : Hid (((s[k]).toNat : Int) = y) := hxy
            clear hxy
            go_wp2
            go_quiet (fail)
            go_wp2
            go_roundw
            case rel =>
              refine ⟨k + 1, by omega, by go_num, ?_, n + nq, by simp⟩
              exact take_step (by rw [HS.out]; exact hks) hlt ht.out (by rw [← HY.out, sb_getD s k hks]; exact HXY.out)
            case measure => simp [intOf]; omega
          · have hB : (((s[k]).toNat : Int) != y) = true := by simp [hxy]
            go_wp2
            go_quiet (fail)
            go_wp2
            go_ret
            refine ⟨ret_bool (eqB_no ?_).symm, n + nq, by simp⟩
            intro e
            exact hxy (by rw [HY.out, ← e, sb_getD s k hks])
        · go_wp2
          go_ret
          exact ⟨ret_bool (eqB_yes (take_all (by rw [HS.out]; have := HN.out; omega) (by omega) ht.out)).symm, n, rfl⟩
    · obtain rfl : ys = [] := List.eq_nil_of_length_eq_zero (by omega)
      have h0s : s.size = 0 := by simpa using hne
      have hnil : sb s = [] := List.eq_nil_of_length_eq_zero (by omega)
      have HNI : Hid (sb s = []) := hnil
      clear h' hne hnil hsl
      go_enter Try.func20, Try.ntmps20
      go_wp2
      refine wp_loop_rounds 1 ?_
      rw [rounds_succ]
      go_wp2
      go_ret
      exact ⟨ret_bool (eqB_yes HNI.out).symm, 0, rfl⟩
  · have hb : ((s.size : Int) != (ys.length : Int)) = true := by simp; omega
    have HS : Hid ((sb s).length = s.size) := hsl
    clear h' hsl
    go_enter Try.func20, Try.ntmps20
    go_wp2
    go_ret
    exact ⟨ret_bool (eqB_no (fun e => hne (by rw [← HS.out, e]))).symm, 0, rfl⟩
end Go.Proofs.Qxb6609368a

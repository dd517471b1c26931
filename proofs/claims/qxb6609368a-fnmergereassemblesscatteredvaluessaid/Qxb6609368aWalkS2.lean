/-
  SEAT b6609368a: the walk of FnMergeReassemblesScatteredValues: the short ways, and all of them.
-/
import Derived.Test.Qxb6609368aWalkS
namespace Go.Proofs.Qxb6609368a
open Go.RowKit

set_option maxHeartbeats 4000000 in
set_option maxRecDepth 100000 in
theorem walkS_long (a0 a2 : Option Addr) (c0 c2 : Nat) (kind : Int) (ns : List Int) (ks : List (Int × Hd)) (w : World) (hargs : Args w a0 a2 ns ks) (hn : ns.length ≤ maxLen) (hN : ks.length ≤ maxLen) (hl : 4096 < ns.length ∨ 4096 < ks.length) :
    Calls Try.prog 3 #[.slice a0 ns.length c0, .int .u8 kind, .slice a2 ks.length c2] w fun e w' => e = .returned (.bool true) ∧ Below w.heap.size w w' := by
  have HA : Hid (Args w a0 a2 ns ks) := hargs
  clear hargs
  by_cases h1 : 4096 < ns.length
  · clear hl
    go_enter Try.func3, Try.ntmps3
    go_wp2_with fail
    refine (bytes8 a0 a2 ns.length c0 c2 kind ks w HA.out.keys HA.out.vals hN hn).mono ?_
    rintro e w' ⟨⟨q, rfl⟩, rfl⟩
    cases q with
    | false =>
      go_wp2_with fail
      go_ret
      exact ⟨rfl, Below.refl _ _⟩
    | true =>
      unfold maxLen at hn hN
      go_wp2_with fail
      go_ret
      exact ⟨rfl, Below.refl _ _⟩
  · have h2 : 4096 < ks.length := by omega
    clear hl
    go_enter Try.func3, Try.ntmps3
    go_wp2_with fail
    refine (bytes8 a0 a2 ns.length c0 c2 kind ks w HA.out.keys HA.out.vals hN hn).mono ?_
    rintro e w' ⟨⟨q, rfl⟩, rfl⟩
    cases q with
    | false =>
      go_wp2_with fail
      go_ret
      exact ⟨rfl, Below.refl _ _⟩
    | true =>
      unfold maxLen at hn hN
      go_wp2_with fail
      go_ret
      exact ⟨rfl, Below.refl _ _⟩

set_option maxHeartbeats 4000000 in
set_option maxRecDepth 100000 in
theorem walkS_none (a0 a2 : Option Addr) (c0 c2 : Nat) (kind : Int) (ks : List (Int × Hd)) (w : World) (hargs : Args w a0 a2 [] ks) (hN : ks.length ≤ 4096) :
    Calls Try.prog 3 #[.slice a0 0 c0, .int .u8 kind, .slice a2 ks.length c2] w fun e w' => e = .returned (.bool true) ∧ Below w.heap.size w w' := by
  have HA : Hid (Args w a0 a2 [] ks) := hargs
  clear hargs
  go_enter Try.func3, Try.ntmps3
  go_wp2_with fail
  refine (bytes8 a0 a2 0 c0 c2 kind ks w HA.out.keys HA.out.vals (by unfold maxLen; omega) (by unfold maxLen; omega)).mono ?_
  rintro e w' ⟨⟨q, rfl⟩, rfl⟩
  cases q with
  | false =>
    go_wp2_with fail
    go_ret
    exact ⟨rfl, Below.refl _ _⟩
  | true =>
    go_wp2_with fail
    refine (scatterBytes a0 a2 0 c0 c2 ks _ HA.out.keys HA.out.vals hN (by omega)).mono ?_
    rintro e w' ⟨⟨v, rfl⟩, rfl⟩
    by_cases hv : 1048576 < v
    · go_wp2_with fail
      go_ret
      exact ⟨rfl, Below.refl _ _⟩
    · go_wp2_with fail
      go_ret
      exact ⟨rfl, Below.refl _ _⟩

set_option maxHeartbeats 4000000 in
set_option maxRecDepth 100000 in
theorem walkS_kind (a0 a2 : Option Addr) (c0 c2 : Nat) (kind : Int) (ns : List Int) (ks : List (Int × Hd)) (w : World) (hargs : Args w a0 a2 ns ks) (hn0 : 0 < ns.length) (hn : ns.length ≤ 4096) (hN : ks.length ≤ 4096) (hk : kind < 1 ∨ 15 < kind) :
    Calls Try.prog 3 #[.slice a0 ns.length c0, .int .u8 kind, .slice a2 ks.length c2] w fun e w' => e = .returned (.bool true) ∧ Below w.heap.size w w' := by
  have HA : Hid (Args w a0 a2 ns ks) := hargs
  clear hargs
  by_cases h1 : kind < 1
  · clear hk
    go_enter Try.func3, Try.ntmps3
    go_wp2_with fail
    refine (bytes8 a0 a2 ns.length c0 c2 kind ks w HA.out.keys HA.out.vals (by unfold maxLen; omega) (by unfold maxLen; omega)).mono ?_
    rintro e w' ⟨⟨q, rfl⟩, rfl⟩
    cases q with
    | false =>
      go_wp2_with fail
      go_ret
      exact ⟨rfl, Below.refl _ _⟩
    | true =>
      go_wp2_with fail
      refine (scatterBytes a0 a2 ns.length c0 c2 ks _ HA.out.keys HA.out.vals hN hn).mono ?_
      rintro e w' ⟨⟨v, rfl⟩, rfl⟩
      by_cases hv : 1048576 < v
      · go_wp2_with fail
        go_ret
        exact ⟨rfl, Below.refl _ _⟩
      · go_wp2_with fail
        go_ret
        exact ⟨rfl, Below.refl _ _⟩
  · have h2 : 15 < kind := by omega
    clear hk
    go_enter Try.func3, Try.ntmps3
    go_wp2_with fail
    refine (bytes8 a0 a2 ns.length c0 c2 kind ks w HA.out.keys HA.out.vals (by unfold maxLen; omega) (by unfold maxLen; omega)).mono ?_
    rintro e w' ⟨⟨q, rfl⟩, rfl⟩
    cases q with
    | false =>
      go_wp2_with fail
      go_ret
      exact ⟨rfl, Below.refl _ _⟩
    | true =>
      go_wp2_with fail
      refine (scatterBytes a0 a2 ns.length c0 c2 ks _ HA.out.keys HA.out.vals hN hn).mono ?_
      rintro e w' ⟨⟨v, rfl⟩, rfl⟩
      by_cases hv : 1048576 < v
      · go_wp2_with fail
        go_ret
        exact ⟨rfl, Below.refl _ _⟩
      · go_wp2_with fail
        go_ret
        exact ⟨rfl, Below.refl _ _⟩

theorem walkS (a0 a2 : Option Addr) (c0 c2 : Nat) (kind : Int) (ns : List Int) (ks : List (Int × Hd)) (w : World) (hargs : Args w a0 a2 ns ks) (hn : ns.length ≤ maxLen) (hN : ks.length ≤ maxLen) :
    Calls Try.prog 3 #[.slice a0 ns.length c0, .int .u8 kind, .slice a2 ks.length c2] w fun e w' => e = .returned (.bool true) ∧ Below w.heap.size w w' := by
  by_cases h : 4096 < ns.length ∨ 4096 < ks.length
  · exact walkS_long a0 a2 c0 c2 kind ns ks w hargs hn hN h
  · by_cases h0 : ns.length = 0
    · obtain rfl : ns = [] := List.eq_nil_of_length_eq_zero h0
      exact walkS_none a0 a2 c0 c2 kind ks w hargs (by omega)
    · by_cases hk : kind < 1 ∨ 15 < kind
      · exact walkS_kind a0 a2 c0 c2 kind ns ks w hargs (by omega) (by omega) (by omega) hk
      · exact walkS_main a0 a2 c0 c2 kind ns ks w hargs (by omega) (by omega) (by omega) (by omega) (by omega)
end Go.Proofs.Qxb6609368a

/-
  SEAT b6609368a: the keys and their values (slices of slices of bytes) as rows, and the functions that only read them.
-/
import Derived.Test.Qxb6609368aEntries
import Derived.Lib.SliceRun
namespace Go.Proofs.Qxb6609368a
open Go.RowKit

/-- A slice's header. -/
structure Hd where
  a : Option Addr
  n : Nat
  c : Nat
instance : Inhabited Hd := ⟨⟨none, 0, 0⟩⟩
def Hd.v (h : Hd) : Value := .slice h.a h.n h.c

def kP (ks : List (Int × Hd)) (i : Nat) : Int := (ks.getD i default).1
def kV (ks : List (Int × Hd)) (i : Nat) : Hd := (ks.getD i default).2

/-- A slice of bytes. -/
def BRow (w : World) (h : Hd) : Prop := h.n ≤ maxLen ∧ (h.a = none → h.n = 0 ∧ h.c = 0) ∧ ∃ xs : List Int, h.n = xs.length ∧ Row w h.a xs
/-- A value: a slice of slices of bytes. -/
def VRow (w : World) (h : Hd) : Prop :=
  h.n ≤ maxLen ∧ (h.a = none → h.n = 0 ∧ h.c = 0) ∧ (0 < h.n → ∃ b off, h.a = some ⟨b, off, none⟩ ∧ ∀ j, j < h.n → ∃ u : Hd, w.cell? ⟨b, off + j, none⟩ = some (.slice u.a u.n u.c) ∧ BRow w u)
/-- The keys. -/
def KeyRow (w : World) (a : Option Addr) (ks : List (Int × Hd)) : Prop :=
  0 < ks.length → ∃ b off, a = some ⟨b, off, none⟩ ∧ ∀ i, i < ks.length → w.cell? ⟨b, off + i * 2, none⟩ = some (.int .i64 (kP ks i)) ∧ w.cell? ⟨b, off + i * 2 + 1, none⟩ = some (.slice (kV ks i).a (kV ks i).n (kV ks i).c)

def SomeBool (e : Ending) : Prop := ∃ q : Bool, e = .returned (.bool q)
def SomeInt (e : Ending) : Prop := ∃ v : Int, e = .returned (.int .i64 v)
theorem someBool {q : Bool} : SomeBool (.returned (.bool q)) := ⟨q, rfl⟩
theorem someInt {v : Int} : SomeInt (.returned (.int .i64 v)) := ⟨v, rfl⟩

set_option maxHeartbeats 4000000 in
set_option maxRecDepth 100000 in
theorem valueBytes (x : Int) (h : Hd) (w : World) (hv : VRow w h) :
    Calls Try.prog 31 #[.int .i64 x, .slice h.a h.n h.c] w fun e w' => SomeInt e ∧ w' = w := by
  obtain ⟨a, n, c⟩ := h
  obtain ⟨hl, hz, hr⟩ := hv
  simp only at hl hz hr ⊢
  unfold maxLen at hl
  have HR : Hid (0 < n → ∃ b off, a = some ⟨b, off, none⟩ ∧ ∀ j, j < n → ∃ u : Hd, w.cell? ⟨b, off + j, none⟩ = some (.slice u.a u.n u.c) ∧ BRow w u) := hr
  clear hr hz
  go_enter Try.func31, Try.ntmps31
  go_wp2
  go_loop [0, 5] (fun t i => ∃ (k : Nat) (v : Int), k ≤ n ∧ i = .int .i64 k ∧ t = .int .i64 v) (fun _ i => n - (intOf i).toNat)
  case atStart => exact ⟨0, _, Nat.zero_le _, rfl, rfl⟩
  case round =>
    obtain ⟨k, v, hk, rfl, rfl⟩ := hrel
    by_cases hlt : k < n
    · obtain ⟨b, off, rfl, hc⟩ := HR.out (by omega)
      obtain ⟨⟨ua, un, uc⟩, c1, hb, _⟩ := hc k hlt
      simp only at c1 hb
      unfold maxLen at hb
      clear hc HR
      have b2 : (k : Int) < (n : Int) := by omega
      by_cases q : v ≤ 1048576
      · go_wp2
        go_round
        case rel => exact ⟨k + 1, _, by omega, by go_num, rfl⟩
        case measure => simp [intOf]; omega
      · go_wp2
        go_ret
        exact ⟨someInt, rfl⟩
    · obtain rfl : k = n := by omega
      go_wp2
      go_ret
      exact ⟨someInt, rfl⟩

set_option maxHeartbeats 4000000 in
set_option maxRecDepth 100000 in
theorem kindSums (k : Int) (w : World) (h0 : 0 ≤ k) (h1 : k < 256) :
    Calls Try.prog 12 #[.int .u8 k] w fun e w' => e = .returned (.bool (decide (k = 5 ∨ k = 6))) ∧ w' = w := by
  by_cases e5 : k = 5
  · subst e5
    go_enter Try.func12, Try.ntmps12
    go_wp2
    go_ret
    exact ⟨rfl, rfl⟩
  · by_cases e6 : k = 6
    · subst e6
      go_enter Try.func12, Try.ntmps12
      go_wp2
      go_ret
      exact ⟨rfl, rfl⟩
    · have d : decide (k = 5 ∨ k = 6) = false := by simp [e5, e6]
      rw [d]
      have b5 : (k == 5) = false := by simp [e5]
      have b6 : (k == 6) = false := by simp [e6]
      go_enter Try.func12, Try.ntmps12
      go_wp2
      go_ret
      exact ⟨rfl, rfl⟩

set_option maxHeartbeats 4000000 in
set_option maxRecDepth 100000 in
theorem scatterBytes (a a' : Option Addr) (n c c' : Nat) (ks : List (Int × Hd)) (w : World) (h : KeyRow w a' ks) (hv : ∀ i, i < ks.length → VRow w (kV ks i)) (hl : ks.length ≤ 4096) (hn : n ≤ 4096) :
    Calls Try.prog 9 #[.slice a n c, .slice a' ks.length c'] w fun e w' => SomeInt e ∧ w' = w := by
  have HK : Hid (KeyRow w a' ks) := h
  have HV : Hid (∀ i, i < ks.length → VRow w (kV ks i)) := hv
  clear h hv
  go_enter Try.func9, Try.ntmps9
  go_wp2
  go_loop [5, 6] (fun t i => ∃ (k : Nat) (v : Int), k ≤ ks.length ∧ i = .int .i64 k ∧ t = .int .i64 v) (fun _ i => ks.length - (intOf i).toNat)
  case atStart => exact ⟨0, _, Nat.zero_le _, rfl, rfl⟩
  case round =>
    obtain ⟨k, v, hk, rfl, rfl⟩ := hrel
    by_cases hlt : k < ks.length
    · obtain ⟨b, off, rfl, hc⟩ := HK.out (by omega)
      have c1 := (hc k hlt).2
      have hv := HV.out k hlt
      have b2 : (k : Int) < (ks.length : Int) := by omega
      clear hc HK HV
      generalize kV ks k = h at *
      have HV1 : Hid (VRow w h) := hv
      clear hv
      by_cases q : v ≤ 1048576
      · go_wp2_with fail
        refine (valueBytes v h w HV1.out).mono ?_
        rintro e w' ⟨⟨v', rfl⟩, rfl⟩
        go_wp2
        go_round
        case rel => exact ⟨k + 1, _, by omega, by go_num, rfl⟩
        case measure => simp [intOf]; omega
      · go_wp2
        go_ret
        exact ⟨someInt, rfl⟩
    · obtain rfl : k = ks.length := by omega
      go_wp2
      go_ret
      exact ⟨someInt, rfl⟩

set_option maxHeartbeats 4000000 in
set_option maxRecDepth 100000 in
theorem bytes8 (a a' : Option Addr) (n c c' : Nat) (kind : Int) (ks : List (Int × Hd)) (w : World) (h : KeyRow w a' ks) (hv : ∀ i, i < ks.length → VRow w (kV ks i)) (hl : ks.length ≤ maxLen) (hn : n ≤ maxLen) :
    Calls Try.prog 8 #[.slice a n c, .int .u8 kind, .slice a' ks.length c'] w fun e w' => SomeBool e ∧ w' = w := by
  unfold maxLen at hl hn
  have HK : Hid (KeyRow w a' ks) := h
  have HV : Hid (∀ i, i < ks.length → VRow w (kV ks i)) := hv
  clear h hv
  by_cases q1 : n ≤ 1048576
  · by_cases q2 : ks.length ≤ 1048576
    · by_cases q3 : (n : Int) + ks.length ≤ 1048576
      · go_enter Try.func8, Try.ntmps8
        go_wp2
        go_loop [6, 7, 8, 9] (fun r t i j => ∃ (k : Nat) (v : Int), k ≤ ks.length ∧ r = .bool false ∧ i = .int .i64 k ∧ t = .int .i64 v ∧ 0 ≤ v ∧ v ≤ 1048576) (fun _ _ i _ => ks.length - (intOf i).toNat)
        case atStart => exact ⟨0, _, Nat.zero_le _, rfl, rfl, rfl, by omega, by omega⟩
        case round =>
          obtain ⟨k, v, hk, rfl, rfl, rfl, hv0, hv1⟩ := hrel
          by_cases hlt : k < ks.length
          · obtain ⟨b, off, rfl, hc⟩ := HK.out (by omega)
            have c1 := (hc k hlt).2
            have hv := HV.out k hlt
            have b2 : (k : Int) < (ks.length : Int) := by omega
            clear hc HK HV
            generalize kV ks k = h at *
            obtain ⟨va, vn, vc⟩ := h
            obtain ⟨hvl, _, hr⟩ := hv
            simp only at c1 hvl hr
            unfold maxLen at hvl
            have HR : Hid (0 < vn → ∃ b off, va = some ⟨b, off, none⟩ ∧ ∀ j, j < vn → ∃ u : Hd, w.cell? ⟨b, off + j, none⟩ = some (.slice u.a u.n u.c) ∧ BRow w u) := hr
            clear hr
            by_cases q4 : vn ≤ 1048576
            · by_cases q5 : v + (vn : Int) ≤ 1048576
              · go_wp2
                go_loop [6, 7, 9] (fun r t j => ∃ (l : Nat) (u : Int), l ≤ vn ∧ r = .bool false ∧ j = .int .i64 l ∧ t = .int .i64 u ∧ 0 ≤ u ∧ u ≤ 1048576) (fun _ _ j => vn - (intOf j).toNat)
                case atStart => exact ⟨0, _, Nat.zero_le _, rfl, rfl, rfl, by omega, by omega⟩
                case round =>
                  obtain ⟨l, u, hlv, rfl, rfl, rfl, hu0, hu1⟩ := hrel
                  by_cases hlt2 : l < vn
                  · obtain ⟨b', off', rfl, hc⟩ := HR.out (by omega)
                    obtain ⟨⟨ua, un, uc⟩, c2, hb, _⟩ := hc l hlt2
                    simp only at c2 hb
                    unfold maxLen at hb
                    clear hc HR
                    have b3 : (l : Int) < (vn : Int) := by omega
                    by_cases q6 : un ≤ 1048576
                    · by_cases q7 : u + (un : Int) ≤ 1048576
                      · go_wp2
                        go_round
                        case rel => exact ⟨l + 1, _, by omega, rfl, by go_num, rfl, by omega, by omega⟩
                        case measure => simp [intOf]; omega
                      · go_wp2
                        go_ret
                        exact ⟨someBool, rfl⟩
                    · go_wp2
                      go_ret
                      exact ⟨someBool, rfl⟩
                  · obtain rfl : l = vn := by omega
                    go_wp2
                    go_round
                    case rel => exact ⟨k + 1, _, by omega, rfl, by go_num, rfl, hu0, hu1⟩
                    case measure => simp [intOf]; omega
              · go_wp2
                go_ret
                exact ⟨someBool, rfl⟩
            · go_wp2
              go_ret
              exact ⟨someBool, rfl⟩
          · obtain rfl : k = ks.length := by omega
            go_wp2
            go_ret
            exact ⟨someBool, rfl⟩
      · go_enter Try.func8, Try.ntmps8
        go_wp2
        go_ret
        exact ⟨someBool, rfl⟩
    · go_enter Try.func8, Try.ntmps8
      go_wp2
      go_ret
      exact ⟨someBool, rfl⟩
  · go_enter Try.func8, Try.ntmps8
    go_wp2
    go_ret
    exact ⟨someBool, rfl⟩

/-- the zero of a result -/
def zeroR : Value := .agg #[.nilIface, .int .i64 0, .slice none 0 0]
set_option maxHeartbeats 4000000 in
set_option maxRecDepth 100000 in
theorem isZero (w : World) :
    Calls Try.prog 14 #[zeroR] w fun e w' => e = .returned (.bool true) ∧ Below w.heap.size w w' := by
  unfold zeroR
  have heq := fun w n c => Go.Lib.run_eql_slice_nil (P := Try.prog) w 32 33 none n c 0 0 Try.underlying32
  go_enter Try.func14, Try.ntmps14
  go_wp2
  go_ret
  exact ⟨rfl, (Below.refl _ _).alloc (Nat.le_refl _) _⟩

theorem eqB_self (xs : List Int) : eqB xs xs = true := by simp [eqB]

set_option maxHeartbeats 1000000 in
theorem bytesSelf (a : Option Addr) (c : Nat) (xs : List Int) (w : World) (h : Row w a xs) (hl : xs.length ≤ 9223372036854775807) :
    Calls Try.prog 27 #[.slice a xs.length c, .slice a xs.length c] w fun e w' => e = .returned (.bool true) ∧ ∃ n, w' = w.drewN n := by
  have hb : ((xs.length : Int) != (xs.length : Int)) = false := by simp
  by_cases h0 : 0 < xs.length
  · obtain ⟨b, off, rfl, hc⟩ := h h0
    have HC : Hid (∀ i, i < xs.length → w.cell? ⟨b, off + i, none⟩ = some (.int .u8 (xs.getD i 0))) := hc
    clear h hc
    go_enter Try.func27, Try.ntmps27
    go_wp2
    go_loopw [5] (fun i wr => ∃ k : Nat, k ≤ xs.length ∧ i = .int .i64 k ∧ ∃ n, wr = w.drewN n) (fun i _ => xs.length - (intOf i).toNat)
    case atStart => exact ⟨0, Nat.zero_le _, rfl, 0, rfl⟩
    case round =>
      obtain ⟨k, hk, rfl, n, rfl⟩ := hrel
      by_cases hlt : k < xs.length
      · obtain ⟨x, hx⟩ : ∃ x, x = xs.getD k 0 := ⟨_, rfl⟩
        have c1 : w.cell? ⟨b, off + k, none⟩ = some (.int .u8 x) := by rw [hx]; exact HC.out k hlt
        have b2 : (k : Int) < (xs.length : Int) := by omega
        have hB : (x != x) = false := by simp
        clear hx
        go_wp2
        go_quiet (fail)
        go_wp2
        go_roundw
        case rel => exact ⟨k + 1, by omega, by go_num, _, rfl⟩
        case measure => simp [intOf]; omega
      · go_wp2
        go_ret
        exact ⟨rfl, n, rfl⟩
  · obtain rfl : xs = [] := List.eq_nil_of_length_eq_zero (by omega)
    clear h hb
    go_enter Try.func27, Try.ntmps27
    go_wp2
    refine wp_loop_rounds 1 ?_
    rw [rounds_succ]
    go_wp2
    go_ret
    exact ⟨rfl, 0, rfl⟩

theorem bytesSame (a : Option Addr) (c : Nat) (xs : List Int) (w : World) (m n : Nat) (h : Row w a xs) (hl : xs.length ≤ maxLen) :
    Calls Try.prog 27 #[.slice a xs.length c, .slice a xs.length c] (w.drewN (m + n)) fun e w'' => e = .returned (.bool true) ∧ ∃ j, w'' = w.drewN (m + j) :=
  (bytesSelf a c xs (w.drewN (m + n)) h (by unfold maxLen at hl; omega)).mono fun _ _ ⟨he, j, hj⟩ => ⟨he, n + j, by rw [hj, World.drewN_drewN, Nat.add_assoc]⟩

set_option maxHeartbeats 4000000 in
set_option maxRecDepth 100000 in
theorem sameValue (h : Hd) (w : World) (hv : VRow w h) :
    Calls Try.prog 13 #[.slice h.a h.n h.c, .slice h.a h.n h.c] w fun e w' => e = .returned (.bool true) ∧ ∃ m, w' = w.drewN m := by
  obtain ⟨a, n, c⟩ := h
  obtain ⟨hl, hz, hr⟩ := hv
  simp only at hl hz hr ⊢
  unfold maxLen at hl
  cases a with
  | none =>
    obtain ⟨rfl, rfl⟩ := hz rfl
    have h33 := fun w n c => Go.Lib.run_eql_slice_nil (P := Try.prog) w 33 48 none n c 0 0 Try.underlying33
    have h27 := fun w n c => Go.Lib.run_eql_slice_nil (P := Try.prog) w 27 48 none n c 0 0 Try.underlying27
    clear hr hl hz
    go_enter Try.func13, Try.ntmps13
    go_wp2
    refine wp_loop_rounds 1 ?_
    rw [rounds_succ]
    go_wp2
    go_ret
    exact ⟨rfl, 0, rfl⟩
  | some ad =>
    have HR : Hid (0 < n → ∃ b off, some ad = some ⟨b, off, none⟩ ∧ ∀ j, j < n → ∃ u : Hd, w.cell? ⟨b, off + j, none⟩ = some (.slice u.a u.n u.c) ∧ BRow w u) := hr
    have h33 := fun w n c => Go.Lib.run_eql_slice_nil (P := Try.prog) w 33 48 (some ad) n c 0 0 Try.underlying33
    have h27 := fun w n c => Go.Lib.run_eql_slice_nil (P := Try.prog) w 27 48 (some ad) n c 0 0 Try.underlying27
    have hnn : ((n : Int) != (n : Int)) = false := by simp
    clear hr hz
    go_enter Try.func13, Try.ntmps13
    go_wp2
    go_loopw [5] (fun i wr => ∃ k : Nat, k ≤ n ∧ i = .int .i64 k ∧ ∃ m, wr = w.drewN m) (fun i _ => n - (intOf i).toNat)
    case atStart => exact ⟨0, Nat.zero_le _, rfl, 0, rfl⟩
    case round =>
      obtain ⟨k, hk, rfl, m, rfl⟩ := hrel
      by_cases hlt : k < n
      · obtain ⟨b, off, e1, hc⟩ := HR.out (by omega)
        simp only [Option.some.injEq] at e1
        subst e1
        obtain ⟨⟨ua, un, uc⟩, c1, hb, hz, xs, hx, hrow⟩ := hc k hlt
        simp only at c1 hb hz hx hrow
        subst hx
        have b2 : (k : Int) < (n : Int) := by omega
        have h48 := fun w n c => Go.Lib.run_eql_slice_nil (P := Try.prog) w 48 5 ua n c 0 0 Try.underlying48
        have HX : Hid (Row w ua xs) := hrow
        have hxl : Hid (xs.length ≤ maxLen) := hb
        have e2 := eqB_self xs
        clear hc HR hz hrow h33 h27
        have hne : ∀ q : Bool, (q != q) = false := fun q => by cases q <;> rfl
        cases ua with
        | none =>
          go_wp2
          go_quiet (exact bytesSame none uc xs w m _ HX.out hxl.out)
          go_wp2
          go_roundw
          case rel => exact ⟨k + 1, by omega, by go_num, m + nq, by simp⟩
          case measure => simp [intOf]; omega
        | some ua =>
          go_wp2
          go_quiet (exact bytesSame (some ua) uc xs w m _ HX.out hxl.out)
          go_wp2
          go_roundw
          case rel => exact ⟨k + 1, by omega, by go_num, m + nq, by simp⟩
          case measure => simp [intOf]; omega
      · obtain rfl : k = n := by omega
        go_wp2
        go_ret
        exact ⟨rfl, m, rfl⟩
end Go.Proofs.Qxb6609368a

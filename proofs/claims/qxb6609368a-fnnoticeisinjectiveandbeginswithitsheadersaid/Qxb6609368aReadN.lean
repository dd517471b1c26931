/-
  SEAT b6609368a: zzReadNotice (28).
-/
import Derived.Test.Qxb6609368aClone
import Derived.Lib.EndianBits
namespace Go.Proofs.Qxb6609368a
open Go.RowKit

/-- the high part first: 'hi | lo' -/
theorem or32 (j : Nat) (hj : j ≤ 32) {x y : Int} (hx0 : 0 ≤ x) (hx1 : x < 4294967296) (hx : x % 2 ^ j = 0) (hy0 : 0 ≤ y) (hy : y < 2 ^ j) : bits .or .u32 x y = x + y := by
  obtain ⟨a, rfl⟩ := Int.eq_ofNat_of_zero_le hx0
  obtain ⟨b, rfl⟩ := Int.eq_ofNat_of_zero_le hy0
  have hb : b < 2 ^ j := by exact_mod_cast hy
  have ha : a % 2 ^ j = 0 := by exact_mod_cast hx
  have hb32 : b < 2 ^ 32 := Nat.lt_of_lt_of_le hb (Nat.pow_le_pow_right (by decide) hj)
  rw [(bits_nat .u32 32 (by decide) wraps_u32 a b (by omega) hb32).2]
  obtain ⟨q, hq⟩ : ∃ q, a = 2 ^ j * q := ⟨a / 2 ^ j, by have := Nat.div_add_mod a (2 ^ j); omega⟩
  rw [hq, ← Nat.two_pow_add_eq_or_of_lt hb]
  push_cast
  rfl

theorem be_join (x : Int) (hx0 : 0 ≤ x) (hx1 : x < 4294967296) :
    bits .or .u32 (bits .or .u32 (bits .or .u32 (x / 16777216 * 16777216) (x / 65536 % 256 * 65536)) (x / 256 % 256 * 256)) (x % 256) = x := by
  rw [or32 24 (x := x / 16777216 * 16777216) (y := x / 65536 % 256 * 65536) (by decide) (by omega) (by omega) (by omega) (by omega) (by omega)]
  rw [or32 16 (x := x / 16777216 * 16777216 + x / 65536 % 256 * 65536) (by decide) (by omega) (by omega) (by omega) (by omega) (by omega)]
  rw [or32 8 (x := x / 16777216 * 16777216 + x / 65536 % 256 * 65536 + x / 256 % 256 * 256) (by decide) (by omega) (by omega) (by omega) (by omega) (by omega)]
  omega

/-- the low part first: 'lo | hi' -/
theorem or64 (j : Nat) {x y : Int} (hx0 : 0 ≤ x) (hx1 : x < 2 ^ j) (hy0 : 0 ≤ y) (hy1 : y < 18446744073709551616) (hy : y % 2 ^ j = 0) (hj : j ≤ 64) : bits .or .u64 x y = x + y := by
  obtain ⟨a, rfl⟩ := Int.eq_ofNat_of_zero_le hx0
  obtain ⟨b, rfl⟩ := Int.eq_ofNat_of_zero_le hy0
  have hb : a < 2 ^ j := by exact_mod_cast hx1
  have ha : b % 2 ^ j = 0 := by exact_mod_cast hy
  have hb32 : a < 2 ^ 64 := Nat.lt_of_lt_of_le hb (Nat.pow_le_pow_right (by decide) hj)
  rw [(bits_nat .u64 64 (by decide) wraps_u64 a b hb32 (by omega)).2]
  obtain ⟨q, hq⟩ : ∃ q, b = 2 ^ j * q := ⟨b / 2 ^ j, by have := Nat.div_add_mod b (2 ^ j); omega⟩
  rw [Nat.or_comm, hq, ← Nat.two_pow_add_eq_or_of_lt hb]
  push_cast
  omega

set_option maxRecDepth 100000 in
theorem and127_nat : ∀ a : Fin 256, (a.val &&& 127) = a.val % 128 := by decide
theorem and127 (a : Int) (h₀ : 0 ≤ a) (h₁ : a < 256) : bits .and .u8 a 127 = a % 128 := by
  obtain ⟨n, rfl⟩ := Int.eq_ofNat_of_zero_le h₀
  have hn : n < 256 := by omega
  have h := (bits_nat .u8 8 (by decide) wraps_u8 n 127 (by simpa using hn) (by decide)).1
  have h2 : (n &&& 127) = n % 128 := and127_nat ⟨n, hn⟩
  rw [show ((127 : Nat) : Int) = 127 from rfl, h2] at h
  rw [h]
  omega


theorem ret3 {x : Int} {s : Option Addr} {a b c : Nat} (h : a = b) : Ending.returned (.tuple #[.int .u32 x, .slice s a c, .bool true]) = .returned (.tuple #[.int .u32 x, .slice s b c, .bool true]) := by rw [h]

theorem acc1 (L : Nat) (h : L < 128) : bits .or .u64 0 ((L : Int) % 128) = L := by
  rw [or64 0 (by omega) (by omega) (by omega) (by omega) (by omega) (by decide)]; omega
theorem acc2 (L : Nat) (h : L < 16384) : bits .or .u64 (bits .or .u64 0 ((L : Int) % 128)) ((L : Int) / 128 % 128 * 128) = L := by
  rw [or64 0 (x := 0) (by omega) (by omega) (by omega) (by omega) (by omega) (by decide)]
  rw [or64 7 (by omega) (by omega) (by omega) (by omega) (by omega) (by decide)]; omega
theorem acc3 (L : Nat) (h : L < 2097152) : bits .or .u64 (bits .or .u64 (bits .or .u64 0 ((L : Int) % 128)) ((L : Int) / 128 % 128 * 128)) ((L : Int) / 16384 % 128 * 16384) = L := by
  rw [or64 0 (x := 0) (by omega) (by omega) (by omega) (by omega) (by omega) (by decide)]
  rw [or64 7 (x := 0 + (L : Int) % 128) (by omega) (by omega) (by omega) (by omega) (by omega) (by decide)]
  rw [or64 14 (by omega) (by omega) (by omega) (by omega) (by omega) (by decide)]; omega

set_option maxHeartbeats 1000000 in
set_option maxRecDepth 100000 in
theorem read1 (g off c : Nat) (x : Int) (L n : Nat) (hn : n = 8 + L) (hL0 : 0 < L) (hL1 : L < 128) (hx0 : 0 ≤ x) (hx1 : x < 4294967296) (w : World) (hc : n ≤ c)
    (c0 : w.cell? ⟨g, off, none⟩ = some (.int .u8 (x / 16777216))) (c1 : w.cell? ⟨g, off + 1, none⟩ = some (.int .u8 (x / 65536 % 256))) (c2 : w.cell? ⟨g, off + 2, none⟩ = some (.int .u8 (x / 256 % 256))) (c3 : w.cell? ⟨g, off + 3, none⟩ = some (.int .u8 (x % 256)))
    (c4 : w.cell? ⟨g, off + 4, none⟩ = some (.int .u8 0)) (c5 : w.cell? ⟨g, off + 5, none⟩ = some (.int .u8 0)) (c6 : w.cell? ⟨g, off + 6, none⟩ = some (.int .u8 0))
    (d0 : w.cell? ⟨g, off + 7, none⟩ = some (.int .u8 (L : Int))) :
    Calls Try.prog 28 #[.slice (some ⟨g, off, none⟩) n c] w fun e w' => ∃ a' c', e = .returned (.tuple #[.int .u32 x, .slice a' L c', .bool true]) ∧ (0 < L → a' = some ⟨g, off + 8, none⟩) ∧ ∃ n, w' = w.drewN n := by
  have hnb : n ≤ 4194304 := by omega
  have b0 : (0 : Int) < (n : Int) := by omega
  have b1 : (1 : Int) < (n : Int) := by omega
  have b2 : (2 : Int) < (n : Int) := by omega
  have b3 : (3 : Int) < (n : Int) := by omega
  have b4 : (4 : Int) < (n : Int) := by omega
  have b5 : (5 : Int) < (n : Int) := by omega
  have b6 : (6 : Int) < (n : Int) := by omega
  have b7 : (7 : Int) < (n : Int) := by omega
  have b8 : (8 : Int) < (n : Int) := by omega
  have e0 := and127 (L : Int) (by omega) (by omega)
  have hbe := be_join x hx0 hx1
  have hne : ¬ c = 8 := by omega
  have hacc : (((n - 8 : Nat) : Int) != bits .or .u64 0 ((L : Int) % 128)) = false := by rw [acc1 L (by omega)]; simp; omega
  have HN : Hid (n = 8 + L) := hn
  clear hn
  go_enter Try.func28, Try.ntmps28
  go_wp2
  go_quiet (fail)
  go_wp2
  refine wp_loop_rounds 2 ?_
  rw [rounds_succ]
  go_wp2
  rw [rounds_succ]
  go_wp2
  go_ret3
  exact ⟨_, _, ret3 (by have := HN.out; omega), fun _ => rfl, nq, rfl⟩

set_option maxHeartbeats 1000000 in
set_option maxRecDepth 100000 in
theorem read2 (g off c : Nat) (x : Int) (L n : Nat) (hn : n = 9 + L) (hL0 : 128 ≤ L) (hL1 : L < 16384) (hx0 : 0 ≤ x) (hx1 : x < 4294967296) (w : World) (hc : n ≤ c)
    (c0 : w.cell? ⟨g, off, none⟩ = some (.int .u8 (x / 16777216))) (c1 : w.cell? ⟨g, off + 1, none⟩ = some (.int .u8 (x / 65536 % 256))) (c2 : w.cell? ⟨g, off + 2, none⟩ = some (.int .u8 (x / 256 % 256))) (c3 : w.cell? ⟨g, off + 3, none⟩ = some (.int .u8 (x % 256)))
    (c4 : w.cell? ⟨g, off + 4, none⟩ = some (.int .u8 0)) (c5 : w.cell? ⟨g, off + 5, none⟩ = some (.int .u8 0)) (c6 : w.cell? ⟨g, off + 6, none⟩ = some (.int .u8 0))
    (d0 : w.cell? ⟨g, off + 7, none⟩ = some (.int .u8 ((L : Int) % 128 + 128))) (d1 : w.cell? ⟨g, off + 8, none⟩ = some (.int .u8 ((L : Int) / 128))) :
    Calls Try.prog 28 #[.slice (some ⟨g, off, none⟩) n c] w fun e w' => ∃ a' c', e = .returned (.tuple #[.int .u32 x, .slice a' L c', .bool true]) ∧ (0 < L → a' = some ⟨g, off + 9, none⟩) ∧ ∃ n, w' = w.drewN n := by
  have hnb : n ≤ 4194304 := by omega
  have b0 : (0 : Int) < (n : Int) := by omega
  have b1 : (1 : Int) < (n : Int) := by omega
  have b2 : (2 : Int) < (n : Int) := by omega
  have b3 : (3 : Int) < (n : Int) := by omega
  have b4 : (4 : Int) < (n : Int) := by omega
  have b5 : (5 : Int) < (n : Int) := by omega
  have b6 : (6 : Int) < (n : Int) := by omega
  have b7 : (7 : Int) < (n : Int) := by omega
  have b8 : (8 : Int) < (n : Int) := by omega
  have b9 : (9 : Int) < (n : Int) := by omega
  have e0 := and127 ((L : Int) % 128 + 128) (by omega) (by omega)
  have e1 := and127 ((L : Int) / 128) (by omega) (by omega)
  have hbe := be_join x hx0 hx1
  have hne : ¬ c = 9 := by omega
  have hacc : (((n - 9 : Nat) : Int) != bits .or .u64 (bits .or .u64 0 ((L : Int) % 128)) ((L : Int) / 128 % 128 * 128)) = false := by rw [acc2 L (by omega)]; simp; omega
  have HN : Hid (n = 9 + L) := hn
  clear hn
  go_enter Try.func28, Try.ntmps28
  go_wp2
  go_quiet (fail)
  go_wp2
  refine wp_loop_rounds 3 ?_
  rw [rounds_succ]
  go_wp2
  rw [rounds_succ]
  go_wp2
  rw [rounds_succ]
  go_wp2
  go_ret3
  exact ⟨_, _, ret3 (by have := HN.out; omega), fun _ => rfl, nq, rfl⟩

set_option maxHeartbeats 1000000 in
set_option maxRecDepth 100000 in
theorem read3 (g off c : Nat) (x : Int) (L n : Nat) (hn : n = 10 + L) (hL0 : 16384 ≤ L) (hL1 : L < 2097152) (hx0 : 0 ≤ x) (hx1 : x < 4294967296) (w : World) (hc : n ≤ c)
    (c0 : w.cell? ⟨g, off, none⟩ = some (.int .u8 (x / 16777216))) (c1 : w.cell? ⟨g, off + 1, none⟩ = some (.int .u8 (x / 65536 % 256))) (c2 : w.cell? ⟨g, off + 2, none⟩ = some (.int .u8 (x / 256 % 256))) (c3 : w.cell? ⟨g, off + 3, none⟩ = some (.int .u8 (x % 256)))
    (c4 : w.cell? ⟨g, off + 4, none⟩ = some (.int .u8 0)) (c5 : w.cell? ⟨g, off + 5, none⟩ = some (.int .u8 0)) (c6 : w.cell? ⟨g, off + 6, none⟩ = some (.int .u8 0))
    (d0 : w.cell? ⟨g, off + 7, none⟩ = some (.int .u8 ((L : Int) % 128 + 128))) (d1 : w.cell? ⟨g, off + 8, none⟩ = some (.int .u8 ((L : Int) / 128 % 128 + 128))) (d2 : w.cell? ⟨g, off + 9, none⟩ = some (.int .u8 ((L : Int) / 16384))) :
    Calls Try.prog 28 #[.slice (some ⟨g, off, none⟩) n c] w fun e w' => ∃ a' c', e = .returned (.tuple #[.int .u32 x, .slice a' L c', .bool true]) ∧ (0 < L → a' = some ⟨g, off + 10, none⟩) ∧ ∃ n, w' = w.drewN n := by
  have hnb : n ≤ 4194304 := by omega
  have b0 : (0 : Int) < (n : Int) := by omega
  have b1 : (1 : Int) < (n : Int) := by omega
  have b2 : (2 : Int) < (n : Int) := by omega
  have b3 : (3 : Int) < (n : Int) := by omega
  have b4 : (4 : Int) < (n : Int) := by omega
  have b5 : (5 : Int) < (n : Int) := by omega
  have b6 : (6 : Int) < (n : Int) := by omega
  have b7 : (7 : Int) < (n : Int) := by omega
  have b8 : (8 : Int) < (n : Int) := by omega
  have b9 : (9 : Int) < (n : Int) := by omega
  have b10 : (10 : Int) < (n : Int) := by omega
  have e0 := and127 ((L : Int) % 128 + 128) (by omega) (by omega)
  have e1 := and127 ((L : Int) / 128 % 128 + 128) (by omega) (by omega)
  have e2 := and127 ((L : Int) / 16384) (by omega) (by omega)
  have hbe := be_join x hx0 hx1
  have hne : ¬ c = 10 := by omega
  have hacc : (((n - 10 : Nat) : Int) != bits .or .u64 (bits .or .u64 (bits .or .u64 0 ((L : Int) % 128)) ((L : Int) / 128 % 128 * 128)) ((L : Int) / 16384 % 128 * 16384)) = false := by rw [acc3 L (by omega)]; simp; omega
  have HN : Hid (n = 10 + L) := hn
  clear hn
  go_enter Try.func28, Try.ntmps28
  go_wp2
  go_quiet (fail)
  go_wp2
  refine wp_loop_rounds 4 ?_
  rw [rounds_succ]
  go_wp2
  rw [rounds_succ]
  go_wp2
  rw [rounds_succ]
  go_wp2
  rw [rounds_succ]
  go_wp2
  go_ret3
  exact ⟨_, _, ret3 (by have := HN.out; omega), fun _ => rfl, nq, rfl⟩

theorem ret30 {x : Int} {s s' : Option Addr} {a b c c' : Nat} (h : a = b) (hs : s = s') (hc : c = c') : Ending.returned (.tuple #[.int .u32 x, .slice s a c, .bool true]) = .returned (.tuple #[.int .u32 x, .slice s' b c', .bool true]) := by rw [h, hs, hc]

set_option maxHeartbeats 1000000 in
set_option maxRecDepth 100000 in
theorem read0 (g off c : Nat) (x : Int) (hx0 : 0 ≤ x) (hx1 : x < 4294967296) (w : World) (_hc : 8 ≤ c)
    (c0 : w.cell? ⟨g, off, none⟩ = some (.int .u8 (x / 16777216))) (c1 : w.cell? ⟨g, off + 1, none⟩ = some (.int .u8 (x / 65536 % 256))) (c2 : w.cell? ⟨g, off + 2, none⟩ = some (.int .u8 (x / 256 % 256))) (c3 : w.cell? ⟨g, off + 3, none⟩ = some (.int .u8 (x % 256)))
    (c4 : w.cell? ⟨g, off + 4, none⟩ = some (.int .u8 0)) (c5 : w.cell? ⟨g, off + 5, none⟩ = some (.int .u8 0)) (c6 : w.cell? ⟨g, off + 6, none⟩ = some (.int .u8 0))
    (d0 : w.cell? ⟨g, off + 7, none⟩ = some (.int .u8 0)) :
    Calls Try.prog 28 #[.slice (some ⟨g, off, none⟩) 8 c] w fun e w' => ∃ a' c', e = .returned (.tuple #[.int .u32 x, .slice a' 0 c', .bool true]) ∧ ∃ n, w' = w.drewN n := by
  have hbe := be_join x hx0 hx1
  have e0 := and127 0 (by omega) (by omega)
  have hacc : bits .or .u64 0 0 = 0 := by decide
  simp only [Int.zero_emod] at e0
  by_cases h8 : c = 8
  · go_enter Try.func28, Try.ntmps28
    go_wp2
    go_quiet (fail)
    go_wp2
    refine wp_loop_rounds 2 ?_
    rw [rounds_succ]
    go_wp2
    rw [rounds_succ]
    go_wp2
    go_ret3
    exact ⟨_, _, rfl, nq, rfl⟩
  · go_enter Try.func28, Try.ntmps28
    go_wp2
    go_quiet (fail)
    go_wp2
    refine wp_loop_rounds 2 ?_
    rw [rounds_succ]
    go_wp2
    rw [rounds_succ]
    go_wp2
    go_ret3
    exact ⟨_, _, rfl, nq, rfl⟩

theorem uv_two {x : Nat} (h0 : 128 ≤ x) (h1 : x < 16384) : uv x = [(x : Int) % 128 + 128, (x : Int) / 128] := by
  rw [uv_big h0, uv_small (by omega)]; simp
theorem uv_three {x : Nat} (h0 : 16384 ≤ x) (h1 : x < 2097152) : uv x = [(x : Int) % 128 + 128, (x : Int) / 128 % 128 + 128, (x : Int) / 16384] := by
  rw [uv_big (by omega), uv_big (by omega), uv_small (by omega)]; simp; omega

theorem row_sub {w : World} {g off k : Nat} {ps ys : List Int} {c : Option Addr} (h : ∀ i, i < (ps ++ ys).length → w.cell? ⟨g, off + i, none⟩ = some (.int .u8 ((ps ++ ys).getD i 0))) (hk : ps.length = k) (hc : 0 < ys.length → c = some ⟨g, off + k, none⟩) : Row w c ys := by
  intro h0
  refine ⟨g, off + k, hc h0, fun i hi => ?_⟩
  have := h (k + i) (by simp; omega)
  rw [← Nat.add_assoc] at this
  rw [this]
  simp only [List.getD, List.getElem?_append_right (show ps.length ≤ k + i by omega), hk, Nat.add_sub_cancel_left]

theorem notice_eq (x : Int) (ys : List Int) : notice x ys = [x / 16777216, x / 65536 % 256, x / 256 % 256, x % 256, 0, 0, 0] ++ uv ys.length ++ ys := by
  simp [notice, be4, be2, str]

theorem readNotice (g off c : Nat) (x : Int) (ys : List Int) (n : Nat) (hn : n = (notice x ys).length) (hx0 : 0 ≤ x) (hx1 : x < 4294967296) (w : World) (h : Row w (some ⟨g, off, none⟩) (notice x ys)) (hl : ys.length ≤ 1048576) (hc : n ≤ c) :
    Calls Try.prog 28 #[.slice (some ⟨g, off, none⟩) n c] w fun e w' => ∃ a' c', e = .returned (.tuple #[.int .u32 x, .slice a' ys.length c', .bool true]) ∧ Row w a' ys ∧ ∃ n, w' = w.drewN n := by
  have hup := uv_pos ys.length
  have hle : (notice x ys).length = 7 + (uv ys.length).length + ys.length := by rw [notice_eq]; simp; omega
  obtain ⟨b, off', e, hcell⟩ := h (by omega)
  simp only [Option.some.injEq, Addr.mk.injEq, and_true] at e
  obtain ⟨rfl, rfl⟩ := e
  clear h
  by_cases h0 : ys.length = 0
  · obtain rfl : ys = [] := List.eq_nil_of_length_eq_zero h0
    have hu : uv ([] : List Int).length = [0] := uv_small (by simp)
    rw [notice_eq, hu] at hcell
    have c0 := hcell 0 (by simp); have c1 := hcell 1 (by simp); have c2 := hcell 2 (by simp); have c3 := hcell 3 (by simp)
    have c4 := hcell 4 (by simp); have c5 := hcell 5 (by simp); have c6 := hcell 6 (by simp); have d0 := hcell 7 (by simp)
    have hn8 : n = 8 := by rw [hn, hle, hu]; rfl
    subst hn8
    refine (read0 g off c x hx0 hx1 w hc c0 c1 c2 c3 c4 c5 c6 d0).mono ?_
    rintro e w' ⟨a', c', rfl, hw⟩
    exact ⟨a', c', rfl, fun hp => absurd hp (by simp), hw⟩
  · by_cases h1 : ys.length < 128
    · have hu : uv ys.length = [(ys.length : Int)] := uv_small h1
      rw [notice_eq, hu] at hcell
      have c0 := hcell 0 (by simp); have c1 := hcell 1 (by simp); have c2 := hcell 2 (by simp); have c3 := hcell 3 (by simp)
      have c4 := hcell 4 (by simp); have c5 := hcell 5 (by simp); have c6 := hcell 6 (by simp); have d0 := hcell 7 (by simp)
      refine (read1 g off c x ys.length n (by rw [hn, hle, hu]; simp) (by omega) h1 hx0 hx1 w hc c0 c1 c2 c3 c4 c5 c6 d0).mono ?_
      rintro e w' ⟨a', c', rfl, ha, hw⟩
      exact ⟨a', c', rfl, row_sub hcell (by simp) ha, hw⟩
    · by_cases h2 : ys.length < 16384
      · have hu := uv_two (x := ys.length) (by omega) h2
        rw [notice_eq, hu] at hcell
        have c0 := hcell 0 (by simp); have c1 := hcell 1 (by simp); have c2 := hcell 2 (by simp); have c3 := hcell 3 (by simp)
        have c4 := hcell 4 (by simp); have c5 := hcell 5 (by simp); have c6 := hcell 6 (by simp); have d0 := hcell 7 (by simp); have d1 := hcell 8 (by simp)
        refine (read2 g off c x ys.length n (by rw [hn, hle, hu]; simp) (by omega) h2 hx0 hx1 w hc c0 c1 c2 c3 c4 c5 c6 d0 d1).mono ?_
        rintro e w' ⟨a', c', rfl, ha, hw⟩
        exact ⟨a', c', rfl, row_sub hcell (by simp) ha, hw⟩
      · have hu := uv_three (x := ys.length) (by omega) (by omega)
        rw [notice_eq, hu] at hcell
        have c0 := hcell 0 (by simp); have c1 := hcell 1 (by simp); have c2 := hcell 2 (by simp); have c3 := hcell 3 (by simp)
        have c4 := hcell 4 (by simp); have c5 := hcell 5 (by simp); have c6 := hcell 6 (by simp); have d0 := hcell 7 (by simp); have d1 := hcell 8 (by simp); have d2 := hcell 9 (by simp)
        refine (read3 g off c x ys.length n (by rw [hn, hle, hu]; simp) (by omega) (by omega) hx0 hx1 w hc c0 c1 c2 c3 c4 c5 c6 d0 d1 d2).mono ?_
        rintro e w' ⟨a', c', rfl, ha, hw⟩
        exact ⟨a', c', rfl, row_sub hcell (by simp) ha, hw⟩
end Go.Proofs.Qxb6609368a

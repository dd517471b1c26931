/-
  SEAT b6609467a: the walk of FnSkipLeavesTheRestInOrder (5).
-/
import Derived.Test.Qxb6609467aSkips
namespace Go.Proofs.Qxb6609467a
open Go.RowKit

theorem ok_cnt (l : List Int) (h : okB l = true) : cnt l = (chars l : Int) := by
  unfold okB at h
  obtain ⟨n, hn⟩ := Option.isSome_iff_exists.1 h
  have := seqs_chars l 0 n hn
  simp [cnt, hn, this]

theorem row_take {w : World} {a : Option Addr} {xs : List Int} (h : Row w a xs) (k : Nat) {n : Nat} : Row (w.drewN n) a (xs.take k) := by
  refine ⟨fun h0 => ?_, fun x hx => h.2 x (List.mem_of_mem_take hx)⟩
  rw [List.length_take] at h0
  obtain ⟨b, off, e, hc⟩ := h.1 (by omega)
  refine ⟨b, off, e, fun i hi => ?_⟩
  rw [List.length_take] at hi
  show w.cell? _ = _
  rw [hc i (by omega)]
  simp [List.getD, show i < k by omega]

set_option maxHeartbeats 2000000 in
set_option maxRecDepth 100000 in
theorem walk5_in (a0 : Option Addr) (cap0 : Nat) (xs : List Int) (line col : Int) (K : Nat) (w : World) (hrow : Row w a0 xs) (hnil : a0 = none → xs.length = 0 ∧ cap0 = 0) (hf : xs.length ≤ 1048576)
    (hl : 1 ≤ line) (hc0 : 0 ≤ col) (hc1 : col ≤ 9223372036853727231) (hK : K ≤ xs.length) :
    Calls Try.prog 5 #[.slice a0 xs.length cap0, .int .i64 line, .int .i64 col, .int .i64 K] w fun e w' => e = .returned (.bool true) ∧ Below w.heap.size w w' := by
  have hfit := fit1_yes hf
  have hlm : xs.length ≤ maxLen := by unfold maxLen; omega
  have t1 : ¬ line < 1 := by omega
  have t2 : ¬ col < 0 := by omega
  have t3 : ¬ 9223372036853727231 < col := by omega
  have t4 : ¬ (K : Int) < 0 := by omega
  have t5 : ¬ (xs.length : Int) < (K : Int) := by omega
  go_enter Try.func5, Try.ntmps5
  go_wp2_with fail
  refine (bytes14 _ _ _ _ _ _ _ hlm).mono ?_
  rintro e w' ⟨rfl, rfl⟩
  go_wp2_with fail
  refine (clone_any a0 xs.length cap0 xs rfl _ hrow hnil (by omega)).mono ?_
  rintro e w1 ⟨a1, rfl, hrow1, hbel1⟩
  clear hrow hnil
  go_wp2_with fail
  refine (newReader a1 xs.length xs.length line col 0 0 w1).mono ?_
  rintro e w2 ⟨rfl, hrd, hbel2⟩
  have hinv := inv_start hrow1 hrd hbel2
  have HI : Hid (Inv w1 a1 xs line col 0 0 0 w2) := hinv
  clear hrd hbel2 hinv
  go_wp2_with fail
  go_loopw [10] (fun i wr => ∃ k : Nat, k ≤ K ∧ i = .int .i64 k ∧ Hid (Inv w1 a1 xs line col 0 0 k wr)) (fun i _ => K - (intOf i).toNat)
  case atStart => exact ⟨0, Nat.zero_le _, rfl, HI⟩
  case round =>
    obtain ⟨k, hk, rfl, hi⟩ := hrel
    by_cases hlt : k < K
    · go_wp2_with fail
      refine (inv_skip w1 a1 xs line col 0 0 k wr hi.out hrow1 (by omega) (by omega) hc0 hc1 hf).mono ?_
      rintro e w3 ⟨rfl, hi3⟩
      have HI3 : Hid (Inv w1 a1 xs line col 0 0 (k + 1) w3) := hi3
      clear hi3
      go_wp2
      go_roundw
      case rel => exact ⟨k + 1, by omega, by go_num, HI3⟩
      case measure => simp [intOf]; omega
    · obtain rfl : k = K := by omega
      obtain ⟨⟨a, hrd, hat⟩, hbel⟩ := hi.out
      have hch1 := chars_le (xs.take k)
      have hch2 : (xs.take k).length ≤ k := List.length_take_le _ _
      have HOK : Hid (okB (xs.take k) = true → cnt (xs.take k) = (chars (xs.take k) : Int)) := ok_cnt _
      generalize hch : chars (xs.take k) = ch at hrd hch1 HOK
      generalize hpv : prevAt xs k = pv at hrd
      generalize TL xs line 0 k = tlv at hrd
      generalize TC xs col 0 0 k = tcv at hrd
      have HPV : Hid (prevAt xs k = pv) := hpv
      have HAT : Hid (k < xs.length → ∃ b off, a1 = some ⟨b, off, none⟩ ∧ a = some ⟨b, off + k, none⟩) := hat
      have hchk : ch ≤ k := by omega
      clear hch hpv hat hch1 hch2 hi HI
      go_wp2_with fail
      refine (readerBuf w1.heap.size a (xs.length - k) (xs.length - k) line _ _ _ _ wr hrd).mono ?_
      rintro e w4 ⟨rfl, rfl⟩
      go_wp2_with fail
      refine (readerState w1.heap.size a (xs.length - k) (xs.length - k) line _ _ _ _ w4 hrd).mono ?_
      rintro e w5 ⟨rfl, n5, rfl⟩
      have j1 : (((xs.length - k : Nat) : Int) != (xs.length : Int) - (k : Int)) = false := by simp; omega
      have j2 : (line != line) = false := by simp
      have hrowk : Row w4 a1 xs := hrow1.below hbel (Nat.le_refl _)
      have hbelf : Below w'.heap.size w' w4 := hbel1.trans (hbel.mono hbel1.size)
      clear hrd hrow1 hbel hbel1
      go_wp2_with fail
      by_cases hx0 : 0 < xs.length
      · obtain ⟨b, off, rfl, hcell⟩ := hrowk.1 hx0
        have HC : Hid (∀ i, i < xs.length → w4.cell? ⟨b, off + i, none⟩ = some (.int .u8 (xs.getD i 0))) := hcell
        clear hcell
        by_cases hkl : k < xs.length
        · obtain ⟨b', off', e1, rfl⟩ := HAT.out hkl
          simp only [Option.some.injEq, Addr.mk.injEq, and_true] at e1
          obtain ⟨rfl, rfl⟩ := e1
          go_loopw [8, 18] (fun r i wr => ∃ j : Nat, j ≤ xs.length - k ∧ r = .bool false ∧ i = .int .i64 j ∧ ∃ n, wr = w4.drewN n) (fun _ i _ => xs.length - k - (intOf i).toNat)
          case atStart => exact ⟨0, Nat.zero_le _, rfl, rfl, n5, rfl⟩
          case round =>
            obtain ⟨j, hj, rfl, rfl, n6, rfl⟩ := hrel
            by_cases hjl : j < xs.length - k
            · obtain ⟨x, hx⟩ : ∃ x, x = xs.getD (k + j) 0 := ⟨_, rfl⟩
              have c2 : w4.cell? ⟨b, off + (k + j), none⟩ = some (.int .u8 x) := by rw [hx]; exact HC.out (k + j) (by omega)
              have c1 : w4.cell? ⟨b, off + k + j, none⟩ = some (.int .u8 x) := by rw [Nat.add_assoc]; exact c2
              have b1 : (j : Int) < ((xs.length - k : Nat) : Int) := by omega
              have b2 : (k : Int) + (j : Int) < (xs.length : Int) := by omega
              have b3 : (x != x) = false := by simp
              clear hx
              go_wp2
              go_quiet (fail)
              go_wp2
              go_roundw
              case rel => exact ⟨j + 1, by omega, rfl, by go_num, n6 + nq, by simp⟩
              case measure => simp [intOf]; omega
            · by_cases hk0 : k = 0
              · subst hk0
                obtain rfl : pv = 0 := by have := HPV.out; simpa [prevAt] using this.symm
                go_wp2_with fail
                refine (seqCount (some ⟨b, off, none⟩) xs.length 0 (xs.take 0) (by simp; try omega) (w4.drewN n6) (row_take hrowk 0) (by simp; try omega)).mono ?_
                rintro e w7 ⟨rfl, rfl⟩
                have HOK' := HOK.out
                clear HOK
                generalize okB (xs.take 0) = ok at *
                generalize cnt (xs.take 0) = cn at *
                cases ok with
                | false =>
                  clear HOK'
                  go_wp2
                  go_ret
                  exact ⟨rfl, hbelf.os, hbelf.tape, hbelf.output, hbelf.size, hbelf.block⟩
                | true =>
                  have e1 : (col + (ch : Int) == col + cn) = true := by rw [HOK' rfl]; simp
                  have e2 : cn ≤ 1048576 := by rw [HOK' rfl]; omega
                  have e3 : 0 ≤ cn := by rw [HOK' rfl]; omega
                  clear HOK'
                  go_wp2
                  go_ret
                  exact ⟨rfl, hbelf.os, hbelf.tape, hbelf.output, hbelf.size, hbelf.block⟩
              · have c3 : w4.cell? ⟨b, off + (k - 1), none⟩ = some (.int .u8 pv) := by
                  rw [HC.out (k - 1) (by omega), ← HPV.out]; simp [prevAt, hk0]
                have hkp : (0 : Int) < (k : Int) := by omega
                have b7 : (k : Int) - 1 < (xs.length : Int) := by omega
                have b8 : (pv != pv) = false := by simp
                go_wp2_with fail
                refine (seqCount (some ⟨b, off, none⟩) xs.length k (xs.take k) (by simp; try omega) (w4.drewN n6) (row_take hrowk k) (by simp; try omega)).mono ?_
                rintro e w7 ⟨rfl, rfl⟩
                have HOK' := HOK.out
                clear HOK
                generalize okB (xs.take k) = ok at *
                generalize cnt (xs.take k) = cn at *
                cases ok with
                | false =>
                  clear HOK'
                  go_wp2
                  go_ret
                  exact ⟨rfl, hbelf.os, hbelf.tape, hbelf.output, hbelf.size, hbelf.block⟩
                | true =>
                  have e1 : (col + (ch : Int) == col + cn) = true := by rw [HOK' rfl]; simp
                  have e2 : cn ≤ 1048576 := by rw [HOK' rfl]; omega
                  have e3 : 0 ≤ cn := by rw [HOK' rfl]; omega
                  clear HOK'
                  go_wp2
                  go_ret
                  exact ⟨rfl, hbelf.os, hbelf.tape, hbelf.output, hbelf.size, hbelf.block⟩
        · refine wp_loop_rounds 1 ?_
          rw [rounds_succ]
          have hkx : xs.length - k = 0 := by omega
          by_cases hk0 : k = 0
          · omega
          · have c3 : w4.cell? ⟨b, off + (k - 1), none⟩ = some (.int .u8 pv) := by
              rw [HC.out (k - 1) (by omega), ← HPV.out]; simp [prevAt, hk0]
            have hkp : (0 : Int) < (k : Int) := by omega
            have b7 : (k : Int) - 1 < (xs.length : Int) := by omega
            have b8 : (pv != pv) = false := by simp
            go_wp2_with fail
            refine (seqCount (some ⟨b, off, none⟩) xs.length k (xs.take k) (by simp; try omega) (w4.drewN n5) (row_take hrowk k) (by simp; try omega)).mono ?_
            rintro e w7 ⟨rfl, rfl⟩
            have HOK' := HOK.out
            clear HOK
            generalize okB (xs.take k) = ok at *
            generalize cnt (xs.take k) = cn at *
            cases ok with
            | false =>
              clear HOK'
              go_wp2
              go_ret
              exact ⟨rfl, hbelf.os, hbelf.tape, hbelf.output, hbelf.size, hbelf.block⟩
            | true =>
              have e1 : (col + (ch : Int) == col + cn) = true := by rw [HOK' rfl]; simp
              have e2 : cn ≤ 1048576 := by rw [HOK' rfl]; omega
              have e3 : 0 ≤ cn := by rw [HOK' rfl]; omega
              clear HOK'
              go_wp2
              go_ret
              exact ⟨rfl, hbelf.os, hbelf.tape, hbelf.output, hbelf.size, hbelf.block⟩
      · obtain rfl : k = 0 := by omega
        obtain rfl : pv = 0 := by have := HPV.out; simpa [prevAt] using this.symm
        obtain rfl : ch = 0 := by omega
        obtain rfl : xs = [] := List.eq_nil_of_length_eq_zero (by omega)
        refine wp_loop_rounds 1 ?_
        rw [rounds_succ]
        have e7 : okB ([] : List Int) = true := rfl
        have e8 : cnt ([] : List Int) = 0 := rfl
        go_wp2_with fail
        refine (seqCount a1 0 0 [] rfl (w4.drewN n5) (hrowk.drewN n5) (by simp)).mono ?_
        rintro e w7 ⟨rfl, rfl⟩
        go_wp2
        go_ret
        exact ⟨rfl, hbelf.os, hbelf.tape, hbelf.output, hbelf.size, hbelf.block⟩

set_option maxHeartbeats 2000000 in
set_option maxRecDepth 100000 in
theorem walk5 (a0 : Option Addr) (cap0 : Nat) (xs : List Int) (line col k : Int) (w : World) (hrow : Row w a0 xs) (hnil : a0 = none → xs.length = 0 ∧ cap0 = 0) (hlm : xs.length ≤ maxLen) :
    Calls Try.prog 5 #[.slice a0 xs.length cap0, .int .i64 line, .int .i64 col, .int .i64 k] w fun e w' => e = .returned (.bool true) ∧ Below w.heap.size w w' := by
  by_cases hf : xs.length ≤ 1048576
  · have hfit := fit1_yes hf
    rcases (show line < 1 ∨ (1 ≤ line ∧ col < 0) ∨ (1 ≤ line ∧ 0 ≤ col ∧ 9223372036853727231 < col) ∨ (1 ≤ line ∧ 0 ≤ col ∧ col ≤ 9223372036853727231) by omega) with h | ⟨h, h'⟩ | ⟨h, h', h''⟩ | ⟨h, h', h''⟩
    · clear hrow hnil
      go_enter Try.func5, Try.ntmps5
      go_wp2_with fail
      refine (bytes14 _ _ _ _ _ _ _ hlm).mono ?_
      rintro e w' ⟨rfl, rfl⟩
      go_wp2_with fail
      go_ret
      exact ⟨rfl, Below.refl _ _⟩
    · clear hrow hnil
      go_enter Try.func5, Try.ntmps5
      go_wp2_with fail
      refine (bytes14 _ _ _ _ _ _ _ hlm).mono ?_
      rintro e w' ⟨rfl, rfl⟩
      go_wp2_with fail
      go_ret
      exact ⟨rfl, Below.refl _ _⟩
    · clear hrow hnil
      go_enter Try.func5, Try.ntmps5
      go_wp2_with fail
      refine (bytes14 _ _ _ _ _ _ _ hlm).mono ?_
      rintro e w' ⟨rfl, rfl⟩
      go_wp2_with fail
      go_ret
      exact ⟨rfl, Below.refl _ _⟩
    · by_cases hk0 : k < 0
      · clear hrow hnil
        go_enter Try.func5, Try.ntmps5
        go_wp2_with fail
        refine (bytes14 _ _ _ _ _ _ _ hlm).mono ?_
        rintro e w' ⟨rfl, rfl⟩
        go_wp2_with fail
        go_ret
        exact ⟨rfl, Below.refl _ _⟩
      · by_cases hk1 : (xs.length : Int) < k
        · clear hrow hnil
          go_enter Try.func5, Try.ntmps5
          go_wp2_with fail
          refine (bytes14 _ _ _ _ _ _ _ hlm).mono ?_
          rintro e w' ⟨rfl, rfl⟩
          go_wp2_with fail
          go_ret
          exact ⟨rfl, Below.refl _ _⟩
        · obtain ⟨K, rfl⟩ := Int.eq_ofNat_of_zero_le (show 0 ≤ k by omega)
          exact walk5_in a0 cap0 xs line col K w hrow hnil hf h h' h'' (by omega)
  · have hfit := fit1_no hf
    clear hrow hnil
    go_enter Try.func5, Try.ntmps5
    go_wp2_with fail
    refine (bytes14 _ _ _ _ _ _ _ hlm).mono ?_
    rintro e w' ⟨rfl, rfl⟩
    go_wp2_with fail
    go_ret
    exact ⟨rfl, Below.refl _ _⟩

/-- A slice of bytes that came in (the shell's 'IsRow'), as a row. -/
theorem row_in {w : World} {a : Option Addr} {len cap : Nat} {zs : List Int}
    (h : (a = none ∧ len = 0 ∧ cap = 0 ∧ zs = []) ∨ ∃ x, a = some x ∧ len ≤ cap ∧ cap ≤ maxLen ∧ zs.length = cap ∧ (∀ i, i < zs.length → w.cell? (x.add i) = some (.int .u8 (zs.getD i 0))) ∧ ∀ n ∈ zs, (Lit.int .u8 n).wf = true) :
    ∃ xs : List Int, len = xs.length ∧ Row w a xs ∧ (a = none → len = 0 ∧ cap = 0) ∧ len ≤ maxLen := by
  rcases h with ⟨rfl, rfl, rfl, rfl⟩ | ⟨x, rfl, hl, hm, hz, hcell, hwz⟩
  · exact ⟨[], rfl, ⟨fun h => absurd h (by simp), fun x hx => by cases hx⟩, fun _ => ⟨rfl, rfl⟩, Nat.zero_le _⟩
  · have hlt : len = (zs.take len).length := by rw [List.length_take]; omega
    refine ⟨zs.take len, hlt, ⟨fun h0 => ?_, fun x hx => ?_⟩, (fun e => by cases e), (by omega)⟩
    · rw [← hlt] at h0
      obtain ⟨b, off, spot⟩ := x
      have hc := hcell 0 (by omega)
      have hspot : spot = none := by simpa [Addr.add] using World.cell?_spot hc
      subst hspot
      refine ⟨b, off, rfl, fun i hi => ?_⟩
      rw [← hlt] at hi
      have hci := hcell i (by omega)
      rw [Addr.add_lit] at hci
      rw [hci]
      simp [List.getD, hi]
    · have := hwz x (List.mem_of_mem_take hx)
      simp [Lit.wf, IntKind.min, IntKind.max, IntKind.bits, IntKind.signed] at this
      omega
end Go.Proofs.Qxb6609467a

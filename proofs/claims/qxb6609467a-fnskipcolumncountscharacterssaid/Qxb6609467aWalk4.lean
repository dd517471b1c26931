/-
  SEAT b6609467a: the walk of FnSkipColumnCountsCharacters (4).
-/
import Derived.Test.Qxb6609467aWalk5
namespace Go.Proofs.Qxb6609467a
open Go.RowKit

theorem ok_tab (xs : List Int) (h : okB xs = true) (ht : tabAt xs < xs.length) : okB (xs.take (tabAt xs)) = true := by
  unfold okB at h ⊢
  obtain ⟨n, hn⟩ := Option.isSome_iff_exists.1 h
  have e : xs = xs.take (tabAt xs) ++ 9 :: xs.drop (tabAt xs + 1) := by
    have h1 := drop_cons xs (tabAt xs) ht
    rw [tabAt_is xs ht] at h1
    rw [← h1, List.take_append_drop]
  rw [e] at hn
  obtain ⟨m, hm⟩ := seqs_tab _ _ 0 n hn
  have e2 : (xs.take (tabAt xs) ++ 9 :: xs.drop (tabAt xs + 1)).take (tabAt xs) = xs.take (tabAt xs) := by
    rw [← e]
  rw [hm]
  rfl

set_option maxHeartbeats 4000000 in
set_option maxRecDepth 100000 in
theorem walk4_set (a0 : Option Addr) (cap0 : Nat) (xs : List Int) (line col tabCol : Int) (w : World) (hrow : Row w a0 xs) (hnil : a0 = none → xs.length = 0 ∧ cap0 = 0) (hf : xs.length ≤ 1048576)
    (hl : 1 ≤ line) (hc0 : 0 ≤ col) (hc1 : col ≤ 9223372036853727231) (ht0 : 0 ≤ tabCol) (ht1 : tabCol < col) (hok : okB xs = true) :
    Calls Try.prog 4 #[.slice a0 xs.length cap0, .int .i64 line, .int .i64 col, .bool true, .int .i64 tabCol] w fun e w' => e = .returned (.bool true) ∧ Below w.heap.size w w' := by
  have hfit := fit1_yes hf
  have hlm : xs.length ≤ maxLen := by unfold maxLen; omega
  have t1 : ¬ line < 1 := by omega
  have t2 : ¬ col < 0 := by omega
  have t3 : ¬ 9223372036853727231 < col := by omega
  have t4 : ¬ tabCol < 0 := by omega
  have t5 : ¬ col ≤ tabCol := by omega
  have HCN : Hid (cnt xs = (chars xs : Int)) := ok_cnt xs hok
  have HTB : Hid (tabAt xs < xs.length → cnt (xs.take (tabAt xs)) = (chars (xs.take (tabAt xs)) : Int)) := fun h => ok_cnt _ (ok_tab xs hok h)
  go_enter Try.func4, Try.ntmps4
  go_wp2_with fail
  refine (bytes7 _ _ _ _ _ _ _ _ hlm).mono ?_
  rintro e w' ⟨rfl, rfl⟩
  go_wp2_with fail
  refine (seqCount a0 cap0 xs.length xs rfl _ hrow (by omega)).mono ?_
  rintro e w' ⟨rfl, rfl⟩
  obtain ⟨cn, hcn⟩ : ∃ cn, cn = cnt xs := ⟨_, rfl⟩
  rw [← hcn]
  have HCX : Hid (cn = (chars xs : Int)) := by rw [hcn]; exact HCN.out
  clear hcn HCN
  go_wp2_with fail
  refine (clone_any a0 xs.length cap0 xs rfl _ hrow hnil (by omega)).mono ?_
  rintro e w1 ⟨a1, rfl, hrow1, hbel1⟩
  clear hrow hnil
  go_wp2_with fail
  refine (newReader a1 xs.length xs.length line col line tabCol w1).mono ?_
  rintro e w2 ⟨rfl, hrd, hbel2⟩
  have HI : Hid (Inv w1 a1 xs line col line tabCol 0 w2) := inv_start hrow1 hrd hbel2
  clear hrd hbel2
  go_wp2_with fail
  go_loopw [16] (fun i wr => ∃ k : Nat, k ≤ xs.length ∧ i = .int .i64 k ∧ Hid (Inv w1 a1 xs line col line tabCol k wr)) (fun i _ => xs.length - (intOf i).toNat)
  case atStart => exact ⟨0, Nat.zero_le _, rfl, HI⟩
  case round =>
    obtain ⟨k, hk, rfl, hi⟩ := hrel
    by_cases hlt : k < xs.length
    · go_wp2_with fail
      refine (inv_skip w1 a1 xs line col line tabCol k wr hi.out hrow1 (by omega) (by omega) hc0 hc1 hf).mono ?_
      rintro e w3 ⟨rfl, hi3⟩
      have HI3 : Hid (Inv w1 a1 xs line col line tabCol (k + 1) w3) := hi3
      clear hi3
      go_wp2
      go_roundw
      case rel => exact ⟨k + 1, by omega, by go_num, HI3⟩
      case measure => simp [intOf]; omega
    · have hkx : k = xs.length := by omega
      obtain ⟨⟨a, hrd, _⟩, hbel⟩ := hi.out
      rw [hkx, Nat.sub_self, List.take_length] at hrd
      have HP : Hid (prevAt xs xs.length = if xs.length = 0 then 0 else xs.getD (xs.length - 1) 0) := rfl
      have hch1 := chars_le xs
      generalize hch : chars xs = ch at hrd hch1 HCX
      generalize hpv : prevAt xs xs.length = pv at hrd HP
      have e1 : TL xs line line xs.length = line := by simp only [TL]; rw [if_neg (by omega)]
      have e2 : TC xs col line tabCol xs.length = tabCol := by simp only [TC]; rw [if_neg (by omega)]
      rw [e1, e2] at hrd
      obtain rfl : cn = (ch : Int) := HCX.out
      have hchk : ch ≤ xs.length := hch1
      have hrowk : Row wr a1 xs := hrow1.below hbel (Nat.le_refl _)
      have hbelf : Below w'.heap.size w' wr := hbel1.trans (hbel.mono hbel1.size)
      have hlt' : ¬ (k : Int) < (xs.length : Int) := by omega
      clear hch hpv hch1 hi HI hrow1 hbel hbel1 hkx hk hlt HCX
      go_wp2_with fail
      refine (readerState w1.heap.size a 0 0 line _ _ _ _ wr hrd).mono ?_
      rintro e w5 ⟨rfl, n5, rfl⟩
      clear hrd
      by_cases hx0 : 0 < xs.length
      · obtain ⟨b, off, rfl, hcell⟩ := hrowk.1 hx0
        have c3 : wr.cell? ⟨b, off + (xs.length - 1), none⟩ = some (.int .u8 pv) := by
          rw [hcell (xs.length - 1) (by omega), HP.out, if_neg (by omega)]
        have hxp : (0 : Int) < (xs.length : Int) := by omega
        have b7 : (xs.length : Int) - 1 < (xs.length : Int) := by omega
        clear hcell
        go_wp2
        go_ret
        exact ⟨rfl, hbelf.os, hbelf.tape, hbelf.output, hbelf.size, hbelf.block⟩
      · obtain rfl : pv = 0 := by rw [HP.out, if_pos (by omega)]
        have hxp : ¬ (0 : Int) < (xs.length : Int) := by omega
        go_wp2
        go_ret
        exact ⟨rfl, hbelf.os, hbelf.tape, hbelf.output, hbelf.size, hbelf.block⟩

set_option maxHeartbeats 4000000 in
set_option maxRecDepth 100000 in
theorem walk4_un (a0 : Option Addr) (cap0 : Nat) (xs : List Int) (line col tabCol : Int) (w : World) (hrow : Row w a0 xs) (hnil : a0 = none → xs.length = 0 ∧ cap0 = 0) (hf : xs.length ≤ 1048576)
    (hl : 1 ≤ line) (hc0 : 0 ≤ col) (hc1 : col ≤ 9223372036853727231) (hok : okB xs = true) :
    Calls Try.prog 4 #[.slice a0 xs.length cap0, .int .i64 line, .int .i64 col, .bool false, .int .i64 tabCol] w fun e w' => e = .returned (.bool true) ∧ Below w.heap.size w w' := by
  have hfit := fit1_yes hf
  have hlm : xs.length ≤ maxLen := by unfold maxLen; omega
  have t1 : ¬ line < 1 := by omega
  have t2 : ¬ col < 0 := by omega
  have t3 : ¬ 9223372036853727231 < col := by omega
  have HCN : Hid (cnt xs = (chars xs : Int)) := ok_cnt xs hok
  have HTB : Hid (tabAt xs < xs.length → cnt (xs.take (tabAt xs)) = (chars (xs.take (tabAt xs)) : Int)) := fun h => ok_cnt _ (ok_tab xs hok h)
  go_enter Try.func4, Try.ntmps4
  go_wp2_with fail
  refine (bytes7 _ _ _ _ _ _ _ _ hlm).mono ?_
  rintro e w' ⟨rfl, rfl⟩
  go_wp2_with fail
  refine (seqCount a0 cap0 xs.length xs rfl _ hrow (by omega)).mono ?_
  rintro e w' ⟨rfl, rfl⟩
  obtain ⟨cn, hcn⟩ : ∃ cn, cn = cnt xs := ⟨_, rfl⟩
  rw [← hcn]
  have HCX : Hid (cn = (chars xs : Int)) := by rw [hcn]; exact HCN.out
  clear hcn HCN
  go_wp2_with fail
  refine (clone_any a0 xs.length cap0 xs rfl _ hrow hnil (by omega)).mono ?_
  rintro e w1 ⟨a1, rfl, hrow1, hbel1⟩
  clear hrow hnil
  go_wp2_with fail
  refine (newReader a1 xs.length xs.length line col 0 0 w1).mono ?_
  rintro e w2 ⟨rfl, hrd, hbel2⟩
  have HI : Hid (Inv w1 a1 xs line col 0 0 0 w2) := inv_start hrow1 hrd hbel2
  clear hrd hbel2
  go_wp2_with fail
  go_loopw [16] (fun i wr => ∃ k : Nat, k ≤ xs.length ∧ i = .int .i64 k ∧ Hid (Inv w1 a1 xs line col 0 0 k wr)) (fun i _ => xs.length - (intOf i).toNat)
  case atStart => exact ⟨0, Nat.zero_le _, rfl, HI⟩
  case round =>
    obtain ⟨k, hk, rfl, hi⟩ := hrel
    by_cases hlt : k < xs.length
    · go_wp2_with fail
      refine (inv_skip w1 a1 xs line col 0 0 k wr hi.out hrow1 (by omega) (by omega) hc0 hc1 hf).mono ?_
      rintro e w3 ⟨rfl, hi3⟩
      have HI3 : Hid (Inv w1 a1 xs line col 0 0 (k + 1) w3) := hi3
      clear hi3
      go_wp2
      go_roundw
      case rel => exact ⟨k + 1, by omega, by go_num, HI3⟩
      case measure => simp [intOf]; omega
    · have hkx : k = xs.length := by omega
      obtain ⟨⟨a, hrd, _⟩, hbel⟩ := hi.out
      rw [hkx, Nat.sub_self, List.take_length] at hrd
      have HP : Hid (prevAt xs xs.length = if xs.length = 0 then 0 else xs.getD (xs.length - 1) 0) := rfl
      have hch1 := chars_le xs
      generalize hch : chars xs = ch at hrd hch1 HCX
      generalize hpv : prevAt xs xs.length = pv at hrd HP
      have HT1 : Hid (TL xs line 0 xs.length = if tabAt xs < xs.length then line else 0) := by show _ = _; simp [TL]
      have HT2 : Hid (TC xs col 0 0 xs.length = if tabAt xs < xs.length then col + chars (xs.take (tabAt xs)) else 0) := by show _ = _; simp [TC]
      generalize TL xs line 0 xs.length = tlv at hrd HT1
      generalize TC xs col 0 0 xs.length = tcv at hrd HT2
      obtain rfl : cn = (ch : Int) := HCX.out
      have hchk : ch ≤ xs.length := hch1
      have hrowk : Row wr a1 xs := hrow1.below hbel (Nat.le_refl _)
      have hbelf : Below w'.heap.size w' wr := hbel1.trans (hbel.mono hbel1.size)
      have hlt' : ¬ (k : Int) < (xs.length : Int) := by omega
      clear hch hpv hch1 hi HI hrow1 hbel hbel1 hkx hk hlt HCX
      go_wp2_with fail
      refine (readerState w1.heap.size a 0 0 line _ _ _ _ wr hrd).mono ?_
      rintro e w5 ⟨rfl, n5, rfl⟩
      clear hrd
      by_cases hx0 : 0 < xs.length
      · obtain ⟨b, off, rfl, hcell⟩ := hrowk.1 hx0
        have c3 : wr.cell? ⟨b, off + (xs.length - 1), none⟩ = some (.int .u8 pv) := by
          rw [hcell (xs.length - 1) (by omega), HP.out, if_neg (by omega)]
        have hxp : (0 : Int) < (xs.length : Int) := by omega
        have b7 : (xs.length : Int) - 1 < (xs.length : Int) := by omega
        clear hcell
        go_wp2_with fail
        refine (indexTab (some ⟨b, off, none⟩) xs.length xs.length xs rfl (wr.drewN n5) (hrowk.drewN n5) (by omega)).mono ?_
        rintro e w6 ⟨rfl, rfl⟩
        by_cases htab : tabAt xs < xs.length
        · have e1 : tabInt xs = (tabAt xs : Int) := by simp [tabInt, htab]
          have e2 := HT1.out
          have e3 := HT2.out
          have e4 := HTB.out htab
          rw [if_pos htab] at e2 e3
          rw [← e4] at e3
          subst e2
          subst e3
          rw [e1]
          have hcb : 0 ≤ cnt (xs.take (tabAt xs)) ∧ cnt (xs.take (tabAt xs)) ≤ 1048576 := by
            rw [e4]; have := chars_le (xs.take (tabAt xs)); have h2 : (xs.take (tabAt xs)).length ≤ tabAt xs := List.length_take_le _ _; omega
          have hrt : Row (wr.drewN n5) (some ⟨b, off, none⟩) (xs.take (tabAt xs)) := row_take hrowk (tabAt xs)
          have htn : tabAt xs = (xs.take (tabAt xs)).length := by rw [List.length_take]; omega
          have HRT : Hid (Row (wr.drewN n5) (some ⟨b, off, none⟩) (xs.take (tabAt xs))) := hrt
          have HTN : Hid (tabAt xs = (xs.take (tabAt xs)).length) := htn
          obtain ⟨hcb0, hcb1⟩ := hcb
          have j1 : (0 : Int) ≤ (tabAt xs : Int) := by omega
          have j2 : (tabAt xs : Int) ≤ (xs.length : Int) := by omega
          clear hrt htn e4 HTB e1 HT1 HT2
          go_wp2_with fail
          refine (seqCount (some ⟨b, off, none⟩) xs.length (tabAt xs) (xs.take (tabAt xs)) HTN.out (wr.drewN n5) HRT.out (by rw [← HTN.out]; omega)).mono ?_
          rintro e w8 ⟨rfl, rfl⟩
          generalize okB (xs.take (tabAt xs)) = ob
          generalize cnt (xs.take (tabAt xs)) = cb at *
          have q1 : (ch : Int) ≤ 1048576 := by omega
          go_wp2
          go_ret
          exact ⟨rfl, hbelf.os, hbelf.tape, hbelf.output, hbelf.size, hbelf.block⟩
        · have e1 : tabInt xs = -1 := by simp [tabInt, htab]
          have e2 := HT1.out
          have e3 := HT2.out
          rw [if_neg htab] at e2 e3
          subst e2
          subst e3
          rw [e1]
          go_wp2
          go_ret
          exact ⟨rfl, hbelf.os, hbelf.tape, hbelf.output, hbelf.size, hbelf.block⟩
      · obtain rfl : pv = 0 := by rw [HP.out, if_pos (by omega)]
        have hxp : ¬ (0 : Int) < (xs.length : Int) := by omega
        go_wp2_with fail
        refine (indexTab a1 xs.length xs.length xs rfl (wr.drewN n5) (hrowk.drewN n5) (by omega)).mono ?_
        rintro e w6 ⟨rfl, rfl⟩
        by_cases htab : tabAt xs < xs.length
        · omega
        · have e1 : tabInt xs = -1 := by simp [tabInt, htab]
          have e2 := HT1.out
          have e3 := HT2.out
          rw [if_neg htab] at e2 e3
          subst e2
          subst e3
          rw [e1]
          go_wp2
          go_ret
          exact ⟨rfl, hbelf.os, hbelf.tape, hbelf.output, hbelf.size, hbelf.block⟩

set_option maxHeartbeats 2000000 in
set_option maxRecDepth 100000 in
theorem walk4 (a0 : Option Addr) (cap0 : Nat) (xs : List Int) (line col : Int) (tabSet : Bool) (tabCol : Int) (w : World) (hrow : Row w a0 xs) (hnil : a0 = none → xs.length = 0 ∧ cap0 = 0) (hlm : xs.length ≤ maxLen) :
    Calls Try.prog 4 #[.slice a0 xs.length cap0, .int .i64 line, .int .i64 col, .bool tabSet, .int .i64 tabCol] w fun e w' => e = .returned (.bool true) ∧ Below w.heap.size w w' := by
  by_cases hf : xs.length ≤ 1048576
  · have hfit := fit1_yes hf
    rcases (show line < 1 ∨ (1 ≤ line ∧ col < 0) ∨ (1 ≤ line ∧ 0 ≤ col ∧ 9223372036853727231 < col) ∨ (1 ≤ line ∧ 0 ≤ col ∧ col ≤ 9223372036853727231) by omega) with h | ⟨h, h'⟩ | ⟨h, h', h''⟩ | ⟨h, h', h''⟩
    · clear hrow hnil
      go_enter Try.func4, Try.ntmps4
      go_wp2_with fail
      refine (bytes7 _ _ _ _ _ _ _ _ hlm).mono ?_
      rintro e w' ⟨rfl, rfl⟩
      go_wp2_with fail
      go_ret
      exact ⟨rfl, Below.refl _ _⟩
    · clear hrow hnil
      go_enter Try.func4, Try.ntmps4
      go_wp2_with fail
      refine (bytes7 _ _ _ _ _ _ _ _ hlm).mono ?_
      rintro e w' ⟨rfl, rfl⟩
      go_wp2_with fail
      go_ret
      exact ⟨rfl, Below.refl _ _⟩
    · clear hrow hnil
      go_enter Try.func4, Try.ntmps4
      go_wp2_with fail
      refine (bytes7 _ _ _ _ _ _ _ _ hlm).mono ?_
      rintro e w' ⟨rfl, rfl⟩
      go_wp2_with fail
      go_ret
      exact ⟨rfl, Below.refl _ _⟩
    · cases tabSet with
      | true =>
        by_cases ht0 : tabCol < 0
        · clear hrow hnil
          go_enter Try.func4, Try.ntmps4
          go_wp2_with fail
          refine (bytes7 _ _ _ _ _ _ _ _ hlm).mono ?_
          rintro e w' ⟨rfl, rfl⟩
          go_wp2_with fail
          go_ret
          exact ⟨rfl, Below.refl _ _⟩
        · by_cases ht1 : col ≤ tabCol
          · clear hrow hnil
            go_enter Try.func4, Try.ntmps4
            go_wp2_with fail
            refine (bytes7 _ _ _ _ _ _ _ _ hlm).mono ?_
            rintro e w' ⟨rfl, rfl⟩
            go_wp2_with fail
            go_ret
            exact ⟨rfl, Below.refl _ _⟩
          · cases hok : okB xs with
            | true => exact walk4_set a0 cap0 xs line col tabCol w hrow hnil hf h h' h'' (by omega) (by omega) hok
            | false =>
              go_enter Try.func4, Try.ntmps4
              go_wp2_with fail
              refine (bytes7 _ _ _ _ _ _ _ _ hlm).mono ?_
              rintro e w' ⟨rfl, rfl⟩
              go_wp2_with fail
              refine (seqCount a0 cap0 xs.length xs rfl _ hrow (by omega)).mono ?_
              rintro e w' ⟨rfl, rfl⟩
              clear hrow hnil
              generalize cnt xs = cn
              go_wp2_with fail
              go_ret
              exact ⟨rfl, Below.refl _ _⟩
      | false =>
        cases hok : okB xs with
        | true => exact walk4_un a0 cap0 xs line col tabCol w hrow hnil hf h h' h'' hok
        | false =>
          go_enter Try.func4, Try.ntmps4
          go_wp2_with fail
          refine (bytes7 _ _ _ _ _ _ _ _ hlm).mono ?_
          rintro e w' ⟨rfl, rfl⟩
          go_wp2_with fail
          refine (seqCount a0 cap0 xs.length xs rfl _ hrow (by omega)).mono ?_
          rintro e w' ⟨rfl, rfl⟩
          clear hrow hnil
          generalize cnt xs = cn
          go_wp2_with fail
          go_ret
          exact ⟨rfl, Below.refl _ _⟩
  · have hfit := fit1_no hf
    clear hrow hnil
    go_enter Try.func4, Try.ntmps4
    go_wp2_with fail
    refine (bytes7 _ _ _ _ _ _ _ _ hlm).mono ?_
    rintro e w' ⟨rfl, rfl⟩
    go_wp2_with fail
    go_ret
    exact ⟨rfl, Below.refl _ _⟩
end Go.Proofs.Qxb6609467a

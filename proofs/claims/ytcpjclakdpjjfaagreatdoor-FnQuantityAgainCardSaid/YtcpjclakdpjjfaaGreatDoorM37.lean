/-
  A part of the proof of FnQuantityAgain (texts Rk, S1, S2, S3, S4 of mine, joined).
-/
import Derived.Test.YtcpjclakdpjjfaaGreatDoorM36
import Derived.Test.YtcpjclakdpjjfaaGreatDoorM33
import Derived.Deep.QuietTactic
import Derived.BigQuiet
import Derived.Test.YtcpjclakdpjjfaaGreatDoorM34
import Derived.Deep.RegionWith
namespace Go.Proofs.YtcpjclakdpjjfaaGreatDoor
open Go.RowKit

theorem parse_any (s : ByteArray) (l : List UInt8) (a0 a1 a2 : Addr) (pe ps pr : Value) (w : World) (hG : GW w a0 a1 a2 pe ps pr) (hl : s.data.toList = l) (hP : PBs l) : Calls Tryz.prog 10 #[.string s] w (PqEnd w a0 a1 l) := by
  obtain ⟨hlen, hB⟩ := hP
  by_cases h0 : l = []
  · subst h0; exact parse_empty s a0 a1 w hl hG.c0
  · by_cases h48 : l = [48]
    · subst h48; exact parse_zero s a0 a1 w hl
    · cases hsp : splitQ l with
      | none => exact parse_split_none s l a0 a1 w hl h0 h48 hlen hsp hG.c0
      | some p =>
        have hsl : p.suf.length ≤ 200 := by
          rcases split_pieces hsp with ⟨_, _, _, e⟩ | ⟨n0, h⟩
          · rw [e]; simp
          · have := congrArg List.length h.app
            rw [List.length_append] at this
            omega
        cases hsf : sufQ p.suf with
        | none => exact parse_suf_none s l p a0 a1 a2 pe ps pr w hG hl h0 h48 hlen hsl hsp hsf
        | some r =>
          obtain ⟨b, x, f⟩ := r
          have hb := hB p b x f hsp hsf
          rcases sufQ_cases hsf with ⟨rfl, _⟩ | ⟨rfl, rfl, _⟩ | ⟨rfl, _⟩
          · exact parse_dec s l p a0 a1 a2 pe ps pr w hG hl h0 h48 hlen hsl hsp x f hsf hb
          · exact parse_bin s l p a0 a1 a2 pe ps pr w hG hl h0 h48 hlen hsl hsp x hsf hb
          · exact parse_dec s l p a0 a1 a2 pe ps pr w hG hl h0 h48 hlen hsl hsp x f hsf hb
end Go.Proofs.YtcpjclakdpjjfaaGreatDoor

namespace Go.Proofs.YtcpjclakdpjjfaaGreatDoor
open Go.RowKit

theorem strips_bound {n t N : Nat} (h : n * 2 ^ t ≤ N) (hn : 0 < n) (hN : N ≤ 9223372036854775807) : t ≤ 63 := by
  rcases Nat.lt_or_ge 63 t with h1 | h1
  · have h2 : 2 ^ 64 ≤ 2 ^ t := Nat.pow_le_pow_right (by omega) h1
    have h3 : 2 ^ t ≤ n * 2 ^ t := Nat.le_mul_of_pos_left _ hn
    omega
  · exact h1
theorem strips_half {b n t N : Nat} (hb : 2 ≤ b) (h : n * 2 ^ t ≤ N) : n / b * 2 ^ (t + 1) ≤ N := by
  have h1 : n / b * 2 ≤ n := Nat.le_trans (Nat.mul_le_mul_left _ hb) (Nat.div_mul_le_self n b)
  calc n / b * 2 ^ (t + 1) = n / b * 2 * 2 ^ t := by rw [Nat.pow_succ, Nat.mul_assoc, Nat.mul_comm 2]
    _ ≤ n * 2 ^ t := Nat.mul_le_mul_right _ h1
    _ ≤ N := h


/-- What stripping 10s off a number of 64 bits comes to. -/
theorem rmf_ten_pos (N : Nat) (hN0 : 0 < N) (hb : N ≤ 9223372036854775807) (w : World) :
    Calls Tryz.prog 134 #[.int .i64 (N : Int), .int .i64 10] w fun e w' => e = .returned (.tuple #[.int .i64 ((strip 10 N).1 : Int), .int .i32 ((strip 10 N).2 : Int)]) ∧ w = w' := by
  have hd : ¬ ((N : Int) < 0) := by omega
  have hb' := Lib.hid hb
  clear hb
  go_enter Tryz.func134, Tryz.ntmps134
  go_wp2_with fail
  go_loop [4, 5] (fun r t => ∃ n k : Nat, r = .int .i64 (n : Int) ∧ t = .int .i32 (k : Int) ∧ 0 < n ∧ k ≤ 63 ∧ Hid (Strips 10 N n k ∧ n * 2 ^ k ≤ N)) (fun r _ => (intOf r).toNat)
  case atStart => exact ⟨N, 0, rfl, rfl, hN0, by omega, Strips.start hN0, by rw [Nat.pow_zero, Nat.mul_one]; exact Nat.le_refl _⟩
  case round =>
    obtain ⟨n, k, rfl, rfl, hn, hk, hS⟩ := hrel
    by_cases hz : n % 10 = 0
    · obtain ⟨h1, h2⟩ := hS.out.1.step (by omega) hz
      have h3 := strips_half (b := 10) (by omega) hS.out.2
      have h4 := strips_bound h3 h1.1 hb'.out
      have q1 : ((10 : Int) ≤ (n : Int)) := by omega
      have q2 : ((n : Int) % 10 == 0) = true := by rw [beq_iff_eq]; omega
      have q3 : Int.tdiv (n : Int) 10 = ((n / 10 : Nat) : Int) := by rw [Int.tdiv_eq_ediv_of_nonneg (by omega)]; rfl
      have hd0 := h1.1
      obtain ⟨m, hm⟩ : ∃ m, m = n / 10 := ⟨_, rfl⟩
      rw [← hm] at h1 h2 h3 q3 hd0
      have hwm : wrap64 (m : Int) = m := by
        have a1 := Nat.le_mul_of_pos_right m (show 0 < 2 ^ (k + 1) from Nat.pow_pos (by omega))
        have a2 := hb'.out
        unfold wrap64; omega
      replace hwm := Lib.hid hwm
      have hH := Lib.hid (And.intro h1 h3)
      replace hm := Lib.hid hm
      replace hS := Lib.hid hS
      clear h1 h3 hz
      go_wp2_with fail
      go_round
      case rel => exact ⟨m, k + 1, by rw [hwm.out], rfl, hd0, h4, hH⟩
      case measure =>
        have hme : (intOf (.int .i64 (wrap64 (m : Int)))).toNat < (intOf (.int .i64 (n : Int))).toNat := by
          rw [hwm.out]
          show ((m : Int)).toNat < ((n : Int)).toNat
          rw [Int.toNat_natCast, Int.toNat_natCast]; exact h2
        exact hme
    · have hst := hS.out.1.stop hz
      have q2 : ((n : Int) % 10 == 0) = false := by rw [beq_eq_false_iff_ne]; omega
      replace hst := Lib.hid hst
      by_cases q1 : (10 : Int) ≤ (n : Int)
      · go_wp2_with fail
        go_ret2
        exact ⟨by rw [hst.out]; rfl, rfl⟩
      · go_wp2_with fail
        go_ret2
        exact ⟨by rw [hst.out]; rfl, rfl⟩
theorem rmf_ten_neg (N : Nat) (hN0 : 0 < N) (hb : N ≤ 9223372036854775807) (w : World) :
    Calls Tryz.prog 134 #[.int .i64 (-(N : Int)), .int .i64 10] w fun e w' => e = .returned (.tuple #[.int .i64 (-((strip 10 N).1 : Int)), .int .i32 ((strip 10 N).2 : Int)]) ∧ w = w' := by
  have hd : -(N : Int) < 0 := by omega
  have hw1 : wrap64 (N : Int) = N := by unfold wrap64; omega
  have hw2 : wrap64 (- -(N : Int)) = N := by rw [Int.neg_neg]; exact hw1
  have hb' := Lib.hid hb
  clear hb
  go_enter Tryz.func134, Tryz.ntmps134
  go_wp2_with fail
  replace hw1 := Lib.hid hw1
  replace hw2 := Lib.hid hw2
  go_loop [4, 5] (fun r t => ∃ n k : Nat, r = .int .i64 (n : Int) ∧ t = .int .i32 (k : Int) ∧ 0 < n ∧ k ≤ 63 ∧ Hid (Strips 10 N n k ∧ n * 2 ^ k ≤ N)) (fun r _ => (intOf r).toNat)
  case atStart => exact ⟨N, 0, by rw [hw1.out], rfl, hN0, by omega, Strips.start hN0, by rw [Nat.pow_zero, Nat.mul_one]; exact Nat.le_refl _⟩
  case round =>
    obtain ⟨n, k, rfl, rfl, hn, hk, hS⟩ := hrel
    by_cases hz : n % 10 = 0
    · obtain ⟨h1, h2⟩ := hS.out.1.step (by omega) hz
      have h3 := strips_half (b := 10) (by omega) hS.out.2
      have h4 := strips_bound h3 h1.1 hb'.out
      have q1 : ((10 : Int) ≤ (n : Int)) := by omega
      have q2 : ((n : Int) % 10 == 0) = true := by rw [beq_iff_eq]; omega
      have q3 : Int.tdiv (n : Int) 10 = ((n / 10 : Nat) : Int) := by rw [Int.tdiv_eq_ediv_of_nonneg (by omega)]; rfl
      have hd0 := h1.1
      obtain ⟨m, hm⟩ : ∃ m, m = n / 10 := ⟨_, rfl⟩
      rw [← hm] at h1 h2 h3 q3 hd0
      have hwm : wrap64 (m : Int) = m := by
        have a1 := Nat.le_mul_of_pos_right m (show 0 < 2 ^ (k + 1) from Nat.pow_pos (by omega))
        have a2 := hb'.out
        unfold wrap64; omega
      replace hwm := Lib.hid hwm
      have hH := Lib.hid (And.intro h1 h3)
      replace hm := Lib.hid hm
      replace hS := Lib.hid hS
      clear h1 h3 hz
      go_wp2_with fail
      go_round
      case rel => exact ⟨m, k + 1, by rw [hwm.out], rfl, hd0, h4, hH⟩
      case measure =>
        have hme : (intOf (.int .i64 (wrap64 (m : Int)))).toNat < (intOf (.int .i64 (n : Int))).toNat := by
          rw [hwm.out]
          show ((m : Int)).toNat < ((n : Int)).toNat
          rw [Int.toNat_natCast, Int.toNat_natCast]; exact h2
        exact hme
    · have hst := hS.out.1.stop hz
      have hnb : n ≤ 9223372036854775807 := by
        have h2 := hS.out.2
        have h3 : n ≤ n * 2 ^ k := Nat.le_mul_of_pos_right _ (Nat.pow_pos (by omega))
        have h4 := hb'.out
        omega
      have hw : wrap64 (-(n : Int)) = -(n : Int) := by unfold wrap64; omega
      have q2 : ((n : Int) % 10 == 0) = false := by clear hw; rw [beq_eq_false_iff_ne]; omega
      replace hst := Lib.hid hst
      replace hnb := Lib.hid hnb
      replace hw := Lib.hid hw
      by_cases q1 : (10 : Int) ≤ (n : Int)
      · go_wp2_with fail
        go_ret2
        exact ⟨ret_tup2 (by rw [hst.out]; first | exact hw.out | rfl) (by rw [hst.out]), rfl⟩
      · go_wp2_with fail
        go_ret2
        exact ⟨ret_tup2 (by rw [hst.out]) (by rw [hst.out]), rfl⟩

/-- What stripping 1024s off a number of 64 bits comes to. -/
theorem rmf_kib_pos (N : Nat) (hN0 : 0 < N) (hb : N ≤ 9223372036854775807) (w : World) :
    Calls Tryz.prog 134 #[.int .i64 (N : Int), .int .i64 1024] w fun e w' => e = .returned (.tuple #[.int .i64 ((strip 1024 N).1 : Int), .int .i32 ((strip 1024 N).2 : Int)]) ∧ w = w' := by
  have hd : ¬ ((N : Int) < 0) := by omega
  have hb' := Lib.hid hb
  clear hb
  go_enter Tryz.func134, Tryz.ntmps134
  go_wp2_with fail
  go_loop [4, 5] (fun r t => ∃ n k : Nat, r = .int .i64 (n : Int) ∧ t = .int .i32 (k : Int) ∧ 0 < n ∧ k ≤ 63 ∧ Hid (Strips 1024 N n k ∧ n * 2 ^ k ≤ N)) (fun r _ => (intOf r).toNat)
  case atStart => exact ⟨N, 0, rfl, rfl, hN0, by omega, Strips.start hN0, by rw [Nat.pow_zero, Nat.mul_one]; exact Nat.le_refl _⟩
  case round =>
    obtain ⟨n, k, rfl, rfl, hn, hk, hS⟩ := hrel
    by_cases hz : n % 1024 = 0
    · obtain ⟨h1, h2⟩ := hS.out.1.step (by omega) hz
      have h3 := strips_half (b := 1024) (by omega) hS.out.2
      have h4 := strips_bound h3 h1.1 hb'.out
      have q1 : ((1024 : Int) ≤ (n : Int)) := by omega
      have q2 : ((n : Int) % 1024 == 0) = true := by rw [beq_iff_eq]; omega
      have q3 : Int.tdiv (n : Int) 1024 = ((n / 1024 : Nat) : Int) := by rw [Int.tdiv_eq_ediv_of_nonneg (by omega)]; rfl
      have hd0 := h1.1
      obtain ⟨m, hm⟩ : ∃ m, m = n / 1024 := ⟨_, rfl⟩
      rw [← hm] at h1 h2 h3 q3 hd0
      have hwm : wrap64 (m : Int) = m := by
        have a1 := Nat.le_mul_of_pos_right m (show 0 < 2 ^ (k + 1) from Nat.pow_pos (by omega))
        have a2 := hb'.out
        unfold wrap64; omega
      replace hwm := Lib.hid hwm
      have hH := Lib.hid (And.intro h1 h3)
      replace hm := Lib.hid hm
      replace hS := Lib.hid hS
      clear h1 h3 hz
      go_wp2_with fail
      go_round
      case rel => exact ⟨m, k + 1, by rw [hwm.out], rfl, hd0, h4, hH⟩
      case measure =>
        have hme : (intOf (.int .i64 (wrap64 (m : Int)))).toNat < (intOf (.int .i64 (n : Int))).toNat := by
          rw [hwm.out]
          show ((m : Int)).toNat < ((n : Int)).toNat
          rw [Int.toNat_natCast, Int.toNat_natCast]; exact h2
        exact hme
    · have hst := hS.out.1.stop hz
      have q2 : ((n : Int) % 1024 == 0) = false := by rw [beq_eq_false_iff_ne]; omega
      replace hst := Lib.hid hst
      by_cases q1 : (1024 : Int) ≤ (n : Int)
      · go_wp2_with fail
        go_ret2
        exact ⟨by rw [hst.out]; rfl, rfl⟩
      · go_wp2_with fail
        go_ret2
        exact ⟨by rw [hst.out]; rfl, rfl⟩
theorem rmf_kib_neg (N : Nat) (hN0 : 0 < N) (hb : N ≤ 9223372036854775807) (w : World) :
    Calls Tryz.prog 134 #[.int .i64 (-(N : Int)), .int .i64 1024] w fun e w' => e = .returned (.tuple #[.int .i64 (-((strip 1024 N).1 : Int)), .int .i32 ((strip 1024 N).2 : Int)]) ∧ w = w' := by
  have hd : -(N : Int) < 0 := by omega
  have hw1 : wrap64 (N : Int) = N := by unfold wrap64; omega
  have hw2 : wrap64 (- -(N : Int)) = N := by rw [Int.neg_neg]; exact hw1
  have hb' := Lib.hid hb
  clear hb
  go_enter Tryz.func134, Tryz.ntmps134
  go_wp2_with fail
  replace hw1 := Lib.hid hw1
  replace hw2 := Lib.hid hw2
  go_loop [4, 5] (fun r t => ∃ n k : Nat, r = .int .i64 (n : Int) ∧ t = .int .i32 (k : Int) ∧ 0 < n ∧ k ≤ 63 ∧ Hid (Strips 1024 N n k ∧ n * 2 ^ k ≤ N)) (fun r _ => (intOf r).toNat)
  case atStart => exact ⟨N, 0, by rw [hw1.out], rfl, hN0, by omega, Strips.start hN0, by rw [Nat.pow_zero, Nat.mul_one]; exact Nat.le_refl _⟩
  case round =>
    obtain ⟨n, k, rfl, rfl, hn, hk, hS⟩ := hrel
    by_cases hz : n % 1024 = 0
    · obtain ⟨h1, h2⟩ := hS.out.1.step (by omega) hz
      have h3 := strips_half (b := 1024) (by omega) hS.out.2
      have h4 := strips_bound h3 h1.1 hb'.out
      have q1 : ((1024 : Int) ≤ (n : Int)) := by omega
      have q2 : ((n : Int) % 1024 == 0) = true := by rw [beq_iff_eq]; omega
      have q3 : Int.tdiv (n : Int) 1024 = ((n / 1024 : Nat) : Int) := by rw [Int.tdiv_eq_ediv_of_nonneg (by omega)]; rfl
      have hd0 := h1.1
      obtain ⟨m, hm⟩ : ∃ m, m = n / 1024 := ⟨_, rfl⟩
      rw [← hm] at h1 h2 h3 q3 hd0
      have hwm : wrap64 (m : Int) = m := by
        have a1 := Nat.le_mul_of_pos_right m (show 0 < 2 ^ (k + 1) from Nat.pow_pos (by omega))
        have a2 := hb'.out
        unfold wrap64; omega
      replace hwm := Lib.hid hwm
      have hH := Lib.hid (And.intro h1 h3)
      replace hm := Lib.hid hm
      replace hS := Lib.hid hS
      clear h1 h3 hz
      go_wp2_with fail
      go_round
      case rel => exact ⟨m, k + 1, by rw [hwm.out], rfl, hd0, h4, hH⟩
      case measure =>
        have hme : (intOf (.int .i64 (wrap64 (m : Int)))).toNat < (intOf (.int .i64 (n : Int))).toNat := by
          rw [hwm.out]
          show ((m : Int)).toNat < ((n : Int)).toNat
          rw [Int.toNat_natCast, Int.toNat_natCast]; exact h2
        exact hme
    · have hst := hS.out.1.stop hz
      have hnb : n ≤ 9223372036854775807 := by
        have h2 := hS.out.2
        have h3 : n ≤ n * 2 ^ k := Nat.le_mul_of_pos_right _ (Nat.pow_pos (by omega))
        have h4 := hb'.out
        omega
      have hw : wrap64 (-(n : Int)) = -(n : Int) := by unfold wrap64; omega
      have q2 : ((n : Int) % 1024 == 0) = false := by clear hw; rw [beq_eq_false_iff_ne]; omega
      replace hst := Lib.hid hst
      replace hnb := Lib.hid hnb
      replace hw := Lib.hid hw
      by_cases q1 : (1024 : Int) ≤ (n : Int)
      · go_wp2_with fail
        go_ret2
        exact ⟨ret_tup2 (by rw [hst.out]; first | exact hw.out | rfl) (by rw [hst.out]), rfl⟩
      · go_wp2_with fail
        go_ret2
        exact ⟨ret_tup2 (by rw [hst.out]) (by rw [hst.out]), rfl⟩
end Go.Proofs.YtcpjclakdpjjfaaGreatDoor

namespace Go.Proofs.YtcpjclakdpjjfaaGreatDoor
open Go.RowKit

theorem mul10_raw (a : Int) (h0 : a ≠ 0) (h1 : a ≠ 1) (hm : a ≠ -9223372036854775808) (w : World) :
    Calls Tryz.prog 135 #[.int .i64 a] w fun e w' => e = .returned (.tuple #[.int .i64 (wrap64 (a * 10)), .bool (wrap64 ((wrap64 (a * 10)).tdiv 10) == a)]) ∧ w = w' := by
  have b0 : (a == 0) = false := beq_eq_false_iff_ne.mpr h0
  have b1 : (a == 1) = false := beq_eq_false_iff_ne.mpr h1
  have bm : (a == -9223372036854775808) = false := beq_eq_false_iff_ne.mpr hm
  clear hm
  go_enter Tryz.func135, Tryz.ntmps135
  go_wp2_with fail
  go_ret2
  exact ⟨rfl, rfl⟩
theorem mul10_one (w : World) : Calls Tryz.prog 135 #[.int .i64 1] w fun e w' => e = .returned (.tuple #[.int .i64 10, .bool true]) ∧ w = w' := by
  go_enter Tryz.func135, Tryz.ntmps135
  go_wp2_with fail
  go_ret2
  exact ⟨rfl, rfl⟩
/-- A product by 10 that fits. -/
theorem mul10_fit (a : Int) (h0 : a ≠ 0) (h1 : -9223372036854775807 ≤ a * 10) (h2 : a * 10 ≤ 9223372036854775807) (w : World) :
    Calls Tryz.prog 135 #[.int .i64 a] w fun e w' => e = .returned (.tuple #[.int .i64 (a * 10), .bool true]) ∧ w = w' := by
  by_cases h : a = 1
  · subst h; exact mul10_one w
  · have F := (fit_div (a := a) (k := 10) (by omega) (by omega) h2).1
    rw [wr64] at F
    have G : Int.tdiv (a * 10) 10 = a := (fit_div (by omega) (by omega) h2).2
    have E : wrap64 a = a := by clear F; unfold wrap64; omega
    have R := mul10_raw a h0 h (by clear F E; omega) w
    rw [F, G, E, beq_self_eq_true] at R
    exact R
/-- A product by 10 that goes over. -/
theorem mul10_over (a : Int) (h0 : -9223372036854775807 ≤ a) (h1 : a ≤ 9223372036854775807) (h : ¬ (-9223372036854775808 ≤ a * 10 ∧ a * 10 ≤ 9223372036854775807)) (w : World) :
    Calls Tryz.prog 135 #[.int .i64 a] w fun e w' => (∃ c, e = .returned (.tuple #[.int .i64 c, .bool false])) ∧ w = w' := by
  have R := mul10_raw a (by omega) (by omega) (by omega) w
  have O := over_div (k := 10) (a := a) (by left; rfl) (by omega) h1 h
  rw [wr64] at O
  have hb : -9223372036854775808 ≤ wrap64 (a * 10) ∧ wrap64 (a * 10) ≤ 9223372036854775807 := by clear O R; unfold wrap64; omega
  obtain ⟨c, hc⟩ : ∃ c, c = wrap64 (a * 10) := ⟨_, rfl⟩
  rw [← hc] at R O hb
  have e := Int.mul_tdiv_add_tmod c 10
  have t1 := Int.tmod_lt_of_pos c (show (0 : Int) < 10 by omega)
  have t2 := Int.lt_tmod_of_pos c (show (0 : Int) < 10 by omega)
  have E : wrap64 (c.tdiv 10) = c.tdiv 10 := by clear R hc; unfold wrap64; omega
  have B : (wrap64 (c.tdiv 10) == a) = false := by rw [E]; exact beq_eq_false_iff_ne.mpr O
  rw [B] at R
  exact R.mono (fun e w' h => ⟨⟨c, h.1⟩, h.2⟩)

theorem mul100_raw (a : Int) (h0 : a ≠ 0) (h1 : a ≠ 1) (hm : a ≠ -9223372036854775808) (w : World) :
    Calls Tryz.prog 136 #[.int .i64 a] w fun e w' => e = .returned (.tuple #[.int .i64 (wrap64 (a * 100)), .bool (wrap64 ((wrap64 (a * 100)).tdiv 100) == a)]) ∧ w = w' := by
  have b0 : (a == 0) = false := beq_eq_false_iff_ne.mpr h0
  have b1 : (a == 1) = false := beq_eq_false_iff_ne.mpr h1
  have bm : (a == -9223372036854775808) = false := beq_eq_false_iff_ne.mpr hm
  clear hm
  go_enter Tryz.func136, Tryz.ntmps136
  go_wp2_with fail
  go_ret2
  exact ⟨rfl, rfl⟩
theorem mul100_one (w : World) : Calls Tryz.prog 136 #[.int .i64 1] w fun e w' => e = .returned (.tuple #[.int .i64 100, .bool true]) ∧ w = w' := by
  go_enter Tryz.func136, Tryz.ntmps136
  go_wp2_with fail
  go_ret2
  exact ⟨rfl, rfl⟩
/-- A product by 100 that fits. -/
theorem mul100_fit (a : Int) (h0 : a ≠ 0) (h1 : -9223372036854775807 ≤ a * 100) (h2 : a * 100 ≤ 9223372036854775807) (w : World) :
    Calls Tryz.prog 136 #[.int .i64 a] w fun e w' => e = .returned (.tuple #[.int .i64 (a * 100), .bool true]) ∧ w = w' := by
  by_cases h : a = 1
  · subst h; exact mul100_one w
  · have F := (fit_div (a := a) (k := 100) (by omega) (by omega) h2).1
    rw [wr64] at F
    have G : Int.tdiv (a * 100) 100 = a := (fit_div (by omega) (by omega) h2).2
    have E : wrap64 a = a := by clear F; unfold wrap64; omega
    have R := mul100_raw a h0 h (by clear F E; omega) w
    rw [F, G, E, beq_self_eq_true] at R
    exact R
/-- A product by 100 that goes over. -/
theorem mul100_over (a : Int) (h0 : -9223372036854775807 ≤ a) (h1 : a ≤ 9223372036854775807) (h : ¬ (-9223372036854775808 ≤ a * 100 ∧ a * 100 ≤ 9223372036854775807)) (w : World) :
    Calls Tryz.prog 136 #[.int .i64 a] w fun e w' => (∃ c, e = .returned (.tuple #[.int .i64 c, .bool false])) ∧ w = w' := by
  have R := mul100_raw a (by omega) (by omega) (by omega) w
  have O := over_div (k := 100) (a := a) (by right; rfl) (by omega) h1 h
  rw [wr64] at O
  have hb : -9223372036854775808 ≤ wrap64 (a * 100) ∧ wrap64 (a * 100) ≤ 9223372036854775807 := by clear O R; unfold wrap64; omega
  obtain ⟨c, hc⟩ : ∃ c, c = wrap64 (a * 100) := ⟨_, rfl⟩
  rw [← hc] at R O hb
  have e := Int.mul_tdiv_add_tmod c 100
  have t1 := Int.tmod_lt_of_pos c (show (0 : Int) < 100 by omega)
  have t2 := Int.lt_tmod_of_pos c (show (0 : Int) < 100 by omega)
  have E : wrap64 (c.tdiv 100) = c.tdiv 100 := by clear R hc; unfold wrap64; omega
  have B : (wrap64 (c.tdiv 100) == a) = false := by rw [E]; exact beq_eq_false_iff_ne.mpr O
  rw [B] at R
  exact R.mono (fun e w' h => ⟨⟨c, h.1⟩, h.2⟩)

/-- int64Amount.AsDec. -/
theorem asDec_any (u e : Int) (h1 : -9223372036854775808 ≤ u) (h2 : u ≤ 9223372036854775807) (e1 : -1000 ≤ e) (e2 : e ≤ 1000) (w : World) : Calls Tryz.prog 73 #[.agg #[.int .i64 u, .int .i32 e]] w (DecNew w u (-e)) := by
  obtain ⟨wb, hwb⟩ : ∃ wb, wb = w.alloc (.cells #[.int .i64 u, .int .i32 e] 33) := ⟨_, rfl⟩
  obtain ⟨wA, hwA⟩ : ∃ wA, wA = wb.alloc (.cells #[.bool false, .slice none 0 0, .int .i32 0] 73) := ⟨_, rfl⟩
  obtain ⟨pz, hpz⟩ : ∃ p, p = wb.heap.size := ⟨_, rfl⟩
  have hbs : wb.heap.size = w.heap.size + 1 := by rw [hwb]; simp
  have hbx := IntC.boxed3 wb 73 (.int .i32 0)
  rw [← hwA, ← hpz] at hbx
  have fb : Fr (fun _ => False) w wb := by rw [hwb]; exact Fr.alloc _ _ _
  have fA : Fr (fun _ => False) wb wA := by rw [hwA]; exact Fr.alloc _ _ _
  have k0 : wA.cell? ⟨w.heap.size, 0, none⟩ = some (.int .i64 u) := by
    rw [fA.cell (by show w.heap.size < _; omega) (fun f => f), hwb]; exact World.cell?_alloc_mark w #[.int .i64 u, .int .i32 e] 33 (0, 0) 0
  have k1 : wA.cell? ⟨w.heap.size, 1, none⟩ = some (.int .i32 e) := by
    rw [fA.cell (by show w.heap.size < _; omega) (fun f => f), hwb]; exact World.cell?_alloc_mark w #[.int .i64 u, .int .i32 e] 33 (0, 0) 1
  have U := Lib.hid (dSetUnscaled_any pz u 0 none h1 h2 wA ⟨false, _, 0, hbx.1, rfl⟩)
  have hzz := Lib.hid hbx.2
  have fwA := Lib.hid (fb.trans fA (fun _ _ h => h))
  have hlA : w.heap.size < wA.heap.size := by have := fA.size; omega
  clear hbx fb fA h1 h2
  have hwb' := Lib.hid hwb
  have hwA' := Lib.hid hwA
  go_enter Tryz.func73, Tryz.ntmps73
  go_wp2_with fail
  have hpz1 : w.heap.size + 1 = pz := by rw [hpz, hbs]
  rw [← hwb, ← hwA, hpz1]
  replace hwb := Lib.hid hwb
  replace hwA := Lib.hid hwA
  replace hpz := Lib.hid hpz
  replace hbs := Lib.hid hbs
  replace hpz1 := Lib.hid hpz1
  refine U.out.mono ?_
  rintro E w1 ⟨ob, rfl, hi, f, ho, hH⟩
  have f1 : Fr (fun k => k = pz) wA w1 := f.mono (fun k _ h => h.elim (fun e => e) (fun e => by cases e))
  have npz : w.heap.size ≠ pz := by have := hpz1.out; omega
  have k1' : w1.cell? ⟨w.heap.size, 1, none⟩ = some (.int .i32 e) := (f1.cell (p := ⟨w.heap.size, 1, none⟩) hlA npz).trans k1
  have A1 : Am w w1 pz u 0 := by
    have hs := fwA.out.size
    refine ⟨ob, ⟨hi, Eq.trans hH hzz.out⟩, fwA.out.trans f1 (fun i hi e => by have := hpz1.out; omega), by have := hpz1.out; omega, ?_⟩
    intro b hb
    rcases ho with e | ⟨c, e, hc⟩
    · rw [hb] at e; cases e
    · rw [hb] at e; have : b = c := Option.some.inj e; omega
  have S := Lib.hid (am_setScale A1 (-e))
  replace A1 := Lib.hid A1
  replace f1 := Lib.hid f1
  replace hi := Lib.hid hi
  replace ho := Lib.hid ho
  replace hH := Lib.hid hH
  clear U f k0 k1
  unfold ptr
  go_wp2_with fail
  refine S.out.mono ?_
  rintro E w2 ⟨rfl, A2⟩
  replace A2 := Lib.hid A2
  unfold ptr
  go_wp2_with fail
  go_ret
  obtain ⟨ob2, hd, g, hp, hb⟩ := A2.out
  exact ⟨pz, ob2, rfl, hd, g, hp, hb⟩
end Go.Proofs.YtcpjclakdpjjfaaGreatDoor

namespace Go.Proofs.YtcpjclakdpjjfaaGreatDoor
open Go.RowKit

set_option maxHeartbeats 2000000 in
theorem pow10_64 (b : Nat) (h : b < 18) (w : World) : Calls Tryz.prog 102 #[.int .i64 (b : Int)] w fun e w' => e = .returned (.int .i64 ((10 ^ b : Nat) : Int)) ∧ w = w' := by
  have hb : b = 0 ∨ b = 1 ∨ b = 2 ∨ b = 3 ∨ b = 4 ∨ b = 5 ∨ b = 6 ∨ b = 7 ∨ b = 8 ∨ b = 9 ∨ b = 10 ∨ b = 11 ∨ b = 12 ∨ b = 13 ∨ b = 14 ∨ b = 15 ∨ b = 16 ∨ b = 17 := by omega
  rcases hb with rfl | rfl | rfl | rfl | rfl | rfl | rfl | rfl | rfl | rfl | rfl | rfl | rfl | rfl | rfl | rfl | rfl | rfl
  all_goals
    go_enter Tryz.func102, Tryz.ntmps102
    go_wp2_with fail
    go_ret
    exact ⟨rfl, rfl⟩

/-- Division by a power of ten. -/
theorem divScale_ok (v : Int) (d : Nat) (h0 : 0 < d) (h1 : d < 18) (w : World) : Calls Tryz.prog 72 #[.int .i64 v, .int .i32 (d : Int)] w fun e w' =>
    e = .returned (.tuple #[.int .i64 (wrap64 (v.tdiv ((10 ^ d : Nat) : Int))), .int .i64 (v.tmod ((10 ^ d : Nat) : Int)), .bool true]) ∧ Dr w w' := by
  have P := Lib.hid (pow10_64 d h1 w)
  obtain ⟨D, hD⟩ : ∃ D, D = 10 ^ d := ⟨_, rfl⟩
  rw [← hD] at P ⊢
  have hDp : 0 < D := by rw [hD]; exact Nat.pow_pos (by omega)
  have hDz : ((D : Int) == 0) = false := beq_eq_false_iff_ne.mpr (by omega)
  have hDz2 : ¬ ((D : Int) = 0) := by omega
  have b0 : ((d : Int) == 0) = false := beq_eq_false_iff_ne.mpr (by omega)
  have hd1 : (d : Int) < 18 := by omega
  replace hD := Lib.hid hD
  go_enter Tryz.func72, Tryz.ntmps72
  go_wp2_with fail
  refine P.out.mono ?_
  rintro e w1 ⟨rfl, hw⟩
  subst hw
  clear P
  go_wp2_with fail
  go_quiet (fail)
  go_wp2_with fail
  refine bodyPost_ret (results_tmp3 rfl _ _ _) rfl ?_
  exact ⟨rfl, _, rfl⟩
theorem divScale_no (v : Int) (d : Nat) (h0 : 18 ≤ d) (h1 : d ≤ 1000) (w : World) : Calls Tryz.prog 72 #[.int .i64 v, .int .i32 (d : Int)] w fun e w' =>
    e = .returned (.tuple #[.int .i64 0, .int .i64 v, .bool false]) ∧ w = w' := by
  have b0 : ((d : Int) == 0) = false := beq_eq_false_iff_ne.mpr (by omega)
  have hd1 : (18 : Int) ≤ (d : Int) := by omega
  go_enter Tryz.func72, Tryz.ntmps72
  go_wp2_with fail
  refine bodyPost_ret (results_tmp3 rfl _ _ _) rfl ?_
  exact ⟨rfl, rfl⟩
end Go.Proofs.YtcpjclakdpjjfaaGreatDoor

namespace Go.Proofs.YtcpjclakdpjjfaaGreatDoor
open Go.RowKit

theorem two_boxes (w : World) (u1 e1 u2 e2 : Int) (o : Obj) (ho : o = .cells #[.int .i64 u1, .int .i32 e1] 33) (w1 : World) (hw1 : w1 = w.alloc o) (w2 : World) (hw2 : w2 = w1.alloc (.cells #[.int .i64 u2, .int .i32 e2] 33)) :
    w2.heap[w.heap.size]? = some (.cells #[.int .i64 u1, .int .i32 e1] 33 (0, 0)) ∧ w2.heap[w.heap.size + 1]? = some (.cells #[.int .i64 u2, .int .i32 e2] 33 (0, 0)) ∧ Fr (fun _ => False) w w2 := by
  have hs : w1.heap.size = w.heap.size + 1 := by rw [hw1]; simp
  have f1 : Fr (fun _ => False) w w1 := by rw [hw1]; exact Fr.alloc _ _ _
  have f2 : Fr (fun _ => False) w1 w2 := by rw [hw2]; exact Fr.alloc _ _ _
  refine ⟨?_, ?_, f1.trans f2 (fun _ _ h => h)⟩
  · rw [f2.block _ (by omega) (fun f => f), hw1, ho]; exact heap_alloc_new _ _
  · rw [hw2, ← hs]; exact heap_alloc_new _ _
theorem info33 : (Tryz.prog.info? 33).map (·.size) = some 2 := by kernel_rfl

set_option maxRecDepth 100000 in
set_option maxHeartbeats 2000000 in
theorem acmp_same (u1 u2 e : Int) (w : World) : Calls Tryz.prog 42 #[.agg #[.int .i64 u1, .int .i32 e], .agg #[.int .i64 u2, .int .i32 e]] w fun r w' => r = .returned (.int .i64 (cmpZ u1 u2)) ∧ Fr (fun _ => False) w w' := by
  have fA : Hid (∀ o1 o2, Fr (fun _ => False) w ((w.alloc o1).alloc o2)) := fun o1 o2 => (Fr.alloc (fun _ => False) w o1).trans (Fr.alloc (fun _ => False) _ o2) (fun _ _ h => h)
  by_cases h : u1 = u2
  · subst h
    have hc : cmpZ u1 u1 = 0 := by unfold cmpZ; rw [if_neg (by omega), if_pos rfl]
    rw [hc]
    clear hc
    go_enter Tryz.func42, Tryz.ntmps42
    go_wp2_with fail
    go_ret
    exact ⟨rfl, fA.out _ _⟩
  · have b1 : (u1 == u2) = false := beq_eq_false_iff_ne.mpr h
    by_cases hl : u1 < u2
    · have hc : cmpZ u1 u2 = -1 := by unfold cmpZ; rw [if_pos hl]
      rw [hc]
      clear hc
      go_enter Tryz.func42, Tryz.ntmps42
      go_wp2_with fail
      go_ret
      exact ⟨rfl, fA.out _ _⟩
    · have hc : cmpZ u1 u2 = 1 := by unfold cmpZ; rw [if_neg hl, if_neg h]
      rw [hc]
      clear hc
      go_enter Tryz.func42, Tryz.ntmps42
      go_wp2_with fail
      go_ret
      exact ⟨rfl, fA.out _ _⟩

set_option maxRecDepth 100000 in
set_option maxHeartbeats 2000000 in
theorem acmp_gt (u1 e1 u2 e2 : Int) (d : Nat) (h0 : 0 < d) (h1 : d < 18) (he : e1 = e2 + (d : Int)) (_b1 : -300 ≤ e1) (_b2 : e1 ≤ 300) (_b3 : -300 ≤ e2) (_b4 : e2 ≤ 300) (v1 : -9223372036854775807 ≤ u2) (v2 : u2 ≤ 9223372036854775807) (w : World) :
    Calls Tryz.prog 42 #[.agg #[.int .i64 u1, .int .i32 e1], .agg #[.int .i64 u2, .int .i32 e2]] w fun r w' =>
      r = .returned (.int .i64 (if u2.tdiv ((10 ^ d : Nat) : Int) = u1 then (if u2.tmod ((10 ^ d : Nat) : Int) = 0 then 0 else if 0 < u2.tmod ((10 ^ d : Nat) : Int) then -1 else 1) else if u1 < u2.tdiv ((10 ^ d : Nat) : Int) then -1 else 1)) ∧ Fr (fun _ => False) w w' := by
  have V := fun w => divScale_ok u2 d h0 h1 w
  obtain ⟨D, hD⟩ : ∃ D, D = 10 ^ d := ⟨_, rfl⟩
  rw [← hD] at V ⊢
  have hDp : 0 < D := by rw [hD]; exact Nat.pow_pos (by omega)
  obtain ⟨q, hq⟩ : ∃ q, q = u2.tdiv (D : Int) := ⟨_, rfl⟩
  obtain ⟨m, hm⟩ : ∃ q, q = u2.tmod (D : Int) := ⟨_, rfl⟩
  have hqw : wrap64 q = q := by
    have : q.natAbs ≤ u2.natAbs := by rw [hq, Int.natAbs_tdiv]; exact Nat.div_le_self _ _
    unfold wrap64; omega
  rw [← hq, ← hm, hqw] at V
  rw [← hq, ← hm]
  obtain ⟨RES, hRES⟩ : ∃ R : Int, R = if q = u1 then (if m = 0 then 0 else if 0 < m then -1 else 1) else if u1 < q then -1 else 1 := ⟨_, rfl⟩
  rw [← hRES]
  replace hRES := Lib.hid hRES
  have hqw' := Lib.hid hqw
  have V' := Lib.hid V
  have hd : e1 - e2 = (d : Int) := by omega
  have ne1 : (e1 == e2) = false := beq_eq_false_iff_ne.mpr (by omega)
  have gte : e2 < e1 := by omega
  obtain ⟨w1, hw1⟩ : ∃ w1, w1 = w.alloc (.cells #[.int .i64 u1, .int .i32 e1] 33) := ⟨_, rfl⟩
  obtain ⟨w2, hw2⟩ : ∃ w2, w2 = w1.alloc (.cells #[.int .i64 u2, .int .i32 e2] 33) := ⟨_, rfl⟩
  obtain ⟨t1, t2, t3⟩ := two_boxes w u1 e1 u2 e2 _ rfl w1 hw1 w2 hw2
  clear V hqw hq hm v1 v2 he
  replace hD := Lib.hid hD
  replace hd' := Lib.hid hd
  go_enter Tryz.func42, Tryz.ntmps42
  go_wp2_with fail
  rw [← hw1, ← hw2]
  replace hd := Lib.hid hd
  replace hw1 := Lib.hid hw1
  replace hw2 := Lib.hid hw2
  refine (V'.out _).mono ?_
  rintro r w3 ⟨rfl, nd, rfl⟩
  have F3 := Lib.hid (t3.trans (Fr.drewN (fun _ => False) w2 nd) (fun _ _ h => h))
  have r1 : (w2.drewN nd).heap[w.heap.size]? = some (.cells #[.int .i64 u1, .int .i32 e1] 33 (0, 0)) := t1
  have r2 : (w2.drewN nd).heap[w.heap.size + 1]? = some (.cells #[.int .i64 u2, .int .i32 e2] 33 (0, 0)) := t2
  obtain ⟨w3, hw3⟩ : ∃ w3, w3 = w2.drewN nd := ⟨_, rfl⟩
  rw [← hw3] at F3 r1 r2 ⊢
  have c1 : w3.cell? ⟨w.heap.size, 0, none⟩ = some (.int .i64 u1) := cell_of_row w3 w.heap.size 0 _ _ _ r1
  have c2 : w3.cell? ⟨w.heap.size + 1, 0, none⟩ = some (.int .i64 u2) := cell_of_row w3 (w.heap.size + 1) 0 _ _ _ r2
  have z1 := frozen_of_row w3 w.heap.size 0 _ _ r1
  have z2 := frozen_of_row w3 (w.heap.size + 1) 0 _ _ r2
  have FS : Hid (∀ x, Fr (fun _ => False) w (w3.setCell ⟨w.heap.size + 1, 0, none⟩ (.int .i64 x))) := fun x => F3.out.trans (Fr.setCell (S := fun k => w.heap.size ≤ k) w3 ⟨w.heap.size + 1, 0, none⟩ _ (fun _ => by show w.heap.size ≤ w.heap.size + 1; omega)) (fun i hi e => by have e : w.heap.size ≤ i := e; omega)
  replace hw3 := Lib.hid hw3
  clear V' t1 t2 t3 r1 r2
  by_cases hqa : q = u1
  · have bq : (q == u1) = true := beq_iff_eq.mpr hqa
    replace hqa := Lib.hid hqa
    by_cases hm0 : m = 0
    · have bm : (m == 0) = true := beq_iff_eq.mpr hm0
      have hR := Lib.hid (show RES = 0 from by rw [hRES.out, if_pos hqa.out, if_pos hm0])
      replace hm0 := Lib.hid hm0
      go_wp2_with fail
      go_ret
      exact ⟨ret_int hR.out.symm, F3.out⟩
    · have bm : (m == 0) = false := beq_eq_false_iff_ne.mpr hm0
      by_cases hmp : 0 < m
      · have hR := Lib.hid (show RES = -1 from by rw [hRES.out, if_pos hqa.out, if_neg hm0, if_pos hmp])
        go_wp2_with fail
        go_ret
        exact ⟨ret_int hR.out.symm, F3.out⟩
      · have hR := Lib.hid (show RES = 1 from by rw [hRES.out, if_pos hqa.out, if_neg hm0, if_neg hmp])
        go_wp2_with fail
        go_ret
        exact ⟨ret_int hR.out.symm, F3.out⟩
  · have bq : (q == u1) = false := beq_eq_false_iff_ne.mpr hqa
    have bq2 : (u1 == q) = false := beq_eq_false_iff_ne.mpr (fun e => hqa (by omega))
    replace hqa := Lib.hid hqa
    by_cases hl : u1 < q
    · have hR := Lib.hid (show RES = -1 from by rw [hRES.out, if_neg hqa.out, if_pos hl])
      go_wp2_with fail
      go_ret
      exact ⟨ret_int hR.out.symm, FS.out _⟩
    · have hR := Lib.hid (show RES = 1 from by rw [hRES.out, if_neg hqa.out, if_neg hl])
      go_wp2_with fail
      go_ret
      exact ⟨ret_int hR.out.symm, FS.out _⟩

set_option maxRecDepth 100000 in
set_option maxHeartbeats 2000000 in
theorem acmp_lt (u1 e1 u2 e2 : Int) (d : Nat) (h0 : 0 < d) (h1 : d < 18) (he : e2 = e1 + (d : Int)) (_b1 : -300 ≤ e1) (_b2 : e1 ≤ 300) (_b3 : -300 ≤ e2) (_b4 : e2 ≤ 300) (v1 : -9223372036854775807 ≤ u1) (v2 : u1 ≤ 9223372036854775807) (w : World) :
    Calls Tryz.prog 42 #[.agg #[.int .i64 u1, .int .i32 e1], .agg #[.int .i64 u2, .int .i32 e2]] w fun r w' =>
      r = .returned (.int .i64 (if u1.tdiv ((10 ^ d : Nat) : Int) = u2 then (if u1.tmod ((10 ^ d : Nat) : Int) = 0 then 0 else if 0 < u1.tmod ((10 ^ d : Nat) : Int) then 1 else -1) else if u1.tdiv ((10 ^ d : Nat) : Int) < u2 then -1 else 1)) ∧ Fr (fun _ => False) w w' := by
  have V := fun w => divScale_ok u1 d h0 h1 w
  obtain ⟨D, hD⟩ : ∃ D, D = 10 ^ d := ⟨_, rfl⟩
  rw [← hD] at V ⊢
  have hDp : 0 < D := by rw [hD]; exact Nat.pow_pos (by omega)
  obtain ⟨q, hq⟩ : ∃ q, q = u1.tdiv (D : Int) := ⟨_, rfl⟩
  obtain ⟨m, hm⟩ : ∃ q, q = u1.tmod (D : Int) := ⟨_, rfl⟩
  have hqw : wrap64 q = q := by
    have : q.natAbs ≤ u1.natAbs := by rw [hq, Int.natAbs_tdiv]; exact Nat.div_le_self _ _
    unfold wrap64; omega
  rw [← hq, ← hm, hqw] at V
  rw [← hq, ← hm]
  obtain ⟨RES, hRES⟩ : ∃ R : Int, R = if q = u2 then (if m = 0 then 0 else if 0 < m then 1 else -1) else if q < u2 then -1 else 1 := ⟨_, rfl⟩
  rw [← hRES]
  replace hRES := Lib.hid hRES
  have hqw' := Lib.hid hqw
  have V' := Lib.hid V
  have hd : e2 - e1 = (d : Int) := by omega
  have ne1 : (e1 == e2) = false := beq_eq_false_iff_ne.mpr (by omega)
  have gte : ¬ (e2 < e1) := by omega
  obtain ⟨w1, hw1⟩ : ∃ w1, w1 = w.alloc (.cells #[.int .i64 u1, .int .i32 e1] 33) := ⟨_, rfl⟩
  obtain ⟨w2, hw2⟩ : ∃ w2, w2 = w1.alloc (.cells #[.int .i64 u2, .int .i32 e2] 33) := ⟨_, rfl⟩
  obtain ⟨t1, t2, t3⟩ := two_boxes w u1 e1 u2 e2 _ rfl w1 hw1 w2 hw2
  clear V hqw hq hm v1 v2 he
  replace hD := Lib.hid hD
  replace hd' := Lib.hid hd
  go_enter Tryz.func42, Tryz.ntmps42
  go_wp2_with fail
  rw [← hw1, ← hw2]
  replace hd := Lib.hid hd
  replace hw1 := Lib.hid hw1
  replace hw2 := Lib.hid hw2
  refine (V'.out _).mono ?_
  rintro r w3 ⟨rfl, nd, rfl⟩
  have F3 := Lib.hid (t3.trans (Fr.drewN (fun _ => False) w2 nd) (fun _ _ h => h))
  have r1 : (w2.drewN nd).heap[w.heap.size]? = some (.cells #[.int .i64 u1, .int .i32 e1] 33 (0, 0)) := t1
  have r2 : (w2.drewN nd).heap[w.heap.size + 1]? = some (.cells #[.int .i64 u2, .int .i32 e2] 33 (0, 0)) := t2
  obtain ⟨w3, hw3⟩ : ∃ w3, w3 = w2.drewN nd := ⟨_, rfl⟩
  rw [← hw3] at F3 r1 r2 ⊢
  have c1 : w3.cell? ⟨w.heap.size, 0, none⟩ = some (.int .i64 u1) := cell_of_row w3 w.heap.size 0 _ _ _ r1
  have c2 : w3.cell? ⟨w.heap.size + 1, 0, none⟩ = some (.int .i64 u2) := cell_of_row w3 (w.heap.size + 1) 0 _ _ _ r2
  have z1 := frozen_of_row w3 w.heap.size 0 _ _ r1
  have z2 := frozen_of_row w3 (w.heap.size + 1) 0 _ _ r2
  have FS : Hid (∀ x, Fr (fun _ => False) w (w3.setCell ⟨w.heap.size, 0, none⟩ (.int .i64 x))) := fun x => F3.out.trans (Fr.setCell (S := fun k => w.heap.size ≤ k) w3 ⟨w.heap.size, 0, none⟩ _ (fun _ => by show w.heap.size ≤ w.heap.size; omega)) (fun i hi e => by have e : w.heap.size ≤ i := e; omega)
  replace hw3 := Lib.hid hw3
  clear V' t1 t2 t3 r1 r2
  by_cases hqa : q = u2
  · have bq : (q == u2) = true := beq_iff_eq.mpr hqa
    replace hqa := Lib.hid hqa
    by_cases hm0 : m = 0
    · have bm : (m == 0) = true := beq_iff_eq.mpr hm0
      have hR := Lib.hid (show RES = 0 from by rw [hRES.out, if_pos hqa.out, if_pos hm0])
      replace hm0 := Lib.hid hm0
      go_wp2_with fail
      go_ret
      exact ⟨ret_int hR.out.symm, F3.out⟩
    · have bm : (m == 0) = false := beq_eq_false_iff_ne.mpr hm0
      by_cases hmp : 0 < m
      · have hR := Lib.hid (show RES = 1 from by rw [hRES.out, if_pos hqa.out, if_neg hm0, if_pos hmp])
        go_wp2_with fail
        go_ret
        exact ⟨ret_int hR.out.symm, F3.out⟩
      · have hR := Lib.hid (show RES = -1 from by rw [hRES.out, if_pos hqa.out, if_neg hm0, if_neg hmp])
        go_wp2_with fail
        go_ret
        exact ⟨ret_int hR.out.symm, F3.out⟩
  · have bq : (q == u2) = false := beq_eq_false_iff_ne.mpr hqa
    have bq2 : (q == u2) = false := beq_eq_false_iff_ne.mpr (fun e => hqa (by omega))
    replace hqa := Lib.hid hqa
    by_cases hl : q < u2
    · have hR := Lib.hid (show RES = -1 from by rw [hRES.out, if_neg hqa.out, if_pos hl])
      go_wp2_with fail
      go_ret
      exact ⟨ret_int hR.out.symm, FS.out _⟩
    · have hR := Lib.hid (show RES = 1 from by rw [hRES.out, if_neg hqa.out, if_neg hl])
      go_wp2_with fail
      go_ret
      exact ⟨ret_int hR.out.symm, FS.out _⟩
end Go.Proofs.YtcpjclakdpjjfaaGreatDoor


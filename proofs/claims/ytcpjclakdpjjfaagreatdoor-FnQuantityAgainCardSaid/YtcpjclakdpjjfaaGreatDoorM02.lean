/-
  A part of the proof of FnQuantityAgain (texts Wm, Div, Dw of mine, joined).
-/
import Derived.Test.YtcpjclakdpjjfaaGreatDoorM01
import Derived.Lib.ItoaNum
import Derived.WalkSpells
import Derived.Deep.DeepCutAuto
import Derived.Deep.CutBlock
import Derived.WalkLawsBesides
import Derived.Deep.QuietTactic
import Derived.BigQuiet
namespace Go.Proofs.YtcpjclakdpjjfaaGreatDoor

theorem div_unique {a b q : Nat} (h1 : q * b ≤ a) (h2 : a < (q + 1) * b) : a / b = q := by
  have hb : 0 < b := by
    rcases Nat.eq_zero_or_pos b with rfl | h
    · simp at h2
    · exact h
  apply Nat.le_antisymm
  · exact Nat.le_of_lt_succ ((Nat.div_lt_iff_lt_mul hb).2 h2)
  · exact (Nat.le_div_iff_mul_le hb).2 h1

/-- One step of the division by halves: digits to the base b, y = y1*b + y0, a guess q1 of the digit of u*b + u1 by y, with the rest r of u by y1. -/
structure Guess (b u u1 y1 y0 q1 r : Nat) : Prop where
  split : q1 * y1 + r = u
  above : (u * b + u1) / (y1 * b + y0) ≤ q1

theorem Guess.start {b u u1 y1 y0 : Nat} (hy1 : 0 < y1) (hb : u1 < b) : Guess b u u1 y1 y0 (u / y1) (u % y1) := by
  refine ⟨by rw [Nat.mul_comm]; exact Nat.div_add_mod u y1, ?_⟩
  have hpos : 0 < y1 * b := Nat.mul_pos hy1 (by omega)
  apply Nat.le_of_lt_succ
  rw [Nat.div_lt_iff_lt_mul (by omega)]
  have h1 : u < (u / y1 + 1) * y1 := by
    have h1 := Nat.div_add_mod u y1
    have h2 := Nat.mod_lt u hy1
    have h3 : (u / y1 + 1) * y1 = y1 * (u / y1) + y1 := by rw [Nat.add_mul, Nat.one_mul, Nat.mul_comm]
    omega
  have h2 : (u + 1) * b ≤ (u / y1 + 1) * y1 * b := Nat.mul_le_mul_right b h1
  have h3 : (u + 1) * b = u * b + b := by rw [Nat.add_mul, Nat.one_mul]
  have h4 : (u / y1 + 1) * (y1 * b + y0) = (u / y1 + 1) * y1 * b + (u / y1 + 1) * y0 := by rw [Nat.mul_add, Nat.mul_assoc]
  have h5 : (u / y1).succ = u / y1 + 1 := rfl
  rw [h5, h4]
  omega

theorem Guess.down {b u u1 y1 y0 q1 r : Nat} (h : Guess b u u1 y1 y0 q1 r) (hq : (u * b + u1) / (y1 * b + y0) < b)
    (hy : 0 < y1 * b + y0) (ht : b ≤ q1 ∨ b * r + u1 < q1 * y0) : 0 < q1 ∧ Guess b u u1 y1 y0 (q1 - 1) (r + y1) := by
  have hlt : (u * b + u1) / (y1 * b + y0) < q1 := by
    rcases ht with ht | ht
    · exact Nat.lt_of_lt_of_le hq ht
    · rw [Nat.div_lt_iff_lt_mul hy]
      have h1 : q1 * (y1 * b + y0) = q1 * y1 * b + q1 * y0 := by rw [Nat.mul_add, Nat.mul_assoc]
      have h2 : u * b = q1 * y1 * b + r * b := by rw [← h.split, Nat.add_mul]
      have h3 : b * r = r * b := Nat.mul_comm _ _
      omega
  have hp : 0 < q1 := Nat.lt_of_le_of_lt (Nat.zero_le _) hlt
  refine ⟨hp, ⟨?_, Nat.le_sub_one_of_lt hlt⟩⟩
  obtain ⟨k, rfl⟩ : ∃ k, q1 = k + 1 := ⟨q1 - 1, by omega⟩
  have := h.split
  rw [Nat.add_mul, Nat.one_mul] at this
  simp only [Nat.add_sub_cancel]
  omega

theorem Guess.hit {b u u1 y1 y0 q1 r : Nat} (h : Guess b u u1 y1 y0 q1 r) (hy : 0 < y1 * b + y0) (ht : q1 * y0 ≤ b * r + u1) :
    q1 = (u * b + u1) / (y1 * b + y0) := by
  apply Nat.le_antisymm _ h.above
  rw [Nat.le_div_iff_mul_le hy]
  have h1 : q1 * (y1 * b + y0) = q1 * y1 * b + q1 * y0 := by rw [Nat.mul_add, Nat.mul_assoc]
  have h2 : u * b = q1 * y1 * b + r * b := by rw [← h.split, Nat.add_mul]
  have h3 : b * r = r * b := Nat.mul_comm _ _
  omega

/-- A guess is at most one above the base, where the divisor's first digit is at least half of it. -/
theorem guess_le {b u y1 y0 : Nat} (hy : u < y1 * b + y0) (hn : b ≤ 2 * y1) (h0 : y0 < b) : u / y1 ≤ b + 1 := by
  have hy1 : 0 < y1 := by omega
  apply Nat.le_of_lt_succ
  rw [Nat.div_lt_iff_lt_mul hy1]
  have : (b + 1).succ * y1 = y1 * b + 2 * y1 := by
    show (b + 1 + 1) * y1 = _
    rw [Nat.mul_comm]
    simp only [Nat.mul_add]; omega
  omega

theorem guess_far {b q1 r u1 y0 : Nat} (hq : q1 ≤ b + 1) (h0 : y0 < b) (hr : b ≤ r) : q1 * y0 ≤ b * r + u1 := by
  have h1 : q1 * y0 ≤ (b + 1) * (b - 1) := Nat.mul_le_mul hq (by omega)
  have h2 : b * b ≤ b * r := Nat.mul_le_mul_left b hr
  have h3 : (b + 1) * (b - 1) ≤ b * b := by
    obtain ⟨k, rfl⟩ : ∃ k, b = k + 1 := ⟨b - 1, by omega⟩
    simp only [Nat.add_sub_cancel, Nat.add_mul, Nat.mul_add]
    omega
  omega

/-- The division by a reciprocal: v = (W*W - 1)/d, d normalized; the guess t = (x1*v + x0)/W of (x1*W + x0)/d is at most it, and the rest that it leaves is below W + d. -/
theorem recip_guess {W d v x1 x0 : Nat} (hd : 0 < d) (hdW : d < W) (hv : v = (W * W - 1) / d) (hx1 : x1 < d) (hx0 : x0 < W) :
    ((x1 * v + x0) / W) * d ≤ x1 * W + x0 ∧ x1 * W + x0 < ((x1 * v + x0) / W) * d + (W + d) := by
  have hW : 0 < W := by omega
  have hWW : 0 < W * W := Nat.mul_pos hW hW
  -- v*d ≤ W*W - 1 < (v+1)*d
  have v1 : v * d ≤ W * W - 1 := by rw [hv]; exact Nat.div_mul_le_self _ _
  have v2 : W * W ≤ v * d + d := by
    have := Nat.lt_div_mul_add (a := W * W - 1) hd
    rw [← hv] at this; omega
  generalize ht : (x1 * v + x0) / W = t
  have t1 : t * W ≤ x1 * v + x0 := by rw [← ht]; exact Nat.div_mul_le_self _ _
  have t2 : x1 * v + x0 < t * W + W := by
    have := Nat.lt_div_mul_add (a := x1 * v + x0) hW
    rw [ht] at this; exact this
  constructor
  · -- t*d*W ≤ (x1*v + x0)*d ≤ x1*(W*W - 1) + x0*d ≤ (x1*W + x0)*W
    refine Nat.le_of_mul_le_mul_right (c := W) ?_ hW
    have a1 : t * d * W ≤ (x1 * v + x0) * d := by
      have := Nat.mul_le_mul_right d t1
      calc t * d * W = t * W * d := by rw [Nat.mul_assoc, Nat.mul_comm d W, ← Nat.mul_assoc]
        _ ≤ _ := this
    have a2 : (x1 * v + x0) * d = x1 * (v * d) + x0 * d := by rw [Nat.add_mul, Nat.mul_assoc]
    have a3 : x1 * (v * d) ≤ x1 * (W * W) := Nat.mul_le_mul_left _ (by omega)
    have a4 : x0 * d ≤ x0 * W := Nat.mul_le_mul_left _ (by omega)
    have a5 : (x1 * W + x0) * W = x1 * (W * W) + x0 * W := by rw [Nat.add_mul, Nat.mul_assoc]
    omega
  · -- (x1*W + x0)*W < (t*d + W + d)*W
    apply Nat.lt_of_mul_lt_mul_right (a := W)
    have a1 : (x1 * v + x0 + 1) * d ≤ (t * W + W) * d := Nat.mul_le_mul_right d t2
    have a2 : (x1 * v + x0 + 1) * d = x1 * (v * d) + x0 * d + d := by rw [Nat.add_mul, Nat.add_mul, Nat.mul_assoc, Nat.one_mul]
    have a3 : x1 * (W * W) ≤ x1 * (v * d) + x1 * d := by rw [← Nat.mul_add]; exact Nat.mul_le_mul_left _ v2
    have a5 : (x1 * W + x0) * W = x1 * (W * W) + x0 * W := by rw [Nat.add_mul, Nat.mul_assoc]
    have a6 : (t * d + (W + d)) * W = (t * W + W) * d + W * W := by
      simp only [Nat.add_mul]
      rw [Nat.mul_assoc t d W, Nat.mul_comm d W, ← Nat.mul_assoc t W d]
      omega
    -- x0*W + x1*d < W*W + x0*d + d
    have a7 : x0 * W + x1 * d < W * W + x0 * d + d := by
      have e1 : x0 * (W - d) ≤ (W - 1) * (W - d) := Nat.mul_le_mul_right _ (by omega)
      have e2 : x0 * (W - d) = x0 * W - x0 * d := Nat.mul_sub _ _ _
      have e3 : (W - 1) * (W - d) = (W - 1) * W - (W - 1) * d := Nat.mul_sub _ _ _
      have e4 : x1 * d ≤ (W - 1) * d := Nat.mul_le_mul_right _ (by omega)
      have e5 : (W - 1) * d ≤ (W - 1) * W := Nat.mul_le_mul_left _ (by omega)
      have e6 : x0 * d ≤ x0 * W := Nat.mul_le_mul_left _ (by omega)
      have e7 : (W - 1) * W + W = W * W := by
        obtain ⟨k, rfl⟩ : ∃ k, W = k + 1 := ⟨W - 1, by omega⟩
        simp only [Nat.add_sub_cancel, Nat.add_mul, Nat.mul_add]; omega
      omega
    omega

theorem W64_eq : W64 = 2 ^ 64 := rfl
theorem W64_sq : W64 = 4294967296 * 4294967296 := rfl

theorem lz_norm {y : Nat} (h0 : 0 < y) (h : y < W64) : Lib.bitLen y ≤ 64 ∧ 1 ≤ Lib.bitLen y ∧ 2 ^ 63 ≤ y * 2 ^ (64 - Lib.bitLen y) ∧ y * 2 ^ (64 - Lib.bitLen y) < W64 := by
  have hle : Lib.bitLen y ≤ 64 := Lib.bitLen_le y 64 (Nat.le_refl _) h
  obtain ⟨b1, b2, b3⟩ := Lib.bitLenAux_bounds 64 y h (by omega)
  have b1' : 1 ≤ Lib.bitLen y := b1
  have b2' : 2 ^ (Lib.bitLen y - 1) ≤ y := b2
  have b3' : y < 2 ^ Lib.bitLen y := b3
  refine ⟨hle, b1', ?_, ?_⟩
  · have : 2 ^ 63 = 2 ^ (Lib.bitLen y - 1) * 2 ^ (64 - Lib.bitLen y) := by rw [← Nat.pow_add]; congr 1; omega
    rw [this]; exact Nat.mul_le_mul_right _ b2'
  · have : W64 = 2 ^ Lib.bitLen y * 2 ^ (64 - Lib.bitLen y) := by rw [← Nat.pow_add, W64_eq]; congr 1; omega
    rw [this]; exact Nat.mul_lt_mul_of_pos_right b3' (Nat.two_pow_pos _)

theorem pow_split {s : Nat} (hs : s ≤ 64) : 2 ^ (64 - s) * 2 ^ s = W64 := by rw [← Nat.pow_add, W64_eq]; congr 1; omega

theorem shl_split {lo s : Nat} (hs : s ≤ 64) : lo * 2 ^ s / W64 = lo / 2 ^ (64 - s) := by
  rw [← pow_split hs, Nat.mul_div_mul_right _ _ (Nat.two_pow_pos s)]

theorem shl_top {hi lo s : Nat} (hs : s ≤ 64) : (hi * 2 ^ s + lo / 2 ^ (64 - s)) * W64 + lo * 2 ^ s % W64 = (hi * W64 + lo) * 2 ^ s := by
  have h := Nat.div_add_mod (lo * 2 ^ s) W64
  rw [shl_split hs] at h
  have e : hi * 2 ^ s * W64 = hi * W64 * 2 ^ s := by rw [Nat.mul_assoc, Nat.mul_comm (2 ^ s), ← Nat.mul_assoc]
  rw [Nat.add_mul, Nat.add_mul, e, Nat.mul_comm (lo / _) W64]
  omega

theorem lo_top_lt {lo s : Nat} (hlo : lo < W64) (hs : s ≤ 64) : lo / 2 ^ (64 - s) < 2 ^ s := by
  rw [Nat.div_lt_iff_lt_mul (Nat.two_pow_pos _), Nat.mul_comm, pow_split hs]; exact hlo

theorem top_lt {hi lo y s : Nat} (hh : hi < y) (hlo : lo < W64) (hs : s ≤ 64) : hi * 2 ^ s + lo / 2 ^ (64 - s) < y * 2 ^ s := by
  have h1 := lo_top_lt hlo hs
  have h2 : (hi + 1) * 2 ^ s ≤ y * 2 ^ s := Nat.mul_le_mul_right _ hh
  rw [Nat.add_mul, Nat.one_mul] at h2
  omega

/-- Two digits of a quotient, one behind the other. -/
theorem two_digits {b u l1 l0 Y : Nat} (hY : 0 < Y) :
    ((u * b + l1) / Y) * b + (((u * b + l1) % Y) * b + l0) / Y = ((u * b + l1) * b + l0) / Y ∧ (((u * b + l1) % Y) * b + l0) % Y = ((u * b + l1) * b + l0) % Y := by
  have h := Nat.div_add_mod (u * b + l1) Y
  generalize (u * b + l1) / Y = q at *
  generalize (u * b + l1) % Y = v at *
  have e : (u * b + l1) * b + l0 = q * b * Y + (v * b + l0) := by
    rw [← h, Nat.add_mul, Nat.mul_comm Y q, Nat.mul_assoc, Nat.mul_comm Y b, ← Nat.mul_assoc]; omega
  rw [e]
  constructor
  · rw [Nat.mul_comm (q * b) Y, Nat.mul_add_div hY]
  · rw [Nat.mul_comm (q * b) Y, Nat.mul_add_mod]

theorem digit_lt {b u l1 Y : Nat} (hu : u < Y) (hl : l1 < b) : (u * b + l1) / Y < b := by
  rw [Nat.div_lt_iff_lt_mul (by omega)]
  have : (u + 1) * b ≤ Y * b := Nat.mul_le_mul_right _ hu
  rw [Nat.add_mul, Nat.one_mul] at this
  rw [Nat.mul_comm b Y]; omega

theorem shifted_div {N y s : Nat} : N * 2 ^ s / (y * 2 ^ s) = N / y := Nat.mul_div_mul_right _ _ (Nat.two_pow_pos s)
theorem shifted_mod {N y s : Nat} : N * 2 ^ s % (y * 2 ^ s) / 2 ^ s = N % y := by
  rw [Nat.mul_mod_mul_right, Nat.mul_div_cancel _ (Nat.two_pow_pos s)]

end Go.Proofs.YtcpjclakdpjjfaaGreatDoor

namespace Go.Proofs.YtcpjclakdpjjfaaGreatDoor
open Go.RowKit
def dvQ (hi lo y : Nat) : Nat := (hi * W64 + lo) / y
def dvR (hi lo y : Nat) : Nat := (hi * W64 + lo) % y

theorem bits_LZ64 (x : Nat) (hx : x < W64) (w : World) :
    Calls Tryz.prog 240 #[.int .u64 (x : Int)] w fun e w' => e = .returned (.int .i64 (64 - (Lib.bitLen x : Int))) ∧ w = w' := by
  refine (Tryz.bits_LeadingZeros64 x w (by omega) (by unfold W64 at hx; omega)).mono fun _ _ ⟨he, hw⟩ => ⟨?_, hw.symm⟩
  rw [he, Int.toNat_natCast]

set_option maxHeartbeats 1000000 in
theorem bitsDiv64_slow (hi lo y s : Nat) (hh : hi < y) (h0 : 0 < hi) (hlo : lo < W64) (hy : y < W64) (hs : s = 64 - Lib.bitLen y) (w : World) :
    Calls Tryz.prog 230 #[.int .u64 (hi : Int), .int .u64 (lo : Int), .int .u64 (y : Int)] w fun e w' => e = .returned (.tuple #[.int .u64 ((dvQ hi lo y : Nat) : Int), .int .u64 ((dvR hi lo y : Nat) : Int)]) ∧ w = w' := by
  obtain ⟨n1, n2, n3, n4⟩ := lz_norm (y := y) (by omega) hy
  rw [← hs] at n3 n4
  have hz := bits_LZ64 y hy w
  have hs' : (64 - (Lib.bitLen y : Int)) = (s : Int) := by omega
  rw [hs'] at hz
  have hs64 : s ≤ 64 := by omega
  clear hs hs' n1 n2
  have e1 : ((y : Int) == 0) = false := by simp; omega
  have e2 : ((hi : Int) == 0) = false := by simp; omega
  have hut := top_lt hh hlo hs64
  have hlt := lo_top_lt hlo hs64
  have hN := @shl_top hi lo s hs64
  obtain ⟨Y, hY⟩ : ∃ Y : Nat, Y = y * 2 ^ s := ⟨_, rfl⟩
  obtain ⟨hp, hhp⟩ : ∃ hp : Nat, hp = hi * 2 ^ s := ⟨_, rfl⟩
  obtain ⟨lt, hlt'⟩ : ∃ lt : Nat, lt = lo / 2 ^ (64 - s) := ⟨_, rfl⟩
  obtain ⟨l, hl⟩ : ∃ l : Nat, l = lo * 2 ^ s % W64 := ⟨_, rfl⟩
  obtain ⟨u, hu⟩ : ∃ u : Nat, u = hp + lt := ⟨_, rfl⟩
  rw [← hY] at n3 n4 hut
  rw [← hhp, ← hlt', ← hu] at hut hN
  rw [← hlt'] at hlt
  rw [← hl] at hN
  have hll : l < W64 := by rw [hl]; exact Nat.mod_lt _ W64_pos
  have E1 : IntKind.u64.wrap ((y : Int) * 2 ^ s) = (Y : Int) := by
    rw [show (y : Int) * 2 ^ s = ((y * 2 ^ s : Nat) : Int) by simp, ← hY]; exact wrapu _ n4
  have E4 : bits .or .u64 (IntKind.u64.wrap ((hi : Int) * 2 ^ s)) ((lo : Int) / 2 ^ (64 - s)) = (u : Int) := by
    rw [show (hi : Int) * 2 ^ s = ((hi * 2 ^ s : Nat) : Int) by simp, show (lo : Int) / 2 ^ (64 - s) = ((lo / 2 ^ (64 - s) : Nat) : Int) by simp, ← hhp, ← hlt', wrapu _ (by omega),
      bits_or_u64_nat _ _ (by unfold W64 at n4; omega) (by unfold W64 at n4; omega), hu, hhp, ← Nat.shiftLeft_eq, ← Nat.shiftLeft_add_eq_or_of_lt hlt]
  have E5 : IntKind.u64.wrap ((lo : Int) * 2 ^ s) = (l : Int) := by
    rw [show (lo : Int) * 2 ^ s = ((lo * 2 ^ s : Nat) : Int) by simp, wrapu_mod, hl]; simp
  have hdiv : dvQ hi lo y = (u * W64 + l) / Y := by unfold dvQ; rw [hN, hY, shifted_div]
  have hmod : dvR hi lo y = (u * W64 + l) % Y / 2 ^ s := by unfold dvR; rw [hN, hY, shifted_mod]
  clear hY hhp hlt' hl hu hlt hlo hN
  obtain ⟨y1, hy1⟩ : ∃ y1 : Nat, y1 = Y / 4294967296 := ⟨_, rfl⟩
  obtain ⟨y0, hy0⟩ : ∃ y0 : Nat, y0 = Y % 4294967296 := ⟨_, rfl⟩
  obtain ⟨l1, hl1⟩ : ∃ l1 : Nat, l1 = l / 4294967296 := ⟨_, rfl⟩
  obtain ⟨l0, hl0⟩ : ∃ l0 : Nat, l0 = l % 4294967296 := ⟨_, rfl⟩
  unfold W64 at n4 hll
  have b1 : 2147483648 ≤ y1 := by omega
  have b2 : y1 < 4294967296 := by omega
  have b3 : y1 * 4294967296 + y0 = Y := by omega
  have b4 : y0 < 4294967296 := by omega
  have b5 : l1 < 4294967296 := by omega
  have b6 : l0 < 4294967296 := by omega
  have hY0 : 0 < Y := by omega
  have hll' : l = l1 * 4294967296 + l0 := by omega
  have E2 : (Y : Int) / 4294967296 = (y1 : Int) := by omega
  have E3 : bits .and .u64 (Y : Int) 4294967295 = (y0 : Int) := by rw [and_low32 _ (by omega) (by omega)]; omega
  have E6 : (l : Int) / 4294967296 = (l1 : Int) := by omega
  have E7 : bits .and .u64 (l : Int) 4294967295 = (l0 : Int) := by rw [and_low32 _ (by omega) (by omega)]; omega
  obtain ⟨t1, t2⟩ := @two_digits 4294967296 u l1 l0 Y hY0
  have hN' : (u * 4294967296 + l1) * 4294967296 + l0 = u * W64 + l := by rw [Nat.add_mul, Nat.mul_assoc, ← W64_sq, hll', Nat.add_assoc]
  rw [hN', ← hdiv] at t1
  rw [hN'] at t2
  have dq := digit_lt (Y := Y) hut b5
  have hv1 : (u * 4294967296 + l1) % Y < Y := Nat.mod_lt (u * 4294967296 + l1) hY0
  have hdm := Nat.div_add_mod (u * 4294967296 + l1) Y
  obtain ⟨Q, hQ⟩ : ∃ Q : Nat, Q = (u * 4294967296 + l1) / Y := ⟨_, rfl⟩
  obtain ⟨v, hv⟩ : ∃ v : Nat, v = (u * 4294967296 + l1) % Y := ⟨_, rfl⟩
  rw [← hv, ← hQ] at hdm
  rw [← hv] at t1 t2 hv1
  rw [← hQ] at t1 dq
  have dr := digit_lt (Y := Y) hv1 b6
  have hdm' := Nat.div_add_mod (v * 4294967296 + l0) Y
  have hv2 : (v * 4294967296 + l0) % Y < Y := Nat.mod_lt (v * 4294967296 + l0) hY0
  obtain ⟨R, hR⟩ : ∃ R : Nat, R = (v * 4294967296 + l0) / Y := ⟨_, rfl⟩
  rw [← hR] at hdm' dr t1
  rw [t2] at hdm' hv2
  obtain ⟨z, hz'⟩ : ∃ z : Nat, z = (u * W64 + l) % Y := ⟨_, rfl⟩
  rw [← hz'] at hdm' hmod hv2
  obtain ⟨P, hP⟩ : ∃ P : Nat, P = Y * Q := ⟨_, rfl⟩
  obtain ⟨P', hP'⟩ : ∃ P' : Nat, P' = Y * R := ⟨_, rfl⟩
  rw [← hP] at hdm
  rw [← hP'] at hdm'
  have G : ∀ a c, a < Y → c < 4294967296 → a % y1 < 4294967296 ∧ a / y1 ≤ 4294967297 ∧ Guess 4294967296 a c y1 y0 (a / y1) (a % y1) := fun a c ha hc =>
    ⟨by have := Nat.mod_lt a (show 0 < y1 by omega); omega, guess_le (y1 := y1) (y0 := y0) (by omega) (by omega) b4, Guess.start (by omega) hc⟩
  have Eq : ∀ a, a < Y → a / y1 ≤ 4294967297 → IntKind.u64.wrap ((a : Int) / (y1 : Int)) = ((a / y1 : Nat) : Int) ∧ IntKind.u64.wrap ((a : Int) - IntKind.u64.wrap (((a / y1 : Nat) : Int) * (y1 : Int))) = ((a % y1 : Nat) : Int) := fun a ha hb => by
    have h := Nat.div_add_mod a y1
    constructor
    · rw [← Int.natCast_ediv]; exact wrapu _ (by rw [W64_sq]; omega)
    · rw [← Int.natCast_mul, Nat.mul_comm, wrapu _ (by rw [W64_sq]; omega), show (a : Int) - ((y1 * (a / y1) : Nat) : Int) = ((a % y1 : Nat) : Int) by omega]
      exact wrapu _ (by rw [W64_sq]; omega)
  have HB := G u l1 hut b5
  have HB' := G v l0 hv1 b6
  obtain ⟨E8, E9⟩ := Eq u hut HB.2.1
  obtain ⟨E10, E11⟩ := Eq v hv1 HB'.2.1
  obtain ⟨q, hq⟩ : ∃ q : Nat, q = u / y1 := ⟨_, rfl⟩
  obtain ⟨r, hr⟩ : ∃ r : Nat, r = u % y1 := ⟨_, rfl⟩
  obtain ⟨q', hq'⟩ : ∃ q' : Nat, q' = v / y1 := ⟨_, rfl⟩
  obtain ⟨r', hr'⟩ : ∃ r' : Nat, r' = v % y1 := ⟨_, rfl⟩
  rw [← hq, ← hr] at HB E9
  rw [← hq] at E8
  rw [← hq', ← hr'] at HB' E11
  rw [← hq'] at E10
  have HB := Lib.hid HB
  have HB' := Lib.hid HB'
  have E12 : IntKind.u64.wrap (IntKind.u64.wrap (IntKind.u64.wrap ((u : Int) * 4294967296) + (l1 : Int)) - IntKind.u64.wrap ((Q : Int) * (Y : Int))) = (v : Int) := by
    rw [show (Q : Int) * (Y : Int) = (P : Int) by rw [hP, Nat.mul_comm]; simp]
    simp only [IntKind.wrap_u64]; omega
  have E13 : IntKind.u64.wrap (IntKind.u64.wrap ((Q : Int) * 4294967296) + (R : Int)) = (dvQ hi lo y : Int) := by
    rw [← t1]; simp only [IntKind.wrap_u64]; omega
  have E14 : IntKind.u64.wrap (IntKind.u64.wrap (IntKind.u64.wrap ((v : Int) * 4294967296) + (l0 : Int)) - IntKind.u64.wrap ((R : Int) * (Y : Int))) / 2 ^ s = (dvR hi lo y : Int) := by
    rw [show (R : Int) * (Y : Int) = (P' : Int) by rw [hP', Nat.mul_comm]; simp, hmod,
      show IntKind.u64.wrap (IntKind.u64.wrap (IntKind.u64.wrap ((v : Int) * 4294967296) + (l0 : Int)) - IntKind.u64.wrap (P' : Int)) = ((z : Nat) : Int) by simp only [IntKind.wrap_u64]; omega]
    simp
  have HH : Hid (2147483648 ≤ y1 ∧ y1 < 4294967296 ∧ y1 * 4294967296 + y0 = Y ∧ y0 < 4294967296 ∧ l1 < 4294967296 ∧ l0 < 4294967296 ∧ 0 < Y) := ⟨b1, b2, b3, b4, b5, b6, hY0⟩
  have HQ := Lib.hid hQ
  have HR := Lib.hid hR
  have DQ := Lib.hid dq
  have DR := Lib.hid dr
  have P1 : 1 ≤ y1 := by omega
  have P2 : 1 ≤ Y := by omega
  clear hQ hR dq dr b1 b2 b3 b4 b5 b6 hY0 hll' hN' t1 t2 hdm hdm' hv1 hv2 hv hz' hP hP' G Eq hq hr hq' hr' hmod hdiv hut n3 n4 hll hy1 hy0 hl1 hl0 hy
  go_enter Tryz.func230, Tryz.ntmps230
  go_upto_block 0 with (go_at_call 240; refine hz.mono ?_; rintro e w' ⟨rfl, rfl⟩)
  go_cut [15] (fun s15 wx => s15 = .int .u64 (Q : Int) ∧ w = wx)
  case first =>
    go_wp2_with fail
    clear E1 E2 E3 E4 E5 E6 E7 E8 E9 E10 E11 E12 E13 E14
    go_loop [15, 16] (fun q r => ∃ q1 r1 : Nat, q = .int .u64 (q1 : Int) ∧ r = .int .u64 (r1 : Int) ∧ Hid (r1 < 4294967296 ∧ q1 ≤ 4294967297 ∧ Guess 4294967296 u l1 y1 y0 q1 r1)) (fun q _ => (intOf q).toNat)
    case atStart => exact ⟨q, r, rfl, rfl, HB⟩
    case round =>
      obtain ⟨q1, r1, rfl, rfl, hg⟩ := hrel
      obtain ⟨m1, hm1⟩ : ∃ m1 : Nat, Hid (m1 = q1 * y0) := ⟨_, rfl⟩
      obtain ⟨m2, hm2⟩ : ∃ m2 : Nat, Hid (m2 = r1 * 4294967296) := ⟨_, rfl⟩
      obtain ⟨m3, hm3⟩ : ∃ m3 : Nat, Hid (m3 = m2 + l1) := ⟨_, rfl⟩
      obtain ⟨q2, hq2⟩ : ∃ q2 : Nat, Hid (q2 = q1 - 1) := ⟨_, rfl⟩
      obtain ⟨r2, hr2⟩ : ∃ r2 : Nat, Hid (r2 = r1 + y1) := ⟨_, rfl⟩
      obtain ⟨b1, b2, b3, b4, b5, b6, b7⟩ := HH.out
      obtain ⟨g1, g2, g3⟩ := hg.out
      have F1 : IntKind.u64.wrap ((q1 : Int) * (y0 : Int)) = (m1 : Int) := by
        have h1 : q1 * y0 ≤ 4294967297 * 4294967295 := Nat.mul_le_mul g2 (by omega)
        rw [← Int.natCast_mul, ← hm1.out]; exact wrapu _ (by rw [hm1.out, W64_sq]; omega)
      have F2 : IntKind.u64.wrap (4294967296 * (r1 : Int)) = (m2 : Int) := by
        rw [show 4294967296 * (r1 : Int) = ((m2 : Nat) : Int) by rw [hm2.out]; omega]; exact wrapu _ (by rw [hm2.out, W64_sq]; omega)
      have F3 : IntKind.u64.wrap ((m2 : Int) + (l1 : Int)) = (m3 : Int) := by
        rw [← Int.natCast_add, ← hm3.out]; exact wrapu _ (by rw [hm3.out, hm2.out, W64_sq]; omega)
      have F5 : IntKind.u64.wrap ((r1 : Int) + (y1 : Int)) = (r2 : Int) := by
        rw [← Int.natCast_add, ← hr2.out]; exact wrapu _ (by rw [hr2.out, W64_sq]; omega)
      have hmm : Hid (4294967296 * r1 + l1 = m3) := by show _ = _; rw [hm3.out, hm2.out]; omega
      by_cases c : ¬ ((4294967296 : Int) ≤ q1) ∧ (m1 : Int) ≤ m3
      · obtain ⟨c1, c2⟩ := c
        have hfin : q1 = Q := by
          rw [HQ.out]; have := g3.hit (by omega) (by rw [← hm1.out, hmm.out]; omega); rw [this, b3]
        clear b1 b2 b3 b4 b5 b6 b7 g1 g2 g3
        have HF := Lib.hid hfin; clear hfin
        go_wp2
        go_meet
        exact ⟨by rw [HF.out], rfl⟩
      · have hd := g3.down (by rw [b3]; exact by rw [← HQ.out]; exact DQ.out) (by omega) (by rw [← hm1.out, hmm.out]; omega)
        have hpos : 0 < q1 := hd.1
        have F4 : IntKind.u64.wrap ((q1 : Int) - 1) = (q2 : Int) := by
          rw [show (q1 : Int) - 1 = ((q1 - 1 : Nat) : Int) by omega, ← hq2.out]; exact wrapu _ (by rw [hq2.out, W64_sq]; omega)
        have hnext : Hid (q2 < q1 ∧ q2 ≤ 4294967297 ∧ Guess 4294967296 u l1 y1 y0 q2 r2) := by
          refine ⟨?_, ?_, ?_⟩
          · rw [hq2.out]; omega
          · rw [hq2.out]; omega
          · rw [hq2.out, hr2.out]; exact hd.2
        have hend : Hid (4294967296 ≤ r2 → q2 = Q) := by
          intro h; rw [HQ.out]; obtain ⟨_, x2, x3⟩ := hnext.out
          have := x3.hit (by omega) (guess_far x2 (by omega) h); rw [this, b3]
        clear b1 b2 b3 b4 b5 b6 b7 g1 g2 g3 hd hpos
        have fin1 : (4294967296 : Int) ≤ r2 → q2 = Q := fun h => hend.out (by omega)
        have HF := Lib.hid fin1; clear fin1 hend
        by_cases c1 : ¬ ((4294967296 : Int) ≤ q1)
        · have c2 : (m3 : Int) < m1 := by omega
          clear c
          by_cases c3 : ¬ ((4294967296 : Int) ≤ r2)
          · go_wp2
            go_round
            case rel => exact ⟨q2, r2, rfl, rfl, by omega, hnext.out.2⟩
            case measure => have := hnext.out.1; simp [intOf]; omega
          · have c3 : (4294967296 : Int) ≤ r2 := by omega
            go_wp2
            go_meet
            exact ⟨by rw [HF.out c3], rfl⟩
        · have c1 : (4294967296 : Int) ≤ q1 := by omega
          clear c
          by_cases c3 : ¬ ((4294967296 : Int) ≤ r2)
          · go_wp2
            go_round
            case rel => exact ⟨q2, r2, rfl, rfl, by omega, hnext.out.2⟩
            case measure => have := hnext.out.1; simp [intOf]; omega
          · have c3 : (4294967296 : Int) ≤ r2 := by omega
            go_wp2
            go_meet
            exact ⟨by rw [HF.out c3], rfl⟩
  case rest =>
    obtain ⟨rfl, rfl⟩ := hcut
    clear E1 E2 E3 E4 E5 E6 E7 E8 E9
    go_upto_block 2 with fail
    go_cut [18] (fun s18 wx => s18 = .int .u64 (R : Int) ∧ w = wx)
    case first =>
      go_wp2_with fail
      clear E10 E11 E12 E13 E14
      go_loop [18, 16] (fun q r => ∃ q1 r1 : Nat, q = .int .u64 (q1 : Int) ∧ r = .int .u64 (r1 : Int) ∧ Hid (r1 < 4294967296 ∧ q1 ≤ 4294967297 ∧ Guess 4294967296 v l0 y1 y0 q1 r1)) (fun q _ => (intOf q).toNat)
      case atStart => exact ⟨q', r', rfl, rfl, HB'⟩
      case round =>
        obtain ⟨q1, r1, rfl, rfl, hg⟩ := hrel
        obtain ⟨m1, hm1⟩ : ∃ m1 : Nat, Hid (m1 = q1 * y0) := ⟨_, rfl⟩
        obtain ⟨m2, hm2⟩ : ∃ m2 : Nat, Hid (m2 = r1 * 4294967296) := ⟨_, rfl⟩
        obtain ⟨m3, hm3⟩ : ∃ m3 : Nat, Hid (m3 = m2 + l0) := ⟨_, rfl⟩
        obtain ⟨q2, hq2⟩ : ∃ q2 : Nat, Hid (q2 = q1 - 1) := ⟨_, rfl⟩
        obtain ⟨r2, hr2⟩ : ∃ r2 : Nat, Hid (r2 = r1 + y1) := ⟨_, rfl⟩
        obtain ⟨b1, b2, b3, b4, b5, b6, b7⟩ := HH.out
        obtain ⟨g1, g2, g3⟩ := hg.out
        have F1 : IntKind.u64.wrap ((q1 : Int) * (y0 : Int)) = (m1 : Int) := by
          have h1 : q1 * y0 ≤ 4294967297 * 4294967295 := Nat.mul_le_mul g2 (by omega)
          rw [← Int.natCast_mul, ← hm1.out]; exact wrapu _ (by rw [hm1.out, W64_sq]; omega)
        have F2 : IntKind.u64.wrap (4294967296 * (r1 : Int)) = (m2 : Int) := by
          rw [show 4294967296 * (r1 : Int) = ((m2 : Nat) : Int) by rw [hm2.out]; omega]; exact wrapu _ (by rw [hm2.out, W64_sq]; omega)
        have F3 : IntKind.u64.wrap ((m2 : Int) + (l0 : Int)) = (m3 : Int) := by
          rw [← Int.natCast_add, ← hm3.out]; exact wrapu _ (by rw [hm3.out, hm2.out, W64_sq]; omega)
        have F5 : IntKind.u64.wrap ((r1 : Int) + (y1 : Int)) = (r2 : Int) := by
          rw [← Int.natCast_add, ← hr2.out]; exact wrapu _ (by rw [hr2.out, W64_sq]; omega)
        have hmm : Hid (4294967296 * r1 + l0 = m3) := by show _ = _; rw [hm3.out, hm2.out]; omega
        by_cases c : ¬ ((4294967296 : Int) ≤ q1) ∧ (m1 : Int) ≤ m3
        · obtain ⟨c1, c2⟩ := c
          have hfin : q1 = R := by
            rw [HR.out]; have := g3.hit (by omega) (by rw [← hm1.out, hmm.out]; omega); rw [this, b3]
          clear b1 b2 b3 b4 b5 b6 b7 g1 g2 g3
          have HF := Lib.hid hfin; clear hfin
          go_wp2
          go_meet
          exact ⟨by rw [HF.out], rfl⟩
        · have hd := g3.down (by rw [b3]; exact by rw [← HR.out]; exact DR.out) (by omega) (by rw [← hm1.out, hmm.out]; omega)
          have hpos : 0 < q1 := hd.1
          have F4 : IntKind.u64.wrap ((q1 : Int) - 1) = (q2 : Int) := by
            rw [show (q1 : Int) - 1 = ((q1 - 1 : Nat) : Int) by omega, ← hq2.out]; exact wrapu _ (by rw [hq2.out, W64_sq]; omega)
          have hnext : Hid (q2 < q1 ∧ q2 ≤ 4294967297 ∧ Guess 4294967296 v l0 y1 y0 q2 r2) := by
            refine ⟨?_, ?_, ?_⟩
            · rw [hq2.out]; omega
            · rw [hq2.out]; omega
            · rw [hq2.out, hr2.out]; exact hd.2
          have hend : Hid (4294967296 ≤ r2 → q2 = R) := by
            intro h; rw [HR.out]; obtain ⟨_, x2, x3⟩ := hnext.out
            have := x3.hit (by omega) (guess_far x2 (by omega) h); rw [this, b3]
          clear b1 b2 b3 b4 b5 b6 b7 g1 g2 g3 hd hpos
          have fin1 : (4294967296 : Int) ≤ r2 → q2 = R := fun h => hend.out (by omega)
          have HF := Lib.hid fin1; clear fin1 hend
          by_cases c1 : ¬ ((4294967296 : Int) ≤ q1)
          · have c2 : (m3 : Int) < m1 := by omega
            clear c
            by_cases c3 : ¬ ((4294967296 : Int) ≤ r2)
            · go_wp2
              go_round
              case rel => exact ⟨q2, r2, rfl, rfl, by omega, hnext.out.2⟩
              case measure => have := hnext.out.1; simp [intOf]; omega
            · have c3 : (4294967296 : Int) ≤ r2 := by omega
              go_wp2
              go_meet
              exact ⟨by rw [HF.out c3], rfl⟩
          · have c1 : (4294967296 : Int) ≤ q1 := by omega
            clear c
            by_cases c3 : ¬ ((4294967296 : Int) ≤ r2)
            · go_wp2
              go_round
              case rel => exact ⟨q2, r2, rfl, rfl, by omega, hnext.out.2⟩
              case measure => have := hnext.out.1; simp [intOf]; omega
            · have c3 : (4294967296 : Int) ≤ r2 := by omega
              go_wp2
              go_meet
              exact ⟨by rw [HF.out c3], rfl⟩
    case rest =>
      obtain ⟨rfl, rfl⟩ := hcut
      go_wp2
      go_ret2
      exact ⟨rfl, rfl⟩
end Go.Proofs.YtcpjclakdpjjfaaGreatDoor

namespace Go.Proofs.YtcpjclakdpjjfaaGreatDoor
open Go.RowKit
def Dr (w w' : World) : Prop := ∃ n, w' = w.drewN n
theorem Dr.refl (w : World) : Dr w w := ⟨0, rfl⟩
theorem Dr.trans {a b c : World} (h : Dr a b) (k : Dr b c) : Dr a c := by
  obtain ⟨n, rfl⟩ := h; obtain ⟨m, rfl⟩ := k; exact ⟨n + m, by rw [World.drewN_drewN]⟩

set_option maxHeartbeats 400000 in
theorem bitsDiv64_fast (lo y : Nat) (h0 : 0 < y) (hlo : lo < W64) (w : World) :
    Calls Tryz.prog 230 #[.int .u64 0, .int .u64 (lo : Int), .int .u64 (y : Int)] w fun e w' => e = .returned (.tuple #[.int .u64 ((lo / y : Nat) : Int), .int .u64 ((lo % y : Nat) : Int)]) ∧ Dr w w' := by
  have e1 : ((y : Int) == 0) = false := by simp; omega
  have P : (1 : Int) ≤ y := by omega
  have HL := Lib.hid hlo
  clear hlo
  go_enter Tryz.func230, Tryz.ntmps230
  go_wp2
  go_quiet (fail)
  go_wp2
  go_ret2
  refine ⟨ret_tup2 ?_ (by simp), _, rfl⟩
  rw [← Int.natCast_ediv]; exact wrapu _ (Nat.lt_of_le_of_lt (Nat.div_le_self _ _) HL.out)

theorem nlz_any (x : Nat) (hx : x < W64) (w : World) :
    Calls Tryz.prog 189 #[.int .u64 (x : Int)] w fun e w' => e = .returned (.int .u64 ((64 - Lib.bitLen x : Nat) : Int)) ∧ w = w' := by
  have hz := (Tryz.bits_LeadingZeros (x : Int) w (by omega) (by unfold W64 at hx; omega)).mono (R' := fun e w' => e = .returned (.int .i64 ((64 - Lib.bitLen x : Nat) : Int)) ∧ w = w') fun _ _ ⟨he, hw⟩ => ⟨by
    have := Lib.bitLen_le x 64 (Nat.le_refl _) hx
    rw [he, Int.toNat_natCast]; exact ret_int (by omega), hw.symm⟩
  obtain ⟨s, hs⟩ : ∃ s : Nat, s = 64 - Lib.bitLen x := ⟨_, rfl⟩
  rw [← hs] at hz ⊢
  have : s ≤ 64 := by omega
  clear hx hs
  go_enter Tryz.func189, Tryz.ntmps189
  go_wp2_with (go_at_call 213; refine hz.mono ?_; rintro e w' ⟨rfl, rfl⟩)
  go_ret
  exact ⟨rfl, rfl⟩

set_option maxHeartbeats 400000 in
theorem greaterThan_any (a b c d : Nat) (w : World) :
    Calls Tryz.prog 214 #[.int .u64 (a : Int), .int .u64 (b : Int), .int .u64 (c : Int), .int .u64 (d : Int)] w fun e w' => e = .returned (.bool (decide (c < a ∨ (a = c ∧ d < b)))) ∧ w = w' := by
  by_cases h : c < a ∨ (a = c ∧ d < b)
  · rw [decide_eq_true h]
    by_cases h1 : (c : Int) < a
    · clear h
      go_enter Tryz.func214, Tryz.ntmps214
      go_wp2
      go_ret
      exact ⟨rfl, rfl⟩
    · have h2 : ((a : Int) == c) = true := by simp; omega
      have h3 : (d : Int) < b := by omega
      clear h
      go_enter Tryz.func214, Tryz.ntmps214
      go_wp2
      go_ret
      exact ⟨rfl, rfl⟩
  · rw [decide_eq_false h]
    have h1 : ¬ (c : Int) < a := by omega
    by_cases h2 : (a : Int) = c
    · have h3 : ¬ (d : Int) < b := by omega
      have h2 : ((a : Int) == c) = true := by simp; omega
      clear h
      go_enter Tryz.func214, Tryz.ntmps214
      go_wp2
      go_ret
      exact ⟨rfl, rfl⟩
    · have h2 : ((a : Int) == c) = false := by simp; omega
      clear h
      go_enter Tryz.func214, Tryz.ntmps214
      go_wp2
      go_ret
      exact ⟨rfl, rfl⟩

theorem bitsDiv64_any (hi lo y : Nat) (hh : hi < y) (hlo : lo < W64) (hy : y < W64) (w : World) :
    Calls Tryz.prog 230 #[.int .u64 (hi : Int), .int .u64 (lo : Int), .int .u64 (y : Int)] w fun e w' => e = .returned (.tuple #[.int .u64 ((dvQ hi lo y : Nat) : Int), .int .u64 ((dvR hi lo y : Nat) : Int)]) ∧ Dr w w' := by
  by_cases h : hi = 0
  · subst h
    refine (bitsDiv64_fast lo y (by omega) hlo w).mono fun _ _ ⟨he, hw⟩ => ⟨?_, hw⟩
    rw [he]; unfold dvQ dvR; simp
  · exact (bitsDiv64_slow hi lo y _ hh (by omega) hlo hy rfl w).mono fun _ _ ⟨he, hw⟩ => ⟨he, 0, hw.symm⟩

set_option maxHeartbeats 400000 in
theorem bitsDiv_any (hi lo y : Nat) (hh : hi < y) (hlo : lo < W64) (hy : y < W64) (w : World) :
    Calls Tryz.prog 210 #[.int .u64 (hi : Int), .int .u64 (lo : Int), .int .u64 (y : Int)] w fun e w' => e = .returned (.tuple #[.int .u64 ((dvQ hi lo y : Nat) : Int), .int .u64 ((dvR hi lo y : Nat) : Int)]) ∧ Dr w w' := by
  have H := bitsDiv64_any hi lo y hh hlo hy
  have H := Lib.hid H
  clear hh hlo hy
  go_enter Tryz.func210, Tryz.ntmps210
  go_wp2_with (go_at_call 230; refine (H.out _).mono ?_; rintro e w' ⟨rfl, n, rfl⟩)
  go_ret2
  exact ⟨rfl, _, rfl⟩

/-- The reciprocal of a word: (W*W - 1)/d - W of the normalized word. -/
def rcp (y : Nat) : Nat := (W64 * W64 - 1) / (y * 2 ^ (64 - Lib.bitLen y)) - W64

theorem rcp_eq {d : Nat} (h1 : 2 ^ 63 ≤ d) (h2 : d < W64) : dvQ (W64 - 1 - d) (W64 - 1) d = (W64 * W64 - 1) / d - W64 ∧ W64 ≤ (W64 * W64 - 1) / d ∧ (W64 * W64 - 1) / d - W64 < W64 := by
  have hd : 0 < d := by omega
  have e : W64 * W64 - 1 = ((W64 - 1 - d) * W64 + (W64 - 1)) + d * W64 := by
    have : (W64 - 1 - d) * W64 + d * W64 = (W64 - 1) * W64 := by rw [← Nat.add_mul]; congr 1; omega
    have : (W64 - 1) * W64 + W64 = W64 * W64 := by
      have : W64 = (W64 - 1) + 1 := by unfold W64; rfl
      rw [← Nat.succ_mul]; congr 1
    have := W64_pos
    omega
  have e2 : (W64 * W64 - 1) / d = dvQ (W64 - 1 - d) (W64 - 1) d + W64 := by
    rw [e]; unfold dvQ; rw [Nat.mul_comm d W64, Nat.add_mul_div_right _ _ hd]
  refine ⟨by omega, by omega, ?_⟩
  rw [e2, Nat.add_sub_cancel]
  exact digit_lt (by unfold W64 at h2 ⊢; omega) (by unfold W64; omega)

theorem not_word {d : Nat} (h : d < W64) : bits .xor .u64 IntKind.u64.max (d : Int) = ((W64 - 1 - d : Nat) : Int) := by
  have e : IntKind.u64.max = ((18446744073709551615 : Nat) : Int) := by decide
  rw [e, u64_xor_nat _ _ (by omega) h]
  congr 1
  have : W64 - 1 - d = 2 ^ 64 - (d + 1) := by rw [W64_eq]; omega
  rw [this]
  apply Nat.eq_of_testBit_eq
  intro i
  rw [Nat.testBit_xor, Nat.testBit_two_pow_sub_succ (by rw [← W64_eq]; exact h), show (18446744073709551615 : Nat) = 2 ^ 64 - 1 by decide, Nat.testBit_two_pow_sub_one]
  by_cases hi : i < 64
  · simp [hi]
  · have : d.testBit i = false := Nat.testBit_lt_two_pow (Nat.lt_of_lt_of_le h (by rw [W64_eq]; exact Nat.pow_le_pow_right (by omega) (by omega)))
    simp [hi, this]

set_option maxHeartbeats 400000 in
theorem reciprocalWord_any (y : Nat) (h0 : 0 < y) (hy : y < W64) (w : World) :
    Calls Tryz.prog 211 #[.int .u64 (y : Int)] w fun e w' => e = .returned (.int .u64 ((rcp y : Nat) : Int)) ∧ Dr w w' := by
  obtain ⟨n1, n2, n3, n4⟩ := lz_norm h0 hy
  have hz := nlz_any y hy
  obtain ⟨s, hs⟩ : ∃ s : Nat, s = 64 - Lib.bitLen y := ⟨_, rfl⟩
  obtain ⟨d, hd⟩ : ∃ d : Nat, d = y * 2 ^ s := ⟨_, rfl⟩
  have hrc : rcp y = dvQ (W64 - 1 - d) (W64 - 1) d := by rw [hs] at hd; unfold rcp; rw [← hd]; exact (rcp_eq (by omega) (by omega)).1.symm
  rw [← hs] at n3 n4 hz
  rw [← hd] at n3 n4
  have E1 : IntKind.u64.wrap ((y : Int) * 2 ^ s) = (d : Int) := by
    rw [show (y : Int) * 2 ^ s = ((y * 2 ^ s : Nat) : Int) by simp, ← hd]; exact wrapu _ n4
  obtain ⟨c, hc⟩ : ∃ c : Nat, c = W64 - 1 - d := ⟨_, rfl⟩
  obtain ⟨m, hm⟩ : ∃ m : Nat, m = W64 - 1 := ⟨_, rfl⟩
  rw [← hc, ← hm] at hrc
  have H := bitsDiv_any c m d (by unfold W64 at hc; omega) (by rw [hm]; unfold W64; omega) n4
  have E3 : bits .xor .u64 IntKind.u64.max (d : Int) = (c : Int) := by rw [hc]; exact not_word n4
  have E2 : (m : Int) = 18446744073709551615 := by rw [hm]; unfold W64; omega
  rw [E2] at H
  have hs64 : s ≤ 64 := by omega
  rw [hrc]
  have H := Lib.hid H
  have hz := Lib.hid hz
  clear n1 n2 n3 n4 hs hd hrc hc hm h0 hy E2
  go_enter Tryz.func211, Tryz.ntmps211
  go_wp2_with fail
  refine (hz.out _).mono ?_
  rintro e w' ⟨rfl, rfl⟩
  go_wp2_with fail
  refine (H.out _).mono ?_
  rintro e w' ⟨rfl, n, rfl⟩
  go_wp2_with fail
  go_ret
  exact ⟨rfl, _, rfl⟩
end Go.Proofs.YtcpjclakdpjjfaaGreatDoor


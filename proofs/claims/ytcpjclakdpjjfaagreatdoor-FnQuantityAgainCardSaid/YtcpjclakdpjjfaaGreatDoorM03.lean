/-
  A part of the proof of FnQuantityAgain (texts Dww, Num, Vec of mine, joined).
-/
import Derived.Test.YtcpjclakdpjjfaaGreatDoorM02
import Derived.Test.YtcpjclakdpjjfaaGreatDoorM01
import Derived.Deep.LoopGhost
namespace Go.Proofs.YtcpjclakdpjjfaaGreatDoor
open Go.RowKit

theorem rest_div {N d T rr k z : Nat} (hd : z < d) (hN : N = T * d + rr) (hr : rr = k * d + z) : N / d = T + k ∧ N % d = z := by
  have e : N = d * (T + k) + z := by rw [hN, hr, Nat.mul_add, Nat.mul_comm d T, Nat.mul_comm d k]; omega
  rw [e]
  exact ⟨by rw [Nat.mul_add_div (by omega), Nat.div_eq_of_lt hd, Nat.add_zero], by rw [Nat.mul_add_mod, Nat.mod_eq_of_lt hd]⟩

/-- What the words of divWW come to. -/
structure Dww (X1 X0 d m T r0 r1 rr : Nat) : Prop where
  guess : addLo (mulHi m X1) X1 (addHi (mulLo m X1) X0 0) = T
  low : subLo X0 (mulLo d T) 0 = r0
  high : subLo X1 (mulHi d T) (subHi X0 (mulLo d T) 0) = r1
  split : rr = r1 * W64 + r0
  small : r0 < W64
  total : X1 * W64 + X0 = T * d + rr
  bound : rr < W64 + d
  word : T + 2 < W64 ∨ T * d + 2 * d ≤ W64 * W64

theorem dww_math {X1 X0 d m : Nat} (h1 : 2 ^ 63 ≤ d) (h2 : d < W64) (hx : X1 < d) (h0 : X0 < W64) (hm : m = (W64 * W64 - 1) / d - W64) :
    ∃ T r0 r1 rr, Dww X1 X0 d m T r0 r1 rr := by
  have hd : 0 < d := by omega
  obtain ⟨_, c2, c3⟩ := rcp_eq h1 h2
  obtain ⟨g1, g2⟩ := recip_guess hd h2 (v := m + W64) (by omega) hx h0
  obtain ⟨T, hT⟩ : ∃ T : Nat, T = (X1 * (m + W64) + X0) / W64 := ⟨_, rfl⟩
  rw [← hT] at g1 g2
  have hTW : T < W64 := by
    have : T ≤ (X1 * W64 + X0) / d := (Nat.le_div_iff_mul_le hd).2 g1
    exact Nat.lt_of_le_of_lt this (digit_lt hx h0)
  have gT : addLo (mulHi m X1) X1 (addHi (mulLo m X1) X0 0) = T := by
    have e : X1 * (m + W64) + X0 = (mulLo m X1 + X0) + (mulHi m X1 + X1) * W64 := by
      have := Nat.div_add_mod (m * X1) W64
      unfold mulLo mulHi
      rw [Nat.mul_add, Nat.add_mul, Nat.mul_comm X1 m, Nat.mul_comm (m * X1 / W64) W64]; omega
    rw [e, Nat.add_mul_div_right _ _ W64_pos] at hT
    unfold addLo addHi
    rw [Nat.mod_eq_of_lt (by rw [Nat.add_zero]; omega)]; rw [Nat.add_zero]; omega
  obtain ⟨rr, hrr⟩ : ∃ rr : Nat, rr = X1 * W64 + X0 - T * d := ⟨_, rfl⟩
  have tot : X1 * W64 + X0 = T * d + rr := by omega
  have hb : rr < W64 + d := by omega
  have ep : T * d = mulHi d T * W64 + mulLo d T := by
    have := Nat.div_add_mod (d * T) W64
    unfold mulHi mulLo
    rw [Nat.mul_comm T d, Nat.mul_comm (d * T / W64) W64]; omega
  have hl : mulLo d T < W64 := Nat.mod_lt _ W64_pos
  refine ⟨T, _, _, rr, ⟨gT, rfl, rfl, ?_, Nat.mod_lt _ W64_pos, tot, hb, ?_⟩⟩
  · generalize mulHi d T = H at *
    generalize mulLo d T = L at *
    rw [ep] at tot
    unfold subLo subHi
    unfold W64 at *
    by_cases hlt : X0 < L + 0
    · simp only [hlt, if_true]; omega
    · simp only [hlt, if_false]; omega
  · by_cases h : T + 2 < W64
    · exact Or.inl h
    · right
      have : T * d + 2 * d = (T + 2) * d := by rw [Nat.add_mul]
      rw [this]
      have h3 : T + 2 ≤ W64 + 1 := by omega
      have h4 : (T + 2) * d ≤ (W64 + 1) * (W64 - 1) := Nat.mul_le_mul h3 (by omega)
      have h5 : (W64 + 1) * (W64 - 1) ≤ W64 * W64 := by
        have : W64 = (W64 - 1) + 1 := by unfold W64; rfl
        generalize W64 - 1 = k at *
        rw [this]; simp only [Nat.add_mul, Nat.mul_add]; omega
      omega

set_option maxHeartbeats 1000000 in
set_option maxRecDepth 100000 in
theorem divWW_any (x1 x0 y : Nat) (hx : x1 < y) (h0 : x0 < W64) (hy : y < W64) (w : World) :
    Calls Tryz.prog 212 #[.int .u64 (x1 : Int), .int .u64 (x0 : Int), .int .u64 (y : Int), .int .u64 ((rcp y : Nat) : Int)] w fun e w' => e = .returned (.tuple #[.int .u64 ((dvQ x1 x0 y : Nat) : Int), .int .u64 ((dvR x1 x0 y : Nat) : Int)]) ∧ w = w' := by
  obtain ⟨n1, n2, n3, n4⟩ := lz_norm (y := y) (by omega) hy
  have hz := nlz_any y hy
  obtain ⟨s, hs⟩ : ∃ s : Nat, s = 64 - Lib.bitLen y := ⟨_, rfl⟩
  obtain ⟨m, hm⟩ : ∃ m : Nat, m = rcp y := ⟨_, rfl⟩
  rw [← hm]
  unfold rcp at hm
  rw [← hs] at n3 n4 hz hm
  have hs64 : s ≤ 64 := by omega
  have hut := top_lt hx h0 hs64
  have hlt := lo_top_lt h0 hs64
  have hN := @shl_top x1 x0 s hs64
  obtain ⟨d, hd⟩ : ∃ d : Nat, d = y * 2 ^ s := ⟨_, rfl⟩
  obtain ⟨hp, hhp⟩ : ∃ hp : Nat, hp = x1 * 2 ^ s := ⟨_, rfl⟩
  obtain ⟨lt, hlt'⟩ : ∃ lt : Nat, lt = x0 / 2 ^ (64 - s) := ⟨_, rfl⟩
  obtain ⟨X0, hl⟩ : ∃ l : Nat, l = x0 * 2 ^ s % W64 := ⟨_, rfl⟩
  obtain ⟨X1, hu⟩ : ∃ u : Nat, u = hp + lt := ⟨_, rfl⟩
  rw [← hd] at n3 n4 hut hm
  rw [← hhp, ← hlt', ← hu] at hut hN
  rw [← hlt'] at hlt
  rw [← hl] at hN
  have hll : X0 < W64 := by rw [hl]; exact Nat.mod_lt _ W64_pos
  have E1 : IntKind.u64.wrap ((y : Int) * 2 ^ s) = (d : Int) := by
    rw [show (y : Int) * 2 ^ s = ((y * 2 ^ s : Nat) : Int) by simp, ← hd]; exact wrapu _ n4
  have E4 : bits .or .u64 (IntKind.u64.wrap ((x1 : Int) * 2 ^ s)) ((x0 : Int) / 2 ^ (64 - s)) = (X1 : Int) := by
    rw [show (x1 : Int) * 2 ^ s = ((x1 * 2 ^ s : Nat) : Int) by simp, show (x0 : Int) / 2 ^ (64 - s) = ((x0 / 2 ^ (64 - s) : Nat) : Int) by simp, ← hhp, ← hlt', wrapu _ (by omega),
      bits_or_u64_nat _ _ (by unfold W64 at n4; omega) (by unfold W64 at n4; omega), hu, hhp, ← Nat.shiftLeft_eq, ← Nat.shiftLeft_add_eq_or_of_lt hlt]
  have E5 : IntKind.u64.wrap ((x0 : Int) * 2 ^ s) = (X0 : Int) := by
    rw [show (x0 : Int) * 2 ^ s = ((x0 * 2 ^ s : Nat) : Int) by simp, wrapu_mod, hl]; simp
  have hdiv : dvQ x1 x0 y = (X1 * W64 + X0) / d := by unfold dvQ; rw [hN, hd, shifted_div]
  have hmod : dvR x1 x0 y = (X1 * W64 + X0) % d / 2 ^ s := by unfold dvR; rw [hN, hd, shifted_mod]
  have Z : s = 0 → X1 = x1 ∧ X0 = x0 ∧ d = y := by
    intro h
    subst h
    simp only [Nat.pow_zero, Nat.mul_one, Nat.sub_zero] at hhp hlt' hd hl
    rw [← W64_eq, Nat.div_eq_of_lt h0] at hlt'
    rw [Nat.mod_eq_of_lt h0] at hl
    omega
  have hmW : m < W64 := by rw [hm]; exact (rcp_eq n3 n4).2.2
  obtain ⟨T, r0, r1, rr, D⟩ := dww_math n3 n4 hut hll hm
  have Q : ∀ k z : Nat, z < d → rr = k * d + z → T + k = dvQ x1 x0 y ∧ z / 2 ^ s = dvR x1 x0 y ∧ T + k < W64 := by
    intro k z hz hr
    obtain ⟨a1, a2⟩ := rest_div hz D.total hr
    rw [hdiv, hmod, a1, a2]
    refine ⟨rfl, rfl, ?_⟩
    rw [← a1]; exact digit_lt hut hll
  have hTW : T < W64 := by
    have : T ≤ (X1 * W64 + X0) / d := (Nat.le_div_iff_mul_le (by omega)).2 (by have := D.total; omega)
    exact Nat.lt_of_le_of_lt this (digit_lt hut hll)
  have C1 := bits_Mul m X1 hmW (by omega)
  have C2 := bits_Add (mulLo m X1) X0 0
  have C3 := bits_Add (mulHi m X1) X1 (addHi (mulLo m X1) X0 0)
  rw [D.guess] at C3
  have C4 := bits_Mul d T n4 hTW
  have C5 := bits_Sub X0 (mulLo d T) 0
  have C6 := bits_Sub X1 (mulHi d T) (subHi X0 (mulLo d T) 0)
  rw [D.low] at C5
  rw [D.high] at C6
  have A1 : addHi (mulLo m X1) X0 0 ≤ 1 := by
    have : mulLo m X1 < W64 := Nat.mod_lt _ W64_pos
    unfold addHi; unfold W64 at *; omega
  have A2 : subHi X0 (mulLo d T) 0 ≤ 1 := by unfold subHi; split <;> omega
  obtain ⟨d1, d2, d3, d4, d5, d6, d7, d8⟩ := D
  clear d1 d2 d3 d6 d8
  have Dsplit : (rr : Int) = (r1 : Int) * 18446744073709551616 + r0 := by rw [d4]; unfold W64; omega
  have R1 : r1 ≤ 1 := by unfold W64 at *; omega
  obtain ⟨c, hc⟩ : ∃ c : Nat, c = addHi (mulLo m X1) X0 0 := ⟨_, rfl⟩
  obtain ⟨b, hb⟩ : ∃ b : Nat, b = subHi X0 (mulLo d T) 0 := ⟨_, rfl⟩
  rw [← hc] at C2 C3 A1
  rw [← hb] at C5 C6 A2
  replace C1 := Lib.hid C1
  replace C2 := Lib.hid C2
  replace C3 := Lib.hid C3
  replace C4 := Lib.hid C4
  replace C5 := Lib.hid C5
  replace C6 := Lib.hid C6
  have HZ := Lib.hid hz
  replace A1 := Lib.hid A1
  replace A2 := Lib.hid A2
  have main : ∀ (w : World), Calls Tryz.prog 212 #[.int .u64 (x1 : Int), .int .u64 (x0 : Int), .int .u64 (y : Int), .int .u64 (m : Int)] w fun e w' => e = .returned (.tuple #[.int .u64 ((dvQ x1 x0 y : Nat) : Int), .int .u64 ((dvR x1 x0 y : Nat) : Int)]) ∧ w = w' := by
    intro w
    replace Q := Lib.hid Q
    replace Z := Lib.hid Z
    have HI := Lib.hid Dsplit
    have HJ : Hid (r0 < W64 ∧ rr < W64 + d ∧ 2 ^ 63 ≤ d ∧ d < W64) := ⟨d5, d7, n3, n4⟩
    clear n1 n2 n3 n4 hs hm hN hd hhp hlt' hl hu hlt hut hll hdiv hmod hmW hTW hc hb d4 d5 d7 Dsplit hx h0 hy hz
    go_enter Tryz.func212, Tryz.ntmps212
    go_wp2_with fail
    refine (HZ.out _).mono ?_
    rintro e w' ⟨rfl, rfl⟩
    go_upto_if 26 with fail
    go_cut [0, 1, 2] (fun s0 s1 s2 wx => s0 = .int .u64 (X1 : Int) ∧ s1 = .int .u64 (X0 : Int) ∧ s2 = .int .u64 (d : Int) ∧ w = wx)
    case first =>
      clear HI HJ Q C1 C2 C3 C4 C5 C6 HZ A1 A2 R1
      by_cases hs0 : s = 0
      · obtain ⟨z1, z2, z3⟩ := Z.out hs0
        clear Z E1 E4 E5 hs64
        subst hs0
        subst z1; subst z2; subst z3
        go_wp2_with fail
        go_meet
        exact ⟨rfl, rfl, rfl, rfl⟩
      · clear Z
        have e0 : ((s : Int) != 0) = true := by simp; omega
        go_wp2_with fail
        go_meet
        exact ⟨rfl, rfl, rfl, rfl⟩
    case rest =>
      obtain ⟨rfl, rfl, rfl, rfl⟩ := hcut
      go_wp2_with fail
      refine (C1.out _).mono ?_
      rintro e w' ⟨rfl, rfl⟩
      go_wp2_with fail
      refine (C2.out _ (by omega)).mono ?_
      rintro e w' ⟨rfl, rfl⟩
      go_wp2_with fail
      refine (C3.out _ A1.out).mono ?_
      rintro e w' ⟨rfl, rfl⟩
      go_wp2_with fail
      refine (C4.out _).mono ?_
      rintro e w' ⟨rfl, rfl⟩
      go_wp2_with fail
      refine (C5.out _ (by omega)).mono ?_
      rintro e w' ⟨rfl, rfl⟩
      go_wp2_with fail
      refine (C6.out _ A2.out).mono ?_
      rintro e w' ⟨rfl, rfl⟩
      clear C1 C2 C3 C4 C5 C6 A1 A2 HZ
      by_cases k1 : r1 = 0
      · subst k1
        by_cases k2 : d ≤ r0
        · have FF : IntKind.u64.wrap ((T : Int) + 1) = (dvQ x1 x0 y : Int) ∧ IntKind.u64.wrap ((r0 : Int) - (d : Int)) / 2 ^ s = (dvR x1 x0 y : Int) := by
            obtain ⟨j1, j2, j3, j4⟩ := HJ.out; have hi := HI.out; unfold W64 at j1 j2 j4
            obtain ⟨q1, q2, q3⟩ := Q.out 1 (r0 - d) (by omega) (by omega)
            rw [show (T : Int) + 1 = ((T + 1 : Nat) : Int) by omega, wrapu _ q3, q1, show (r0 : Int) - (d : Int) = ((r0 - d : Nat) : Int) by omega, wrapu _ (by unfold W64; omega), ← q2]
            exact ⟨rfl, by simp⟩
          obtain ⟨F1, F2⟩ := FF
          clear HI HJ
          go_wp2_with fail
          go_ret2
          exact ⟨rfl, rfl⟩
        · have FF : (T : Int) = (dvQ x1 x0 y : Int) ∧ (r0 : Int) / 2 ^ s = (dvR x1 x0 y : Int) := by
            obtain ⟨j1, j2, j3, j4⟩ := HJ.out; have hi := HI.out; unfold W64 at j1 j2 j4
            obtain ⟨q1, q2, q3⟩ := Q.out 0 r0 (by omega) (by omega)
            rw [← q1, ← q2]
            exact ⟨rfl, by simp⟩
          obtain ⟨F1, F2⟩ := FF
          clear HI HJ
          go_wp2_with fail
          go_ret2
          exact ⟨rfl, rfl⟩
      · have k1' : ((r1 : Int) != 0) = true := by simp; omega
        obtain ⟨z1, hz1⟩ : ∃ z1 : Nat, Hid (z1 = rr - d) := ⟨_, rfl⟩
        have F0 : IntKind.u64.wrap ((r0 : Int) - (d : Int)) = (z1 : Int) := by
          obtain ⟨j1, j2, j3, j4⟩ := HJ.out; have hi := HI.out; unfold W64 at j1 j2 j4
          have hz := hz1.out
          rw [IntKind.wrap_u64]; omega
        have ZB : Hid (rr = z1 + d ∧ z1 < W64) := by
          obtain ⟨j1, j2, j3, j4⟩ := HJ.out; have hi := HI.out; unfold W64 at j1 j2 j4
          have hz := hz1.out
          exact ⟨by omega, by unfold W64; omega⟩
        by_cases k2 : d ≤ z1
        · have FF : IntKind.u64.wrap (IntKind.u64.wrap ((T : Int) + 1) + 1) = (dvQ x1 x0 y : Int) ∧ IntKind.u64.wrap ((z1 : Int) - (d : Int)) / 2 ^ s = (dvR x1 x0 y : Int) := by
            obtain ⟨j1, j2, j3, j4⟩ := HJ.out; have hi := HI.out; unfold W64 at j1 j2 j4
            obtain ⟨zb1, zb2⟩ := ZB.out
            obtain ⟨q1, q2, q3⟩ := Q.out 2 (z1 - d) (by omega) (by omega)
            rw [show (T : Int) + 1 = ((T + 1 : Nat) : Int) by omega, wrapu (T + 1) (by omega), show ((T + 1 : Nat) : Int) + 1 = ((T + 2 : Nat) : Int) by omega, wrapu _ q3, q1, show (z1 : Int) - (d : Int) = ((z1 - d : Nat) : Int) by omega, wrapu _ (by omega), ← q2]
            exact ⟨rfl, by simp⟩
          obtain ⟨F1, F2⟩ := FF
          clear HI HJ
          go_wp2_with fail
          go_ret2
          exact ⟨rfl, rfl⟩
        · have FF : IntKind.u64.wrap ((T : Int) + 1) = (dvQ x1 x0 y : Int) ∧ (z1 : Int) / 2 ^ s = (dvR x1 x0 y : Int) := by
            obtain ⟨j1, j2, j3, j4⟩ := HJ.out; have hi := HI.out; unfold W64 at j1 j2 j4
            obtain ⟨zb1, zb2⟩ := ZB.out
            obtain ⟨q1, q2, q3⟩ := Q.out 1 z1 (by omega) (by omega)
            rw [show (T : Int) + 1 = ((T + 1 : Nat) : Int) by omega, wrapu _ q3, q1, ← q2]
            exact ⟨rfl, by simp⟩
          obtain ⟨F1, F2⟩ := FF
          clear HI HJ
          go_wp2_with fail
          go_ret2
          exact ⟨rfl, rfl⟩
  exact main w
end Go.Proofs.YtcpjclakdpjjfaaGreatDoor

namespace Go.Proofs.YtcpjclakdpjjfaaGreatDoor

def gd (l : List Nat) (i : Nat) : Nat := l[i]?.getD 0
theorem gd_lt {l : List Nat} (h : ∀ x ∈ l, x < W64) (i : Nat) : gd l i < W64 := by
  unfold gd
  by_cases hi : i < l.length
  · rw [List.getElem?_eq_getElem hi]; exact h _ (List.getElem_mem hi)
  · rw [List.getElem?_eq_none (by omega)]; exact W64_pos
theorem gd_set (l : List Nat) (i j x : Nat) (hi : i < l.length) : gd (l.set i x) j = if j = i then x else gd l j := by
  unfold gd
  rw [List.getElem?_set]
  by_cases h : i = j
  · subst h; simp [hi]
  · simp [h, Ne.symm h]

/-- The number of n words from o on. -/
def vl (l : List Nat) (o : Nat) : Nat → Nat
  | 0 => 0
  | n + 1 => gd l o + W64 * vl l (o + 1) n

theorem vl_snoc (l : List Nat) (o n : Nat) : vl l o (n + 1) = vl l o n + W64 ^ n * gd l (o + n) := by
  induction n generalizing o with
  | zero => simp [vl]
  | succ n ih =>
    rw [vl, ih (o + 1), vl, Nat.mul_add, Nat.pow_succ, show o + 1 + n = o + (n + 1) by omega, ← Nat.mul_assoc, Nat.mul_comm W64 (W64 ^ n), ← Nat.add_assoc]

theorem vl_congr {l m : List Nat} {o p n : Nat} (h : ∀ i, i < n → gd l (o + i) = gd m (p + i)) : vl l o n = vl m p n := by
  induction n with
  | zero => rfl
  | succ n ih => rw [vl_snoc, vl_snoc, ih (fun i hi => h i (by omega)), h n (by omega)]

theorem vl_lt {l : List Nat} (h : ∀ x ∈ l, x < W64) (o n : Nat) : vl l o n < W64 ^ n := by
  induction n with
  | zero => simp [vl]
  | succ n ih =>
    rw [vl_snoc, Nat.pow_succ]
    have := gd_lt h (o + n)
    have : W64 ^ n * (gd l (o + n) + 1) ≤ W64 ^ n * W64 := Nat.mul_le_mul_left _ this
    rw [Nat.mul_add, Nat.mul_one] at this
    omega

theorem vl_add (l : List Nat) (o m n : Nat) : vl l o (m + n) = vl l o m + W64 ^ m * vl l (o + m) n := by
  induction n with
  | zero => simp [vl]
  | succ n ih =>
    rw [← Nat.add_assoc, vl_snoc, ih, vl_snoc, Nat.mul_add, Nat.pow_add, ← Nat.mul_assoc, Nat.add_assoc, Nat.add_assoc o m n]

/-- One step of a chain of carries. -/
theorem carry_step {a b z c c' P x y w : Nat} (h : z + c * P = a + b) (hs : w + c' * W64 = x + y + c) :
    (z + P * w) + c' * (P * W64) = (a + P * x) + (b + P * y) := by
  have : P * w + P * (c' * W64) = P * x + P * y + P * c := by rw [← Nat.mul_add, hs, Nat.mul_add, Nat.mul_add]
  have e : c' * (P * W64) = P * (c' * W64) := by rw [← Nat.mul_assoc, Nat.mul_comm c' P, Nat.mul_assoc]
  rw [e, Nat.mul_comm c P] at *
  omega

theorem addLoHi (x y c : Nat) : (x + y + c) % W64 + (x + y + c) / W64 * W64 = x + y + c := by
  rw [Nat.mul_comm]; exact Nat.mod_add_div _ _

/-- A borrow's step. -/
theorem borrow_step {a b z c c' P x y w : Nat} (h : z + b = a + c * P) (hs : w + y + c = x + c' * W64) :
    (z + P * w) + (b + P * y) = (a + P * x) + c' * (P * W64) := by
  have : P * w + P * y + P * c = P * x + P * (c' * W64) := by rw [← Nat.mul_add, ← Nat.mul_add, hs, Nat.mul_add]
  have e : c' * (P * W64) = P * (c' * W64) := by rw [← Nat.mul_assoc, Nat.mul_comm c' P, Nat.mul_assoc]
  rw [e]
  rw [Nat.mul_comm c P] at h
  omega

/-- The row with words k.. of it written anew: those below k are the new ones. -/
def mix (l : List Nat) (o : Nat) (zs : Nat → Nat) (k : Nat) : List Nat := (List.range l.length).map fun i => if o ≤ i ∧ i < o + k then zs (i - o) else gd l i
theorem mix_len (l : List Nat) (o : Nat) (zs : Nat → Nat) (k : Nat) : (mix l o zs k).length = l.length := by simp [mix]
theorem gd_mix (l : List Nat) (o : Nat) (zs : Nat → Nat) (k i : Nat) (hi : i < l.length) : gd (mix l o zs k) i = if o ≤ i ∧ i < o + k then zs (i - o) else gd l i := by
  unfold mix
  show ((List.map _ _)[i]?).getD 0 = _
  rw [List.getElem?_map, List.getElem?_range hi]; rfl
theorem ext_gd {l m : List Nat} (hl : l.length = m.length) (h : ∀ i, i < l.length → gd l i = gd m i) : l = m := by
  apply List.ext_getElem hl
  intro i h1 h2
  have := h i h1
  unfold gd at this
  rw [List.getElem?_eq_getElem h1, List.getElem?_eq_getElem h2] at this
  exact this
end Go.Proofs.YtcpjclakdpjjfaaGreatDoor

namespace Go.Proofs.YtcpjclakdpjjfaaGreatDoor
open Go.RowKit

/-- A row of words was written from o on, n words, and nothing else. -/
structure Vec (w w' : World) (b o n : Nat) (l l' : List Nat) : Prop where
  blk : Blk w' b l'
  len : l'.length = l.length
  out : ∀ i, i < o ∨ o + n ≤ i → gd l' i = gd l i
  fr : Fr (fun k => k = b) w w'
theorem Vec.refl {w : World} {b o : Nat} {l : List Nat} (h : Blk w b l) : Vec w w b o 0 l l := ⟨h, rfl, fun _ _ => rfl, Fr.refl _ _⟩
theorem Vec.drewN {w w' : World} {b o n : Nat} {l l' : List Nat} (h : Vec w w' b o n l l') (k : Nat) : Vec w (w'.drewN k) b o n l l' :=
  ⟨h.blk.drewN k, h.len, h.out, h.fr.trans (Fr.drewN _ _ _) (fun _ _ => id)⟩
theorem Vec.push {w w' : World} {b o n : Nat} {l l' : List Nat} (h : Vec w w' b o n l l') {x : Nat} (hx : x < W64) (ho : o + n < l.length) :
    Vec w (w'.setCell ⟨b, o + n, none⟩ (.int .u64 (x : Int))) b o (n + 1) l (l'.set (o + n) x) := by
  refine ⟨h.blk.set _ _ hx, by simp [h.len], ?_, h.fr.trans (Fr.setCell (S := fun k => k = b) _ _ _ (fun _ => rfl)) (fun _ _ => id)⟩
  intro i hi
  rw [gd_set _ _ _ _ (by rw [h.len]; exact ho), if_neg (by omega)]
  exact h.out i (by omega)
/-- A row that is read beside: it is another block, or it lies at the same place. -/
theorem Vec.read {w w' : World} {b o n : Nat} {l l' : List Nat} (h : Vec w w' b o n l l') {bx ox : Nat} {lx : List Nat} (hx : Blk w bx lx) (hl : Blk w b l) (ha : bx = b → ox = o) (hb : ox + n < lx.length) :
    w'.cell? ⟨bx, ox + n, none⟩ = some (.int .u64 ((gd lx (ox + n) : Nat) : Int)) := by
  by_cases e : bx = b
  · subst e
    rw [ha rfl]
    have := hx.same hl
    subst this
    rw [ha rfl] at hb
    rw [h.blk.cell _ (by rw [h.len]; exact hb)]
    show some (Value.int _ ((gd l' (o + n) : Nat) : Int)) = _
    rw [h.out _ (by omega)]
  · exact (hx.frame h.fr e).cell _ hb

def AddEnd (w : World) (b o n : Nat) (l lx ly : List Nat) (ox oy : Nat) (e : Ending) (w' : World) : Prop :=
  ∃ c l', e = .returned (.int .u64 ((c : Nat) : Int)) ∧ Vec w w' b o n l l' ∧ c ≤ 1 ∧ vl l' o n + c * W64 ^ n = vl lx ox n + vl ly oy n

set_option maxHeartbeats 1000000 in
theorem addVV_g_any (bz oz n cz bx ox cx by_ oy cy : Nat) (lz lx ly : List Nat) (w : World) (hz : Blk w bz lz) (hx : Blk w bx lx) (hy : Blk w by_ ly)
    (kz : oz + n ≤ lz.length) (kx : ox + n ≤ lx.length) (ky : oy + n ≤ ly.length) (ax : bx = bz → ox = oz) (ay : by_ = bz → oy = oz) (hn : n ≤ 1000000) :
    Calls Tryz.prog 150 #[.slice (some ⟨bz, oz, none⟩) n cz, .slice (some ⟨bx, ox, none⟩) n cx, .slice (some ⟨by_, oy, none⟩) n cy] w (AddEnd w bz oz n lz lx ly ox oy) := by
  have HX := Lib.hid ax
  have HY := Lib.hid ay
  clear ax ay
  go_enter Tryz.func150, Tryz.ntmps150
  go_wp2
  go_loopw [25, 6] (fun i c wr => ∃ (k cc : Nat) (l' : List Nat), i = .int .i64 (k : Int) ∧ c = .int .u64 (cc : Int) ∧ k ≤ n ∧ Hid (Vec w wr bz oz k lz l' ∧ cc ≤ 1 ∧ vl l' oz k + cc * W64 ^ k = vl lx ox k + vl ly oy k)) (fun i _ _ => n - (intOf i).toNat)
  case atStart => exact ⟨0, 0, lz, rfl, rfl, Nat.zero_le _, Vec.refl hz, by omega, rfl⟩
  case round =>
    obtain ⟨k, cc, l', rfl, rfl, hk, hrel⟩ := hrel
    obtain ⟨hv, hc, hs⟩ := hrel.out
    by_cases hlt : k < n
    · have r1 := hv.read hx hz HX.out (by omega)
      have r2 := hv.read hy hz HY.out (by omega)
      have r3 := hv.blk.free (oz + k)
      have r4 := hv.blk.cell (oz + k) (by rw [hv.len]; omega)
      have H := Lib.hid (bits_Add (gd lx (ox + k)) (gd ly (oy + k)) cc · hc)
      clear hv hc hs
      go_wp2
      go_quiet ((go_at_call 151; exact Calls.quiet_of_same ((H.out _).mono fun _ _ ⟨he, hw⟩ => ⟨he, hw.symm⟩)))
      go_wp2
      go_roundw
      case rel =>
        obtain ⟨hv, hc, hs⟩ := hrel.out
        refine ⟨k + 1, addHi (gd lx (ox + k)) (gd ly (oy + k)) cc, _, by go_num, rfl, by omega, (hv.push (x := addLo (gd lx (ox + k)) (gd ly (oy + k)) cc) (Nat.mod_lt _ W64_pos) (by omega)).drewN nq, ?_, ?_⟩
        · have h1 := gd_lt hx.ok (ox + k)
          have h2 := gd_lt hy.ok (oy + k)
          unfold addHi; unfold W64 at *; omega
        · rw [vl_snoc, vl_snoc, vl_snoc, Nat.pow_succ, gd_set _ _ _ _ (by rw [hv.len]; omega), if_pos rfl]
          rw [vl_congr (m := l') (p := oz) (fun i hi => by rw [gd_set _ _ _ _ (by rw [hv.len]; omega), if_neg (by omega)])]
          exact carry_step hs (addLoHi _ _ _)
      case measure => simp [intOf]; omega
    · obtain rfl : k = n := by omega
      go_wp2
      go_ret
      obtain ⟨hv, hc, hs⟩ := hrel.out
      exact ⟨cc, l', rfl, hv, hc, hs⟩
set_option maxHeartbeats 400000 in
theorem addVV_any (bz oz n cz bx ox cx by_ oy cy : Nat) (lz lx ly : List Nat) (w : World) (hz : Blk w bz lz) (hx : Blk w bx lx) (hy : Blk w by_ ly)
    (kz : oz + n ≤ lz.length) (kx : ox + n ≤ lx.length) (ky : oy + n ≤ ly.length) (ax : bx = bz → ox = oz) (ay : by_ = bz → oy = oz) (hn : n ≤ 1000000) :
    Calls Tryz.prog 124 #[.slice (some ⟨bz, oz, none⟩) n cz, .slice (some ⟨bx, ox, none⟩) n cx, .slice (some ⟨by_, oy, none⟩) n cy] w (AddEnd w bz oz n lz lx ly ox oy) := by
  have H := Lib.hid (addVV_g_any bz oz n cz bx ox cx by_ oy cy lz lx ly w hz hx hy kz kx ky ax ay hn)
  clear ax ay
  go_enter Tryz.func124, Tryz.ntmps124
  go_wp2_with fail
  refine H.out.mono ?_
  rintro e w' ⟨c, l', rfl, h⟩
  go_wp2_with fail
  go_ret
  exact ⟨c, l', rfl, h⟩

def SubEnd (w : World) (b o n : Nat) (l lx ly : List Nat) (ox oy : Nat) (e : Ending) (w' : World) : Prop :=
  ∃ c l', e = .returned (.int .u64 ((c : Nat) : Int)) ∧ Vec w w' b o n l l' ∧ c ≤ 1 ∧ vl l' o n + vl ly oy n = vl lx ox n + c * W64 ^ n

theorem subStep {x y c : Nat} (hx : x < W64) (hy : y < W64) (hc : c ≤ 1) : subLo x y c + y + c = x + subHi x y c * W64 ∧ subHi x y c ≤ 1 := by
  unfold subLo subHi
  unfold W64 at *
  by_cases h : x < y + c
  · simp only [h, if_true]; omega
  · simp only [h, if_false]; omega

set_option maxHeartbeats 1000000 in
theorem subVV_g_any (bz oz n cz bx ox cx by_ oy cy : Nat) (lz lx ly : List Nat) (w : World) (hz : Blk w bz lz) (hx : Blk w bx lx) (hy : Blk w by_ ly)
    (kz : oz + n ≤ lz.length) (kx : ox + n ≤ lx.length) (ky : oy + n ≤ ly.length) (ax : bx = bz → ox = oz) (ay : by_ = bz → oy = oz) (hn : n ≤ 1000000) :
    Calls Tryz.prog 152 #[.slice (some ⟨bz, oz, none⟩) n cz, .slice (some ⟨bx, ox, none⟩) n cx, .slice (some ⟨by_, oy, none⟩) n cy] w (SubEnd w bz oz n lz lx ly ox oy) := by
  have HX := Lib.hid ax
  have HY := Lib.hid ay
  clear ax ay
  go_enter Tryz.func152, Tryz.ntmps152
  go_wp2
  go_loopw [25, 6] (fun i c wr => ∃ (k cc : Nat) (l' : List Nat), i = .int .i64 (k : Int) ∧ c = .int .u64 (cc : Int) ∧ k ≤ n ∧ Hid (Vec w wr bz oz k lz l' ∧ cc ≤ 1 ∧ vl l' oz k + vl ly oy k = vl lx ox k + cc * W64 ^ k)) (fun i _ _ => n - (intOf i).toNat)
  case atStart => exact ⟨0, 0, lz, rfl, rfl, Nat.zero_le _, Vec.refl hz, by omega, rfl⟩
  case round =>
    obtain ⟨k, cc, l', rfl, rfl, hk, hrel⟩ := hrel
    obtain ⟨hv, hc, hs⟩ := hrel.out
    by_cases hlt : k < n
    · have r1 := hv.read hx hz HX.out (by omega)
      have r2 := hv.read hy hz HY.out (by omega)
      have r3 := hv.blk.free (oz + k)
      have r4 := hv.blk.cell (oz + k) (by rw [hv.len]; omega)
      have H := Lib.hid (bits_Sub (gd lx (ox + k)) (gd ly (oy + k)) cc · hc)
      clear hv hc hs
      go_wp2
      go_quiet ((go_at_call 153; exact Calls.quiet_of_same ((H.out _).mono fun _ _ ⟨he, hw⟩ => ⟨he, hw.symm⟩)))
      go_wp2
      go_roundw
      case rel =>
        obtain ⟨hv, hc, hs⟩ := hrel.out
        obtain ⟨s1, s2⟩ := subStep (gd_lt hx.ok (ox + k)) (gd_lt hy.ok (oy + k)) hc
        refine ⟨k + 1, subHi (gd lx (ox + k)) (gd ly (oy + k)) cc, _, by go_num, rfl, by omega, (hv.push (x := subLo (gd lx (ox + k)) (gd ly (oy + k)) cc) (Nat.mod_lt _ W64_pos) (by omega)).drewN nq, s2, ?_⟩
        rw [vl_snoc, vl_snoc, vl_snoc, Nat.pow_succ, gd_set _ _ _ _ (by rw [hv.len]; omega), if_pos rfl]
        rw [vl_congr (m := l') (p := oz) (fun i hi => by rw [gd_set _ _ _ _ (by rw [hv.len]; omega), if_neg (by omega)])]
        exact borrow_step hs s1
      case measure => simp [intOf]; omega
    · obtain rfl : k = n := by omega
      go_wp2
      go_ret
      obtain ⟨hv, hc, hs⟩ := hrel.out
      exact ⟨cc, l', rfl, hv, hc, hs⟩

set_option maxHeartbeats 400000 in
theorem subVV_any (bz oz n cz bx ox cx by_ oy cy : Nat) (lz lx ly : List Nat) (w : World) (hz : Blk w bz lz) (hx : Blk w bx lx) (hy : Blk w by_ ly)
    (kz : oz + n ≤ lz.length) (kx : ox + n ≤ lx.length) (ky : oy + n ≤ ly.length) (ax : bx = bz → ox = oz) (ay : by_ = bz → oy = oz) (hn : n ≤ 1000000) :
    Calls Tryz.prog 126 #[.slice (some ⟨bz, oz, none⟩) n cz, .slice (some ⟨bx, ox, none⟩) n cx, .slice (some ⟨by_, oy, none⟩) n cy] w (SubEnd w bz oz n lz lx ly ox oy) := by
  have H := Lib.hid (subVV_g_any bz oz n cz bx ox cx by_ oy cy lz lx ly w hz hx hy kz kx ky ax ay hn)
  clear ax ay
  go_enter Tryz.func126, Tryz.ntmps126
  go_wp2_with fail
  refine H.out.mono ?_
  rintro e w' ⟨c, l', rfl, h⟩
  go_wp2_with fail
  go_ret
  exact ⟨c, l', rfl, h⟩

def MulEnd (w : World) (b o n : Nat) (l lx : List Nat) (ox y r : Nat) (e : Ending) (w' : World) : Prop :=
  ∃ c l', e = .returned (.int .u64 ((c : Nat) : Int)) ∧ Vec w w' b o n l l' ∧ c < W64 ∧ vl l' o n + c * W64 ^ n = vl lx ox n * y + r

theorem mul_step {a y r z c c' P x w : Nat} (h : z + c * P = a * y + r) (hs : w + c' * W64 = x * y + c) : (z + P * w) + c' * (P * W64) = (a + P * x) * y + r := by
  have : P * w + P * (c' * W64) = P * (x * y) + P * c := by rw [← Nat.mul_add, hs, Nat.mul_add]
  have e : c' * (P * W64) = P * (c' * W64) := by rw [← Nat.mul_assoc, Nat.mul_comm c' P, Nat.mul_assoc]
  rw [e, Nat.add_mul, Nat.mul_assoc P x y]
  rw [Nat.mul_comm c P] at h
  omega

set_option maxHeartbeats 1000000 in
theorem mulAddVWW_g_any (bz oz n cz bx ox cx y r : Nat) (lz lx : List Nat) (w : World) (hz : Blk w bz lz) (hx : Blk w bx lx)
    (kz : oz + n ≤ lz.length) (kx : ox + n ≤ lx.length) (ax : bx = bz → ox = oz) (hy : y < W64) (hr : r < W64) (hn : n ≤ 1000000) :
    Calls Tryz.prog 165 #[.slice (some ⟨bz, oz, none⟩) n cz, .slice (some ⟨bx, ox, none⟩) n cx, .int .u64 (y : Int), .int .u64 (r : Int)] w (MulEnd w bz oz n lz lx ox y r) := by
  have HX := Lib.hid ax
  replace hy := Lib.hid hy
  replace hr := Lib.hid hr
  clear ax
  go_enter Tryz.func165, Tryz.ntmps165
  go_wp2
  go_loopw [19, 8] (fun i c wr => ∃ (k cc : Nat) (l' : List Nat), i = .int .i64 (k : Int) ∧ c = .int .u64 (cc : Int) ∧ k ≤ n ∧ Hid (Vec w wr bz oz k lz l' ∧ cc < W64 ∧ vl l' oz k + cc * W64 ^ k = vl lx ox k * y + r)) (fun i _ _ => n - (intOf i).toNat)
  case atStart => exact ⟨0, r, lz, rfl, rfl, Nat.zero_le _, Vec.refl hz, hr.out, by simp [vl]⟩
  case round =>
    obtain ⟨k, cc, l', rfl, rfl, hk, hrel⟩ := hrel
    obtain ⟨hv, hc, hs⟩ := hrel.out
    by_cases hlt : k < n
    · have r1 := hv.read hx hz HX.out (by omega)
      have r3 := hv.blk.free (oz + k)
      have r4 := hv.blk.cell (oz + k) (by rw [hv.len]; omega)
      have H := Lib.hid (mulAddWWW_any (gd lx (ox + k)) y cc (gd_lt hx.ok _) hy.out hc)
      clear hv hc hs
      go_wp2_with (go_at_call 185; refine (H.out _).mono ?_; rintro e w' ⟨rfl, rfl⟩)
      go_roundw
      case rel =>
        obtain ⟨hv, hc, hs⟩ := hrel.out
        refine ⟨k + 1, maHi (gd lx (ox + k)) y cc, _, by go_num, rfl, by omega, hv.push (x := maLo (gd lx (ox + k)) y cc) (maLo_lt _ _ _) (by omega), maHi_lt (gd_lt hx.ok _) hy.out hc, ?_⟩
        rw [vl_snoc, vl_snoc, Nat.pow_succ, gd_set _ _ _ _ (by rw [hv.len]; omega), if_pos rfl]
        rw [vl_congr (m := l') (p := oz) (fun i hi => by rw [gd_set _ _ _ _ (by rw [hv.len]; omega), if_neg (by omega)])]
        exact mul_step hs (by have := ma_eq (gd lx (ox + k)) y cc; omega)
      case measure => simp [intOf]; omega
    · obtain rfl : k = n := by omega
      go_wp2
      go_ret
      obtain ⟨hv, hc, hs⟩ := hrel.out
      exact ⟨cc, l', rfl, hv, hc, hs⟩

set_option maxHeartbeats 400000 in
theorem mulAddVWW_any (bz oz n cz bx ox cx y r : Nat) (lz lx : List Nat) (w : World) (hz : Blk w bz lz) (hx : Blk w bx lx)
    (kz : oz + n ≤ lz.length) (kx : ox + n ≤ lx.length) (ax : bx = bz → ox = oz) (hy : y < W64) (hr : r < W64) (hn : n ≤ 1000000) :
    Calls Tryz.prog 144 #[.slice (some ⟨bz, oz, none⟩) n cz, .slice (some ⟨bx, ox, none⟩) n cx, .int .u64 (y : Int), .int .u64 (r : Int)] w (MulEnd w bz oz n lz lx ox y r) := by
  have H := Lib.hid (mulAddVWW_g_any bz oz n cz bx ox cx y r lz lx w hz hx kz kx ax hy hr hn)
  clear ax hy hr
  go_enter Tryz.func144, Tryz.ntmps144
  go_wp2_with fail
  refine H.out.mono ?_
  rintro e w' ⟨c, l', rfl, h⟩
  go_wp2_with fail
  go_ret
  exact ⟨c, l', rfl, h⟩

def AmEnd (w : World) (b o n : Nat) (l lx ly : List Nat) (ox oy m a : Nat) (e : Ending) (w' : World) : Prop :=
  ∃ c l', e = .returned (.int .u64 ((c : Nat) : Int)) ∧ Vec w w' b o n l l' ∧ c < W64 ∧ vl l' o n + c * W64 ^ n = vl lx ox n + vl ly oy n * m + a

def amHi (y m x c : Nat) : Nat := (y * m + x + c) / W64
def amLo (y m x c : Nat) : Nat := (y * m + x + c) % W64
theorem amLo_eq (y m x c : Nat) : addLo (maLo y m x) c 0 = amLo y m x c := by unfold addLo maLo amLo; rw [Nat.add_zero, Nat.mod_add_mod]
theorem amHi_eq (y m x c : Nat) : addHi (maLo y m x) c 0 + maHi y m x = amHi y m x c := by
  unfold addHi maLo maHi amHi; unfold W64; omega
theorem amHi_lt {y m x c : Nat} (hy : y < W64) (hm : m < W64) (hx : x < W64) (hc : c < W64) : amHi y m x c < W64 := by
  have := mul_le_max hy hm
  unfold amHi
  unfold W64 at *; omega
theorem am_eq (y m x c : Nat) : amLo y m x c + amHi y m x c * W64 = y * m + x + c := by
  unfold amHi amLo; rw [Nat.mul_comm ((y * m + x + c) / W64)]; exact Nat.mod_add_div _ _

theorem am_step {a b m r z c c' P x y w : Nat} (h : z + c * P = a + b * m + r) (hs : w + c' * W64 = y * m + x + c) : (z + P * w) + c' * (P * W64) = (a + P * x) + (b + P * y) * m + r := by
  have : P * w + P * (c' * W64) = P * (y * m) + P * x + P * c := by rw [← Nat.mul_add, hs, Nat.mul_add, Nat.mul_add]
  have e : c' * (P * W64) = P * (c' * W64) := by rw [← Nat.mul_assoc, Nat.mul_comm c' P, Nat.mul_assoc]
  rw [e, Nat.add_mul, Nat.mul_assoc P y m]
  rw [Nat.mul_comm c P] at h
  omega

set_option maxHeartbeats 1000000 in
theorem addMulVVWW_g_any (bz oz n cz bx ox cx by_ oy cy m a : Nat) (lz lx ly : List Nat) (w : World) (hz : Blk w bz lz) (hx : Blk w bx lx) (hy : Blk w by_ ly)
    (kz : oz + n ≤ lz.length) (kx : ox + n ≤ lx.length) (ky : oy + n ≤ ly.length) (ax : bx = bz → ox = oz) (ay : by_ = bz → oy = oz) (hm : m < W64) (ha : a < W64) (hn : n ≤ 1000000) :
    Calls Tryz.prog 164 #[.slice (some ⟨bz, oz, none⟩) n cz, .slice (some ⟨bx, ox, none⟩) n cx, .slice (some ⟨by_, oy, none⟩) n cy, .int .u64 (m : Int), .int .u64 (a : Int)] w (AmEnd w bz oz n lz lx ly ox oy m a) := by
  have HX := Lib.hid ax
  have HY := Lib.hid ay
  replace hm := Lib.hid hm
  replace ha := Lib.hid ha
  clear ax ay
  go_enter Tryz.func164, Tryz.ntmps164
  go_wp2
  go_loopw [32, 10] (fun i c wr => ∃ (k cc : Nat) (l' : List Nat), i = .int .i64 (k : Int) ∧ c = .int .u64 (cc : Int) ∧ k ≤ n ∧ Hid (Vec w wr bz oz k lz l' ∧ cc < W64 ∧ vl l' oz k + cc * W64 ^ k = vl lx ox k + vl ly oy k * m + a)) (fun i _ _ => n - (intOf i).toNat)
  case atStart => exact ⟨0, a, lz, rfl, rfl, Nat.zero_le _, Vec.refl hz, ha.out, by simp [vl]⟩
  case round =>
    obtain ⟨k, cc, l', rfl, rfl, hk, hrel⟩ := hrel
    obtain ⟨hv, hc, hs⟩ := hrel.out
    by_cases hlt : k < n
    · have r1 := hv.read hx hz HX.out (by omega)
      have r2 := hv.read hy hz HY.out (by omega)
      have r3 := hv.blk.free (oz + k)
      have r4 := hv.blk.cell (oz + k) (by rw [hv.len]; omega)
      have bX := gd_lt hx.ok (ox + k)
      have bY := gd_lt hy.ok (oy + k)
      obtain ⟨X, eX⟩ : ∃ X : Nat, X = gd lx (ox + k) := ⟨_, rfl⟩
      obtain ⟨Y, eY⟩ : ∃ Y : Nat, Y = gd ly (oy + k) := ⟨_, rfl⟩
      rw [← eX] at r1 bX
      rw [← eY] at r2 bY
      have H := Lib.hid (mulAddWWW_any Y m X bY hm.out bX)
      have H2 := Lib.hid (fun w => bits_Add (maLo Y m X) cc 0 w (by omega))
      have F1 : IntKind.u64.wrap (((addHi (maLo Y m X) cc 0 : Nat) : Int) + ((maHi Y m X : Nat) : Int)) = ((amHi Y m X cc : Nat) : Int) := by
        rw [← Int.natCast_add, amHi_eq]; exact wrapu _ (amHi_lt bY hm.out bX hc)
      have bX := Lib.hid bX
      have bY := Lib.hid bY
      replace eX := Lib.hid eX
      replace eY := Lib.hid eY
      clear hv hc hs
      rename_i bX0 bY0
      clear bX0 bY0
      go_wp2
      go_quiet ((go_at_call 185; exact Calls.quiet_of_same ((H.out _).mono fun _ _ ⟨he, hw⟩ => ⟨he, hw.symm⟩)))
      go_wp2_with (go_at_call 151; refine (H2.out _).mono ?_; rintro e w' ⟨rfl, rfl⟩)
      go_roundw
      case rel =>
        obtain ⟨hv, hc, hs⟩ := hrel.out
        refine ⟨k + 1, amHi Y m X cc, l'.set (oz + k) (amLo Y m X cc), by go_num, rfl, by omega, ?_, amHi_lt bY.out hm.out bX.out hc, ?_⟩
        · rw [amLo_eq]; exact (hv.push (x := amLo Y m X cc) (Nat.mod_lt _ W64_pos) (by omega)).drewN nq
        · rw [vl_snoc, vl_snoc, vl_snoc, Nat.pow_succ, gd_set _ _ _ _ (by rw [hv.len]; omega), if_pos rfl]
          rw [vl_congr (m := l') (p := oz) (fun i hi => by rw [gd_set _ _ _ _ (by rw [hv.len]; omega), if_neg (by omega)])]
          rw [← eX.out, ← eY.out]
          exact am_step hs (am_eq _ _ _ _)
      case measure => simp [intOf]; omega
    · obtain rfl : k = n := by omega
      go_wp2
      go_ret
      obtain ⟨hv, hc, hs⟩ := hrel.out
      exact ⟨cc, l', rfl, hv, hc, hs⟩

set_option maxHeartbeats 400000 in
theorem addMulVVWW_any (bz oz n cz bx ox cx by_ oy cy m a : Nat) (lz lx ly : List Nat) (w : World) (hz : Blk w bz lz) (hx : Blk w bx lx) (hy : Blk w by_ ly)
    (kz : oz + n ≤ lz.length) (kx : ox + n ≤ lx.length) (ky : oy + n ≤ ly.length) (ax : bx = bz → ox = oz) (ay : by_ = bz → oy = oz) (hm : m < W64) (ha : a < W64) (hn : n ≤ 1000000) :
    Calls Tryz.prog 141 #[.slice (some ⟨bz, oz, none⟩) n cz, .slice (some ⟨bx, ox, none⟩) n cx, .slice (some ⟨by_, oy, none⟩) n cy, .int .u64 (m : Int), .int .u64 (a : Int)] w (AmEnd w bz oz n lz lx ly ox oy m a) := by
  have H := Lib.hid (addMulVVWW_g_any bz oz n cz bx ox cx by_ oy cy m a lz lx ly w hz hx hy kz kx ky ax ay hm ha hn)
  clear ax ay hm ha
  go_enter Tryz.func141, Tryz.ntmps141
  go_wp2_with fail
  refine H.out.mono ?_
  rintro e w' ⟨c, l', rfl, h⟩
  go_wp2_with fail
  go_ret
  exact ⟨c, l', rfl, h⟩

end Go.Proofs.YtcpjclakdpjjfaaGreatDoor


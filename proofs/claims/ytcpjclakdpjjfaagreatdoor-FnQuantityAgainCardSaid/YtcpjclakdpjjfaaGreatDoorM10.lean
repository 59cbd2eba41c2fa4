/-
  A part of the proof of FnQuantityAgain (texts Di, Ke of mine, joined).
-/
import Derived.Test.YtcpjclakdpjjfaaGreatDoorM09
import Derived.Test.YtcpjclakdpjjfaaGreatDoorM05
namespace Go.Proofs.YtcpjclakdpjjfaaGreatDoor
open Go.RowKit

/-- How a long division stands before digit number k - 1: u's words, q's words, the word h at the top. -/
structure DvI (n M U V : Nat) (lu lq : List Nat) (k h : Nat) : Prop where
  eq : U = V * (W64 ^ k * vl lq k (M - k)) + (vl lu 0 (k + n - 1) + W64 ^ (k + n - 1) * h)
  lt : vl lu k (n - 1) + W64 ^ (n - 1) * h < V
  h1 : k ≤ M → h = gd lu (k + n - 1)
  h0 : k = M + 1 → h = 0
  z : ∀ i, k + n ≤ i → i < n + M → gd lu i = 0

/-- The n + 1 words that the digit is taken of. -/
def dvX (n : Nat) (lu : List Nat) (j h : Nat) : Nat := vl lu j n + W64 ^ n * h

theorem vl_zero' (l : List Nat) (o : Nat) : vl l o 0 = 0 := rfl
theorem vl_nil' (o n : Nat) : vl [] o n = 0 := by
  induction n generalizing o with
  | zero => rfl
  | succ n ih => show gd [] o + W64 * vl [] (o + 1) n = 0; rw [ih]; rfl

theorem vl_nat0 (l : List Nat) (o : Nat) : vl l o 1 = gd l o := by show gd l o + W64 * 0 = _; omega

theorem DvI.low {n M U V : Nat} {lu lq : List Nat} {j h : Nat} (I : DvI n M U V lu lq (j + 1) h) (hn : 1 ≤ n) : U = V * (W64 ^ (j + 1) * vl lq (j + 1) (M - (j + 1))) + (vl lu 0 j + W64 ^ j * dvX n lu j h) := by
  have e := I.eq
  rw [show j + 1 + n - 1 = j + n by omega, vl_add, Nat.zero_add, Nat.pow_add W64 j n] at e
  rw [e]; unfold dvX
  rw [Nat.mul_add, Nat.mul_assoc]; omega

theorem DvI.xlt {n M U V : Nat} {lu lq : List Nat} {j h : Nat} (I : DvI n M U V lu lq (j + 1) h) (hn : 1 ≤ n) (hw : gd lu j < W64) : dvX n lu j h < V * W64 := by
  have e := I.lt
  obtain ⟨n, rfl⟩ : ∃ m, n = m + 1 := ⟨n - 1, by omega⟩
  rw [Nat.add_sub_cancel] at e
  unfold dvX
  show gd lu j + W64 * vl lu (j + 1) n + W64 ^ (n + 1) * h < _
  rw [Nat.pow_succ, Nat.mul_comm (W64 ^ n) W64, Nat.mul_assoc]
  have : W64 * (vl lu (j + 1) n + W64 ^ n * h + 1) ≤ W64 * V := Nat.mul_le_mul_left _ e
  rw [Nat.mul_add, Nat.mul_add, Nat.mul_one] at this
  rw [Nat.mul_comm V]
  omega

/-- The first digit is 0. -/
theorem DvI.first {n M U V : Nat} {lu lq : List Nat} {h : Nat} (I : DvI n M U V lu lq (M + 1) h) (hn : 1 ≤ n) (hU : U < V * W64 ^ M) : dvX n lu M h < V := by
  have e := I.low hn
  have : W64 ^ M * dvX n lu M h < W64 ^ M * V := by
    rw [Nat.mul_comm (W64 ^ M) V]; omega
  exact Nat.lt_of_mul_lt_mul_left this

theorem DvI.step {n M U V : Nat} {lu lq lu2 lq2 : List Nat} {j h : Nat} (I : DvI n M U V lu lq (j + 1) h) (hn : 2 ≤ n) (hU : U < V * W64 ^ M) (hj : j ≤ M) (hV : 0 < V)
    (hlow : ∀ i, i < j → gd lu2 i = gd lu i) (hm : vl lu2 j n = dvX n lu j h % V) (ht : j < M → gd lu2 (j + n) = 0) (hu : ∀ i, j + n < i → gd lu2 i = gd lu i)
    (hq : j < M → gd lq2 j = dvX n lu j h / V ∧ ∀ i, j < i → gd lq2 i = gd lq i) (hqM : j = M → lq2 = lq) : DvI n M U V lu2 lq2 j (gd lu2 (j + n - 1)) := by
  have e := I.low (by omega)
  obtain ⟨n, rfl⟩ : ∃ m, n = m + 1 := ⟨n - 1, by omega⟩
  have es : vl lu2 j (n + 1) = vl lu2 j n + W64 ^ n * gd lu2 (j + n) := vl_snoc _ _ _
  have e1 : j + (n + 1) - 1 = j + n := by omega
  refine ⟨?_, ?_, fun _ => rfl, fun h => by omega, ?_⟩
  · have el : vl lu2 0 (j + (n + 1) - 1) + W64 ^ (j + (n + 1) - 1) * gd lu2 (j + (n + 1) - 1) = vl lu 0 j + W64 ^ j * (dvX (n + 1) lu j h % V) := by
      rw [e1, vl_add, Nat.zero_add, ← hm, es, vl_congr (m := lu) (p := 0) (fun i hi => by rw [Nat.zero_add]; exact hlow i hi), Nat.pow_add, Nat.mul_add, Nat.mul_assoc]
      omega
    rw [el, e]
    have hdm := Nat.div_add_mod (dvX (n + 1) lu j h) V
    have hX : j = M → dvX (n + 1) lu j h < V := fun ej => by subst ej; exact I.first (by omega) hU
    generalize dvX (n + 1) lu j h = X at *
    rcases Nat.lt_or_ge j M with hlt | hge
    · obtain ⟨hq1, hq2⟩ := hq hlt
      obtain ⟨d, hd⟩ : ∃ d, M - j = d + 1 := ⟨M - j - 1, by omega⟩
      rw [show M - (j + 1) = d by omega, hd]
      show _ = V * (W64 ^ j * (gd lq2 j + W64 * vl lq2 (j + 1) d)) + _
      rw [hq1, vl_congr (m := lq) (p := j + 1) (fun i hi => hq2 _ (by omega))]
      conv => lhs; rw [← hdm]
      generalize X / V = q at *
      generalize X % V = r at *
      generalize vl lq (j + 1) d = Y at *
      rw [Nat.pow_succ, Nat.mul_add, Nat.mul_add, Nat.mul_add]
      have a1 : V * (W64 ^ j * W64 * Y) = V * (W64 ^ j * (W64 * Y)) := by rw [Nat.mul_assoc (W64 ^ j)]
      have a2 : W64 ^ j * (V * q) = V * (W64 ^ j * q) := by rw [← Nat.mul_assoc, Nat.mul_comm (W64 ^ j) V, Nat.mul_assoc]
      omega
    · have ejM : j = M := by omega
      subst ejM
      rw [hqM rfl]
      rw [show j - (j + 1) = 0 by omega, Nat.sub_self, vl_zero', vl_zero', Nat.mul_zero, Nat.mul_zero, Nat.mul_zero, Nat.mod_eq_of_lt (hX rfl)]
      simp
  · rw [show n + 1 - 1 = n by omega, e1, ← es, hm]
    exact Nat.mod_lt _ hV
  · intro i h1 h2
    by_cases e : i = j + (n + 1)
    · rw [e]; exact ht (by omega)
    · rw [hu i (by omega)]; exact I.z i (by omega) h2

theorem DvI.done {n M U V : Nat} {lu lq : List Nat} {h : Nat} (I : DvI n M U V lu lq 0 h) (hn : 1 ≤ n) (hV : 0 < V) : vl lq 0 M = U / V ∧ vl lu 0 (n + M) = U % V := by
  have e := I.eq
  have hl := I.lt
  obtain ⟨n, rfl⟩ : ∃ m, n = m + 1 := ⟨n - 1, by omega⟩
  have hh := I.h1 (Nat.zero_le _)
  simp only [Nat.zero_add, Nat.add_sub_cancel, Nat.pow_zero, Nat.one_mul, Nat.sub_zero] at e hl hh
  rw [hh] at e hl
  have es : vl lu 0 (n + 1) = vl lu 0 n + W64 ^ n * gd lu n := by rw [vl_snoc, Nat.zero_add]
  rw [← es] at e hl
  have ez : vl lu 0 (n + 1 + M) = vl lu 0 (n + 1) := by
    have e0 : vl lu (n + 1) M = 0 := (vl_congr (m := []) (p := 0) (fun i hi => by rw [I.z _ (by omega) (by omega)]; rfl)).trans (vl_nil' 0 M)
    rw [vl_add, Nat.zero_add, e0, Nat.mul_zero, Nat.add_zero]
  rw [ez, e]
  constructor
  · rw [Nat.mul_add_div hV, Nat.div_eq_of_lt hl, Nat.add_zero]
  · rw [Nat.mul_add_mod, Nat.mod_eq_of_lt hl]
end Go.Proofs.YtcpjclakdpjjfaaGreatDoor

namespace Go.Proofs.YtcpjclakdpjjfaaGreatDoor
open Go.RowKit

theorem kd_exit {W h u1 u2 v1 v2 q r : Nat} (e : q * v1 + r = h * W + u1) (l : q * v2 ≤ r * W + u2) : q * (v1 * W + v2) ≤ h * W * W + u1 * W + u2 := by
  have h1 : (q * v1 + r) * W = (h * W + u1) * W := by rw [e]
  rw [Nat.add_mul, Nat.add_mul] at h1
  rw [Nat.mul_add, ← Nat.mul_assoc]
  omega
theorem kd_over {W h u1 u2 v1 v2 q r : Nat} (e : q * v1 + r = h * W + u1) (l : r * W + u2 < q * v2) : h * W * W + u1 * W + u2 < q * (v1 * W + v2) := by
  have h1 : (q * v1 + r) * W = (h * W + u1) * W := by rw [e]
  rw [Nat.add_mul, Nat.add_mul] at h1
  rw [Nat.mul_add, ← Nat.mul_assoc]
  omega
theorem kd_h {W P h u1 u2 x0 v1 v2 v0 X V : Nat} (hX : X = (h * W * W + u1 * W + u2) * P + x0) (hV : V = (v1 * W + v2) * P + v0) (h2 : v2 < W) (h0 : v0 < P) (hl : X < V * W) : h ≤ v1 := by
  have a1 : V < (v1 + 1) * (W * P) := by
    have b1 : v1 * W + v2 + 1 ≤ (v1 + 1) * W := by rw [Nat.add_mul v1, Nat.one_mul]; omega
    have b2 := Nat.mul_le_mul_right P b1
    rw [Nat.mul_assoc (v1 + 1), Nat.add_mul (v1 * W + v2), Nat.one_mul] at b2
    omega
  have a2 : V * W ≤ (v1 + 1) * (W * P) * W := Nat.mul_le_mul_right _ (Nat.le_of_lt a1)
  have a3 : h * (W * P * W) ≤ X := by
    have : h * (W * P * W) = h * W * W * P := by rw [Nat.mul_assoc W P W, Nat.mul_comm P W, ← Nat.mul_assoc W W P, ← Nat.mul_assoc, ← Nat.mul_assoc]
    rw [this, hX, Nat.add_mul, Nat.add_mul]; omega
  have a4 : (v1 + 1) * (W * P) * W = (v1 + 1) * (W * P * W) := by rw [Nat.mul_assoc]
  have a5 : h * (W * P * W) < (v1 + 1) * (W * P * W) := by omega
  have := Nat.lt_of_mul_lt_mul_right a5
  omega

/-- A guess, while it is lowered. -/
structure Gs (d h u1 v1 v2 q r x1 x2 : Nat) : Prop where
  e1 : q * v1 + r = h * W64 + u1
  e2 : x1 * W64 + x2 = q * v2
  lo : d ≤ q
  qr : q < W64
  rr : r < W64
  xl : x1 < W64
  xr : x2 < W64

theorem Gs.cmp {d h u1 u2 v1 v2 q r x1 x2 : Nat} (g : Gs d h u1 v1 v2 q r x1 x2) (hu : u2 < W64) : (r < x1 ∨ (x1 = r ∧ u2 < x2)) ↔ r * W64 + u2 < q * v2 := by
  have e := g.e2
  have := g.xr
  rw [← e]
  constructor
  · rintro (h | ⟨rfl, h⟩)
    · have : (r + 1) * W64 ≤ x1 * W64 := Nat.mul_le_mul_right _ h
      rw [Nat.add_mul, Nat.one_mul] at this
      omega
    · omega
  · intro h
    rcases Nat.lt_trichotomy r x1 with h1 | h1 | h1
    · exact Or.inl h1
    · subst h1; exact Or.inr ⟨rfl, by omega⟩
    · have : (x1 + 1) * W64 ≤ r * W64 := Nat.mul_le_mul_right _ h1
      rw [Nat.add_mul, Nat.one_mul] at this
      omega

/-- One lower. -/
theorem Gs.next {d h u1 v1 v2 q r x1 x2 : Nat} (g : Gs d h u1 v1 v2 q r x1 x2) (hd : d < q) (hr : r + v1 < W64) (hv : v2 < W64) :
    Gs d h u1 v1 v2 (q - 1) (r + v1) (x1 - (if x2 < v2 then 1 else 0)) ((x2 + (if x2 < v2 then W64 else 0)) - v2) ∧ (if x2 < v2 then 1 else 0) ≤ x1 := by
  obtain ⟨p, rfl⟩ : ∃ p, q = p + 1 := ⟨q - 1, by omega⟩
  have e1 := g.e1
  have e2 := g.e2
  have hx := g.xr
  have hq := g.qr
  have hxl := g.xl
  rw [Nat.add_mul, Nat.one_mul] at e1 e2
  rw [Nat.add_sub_cancel]
  have hle : (if x2 < v2 then 1 else 0) ≤ x1 := by
    split
    · rename_i hlt
      cases x1 with
      | zero => rw [Nat.zero_mul] at e2; omega
      | succ n => omega
    · omega
  refine ⟨⟨by omega, ?_, by omega, by omega, hr, by omega, ?_⟩, hle⟩
  · split
    · rename_i hlt
      rw [if_pos hlt] at hle
      obtain ⟨y, rfl⟩ : ∃ y, x1 = y + 1 := ⟨x1 - 1, by omega⟩
      rw [Nat.add_sub_cancel]
      rw [Nat.add_mul, Nat.one_mul] at e2
      omega
    · rw [Nat.sub_zero]; omega
  · split <;> omega
end Go.Proofs.YtcpjclakdpjjfaaGreatDoor


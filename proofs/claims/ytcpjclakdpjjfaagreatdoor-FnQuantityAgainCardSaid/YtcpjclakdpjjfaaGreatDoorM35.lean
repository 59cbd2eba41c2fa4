/-
  A part of the proof of FnQuantityAgain (texts Pd, Pe of mine, joined).
-/
import Derived.Test.YtcpjclakdpjjfaaGreatDoorM33
import Derived.Test.YtcpjclakdpjjfaaGreatDoorM01
import Derived.Test.YtcpjclakdpjjfaaGreatDoorM34
/-
  PLAIN LEMMAS for ParseQuantity by 1024, and its reckoning in float32.
-/
namespace Go.Proofs.YtcpjclakdpjjfaaGreatDoor
open Go

theorem make_bin_fast (l : List UInt8) (p : Pq) (x : Int) (h0 : p.denom = []) (h1 : 0 ≤ (15 : Int) - p.num.length - x * 3 / 10 - 1) :
    makeQ l p 2 x 1 = ⟨false, if p.pos then ((decV (p.num ++ p.denom) * 2 ^ x.toNat : Nat) : Int) else -((decV (p.num ++ p.denom) * 2 ^ x.toNat : Nat) : Int), 0, 1,
      if (decide (x % 10 = 0) && !(decV (p.num ++ p.denom) % 8 == 0)) then l else []⟩ := by
  have e2 : ¬ ((2 : Nat) = 10) := by decide
  have e0 : (0 : Int) - (p.denom.length : Int) = 0 := by rw [h0]; rfl
  have hk : keepQ 2 x 0 p.num p.denom = (decide (x % 10 = 0) && !(decV (p.num ++ p.denom) % 8 == 0)) := by
    unfold keepQ
    rw [if_neg e2, Bool.eq_iff_iff, decide_eq_true_iff]
    simp
  rw [makeQ_eq, if_pos]
  · simp only [if_neg e2, e0, hk]
  · unfold precQ
    simp only [if_neg e2, h0, if_true]
    exact ⟨h1, by simp⟩
theorem make_bin_slow (l : List UInt8) (p : Pq) (x : Int) (h : ¬ (p.denom = [] ∧ 0 ≤ (15 : Int) - p.num.length - x * 3 / 10 - 1)) :
    makeQ l p 2 x 1 = slowQ p.pos (decV (p.num ++ p.denom) * 2 ^ x.toNat) (-(p.denom.length : Int)) 1 := by
  have e2 : ¬ ((2 : Nat) = 10) := by decide
  rw [makeQ_eq, if_neg]
  · simp only [if_neg e2, Int.zero_sub]
  · unfold precQ
    simp only [if_neg e2]
    rintro ⟨a, b⟩
    split at a
    · rename_i hd; exact h ⟨hd, a⟩
    · omega
theorem pb_bin {p : Pq} {x : Int} {nD dv : Nat} (h : PB p 2 x) (hD : nD = p.denom.length) (hv : dv = decV (p.num ++ p.denom) * 2 ^ x.toNat) :
    dv < TOP ∧ (-9 ≤ -(nD : Int) → dv * 10 ^ (-(nD : Int) + 9).toNat < TOP) ∧ (-(nD : Int) < -9 → -9 - -(nD : Int) ≤ 57 ∨ dv < 10 ^ (-9 - -(nD : Int)).toNat) := by
  have h2 := h.u
  have h3 := h.hi
  have h4 := h.lo
  have e2 : ¬ ((2 : Nat) = 10) := by decide
  simp only [if_neg e2, Int.zero_sub] at h2 h3 h4
  rw [← hv, ← hD] at *
  exact ⟨h2, h3, h4⟩
theorem slow_bin (pos : Bool) (u : Nat) (e : Int) (hu : u ≠ 0) :
    slowQ pos u e 1 = if maxQ * 10 ^ 9 < nanoN u e then ⟨true, if pos then (maxQ : Int) else -(maxQ : Int), 0, 1, []⟩
      else ⟨true, if pos then (nanoN u e : Int) else -(nanoN u e : Int), -9, if nanoN u e < 10 ^ 9 then 2 else 1, []⟩ := by
  unfold slowQ
  rw [if_neg hu]
  simp

theorem f32_facts {x : Int} (hx : x = 10 ∨ x = 20 ∨ x = 30 ∨ x = 40 ∨ x = 50 ∨ x = 60) : ∃ c1 c2 c3, (∀ w, (convert 21 61 (.int .i32 x)).run Tryz.prog w = .ok (.float .f32 c1) w) ∧
    (∀ w, (binOp .mul 61 (.float .f32 c1) (.float .f32 1077936128)).run Tryz.prog w = .ok (.float .f32 c2) w) ∧ (∀ w, (binOp .quo 61 (.float .f32 c2) (.float .f32 1092616192)).run Tryz.prog w = .ok (.float .f32 c3) w) ∧
    (∀ w, (convert 61 21 (.float .f32 c3)).run Tryz.prog w = .ok (.int .i32 (x * 3 / 10)) w) := by
  rcases hx with rfl | rfl | rfl | rfl | rfl | rfl
  · exact ⟨1092616192, 1106247680, 1077936128, fun w => by kernel_rfl, fun w => by kernel_rfl, fun w => by kernel_rfl, fun w => by kernel_rfl⟩
  · exact ⟨1101004800, 1114636288, 1086324736, fun w => by kernel_rfl, fun w => by kernel_rfl, fun w => by kernel_rfl, fun w => by kernel_rfl⟩
  · exact ⟨1106247680, 1119092736, 1091567616, fun w => by kernel_rfl, fun w => by kernel_rfl, fun w => by kernel_rfl, fun w => by kernel_rfl⟩
  · exact ⟨1109393408, 1123024896, 1094713344, fun w => by kernel_rfl, fun w => by kernel_rfl, fun w => by kernel_rfl, fun w => by kernel_rfl⟩
  · exact ⟨1112014848, 1125515264, 1097859072, fun w => by kernel_rfl, fun w => by kernel_rfl, fun w => by kernel_rfl, fun w => by kernel_rfl⟩
  · exact ⟨1114636288, 1127481344, 1099956224, fun w => by kernel_rfl, fun w => by kernel_rfl, fun w => by kernel_rfl, fun w => by kernel_rfl⟩
end Go.Proofs.YtcpjclakdpjjfaaGreatDoor

namespace Go.Proofs.YtcpjclakdpjjfaaGreatDoor
open Go.RowKit

theorem e90 : ((9 : Int) - 0).toNat = 9 := rfl
theorem cz_max (n : Nat) : (maxQ * 10 ^ 9 < n → cmpZ (n : Int) (9223372036854775807 * ((10 ^ ((9 : Int) - 0).toNat : Nat) : Int)) = 1) ∧ (¬ maxQ * 10 ^ 9 < n → cmpZ (n : Int) (9223372036854775807 * ((10 ^ ((9 : Int) - 0).toNat : Nat) : Int)) ≤ 0) := by
  have h : (9223372036854775807 : Int) * ((10 ^ ((9 : Int) - 0).toNat : Nat) : Int) = ((maxQ * 10 ^ 9 : Nat) : Int) := by decide +kernel
  rw [h]
  generalize maxQ * 10 ^ 9 = M
  unfold cmpZ
  constructor
  · intro h; rw [if_neg (by omega), if_neg (by omega)]
  · intro h; split
    · omega
    · split <;> omega
theorem cz_one (n : Nat) : (n < 10 ^ 9 → cmpZ (n : Int) (1 * ((10 ^ ((9 : Int) - 0).toNat : Nat) : Int)) = -1) ∧ (¬ n < 10 ^ 9 → 0 ≤ cmpZ (n : Int) (1 * ((10 ^ ((9 : Int) - 0).toNat : Nat) : Int))) := by
  have h : (1 : Int) * ((10 ^ ((9 : Int) - 0).toNat : Nat) : Int) = ((10 ^ 9 : Nat) : Int) := by decide +kernel
  rw [h]
  generalize 10 ^ 9 = M
  unfold cmpZ
  constructor
  · intro h; rw [if_pos (by omega)]
  · intro h; rw [if_neg (by omega)]; split <;> omega
theorem cz_zero (n : Nat) (hn : 0 < n) (k : Nat) : cmpZ (n : Int) (0 * ((10 ^ k : Nat) : Int)) = 1 := by
  rw [Int.zero_mul]; unfold cmpZ; rw [if_neg (by omega), if_neg (by omega)]
theorem cz_cap (k : Nat) (hk : k = 0) : cmpZ 9223372036854775807 (1 * ((10 ^ k : Nat) : Int)) = 1 := by subst hk; decide +kernel
theorem cz_neg (y : Int) (hy : 0 < y) (k : Nat) : cmpZ 0 (y * ((10 ^ k : Nat) : Int)) = -1 := by
  have : 0 < y * ((10 ^ k : Nat) : Int) := Int.mul_pos hy (by have : 0 < 10 ^ k := Nat.pow_pos (by omega); omega)
  unfold cmpZ; rw [if_pos this]
theorem cz_nil (k : Nat) : cmpZ 0 (0 * ((10 ^ k : Nat) : Int)) = 0 := by rw [Int.zero_mul]; rfl
theorem Im.mono {w0 w1 w : World} {p : Nat} {z : Int} (f : Fr (fun _ => False) w0 w1) (h : Im w1 w p z) : Im w0 w p z := by
  obtain ⟨ob, hd, g, hp, hb⟩ := h
  have := f.size
  exact ⟨ob, hd, f.trans g (fun _ _ h => h), by omega, fun b e => by have := hb b e; omega⟩
theorem Im.lt {w0 w : World} {p : Nat} {z : Int} (h : Im w0 w p z) : p < w.heap.size := by
  obtain ⟨ob, hd, _⟩ := h
  exact hd.lt
theorem Im.ge {w0 w : World} {p : Nat} {z : Int} (h : Im w0 w p z) : w0.heap.size ≤ p := by
  obtain ⟨ob, hd, _, hp, _⟩ := h
  exact hp
theorem Im.fr {w0 w : World} {p : Nat} {z : Int} (h : Im w0 w p z) : Fr (fun _ => False) w0 w := by
  obtain ⟨ob, hd, f, hp, _⟩ := h
  exact f
theorem b_max : (9223372036854775807 : Int).natAbs < W64 ^ 30 := by unfold W64; decide +kernel
theorem b_one : (1 : Int).natAbs < W64 ^ 30 := by unfold W64; decide +kernel
theorem b_nil : (0 : Int).natAbs < W64 ^ 30 := by unfold W64; decide +kernel
theorem b_nano {u : Nat} {e : Int} (h1 : u < TOP) (h2 : -9 ≤ e → u * 10 ^ (e + 9).toNat < TOP) (h3 : 0 < u) : ((nanoN u e : Nat) : Int).natAbs < W64 ^ 30 := by
  have := nano_top h1 h2 h3
  rw [Int.natAbs_natCast]
  exact Nat.lt_trans this TOP_W
end Go.Proofs.YtcpjclakdpjjfaaGreatDoor


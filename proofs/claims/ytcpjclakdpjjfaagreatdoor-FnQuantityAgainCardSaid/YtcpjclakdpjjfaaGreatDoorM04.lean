/-
  A part of the proof of FnQuantityAgain (texts Sh, Rs, Cp, Ptr of mine, joined).
-/
import Derived.Test.YtcpjclakdpjjfaaGreatDoorM03
import Derived.StillTailTactics
import Derived.Laws.CopyOwn
import Derived.Test.YtcpjclakdpjjfaaGreatDoorM01
import Derived.LaidEqlPtr
namespace Go.Proofs.YtcpjclakdpjjfaaGreatDoor
open Go.RowKit

/-- Word j of a row shifted to the left by s. -/
def shw (l : List Nat) (o s : Nat) : Nat → Nat
  | 0 => gd l o * 2 ^ s % W64
  | j + 1 => gd l (o + (j + 1)) * 2 ^ s % W64 + gd l (o + j) / 2 ^ (64 - s)

theorem shw_lt {l : List Nat} (h : ∀ x ∈ l, x < W64) {s : Nat} (hs : s ≤ 64) (o j : Nat) : shw l o s j < W64 := by
  cases j with
  | zero => exact Nat.mod_lt _ W64_pos
  | succ j =>
    have h1 := lo_top_lt (gd_lt h (o + j)) hs
    show gd l (o + (j + 1)) * 2 ^ s % W64 + _ < _
    have h2 : gd l (o + (j + 1)) * 2 ^ s % W64 = (gd l (o + (j + 1)) % 2 ^ (64 - s)) * 2 ^ s := by rw [← pow_split hs, Nat.mul_mod_mul_right]
    have h3 : gd l (o + (j + 1)) % 2 ^ (64 - s) < 2 ^ (64 - s) := Nat.mod_lt _ (Nat.two_pow_pos _)
    have h4 : (gd l (o + (j + 1)) % 2 ^ (64 - s) + 1) * 2 ^ s ≤ 2 ^ (64 - s) * 2 ^ s := Nat.mul_le_mul_right _ h3
    rw [pow_split hs, Nat.add_mul, Nat.one_mul] at h4
    omega

theorem shw_val {l l' : List Nat} {o p s : Nat} (hs : s ≤ 64) (n : Nat) (h : ∀ j, j < n + 1 → gd l' (p + j) = shw l o s j) :
    vl l' p (n + 1) + gd l (o + n) / 2 ^ (64 - s) * W64 ^ (n + 1) = vl l o (n + 1) * 2 ^ s := by
  induction n with
  | zero =>
    have e := h 0 (by omega)
    rw [vl_snoc, vl_snoc, e]
    show 0 + W64 ^ 0 * (gd l o * 2 ^ s % W64) + gd l o / 2 ^ (64 - s) * W64 ^ 1 = (0 + W64 ^ 0 * gd l o) * 2 ^ s
    rw [← @shl_split (gd l o) s hs, Nat.pow_zero, Nat.pow_one, Nat.one_mul, Nat.one_mul, Nat.zero_add, Nat.zero_add, Nat.mul_comm (_ / W64)]
    exact Nat.mod_add_div _ _
  | succ n ih =>
    have ih := ih (fun j hj => h j (by omega))
    have e := h (n + 1) (by omega)
    rw [vl_snoc l' p (n + 1), vl_snoc l o (n + 1), e]
    show vl l' p (n + 1) + W64 ^ (n + 1) * (gd l (o + (n + 1)) * 2 ^ s % W64 + gd l (o + n) / 2 ^ (64 - s)) + gd l (o + (n + 1)) / 2 ^ (64 - s) * (W64 ^ (n + 1) * W64) = _
    rw [← @shl_split (gd l (o + (n + 1))) s hs]
    have hx := Nat.mod_add_div (gd l (o + (n + 1)) * 2 ^ s) W64
    generalize gd l (o + (n + 1)) = x at *
    generalize gd l (o + n) / 2 ^ (64 - s) = D at *
    generalize W64 ^ (n + 1) = P at *
    generalize x * 2 ^ s % W64 = A at *
    generalize x * 2 ^ s / W64 = B at *
    rw [Nat.add_mul, ← ih, Nat.mul_assoc P x, ← hx, Nat.mul_add, Nat.mul_add, Nat.mul_comm D P, Nat.mul_comm B, Nat.mul_assoc P W64]
    omega

theorem and63 {s : Nat} (h : s ≤ 63) : bits .and .u64 (s : Int) 63 = (s : Int) := by
  rw [show (63 : Int) = ((63 : Nat) : Int) by rfl, bits_and_u64_nat _ _ (by omega) (by omega), show (63 : Nat) = 2 ^ 6 - 1 by rfl, Nat.and_two_pow_sub_one_eq_mod]
  congr 1; omega

def ShEnd (w : World) (b o n : Nat) (l lx : List Nat) (ox s : Nat) (e : Ending) (w' : World) : Prop :=
  ∃ c l', e = .returned (.int .u64 ((c : Nat) : Int)) ∧ Vec w w' b o n l l' ∧ c < W64 ∧ vl l' o n + c * W64 ^ n = vl lx ox n * 2 ^ s

set_option maxHeartbeats 2000000 in
set_option maxRecDepth 100000 in
theorem lshVU_g_any (bz oz n cz bx ox cx s : Nat) (lz lx : List Nat) (w : World) (hz : Blk w bz lz) (hx : Blk w bx lx)
    (kz : oz + n ≤ lz.length) (kx : ox + n ≤ lx.length) (ax : bx = bz → ox = oz) (hn : n ≤ 1000000) (h1 : 1 ≤ n) (hs : 1 ≤ s) (hs2 : s ≤ 63) :
    Calls Tryz.prog 109 #[.slice (some ⟨bz, oz, none⟩) n cz, .slice (some ⟨bx, ox, none⟩) n cx, .int .u64 (s : Int)] w (ShEnd w bz oz n lz lx ox s) := by
  have HX := Lib.hid ax
  clear ax
  have e0 : ((s : Int) == 0) = false := by simp; omega
  have e1 : ((n : Int) == 0) = false := by simp; omega
  have F1 := and63 hs2
  have F2 : bits .and .u64 (64 - (s : Int)) 63 = 64 - (s : Int) := by
    have := and63 (s := 64 - s) (by omega)
    rw [show (64 : Int) - (s : Int) = ((64 - s : Nat) : Int) by omega]; exact this
  have r0 : w.cell? ⟨bx, ox + (n - 1), none⟩ = some (.int .u64 ((gd lx (ox + (n - 1)) : Nat) : Int)) := hx.cell _ (by omega)
  go_enter Tryz.func109, Tryz.ntmps109
  go_wp2
  go_loopw [8] (fun i wr => ∃ (k : Nat) (l' : List Nat), i = .int .i64 (k : Int) ∧ k ≤ n - 1 ∧ Hid (Blk wr bz l' ∧ l'.length = lz.length ∧ Fr (fun k => k = bz) w wr ∧ (∀ t, t ≤ oz + k ∨ oz + n ≤ t → gd l' t = gd lz t) ∧ ∀ j, k < j → j < n → gd l' (oz + j) = shw lx ox s j)) (fun i _ => (intOf i).toNat)
  case atStart => exact ⟨n - 1, lz, by congr 1; omega, Nat.le_refl _, hz, rfl, Fr.refl _ _, fun _ _ => rfl, fun j h1 h2 => by omega⟩
  case round =>
    obtain ⟨k, l', rfl, hk, hrel⟩ := hrel
    obtain ⟨g1, g2, g3, g4, g5⟩ := hrel.out
    have hrd : ∀ j, j ≤ k → wr.cell? ⟨bx, ox + j, none⟩ = some (.int .u64 ((gd lx (ox + j) : Nat) : Int)) := by
      intro j hj
      by_cases e : bx = bz
      · subst e
        have := hx.same hz
        subst this
        rw [HX.out rfl]
        rw [g1.cell _ (by omega)]
        show some (Value.int _ ((gd l' (oz + j) : Nat) : Int)) = _
        rw [g4 _ (by omega)]
      · exact (hx.frame g3 e).cell _ (by omega)
    by_cases hlt : 0 < k
    · obtain ⟨p, hp⟩ : ∃ p : Nat, k = p + 1 := ⟨k - 1, by omega⟩
      have r1 := hrd k (by omega)
      have r2 := hrd p (by omega)
      have r3 := g1.free (oz + k)
      have r4 := g1.cell (oz + k) (by omega)
      have bx1 := shw_lt hx.ok (s := s) (by omega) ox k
      have F3 : bits .or .u64 (IntKind.u64.wrap (((gd lx (ox + k) : Nat) : Int) * 2 ^ s)) (((gd lx (ox + p) : Nat) : Int) / 2 ^ (64 - s)) = ((shw lx ox s k : Nat) : Int) := by
        have h1 := lo_top_lt (gd_lt hx.ok (ox + p)) (show s ≤ 64 by omega)
        have hlt2 := Nat.lt_of_lt_of_le h1 (Nat.pow_le_pow_right (show 0 < 2 by omega) (show s ≤ 64 by omega))
        have h2 : gd lx (ox + k) * 2 ^ s % W64 = (gd lx (ox + k) % 2 ^ (64 - s)) * 2 ^ s := by rw [← pow_split (show s ≤ 64 by omega), Nat.mul_mod_mul_right]
        have h3 : gd lx (ox + k) * 2 ^ s % W64 < W64 := Nat.mod_lt _ W64_pos
        subst hp
        rw [show ((gd lx (ox + (p + 1)) : Nat) : Int) * 2 ^ s = ((gd lx (ox + (p + 1)) * 2 ^ s : Nat) : Int) by simp, wrapu_mod, ← Int.natCast_emod,
          show ((gd lx (ox + p) : Nat) : Int) / 2 ^ (64 - s) = ((gd lx (ox + p) / 2 ^ (64 - s) : Nat) : Int) by simp, bits_or_u64_nat _ _ (by unfold W64 at h3; exact h3) (by exact hlt2)]
        congr 1
        show _ = gd lx (ox + (p + 1)) * 2 ^ s % W64 + gd lx (ox + p) / 2 ^ (64 - s)
        rw [h2, ← Nat.shiftLeft_eq, ← Nat.shiftLeft_add_eq_or_of_lt h1]
      have e5 : IntKind.i64.wrap ((k : Int) - 1) = (p : Int) := by rw [IntWalk.i64_in _ (by omega)]; omega
      have e6 : (k : Int) < (n : Int) := by omega
      have e7 : (p : Int) < (n : Int) := by omega
      replace bx1 := Lib.hid bx1
      replace hp := Lib.hid hp
      clear hrd g1 g2 g3 g4 g5
      go_wp2
      go_still_tail 16, (by kernel_rfl)
      change wpList _ _ _ _ _ wr.drew
      go_wp2
      go_roundw
      case rel =>
        obtain ⟨g1, g2, g3, g4, g5⟩ := hrel.out
        refine ⟨p, l'.set (oz + k) (shw lx ox s k), by first | rfl | (congr 1; have := hp.out; omega), by have := hp.out; omega, (g1.set _ _ bx1.out).drew, by simp [g2], ?_, ?_, ?_⟩
        · exact (g3.trans (Fr.setCell (S := fun k => k = bz) _ _ _ (fun _ => rfl)) (fun _ _ => id)).trans (Fr.drew _ _) (fun _ _ => id)
        · intro t ht
          have := hp.out
          rw [gd_set _ _ _ _ (by omega), if_neg (by omega)]
          exact g4 _ (by omega)
        · intro j h1 h2
          have := hp.out
          rw [gd_set _ _ _ _ (by omega)]
          by_cases e : j = k
          · rw [if_pos (by omega), e]
          · rw [if_neg (by omega)]; exact g5 j (by omega) h2
      case measure => have := hp.out; simp [intOf]; omega
    · obtain rfl : k = 0 := by omega
      have r1 := hrd 0 (by omega)
      have r3 := g1.free oz
      have r4 := g1.cell oz (by omega)
      rw [Nat.add_zero] at r1
      have F4 : IntKind.u64.wrap (((gd lx ox : Nat) : Int) * 2 ^ s) = ((shw lx ox s 0 : Nat) : Int) := by
        rw [show ((gd lx ox : Nat) : Int) * 2 ^ s = ((gd lx ox * 2 ^ s : Nat) : Int) by simp, wrapu_mod, ← Int.natCast_emod]; rfl
      clear hrd g1 g2 g3 g4 g5
      go_wp2
      go_ret
      obtain ⟨g1, g2, g3, g4, g5⟩ := hrel.out
      have b0 := shw_lt hx.ok (s := s) (by omega) ox 0
      have b1 := Nat.lt_of_lt_of_le (lo_top_lt (gd_lt hx.ok (ox + (n - 1))) (show s ≤ 64 by omega)) (Nat.pow_le_pow_right (show 0 < 2 by omega) (show s ≤ 64 by omega))
      refine ⟨gd lx (ox + (n - 1)) / 2 ^ (64 - s), l'.set oz (shw lx ox s 0), ret_int (by simp), ⟨g1.set _ _ b0, by simp [g2], ?_, ?_⟩, b1, ?_⟩
      · intro t ht
        rw [gd_set _ _ _ _ (by omega), if_neg (by omega)]
        exact g4 _ (by omega)
      · exact g3.trans (Fr.setCell (S := fun k => k = bz) _ _ _ (fun _ => rfl)) (fun _ _ => id)
      · obtain ⟨m, rfl⟩ : ∃ m, n = m + 1 := ⟨n - 1, by omega⟩
        refine shw_val (by omega) m (fun j hj => ?_)
        rw [gd_set _ _ _ _ (by omega)]
        by_cases e : j = 0
        · rw [if_pos (by omega), e]
        · rw [if_neg (by omega)]; exact g5 j (by omega) hj
end Go.Proofs.YtcpjclakdpjjfaaGreatDoor

namespace Go.Proofs.YtcpjclakdpjjfaaGreatDoor
open Go.RowKit

/-- Word j of a row shifted to the right by s, that is not the last one. -/
def srw (l : List Nat) (o s j : Nat) : Nat := gd l (o + j) / 2 ^ s + gd l (o + j + 1) * 2 ^ (64 - s) % W64

theorem top_mod {x s : Nat} (hs : s ≤ 64) : x * 2 ^ (64 - s) % W64 = (x % 2 ^ s) * 2 ^ (64 - s) := by
  rw [← pow_split hs, Nat.mul_comm (2 ^ (64 - s)), Nat.mul_mod_mul_right]

theorem shr_lt {l : List Nat} (h : ∀ x ∈ l, x < W64) {o s : Nat} (hs : s ≤ 64) : gd l o / 2 ^ s < 2 ^ (64 - s) := by
  rw [Nat.div_lt_iff_lt_mul (Nat.two_pow_pos _), pow_split hs]; exact gd_lt h o

theorem srw_lt {l : List Nat} (h : ∀ x ∈ l, x < W64) {s : Nat} (hs : s ≤ 64) (o j : Nat) : srw l o s j < W64 := by
  have h1 := shr_lt h (o := o + j) hs
  unfold srw
  rw [top_mod hs]
  have h3 : gd l (o + j + 1) % 2 ^ s < 2 ^ s := Nat.mod_lt _ (Nat.two_pow_pos _)
  have h4 : (gd l (o + j + 1) % 2 ^ s + 1) * 2 ^ (64 - s) ≤ 2 ^ s * 2 ^ (64 - s) := Nat.mul_le_mul_right _ h3
  rw [Nat.mul_comm (2 ^ s), pow_split hs, Nat.add_mul, Nat.one_mul] at h4
  omega

theorem vl_mod {l : List Nat} {o n s : Nat} (hs : s ≤ 64) : vl l o (n + 1) % 2 ^ s = gd l o % 2 ^ s := by
  show (gd l o + W64 * vl l (o + 1) n) % 2 ^ s = _
  rw [← pow_split hs, Nat.mul_comm (2 ^ (64 - s)), Nat.mul_assoc, Nat.add_mul_mod_self_left]

theorem srw_val {l l' : List Nat} {s : Nat} (hs : s ≤ 64) : ∀ (n o p : Nat), (∀ j, j < n → gd l' (p + j) = srw l o s j) → gd l' (p + n) = gd l (o + n) / 2 ^ s → vl l' p (n + 1) = vl l o (n + 1) / 2 ^ s := by
  intro n
  induction n with
  | zero =>
    intro o p _ h2
    show gd l' p + W64 * 0 = (gd l o + W64 * 0) / 2 ^ s
    rw [Nat.mul_zero, Nat.add_zero, Nat.add_zero]; exact h2
  | succ n ih =>
    intro o p h1 h2
    have ih := ih (o + 1) (p + 1) (fun j hj => by
      rw [show p + 1 + j = p + (j + 1) by omega, h1 (j + 1) (by omega)]
      unfold srw
      rw [show o + (j + 1) = o + 1 + j by omega]) (by rw [show p + 1 + n = p + (n + 1) by omega, h2, show o + (n + 1) = o + 1 + n by omega])
    have h0 := h1 0 (by omega)
    rw [Nat.add_zero] at h0
    show gd l' p + W64 * vl l' (p + 1) (n + 1) = (gd l o + W64 * vl l (o + 1) (n + 1)) / 2 ^ s
    rw [ih, h0]
    unfold srw
    rw [Nat.add_zero, top_mod hs, ← vl_mod (n := n) (l := l) (o := o + 1) hs]
    have hd := Nat.div_add_mod (vl l (o + 1) (n + 1)) (2 ^ s)
    generalize vl l (o + 1) (n + 1) = V at *
    have key : (gd l o + W64 * V) / 2 ^ s = gd l o / 2 ^ s + 2 ^ (64 - s) * V := by
      rw [← pow_split hs, Nat.mul_comm (2 ^ (64 - s)), Nat.mul_assoc, Nat.add_mul_div_left _ _ (Nat.two_pow_pos s)]
    have key2 : W64 * (V / 2 ^ s) = 2 ^ (64 - s) * (2 ^ s * (V / 2 ^ s)) := by rw [← pow_split hs, Nat.mul_assoc]
    have key3 : 2 ^ (64 - s) * V = 2 ^ (64 - s) * (2 ^ s * (V / 2 ^ s)) + 2 ^ (64 - s) * (V % 2 ^ s) := by rw [← Nat.mul_add, hd]
    rw [key, key2, key3, Nat.mul_comm (V % 2 ^ s)]; omega

def RsEnd (w : World) (b o n : Nat) (l lx : List Nat) (ox s : Nat) (e : Ending) (w' : World) : Prop :=
  ∃ (c : Int) (l' : List Nat), e = .returned (.int .u64 c) ∧ Vec w w' b o n l l' ∧ vl l' o n = vl lx ox n / 2 ^ s

set_option maxHeartbeats 2000000 in
set_option maxRecDepth 100000 in
theorem rshVU_g_any (bz oz n cz bx ox cx s : Nat) (lz lx : List Nat) (w : World) (hz : Blk w bz lz) (hx : Blk w bx lx)
    (kz : oz + n ≤ lz.length) (kx : ox + n ≤ lx.length) (ax : bx = bz → ox = oz) (hn : n ≤ 1000000) (h1 : 1 ≤ n) (hs : 1 ≤ s) (hs2 : s ≤ 63) :
    Calls Tryz.prog 216 #[.slice (some ⟨bz, oz, none⟩) n cz, .slice (some ⟨bx, ox, none⟩) n cx, .int .u64 (s : Int)] w (RsEnd w bz oz n lz lx ox s) := by
  have HX := Lib.hid ax
  clear ax
  have e0 : ((s : Int) == 0) = false := by simp; omega
  have e1 : ((n : Int) == 0) = false := by simp; omega
  have F1 := and63 hs2
  have F2 : bits .and .u64 (64 - (s : Int)) 63 = 64 - (s : Int) := by
    have := and63 (s := 64 - s) (by omega)
    rw [show (64 : Int) - (s : Int) = ((64 - s : Nat) : Int) by omega]; exact this
  have r0 : w.cell? ⟨bx, ox, none⟩ = some (.int .u64 ((gd lx ox : Nat) : Int)) := hx.cell _ (by omega)
  go_enter Tryz.func216, Tryz.ntmps216
  go_wp2
  go_loopw [8] (fun i wr => ∃ (k : Nat) (l' : List Nat), i = .int .i64 ((k : Int) + 1) ∧ k ≤ n - 1 ∧ Hid (Vec w wr bz oz k lz l' ∧ ∀ j, j < k → gd l' (oz + j) = srw lx ox s j)) (fun i _ => n - (intOf i).toNat)
  case atStart => exact ⟨0, lz, rfl, by omega, Vec.refl hz, fun j h => by omega⟩
  case round =>
    obtain ⟨k, l', rfl, hk, hrel⟩ := hrel
    obtain ⟨g1, g5⟩ := hrel.out
    have hrd : ∀ j, k ≤ j → j < n → wr.cell? ⟨bx, ox + j, none⟩ = some (.int .u64 ((gd lx (ox + j) : Nat) : Int)) := by
      intro j hj hj2
      by_cases e : bx = bz
      · subst e
        have := hx.same hz
        subst this
        rw [HX.out rfl]
        rw [g1.blk.cell _ (by have := g1.len; omega)]
        show some (Value.int _ ((gd l' (oz + j) : Nat) : Int)) = _
        rw [g1.out _ (by omega)]
      · exact (hx.frame g1.fr e).cell _ (by omega)
    by_cases hlt : k + 1 < n
    · have r1 := hrd k (by omega) (by omega)
      have r2 := hrd (k + 1) (by omega) hlt
      have r3 := g1.blk.free (oz + k)
      have r4 := g1.blk.cell (oz + k) (by have := g1.len; omega)
      have bx1 := srw_lt hx.ok (s := s) (by omega) ox k
      have F3 : bits .or .u64 (((gd lx (ox + k) : Nat) : Int) / 2 ^ s) (IntKind.u64.wrap (((gd lx (ox + (k + 1)) : Nat) : Int) * 2 ^ (64 - s))) = ((srw lx ox s k : Nat) : Int) := by
        have h1 := shr_lt hx.ok (o := ox + k) (show s ≤ 64 by omega)
        have hlt2 := Nat.lt_of_lt_of_le h1 (Nat.pow_le_pow_right (show 0 < 2 by omega) (show 64 - s ≤ 64 by omega))
        have h3 : gd lx (ox + (k + 1)) * 2 ^ (64 - s) % W64 < W64 := Nat.mod_lt _ W64_pos
        rw [show ((gd lx (ox + (k + 1)) : Nat) : Int) * 2 ^ (64 - s) = ((gd lx (ox + (k + 1)) * 2 ^ (64 - s) : Nat) : Int) by simp, wrapu_mod, ← Int.natCast_emod,
          show ((gd lx (ox + k) : Nat) : Int) / 2 ^ s = ((gd lx (ox + k) / 2 ^ s : Nat) : Int) by simp, bits_or_u64_nat _ _ (by exact hlt2) (by unfold W64 at h3; exact h3)]
        congr 1
        show _ = gd lx (ox + k) / 2 ^ s + gd lx (ox + k + 1) * 2 ^ (64 - s) % W64
        rw [show ox + (k + 1) = ox + k + 1 by omega, top_mod (show s ≤ 64 by omega), ← Nat.shiftLeft_eq, Nat.or_comm, ← Nat.shiftLeft_add_eq_or_of_lt h1, Nat.add_comm]
      have e5 : IntKind.i64.wrap ((k : Int) + 1 - 1) = (k : Int) := by rw [IntWalk.i64_in _ (by omega)]; omega
      have e11 : IntKind.i64.wrap (k : Int) = (k : Int) := IntWalk.i64_in _ (by omega)
      have e6 : (k : Int) + 1 < (n : Int) := by omega
      have e7 : (k : Int) < (n : Int) := by omega
      have e8 : ((k : Int) + 1).toNat = k + 1 := by omega
      have e9 : (0 : Int) ≤ (k : Int) + 1 := by omega
      have e10 : (k : Int) + 1 - 1 = (k : Int) := by omega
      replace bx1 := Lib.hid bx1
      clear hrd g1 g5
      go_wp2
      go_still_tail 17, (by kernel_rfl)
      change wpList _ _ _ _ _ wr.drew
      go_wp2
      go_roundw
      case rel =>
        obtain ⟨g1, g5⟩ := hrel.out
        refine ⟨k + 1, l'.set (oz + k) (srw lx ox s k), by go_num, by omega, (g1.push bx1.out (by omega)).drewN 1, ?_⟩
        intro j h1
        rw [gd_set _ _ _ _ (by have := g1.len; omega)]
        by_cases e : j = k
        · rw [if_pos (by omega), e]
        · rw [if_neg (by omega)]; exact g5 j (by omega)
      case measure => simp [intOf]; omega
    · obtain rfl : k = n - 1 := by omega
      have r1 := hrd (n - 1) (by omega) (by omega)
      have r3 := g1.blk.free (oz + (n - 1))
      have r4 := g1.blk.cell (oz + (n - 1)) (by have := g1.len; omega)
      have bL := shr_lt hx.ok (o := ox + (n - 1)) (show s ≤ 64 by omega)
      replace bL := Lib.hid (Nat.lt_of_lt_of_le bL (Nat.pow_le_pow_right (show 0 < 2 by omega) (show 64 - s ≤ 64 by omega)))
      clear hrd g1 g5
      go_wp2
      go_ret
      obtain ⟨g1, g5⟩ := hrel.out
      have hp := g1.push (x := gd lx (ox + (n - 1)) / 2 ^ s) bL.out (by omega)
      rw [show n - 1 + 1 = n by omega] at hp
      refine ⟨_, l'.set (oz + (n - 1)) (gd lx (ox + (n - 1)) / 2 ^ s), rfl, by simpa using hp, ?_⟩
      obtain ⟨m, rfl⟩ : ∃ m, n = m + 1 := ⟨n - 1, by omega⟩
      simp only [Nat.add_sub_cancel] at *
      refine srw_val (by omega) m ox oz (fun j hj => ?_) ?_
      · rw [gd_set _ _ _ _ (by have := g1.len; omega), if_neg (by omega)]; exact g5 j hj
      · rw [gd_set _ _ _ _ (by have := g1.len; omega), if_pos rfl]

set_option maxHeartbeats 400000 in
theorem lshVU_any (bz oz n cz bx ox cx s : Nat) (lz lx : List Nat) (w : World) (hz : Blk w bz lz) (hx : Blk w bx lx)
    (kz : oz + n ≤ lz.length) (kx : ox + n ≤ lx.length) (ax : bx = bz → ox = oz) (hn : n ≤ 1000000) (h1 : 1 ≤ n) (hs : 1 ≤ s) (hs2 : s ≤ 63) :
    Calls Tryz.prog 87 #[.slice (some ⟨bz, oz, none⟩) n cz, .slice (some ⟨bx, ox, none⟩) n cx, .int .u64 (s : Int)] w (ShEnd w bz oz n lz lx ox s) := by
  have H := Lib.hid (lshVU_g_any bz oz n cz bx ox cx s lz lx w hz hx kz kx ax hn h1 hs hs2)
  clear ax
  go_enter Tryz.func87, Tryz.ntmps87
  go_wp2_with fail
  refine H.out.mono ?_
  rintro e w' ⟨c, l', rfl, h⟩
  go_wp2_with fail
  go_ret
  exact ⟨c, l', rfl, h⟩

set_option maxHeartbeats 400000 in
theorem rshVU_any (bz oz n cz bx ox cx s : Nat) (lz lx : List Nat) (w : World) (hz : Blk w bz lz) (hx : Blk w bx lx)
    (kz : oz + n ≤ lz.length) (kx : ox + n ≤ lx.length) (ax : bx = bz → ox = oz) (hn : n ≤ 1000000) (h1 : 1 ≤ n) (hs : 1 ≤ s) (hs2 : s ≤ 63) :
    Calls Tryz.prog 192 #[.slice (some ⟨bz, oz, none⟩) n cz, .slice (some ⟨bx, ox, none⟩) n cx, .int .u64 (s : Int)] w (RsEnd w bz oz n lz lx ox s) := by
  have H := Lib.hid (rshVU_g_any bz oz n cz bx ox cx s lz lx w hz hx kz kx ax hn h1 hs hs2)
  clear ax
  go_enter Tryz.func192, Tryz.ntmps192
  go_wp2_with fail
  refine H.out.mono ?_
  rintro e w' ⟨c, l', rfl, h⟩
  go_wp2_with fail
  go_ret
  exact ⟨c, l', rfl, h⟩
end Go.Proofs.YtcpjclakdpjjfaaGreatDoor

namespace Go.Proofs.YtcpjclakdpjjfaaGreatDoor
open Go.RowKit

/-- The row l with the words ws laid from o on. -/
def splw (l : List Nat) (o : Nat) (ws : List Nat) : List Nat := l.take o ++ (ws ++ l.drop (o + ws.length))
def segw (l : List Nat) (o n : Nat) : List Nat := (l.drop o).take n

theorem segw_len {l : List Nat} {o n : Nat} (h : o + n ≤ l.length) : (segw l o n).length = n := by simp [segw]; omega
theorem gd_segw (l : List Nat) (o n j : Nat) (h : j < n) : gd (segw l o n) j = gd l (o + j) := by
  unfold gd segw
  rw [List.getElem?_take, if_pos h, List.getElem?_drop]
theorem splw_len {l ws : List Nat} {o : Nat} (h : o + ws.length ≤ l.length) : (splw l o ws).length = l.length := by simp [splw]; omega
theorem gd_splw {l ws : List Nat} {o : Nat} (h : o + ws.length ≤ l.length) (i : Nat) : gd (splw l o ws) i = if o ≤ i ∧ i < o + ws.length then gd ws (i - o) else gd l i := by
  unfold gd splw
  have ht : (l.take o).length = o := by simp; omega
  rw [List.getElem?_append, ht]
  by_cases h1 : i < o
  · rw [if_pos h1, if_neg (by omega), List.getElem?_take, if_pos h1]
  · rw [if_neg h1, List.getElem?_append]
    by_cases h2 : i - o < ws.length
    · rw [if_pos h2, if_pos (by omega)]
    · rw [if_neg h2, if_neg (by omega), List.getElem?_drop]
      congr 2; omega

theorem Blk.splice {w : World} {b o : Nat} {l ws : List Nat} (h : Blk w b l) (hw : ∀ x ∈ ws, x < W64) (ho : o + ws.length ≤ l.length) :
    Vec w (w.setRow b ((l.map wrd).toArray.toList.take o ++ ((ws.map wrd) ++ (l.map wrd).toArray.toList.drop (o + (ws.map wrd).length))).toArray) b o ws.length l (splw l o ws) := by
  obtain ⟨T, hT⟩ := h.at_
  refine ⟨⟨⟨T, ?_⟩, ?_⟩, splw_len ho, ?_, ⟨rfl, rfl, rfl, by simp, ?_⟩⟩
  · rw [setRow_heap _ _ _ _ _ _ hT]
    simp [splw, List.map_take, List.map_drop]
  · intro x hx
    unfold splw at hx
    rcases List.mem_append.1 hx with hx | hx
    · exact h.ok _ (List.mem_of_mem_take hx)
    · rcases List.mem_append.1 hx with hx | hx
      · exact hw _ hx
      · exact h.ok _ (List.mem_of_mem_drop hx)
  · intro i hi
    rw [gd_splw ho, if_neg (by omega)]
  · intro k _ hk
    exact setRow_other _ _ _ _ hk

theorem wrd_one (l : List Nat) : ∀ v ∈ l.map wrd, v.oneCell' = true := by
  intro v hv
  obtain ⟨x, _, rfl⟩ := List.mem_map.1 hv
  rfl

/-- copy between two rows of words. -/
theorem wpList_copy_w {w : World} {ops : Array Oper} {rest : List Oper} {o : Oper} {a : Act} {Q : Exit → Act → World → Prop} (hgd : o.guard = none) (d s : Operand) (dT sT : TypeId)
    (ho : o.op = .call { callee := .builtin .copy, args := #[d, s], argTypes := #[dT, sT] }) (hu : Tryz.prog.underlying dT = some (.slice 121)) 
    (bz oz n1 c1 bx ox n2 c2 : Nat) (hd : a.eval d = .slice (some ⟨bz, oz, none⟩) n1 c1) (hs : a.eval s = .slice (some ⟨bx, ox, none⟩) n2 c2)
    (lz lx : List Nat) (hz : Blk w bz lz) (hx : Blk w bx lx) (n : Nat) (hn : n = Nat.min n2 n1) (kz : oz + n ≤ lz.length) (kx : ox + n ≤ lx.length)
    (h : ∀ w' l', Vec w w' bz oz n lz l' → (∀ j, j < n → gd l' (oz + j) = gd lx (ox + j)) → wpList Tryz.prog ops Q rest (a.put o.dst (goInt n)) w') : wpList Tryz.prog ops Q (o :: rest) a w := by
  obtain ⟨T, hT⟩ := hz.at_
  have hl := segw_len kx
  have hws : ∀ x ∈ segw lx ox n, x < W64 := fun x hx' => hx.ok _ (List.mem_of_mem_drop (List.mem_of_mem_take hx'))
  have hV := hz.splice (o := oz) hws (by rw [hl]; exact kz)
  refine wpList_copy_own hgd d s dT sT ho 121 hu (by kernel_rfl) bz oz n1 c1 ⟨bx, ox, none⟩ n2 c2 hd hs (lz.map wrd).toArray T hT ((segw lx ox n).map wrd) (by rw [List.length_map, hl, hn]) ?_ (by simp [hl]; omega) (wrd_one _) ?_
  · intro j v hj
    rw [List.getElem?_map] at hj
    cases hq : (segw lx ox n)[j]? with
    | none => rw [hq] at hj; cases hj
    | some x =>
      rw [hq] at hj
      simp only [Option.map_some, Option.some.injEq] at hj
      have hjn : j < n := by rw [← hl]; exact (List.getElem?_eq_some_iff.1 hq).1
      have e := gd_segw lx ox n j hjn
      unfold gd at e
      rw [hq] at e
      simp only [Option.getD_some] at e
      have := hx.cell (ox + j) (by omega)
      have ea : (⟨bx, ox, none⟩ : Addr).add j = ⟨bx, ox + j, none⟩ := by simp [Addr.add]
      rw [ea, this, ← hj, e]; rfl
  · have := h _ _ (by rw [hl] at hV; exact hV) (fun j hj => by rw [gd_splw (by rw [hl]; exact kz), hl, if_pos (by omega), Nat.add_sub_cancel_left, gd_segw _ _ _ _ hj])
    simpa [hl] using this
end Go.Proofs.YtcpjclakdpjjfaaGreatDoor

namespace Go.Proofs.YtcpjclakdpjjfaaGreatDoor
open Go.RowKit

/-- A block of cells that no string shares. -/
def Plain (w : World) (b : Nat) : Prop := ∃ c T, w.heap[b]? = some (.cells c T (0, 0))
theorem Blk.plain {w : World} {b : Nat} {l : List Nat} (h : Blk w b l) : Plain w b := by obtain ⟨T, hT⟩ := h.at_; exact ⟨_, T, hT⟩
theorem Plain.lt {w : World} {b : Nat} (h : Plain w b) : b < w.heap.size := by obtain ⟨c, T, hT⟩ := h; exact (Array.getElem?_eq_some_iff.1 hT).1
theorem Plain.of_eq {w w' : World} {b : Nat} (h : Plain w b) (e : w'.heap[b]? = w.heap[b]?) : Plain w' b := by unfold Plain; rw [e]; exact h
theorem Plain.frame {S : Nat → Prop} {w w' : World} {b : Nat} (h : Plain w b) (f : Fr S w w') (hn : ¬ S b) : Plain w' b := h.of_eq (f.block b h.lt hn)
theorem Plain.drewN {w : World} {b : Nat} (h : Plain w b) (n : Nat) : Plain (w.drewN n) b := h.of_eq rfl
theorem Plain.drew {w : World} {b : Nat} (h : Plain w b) : Plain w.drew b := h.of_eq rfl
theorem Plain.alloc {w : World} {b : Nat} (h : Plain w b) (o : Obj) : Plain (w.alloc o) b := h.of_eq (Below.heap_alloc _ _ _ h.lt)
theorem Plain.setCell {w : World} {b : Nat} (h : Plain w b) (a : Addr) (v : Value) : Plain (w.setCell a v) b := by
  obtain ⟨c, T, hT⟩ := h
  by_cases e : b = a.block
  · subst e
    refine ⟨if a.spot.isSome then c else c.setIfInBounds a.off v, T, ?_⟩
    simp [World.setCell, Array.getElem?_modify, hT]
  · exact ⟨c, T, by rw [Below.heap_setCell _ _ _ _ e]; exact hT⟩

section
variable {P : Program}
theorem info_of {te : TypeId} {k : Nat} (h : (P.info? te).map (·.size) = some k) : ∃ j, P.info? te = some j ∧ j.size = k := by
  cases hq : P.info? te with
  | none => rw [hq] at h; cases h
  | some j => rw [hq] at h; simp only [Option.map_some, Option.some.injEq] at h; exact ⟨j, rfl, h⟩

theorem ptr_eql_same {tp te : TypeId} {k : Nat} (a : Addr) (w : World) (hp : P.underlying tp = some (.pointer te)) (hk : (P.info? te).map (·.size) = some k) :
    (binOp .eql tp (.pointer (some a)) (.pointer (some a))).run P w = .ok (.bool true) w := by
  obtain ⟨j, hj, _⟩ := info_of hk
  exact run_eql_ptr_same w a hp hj
theorem ptr_neq_same {tp te : TypeId} {k : Nat} (a : Addr) (w : World) (hp : P.underlying tp = some (.pointer te)) (hk : (P.info? te).map (·.size) = some k) :
    (binOp .neq tp (.pointer (some a)) (.pointer (some a))).run P w = .ok (.bool false) w := by
  obtain ⟨j, hj, _⟩ := info_of hk
  have h : ∀ d : Nat, (Op.equalIn (d + 1) tp (.pointer (some a)) (.pointer (some a))).run P w = .ok true w := fun d => by
    simp [Op.equalIn, run_underlying hp, sizeOf, typeInfo, hj, run_sameAddr_same]
  simp only [binOp]
  simp [Op.equal, Op.maxDepth, h 9999]
theorem ptr_eql_other {tp te : TypeId} {k : Nat} {a b : Addr} (w : World) (hp : P.underlying tp = some (.pointer te)) (hk : (P.info? te).map (·.size) = some (k + 1)) (hne : a ≠ b)
    (ha : Plain w a.block) (hb : Plain w b.block) : (binOp .eql tp (.pointer (some a)) (.pointer (some b))).run P w = .ok (.bool false) w := by
  obtain ⟨j, hj, hs⟩ := info_of hk
  obtain ⟨_, _, ha⟩ := ha
  obtain ⟨_, _, hb⟩ := hb
  exact run_eql_ptr_other w hp hj (by omega) hne ha hb
theorem ptr_neq_other {tp te : TypeId} {k : Nat} {a b : Addr} (w : World) (hp : P.underlying tp = some (.pointer te)) (hk : (P.info? te).map (·.size) = some (k + 1)) (hne : a ≠ b)
    (ha : Plain w a.block) (hb : Plain w b.block) : (binOp .neq tp (.pointer (some a)) (.pointer (some b))).run P w = .ok (.bool true) w := by
  obtain ⟨j, hj, hs⟩ := info_of hk
  obtain ⟨_, _, ha⟩ := ha
  obtain ⟨_, _, hb⟩ := hb
  have h : ∀ d : Nat, (Op.equalIn (d + 1) tp (.pointer (some a)) (.pointer (some b))).run P w = .ok false w := fun d => by
    simp [Op.equalIn, run_underlying hp, sizeOf, typeInfo, hj, hs, run_sameAddr_other w hne ha hb]
  simp only [binOp]
  simp [Op.equal, Op.maxDepth, h 9999]
end
end Go.Proofs.YtcpjclakdpjjfaaGreatDoor


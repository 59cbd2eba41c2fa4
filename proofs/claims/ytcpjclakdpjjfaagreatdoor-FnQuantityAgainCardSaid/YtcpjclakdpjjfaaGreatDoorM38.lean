/-
  A part of the proof of FnQuantityAgain (texts S5, S6, S7, S8 of mine, joined).
-/
import Derived.Test.YtcpjclakdpjjfaaGreatDoorM37
namespace Go.Proofs.YtcpjclakdpjjfaaGreatDoor
open Go.RowKit

set_option maxRecDepth 100000 in
set_option maxHeartbeats 4000000 in
theorem acmp_far (u1 e1 u2 e2 : Int) (kx ky : Nat) (far : e1 ≥ e2 + 18 ∨ e2 ≥ e1 + 18) (hxy : -e1 + kx = -e2 + ky) (h0 : kx = 0 ∨ ky = 0) (hk1 : kx ≤ 165) (hk2 : ky ≤ 165) (b1 : -300 ≤ e1) (b2 : e1 ≤ 300) (b3 : -300 ≤ e2) (b4 : e2 ≤ 300)
    (v1 : -9223372036854775807 ≤ u1) (v2 : u1 ≤ 9223372036854775807) (v3 : -9223372036854775807 ≤ u2) (v4 : u2 ≤ 9223372036854775807) (w : World) (hg : Gk w) (_hsz : 17 ≤ w.heap.size) :
    Calls Tryz.prog 42 #[.agg #[.int .i64 u1, .int .i32 e1], .agg #[.int .i64 u2, .int .i32 e2]] w fun r w' => r = .returned (.int .i64 (cmpZ (u1 * ((10 ^ kx : Nat) : Int)) (u2 * ((10 ^ ky : Nat) : Int)))) ∧ Fr (fun _ => False) w w' := by
  have A1 := Lib.hid (fun w => asDec_any u1 e1 (by omega) (by omega) (by omega) (by omega) w)
  have A2 := Lib.hid (fun w => asDec_any u2 e2 (by omega) (by omega) (by omega) (by omega) w)
  have bd : ∀ u : Int, -9223372036854775807 ≤ u → u ≤ 9223372036854775807 → u.natAbs < W64 ^ 30 := by
    intro u h1 h2
    have : u.natAbs < W64 ^ 1 := by unfold W64; omega
    exact Nat.lt_of_lt_of_le this (Nat.pow_le_pow_right (by unfold W64; omega) (by omega))
  have C := Lib.hid (fun p q o1 o2 w' (hx : DecAt w' p u1 (-e1) o1) (hy : DecAt w' q u2 (-e2) o2) (n : p ≠ q) (f : Fr (fun _ => False) w w') =>
    dCmp_any p q u1 u2 (-e1) (-e2) kx ky o1 o2 w' hx hy n hxy h0 hk1 hk2 (by omega) (by omega) (by omega) (by omega) (bd u1 v1 v2) (bd u2 v3 v4) (hg.frame f (fun _ h => h.elim)))
  obtain ⟨RES, hRES⟩ : ∃ R, R = cmpZ (u1 * ((10 ^ kx : Nat) : Int)) (u2 * ((10 ^ ky : Nat) : Int)) := ⟨_, rfl⟩
  rw [← hRES] at C ⊢
  have ne1 : (e1 == e2) = false := beq_eq_false_iff_ne.mpr (by omega)
  obtain ⟨w1, hw1⟩ : ∃ w1, w1 = w.alloc (.cells #[.int .i64 u1, .int .i32 e1] 33) := ⟨_, rfl⟩
  obtain ⟨w2, hw2⟩ : ∃ w2, w2 = w1.alloc (.cells #[.int .i64 u2, .int .i32 e2] 33) := ⟨_, rfl⟩
  obtain ⟨t1, t2, t3⟩ := two_boxes w u1 e1 u2 e2 _ rfl w1 hw1 w2 hw2
  obtain ⟨N, hN⟩ : ∃ N, N = w.heap.size := ⟨_, rfl⟩
  rw [← hN] at t1 t2
  have l2 : N + 1 < w2.heap.size := (Array.getElem?_eq_some_iff.1 t2).1
  have cells : Hid (∀ w', Fr (fun _ => False) w2 w' → w'.cell? ⟨N, 0, none⟩ = some (.int .i64 u1) ∧ w'.cell? ⟨N, 1, none⟩ = some (.int .i32 e1) ∧ w'.cell? ⟨N + 1, 0, none⟩ = some (.int .i64 u2) ∧ w'.cell? ⟨N + 1, 1, none⟩ = some (.int .i32 e2)) := by
    intro w' f
    have r1 := (f.block N (by omega) (fun f => f)).trans t1
    have r2 := (f.block (N + 1) l2 (fun f => f)).trans t2
    exact ⟨cell_of_row w' N 0 _ _ _ r1, cell_of_row w' N 1 _ _ _ r1, cell_of_row w' (N + 1) 0 _ _ _ r2, cell_of_row w' (N + 1) 1 _ _ _ r2⟩
  have hdn := Lib.hid (divScale_no)
  replace hxy := Lib.hid hxy
  replace hRES := Lib.hid hRES
  replace t3 := Lib.hid t3
  clear h0 hk1 hk2 v1 v2 v3 v4 hg bd t1 t2
  rcases far with far | far
  · obtain ⟨d, hd⟩ : ∃ d : Nat, e1 - e2 = (d : Int) := ⟨(e1 - e2).toNat, by omega⟩
    have D := Lib.hid (hdn.out u2 d (by omega) (by omega) w2)
    have g1 : e2 < e1 := by omega
    clear far hdn
    go_enter Tryz.func42, Tryz.ntmps42
    go_wp2_with fail
    rw [← hw1, ← hw2]
    try rw [← hN]
    replace hd := Lib.hid hd
    replace hw1 := Lib.hid hw1
    replace hw2 := Lib.hid hw2
    replace hN := Lib.hid hN
    refine D.out.mono ?_
    rintro r w3 ⟨rfl, hw⟩
    subst hw
    obtain ⟨k1, k2, k3, k4⟩ := cells.out _ (Fr.refl _ _)
    clear D
    go_wp2_with fail
    have F0 := Lib.hid (Fr.drew (fun _ => False) w2)
    obtain ⟨w3, hw3⟩ : ∃ w3, w3 = w2.drew := ⟨_, rfl⟩
    obtain ⟨k1, k2, k3, k4⟩ := cells.out w2.drew F0.out
    go_region_with (first
      | (go_at_call 73; first
          | (refine (A1.out _).mono ?_
             rintro e wa ⟨pA, oA, rfl, gA1, gA2, gA3, gA4⟩
             obtain ⟨l1, l2', l3, l4⟩ := cells.out wa (F0.out.trans gA2 (fun _ _ h => h))
             replace gA4 := Lib.hid gA4
             replace gA1 := Lib.hid gA1
             replace gA2 := Lib.hid gA2
             replace gA3 := Lib.hid gA3
             clear A1)
          | (refine (A2.out _).mono ?_
             rintro e wb ⟨pB, oB, rfl, gB1, gB2, gB3, gB4⟩
             replace gB4 := Lib.hid gB4
             replace gB1 := Lib.hid gB1
             replace gB2 := Lib.hid gB2
             replace gB3 := Lib.hid gB3))
      | (go_at_call 36
         refine (C.out pA pB oA oB _ (gA1.out.frame gB2.out (fun f => f) (fun _ _ f => f)) gB1.out (by have h1 := gB3.out; have h2 := gA1.out.int.lt; omega) (((t3.out.trans F0.out (fun _ _ h => h)).trans gA2.out (fun _ _ h => h)).trans gB2.out (fun _ _ h => h))).mono ?_
         rintro e wc ⟨rfl, gC⟩
         replace gC := Lib.hid gC))
    all_goals go_wp2_with fail
    all_goals go_ret
    all_goals exact ⟨rfl, (((t3.out.trans F0.out (fun _ _ h => h)).trans gA2.out (fun _ _ h => h)).trans gB2.out (fun _ _ h => h)).trans gC.out (fun _ _ h => h)⟩
  · obtain ⟨d, hd⟩ : ∃ d : Nat, e2 - e1 = (d : Int) := ⟨(e2 - e1).toNat, by omega⟩
    have D := Lib.hid (hdn.out u1 d (by omega) (by omega) w2)
    have g1 : ¬ (e1 > e2) := by omega
    clear far hdn
    go_enter Tryz.func42, Tryz.ntmps42
    go_wp2_with fail
    rw [← hw1, ← hw2]
    try rw [← hN]
    replace hd := Lib.hid hd
    replace hw1 := Lib.hid hw1
    replace hw2 := Lib.hid hw2
    replace hN := Lib.hid hN
    refine D.out.mono ?_
    rintro r w3 ⟨rfl, hw⟩
    subst hw
    obtain ⟨k1, k2, k3, k4⟩ := cells.out _ (Fr.refl _ _)
    clear D
    go_wp2_with fail
    have F0 := Lib.hid (Fr.drew (fun _ => False) w2)
    obtain ⟨w3, hw3⟩ : ∃ w3, w3 = w2.drew := ⟨_, rfl⟩
    obtain ⟨k1, k2, k3, k4⟩ := cells.out w2.drew F0.out
    go_region_with (first
      | (go_at_call 73; first
          | (refine (A1.out _).mono ?_
             rintro e wa ⟨pA, oA, rfl, gA1, gA2, gA3, gA4⟩
             obtain ⟨l1, l2', l3, l4⟩ := cells.out wa (F0.out.trans gA2 (fun _ _ h => h))
             replace gA4 := Lib.hid gA4
             replace gA1 := Lib.hid gA1
             replace gA2 := Lib.hid gA2
             replace gA3 := Lib.hid gA3
             clear A1)
          | (refine (A2.out _).mono ?_
             rintro e wb ⟨pB, oB, rfl, gB1, gB2, gB3, gB4⟩
             replace gB4 := Lib.hid gB4
             replace gB1 := Lib.hid gB1
             replace gB2 := Lib.hid gB2
             replace gB3 := Lib.hid gB3))
      | (go_at_call 36
         refine (C.out pA pB oA oB _ (gA1.out.frame gB2.out (fun f => f) (fun _ _ f => f)) gB1.out (by have h1 := gB3.out; have h2 := gA1.out.int.lt; omega) (((t3.out.trans F0.out (fun _ _ h => h)).trans gA2.out (fun _ _ h => h)).trans gB2.out (fun _ _ h => h))).mono ?_
         rintro e wc ⟨rfl, gC⟩
         replace gC := Lib.hid gC))
    all_goals go_wp2_with fail
    all_goals go_ret
    all_goals exact ⟨rfl, (((t3.out.trans F0.out (fun _ _ h => h)).trans gA2.out (fun _ _ h => h)).trans gB2.out (fun _ _ h => h)).trans gC.out (fun _ _ h => h)⟩
end Go.Proofs.YtcpjclakdpjjfaaGreatDoor

namespace Go.Proofs.YtcpjclakdpjjfaaGreatDoor
open Go.RowKit

theorem mul_one_pow (u : Int) : u * ((10 ^ 0 : Nat) : Int) = u := by simp

theorem acmp_any (u1 e1 u2 e2 : Int) (b1 : -9 ≤ e1) (b2 : e1 ≤ 150) (b3 : -9 ≤ e2) (b4 : e2 ≤ 150)
    (v1 : -9223372036854775807 ≤ u1) (v2 : u1 ≤ 9223372036854775807) (v3 : -9223372036854775807 ≤ u2) (v4 : u2 ≤ 9223372036854775807) (w : World) (hg : Gk w) (hsz : 17 ≤ w.heap.size) :
    Calls Tryz.prog 42 #[.agg #[.int .i64 u1, .int .i32 e1], .agg #[.int .i64 u2, .int .i32 e2]] w fun r w' => r = .returned (.int .i64 (cmpZ (sv u1 e1) (sv u2 e2))) ∧ Fr (fun _ => False) w w' := by
  by_cases h : e1 = e2
  · subst h
    have hc := cmp_sv u1 u2 e1 e1 0 0 rfl (by omega)
    rw [mul_one_pow, mul_one_pow] at hc
    rw [hc]
    exact acmp_same u1 u2 e1 w
  · by_cases hgt : e2 < e1
    · obtain ⟨d, hd⟩ : ∃ d : Nat, e1 = e2 + (d : Int) := ⟨(e1 - e2).toNat, by omega⟩
      have hc := cmp_sv u1 u2 e1 e2 d 0 (by omega) (by omega)
      rw [mul_one_pow] at hc
      by_cases hf : d < 18
      · rw [hc, cmp_div u1 u2 (D := ((10 ^ d : Nat) : Int)) (by have := Nat.pow_pos (n := d) (show 0 < 10 by omega); omega)]
        exact acmp_gt u1 e1 u2 e2 d (by omega) hf hd (by omega) (by omega) (by omega) (by omega) v3 v4 w
      · rw [hc]
        have := acmp_far u1 e1 u2 e2 d 0 (by omega) (by omega) (Or.inr rfl) (by omega) (by omega) (by omega) (by omega) (by omega) (by omega) v1 v2 v3 v4 w hg hsz
        rw [mul_one_pow] at this
        exact this
    · obtain ⟨d, hd⟩ : ∃ d : Nat, e2 = e1 + (d : Int) := ⟨(e2 - e1).toNat, by omega⟩
      have hc := cmp_sv u1 u2 e1 e2 0 d (by omega) (by omega)
      rw [mul_one_pow] at hc
      by_cases hf : d < 18
      · have hp : 0 < ((10 ^ d : Nat) : Int) := by have := Nat.pow_pos (n := d) (show 0 < 10 by omega); omega
        have e : cmpZ u1 (u2 * ((10 ^ d : Nat) : Int)) = (if u1.tdiv ((10 ^ d : Nat) : Int) = u2 then (if u1.tmod ((10 ^ d : Nat) : Int) = 0 then 0 else if 0 < u1.tmod ((10 ^ d : Nat) : Int) then 1 else -1) else if u1.tdiv ((10 ^ d : Nat) : Int) < u2 then -1 else 1) := by
          rw [cmpZ_neg, cmp_div u2 u1 hp]
          generalize u1.tdiv ((10 ^ d : Nat) : Int) = q
          generalize u1.tmod ((10 ^ d : Nat) : Int) = m
          split <;> split <;> (try split) <;> (try split) <;> omega
        rw [hc, e]
        exact acmp_lt u1 e1 u2 e2 d (by omega) hf hd (by omega) (by omega) (by omega) (by omega) v1 v2 w
      · rw [hc]
        have := acmp_far u1 e1 u2 e2 0 d (by omega) (by omega) (Or.inl rfl) (by omega) (by omega) (by omega) (by omega) (by omega) (by omega) v1 v2 v3 v4 w hg hsz
        rw [mul_one_pow] at this
        exact this

/-- The bounds under which Quantity.Cmp is shown. -/
structure CmpFit (q : MQ) : Prop where
  lo : -9 ≤ q.e
  hi : q.e ≤ 150
  nb : q.big = false → -9223372036854775807 ≤ q.u ∧ q.u ≤ 9223372036854775807
  u : q.u.natAbs < W64 ^ 30
  str : q.big = true → q.str = []

/-- A Quantity at block b. -/
def QtyAt (w0 w : World) (b : Nat) (q : MQ) : Prop := ∃ cs, QtyV w0 w q (.agg cs) ∧ w.heap[b]? = some (.cells cs 39 (0, 0))
end Go.Proofs.YtcpjclakdpjjfaaGreatDoor

namespace Go.Proofs.YtcpjclakdpjjfaaGreatDoor
open Go.RowKit

set_option maxRecDepth 100000 in
set_option maxHeartbeats 2000000 in
theorem asdec_big (b p : Nat) (u e : Value) (s : ByteArray) (f : Value) (w : World) (h : w.heap[b]? = some (.cells #[u, e, ptr p, .string s, f] 39 (0, 0))) :
    Calls Tryz.prog 43 #[ptr b] w fun r w' => r = .returned (ptr p) ∧ w = w' := by
  have c := cell_of_row w b 2 _ _ _ h
  replace c : w.cell? ⟨b, 2, none⟩ = some (ptr p) := c
  replace h := Lib.hid h
  unfold ptr at *
  go_enter Tryz.func43, Tryz.ntmps43
  go_wp2_with fail
  go_ret
  exact ⟨rfl, rfl⟩

set_option maxRecDepth 100000 in
set_option maxHeartbeats 2000000 in
theorem asdec_nb (b : Nat) (u e : Int) (s : ByteArray) (f : Value) (e1 : -150 ≤ e) (e2 : e ≤ 150) (v1 : -9223372036854775807 ≤ u) (v2 : u ≤ 9223372036854775807) (w : World) (h : w.heap[b]? = some (.cells #[.int .i64 u, .int .i32 e, .pointer none, .string s, f] 39 (0, 0))) :
    Calls Tryz.prog 43 #[ptr b] w fun r w' => ∃ p ob, r = .returned (ptr p) ∧ DecAt w' p u (-e) ob ∧ Fr (fun k => k = b) w w' ∧ w.heap.size ≤ p ∧ (∀ b, ob = some b → w.heap.size ≤ b) := by
  have A := Lib.hid (asDec_any u e (by omega) (by omega) (by omega) (by omega) w)
  have hlt : b < w.heap.size := (Array.getElem?_eq_some_iff.1 h).1
  have c0 := cell_of_row w b 0 _ _ _ h
  have c1 := cell_of_row w b 1 _ _ _ h
  have c2 := cell_of_row w b 2 _ _ _ h
  replace c0 : w.cell? ⟨b, 0, none⟩ = some (.int .i64 u) := c0
  replace c1 : w.cell? ⟨b, 1, none⟩ = some (.int .i32 e) := c1
  replace c2 : w.cell? ⟨b, 2, none⟩ = some (.pointer none) := c2
  replace h := Lib.hid h
  unfold ptr at *
  go_enter Tryz.func43, Tryz.ntmps43
  go_wp2_with fail
  refine A.out.mono ?_
  rintro r w1 ⟨p, ob, rfl, g1, g2, g3, g4⟩
  have h1 : w1.heap[b]? = some (.cells #[.int .i64 u, .int .i32 e, .pointer none, .string s, f] 39 (0, 0)) := (g2.block b hlt (fun f => f)).trans h.out
  have k0 : w1.cell? ⟨b, 0, none⟩ = some (.int .i64 u) := cell_of_row w1 b 0 _ _ _ h1
  have k1 : w1.cell? ⟨b, 1, none⟩ = some (.int .i32 e) := cell_of_row w1 b 1 _ _ _ h1
  have k2 : w1.cell? ⟨b, 2, none⟩ = some (.pointer none) := cell_of_row w1 b 2 _ _ _ h1
  have z0 := frozen_of_row w1 b 0 _ _ h1
  have z1 := frozen_of_row w1 b 1 _ _ h1
  have z2 := frozen_of_row w1 b 2 _ _ h1
  replace g1 := Lib.hid g1
  replace g2 := Lib.hid g2
  replace g3 := Lib.hid g3
  replace g4 := Lib.hid g4
  replace h1 := Lib.hid h1
  replace hlt := Lib.hid hlt
  unfold ptr
  go_wp2_with fail
  go_ret
  have FS : Fr (fun k => k = b) w1 (((w1.setCell ⟨b, 2, none⟩ (.pointer (some ⟨p, 0, none⟩))).setCell ⟨b, 0, none⟩ (.int .i64 0)).setCell ⟨b, 1, none⟩ (.int .i32 0)) :=
    ((Fr.setCell (S := fun k => k = b) _ _ _ (fun _ => rfl)).trans (Fr.setCell (S := fun k => k = b) _ _ _ (fun _ => rfl)) (fun _ _ h => h)).trans (Fr.setCell (S := fun k => k = b) _ _ _ (fun _ => rfl)) (fun _ _ h => h)
  refine ⟨p, ob, rfl, ?_, ((g2.out).mono (fun _ _ h => h.elim)).trans FS (fun _ _ h => h), g3.out, g4.out⟩
  have hl := hlt.out
  have h3 := g3.out
  have h4 := g4.out
  exact g1.out.frame FS (fun e => by have e : p = b := e; omega) (fun c hc e => by have e : c = b := e; have := h4 c hc; omega)
end Go.Proofs.YtcpjclakdpjjfaaGreatDoor

namespace Go.Proofs.YtcpjclakdpjjfaaGreatDoor
open Go.RowKit

/-- The cells of a Quantity that is a small one (d none) or points at a decimal. -/
def qrep (q : MQ) : Option Nat → Array Value
  | none => qv q.u q.e (.pointer none) (tx q.str) q.fmt
  | some p => qv 0 0 (ptr p) (tx []) q.fmt
def QR (w : World) (q : MQ) (ob : Option Nat) : Option Nat → Prop
  | none => q.big = false ∧ -150 ≤ q.e ∧ q.e ≤ 150 ∧ -9223372036854775807 ≤ q.u ∧ q.u ≤ 9223372036854775807
  | some p => q.big = true ∧ DecAt w p q.u (-q.e) ob
/-- What AsDec comes to. -/
def AsDecEnd (w : World) (b : Nat) (q : MQ) (ob0 d : Option Nat) (r : Ending) (w' : World) : Prop :=
  ∃ p ob, r = .returned (ptr p) ∧ DecAt w' p q.u (-q.e) ob ∧ Fr (fun k => k = b) w w' ∧ ((d = some p ∧ ob = ob0) ∨ (d = none ∧ w.heap.size ≤ p ∧ ∀ c, ob = some c → w.heap.size ≤ c))

theorem asdec_any (b : Nat) (q : MQ) (d ob0 : Option Nat) (w : World) (hd : QR w q ob0 d) (h : w.heap[b]? = some (.cells (qrep q d) 39 (0, 0))) : Calls Tryz.prog 43 #[ptr b] w (AsDecEnd w b q ob0 d) := by
  cases d with
  | none =>
    obtain ⟨_, h1, h2, h3, h4⟩ := hd
    refine (asdec_nb b q.u q.e _ _ h1 h2 h3 h4 w h).mono ?_
    rintro r w' ⟨p, ob, rfl, g1, g2, g3, g4⟩
    exact ⟨p, ob, rfl, g1, g2, Or.inr ⟨rfl, g3, g4⟩⟩
  | some p =>
    obtain ⟨_, h1⟩ := hd
    refine (asdec_big b p _ _ _ _ w h).mono ?_
    rintro r w' ⟨rfl, rfl⟩
    exact ⟨p, ob0, rfl, h1, Fr.refl _ _, Or.inl ⟨rfl, rfl⟩⟩

theorem QR.frame {w w' : World} {q : MQ} {ob d : Option Nat} {S : Nat → Prop} (h : QR w q ob d) (f : Fr S w w') (h1 : ∀ p, d = some p → ¬ S p) (h2 : d ≠ none → ∀ c, ob = some c → ¬ S c) : QR w' q ob d := by
  cases d with
  | none => exact h
  | some p => exact ⟨h.1, h.2.frame f (h1 p rfl) (h2 (by simp))⟩

/-- What Quantity.Cmp asks of its two, next to their cells. -/
structure CmpPair (q y : MQ) : Prop where
  q1 : -150 ≤ q.e
  q2 : q.e ≤ 150
  y1 : -150 ≤ y.e
  y2 : y.e ≤ 150
  d1 : q.e - y.e ≤ 165
  d2 : y.e - q.e ≤ 165
  qn : q.big = false → -9 ≤ q.e
  yn : y.big = false → -9 ≤ y.e
  qu : q.u.natAbs < W64 ^ 30
  yu : y.u.natAbs < W64 ^ 30

theorem qcmp_dec (q y : MQ) (h : CmpPair q y) (p r : Nat) (op or : Option Nat) (w : World) (hx : DecAt w p q.u (-q.e) op) (hy : DecAt w r y.u (-y.e) or) (n : p ≠ r) (hg : Gk w) :
    Calls Tryz.prog 36 #[ptr p, ptr r] w fun e w' => e = .returned (.int .i64 (cmpQ q y)) ∧ Fr (fun _ => False) w w' := by
  have h1 := h.q1
  have h2 := h.q2
  have h3 := h.y1
  have h4 := h.y2
  have h5 := h.d1
  have h6 := h.d2
  rw [cmpQ_cmpZ]
  unfold MQ.v
  by_cases c : q.e ≤ y.e
  · have e := cmp_sv q.u y.u q.e y.e 0 (y.e - q.e).toNat (by omega) (by omega)
    rw [e]
    exact dCmp_any p r q.u y.u (-q.e) (-y.e) 0 (y.e - q.e).toNat op or w hx hy n (by omega) (Or.inl rfl) (by omega) (by omega) (by omega) (by omega) (by omega) (by omega) h.qu h.yu hg
  · have e := cmp_sv q.u y.u q.e y.e (q.e - y.e).toNat 0 (by omega) (by omega)
    rw [e]
    exact dCmp_any p r q.u y.u (-q.e) (-y.e) (q.e - y.e).toNat 0 op or w hx hy n (by omega) (Or.inr rfl) (by omega) (by omega) (by omega) (by omega) (by omega) (by omega) h.qu h.yu hg

set_option maxRecDepth 100000 in
set_option maxHeartbeats 2000000 in
theorem qcmp_nn (b : Nat) (q y : MQ) (o1 o2 : Option Nat) (w : World) (h : CmpPair q y) (hq : QR w q o1 none) (hy : QR w y o2 none) (hb : w.heap[b]? = some (.cells (qrep q none) 39 (0, 0))) (hg : Gk w) (hsz : 17 ≤ w.heap.size) :
    Calls Tryz.prog 15 #[ptr b, .agg (qrep y none)] w fun e w' => e = .returned (.int .i64 (cmpQ q y)) ∧ Fr (fun _ => False) w w' := by
  have hlt : b < w.heap.size := (Array.getElem?_eq_some_iff.1 hb).1
  obtain ⟨w1, hw1⟩ : ∃ w1, w1 = w.alloc (.cells (qrep y none) 39) := ⟨_, rfl⟩
  have fw : Fr (fun _ => False) w w1 := by rw [hw1]; exact Fr.alloc _ _ _
  obtain ⟨N, hN⟩ : ∃ N, N = w.heap.size := ⟨_, rfl⟩
  have r2 : w1.heap[N]? = some (.cells (qrep y none) 39 (0, 0)) := by rw [hw1, hN]; exact heap_alloc_new _ _
  have r1 := (fw.block b hlt (fun f => f)).trans hb
  obtain ⟨_, q1, q2, q3, q4⟩ := hq
  obtain ⟨_, y1, y2, y3, y4⟩ := hy
  have C := Lib.hid (fun w' (f : Fr (fun _ => False) w w') => acmp_any q.u q.e y.u y.e (h.qn ‹_›) q2 (h.yn ‹_›) y2 q3 q4 y3 y4 w' (hg.frame f (fun _ h => h.elim)) (Nat.le_trans hsz f.size))
  rw [cmpQ_cmpZ]
  unfold MQ.v
  obtain ⟨RES, hRES⟩ : ∃ R, R = cmpZ (sv q.u q.e) (sv y.u y.e) := ⟨_, rfl⟩
  rw [← hRES] at C ⊢
  have l2 : N < w1.heap.size := (Array.getElem?_eq_some_iff.1 r2).1
  have cells : Hid (∀ w', Fr (fun _ => False) w1 w' → w'.cell? ⟨b, 0, none⟩ = some (.int .i64 q.u) ∧ w'.cell? ⟨b, 1, none⟩ = some (.int .i32 q.e) ∧ w'.cell? ⟨b, 2, none⟩ = some (.pointer none) ∧ w'.cell? ⟨N, 0, none⟩ = some (.int .i64 y.u) ∧ w'.cell? ⟨N, 1, none⟩ = some (.int .i32 y.e) ∧ w'.cell? ⟨N, 2, none⟩ = some (.pointer none)) := by
    intro w' f
    have r1 := (f.block b (Nat.lt_of_lt_of_le hlt fw.size) (fun f => f)).trans r1
    have r2 := (f.block N l2 (fun f => f)).trans r2
    exact ⟨cell_of_row w' b 0 _ _ _ r1, cell_of_row w' b 1 _ _ _ r1, cell_of_row w' b 2 _ _ _ r1, cell_of_row w' N 0 _ _ _ r2, cell_of_row w' N 1 _ _ _ r2, cell_of_row w' N 2 _ _ _ r2⟩
  obtain ⟨k0, k1, k2, k3, k4, k5⟩ := cells.out w1 (Fr.refl _ _)
  obtain ⟨m0, m1, m2, m3, m4, m5⟩ := cells.out w1.drew (Fr.drew _ _)
  replace fw := Lib.hid fw
  replace hw1 := Lib.hid hw1
  replace hN := Lib.hid hN
  rw [hN.out] at k3 k4 k5 m3 m4 m5
  clear hN
  clear r1 r2 hb hlt l2 h hg hsz q1 q2 q3 q4 y1 y2 y3 y4 hRES cells
  unfold qrep qv ptr at *
  go_enter Tryz.func15, Tryz.ntmps15
  go_wp2_with (rw [← hw1.out])
  go_region_with (go_at_call 42; refine (C.out _ (fw.out.trans (Fr.drew _ _) (fun _ _ h => h))).mono ?_; rintro r w2 ⟨rfl, g⟩)
  all_goals go_wp2_with fail
  all_goals go_ret
  all_goals exact ⟨rfl, (fw.out.trans (Fr.drew _ _) (fun _ _ h => h)).trans g (fun _ _ h => h)⟩

set_option maxRecDepth 100000 in
set_option maxHeartbeats 4000000 in
theorem qcmp_dd (b : Nat) (q y : MQ) (d1 d2 o1 o2 : Option Nat) (w : World) (h : CmpPair q y) (hq : QR w q o1 d1) (hy : QR w y o2 d2) (hb : w.heap[b]? = some (.cells (qrep q d1) 39 (0, 0))) (hd : ¬ (d1 = none ∧ d2 = none))
    (sep : ∀ p1, d1 = some p1 → ∀ p2, d2 = some p2 → p1 ≠ p2) (s2 : ∀ p, d2 = some p → p ≠ b ∧ o2 ≠ some b) (hb2 : 17 ≤ b) (hg : Gk w) (hsz : 17 ≤ w.heap.size) :
    Calls Tryz.prog 15 #[ptr b, .agg (qrep y d2)] w fun e w' => e = .returned (.int .i64 (cmpQ q y)) ∧ Fr (fun k => k = b) w w' := by
  have hlt : b < w.heap.size := (Array.getElem?_eq_some_iff.1 hb).1
  obtain ⟨w1, hw1⟩ : ∃ w1, w1 = w.alloc (.cells (qrep y d2) 39) := ⟨_, rfl⟩
  have fw : Fr (fun _ => False) w w1 := by rw [hw1]; exact Fr.alloc _ _ _
  obtain ⟨N, hN⟩ : ∃ N, N = w.heap.size := ⟨_, rfl⟩
  have r2 : w1.heap[N]? = some (.cells (qrep y d2) 39 (0, 0)) := by rw [hw1, hN]; exact heap_alloc_new _ _
  have r1 := (fw.block b hlt (fun f => f)).trans hb
  have l2 : N < w1.heap.size := (Array.getElem?_eq_some_iff.1 r2).1
  have hq1 := hq.frame fw (fun _ _ f => f) (fun _ _ _ f => f)
  have hy1 := hy.frame fw (fun _ _ f => f) (fun _ _ _ f => f)
  have A := Lib.hid (asdec_any b q d1 o1 w1 hq1 r1)
  have lt1 : ∀ p, d1 = some p → p < N ∧ ∀ c, o1 = some c → c < N := by
    intro p e; subst e; rw [hN]
    exact ⟨hq.2.int.lt, fun c e => by subst e; exact hq.2.int.ob_lt⟩
  have lt2 : ∀ p, d2 = some p → p < N ∧ ∀ c, o2 = some c → c < N := by
    intro p e; subst e; rw [hN]
    exact ⟨hy.2.int.lt, fun c e => by subst e; exact hy.2.int.ob_lt⟩
  have B : Hid (∀ w2, Fr (fun k => k = b) w1 w2 → Calls Tryz.prog 43 #[ptr N] w2 (AsDecEnd w2 N y o2 d2)) := by
    intro w2 f
    refine asdec_any N y d2 o2 w2 (hy1.frame f (fun p e => (s2 p e).1) (fun hn c e1 e2 => ?_)) ((f.block N l2 (fun e => by have e : N = b := e; omega)).trans r2)
    cases hdd : d2 with
    | none => exact hn hdd
    | some p => have e2 : c = b := e2; subst e2; exact (s2 p hdd).2 e1
  have C : Hid (∀ p oA w2, DecAt w2 p q.u (-q.e) oA → Fr (fun k => k = b) w1 w2 → ((d1 = some p ∧ oA = o1) ∨ (d1 = none ∧ w1.heap.size ≤ p ∧ ∀ c, oA = some c → w1.heap.size ≤ c)) →
      ∀ r oB w3, DecAt w3 r y.u (-y.e) oB → Fr (fun k => k = N) w2 w3 → ((d2 = some r ∧ oB = o2) ∨ (d2 = none ∧ w2.heap.size ≤ r ∧ ∀ c, oB = some c → w2.heap.size ≤ c)) →
      Calls Tryz.prog 36 #[ptr p, ptr r] w3 fun e w' => e = .returned (.int .i64 (cmpQ q y)) ∧ Fr (fun _ => False) w3 w') := by
    intro p oA w2 hA f2 aA r oB w3 hB f3 aB
    have hpN : p ≠ N ∧ ∀ c, oA = some c → c ≠ N := by
      rcases aA with ⟨e, eo⟩ | ⟨_, e, eo⟩
      · have := lt1 p e
        exact ⟨by omega, fun c hc => by have := this.2 c (eo ▸ hc); omega⟩
      · exact ⟨by omega, fun c hc => by have := eo c hc; omega⟩
    have hne : p ≠ r := by
      have hp2 := hA.int.lt
      rcases aB with ⟨e, _⟩ | ⟨_, e, _⟩
      · rcases aA with ⟨e', _⟩ | ⟨_, e', _⟩
        · exact sep p e' r e
        · have := (lt2 r e).1; omega
      · omega
    refine qcmp_dec q y h p r oA oB w3 (hA.frame f3 hpN.1 hpN.2) hB hne ?_
    exact ((hg.frame fw (fun _ h => h.elim)).frame f2 (fun i e => by have e : i = b := e; omega)).frame f3 (fun i e => by have e : i = N := e; omega)
  obtain ⟨RES, hRES⟩ : ∃ R, R = cmpQ q y := ⟨_, rfl⟩
  rw [← hRES] at C ⊢
  have hf : Hid (∀ w2 w3 w4, Fr (fun k => k = b) w1 w2 → Fr (fun k => k = N) w2 w3 → Fr (fun _ => False) w3 w4 → Fr (fun k => k = b) w w4) := by
    intro w2 w3 w4 f2 f3 f4
    refine (((fw.mono (fun _ _ h => h.elim)).trans f2 (fun _ _ h => h)).trans f3 (fun i hi e => ?_)).trans f4 (fun _ _ h => h.elim)
    have e : i = N := e
    omega
  clear lt1 lt2 hq1 hy1 hq hy hg hsz h sep s2 hb2 hlt l2 hb fw hRES
  subst hN
  replace hw1 := Lib.hid hw1
  cases d1 with
  | some p1 =>
    have c1 : w1.cell? ⟨b, 2, none⟩ = some (ptr p1) := cell_of_row w1 b 2 _ _ _ r1
    clear r1 r2 hd
    obtain ⟨V, hV⟩ : ∃ V, V = qrep y d2 := ⟨_, rfl⟩
    rw [← hV] at hw1 ⊢
    replace hV := Lib.hid hV
    unfold ptr at *
    go_enter Tryz.func15, Tryz.ntmps15
    go_wp2_with (rw [← hw1.out])
    refine A.out.mono ?_
    rintro r w2 ⟨p, oA, rfl, g1, g2, g3⟩
    replace g1 := Lib.hid g1
    replace g2 := Lib.hid g2
    replace g3 := Lib.hid g3
    unfold ptr
    go_wp2_with fail
    refine (B.out w2 g2.out).mono ?_
    rintro r w3 ⟨r, oB, rfl, i1, i2, i3⟩
    replace i1 := Lib.hid i1
    replace i2 := Lib.hid i2
    replace i3 := Lib.hid i3
    unfold ptr
    go_wp2_with fail
    refine (C.out p oA w2 g1.out g2.out g3.out r oB w3 i1.out i2.out i3.out).mono ?_
    rintro e w4 ⟨rfl, k⟩
    replace k := Lib.hid k
    go_wp2_with fail
    go_ret
    exact ⟨rfl, hf.out w2 w3 w4 g2.out i2.out k.out⟩
  | none =>
    cases d2 with
    | none => exact absurd ⟨rfl, rfl⟩ hd
    | some p2 =>
      have c1 : w1.cell? ⟨b, 2, none⟩ = some (.pointer none) := cell_of_row w1 b 2 _ _ _ r1
      have c2 : w1.cell? ⟨w.heap.size, 2, none⟩ = some (ptr p2) := cell_of_row w1 w.heap.size 2 _ _ _ r2
      clear r1 r2 hd
      unfold qrep qv ptr at *
      go_enter Tryz.func15, Tryz.ntmps15
      go_wp2_with (rw [← hw1.out])
      refine A.out.mono ?_
      rintro r w2 ⟨p, oA, rfl, g1, g2, g3⟩
      replace g1 := Lib.hid g1
      replace g2 := Lib.hid g2
      replace g3 := Lib.hid g3
      unfold ptr
      go_wp2_with fail
      refine (B.out w2 g2.out).mono ?_
      rintro r w3 ⟨r, oB, rfl, i1, i2, i3⟩
      replace i1 := Lib.hid i1
      replace i2 := Lib.hid i2
      replace i3 := Lib.hid i3
      unfold ptr
      go_wp2_with fail
      refine (C.out p oA w2 g1.out g2.out g3.out r oB w3 i1.out i2.out i3.out).mono ?_
      rintro e w4 ⟨rfl, k⟩
      replace k := Lib.hid k
      go_wp2_with fail
      go_ret
      exact ⟨rfl, hf.out w2 w3 w4 g2.out i2.out k.out⟩
end Go.Proofs.YtcpjclakdpjjfaaGreatDoor


/-
  A part of the proof of FnQuantityAgain (texts S9, T1, T2, T3, T4 of mine, joined).
-/
import Derived.Test.YtcpjclakdpjjfaaGreatDoorM38
import Derived.Test.YtcpjclakdpjjfaaGreatDoorM20
import Derived.Test.YtcpjclakdpjjfaaGreatDoorM34
import Derived.Test.YtcpjclakdpjjfaaGreatDoorM22
import Derived.Test.YtcpjclakdpjjfaaGreatDoorM35
namespace Go.Proofs.YtcpjclakdpjjfaaGreatDoor
open Go.RowKit

set_option maxRecDepth 100000 in
set_option maxHeartbeats 2000000 in
theorem isZero_nb (b : Nat) (q : MQ) (o : Option Nat) (w : World) (_hq : QR w q o none) (h : w.heap[b]? = some (.cells (qrep q none) 39 (0, 0))) :
    Calls Tryz.prog 68 #[ptr b] w fun r w' => r = .returned (.bool (q.u == 0)) ∧ w = w' := by
  have c0 : w.cell? ⟨b, 0, none⟩ = some (.int .i64 q.u) := cell_of_row w b 0 _ _ _ h
  have c1 : w.cell? ⟨b, 1, none⟩ = some (.int .i32 q.e) := cell_of_row w b 1 _ _ _ h
  have c2 : w.cell? ⟨b, 2, none⟩ = some (.pointer none) := cell_of_row w b 2 _ _ _ h
  clear h _hq
  unfold ptr at *
  go_enter Tryz.func68, Tryz.ntmps68
  go_wp2_with fail
  go_ret
  exact ⟨rfl, rfl⟩

set_option maxRecDepth 100000 in
set_option maxHeartbeats 2000000 in
theorem isZero_big (b p : Nat) (q : MQ) (o : Option Nat) (w : World) (hq : QR w q o (some p)) (h : w.heap[b]? = some (.cells (qrep q (some p)) 39 (0, 0))) :
    Calls Tryz.prog 68 #[ptr b] w fun r w' => r = .returned (.bool (q.u == 0)) ∧ w = w' := by
  have c2 : w.cell? ⟨b, 2, none⟩ = some (ptr p) := cell_of_row w b 2 _ _ _ h
  have S := Lib.hid (dSign_any p q.u o w hq.2.int)
  have e : (q.u.sign == 0) = (q.u == 0) := by
    by_cases z : q.u = 0
    · rw [z]; rfl
    · rw [beq_eq_false_iff_ne.mpr z, beq_eq_false_iff_ne.mpr (fun e => z (Int.sign_eq_zero_iff_zero.mp e))]
  rw [← e]
  replace e := Lib.hid e
  clear h hq
  unfold ptr at *
  go_enter Tryz.func68, Tryz.ntmps68
  go_wp2_with fail
  refine S.out.mono ?_
  rintro r w1 ⟨rfl, rfl⟩
  go_wp2_with fail
  go_ret
  exact ⟨rfl, rfl⟩

theorem isZero_any (b : Nat) (q : MQ) (d o : Option Nat) (w : World) (hq : QR w q o d) (h : w.heap[b]? = some (.cells (qrep q d) 39 (0, 0))) :
    Calls Tryz.prog 68 #[ptr b] w fun r w' => r = .returned (.bool (q.u == 0)) ∧ w = w' := by
  cases d with
  | none => exact isZero_nb b q o w hq h
  | some p => exact isZero_big b p q o w hq h

set_option maxRecDepth 100000 in
set_option maxHeartbeats 2000000 in
theorem cmpi_nb (b : Nat) (q : MQ) (n : Int) (o : Option Nat) (w : World) (hq : QR w q o none) (he : -9 ≤ q.e) (n1 : -9223372036854775807 ≤ n) (n2 : n ≤ 9223372036854775807) (h : w.heap[b]? = some (.cells (qrep q none) 39 (0, 0))) (hg : Gk w) (hsz : 17 ≤ w.heap.size) :
    Calls Tryz.prog 69 #[ptr b, .int .i64 n] w fun r w' => r = .returned (.int .i64 (cmpZ (sv q.u q.e) (sv n 0))) ∧ Fr (fun _ => False) w w' := by
  have c0 : w.cell? ⟨b, 0, none⟩ = some (.int .i64 q.u) := cell_of_row w b 0 _ _ _ h
  have c1 : w.cell? ⟨b, 1, none⟩ = some (.int .i32 q.e) := cell_of_row w b 1 _ _ _ h
  have c2 : w.cell? ⟨b, 2, none⟩ = some (.pointer none) := cell_of_row w b 2 _ _ _ h
  obtain ⟨_, q1, q2, q3, q4⟩ := hq
  have C := Lib.hid (acmp_any q.u q.e n 0 he q2 (by omega) (by omega) q3 q4 n1 n2 w hg hsz)
  obtain ⟨RES, hRES⟩ : ∃ R, R = cmpZ (sv q.u q.e) (sv n 0) := ⟨_, rfl⟩
  rw [← hRES] at C ⊢
  clear h hg hsz hRES q1 q2 q3 q4 he n1 n2
  unfold ptr at *
  go_enter Tryz.func69, Tryz.ntmps69
  go_wp2_with fail
  refine C.out.mono ?_
  rintro r w1 ⟨rfl, g⟩
  go_wp2_with fail
  go_ret
  exact ⟨rfl, g⟩

set_option maxRecDepth 100000 in
set_option maxHeartbeats 2000000 in
theorem cmpi_big (b p : Nat) (q : MQ) (n : Int) (o : Option Nat) (w : World) (hq : QR w q o (some p)) (q1 : -150 ≤ q.e) (q2 : q.e ≤ 150) (qu : q.u.natAbs < W64 ^ 30) (n1 : -9223372036854775807 ≤ n) (n2 : n ≤ 9223372036854775807) (h : w.heap[b]? = some (.cells (qrep q (some p)) 39 (0, 0))) (hg : Gk w) :
    Calls Tryz.prog 69 #[ptr b, .int .i64 n] w fun r w' => r = .returned (.int .i64 (cmpZ (sv q.u q.e) (sv n 0))) ∧ Fr (fun _ => False) w w' := by
  have c2 : w.cell? ⟨b, 2, none⟩ = some (ptr p) := cell_of_row w b 2 _ _ _ h
  have hlt : b < w.heap.size := (Array.getElem?_eq_some_iff.1 h).1
  have A := Lib.hid (fun w => newDec_any n 0 (by omega) (by omega) w)
  have bd : n.natAbs < W64 ^ 30 := by
    have : n.natAbs < W64 ^ 1 := by unfold W64; omega
    exact Nat.lt_of_lt_of_le this (Nat.pow_le_pow_right (by unfold W64; omega) (by omega))
  have C := Lib.hid (fun r oo w' (hx : DecAt w' p q.u (-q.e) o) (hy : DecAt w' r n (-0) oo) (ne : p ≠ r) (f : Fr (fun _ => False) w w') =>
    qcmp_dec q ⟨true, n, 0, 0, []⟩ ⟨q1, q2, by show -150 ≤ (0 : Int); omega, by show (0 : Int) ≤ 150; omega, by show q.e - 0 ≤ 165; omega, by show 0 - q.e ≤ 165; omega, (fun e => by rw [hq.1] at e; cases e), (fun e => by cases e), qu, bd⟩ p r o oo w' hx hy ne (hg.frame f (fun _ h => h.elim)))
  rw [cmpQ_cmpZ] at C
  obtain ⟨RES, hRES⟩ : ∃ R, R = cmpZ (sv q.u q.e) (sv n 0) := ⟨_, rfl⟩
  replace C : Hid (∀ r oo w', DecAt w' p q.u (-q.e) o → DecAt w' r n (-0) oo → p ≠ r → Fr (fun _ => False) w w' → Calls Tryz.prog 36 #[ptr p, ptr r] w' fun e w'' => e = .returned (.int .i64 RES) ∧ Fr (fun _ => False) w' w'') := by rw [hRES]; exact C
  rw [← hRES]
  have hD := hq.2
  have cells : Hid (∀ w', Fr (fun _ => False) w w' → w'.cell? ⟨b, 2, none⟩ = some (ptr p)) := fun w' f => cell_frame c2 f (fun f => f)
  have m2 := cells.out w.drew (Fr.drew _ _)
  replace hD := Lib.hid hD
  replace hlt := Lib.hid hlt
  clear h hg hRES q1 q2 qu n1 n2 bd hq
  unfold ptr at *
  go_enter Tryz.func69, Tryz.ntmps69
  go_wp2_with fail
  go_region_with (first
    | (go_at_call 39
       refine (A.out _).mono ?_
       rintro e w1 ⟨r, oo, rfl, g1, g2, g3, g4⟩
       have m3 := cells.out w1 ((Fr.drew _ _).trans g2 (fun _ _ h => h))
       replace g1 := Lib.hid g1
       replace g2 := Lib.hid g2
       replace g3 := Lib.hid g3
       replace g4 := Lib.hid g4
       clear A
       try unfold ptr at *)
    | (go_at_call 36
       refine (C.out r oo _ ((hD.out.frame (Fr.drew (fun _ => False) w) (fun f => f) (fun _ _ f => f)).frame g2.out (fun f => f) (fun _ _ f => f)) g1.out (by have h1 := g3.out; have h2 : p < w.heap.size := hD.out.int.lt; have h3 : w.drew.heap.size = w.heap.size := rfl; omega) ((Fr.drew _ _).trans g2.out (fun _ _ h => h))).mono ?_
       rintro e w2 ⟨rfl, gC⟩
       replace gC := Lib.hid gC))
  all_goals go_wp2_with fail
  all_goals go_ret
  all_goals exact ⟨rfl, ((Fr.drew _ _).trans g2.out (fun _ _ h => h)).trans gC.out (fun _ _ h => h)⟩

theorem cmpi_any (b : Nat) (q : MQ) (d : Option Nat) (n : Int) (o : Option Nat) (w : World) (hq : QR w q o d) (he : q.big = false → -9 ≤ q.e) (q1 : -150 ≤ q.e) (q2 : q.e ≤ 150) (qu : q.u.natAbs < W64 ^ 30) (n1 : -9223372036854775807 ≤ n) (n2 : n ≤ 9223372036854775807) (h : w.heap[b]? = some (.cells (qrep q d) 39 (0, 0))) (hg : Gk w) (hsz : 17 ≤ w.heap.size) :
    Calls Tryz.prog 69 #[ptr b, .int .i64 n] w fun r w' => r = .returned (.int .i64 (cmpZ (sv q.u q.e) (sv n 0))) ∧ Fr (fun _ => False) w w' := by
  cases d with
  | none => exact cmpi_nb b q n o w hq (he hq.1) n1 n2 h hg hsz
  | some p => exact cmpi_big b p q n o w hq q1 q2 qu n1 n2 h hg
end Go.Proofs.YtcpjclakdpjjfaaGreatDoor

namespace Go.Proofs.YtcpjclakdpjjfaaGreatDoor
open Go.RowKit

/-- A positive big.Int below a word lies in one word. -/
theorem intAt_word {w : World} {q n : Nat} {oq : Option Nat} (h : IntAt w q (n : Int) oq) (h0 : 0 < n) (hn : n < W64) :
    ∃ v b ly, oq = some b ∧ IntC w q false v (some b) n ∧ Wds w v b ly 1 n := by
  obtain ⟨g, v, m, hC, e⟩ := h
  have hg : g = false ∧ m = n := by
    cases g with
    | false => unfold sgn at e; rw [if_neg (by simp)] at e; exact ⟨rfl, by omega⟩
    | true => unfold sgn at e; rw [if_pos rfl] at e; omega
  obtain ⟨rfl, rfl⟩ := hg
  cases oq with
  | none => have := hC.nat.2; omega
  | some b =>
    obtain ⟨l, len, e1, e2, e3, e4, e5, e6, e7⟩ := hC.nat
    have hl : len = 1 := by
      rcases e7 with z | z
      · subst z; rw [vl_zero] at e6; omega
      · rcases Nat.lt_or_ge 1 len with h2 | h2
        · have := vl_ge (l := l) (o := 0) (len := len) (by omega) (by rw [Nat.zero_add]; exact z)
          have h3 : W64 ^ 1 ≤ W64 ^ (len - 1) := Nat.pow_le_pow_right (by unfold W64; omega) (by omega)
          rw [Nat.pow_one] at h3
          omega
        · rcases Nat.eq_zero_or_pos len with h3 | h3
          · subst h3; rw [vl_zero] at e6; omega
          · omega
    subst hl
    refine ⟨v, b, l, rfl, hC, ⟨e1, e2, e3, by omega, e5, e6, ?_⟩⟩
    rcases e7 with z | z
    · omega
    · exact z

/-- Four big.Ints apart: a, b, c and q. -/
structure D3 (a b c q : Nat) (oa ob oc oq : Option Nat) : Prop where
  ab : a ≠ b
  ac : a ≠ c
  bc : b ≠ c
  aq : a ≠ q
  bq : b ≠ q
  cq : c ≠ q
  oa : ∀ k, oa = some k → k ≠ b ∧ k ≠ c ∧ k ≠ q ∧ ob ≠ some k ∧ oc ≠ some k ∧ oq ≠ some k
  ob : ∀ k, ob = some k → k ≠ a ∧ k ≠ c ∧ k ≠ q ∧ oc ≠ some k ∧ oq ≠ some k
  oc : ∀ k, oc = some k → k ≠ a ∧ k ≠ b ∧ k ≠ q ∧ oq ≠ some k
  oq : ∀ k, oq = some k → k ≠ a ∧ k ≠ b ∧ k ≠ c

/-- The four of a stripping: x at a, what is left of the quotient at b, of the remainder at c, the factor n at q; all are the call's own. -/
def RB (w0 w : World) (a b c q : Nat) (x y z : Int) (n : Nat) : Prop :=
  ∃ oa ob oc oq, IntAt w a x oa ∧ IntAt w b y ob ∧ IntAt w c z oc ∧ IntAt w q (n : Int) oq ∧ D3 a b c q oa ob oc oq ∧ Fr (fun _ => False) w0 w ∧
    (w0.heap.size ≤ a ∧ w0.heap.size ≤ b ∧ w0.heap.size ≤ c ∧ w0.heap.size ≤ q) ∧ (∀ k, oa = some k → w0.heap.size ≤ k) ∧ (∀ k, ob = some k → w0.heap.size ≤ k) ∧ (∀ k, oc = some k → w0.heap.size ≤ k) ∧ (∀ k, oq = some k → w0.heap.size ≤ k)

theorem RB.frame {w0 w w' : World} {a b c q n : Nat} {x y z : Int} (h : RB w0 w a b c q x y z n) (f : Fr (fun _ => False) w w') : RB w0 w' a b c q x y z n := by
  obtain ⟨oa, ob, oc, oq, h1, h2, h3, h4, h5, h6, h7⟩ := h
  exact ⟨oa, ob, oc, oq, h1.frame f (fun f => f) (fun _ _ f => f), h2.frame f (fun f => f) (fun _ _ f => f), h3.frame f (fun f => f) (fun _ _ f => f), h4.frame f (fun f => f) (fun _ _ f => f), h5, h6.trans f (fun _ _ h => h), h7⟩

theorem RB.swap {w0 w : World} {a b c q n : Nat} {x y z : Int} (h : RB w0 w a b c q x y z n) : RB w0 w b a c q y x z n := by
  obtain ⟨oa, ob, oc, oq, h1, h2, h3, h4, d, h6, ⟨s1, s2, s3, s4⟩, g1, g2, g3, g4⟩ := h
  refine ⟨ob, oa, oc, oq, h2, h1, h3, h4, ⟨d.ab.symm, d.bc, d.ac, d.bq, d.aq, d.cq, ?_, ?_, ?_, ?_⟩, h6, ⟨s2, s1, s3, s4⟩, g2, g1, g3, g4⟩
  · intro k e
    have := d.ob k e
    exact ⟨this.1, this.2.1, this.2.2.1, fun e2 => (d.oa k e2).2.2.2.1 e, this.2.2.2.1, this.2.2.2.2⟩
  · intro k e
    have := d.oa k e
    exact ⟨this.1, this.2.1, this.2.2.1, this.2.2.2.2.1, this.2.2.2.2.2⟩
  · intro k e
    have := d.oc k e
    exact ⟨this.2.1, this.1, this.2.2⟩
  · intro k e
    have := d.oq k e
    exact ⟨this.2.1, this.1, this.2.2⟩

theorem RB.divMod {w0 w : World} {a b c q n : Nat} {x y z : Int} (h : RB w0 w a b c q x y z n) (h0 : 0 < n) (hn : n < W64) (hx : x.natAbs < W64 ^ 30) :
    Calls Tryz.prog 156 #[ptr b, ptr a, ptr q, ptr c] w fun e w' => e = .returned (.tuple #[ptr b, ptr c]) ∧ RB w0 w' a b c q x (x / (n : Int)) (x % (n : Int)) n := by
  obtain ⟨oa, ob, oc, oq, h1, h2, h3, h4, d, h6, ⟨s1, s2, s3, s4⟩, g1, g2, g3, g4⟩ := h
  obtain ⟨vq, bq, ly, rfl, hq, Hq⟩ := intAt_word h4 h0 hn
  have H1 := h1
  obtain ⟨ga, va, na, ha, rfl⟩ := h1
  have l1 := ha.lt
  have l1o : ∀ k, oa = some k → k < w.heap.size := fun k e => by subst e; exact ha.nat.lt
  have l4 := hq.lt
  have l4o := hq.nat.lt
  have l2 := h2.lt
  have l3 := h3.lt
  have l2o : ∀ k, ob = some k → k < w.heap.size := fun k e => by subst e; exact h2.ob_lt
  have l3o : ∀ k, oc = some k → k < w.heap.size := fun k e => by subst e; exact h3.ob_lt
  obtain ⟨gb, vb, nb, hb, eb⟩ := h2
  obtain ⟨gc, vc, nc, hc, ec⟩ := h3
  have hna : na < W64 ^ 30 := by
    have : (sgn ga na).natAbs = na := by unfold sgn; split <;> omega
    rw [← this]; exact hx
  have dq := d.oq bq rfl
  refine (divMod_any b a q c gb ga gc vb va vq vc ob oa oc bq nb na n nc ly w hb ha hq hc Hq d.ab.symm d.bq d.bc d.ac.symm d.cq (fun k e => (d.ob k e).2.2.2.1) (fun e => (d.ob bq e).2.2.2.2 rfl) (fun e => (d.oc bq e).2.2.2 rfl) hna).mono ?_
  rintro e w' ⟨o1, o2, rfl, i1, i2, f, a1, a2, a3⟩
  have nS : ∀ k, k ≠ b → k ≠ c → ob ≠ some k → oc ≠ some k → ¬ (k = b ∨ k = c ∨ ob = some k ∨ oc = some k) := by
    intro k k1 k2 k3 k4 e
    rcases e with e | e | e | e
    · exact k1 e
    · exact k2 e
    · exact k3 e
    · exact k4 e
  have fa := i1.far
  have fb := i2.far
  refine ⟨rfl, oa, o1, o2, some bq, H1.frame f (nS a d.ab d.ac (fun e => (d.ob a e).1 rfl) (fun e => (d.oc a e).1 rfl)) (fun k e => by have := d.oa k e; exact nS k this.1 this.2.1 this.2.2.2.1 this.2.2.2.2.1), i1, i2,
    h4.frame f (nS q d.bq.symm d.cq.symm (fun e => (d.ob q e).2.2.1 rfl) (fun e => (d.oc q e).2.2.1 rfl)) (fun k e => by cases e; exact nS bq dq.2.1 dq.2.2 (fun e => (d.ob bq e).2.2.2.2 rfl) (fun e => (d.oc bq e).2.2.2 rfl)), ?_, ?_, ⟨s1, s2, s3, s4⟩, g1, ?_, ?_, g4⟩
  · refine ⟨d.ab, d.ac, d.bc, d.aq, d.bq, d.cq, ?_, ?_, ?_, d.oq⟩
    · intro k e
      have t := d.oa k e
      have tl := l1o k e
      refine ⟨t.1, t.2.1, t.2.2.1, ?_, ?_, t.2.2.2.2.2⟩
      · rcases a1 with r | ⟨m, r, hm⟩
        · rw [r]; exact t.2.2.2.1
        · rw [r]; intro e; cases e; omega
      · rcases a2 with r | ⟨m, r, hm⟩
        · rw [r]; exact t.2.2.2.2.1
        · rw [r]; intro e; cases e; omega
    · intro k e
      rcases a1 with r | ⟨m, r, hm⟩
      · have t := d.ob k (r ▸ e)
        exact ⟨t.1, t.2.1, t.2.2.1, a3 k e, t.2.2.2.2⟩
      · rw [r] at e; cases e
        exact ⟨by omega, by omega, by omega, a3 k r, fun e => by cases e; omega⟩
    · intro k e
      rcases a2 with r | ⟨m, r, hm⟩
      · exact d.oc k (r ▸ e)
      · rw [r] at e; cases e
        exact ⟨by omega, by omega, by omega, fun e => by cases e; omega⟩
  · refine h6.trans f (fun i hi e => ?_)
    rcases e with e | e | e | e
    · omega
    · omega
    · have := g2 i e; omega
    · have := g3 i e; omega
  · intro k e
    have := h6.size
    rcases a1 with r | ⟨m, r, hm⟩
    · exact g2 k (r ▸ e)
    · rw [r] at e; cases e; omega
  · intro k e
    have := h6.size
    rcases a2 with r | ⟨m, r, hm⟩
    · exact g3 k (r ▸ e)
    · rw [r] at e; cases e; omega
end Go.Proofs.YtcpjclakdpjjfaaGreatDoor

namespace Go.Proofs.YtcpjclakdpjjfaaGreatDoor
open Go.RowKit

/-- A number and a factor, apart, both the call's own. -/
def Two (w0 w : World) (a q : Nat) (x : Int) (n : Nat) : Prop :=
  ∃ oa oq, IntAt w a x oa ∧ IntAt w q (n : Int) oq ∧ a ≠ q ∧ (∀ k, oa = some k → k ≠ q ∧ oq ≠ some k) ∧ (∀ k, oq = some k → k ≠ a) ∧ Fr (fun _ => False) w0 w ∧
    (w0.heap.size ≤ a ∧ w0.heap.size ≤ q) ∧ (∀ k, oa = some k → w0.heap.size ≤ k) ∧ (∀ k, oq = some k → w0.heap.size ≤ k)

/-- Two numbers made behind them. -/
theorem Two.made {w0 w w1 w2 : World} {a q b c n : Nat} {x y z : Int} {ob oc : Option Nat} (h : Two w0 w a q x n) (hb : IntAt w1 b y ob) (fb : Fr (fun _ => False) w w1) (lb : w.heap.size ≤ b) (lbo : ∀ k, ob = some k → w.heap.size ≤ k)
    (hc : IntAt w2 c z oc) (fc : Fr (fun _ => False) w1 w2) (lc : w1.heap.size ≤ c) (lco : ∀ k, oc = some k → w1.heap.size ≤ k) : RB w0 w2 a b c q x y z n := by
  obtain ⟨oa, oq, h1, h2, naq, da, dq, f, ⟨s1, s2⟩, g1, g2⟩ := h
  have l1 := h1.lt
  have l1o : ∀ k, oa = some k → k < w.heap.size := fun k e => by subst e; exact h1.ob_lt
  have l2 := h2.lt
  have l2o : ∀ k, oq = some k → k < w.heap.size := fun k e => by subst e; exact h2.ob_lt
  have l3 := hb.lt
  have l3o : ∀ k, ob = some k → k < w1.heap.size := fun k e => by subst e; exact hb.ob_lt
  have sz := fb.size
  have szc := fc.size
  have sz0 := f.size
  refine ⟨oa, ob, oc, oq, (h1.frame fb (fun f => f) (fun _ _ f => f)).frame fc (fun f => f) (fun _ _ f => f), hb.frame fc (fun f => f) (fun _ _ f => f), hc, (h2.frame fb (fun f => f) (fun _ _ f => f)).frame fc (fun f => f) (fun _ _ f => f), ?_, (f.trans fb (fun _ _ h => h)).trans fc (fun _ _ h => h), ⟨s1, by omega, by omega, s2⟩, g1, fun k e => by have := lbo k e; omega, fun k e => by have := lco k e; omega, g2⟩
  have fo := hb.far
  refine ⟨by omega, by omega, by omega, naq, by omega, by omega, ?_, ?_, ?_, ?_⟩
  · intro k e
    have := l1o k e
    exact ⟨by omega, by omega, (da k e).1, fun e2 => by have := lbo k e2; omega, fun e2 => by have := lco k e2; omega, (da k e).2⟩
  · intro k e
    have t1 := lbo k e
    have t2 := l3o k e
    exact ⟨by omega, by omega, by omega, fun e2 => by have := lco k e2; omega, fun e2 => by have := l2o k e2; omega⟩
  · intro k e
    have t1 := lco k e
    exact ⟨by omega, by omega, by omega, fun e2 => by have := l2o k e2; omega⟩
  · intro k e
    have t1 := l2o k e
    exact ⟨dq k e, by omega, by omega⟩

theorem RB.cmpA {w0 w w' : World} {a b c q n r : Nat} {x y z v : Int} {or : Option Nat} (h : RB w0 w a b c q x y z n) (f : Fr (fun _ => False) w w') (hr : IntAt w' r v or) (lr : w.heap.size ≤ r) :
    Calls Tryz.prog 59 #[ptr a, ptr r] w' fun e w'' => e = .returned (.int .i64 (cmpZ x v)) ∧ Fr (fun _ => False) w' w'' := by
  obtain ⟨oa, ob, oc, oq, h1, _⟩ := h
  have l := h1.lt
  have h1 := h1.frame f (fun f => f) (fun _ _ f => f)
  obtain ⟨ga, va, na, ha, rfl⟩ := h1
  obtain ⟨gr, vr, nr, hr, rfl⟩ := hr
  refine (icmp_any a r ga gr va vr oa or na nr w' ha hr (by omega)).mono ?_
  rintro e w'' ⟨rfl, k, rfl⟩
  exact ⟨rfl, Fr.drewN _ _ _⟩
theorem RB.cmpC {w0 w w' : World} {a b c q n r : Nat} {x y z v : Int} {or : Option Nat} (h : RB w0 w a b c q x y z n) (f : Fr (fun _ => False) w w') (hr : IntAt w' r v or) (lr : w.heap.size ≤ r) :
    Calls Tryz.prog 59 #[ptr c, ptr r] w' fun e w'' => e = .returned (.int .i64 (cmpZ z v)) ∧ Fr (fun _ => False) w' w'' := by
  obtain ⟨oa, ob, oc, oq, _, _, h1, _⟩ := h
  have l := h1.lt
  have h1 := h1.frame f (fun f => f) (fun _ _ f => f)
  obtain ⟨ga, va, na, ha, rfl⟩ := h1
  obtain ⟨gr, vr, nr, hr, rfl⟩ := hr
  refine (icmp_any c r ga gr va vr oc or na nr w' ha hr (by omega)).mono ?_
  rintro e w'' ⟨rfl, k, rfl⟩
  exact ⟨rfl, Fr.drewN _ _ _⟩
theorem RB.im {w0 w : World} {a b c q n : Nat} {x y z : Int} (h : RB w0 w a b c q x y z n) : Im w0 w a x := by
  obtain ⟨oa, ob, oc, oq, h1, _, _, _, _, h6, s, g, _⟩ := h
  exact ⟨oa, h1, h6, s.1, g⟩

/-- Dividing a number by a factor of it. -/
theorem ediv_exact {x : Int} {n : Nat} (hn : 0 < n) (h : x % (n : Int) = 0) : x / (n : Int) = signed x (x.natAbs / n) ∧ x.natAbs % n = 0 := by
  have hd : (n : Int) ∣ x := Int.dvd_of_emod_eq_zero h
  obtain ⟨k, rfl⟩ := hd
  rw [Int.mul_ediv_cancel_left _ (by omega), Int.natAbs_mul, Int.natAbs_natCast, Nat.mul_div_cancel_left _ hn, Nat.mul_mod_right]
  refine ⟨?_, rfl⟩
  unfold signed
  split
  · rename_i hlt
    have : k < 0 := by
      rcases (show k < 0 ∨ 0 ≤ k by omega) with h | h
      · exact h
      · have := Int.mul_nonneg (show (0 : Int) ≤ n by omega) h; omega
    omega
  · rename_i hlt
    have : 0 ≤ k := by
      rcases (show k < 0 ∨ 0 ≤ k by omega) with h | h
      · have := Int.mul_neg_of_pos_of_neg (show (0 : Int) < n by omega) h; omega
      · exact h
    omega
theorem emod_exact {x : Int} {n : Nat} (_hn : 0 < n) (h : x.natAbs % n = 0) : x % (n : Int) = 0 := by
  have : n ∣ x.natAbs := Nat.dvd_of_mod_eq_zero h
  exact Int.emod_eq_zero_of_dvd (Int.ofNat_dvd_left.mpr this)
end Go.Proofs.YtcpjclakdpjjfaaGreatDoor

namespace Go.Proofs.YtcpjclakdpjjfaaGreatDoor
open Go.RowKit

/-- A round of the stripping: X is what N has come to after k times. -/
structure RmS (n : Nat) (x0 X : Int) (k : Nat) : Prop where
  st : Strips n x0.natAbs X.natAbs k
  sg : X = signed x0 X.natAbs
  bd : X.natAbs * 2 ^ k ≤ x0.natAbs

theorem RmS.start {n : Nat} {x0 : Int} (h : x0 ≠ 0) : RmS n x0 x0 0 := ⟨Strips.start (by omega), (signed_self x0).symm, by simp⟩
theorem RmS.ne {n : Nat} {x0 X : Int} {k : Nat} (h : RmS n x0 X k) : X ≠ 0 := by have := h.st.1; omega
theorem RmS.k_le {n : Nat} {x0 X : Int} {k : Nat} (h : RmS n x0 X k) (hb : x0.natAbs < TOP) : k ≤ 460 := by
  rcases Nat.lt_or_ge 460 k with h1 | h1
  · have h20 : ∀ j, j ≤ k → 2 ^ j ≤ 2 ^ k := fun _ hj => Nat.pow_le_pow_right (by omega) hj
    have h2 := h20 461 h1
    have h3 : 2 ^ k ≤ X.natAbs * 2 ^ k := Nat.le_mul_of_pos_left _ h.st.1
    have h4 : TOP ≤ 2 ^ 461 := by unfold TOP; decide +kernel
    have := h.bd
    omega
  · exact h1
theorem RmS.le {n : Nat} {x0 X : Int} {k : Nat} (h : RmS n x0 X k) : X.natAbs ≤ x0.natAbs := Nat.le_trans (Nat.le_mul_of_pos_right _ (Nat.pow_pos (by omega))) h.bd
theorem RmS.step {n : Nat} {x0 X : Int} {k : Nat} (hn : 2 ≤ n) (h : RmS n x0 X k) (hz : X % (n : Int) = 0) : RmS n x0 (X / (n : Int)) (k + 1) := by
  obtain ⟨e1, e2⟩ := ediv_exact (by omega) hz
  have hna : (X / (n : Int)).natAbs = X.natAbs / n := by rw [e1, natAbs_signed]
  refine ⟨?_, ?_, ?_⟩
  · rw [hna]; exact (h.st.step hn e2).1
  · rw [hna, e1]
    have hp := h.st.1
    have hs : X < 0 ↔ x0 < 0 := by
      have := h.sg
      unfold signed at this
      split at this <;> omega
    unfold signed
    by_cases c : x0 < 0
    · rw [if_pos c, if_pos (hs.2 c)]
    · rw [if_neg c, if_neg (fun e => c (hs.1 e))]
  · rw [hna]; exact strips_half hn h.bd
theorem RmS.stop {n : Nat} {x0 X : Int} {k : Nat} (hn : 2 ≤ n) (h : RmS n x0 X k) (hz : X % (n : Int) ≠ 0) : strip n x0.natAbs = (X.natAbs, k) :=
  h.st.stop (fun e => hz (emod_exact (by omega) e))

theorem cmpZ_ne0 {x : Int} (h : x ≠ 0) : (cmpZ x 0 != 0) = true := by
  unfold cmpZ
  by_cases c : x < 0
  · rw [if_pos c]; rfl
  · rw [if_neg c, if_neg h]; rfl

/-- What stripping comes to. -/
def RmEnd (w0 : World) (x : Int) (n : Nat) (e : Ending) (w' : World) : Prop := ∃ r, e = .returned (.tuple #[ptr r, .int .i32 ((strip n x.natAbs).2 : Int)]) ∧ Im w0 w' r (signed x (strip n x.natAbs).1)

set_option maxRecDepth 100000 in
set_option maxHeartbeats 4000000 in
theorem rmb_any (w0 w : World) (a q : Nat) (x : Int) (n : Nat) (h : Two w0 w a q x n) (hx : x ≠ 0) (hb : x.natAbs < TOP) (hn : 2 ≤ n) (hn2 : n < W64) : Calls Tryz.prog 132 #[ptr a, ptr q] w (RmEnd w0 x n) := by
  have NI := Lib.hid (newInt_any 0 (by omega) (by omega))
  have h := Lib.hid h
  have hb := Lib.hid hb
  have hn := Lib.hid hn
  have hn2 := Lib.hid hn2
  have hx := Lib.hid hx
  unfold ptr at *
  go_enter Tryz.func132, Tryz.ntmps132
  go_wp2_with fail
  refine (NI.out w).mono ?_
  rintro e w1 ⟨b, ob, rfl, i1, i2, i3, i4⟩
  go_wp2_with fail
  refine (NI.out w1).mono ?_
  rintro e w2 ⟨c, oc, rfl, j1, j2, j3, j4⟩
  have hB : Hid (RB w0 w2 a b c q x 0 0 n) := h.out.made i1 i2 i3 i4 j1 j2 j3 j4
  clear i1 i2 i3 i4 j1 j2 j3 j4
  go_wp2_with fail
  go_loopw [0, 5, 6] (fun t0 t5 t6 wr => ∃ (a b k : Nat) (X y z : Int), t0 = .pointer (some ⟨a, 0, none⟩) ∧ t6 = .pointer (some ⟨b, 0, none⟩) ∧ t5 = .int .i32 (k : Int) ∧ k ≤ 460 ∧ Hid (RmS n x X k) ∧ Hid (RB w0 wr a b c q X y z n)) (fun _ t5 _ _ => 1000 - (intOf t5).toNat)
  case atStart => exact ⟨a, b, 0, x, 0, 0, rfl, rfl, rfl, by omega, RmS.start hx.out, hB⟩
  case round =>
    obtain ⟨a, b, k, X, y, z, rfl, rfl, rfl, hk, hS, hR⟩ := hrel
    clear hB
    go_wp2_with fail
    refine (NI.out wr).mono ?_
    rintro e w3 ⟨r, orr, rfl, g1, g2, g3, g4⟩
    have CA := Lib.hid (hR.out.cmpA g2 g1 g3)
    have hR3 := Lib.hid (hR.out.frame g2)
    have q0 := cmpZ_ne0 hS.out.ne
    obtain ⟨RA, hRA⟩ : ∃ RA, RA = cmpZ X 0 := ⟨_, rfl⟩
    rw [← hRA] at CA q0
    replace hRA := Lib.hid hRA
    clear g1 g2 g3 g4 hR
    unfold ptr at *
    go_wp2_with fail
    refine CA.out.mono ?_
    rintro e w4 ⟨rfl, f4⟩
    have hR4 := Lib.hid (hR3.out.frame f4)
    clear hR3 f4 CA
    have DM := Lib.hid (hR4.out.divMod (by have := hn.out; omega) hn2.out (by
      have h1 := hS.out.le
      have h2 := hb.out
      have h3 : TOP ≤ W64 ^ 30 := by unfold TOP W64; decide +kernel
      omega))
    unfold ptr at *
    go_wp2_with fail
    refine DM.out.mono ?_
    rintro e w5 ⟨rfl, hR5⟩
    replace hR5 := Lib.hid hR5
    clear DM hR4
    go_wp2_with fail
    refine (NI.out w5).mono ?_
    rintro e w6 ⟨r2, or2, rfl, g1, g2, g3, g4⟩
    have CC := Lib.hid (hR5.out.cmpC g2 g1 g3)
    have hR6 := Lib.hid (hR5.out.frame g2)
    clear g1 g2 g3 g4 hR5
    unfold ptr at *
    by_cases hz : X % (n : Int) = 0
    · have e0 : cmpZ (X % (n : Int)) 0 = 0 := by rw [hz]; rfl
      rw [e0] at CC
      have hS2 := Lib.hid (hS.out.step hn.out hz)
      have hk2 := hS2.out.k_le hb.out
      replace hz := Lib.hid hz
      replace hS := Lib.hid hS.out
      clear e0
      go_wp2_with fail
      refine CC.out.mono ?_
      rintro e w7 ⟨rfl, f7⟩
      have hR7 := Lib.hid (hR6.out.frame f7).swap
      clear hR6 f7 CC
      go_wp2_with fail
      go_round
      case rel => exact ⟨b, a, k + 1, X / (n : Int), X, X % (n : Int), rfl, rfl, rfl, hk2, hS2, hR7⟩
      case measure =>
        show 1000 - ((k : Int) + 1).toNat < 1000 - ((k : Int)).toNat
        omega
    · have q1 := cmpZ_ne0 hz
      obtain ⟨RC, hRC⟩ : ∃ RA, RA = cmpZ (X % (n : Int)) 0 := ⟨_, rfl⟩
      rw [← hRC] at CC q1
      have hst := Lib.hid (hS.out.stop hn.out hz)
      replace hz := Lib.hid hz
      replace hRC := Lib.hid hRC
      go_wp2_with fail
      refine CC.out.mono ?_
      rintro e w7 ⟨rfl, f7⟩
      have hR7 := Lib.hid (hR6.out.frame f7)
      clear hR6 f7 CC
      go_wp2_with fail
      go_ret2
      refine ⟨a, by rw [hst.out]; rfl, ?_⟩
      rw [hst.out, ← hS.out.sg]
      exact hR7.out.im
end Go.Proofs.YtcpjclakdpjjfaaGreatDoor

namespace Go.Proofs.YtcpjclakdpjjfaaGreatDoor
open Go.RowKit

theorem im_mul {w0 w : World} {p q : Nat} {z m : Int} (h : Im w0 w p z) (hq : Im w0 w q m) (npq : p ≠ q) (bz : z.natAbs < W64 ^ 30) (bm : m.natAbs < W64 ^ 30) (hg : Gk w) :
    Calls Tryz.prog 30 #[ptr p, ptr p, ptr q] w fun E w' => E = .returned (ptr p) ∧ Im w0 w' p (z * m) := by
  obtain ⟨op, hd, g, hpl, hpb⟩ := h
  obtain ⟨oq, hiq, _, hql, hqb⟩ := hq
  obtain ⟨vp, hcp⟩ := hd.get
  obtain ⟨vq, hcq⟩ := hiq.get
  refine (iMul_any p p q _ _ _ vp vp vq op op oq _ _ _ w hcp hcp hcq npq npq bz bm hg).mono ?_
  rintro E w' ⟨ob, rfl, hi, f, ho, hH⟩
  rw [sgn_get, sgn_get] at hi
  have hs := g.size
  refine ⟨rfl, ob, hi, g.trans f ?_, hpl, ?_⟩
  · rintro i hi' (e | e)
    · omega
    · have := hpb i e; omega
  · intro b hb
    rcases ho with e | ⟨c, e, hc⟩
    · exact hpb b (e ▸ hb)
    · rw [hb] at e; have : b = c := Option.some.inj e; omega

theorem im_set {w0 w : World} {p q : Nat} {z m : Int} {oq : Option Nat} (h : Im w0 w p z) (hq : IntAt w q m oq) (npq : p ≠ q) (bm : m.natAbs < W64 ^ 30) :
    Calls Tryz.prog 53 #[ptr p, ptr q] w fun E w' => E = .returned (ptr p) ∧ Im w0 w' p m := by
  obtain ⟨op, hd, g, hpl, hpb⟩ := h
  obtain ⟨vp, hcp⟩ := hd.get
  obtain ⟨vq, hcq⟩ := hq.get
  refine (iset_any p q _ _ vp vq op oq _ _ w hcp hcq npq (Nat.lt_of_lt_of_le bm (Nat.pow_le_pow_right (by unfold W64; omega) (by omega)))).mono ?_
  rintro E w' ⟨v, ob, rfl, hi, f, ho, hH⟩
  have hi : IntAt w' p m ob := ⟨_, v, _, hi, (sgn_get m).symm⟩
  have hs := g.size
  refine ⟨rfl, ob, hi, g.trans f ?_, hpl, ?_⟩
  · rintro i hi' (e | e)
    · omega
    · have := hpb i e; omega
  · intro b hb
    rcases ho with e | ⟨c, e, hc⟩
    · exact hpb b (e ▸ hb)
    · rw [hb] at e; have : b = c := Option.some.inj e; omega

theorem im_two {w0 w w' : World} {a q n : Nat} {x : Int} {oq : Option Nat} (h : Im w0 w a x) (hq : IntAt w' q (n : Int) oq) (f : Fr (fun _ => False) w w') (lq : w.heap.size ≤ q) (lo : ∀ k, oq = some k → w.heap.size ≤ k) : Two w0 w' a q x n := by
  obtain ⟨oa, h1, g, hl, hb⟩ := h
  have l1 := h1.lt
  have l1o : ∀ k, oa = some k → k < w.heap.size := fun k e => by subst e; exact h1.ob_lt
  have sz := g.size
  exact ⟨oa, oq, h1.frame f (fun f => f) (fun _ _ f => f), hq, by omega, fun k e => ⟨by have := l1o k e; omega, fun e2 => by have := lo k e2; have := l1o k e; omega⟩, fun k e => by have := lo k e; omega, g.trans f (fun _ _ h => h), ⟨hl, by omega⟩, hb, fun k e => by have := lo k e; omega⟩

theorem im_string {w0 w : World} {p : Nat} {z : Int} (h : Im w0 w p z) (hz : z ≠ 0) (bz : z.natAbs < W64 ^ 8) (hg : Gk w) :
    Calls Tryz.prog 133 #[ptr p] w fun E w' => E = .returned (.string (tx (Lib.itoa z))) ∧ Fr (fun _ => False) w w' := by
  obtain ⟨op, hd, _⟩ := h
  obtain ⟨vp, hcp⟩ := hd.get
  have := string_any p _ vp op _ w hcp (by omega) bz hg
  rw [sgn_get] at this
  exact this

end Go.Proofs.YtcpjclakdpjjfaaGreatDoor


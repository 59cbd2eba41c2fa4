/-
  A part of the proof of FnQuantityAgain (texts T8, T9, U1, U2, U3, U4, U5, U6, U7, U8 of mine, joined).
-/
import Derived.Test.YtcpjclakdpjjfaaGreatDoorM40
import Derived.Test.YtcpjclakdpjjfaaGreatDoorM37
namespace Go.Proofs.YtcpjclakdpjjfaaGreatDoor
open Go.RowKit

theorem results_98 (tmps : Array Value) (w : World) (g : Nat) (t : TypeId) (x : Value) (fr : Nat × Nat) (hp : tmps.getD 4 undef = .pointer (some ⟨g, 0, none⟩)) (hg : w.heap[g]? = some (.cells #[x] t fr)) :
    (results Tryz.f98 tmps).run Tryz.prog w = .ok (.tuple #[.agg #[x], tmps.getD 5 undef]) w := by
  have hp' : tmps[4]?.getD undef = .pointer (some ⟨g, 0, none⟩) := by simpa using hp
  have hl := run_loadVar_row w g t 36 #[x] fr _ hg Tryz.underlying36 rfl (by kernel_rfl)
  simp [results, hp', asAddr, hl]

/-- Rounded up to a whole number. -/
def wholeQ (z : Int) (b : Nat) : Int := sgn (decide (z < 0)) (z.natAbs / 10 ^ b + (if z.natAbs % 10 ^ b = 0 then 0 else 1))

theorem wholeQ_cmp (z : Int) (b : Nat) : (cmpZ (wholeQ z b * ((10 ^ b : Nat) : Int)) (z * ((10 ^ 0 : Nat) : Int)) == 0) = decide (z.natAbs % 10 ^ b = 0) := by
  have hp : 0 < 10 ^ b := Nat.pow_pos (by omega)
  have e1 : z * ((10 ^ 0 : Nat) : Int) = z := by simp
  rw [e1]
  unfold wholeQ
  generalize 10 ^ b = D at *
  have hd := Nat.div_add_mod z.natAbs D
  have hl := Nat.mod_lt z.natAbs hp
  generalize hq : z.natAbs / D = Q at *
  generalize hm : z.natAbs % D = M at *
  by_cases h0 : M = 0
  · rw [if_pos h0, Nat.add_zero, decide_eq_true h0]
    have : sgn (decide (z < 0)) Q * (D : Int) = z := by
      have e2 : (D : Int) * (Q : Int) = ((z.natAbs : Nat) : Int) := by rw [← hd, h0, Nat.add_zero, Int.natCast_mul]
      rw [Int.mul_comm] at e2
      unfold sgn
      split
      · rename_i h; have h := of_decide_eq_true h; rw [Int.neg_mul, e2]; omega
      · rename_i h; have h : ¬ z < 0 := by simpa using h
        rw [e2]; omega
    rw [this]
    have : cmpZ z z = 0 := by unfold cmpZ; rw [if_neg (by omega), if_pos rfl]
    rw [this]; rfl
  · rw [if_neg h0, decide_eq_false h0, beq_eq_false_iff_ne]
    have hne : sgn (decide (z < 0)) (Q + 1) * (D : Int) ≠ z := by
      intro e
      have := congrArg Int.natAbs e
      rw [Int.natAbs_mul, Int.natAbs_natCast] at this
      have h3 : (sgn (decide (z < 0)) (Q + 1)).natAbs = Q + 1 := by unfold sgn; split <;> omega
      rw [h3, ← hd, Nat.add_mul, Nat.one_mul, Nat.mul_comm] at this
      omega
    unfold cmpZ
    split
    · decide
    · first | decide | (rw [if_neg hne]; decide)

/-- What AsScale 0 of a decimal comes to. -/
def DecScaleEnd (w : World) (u : Int) (b : Nat) (r : Ending) (w' : World) : Prop := ∃ t ot, r = .returned (.tuple #[.agg #[ptr t], .bool (decide (u.natAbs % 10 ^ b = 0))]) ∧ DecAt w' t (wholeQ u b) 0 ot ∧ Fr (fun _ => False) w w' ∧ w.heap.size ≤ t ∧ (∀ k, ot = some k → w.heap.size ≤ k)

set_option maxRecDepth 100000 in
set_option maxHeartbeats 4000000 in
theorem decScale_any (p : Nat) (u e : Int) (o : Option Nat) (w : World) (hD : DecAt w p u (-e) o) (hb : u.natAbs < TOP) (e1 : -9 ≤ e) (e2 : e ≤ 0) (hg : Gk w) (hsz : 17 ≤ w.heap.size) :
    Calls Tryz.prog 98 #[.agg #[ptr p], .int .i32 0] w (DecScaleEnd w u (-e).toNat) := by
  obtain ⟨b, hbe⟩ : ∃ b, b = (-e).toNat := ⟨_, rfl⟩
  rw [← hbe]
  have he : -e = (b : Int) := by omega
  have hb9 : b ≤ 9 := by omega
  have hbT : u.natAbs < W64 ^ 30 := by
    have h3 : TOP ≤ W64 ^ 30 := by unfold TOP W64; decide +kernel
    omega
  obtain ⟨w1, hw1⟩ : ∃ w1, w1 = w.alloc (.cells #[ptr p] 36) := ⟨_, rfl⟩
  obtain ⟨w2, hw2⟩ : ∃ w2, w2 = w1.alloc (.cells #[.pointer none] 36) := ⟨_, rfl⟩
  obtain ⟨w3, hw3⟩ : ∃ w3, w3 = w2.alloc (.cells #[.bool false, .slice none 0 0, .int .i32 0] 73) := ⟨_, rfl⟩
  have s1 : w1.heap.size = w.heap.size + 1 := by rw [hw1]; simp
  have s2 : w2.heap.size = w.heap.size + 2 := by rw [hw2]; simp; omega
  have f1 : Fr (fun _ => False) w w1 := by rw [hw1]; exact Fr.alloc _ _ _
  have f2 : Fr (fun _ => False) w1 w2 := by rw [hw2]; exact Fr.alloc _ _ _
  have f3 : Fr (fun _ => False) w2 w3 := by rw [hw3]; exact Fr.alloc _ _ _
  have f : Fr (fun _ => False) w w3 := (f1.trans f2 (fun _ _ h => h)).trans f3 (fun _ _ h => h)
  obtain ⟨P, hP⟩ : ∃ P, P = w2.heap.size := ⟨_, rfl⟩
  have hT : DecAt w3 P 0 0 none := by
    obtain ⟨B1, B2⟩ := IntC.boxed3 w2 73 (.int .i32 0)
    rw [← hw3, ← hP] at B1 B2
    exact ⟨⟨false, _, 0, B1, rfl⟩, B2⟩
  have RND : Hid (∀ w', Fr (fun _ => False) w3 w' → Calls Tryz.prog 34 #[ptr P, ptr p, .int .i32 0, .iface 131 RUP] w' (DecOp w' P none (ptr P) (wholeQ u b) 0)) := by
    intro w' f'
    have hx := (hD.frame f (fun f => f) (fun _ _ f => f)).frame f' (fun f => f) (fun _ _ f => f)
    rw [← sgn_get u] at hx
    have := dRound_any P p u.natAbs (decide (u < 0)) 0 0 0 (-e) 0 b none o w' (hT.frame f' (fun f => f) (fun _ _ f => f)) hx (by omega) (by omega) (by omega) (Or.inl rfl) (by omega) (by omega) (by rw [Nat.pow_zero, Nat.mul_one]; exact hbT) (Or.inl (by omega)) ((hg.frame f (fun _ h => h.elim)).frame f' (fun _ h => h.elim))
    rw [Nat.pow_zero, Nat.mul_one] at this
    exact this
  have hpl : p < w.heap.size := hD.int.lt
  have hob : ∀ k, o = some k → k < w.heap.size := fun k e => by subst e; exact hD.int.ob_lt
  have hsz3 := f3.size
  have CM : Hid (∀ w' ot, DecAt w' P (wholeQ u b) 0 ot → Fr (fun k => k = P) w3 w' → Calls Tryz.prog 36 #[ptr P, ptr p] w' fun r w'' => (∃ R, r = .returned (.int .i64 R) ∧ (R == 0) = decide (u.natAbs % 10 ^ b = 0)) ∧ Fr (fun _ => False) w' w'') := by
    intro w' ot hT f'
    have hx := (hD.frame f (fun f => f) (fun _ _ f => f)).frame f' (fun e => by have e : p = P := e; omega) (fun k hk e => by have e : k = P := e; have := hob k hk; omega)
    have hW : (wholeQ u b).natAbs < W64 ^ 30 := by
      have h1 : (wholeQ u b).natAbs ≤ u.natAbs + 1 := by
        have h2 := Nat.div_le_self u.natAbs (10 ^ b)
        have h3 : ∀ (g : Bool) (n : Nat), (sgn g n).natAbs = n := by intro g n; unfold sgn; split <;> omega
        unfold wholeQ
        rw [h3]
        split <;> omega
      have h3 : TOP + 1 ≤ W64 ^ 30 := by unfold TOP W64; decide +kernel
      omega
    have g17 : 17 ≤ P := by omega
    refine (dCmp_any P p (wholeQ u b) u 0 (-e) b 0 ot o w' hT hx (by omega) (by omega) (Or.inr rfl) (by omega) (by omega) (by omega) (by omega) (by omega) (by omega) hW hbT ((hg.frame f (fun _ h => h.elim)).frame f' (fun k e => by have e : k = P := e; omega))).mono ?_
    rintro r w'' ⟨rfl, g⟩
    exact ⟨⟨_, rfl, wholeQ_cmp u b⟩, g⟩
  have c1 : w3.cell? ⟨w.heap.size, 0, none⟩ = some (ptr p) := by
    have r : w1.heap[w.heap.size]? = some (.cells #[ptr p] 36 (0, 0)) := by rw [hw1]; exact heap_alloc_new _ _
    exact cell_of_row w3 w.heap.size 0 _ _ _ ((f3.block _ (by omega) (fun f => f)).trans ((f2.block _ (by omega) (fun f => f)).trans r))
  have r2 : w3.heap[w1.heap.size]? = some (.cells #[.pointer none] 36 (0, 0)) := by
    have r : w2.heap[w1.heap.size]? = some (.cells #[.pointer none] 36 (0, 0)) := by rw [hw2]; exact heap_alloc_new _ _
    exact (f3.block _ (by omega) (fun f => f)).trans r
  have m1 : w3.drew.cell? ⟨w.heap.size, 0, none⟩ = some (ptr p) := c1
  replace f := Lib.hid f
  replace hw1 := Lib.hid hw1
  replace hw2 := Lib.hid hw2
  replace hw3 := Lib.hid hw3
  replace s1 := Lib.hid s1
  replace s2 := Lib.hid s2
  subst hP
  replace r2 := Lib.hid r2
  have IS : Hid (∀ w, Calls Tryz.prog 25 #[.int .i32 0] w fun e w' => e = .returned (.int .i32 0) ∧ w = w') := fun w => infScale_any 0 (by omega) (by omega) w
  have RU : Hid (∀ w, Calls Tryz.prog 35 #[] w fun e w' => e = .returned (.iface 131 RUP) ∧ w = w') := fun w => roundUp_any w
  replace hob := Lib.hid hob
  clear hD hg hb hbT hbe he hb9 e1 e2 f1 f2 f3 hT hsz
  unfold ptr at *
  go_enter Tryz.func98, Tryz.ntmps98
  go_wp2_with (first | rw [← hw1.out] | rw [← hw2.out] | rw [← hw3.out])
  go_region_with (first
    | (go_at_call 25
       refine (IS.out _).mono ?_
       rintro e w' ⟨rfl, hw⟩
       subst hw)
    | (go_at_call 35
       refine (RU.out _).mono ?_
       rintro e w' ⟨rfl, hw⟩
       subst hw)
    | (go_at_call 34
       refine (RND.out _ (Fr.drew _ _)).mono ?_
       rintro e w4 ⟨ot, rfl, g1, g2, g3⟩
       replace g1 := Lib.hid g1
       replace g2 := Lib.hid g2
       replace g3 := Lib.hid g3))
  all_goals
    have F4 : Fr (fun k => k = w2.heap.size) w3 w4 := ((Fr.drew (fun k => k = w2.heap.size) w3)).trans g2.out (fun _ _ h => by
      rcases h with h | h
      · exact h
      · cases h)
    have c4 : w4.cell? ⟨w.heap.size, 0, none⟩ = some (.pointer (some ⟨p, 0, none⟩)) := cell_frame c1 F4 (by have := s2.out; intro e; have e : w.heap.size = w2.heap.size := e; omega)
    have r4 := Lib.hid ((F4.block w1.heap.size (by have := s1.out; have := s2.out; omega) (by have := s1.out; have := s2.out; intro e; have e : w1.heap.size = w2.heap.size := e; omega)).trans r2.out)
    have CM4 := Lib.hid (CM.out w4 ot g1.out F4)
    replace F4 := Lib.hid F4
    clear RND IS RU CM
    go_wp2_with fail
    refine CM4.out.mono ?_
    rintro e w5 ⟨⟨R, rfl, hR⟩, g5⟩
    have r5 := (g5.block w1.heap.size (Array.getElem?_eq_some_iff.1 r4.out).1 (fun f => f)).trans r4.out
    have k5 := cell_of_row w5 w1.heap.size 0 _ _ _ r5
    replace k5 : w5.cell? ⟨w1.heap.size, 0, none⟩ = some (.pointer none) := k5
    have z5 := frozen_of_row w5 w1.heap.size 0 _ _ r5
    have r6 := Lib.hid (heap_setCell_same w5 w1.heap.size 0 _ 36 (.pointer (some ⟨w2.heap.size, 0, none⟩)) r5)
    replace r5 := Lib.hid r5
    replace g5 := Lib.hid g5
    go_wp2_with fail
    refine bodyPost_ret (results_98 _ _ w1.heap.size 36 _ (0, 0) rfl r6.out) rfl ?_
    have FS : Fr (fun k => k = w1.heap.size) w5 (w5.setCell ⟨w1.heap.size, 0, none⟩ (.pointer (some ⟨w2.heap.size, 0, none⟩))) := Fr.setCell (S := fun k => k = w1.heap.size) w5 ⟨w1.heap.size, 0, none⟩ _ (fun _ => rfl)
    have a1 := s1.out
    have a2 := s2.out
    have hO : ∀ k, ot = some k → w2.heap.size < k := by
      intro k hk
      rcases g3.out with h | ⟨c, h, hc⟩
      · rw [h] at hk; cases hk
      · have hc : w3.drew.heap.size ≤ c := hc
        have h0 : w3.drew.heap.size = w3.heap.size := rfl
        have h9 : w2.heap.size < w3.heap.size := by
          have : w3.heap.size = w2.heap.size + 1 := by rw [hw3.out]; simp
          omega
        rw [hk] at h; cases h; omega
    refine ⟨w2.heap.size, ot, by rw [← hR]; rfl, (g1.out.frame g5.out (fun f => f) (fun _ _ f => f)).frame FS (fun e => by have e : w2.heap.size = w1.heap.size := e; omega) (fun k hk e => by have e : k = w1.heap.size := e; have := hO k hk; omega), ?_, by omega, fun k hk => by have := hO k hk; omega⟩
    refine ((f.out.trans F4.out (fun i hi e => ?_)).trans g5.out (fun _ _ h => h)).trans FS (fun i hi e => ?_)
    · have e : i = w2.heap.size := e; omega
    · have e : i = w1.heap.size := e; omega
end Go.Proofs.YtcpjclakdpjjfaaGreatDoor

namespace Go.Proofs.YtcpjclakdpjjfaaGreatDoor
open Go.RowKit

theorem info5' : ∃ i0, Tryz.prog.info? 5 = some i0 ∧ i0.zero = some (.int .u8 0) ∧ i0.size = 1 ∧ i0.bytes = 1 := by
  have := info5
  cases h : Tryz.prog.info? 5 with
  | none => rw [h] at this; cases this
  | some i0 =>
    rw [h] at this
    have := Option.some.inj this
    exact ⟨i0, rfl, congrArg (fun p => p.2.2) this, congrArg (fun p => p.1) this, congrArg (fun p => p.2.1) this⟩

theorem row_own {w : World} {B n : Nat} {v : Value} {xs : List Value} (h : w.ownsRow B 5 1 v n xs) : ∀ k, v.ownBlock = some k → B ≤ k := by
  intro k e
  rcases h.2 with ⟨rfl, _⟩ | ⟨g, cap, cur, rfl, h2, _⟩
  · cases e
  · cases e; exact h2

/-- A text appended onto the row: what it comes to, seen from the world ahead. -/
theorem below_grown {w w6 w7 : World} {B : Nat} {v : Value} (F : Fr (fun _ => False) w w6) (g : w6.grownBy w7 v.ownBlock) (hS : ∀ k, v.ownBlock = some k → B ≤ k) (hB : B ≤ w.heap.size) : Below B w w7 :=
  ⟨g.os.trans F.os, g.tape.trans F.tape, g.output.trans F.output, Nat.le_trans F.size g.size, fun k hk => (g.block k (by have := F.size; omega) (fun e => by have := hS k e.symm; omega)).trans (F.block k (by omega) (fun f => f))⟩

set_option maxRecDepth 100000 in
set_option maxHeartbeats 4000000 in
theorem dec1024_any (p : Nat) (N : Int) (o : Option Nat) (w : World) (hD : DecAt w p N 0 o) (hu : N ≠ 0) (hb : N.natAbs < TOP) (hg : Gk w)
    (B n : Nat) (v : Value) (xs : List Value) (hown : w.ownsRow B 5 1 v n xs) (hB : B ≤ w.heap.size) (hn : n ≤ 1000) :
    Calls Tryz.prog 271 #[.agg #[ptr p], v] w (RowEnd w B n xs (Lib.itoa (signed N (strip 1024 N.natAbs).1)) ((strip 1024 N.natAbs).2 : Int)) := by
  have hbT : N.natAbs < W64 ^ 30 := by
    have h3 : TOP ≤ W64 ^ 30 := by unfold TOP W64; decide +kernel
    omega
  obtain ⟨w1, hw1⟩ : ∃ w1, w1 = w.alloc (.cells #[ptr p] 36) := ⟨_, rfl⟩
  obtain ⟨w3, hw3⟩ : ∃ w3, w3 = w1.alloc (.cells #[.bool false, .slice none 0 0, .int .i32 0] 73) := ⟨_, rfl⟩
  have s1 : w1.heap.size = w.heap.size + 1 := by rw [hw1]; simp
  have f1 : Fr (fun _ => False) w w1 := by rw [hw1]; exact Fr.alloc _ _ _
  have f3 : Fr (fun _ => False) w1 w3 := by rw [hw3]; exact Fr.alloc _ _ _
  have f : Fr (fun _ => False) w w3 := f1.trans f3 (fun _ _ h => h)
  have hT : DecAt w3 w1.heap.size 0 0 none := by
    obtain ⟨B1, B2⟩ := IntC.boxed3 w1 73 (.int .i32 0)
    rw [← hw3] at B1 B2
    exact ⟨⟨false, _, 0, B1, rfl⟩, B2⟩
  have RND : Hid (∀ w', Fr (fun _ => False) w3 w' → Calls Tryz.prog 34 #[ptr w1.heap.size, ptr p, .int .i32 0, .iface 131 RUP] w' (DecOp w' w1.heap.size none (ptr w1.heap.size) N 0)) := by
    intro w' f'
    have hx := (hD.frame f (fun f => f) (fun _ _ f => f)).frame f' (fun f => f) (fun _ _ f => f)
    rw [← sgn_get N] at hx
    have := dRound_any w1.heap.size p N.natAbs (decide (N < 0)) 0 0 0 0 0 0 none o w' (hT.frame f' (fun f => f) (fun _ _ f => f)) hx (by omega) (by omega) (by omega) (Or.inl rfl) (by omega) (by omega) (by rw [Nat.pow_zero, Nat.mul_one]; exact hbT) (Or.inl (by omega)) ((hg.frame f (fun _ h => h.elim)).frame f' (fun _ h => h.elim))
    rw [Nat.pow_zero, Nat.mul_one, Nat.div_one, Nat.mod_one, if_pos rfl, Nat.add_zero, sgn_get] at this
    exact this
  have DB := Lib.hid (fun w => dBig_any w1.heap.size w)
  have RU : Hid (∀ w, Calls Tryz.prog 35 #[] w fun e w' => e = .returned (.iface 131 RUP) ∧ w = w') := fun w => roundUp_any w
  have NT := Lib.hid (newInt_any 1024 (by omega) (by omega))
  have c1 : w3.cell? ⟨w.heap.size, 0, none⟩ = some (ptr p) := by
    have r : w1.heap[w.heap.size]? = some (.cells #[ptr p] 36 (0, 0)) := by rw [hw1]; exact heap_alloc_new _ _
    exact cell_of_row w3 w.heap.size 0 _ _ _ ((f3.block _ (by omega) (fun f => f)).trans r)
  have m1 : w3.drew.cell? ⟨w.heap.size, 0, none⟩ = some (ptr p) := c1
  obtain ⟨T, hTt⟩ : ∃ T, T = (strip 1024 N.natAbs).2 := ⟨_, rfl⟩
  obtain ⟨Y, hY⟩ : ∃ Y, Y = signed N (strip 1024 N.natAbs).1 := ⟨_, rfl⟩
  obtain ⟨hY0, hYb⟩ : Y ≠ 0 ∧ Y.natAbs ≤ N.natAbs := by
    obtain ⟨a1, a2, a3⟩ := strip_spec 1024 N.natAbs (by omega) (by omega)
    have e : Y.natAbs = (strip 1024 N.natAbs).1 := by rw [hY, natAbs_signed]
    have h4 : (strip 1024 N.natAbs).1 ≤ (strip 1024 N.natAbs).1 * 1024 ^ (strip 1024 N.natAbs).2 := Nat.le_mul_of_pos_right _ (Nat.pow_pos (by omega))
    exact ⟨by omega, by omega⟩
  have tb : Y.natAbs < W64 ^ 8 := by
    have h3 : TOP ≤ W64 ^ 8 := by unfold TOP W64; decide +kernel
    omega
  have hlen : (Lib.itoa Y).length ≤ 161 := itoa_len (k := 160) (Nat.lt_trans tb (by unfold W64; decide +kernel)) (by omega)
  have hsz6 : (tx (Lib.itoa Y)).size ≤ 161 := by rw [tx_size]; exact hlen
  obtain ⟨i0, hi, hz0, hz1, hz2⟩ := info5'
  have hS := Lib.hid (row_own hown)
  rw [← hTt, ← hY]
  have f0 := Lib.hid f
  replace hw1 := Lib.hid hw1
  replace hw3 := Lib.hid hw3
  replace s1 := Lib.hid s1
  replace hu := Lib.hid hu
  replace hb := Lib.hid hb
  replace hg := Lib.hid hg
  replace hown := Lib.hid hown
  have hBh := Lib.hid hB
  replace hTt := Lib.hid hTt
  replace hY := Lib.hid hY
  replace hY0 := Lib.hid hY0
  replace tb := Lib.hid tb
  replace f1 := Lib.hid f1
  replace f3 := Lib.hid f3
  clear hD hT hYb hbT hlen hB f
  unfold ptr at *
  go_enter Tryz.func271, Tryz.ntmps271
  go_wp2_with (first | rw [← hw1.out] | rw [← hw3.out])
  go_region_with (first
    | (go_at_call 35
       refine (RU.out _).mono ?_
       rintro e w' ⟨rfl, hw⟩
       subst hw)
    | (go_at_call 34
       refine (RND.out _ (Fr.drew _ _)).mono ?_
       rintro e w4 ⟨ot, rfl, g1, g2, g3⟩
       replace g1 := Lib.hid g1
       replace g2 := Lib.hid g2
       replace g3 := Lib.hid g3))
  all_goals
    have hIm : Hid (Im w w4 w1.heap.size N) := by
      refine ⟨ot, g1.out.int, ?_, by have := s1.out; omega, ?_⟩
      · refine (f0.out.trans (Fr.drew _ _) (fun _ _ h => h)).trans g2.out (fun i hi e => ?_)
        rcases e with e | e
        · have := s1.out; omega
        · cases e
      · intro k hk
        rcases g3.out with h | ⟨c, h, hc⟩
        · rw [h] at hk; cases hk
        · have hc : w3.heap.size ≤ c := hc
          have := f0.out.size
          rw [hk] at h; cases h; omega
    clear RND RU g1 g2 g3
    go_wp2_with fail
    refine (DB.out _).mono ?_
    rintro e w5 ⟨rfl, hw⟩
    subst hw
    try unfold ptr
    go_wp2_with fail
    refine (NT.out _).mono ?_
    rintro e w5 ⟨q, oq, rfl, i1, i2, i3, i4⟩
    have RM := Lib.hid (rmb_any w w5 w1.heap.size q N 1024 (im_two hIm.out i1 i2 i3 i4) hu.out hb.out (by omega) (by unfold W64; omega))
    clear i1 i2 i3 i4 hIm
    unfold ptr at *
    go_wp2_with fail
    refine RM.out.mono ?_
    rintro e w6 ⟨r, rfl, hR⟩
    rw [← hTt.out]
    rw [← hY.out] at hR
    have SG := Lib.hid (im_string hR hY0.out tb.out (hg.out.frame hR.fr (fun _ h => h.elim)))
    have F6 := hR.fr
    clear RM hR
    replace F6 := Lib.hid F6
    unfold ptr at *
    go_wp2_with fail
    refine SG.out.mono ?_
    rintro e w7 ⟨rfl, f7⟩
    have F7 := F6.out.trans f7 (fun _ _ h => h)
    have hown7 := ownsRow_fr hown.out F7
    have hB7 : B ≤ w7.heap.size := Nat.le_trans hBh.out F7.size
    replace F7 := Lib.hid F7
    clear f7 SG
    go_wp2_with (at_builtin; refine Lib.wpList_append_own_string _ rfl _ _ 96 9 rfl B 5 i0 Tryz.underlying96 Tryz.underlying9 hi hz0 hz1 hz2 _ _ _ rfl hown7 _ rfl (by unfold maxLen; omega) (by omega) hB7 ?_; rintro v2 w8 hrow hgw _; replace hrow := Lib.hid hrow; replace hgw := Lib.hid hgw)
    go_ret2
    refine ⟨v2, rfl, ?_, below_grown F7.out hgw.out hS.out hBh.out⟩
    have := hrow.out
    rw [tx_size] at this
    exact this
end Go.Proofs.YtcpjclakdpjjfaaGreatDoor

namespace Go.Proofs.YtcpjclakdpjjfaaGreatDoor
open Go.RowKit

set_option maxRecDepth 100000 in
set_option maxHeartbeats 2000000 in
theorem posScale_zero (u : Int) (w : World) : Calls Tryz.prog 272 #[.int .i64 u, .int .i32 0] w fun r w' => r = .returned (.tuple #[.int .i64 u, .bool true]) ∧ w = w' := by
  go_enter Tryz.func272, Tryz.ntmps272
  go_wp2_with fail
  go_ret2
  exact ⟨rfl, rfl⟩

set_option maxRecDepth 100000 in
set_option maxHeartbeats 2000000 in
theorem scaled_zero (u : Int) (w : World) : Calls Tryz.prog 270 #[.agg #[.int .i64 u, .int .i32 0], .int .i32 0] w fun r w' => r = .returned (.tuple #[.int .i64 u, .bool true]) ∧ Fr (fun _ => False) w w' := by
  obtain ⟨w1, hw1⟩ : ∃ w1, w1 = w.alloc (.cells #[.int .i64 u, .int .i32 0] 33) := ⟨_, rfl⟩
  obtain ⟨c0, c1, f1⟩ := amt_box w w1 u 0 hw1
  have PS := Lib.hid (posScale_zero u w1)
  replace hw1 := Lib.hid hw1
  go_enter Tryz.func270, Tryz.ntmps270
  go_wp2_with (rw [← hw1.out])
  refine PS.out.mono ?_
  rintro r w2 ⟨rfl, hw⟩
  subst hw
  go_wp2_with fail
  go_ret2
  exact ⟨rfl, f1⟩

theorem rmf_kib (u : Int) (hu : u ≠ 0) (v1 : -9223372036854775807 ≤ u) (v2 : u ≤ 9223372036854775807) (w : World) :
    Calls Tryz.prog 134 #[.int .i64 u, .int .i64 1024] w fun e w' => e = .returned (.tuple #[.int .i64 (signed u (strip 1024 u.natAbs).1), .int .i32 ((strip 1024 u.natAbs).2 : Int)]) ∧ w = w' := by
  rcases (show 0 < u ∨ u < 0 by omega) with h | h
  · obtain ⟨N, rfl⟩ : ∃ N : Nat, u = N := ⟨u.toNat, by omega⟩
    have := rmf_kib_pos N (by omega) (by omega) w
    unfold signed
    rw [if_neg (by omega), Int.natAbs_natCast]
    exact this
  · obtain ⟨N, rfl⟩ : ∃ N : Nat, u = -(N : Int) := ⟨(-u).toNat, by omega⟩
    have := rmf_kib_neg N (by omega) (by omega) w
    unfold signed
    rw [if_pos h, Int.natAbs_neg, Int.natAbs_natCast]
    exact this

set_option maxRecDepth 100000 in
set_option maxHeartbeats 2000000 in
theorem amt1024_any (u : Int) (w : World) (hu : u ≠ 0) (v1 : -9223372036854775807 ≤ u) (v2 : u ≤ 9223372036854775807)
    (B n : Nat) (v : Value) (xs : List Value) (hown : w.ownsRow B 5 1 v n xs) (hB : B ≤ w.heap.size) (hn : n ≤ 1000) (htab : Lib.TabBelow Tryz.prog B w "internal/strconv.uint64pow10" .u64 Lib.pow10Tab) :
    Calls Tryz.prog 268 #[.agg #[.int .i64 u, .int .i32 0], v] w (RowEnd w B n xs (Lib.itoa (signed u (strip 1024 u.natAbs).1)) ((strip 1024 u.natAbs).2 : Int)) := by
  obtain ⟨w1, hw1⟩ : ∃ w1, w1 = w.alloc (.cells #[.int .i64 u, .int .i32 0] 33) := ⟨_, rfl⟩
  obtain ⟨c0, c1, f1⟩ := amt_box w w1 u 0 hw1
  have SC := Lib.hid (scaled_zero u w1)
  have RM := Lib.hid (fun w => rmf_kib u hu v1 v2 w)
  obtain ⟨T, hT⟩ : ∃ T, T = (strip 1024 u.natAbs).2 := ⟨_, rfl⟩
  obtain ⟨Y, hY⟩ : ∃ Y, Y = signed u (strip 1024 u.natAbs).1 := ⟨_, rfl⟩
  have hYb : -9223372036854775808 ≤ Y ∧ Y ≤ 9223372036854775807 := by
    obtain ⟨a1, a2, a3⟩ := strip_spec 1024 u.natAbs (by omega) (by omega)
    have e : Y.natAbs = (strip 1024 u.natAbs).1 := by rw [hY, natAbs_signed]
    have h4 : (strip 1024 u.natAbs).1 ≤ (strip 1024 u.natAbs).1 * 1024 ^ (strip 1024 u.natAbs).2 := Nat.le_mul_of_pos_right _ (Nat.pow_pos (by omega))
    omega
  rw [← hT, ← hY] at RM ⊢
  have AI := Lib.hid (fun w' (f : Fr (fun _ => False) w w') => Tryz.strconv_AppendInt_10 B n Y hYb.1 hYb.2 v xs w' (ownsRow_fr hown f) (Nat.le_trans hB f.size) (by omega) (htab.on (below_of_fr f (fun _ h => h.elim) hB)))
  have hBh := Lib.hid hB
  replace hT := Lib.hid hT
  replace hY := Lib.hid hY
  replace f1 := Lib.hid f1
  replace hw1 := Lib.hid hw1
  clear hYb hu v1 v2 hown hB hn htab
  go_enter Tryz.func268, Tryz.ntmps268
  go_wp2_with (rw [← hw1.out])
  refine SC.out.mono ?_
  rintro r w2 ⟨rfl, f2⟩
  have F2 := Lib.hid (f1.out.trans f2 (fun _ _ h => h))
  clear f2 SC
  go_wp2_with fail
  refine (RM.out _).mono ?_
  rintro r w3 ⟨rfl, hw⟩
  subst hw
  go_wp2_with fail
  refine (AI.out _ F2.out).mono ?_
  rintro r w3 ⟨v2, rfl, hrow, hbel, _⟩
  replace hrow := Lib.hid hrow
  replace hbel := Lib.hid hbel
  go_wp2_with fail
  go_ret2
  exact ⟨v2, rfl, hrow.out, (below_of_fr F2.out (fun _ h => h.elim) hBh.out).trans hbel.out⟩
end Go.Proofs.YtcpjclakdpjjfaaGreatDoor

namespace Go.Proofs.YtcpjclakdpjjfaaGreatDoor
open Go.RowKit

theorem results_99 (tmps : Array Value) (w : World) (g : Nat) (t : TypeId) (x y : Value) (fr : Nat × Nat) (hp : tmps.getD 4 undef = .pointer (some ⟨g, 0, none⟩)) (hg : w.heap[g]? = some (.cells #[x, y] t fr)) :
    (results Tryz.f99 tmps).run Tryz.prog w = .ok (.tuple #[.agg #[x, y], tmps.getD 5 undef]) w := by
  have hp' : tmps[4]?.getD undef = .pointer (some ⟨g, 0, none⟩) := by simpa using hp
  have hl := run_loadVar_row w g t 33 #[x, y] fr _ hg Tryz.underlying33 rfl (by kernel_rfl)
  simp [results, hp', asAddr, hl]

set_option maxRecDepth 100000 in
set_option maxHeartbeats 2000000 in
theorem amtScale_zero (u : Int) (w : World) : Calls Tryz.prog 99 #[.agg #[.int .i64 u, .int .i32 0], .int .i32 0] w fun r w' => r = .returned (.tuple #[.agg #[.int .i64 u, .int .i32 0], .bool true]) ∧ Fr (fun _ => False) w w' := by
  obtain ⟨w1, hw1⟩ : ∃ w1, w1 = w.alloc (.cells #[.int .i64 u, .int .i32 0] 33) := ⟨_, rfl⟩
  obtain ⟨c0, c1, f1⟩ := amt_box w w1 u 0 hw1
  obtain ⟨w2, hw2⟩ : ∃ w2, w2 = w1.alloc (.cells #[.int .i64 0, .int .i32 0] 33) := ⟨_, rfl⟩
  have f2 : Fr (fun _ => False) w1 w2 := by rw [hw2]; exact Fr.alloc _ _ _
  have r2 : w2.heap[w1.heap.size]? = some (.cells #[.int .i64 0, .int .i32 0] 33 (0, 0)) := by rw [hw2]; exact heap_alloc_new _ _
  have d0 := cell_frame c0 f2 (fun f => f)
  have d1 := cell_frame c1 f2 (fun f => f)
  have k0 : w2.cell? ⟨w1.heap.size, 0, none⟩ = some (.int .i64 0) := cell_of_row w2 w1.heap.size 0 _ _ _ r2
  have k1 : w2.cell? ⟨w1.heap.size, 1, none⟩ = some (.int .i32 0) := cell_of_row w2 w1.heap.size 1 _ _ _ r2
  have z0 := frozen_of_row w2 w1.heap.size 0 _ _ r2
  have z1 := frozen_of_row w2 w1.heap.size 1 _ _ r2
  have r3 := Lib.hid (heap_setCell_same _ w1.heap.size 1 _ 33 (.int .i32 0) (heap_setCell_same w2 w1.heap.size 0 _ 33 (.int .i64 u) r2))
  have hl : w.heap.size < w1.heap.size := by rw [hw1]; simp
  replace hw1 := Lib.hid hw1
  replace hw2 := Lib.hid hw2
  replace r2 := Lib.hid r2
  replace hl := Lib.hid hl
  go_enter Tryz.func99, Tryz.ntmps99
  go_wp2_with (first | rw [← hw1.out] | rw [← hw2.out])
  refine bodyPost_ret (results_99 _ _ w1.heap.size 33 _ _ (0, 0) rfl r3.out) rfl ?_
  refine ⟨rfl, (f1.trans f2 (fun _ _ h => h)).trans (((Fr.setCell (S := fun k => k = w1.heap.size) w2 ⟨w1.heap.size, 0, none⟩ _ (fun _ => rfl))).trans (Fr.setCell (S := fun k => k = w1.heap.size) _ ⟨w1.heap.size, 1, none⟩ _ (fun _ => rfl)) (fun _ _ h => h)) (fun i hi e => ?_)⟩
  have e : i = w1.heap.size := e
  have := hl.out
  omega
end Go.Proofs.YtcpjclakdpjjfaaGreatDoor

namespace Go.Proofs.YtcpjclakdpjjfaaGreatDoor
open Go.RowKit

set_option maxRecDepth 100000 in
set_option maxHeartbeats 2000000 in
theorem asScale_nb (b : Nat) (q : MQ) (o : Option Nat) (w : World) (_hq : QR w q o none) (he : q.e = 0) (h : w.heap[b]? = some (.cells (qrep q none) 39 (0, 0))) :
    Calls Tryz.prog 70 #[ptr b, .int .i32 0] w fun r w' => r = .returned (.tuple #[.iface 33 (.agg #[.int .i64 q.u, .int .i32 0]), .bool true]) ∧ Fr (fun _ => False) w w' := by
  have c0 : w.cell? ⟨b, 0, none⟩ = some (.int .i64 q.u) := cell_of_row w b 0 _ _ _ h
  have c1 : w.cell? ⟨b, 1, none⟩ = some (.int .i32 q.e) := cell_of_row w b 1 _ _ _ h
  have c2 : w.cell? ⟨b, 2, none⟩ = some (.pointer none) := cell_of_row w b 2 _ _ _ h
  rw [he] at c1
  have A := Lib.hid (amtScale_zero q.u w)
  replace he := Lib.hid he
  clear h
  unfold ptr at *
  go_enter Tryz.func70, Tryz.ntmps70
  go_wp2_with fail
  refine A.out.mono ?_
  rintro r w1 ⟨rfl, g⟩
  go_wp2_with fail
  go_ret2
  exact ⟨rfl, g⟩

/-- What AsScale 0 of a slow quantity comes to. -/
def AsScaleEnd (w : World) (u : Int) (b : Nat) (r : Ending) (w' : World) : Prop := ∃ t ot, r = .returned (.tuple #[.iface 36 (.agg #[ptr t]), .bool (decide (u.natAbs % 10 ^ b = 0))]) ∧ DecAt w' t (wholeQ u b) 0 ot ∧ Fr (fun _ => False) w w' ∧ w.heap.size ≤ t ∧ (∀ k, ot = some k → w.heap.size ≤ k)

set_option maxRecDepth 100000 in
set_option maxHeartbeats 2000000 in
theorem asScale_big (b p : Nat) (q : MQ) (o : Option Nat) (w : World) (hq : QR w q o (some p)) (e1 : -9 ≤ q.e) (e2 : q.e ≤ 0) (hb : q.u.natAbs < TOP) (h : w.heap[b]? = some (.cells (qrep q (some p)) 39 (0, 0))) (hg : Gk w) (hsz : 17 ≤ w.heap.size) :
    Calls Tryz.prog 70 #[ptr b, .int .i32 0] w (AsScaleEnd w q.u (-q.e).toNat) := by
  have c2 : w.cell? ⟨b, 2, none⟩ = some (ptr p) := cell_of_row w b 2 _ _ _ h
  have A := Lib.hid (decScale_any p q.u q.e o w hq.2 hb e1 e2 hg hsz)
  clear h hg hsz hb e1 e2 hq
  unfold ptr at *
  go_enter Tryz.func70, Tryz.ntmps70
  go_wp2_with fail
  refine A.out.mono ?_
  rintro r w1 ⟨t, ot, rfl, g1, g2, g3, g4⟩
  replace g1 := Lib.hid g1
  replace g2 := Lib.hid g2
  replace g3 := Lib.hid g3
  replace g4 := Lib.hid g4
  try unfold ptr
  go_wp2_with fail
  go_ret2
  exact ⟨t, ot, rfl, g1.out, g2.out, g3.out, g4.out⟩

theorem method_kib36 (v : Value) (w : World) : (method 140 36 (.agg #[v]) "AsCanonicalBase1024Bytes").run Tryz.prog w = .ok (271, .agg #[v]) w := by kernel_rfl
theorem method_kib33 (v u : Value) (w : World) : (method 140 33 (.agg #[v, u]) "AsCanonicalBase1024Bytes").run Tryz.prog w = .ok (268, .agg #[v, u]) w := by kernel_rfl
end Go.Proofs.YtcpjclakdpjjfaaGreatDoor

namespace Go.Proofs.YtcpjclakdpjjfaaGreatDoor
open Go.RowKit

set_option maxRecDepth 100000 in
set_option maxHeartbeats 1000000 in
theorem lcons_some (p o b1 b2 b3 i : Nat) (S : STab) (Q2 Q3 : List ((Int × Int) × Value)) (v : Value) (k1 k2 : Int) (w : World) (h : LsAt w p o b1 b2 b3 S Q2 Q3) (hl : lk (k1, k2) Q3 0 = some (i, v)) :
    Calls Tryz.prog 283 #[.pointer (some ⟨p, o, none⟩), .int .i32 k1, .int .i32 k2] w fun e w' => e = .returned (.tuple #[v, .bool true]) ∧ w = w' := by
  have c2 := h.c2
  have m3 := h.m3
  have hz := zero96 w
  go_enter Tryz.func283, Tryz.ntmps283
  go_wp2_with (first | (at_lookup; refine wpList_look w rfl _ _ 104 true rfl 111 96 fit111 Tryz.underlying104 hz b3 Q3 rfl m3 (k1, k2) rfl (.tuple #[v, .bool true]) (by rw [hl]; rfl) ?_) | fail)
  go_ret2
  exact ⟨rfl, rfl⟩

set_option maxRecDepth 100000 in
set_option maxHeartbeats 1000000 in
theorem scons_si (p o i : Nat) (F : ByteArray) (hF : (o = 0 ∧ F = fmtT 2) ∨ (o = 3 ∧ F = fmtT 1)) (b1 b2 b3 : Nat) (S : STab) (Q2 Q3 : List ((Int × Int) × Value)) (v : Value) (k1 k2 : Int) (w : World) (h : LsAt w p o b1 b2 b3 S Q2 Q3) (hl : lk (k1, k2) Q3 0 = some (i, v)) :
    Calls Tryz.prog 281 #[.pointer (some ⟨p, 0, none⟩), .int .i32 k1, .int .i32 k2, .string F] w fun e w' => e = .returned (.tuple #[v, .bool true]) ∧ w = w' := by
  have L := Lib.hid (lcons_some p o b1 b2 b3 i S Q2 Q3 v k1 k2 w h hl)
  clear h hl
  rcases hF with ⟨rfl, rfl⟩ | ⟨rfl, rfl⟩
  · unfold fmtT
    go_enter Tryz.func281, Tryz.ntmps281
    go_wp2_with fail
    refine L.out.mono ?_
    rintro r w1 ⟨rfl, hw⟩
    subst hw
    go_wp2_with fail
    go_ret2
    exact ⟨rfl, rfl⟩
  · unfold fmtT
    go_enter Tryz.func281, Tryz.ntmps281
    go_wp2_with fail
    refine L.out.mono ?_
    rintro r w1 ⟨rfl, hw⟩
    subst hw
    go_wp2_with fail
    go_ret2
    exact ⟨rfl, rfl⟩
end Go.Proofs.YtcpjclakdpjjfaaGreatDoor

namespace Go.Proofs.YtcpjclakdpjjfaaGreatDoor
open Go.RowKit

set_option maxRecDepth 100000 in
set_option maxHeartbeats 1000000 in
theorem scons_exp0 (p : Nat) (w : World) :
    Calls Tryz.prog 281 #[.pointer (some ⟨p, 0, none⟩), .int .i32 10, .int .i32 0, .string (fmtT 0)] w fun e w' => e = .returned (.tuple #[.slice none 0 0, .bool true]) ∧ w = w' := by
  unfold fmtT
  go_enter Tryz.func281, Tryz.ntmps281
  go_wp2_with fail
  go_ret2
  exact ⟨rfl, rfl⟩
end Go.Proofs.YtcpjclakdpjjfaaGreatDoor

namespace Go.Proofs.YtcpjclakdpjjfaaGreatDoor
open Go.RowKit Go.Lib

/-- append(buf[o:o+n], s...) where there is room: at any offset of the block. -/
theorem run_append_room_off {P : Program} (w : World) (t u ty e : TypeId) (i : TypeInfo) (ht : P.underlying t = some (.slice e)) (hu : P.underlying u = some .string) (hi : P.info? e = some i) (hs1 : i.size = 1)
    (g o sLen sCap : Nat) (cur : Array Value) (hg : w.heap[g]? = some (.cells cur e (0, 0))) (s : ByteArray)
    (hroom : sLen + s.size ≤ sCap) (hfit : o + sLen + s.size ≤ cur.size) :
    (Builtin.append_ #[t, u] ty #[.slice (some ⟨g, o, none⟩) sLen sCap, .string s]).run P w =
      .ok (.slice (some ⟨g, o, none⟩) (sLen + s.size) sCap) (w.setRow g (cur.toList.take (o + sLen) ++ strCells s ++ cur.toList.drop (o + sLen + s.size)).toArray) := by
  have hf := run_firstCells_string (P := P) w 1 s
  have hst := run_storeCells_at P g (o + sLen) e (strCells s) 0 cur w hg (by simpa [strCells_length] using hfit) (strCells_oneCell s)
  simp only [Nat.add_zero, strCells_length] at hst
  simp [Builtin.append_, run_underlying ht, run_underlying hu, sizeOf, typeInfo, hi, hs1, Builtin.lenOf, hroom, hf, Addr.add]
  have e1 : (if sLen = 0 then ({ block := g, off := o } : Addr) else { block := g, off := o + sLen }) = { block := g, off := o + sLen } := by
    split
    · rename_i h; subst h; rfl
    · rfl
  rw [e1, hst, ← List.append_assoc]
  rfl
end Go.Proofs.YtcpjclakdpjjfaaGreatDoor

namespace Go.Proofs.YtcpjclakdpjjfaaGreatDoor
open Go.RowKit Go.Lib

theorem wpList_append_room_off {P : Program} (w : World) {ops : Array Oper} {rest : List Oper} {o : Oper} {a : Act} {Q : Exit → Act → World → Prop} (hgd : o.guard = none) (sl x : Operand) (t u : TypeId)
    (ho : o.op = .call { callee := .builtin .append, args := #[sl, x], argTypes := #[t, u] })
    (e : TypeId) (i : TypeInfo) (ht : P.underlying t = some (.slice e)) (hu : P.underlying u = some .string) (hi : P.info? e = some i) (hs1 : i.size = 1)
    (g off sLen sCap : Nat) (cur : Array Value) (hs : a.eval sl = .slice (some ⟨g, off, none⟩) sLen sCap) (hg : w.heap[g]? = some (.cells cur e (0, 0))) (s : ByteArray) (hx : a.eval x = .string s)
    (hroom : sLen + s.size ≤ sCap) (hfit : off + sLen + s.size ≤ cur.size)
    (h : wpList P ops Q rest (a.put o.dst (.slice (some ⟨g, off, none⟩) (sLen + s.size) sCap)) (w.setRow g (cur.toList.take (off + sLen) ++ strCells s ++ cur.toList.drop (off + sLen + s.size)).toArray)) : wpList P ops Q (o :: rest) a w := by
  refine wpList_plain hgd fun K hK => ?_
  have hr := run_append_room_off (P := P) w t u o.type e i ht hu hi hs1 g off sLen sCap cur hg s hroom hfit
  unfold Oper.wp execOp
  simp only [ho, resolve, invoke, builtin, Sem.run_bind, Sem.run_pure, Result.andThen_ok, List.map_toArray, List.map_cons, List.map_nil, hs, hx, hr]
  exact hK _ _ h
end Go.Proofs.YtcpjclakdpjjfaaGreatDoor

namespace Go.Proofs.YtcpjclakdpjjfaaGreatDoor
open Go.RowKit Go.Lib

set_option maxRecDepth 100000 in
set_option maxHeartbeats 1000000 in
theorem appUint_small (m g off n cap : Nat) (hm : m < 100) (cur : Array Value) (w : World) (hg : w.heap[g]? = some (.cells cur 5 (0, 0))) (hroom : n + (decDigits m).length ≤ cap) (hfit : off + n + (decDigits m).length ≤ cur.size) :
    Calls Tryz.prog 176 #[.slice (some ⟨g, off, none⟩) n cap, .int .u64 (m : Int), .int .i64 10] w fun e w' => e = .returned (.slice (some ⟨g, off, none⟩) (n + (decDigits m).length) cap) ∧
      w' = w.setRow g (cur.toList.take (off + n) ++ byteCells (decDigits m) ++ cur.toList.drop (off + n + (decDigits m).length)).toArray := by
  have SM := Lib.hid (Tryz.internal_strconv_small m hm w)
  obtain ⟨i0, hi, hz0, hz1, hz2⟩ := info5'
  have hs : (⟨(decDigits m).toArray⟩ : ByteArray).size = (decDigits m).length := by simp [ByteArray.size]
  have q : (m : Int) < 100 := by omega
  obtain ⟨S, hS⟩ : ∃ S : ByteArray, S = ⟨(decDigits m).toArray⟩ := ⟨_, rfl⟩
  rw [← hS] at SM hs
  have hc : byteCells (decDigits m) = strCells S := by rw [hS]; rfl
  rw [← hs] at hroom hfit ⊢
  rw [hc]
  replace hS := Lib.hid hS
  replace hc := Lib.hid hc
  replace hs := Lib.hid hs
  go_enter Tryz.func176, Tryz.ntmps176
  go_wp2_with fail
  refine SM.out.mono ?_
  rintro r w1 ⟨rfl, rfl⟩
  go_wp2_with (at_builtin; refine wpList_append_room_off _ rfl _ _ 96 9 rfl 5 i0 Tryz.underlying96 Tryz.underlying9 hi hz1 g off n cap cur rfl hg S rfl hroom hfit ?_)
  go_ret
  exact ⟨rfl, by rw [List.append_assoc]⟩
end Go.Proofs.YtcpjclakdpjjfaaGreatDoor


/-
  A part of the proof of FnQuantityAgain (texts E2, E3, E4 of mine, joined).
-/
import Derived.Test.YtcpjclakdpjjfaaGreatDoorM25
namespace Go.Proofs.YtcpjclakdpjjfaaGreatDoor
open Go.RowKit

/-- The rounder that rounds up. -/
def RUP : Value := .agg #[.bool true, .func (.func 61) #[] #[]]

theorem roundUp_any (w : World) : Calls Tryz.prog 35 #[] w fun e w' => e = .returned (.iface 131 RUP) ∧ w = w' := by
  go_enter Tryz.func35, Tryz.ntmps35
  go_wp2_with fail
  go_ret
  exact ⟨rfl, rfl⟩
theorem sclr_any (s : Int) (x y : Value) (w : World) : Calls Tryz.prog 296 #[.agg #[.int .i32 s], x, y] w fun e w' => e = .returned (.int .i32 s) ∧ Fr (fun _ => False) w w' := by
  go_enter Tryz.func296, Tryz.ntmps296
  go_wp2_with fail
  go_ret
  exact ⟨rfl, Fr.alloc _ _ _⟩
theorem useRem_any (w : World) : Calls Tryz.prog 291 #[RUP] w fun e w' => e = .returned (.bool true) ∧ Fr (fun _ => False) w w' := by
  unfold RUP
  go_enter Tryz.func291, Tryz.ntmps291
  go_wp2_with fail
  go_ret
  exact ⟨rfl, Fr.alloc _ _ _⟩
set_option maxHeartbeats 1000000 in
theorem intSign_any (w : World) : Calls Tryz.prog 63 #[.int .i64 2] w (IntNew w 1) := by
  have A := Lib.hid (newInt_any (-1) (by omega) (by omega) w)
  have B := Lib.hid (newInt_any 0 (by omega) (by omega))
  have C := Lib.hid (newInt_any 1 (by omega) (by omega))
  go_enter Tryz.func63, Tryz.ntmps63
  go_wp2_with fail
  refine A.out.mono ?_
  rintro r w1 ⟨p1, o1, rfl, g1, f1, l1, q1⟩
  replace g1 := Lib.hid g1
  replace f1 := Lib.hid f1
  replace q1 := Lib.hid q1
  go_wp2_with fail
  refine (B.out w1).mono ?_
  rintro r w2 ⟨p2, o2, rfl, g2, f2, l2, q2⟩
  replace g2 := Lib.hid g2
  replace f2 := Lib.hid f2
  replace q2 := Lib.hid q2
  go_wp2_with fail
  refine (C.out w2).mono ?_
  rintro r w3 ⟨p3, o3, rfl, g3, f3, l3, q3⟩
  replace g3 := Lib.hid g3
  replace f3 := Lib.hid f3
  replace q3 := Lib.hid q3
  go_wp2_with fail
  go_ret
  have s1 := f1.out.size
  have s2 := f2.out.size
  have fa : Fr (fun _ => False) w3 (w3.alloc (.cells #[.pointer (some ⟨p1, 0, none⟩), .pointer (some ⟨p2, 0, none⟩), .pointer (some ⟨p3, 0, none⟩)] 78)) := Fr.alloc _ _ _
  refine ⟨p3, o3, rfl, g3.out.frame fa (fun f => f) (fun _ _ f => f), ((f1.out.trans f2.out (fun _ _ h => h)).trans f3.out (fun _ _ h => h)).trans fa (fun _ _ h => h), by omega, fun b hb => by have := q3.out b hb; omega⟩

set_option maxHeartbeats 1000000 in
theorem intSign_zero (w : World) : Calls Tryz.prog 63 #[.int .i64 0] w (IntNew w (-1)) := by
  have A := Lib.hid (newInt_any (-1) (by omega) (by omega) w)
  have B := Lib.hid (newInt_any 0 (by omega) (by omega))
  have C := Lib.hid (newInt_any 1 (by omega) (by omega))
  go_enter Tryz.func63, Tryz.ntmps63
  go_wp2_with fail
  refine A.out.mono ?_
  rintro r w1 ⟨p1, o1, rfl, g1, f1, l1, q1⟩
  replace g1 := Lib.hid g1
  replace f1 := Lib.hid f1
  replace q1 := Lib.hid q1
  go_wp2_with fail
  refine (B.out w1).mono ?_
  rintro r w2 ⟨p2, o2, rfl, g2, f2, l2, q2⟩
  replace g2 := Lib.hid g2
  replace f2 := Lib.hid f2
  replace q2 := Lib.hid q2
  go_wp2_with fail
  refine (C.out w2).mono ?_
  rintro r w3 ⟨p3, o3, rfl, g3, f3, l3, q3⟩
  replace g3 := Lib.hid g3
  replace f3 := Lib.hid f3
  replace q3 := Lib.hid q3
  go_wp2_with fail
  go_ret
  have s1 := f1.out.size
  have s2 := f2.out.size
  have fa : Fr (fun _ => False) w3 (w3.alloc (.cells #[.pointer (some ⟨p1, 0, none⟩), .pointer (some ⟨p2, 0, none⟩), .pointer (some ⟨p3, 0, none⟩)] 78)) := Fr.alloc _ _ _
  refine ⟨p1, o1, rfl, ((g1.out.frame f2.out (fun f => f) (fun _ _ f => f)).frame f3.out (fun f => f) (fun _ _ f => f)).frame fa (fun f => f) (fun _ _ f => f), ((f1.out.trans f2.out (fun _ _ h => h)).trans f3.out (fun _ _ h => h)).trans fa (fun _ _ h => h), by omega, fun b hb => by have := q1.out b hb; omega⟩

theorem sgn_sign (g : Bool) (n : Nat) : (sgn g n).sign = if n = 0 then 0 else if g then -1 else 1 := by
  by_cases h : n = 0
  · rw [if_pos h, h]; cases g <;> rfl
  · rw [if_neg h]
    cases g with
    | false => exact Int.sign_eq_one_of_pos (by show (0:Int) < (n : Int); omega)
    | true => show (-(n : Int)).sign = -1; rw [Int.sign_neg, Int.sign_eq_one_of_pos (by omega)]

theorem sign_nat (n : Nat) : ((n : Nat) : Int).sign = if n = 0 then 0 else 1 := by
  split
  · rename_i h; rw [h]; rfl
  · exact Int.sign_eq_one_of_pos (by omega)

set_option maxHeartbeats 2000000 in
theorem round61_any (pz pq pn pd q r d : Nat) (g : Bool) (s : Int) (oq on od : Option Nat) (w : World) (hz : DecAt w pz 0 0 none) (hq : DecAt w pq (sgn g q) s oq) (hn : IntAt w pn (sgn g r) on) (hd : IntAt w pd ((d : Nat) : Int) od)
    (nzq : pz ≠ pq) (nzn : pz ≠ pn) (nzd : pz ≠ pd) (nqz : oq ≠ some pz) (nnz : on ≠ some pz) (ndz : od ≠ some pz) (bq : q < W64 ^ 30) (hd0 : 0 < d) :
    Calls Tryz.prog 61 #[ptr pz, ptr pq, ptr pn, ptr pd] w (DecOp w pz none (ptr pz) (sgn g (q + (if r = 0 then 0 else 1))) s) := by
  have A := Lib.hid (dSet_any pz pq 0 (sgn g q) 0 s none oq w hz hq nzq (by simp) (fun b _ => by simp) nqz (by rw [sgn_natAbs]; exact Nat.lt_of_lt_of_le bq (Nat.pow_le_pow_right W64_pos (by omega))))
  have Db := Lib.hid dBig_any
  have Is : Hid (∀ w, Calls Tryz.prog 63 #[.int .i64 (if g then 0 else 2)] w (IntNew w (sgn g 1))) := by
    intro w; cases g with
    | false => exact intSign_any w
    | true => exact intSign_zero w
  replace hz := Lib.hid hz
  replace hq := Lib.hid hq
  replace hn := Lib.hid hn
  replace hd := Lib.hid hd
  replace bq := Lib.hid bq
  have S1 : Hid (∀ w1, Fr (fun k => k = pz ∨ (none : Option Nat) = some k) w w1 → Calls Tryz.prog 55 #[.pointer (some ⟨pn, 0, none⟩)] w1 fun e w' => e = .returned (.int .i64 (if r = 0 then 0 else if g then -1 else 1)) ∧ w1 = w') := by
    intro w1 f
    obtain ⟨gg, v, n', C, en⟩ := (hn.out.frame f (fun e => by rcases e with e | e; exact nzn e.symm; cases e) (fun b hb e => by rcases e with e | e; exact nnz (e ▸ hb); cases e))
    have := sign_any pn gg v on n' w1 C
    rw [← en] at this
    rwa [show (sgn g r).sign = (if r = 0 then 0 else if g then -1 else 1 : Int) from sgn_sign g r] at this
  have S2 : Hid (∀ w1, Fr (fun k => k = pz ∨ (none : Option Nat) = some k) w w1 → Calls Tryz.prog 55 #[.pointer (some ⟨pd, 0, none⟩)] w1 fun e w' => e = .returned (.int .i64 1) ∧ w1 = w') := by
    intro w1 f
    obtain ⟨v, C⟩ := (hd.out.frame f (fun e => by rcases e with e | e; exact nzd e.symm; cases e) (fun b hb e => by rcases e with e | e; exact ndz (e ▸ hb); cases e)).nat
    have := sign_any pd false v od d w1 C
    rwa [show (sgn false d).sign = (1 : Int) by rw [show (sgn false d).sign = (if d = 0 then 0 else 1 : Int) from sign_nat d, if_neg (by omega)]] at this
  have hpl := Lib.hid hz.out.int.lt
  by_cases h0 : r = 0
  · rw [if_pos h0] at S1 ⊢
    rw [Nat.add_zero]
    obtain ⟨Z, hZ⟩ : ∃ Z, Z = sgn g q := ⟨_, rfl⟩
    rw [← hZ] at A hq ⊢
    replace hZ := Lib.hid hZ
    unfold ptr at *
    go_enter Tryz.func61, Tryz.ntmps61
    go_wp2_with fail
    refine A.out.mono ?_
    rintro e w1 ⟨ob, rfl, g1, g2, g3⟩
    have S1' := Lib.hid (S1.out w1 g2)
    replace g1 := Lib.hid g1
    replace g2 := Lib.hid g2
    replace g3 := Lib.hid g3
    clear S1 S2 A
    try unfold ptr at *
    go_wp2_with fail
    refine S1'.out.mono ?_
    rintro e w2 ⟨rfl, rfl⟩
    go_wp2_with fail
    go_ret
    exact ⟨ob, rfl, g1.out, g2.out, g3.out⟩
  · rw [if_neg h0] at S1 ⊢
    replace h0 := Lib.hid h0
    obtain ⟨Z1, hZ1⟩ : ∃ Z, Z = sgn g (q + 1) := ⟨_, rfl⟩
    obtain ⟨Z, hZ⟩ : ∃ Z, Z = sgn g q := ⟨_, rfl⟩
    rw [← hZ1]
    rw [← hZ] at A hq
    replace hZ1 := Lib.hid hZ1
    replace hZ := Lib.hid hZ
    cases g
    all_goals
      simp only [if_true, Bool.false_eq_true, if_false] at S1 Is
      unfold ptr at *
      go_enter Tryz.func61, Tryz.ntmps61
      go_wp2_with fail
      refine A.out.mono ?_
      rintro e w1 ⟨ob, rfl, g1, g2, g3⟩
      have S1' := Lib.hid (S1.out w1 g2)
      have S2' := Lib.hid (S2.out w1 g2)
      replace g1 := Lib.hid g1
      replace g2 := Lib.hid g2
      replace g3 := Lib.hid g3
      clear S1 S2 A
      try unfold ptr at *
      go_wp2_with fail
      refine S1'.out.mono ?_
      rintro e w2 ⟨rfl, rfl⟩
      go_wp2_with fail
      refine (Db.out _ _).mono ?_
      rintro e w2 ⟨rfl, rfl⟩
      try unfold ptr at *
      go_wp2_with fail
      refine (Db.out _ _).mono ?_
      rintro e w2 ⟨rfl, rfl⟩
      try unfold ptr at *
      go_wp2_with fail
      refine S1'.out.mono ?_
      rintro e w2 ⟨rfl, rfl⟩
      go_wp2_with fail
      refine S2'.out.mono ?_
      rintro e w2 ⟨rfl, rfl⟩
      go_wp2_with fail
      refine (Is.out _).mono ?_
      rintro e w2 ⟨p2, o2, rfl, i1, i2, i3, i4⟩
      have Ad : Hid (Calls Tryz.prog 62 #[.pointer (some ⟨pz, 0, none⟩), .pointer (some ⟨pz, 0, none⟩), .pointer (some ⟨p2, 0, none⟩)] w2 (IntOp w2 pz ob (ptr pz) Z1)) := by
        obtain ⟨gz, vz, nz, Cz, ez⟩ := g1.out.int.frame i2 (fun f => f) (fun _ _ f => f)
        obtain ⟨gy, vy, ny, Cy, ey⟩ := i1
        have enz : nz = q := by have := congrArg Int.natAbs ez; rw [hZ.out, sgn_natAbs, sgn_natAbs] at this; exact this.symm
        have eny : ny = 1 := by have := congrArg Int.natAbs ey; rw [sgn_natAbs, sgn_natAbs] at this; exact this.symm
        subst enz
        subst eny
        have := iadd_any pz pz p2 gz gz gy vz vz vy ob ob o2 nz nz 1 w2 Cz Cz Cy bq.out (by unfold W64; decide +kernel) (by
          intro hne
          refine ⟨?_, by unfold W64; omega⟩
          have e3 := hZ.out
          rw [ez] at e3
          have e4 := ey
          cases gz <;> cases gy <;> simp [sgn] at e3 e4 hne <;> omega)
        have e5 : sgn gz nz + sgn gy 1 = Z1 := by rw [← ez, ← ey, hZ.out, hZ1.out]; simp [sgn] <;> omega
        rw [e5] at this
        exact this
      have c2 := Lib.hid (cell_frame g1.out.c2 i2 (fun f => f))
      replace i1 := Lib.hid i1
      replace i2 := Lib.hid i2
      replace i4 := Lib.hid i4
      clear S1' S2'
      try unfold ptr at *
      go_wp2_with fail
      refine Ad.out.mono ?_
      rintro e w3 ⟨o3, rfl, k1, k2, k3, k4⟩
      have c3 := Lib.hid (Eq.trans k4 c2.out)
      replace k1 := Lib.hid k1
      replace k2 := Lib.hid k2
      replace k3 := Lib.hid k3
      replace k4 := Lib.hid k4
      try unfold ptr at *
      go_wp2_with fail
      go_ret
      have s1 := g2.out.size
      have s2 := i2.out.size
      have hfr : ∀ b, ob = some b → w.heap.size ≤ b := by
        intro b hb
        rcases g3.out with e | ⟨b', e, hl⟩
        · rw [e] at hb; cases hb
        · rw [hb] at e; cases e; exact hl
      refine ⟨o3, rfl, ⟨k1.out, c3.out⟩, (g2.out.trans i2.out (fun _ _ h => h.elim)).trans k2.out ?_, ?_⟩
      · intro k hk e
        rcases e with e | e
        · exact Or.inl e
        · have := hfr k e; omega
      · rcases k3.out with e | ⟨b, e, hl⟩
        · rw [e]; exact g3.out
        · exact Or.inr ⟨b, e, by omega⟩
end Go.Proofs.YtcpjclakdpjjfaaGreatDoor

namespace Go.Proofs.YtcpjclakdpjjfaaGreatDoor
open Go.RowKit

theorem method_scale (v : Value) (w : World) : (method 477 181 (.agg #[v]) "Scale").run Tryz.prog w = .ok (296, .agg #[v]) w := by kernel_rfl
theorem method_useRem (w : World) : (method 477 131 RUP "UseRemainder").run Tryz.prog w = .ok (291, RUP) w := by kernel_rfl
theorem method_round (w : World) : (method 477 131 RUP "Round").run Tryz.prog w = .ok (290, RUP) w := by kernel_rfl

set_option maxHeartbeats 1000000 in
theorem rndr_any (pz pq pn pd q r d : Nat) (g : Bool) (s : Int) (oq on od : Option Nat) (w : World) (hz : DecAt w pz 0 0 none) (hq : DecAt w pq (sgn g q) s oq) (hn : IntAt w pn (sgn g r) on) (hd : IntAt w pd ((d : Nat) : Int) od)
    (nzq : pz ≠ pq) (nzn : pz ≠ pn) (nzd : pz ≠ pd) (nqz : oq ≠ some pz) (nnz : on ≠ some pz) (ndz : od ≠ some pz) (bq : q < W64 ^ 30) (hd0 : 0 < d) :
    Calls Tryz.prog 290 #[RUP, ptr pz, ptr pq, ptr pn, ptr pd] w (DecOp w pz none (ptr pz) (sgn g (q + (if r = 0 then 0 else 1))) s) := by
  have fa : Fr (fun _ => False) w (w.alloc (.cells #[.bool true, .func (.func 61) #[] #[]] 131)) := Fr.alloc _ _ _
  have R := Lib.hid (round61_any pz pq pn pd q r d g s oq on od (w.alloc (.cells #[.bool true, .func (.func 61) #[] #[]] 131)) (hz.frame fa (fun f => f) (fun _ _ f => f)) (hq.frame fa (fun f => f) (fun _ _ f => f)) (hn.frame fa (fun f => f) (fun _ _ f => f)) (hd.frame fa (fun f => f) (fun _ _ f => f)) nzq nzn nzd nqz nnz ndz bq hd0)
  have hpl := Lib.hid hz.int.lt
  obtain ⟨N, hN⟩ : ∃ N, N = sgn g (q + (if r = 0 then 0 else 1)) := ⟨_, rfl⟩
  rw [← hN] at R ⊢
  replace hN := Lib.hid hN
  replace fa := Lib.hid fa
  clear hz hq hn hd bq
  unfold ptr RUP at *
  go_enter Tryz.func290, Tryz.ntmps290
  go_wp2_with fail
  refine R.out.mono ?_
  rintro e w1 ⟨ob, rfl, g1, g2, g3⟩
  replace g1 := Lib.hid g1
  replace g2 := Lib.hid g2
  replace g3 := Lib.hid g3
  try unfold ptr at *
  go_wp2_with fail
  go_ret
  refine ⟨ob, rfl, g1.out, fa.out.none.trans g2.out (fun _ _ h => h), ?_⟩
  have s := fa.out.size
  rcases g3.out with e | ⟨b, e, hl⟩
  · exact Or.inl e
  · exact Or.inr ⟨b, e, by omega⟩

set_option maxHeartbeats 4000000 in
theorem dQuo_any (p px py u : Nat) (g : Bool) (s zp ep e : Int) (a b : Nat) (op ox oy : Option Nat) (w : World) (hp : DecAt w p zp ep op) (hx : DecAt w px (sgn g u) e ox) (hy : DecAt w py 1 0 oy)
    (hs1 : 0 ≤ s) (hs2 : s ≤ 9) (hab : s + (b : Int) = e + (a : Int)) (h0 : a = 0 ∨ b = 0) (ha : a ≤ 165) (hb : b ≤ 130) (hX : u * 10 ^ a < W64 ^ 30) (hk : b ≤ 57 ∨ u < 10 ^ b) (hg : Gk w) :
    Calls Tryz.prog 94 #[ptr p, ptr px, ptr py, .iface 181 (.agg #[.int .i32 s]), .iface 131 RUP] w (DecOp w p op (ptr p) (sgn g (u * 10 ^ a / 10 ^ b + (if u * 10 ^ a % 10 ^ b = 0 then 0 else 1))) s) := by
  have S1 := Lib.hid (sclr_any s (ptr px) (ptr py) w)
  have S2 := Lib.hid useRem_any
  have hz0 : 17 ≤ w.heap.size := by have h := World.block_lt_of_cell? w _ hg.g16; have h' : 16 < w.heap.size := h; omega
  have m1 := method_scale
  have m2 := method_useRem
  have m3 := method_round
  have Q : Hid (∀ w1 w4, Fr (fun _ => False) w w1 → w4 = ((w1.alloc (.cells #[.bool false, .slice none 0 0, .int .i32 0] 73)).alloc (.cells #[.bool false, .slice none 0 0] 70)).alloc (.cells #[.bool false, .slice none 0 0] 70) →
      Calls Tryz.prog 123 #[ptr w1.heap.size, ptr px, ptr py, .int .i32 s, .bool true, ptr (w1.heap.size + 1), ptr (w1.heap.size + 1 + 1)] w4 (DqEnd w4 g s w1.heap.size (w1.heap.size + 1) (w1.heap.size + 1 + 1) (u * 10 ^ a / 10 ^ b) (u * 10 ^ a % 10 ^ b) (10 ^ b)) ∧ Fr (fun _ => False) w1 w4 ∧ w4.heap.size = w1.heap.size + 3) := by
    intro w1 w4 f1 e4
    obtain ⟨w2, e2⟩ : ∃ w2, w2 = w1.alloc (.cells #[.bool false, .slice none 0 0, .int .i32 0] 73) := ⟨_, rfl⟩
    obtain ⟨w3, e3⟩ : ∃ w3, w3 = w2.alloc (.cells #[.bool false, .slice none 0 0] 70) := ⟨_, rfl⟩
    rw [← e2, ← e3] at e4
    have f2 : Fr (fun _ => False) w1 w2 := by rw [e2]; exact Fr.alloc _ _ _
    have f3 : Fr (fun _ => False) w2 w3 := by rw [e3]; exact Fr.alloc _ _ _
    have f4 : Fr (fun _ => False) w3 w4 := by rw [e4]; exact Fr.alloc _ _ _
    have l2 : w2.heap.size = w1.heap.size + 1 := by rw [e2]; simp
    have l3 : w3.heap.size = w2.heap.size + 1 := by rw [e3]; simp
    have l4 : w4.heap.size = w3.heap.size + 1 := by rw [e4]; simp
    have l1 := f1.size
    have f14 := (f2.trans f3 (fun _ _ h => h)).trans f4 (fun _ _ h => h)
    have f04 := f1.trans f14 (fun _ _ h => h)
    obtain ⟨b1, b2⟩ := IntC.boxed3 w1 73 (.int .i32 0)
    rw [← e2] at b1 b2
    have b3 := IntC.boxed w2 false (.slice none 0 0) none 0 70 ⟨rfl, rfl⟩ (by simp)
    rw [← e3] at b3
    have b4 := IntC.boxed w3 false (.slice none 0 0) none 0 70 ⟨rfl, rfl⟩ (by simp)
    rw [← e4] at b4
    have f34 := f3.trans f4 (fun _ _ h => h)
    have lx := hx.int.lt
    have ly := hy.int.lt
    rw [show w1.heap.size + 1 = w2.heap.size by omega, show w2.heap.size + 1 = w3.heap.size by omega]
    refine ⟨?_, f14, by omega⟩
    exact dQuoRem_any _ px py _ _ u g s e a b ox oy w4 (b1.frame f34 (fun f => f) (fun _ _ f => f)) (cell_frame b2 f34 (fun f => f)) (hx.frame f04 (fun f => f) (fun _ _ f => f)) (hy.frame f04 (fun f => f) (fun _ _ f => f))
      (b3.frame f4 (fun f => f) (fun _ _ f => f)) b4 (by omega) (by omega) (by omega) (by omega) (by omega) (by omega) (by omega) (by omega) hs1 hs2 hab h0 ha hb hX hk (hg.frame f04 (fun _ h => h.elim))
  have hq : u * 10 ^ a / 10 ^ b < W64 ^ 30 := Nat.lt_of_le_of_lt (Nat.div_le_self _ _) hX
  have hd0 : 0 < 10 ^ b := Nat.pow_pos (by omega)
  obtain ⟨q, hqe⟩ : ∃ q, q = u * 10 ^ a / 10 ^ b := ⟨_, rfl⟩
  obtain ⟨r, hre⟩ : ∃ r, r = u * 10 ^ a % 10 ^ b := ⟨_, rfl⟩
  obtain ⟨d, hde⟩ : ∃ d, d = 10 ^ b := ⟨_, rfl⟩
  rw [← hqe, ← hre] at Q ⊢
  rw [← hqe] at hq
  rw [← hde] at Q hd0
  obtain ⟨N, hN⟩ : ∃ N, N = sgn g (q + (if r = 0 then 0 else 1)) := ⟨_, rfl⟩
  have hNb : Hid (N.natAbs < W64 ^ 100) := by
    show _ < _
    rw [hN, sgn_natAbs]
    have h1 : q + (if r = 0 then 0 else 1) ≤ q + 1 := by split <;> omega
    have h2 : W64 ^ 30 < W64 ^ 100 := Nat.pow_lt_pow_right (by unfold W64; omega) (by omega)
    omega
  rw [← hN]
  replace hp := Lib.hid hp
  clear hx
  replace hq := Lib.hid hq
  clear hy hX hk hg hqe hre hde hab h0 ha hb hs1 hs2
  replace hN := Lib.hid hN
  unfold ptr at *
  go_enter Tryz.func94, Tryz.ntmps94
  go_wp2_with fail
  refine S1.out.mono ?_
  rintro e w1 ⟨rfl, f1⟩
  replace f1 := Lib.hid f1
  go_wp2_with fail
  refine (S2.out _).mono ?_
  rintro e w2 ⟨rfl, f2⟩
  replace f2 := Lib.hid f2
  go_wp2_with fail
  obtain ⟨Q1, Q2, Q3⟩ := Q.out w2 _ (f1.out.trans f2.out (fun _ _ h => h)) rfl
  replace Q1 := Lib.hid Q1
  replace Q2 := Lib.hid Q2
  replace Q3 := Lib.hid Q3
  clear Q
  obtain ⟨w4, hw4⟩ : ∃ w4, w4 = ((w2.alloc (.cells #[.bool false, .slice none 0 0, .int .i32 0] 73)).alloc (.cells #[.bool false, .slice none 0 0] 70)).alloc (.cells #[.bool false, .slice none 0 0] 70) := ⟨_, rfl⟩
  rw [← hw4] at Q1 Q2 Q3
  obtain ⟨pz, hpz⟩ : ∃ pz, pz = w2.heap.size := ⟨_, rfl⟩
  obtain ⟨pn, hpn⟩ : ∃ pn, pn = w2.heap.size + 1 := ⟨_, rfl⟩
  obtain ⟨pd, hpd⟩ : ∃ pd, pd = w2.heap.size + 1 + 1 := ⟨_, rfl⟩
  rw [← hpd, ← hpn, ← hpz] at Q1
  replace hw4 := Lib.hid hw4
  replace hpz := Lib.hid hpz
  replace hpn := Lib.hid hpn
  replace hpd := Lib.hid hpd
  rw [← hw4.out, ← hpd.out, ← hpn.out, ← hpz.out]
  refine Q1.out.mono ?_
  rintro e w5 ⟨o1, o2, o3, rfl, g1, g2, g3, g4⟩
  have fa : Fr (fun _ => False) w5 (w5.alloc (.cells #[.bool false, .slice none 0 0, .int .i32 0] 73)) := Fr.alloc _ _ _
  obtain ⟨b1, b2⟩ := IntC.boxed3 w5 73 (.int .i32 0)
  have l1 := g1.int.lt
  have l2 := g2.lt
  have l3 := g3.lt
  have R := rndr_any w5.heap.size pz pn pd q r d g s o1 o2 o3 (w5.alloc (.cells #[.bool false, .slice none 0 0, .int .i32 0] 73)) ⟨⟨_, _, _, b1, rfl⟩, b2⟩ (g1.frame fa (fun f => f) (fun _ _ f => f)) (g2.frame fa (fun f => f) (fun _ _ f => f)) (g3.frame fa (fun f => f) (fun _ _ f => f)) (by omega) (by omega) (by omega)
    (fun e => by subst e; have := g1.int.ob_lt; omega) (fun e => by subst e; have := g2.ob_lt; omega) (fun e => by subst e; have := g3.ob_lt; omega) hq.out hd0
  rw [← hN.out] at R
  obtain ⟨w6, hw6⟩ : ∃ w6, w6 = w5.alloc (.cells #[.bool false, .slice none 0 0, .int .i32 0] 73) := ⟨_, rfl⟩
  obtain ⟨pw, hpw⟩ : ∃ pw, pw = w5.heap.size := ⟨_, rfl⟩
  rw [← hw6, ← hpw] at R
  rw [← hw6] at fa
  replace R := Lib.hid R
  replace fa := Lib.hid fa
  replace hw6 := Lib.hid hw6
  replace hpw := Lib.hid hpw
  replace g1 := Lib.hid g1
  replace g2 := Lib.hid g2
  replace g3 := Lib.hid g3
  replace g4 := Lib.hid g4
  clear b1 b2 Q1
  try unfold ptr at *
  go_wp2_with fail
  rw [← hw6.out, ← hpw.out]
  refine R.out.mono ?_
  rintro e w7 ⟨o7, rfl, k1, k2, k3⟩
  -- where all stands
  have s1 := f1.out.size
  have s2 := f2.out.size
  have s3 := Q3.out
  have s4 := g4.out.size
  have s6 := fa.out.size
  have e6 : w6.heap.size = w5.heap.size + 1 := by rw [hw6.out]; simp
  have lx := hp.out.int.lt
  have a1 := hpz.out
  have a2 := hpn.out
  have a3 := hpd.out
  have a4 := hpw.out
  have F : Fr (fun _ => False) w w7 := (((((f1.out.trans f2.out (fun _ _ h => h)).trans Q2.out (fun _ _ h => h)).trans g4.out (by
      intro k hk h; rcases h with h | h | h <;> omega)).trans fa.out (fun _ _ h => h)).trans k2 (by
      intro k hk h
      rcases h with h | h
      · omega
      · cases h))
  have ofr : ∀ b, o7 = some b → w.heap.size ≤ b := by
    intro b hb
    rcases k3 with h | ⟨b', h, hl⟩
    · rw [h] at hb; cases hb
    · rw [hb] at h; cases h; omega
  have x7 := hp.out.frame F (fun f => f) (fun _ _ f => f)
  have hob : ∀ b, op = some b → b < w.heap.size := fun b hb => by subst hb; exact hp.out.int.ob_lt
  have D := dSet_any p pw zp N _ s op o7 w7 x7 k1 (by omega) (fun h => by have := hob _ h; omega) (fun b hb h => by have := hob _ h; have := ofr b hb; omega) (fun h => by have := ofr _ h; omega) hNb.out
  replace D := Lib.hid D
  replace F := Lib.hid F
  replace k1 := Lib.hid k1
  replace k2 := Lib.hid k2
  replace k3 := Lib.hid k3
  replace ofr := Lib.hid ofr
  replace x7 := Lib.hid x7
  replace hob := Lib.hid hob
  clear R s1 s2 s3 s4 s6 e6 a1 a2 a3 a4 lx l1 l2 l3
  try unfold ptr at *
  go_wp2_with fail
  refine D.out.mono ?_
  rintro e w8 ⟨o8, rfl, m1, m2, m3⟩
  replace m1 := Lib.hid m1
  replace m2 := Lib.hid m2
  replace m3 := Lib.hid m3
  try unfold ptr at *
  go_wp2_with fail
  go_ret
  refine ⟨o8, rfl, m1.out, F.out.none.trans m2.out (fun _ _ h => h), ?_⟩
  have s := F.out.size
  rcases m3.out with h | ⟨b, h, hl⟩
  · exact Or.inl h
  · exact Or.inr ⟨b, h, by omega⟩
end Go.Proofs.YtcpjclakdpjjfaaGreatDoor

namespace Go.Proofs.YtcpjclakdpjjfaaGreatDoor
open Go.RowKit

set_option maxHeartbeats 1000000 in
theorem dRound_any (p px u : Nat) (g : Bool) (s zp ep e : Int) (a b : Nat) (op ox : Option Nat) (w : World) (hp : DecAt w p zp ep op) (hx : DecAt w px (sgn g u) e ox)
    (hs1 : 0 ≤ s) (hs2 : s ≤ 9) (hab : s + (b : Int) = e + (a : Int)) (h0 : a = 0 ∨ b = 0) (ha : a ≤ 165) (hb : b ≤ 130) (hX : u * 10 ^ a < W64 ^ 30) (hk : b ≤ 57 ∨ u < 10 ^ b) (hg : Gk w) :
    Calls Tryz.prog 34 #[ptr p, ptr px, .int .i32 s, .iface 131 RUP] w (DecOp w p op (ptr p) (sgn g (u * 10 ^ a / 10 ^ b + (if u * 10 ^ a % 10 ^ b = 0 then 0 else 1))) s) := by
  have N1 := Lib.hid (newDec_any 1 0 (by omega) (by omega) w)
  have Q := Lib.hid (fun w1 py oy (f : Fr (fun _ => False) w w1) (hy : DecAt w1 py 1 0 oy) => dQuo_any p px py u g s zp ep e a b op ox oy w1 (hp.frame f (fun f => f) (fun _ _ f => f)) (hx.frame f (fun f => f) (fun _ _ f => f)) hy hs1 hs2 hab h0 ha hb hX hk (hg.frame f (fun _ h => h.elim)))
  obtain ⟨N, hN⟩ : ∃ N, N = sgn g (u * 10 ^ a / 10 ^ b + (if u * 10 ^ a % 10 ^ b = 0 then 0 else 1)) := ⟨_, rfl⟩
  rw [← hN] at Q ⊢
  have T : Hid (∀ w1 py oy, Fr (fun _ => False) w w1 → DecAt w1 py 1 0 oy → Calls Tryz.prog 60 #[.pointer (some ⟨p, 0, none⟩), .pointer (some ⟨px, 0, none⟩), .pointer (some ⟨py, 0, none⟩), .int .i32 s, .iface 131 RUP] w1 (DecOp w1 p op (ptr p) N s)) := by
    intro w1 py oy f hy
    have Q1 := Lib.hid (Q.out w1 py oy f hy)
    clear hp hx hs1 hs2 hab h0 ha hb hX hk hg hN N1 Q hy f
    unfold ptr at *
    go_enter Tryz.func60, Tryz.ntmps60
    go_wp2_with fail
    refine Q1.out.mono ?_
    rintro r w2 ⟨o, rfl, g1, g2, g3⟩
    replace g1 := Lib.hid g1
    replace g2 := Lib.hid g2
    replace g3 := Lib.hid g3
    try unfold ptr at *
    go_wp2_with fail
    go_ret
    exact ⟨o, rfl, g1.out, g2.out, g3.out⟩
  have hpl := Lib.hid hp.int.lt
  have hol := Lib.hid (fun b (h : op = some b) => (show b < w.heap.size by subst h; exact hp.int.ob_lt))
  clear hp hx hs1 hs2 hab h0 ha hb hX hk hg hN Q
  unfold ptr at *
  go_enter Tryz.func34, Tryz.ntmps34
  go_wp2_with fail
  refine N1.out.mono ?_
  rintro r w1 ⟨py, oy, rfl, k1, k2, k3, k4⟩
  have T1 := Lib.hid (T.out w1 py oy k2 k1)
  replace k1 := Lib.hid k1
  replace k2 := Lib.hid k2
  replace k3 := Lib.hid k3
  replace k4 := Lib.hid k4
  clear T N1
  try unfold ptr at *
  go_wp2_with fail
  refine T1.out.mono ?_
  rintro r w2 ⟨o, rfl, g1, g2, g3⟩
  replace g1 := Lib.hid g1
  replace g2 := Lib.hid g2
  replace g3 := Lib.hid g3
  try unfold ptr at *
  go_wp2_with fail
  go_ret
  refine ⟨o, rfl, g1.out, k2.out.none.trans g2.out (fun _ _ h => h), ?_⟩
  have s := k2.out.size
  rcases g3.out with h | ⟨b, h, hl⟩
  · exact Or.inl h
  · exact Or.inr ⟨b, h, by omega⟩
end Go.Proofs.YtcpjclakdpjjfaaGreatDoor


/-
  A part of the proof of FnQuantityAgain (texts Df, Dg, Dh, Di2, Dj, Dk of mine, joined).
-/
import Derived.Test.YtcpjclakdpjjfaaGreatDoorM23
import Derived.Deep.RegionWith
namespace Go.Proofs.YtcpjclakdpjjfaaGreatDoor
open Go.RowKit

/-- A new inf.Dec. -/
def DecNew (w : World) (z e : Int) (r : Ending) (w' : World) : Prop :=
  ∃ p ob, r = .returned (ptr p) ∧ DecAt w' p z e ob ∧ Fr (fun _ => False) w w' ∧ w.heap.size ≤ p ∧ (∀ b, ob = some b → w.heap.size ≤ b)
/-- What an operation into the inf.Dec at p comes to. -/
def DecOp (w : World) (p : Nat) (op : Option Nat) (r : Value) (z e : Int) (E : Ending) (w' : World) : Prop :=
  ∃ ob, E = .returned r ∧ DecAt w' p z e ob ∧ Fr (fun k => k = p ∨ op = some k) w w' ∧ (ob = op ∨ ∃ b, ob = some b ∧ w.heap.size ≤ b)

theorem IntC.boxed3 (w : World) (T : TypeId) (x : Value) :
    IntC (w.alloc (.cells #[.bool false, .slice none 0 0, x] T)) w.heap.size false (.slice none 0 0) none 0 ∧ (w.alloc (.cells #[.bool false, .slice none 0 0, x] T)).cell? ⟨w.heap.size, 2, none⟩ = some x := by
  have hat : (w.alloc (.cells #[.bool false, .slice none 0 0, x] T)).heap[w.heap.size]? = some (.cells #[.bool false, .slice none 0 0, x] T (0, 0)) := by
    show (w.heap.push _)[w.heap.size]? = _
    rw [Array.getElem?_push_size]
  refine ⟨⟨⟨_, _, hat⟩, ?_, ?_, ⟨rfl, rfl⟩, by simp, by simp⟩, ?_⟩
  · unfold World.cell?; rw [hat]; rfl
  · unfold World.cell?; rw [hat]; rfl
  · unfold World.cell?; rw [hat]; rfl

theorem dSetUnscaled_any (p : Nat) (x z : Int) (ob : Option Nat) (h1 : -9223372036854775808 ≤ x) (h2 : x ≤ 9223372036854775807) (w : World) (h : IntAt w p z ob) :
    Calls Tryz.prog 65 #[ptr p, .int .i64 x] w (IntOp w p ob (ptr p) x) := by
  obtain ⟨g, v, n, h, rfl⟩ := h
  have S := Lib.hid (setInt64_any p g v ob n x h1 h2 w h)
  clear h
  unfold ptr at *
  replace h1 := Lib.hid h1
  replace h2 := Lib.hid h2
  go_enter Tryz.func65, Tryz.ntmps65
  go_wp2_with fail
  refine S.out.mono ?_
  rintro e w1 ⟨ob', rfl, g1, g2, g3, g4⟩
  replace g1 := Lib.hid g1
  replace g2 := Lib.hid g2
  replace g3 := Lib.hid g3
  replace g4 := Lib.hid g4
  go_wp2_with fail
  go_ret
  exact ⟨ob', rfl, g1.out, g2.out, g3.out, g4.out⟩

set_option maxHeartbeats 1000000 in
theorem newDec_any (x e : Int) (h1 : -9223372036854775808 ≤ x) (h2 : x ≤ 9223372036854775807) (w : World) :
    Calls Tryz.prog 39 #[.int .i64 x, .int .i32 e] w (DecNew w x e) := by
  obtain ⟨B, B2⟩ := IntC.boxed3 w 73 (.int .i32 0)
  obtain ⟨w0, hw0⟩ : ∃ w0, w0 = w.alloc (.cells #[.bool false, .slice none 0 0, .int .i32 0] 73) := ⟨_, rfl⟩
  obtain ⟨p, hp⟩ : ∃ p, p = w.heap.size := ⟨_, rfl⟩
  have f0 : Hid (Fr (fun _ => False) w w0) := by show Fr _ _ _; rw [hw0]; exact Fr.alloc _ _ _
  rw [← hw0, ← hp] at B B2
  have S := Lib.hid (dSetUnscaled_any p x 0 none h1 h2 w0 ⟨_, _, _, B, rfl⟩)
  have T := Lib.hid (fun (w1 : World) (h : IntAt w1 p x none ∨ ∃ b, IntAt w1 p x b) (hi : Hi p w0 w1) => dSetScale_any p e (.int .i32 0) w1 (Eq.trans hi B2) (by rcases h with h | ⟨b, h⟩; exact h.plain; exact h.plain))
  replace hw0 := Lib.hid hw0
  replace hp := Lib.hid hp
  clear B
  replace B2 := Lib.hid B2
  replace h1 := Lib.hid h1
  replace h2 := Lib.hid h2
  go_enter Tryz.func39, Tryz.ntmps39
  go_wp2_with fail
  rw [← hw0.out, ← hp.out]
  unfold ptr at *
  refine S.out.mono ?_
  rintro r w1 ⟨ob, rfl, g1, g2, g3, g4⟩
  have T2 := Lib.hid (T.out w1 (Or.inr ⟨_, g1⟩) g4)
  clear T S
  replace g4 := Lib.hid (Eq.trans g4 B2.out)
  replace g1 := Lib.hid g1
  replace g2 := Lib.hid g2
  replace g3 := Lib.hid g3
  go_wp2_with fail
  refine T2.out.mono ?_
  rintro r w2 ⟨rfl, rfl⟩
  go_wp2_with fail
  go_ret
  obtain ⟨k1, k2⟩ := g1.out.set2 (.int .i32 e)
  have s0 := f0.out.size
  have s1 : w0.heap.size = w.heap.size + 1 := by rw [hw0.out]; simp
  refine ⟨p, ob, rfl, ⟨k1, World.cell?_setCell_same _ _ _ g4.out⟩, (f0.out.trans g2.out ?_).trans k2 ?_, by rw [hp.out]; omega, ?_⟩
  · intro k hk e
    have := hp.out
    rcases e with e | e
    · omega
    · cases e
  · intro k hk e
    have := hp.out
    omega
  · intro b hb
    rcases g3.out with e | ⟨b', e, hl⟩
    · rw [e] at hb; cases hb
    · rw [hb] at e; cases e; omega

theorem dSetBig_any (pz px : Nat) (z x : Int) (oz ox : Option Nat) (w : World) (hz : IntAt w pz z oz) (hx : IntAt w px x ox) (nzx : pz ≠ px) (bx : x.natAbs < W64 ^ 100) :
    Calls Tryz.prog 29 #[ptr pz, ptr px] w (IntOp w pz oz (ptr pz) x) := by
  obtain ⟨g, v, n, hz, rfl⟩ := hz
  obtain ⟨gx, vx, nx, hx, rfl⟩ := hx
  rw [sgn_natAbs] at bx
  have S := Lib.hid (iset_any pz px g gx v vx oz ox n nx w hz hx nzx bx)
  obtain ⟨N, hN⟩ : ∃ N, N = sgn gx nx := ⟨_, rfl⟩
  rw [← hN]
  replace hN := Lib.hid hN
  clear hz hx bx
  unfold ptr at *
  go_enter Tryz.func29, Tryz.ntmps29
  go_wp2_with fail
  refine S.out.mono ?_
  rintro e w1 ⟨v', ob', rfl, g1, g2, g3, g4⟩
  replace g1 := Lib.hid g1
  replace g2 := Lib.hid g2
  replace g3 := Lib.hid g3
  replace g4 := Lib.hid g4
  go_wp2_with fail
  go_ret
  exact ⟨ob', rfl, ⟨_, _, _, g1.out, hN.out⟩, g2.out, g3.out, g4.out⟩

theorem dSetBig_same (p : Nat) (w : World) : Calls Tryz.prog 29 #[ptr p, ptr p] w fun e w' => e = .returned (ptr p) ∧ w = w' := by
  have S := Lib.hid (iset_same p w)
  unfold ptr at *
  go_enter Tryz.func29, Tryz.ntmps29
  go_wp2_with fail
  refine S.out.mono ?_
  rintro e w1 ⟨rfl, rfl⟩
  go_wp2_with fail
  go_ret
  exact ⟨rfl, rfl⟩

set_option maxHeartbeats 1000000 in
theorem newDecBig_any (px : Nat) (x e : Int) (ox : Option Nat) (w : World) (hx : IntAt w px x ox) (bx : x.natAbs < W64 ^ 100) :
    Calls Tryz.prog 129 #[ptr px, .int .i32 e] w (DecNew w x e) := by
  obtain ⟨B, B2⟩ := IntC.boxed3 w 73 (.int .i32 0)
  obtain ⟨w0, hw0⟩ : ∃ w0, w0 = w.alloc (.cells #[.bool false, .slice none 0 0, .int .i32 0] 73) := ⟨_, rfl⟩
  obtain ⟨p, hp⟩ : ∃ p, p = w.heap.size := ⟨_, rfl⟩
  have f0 : Hid (Fr (fun _ => False) w w0) := by show Fr _ _ _; rw [hw0]; exact Fr.alloc _ _ _
  rw [← hw0, ← hp] at B B2
  have S := Lib.hid (dSetBig_any p px 0 x none ox w0 ⟨_, _, _, B, rfl⟩ (hx.frame f0.out (fun f => f) (fun _ _ f => f)) (by rw [hp]; exact Nat.ne_of_gt hx.lt) bx)
  have T := Lib.hid (fun (w1 : World) (h : ∃ b, IntAt w1 p x b) (hi : Hi p w0 w1) => dSetScale_any p e (.int .i32 0) w1 (Eq.trans hi B2) (by rcases h with ⟨b, h⟩; exact h.plain))
  replace hw0 := Lib.hid hw0
  replace hp := Lib.hid hp
  clear B hx
  replace B2 := Lib.hid B2
  replace bx := Lib.hid bx
  unfold ptr at *
  go_enter Tryz.func129, Tryz.ntmps129
  go_wp2_with fail
  rw [← hw0.out, ← hp.out]
  refine S.out.mono ?_
  rintro r w1 ⟨ob, rfl, g1, g2, g3, g4⟩
  have T2 := Lib.hid (T.out w1 ⟨_, g1⟩ g4)
  clear T S
  replace g4 := Lib.hid (Eq.trans g4 B2.out)
  replace g1 := Lib.hid g1
  replace g2 := Lib.hid g2
  replace g3 := Lib.hid g3
  go_wp2_with fail
  refine T2.out.mono ?_
  rintro r w2 ⟨rfl, rfl⟩
  go_wp2_with fail
  go_ret
  obtain ⟨k1, k2⟩ := g1.out.set2 (.int .i32 e)
  have s0 := f0.out.size
  have s1 : w0.heap.size = w.heap.size + 1 := by rw [hw0.out]; simp
  refine ⟨p, ob, rfl, ⟨k1, World.cell?_setCell_same _ _ _ g4.out⟩, (f0.out.trans g2.out ?_).trans k2 ?_, by rw [hp.out]; omega, ?_⟩
  · intro k hk e
    have := hp.out
    rcases e with e | e
    · omega
    · cases e
  · intro k hk e
    have := hp.out
    omega
  · intro b hb
    rcases g3.out with e | ⟨b', e, hl⟩
    · rw [e] at hb; cases hb
    · rw [hb] at e; cases e; omega

set_option maxHeartbeats 1000000 in
/-- Neg in place. -/
theorem dNeg_same (p : Nat) (z e : Int) (op : Option Nat) (w : World) (h : DecAt w p z e op) :
    Calls Tryz.prog 32 #[ptr p, ptr p] w (DecOp w p op (ptr p) (-z) e) := by
  have A := Lib.hid (dScale_any p e w h.c2)
  have B := Lib.hid (dSetScale_any p e _ w h.c2 h.int.plain)
  obtain ⟨k1, k2⟩ := h.int.set2 (.int .i32 e)
  have c2 := Lib.hid (World.cell?_setCell_same w ⟨p, 2, none⟩ (.int .i32 e) h.c2)
  obtain ⟨g, v, n, hz, rfl⟩ := k1
  have C := Lib.hid (dBig_any p (w.setCell ⟨p, 2, none⟩ (.int .i32 e)))
  have D := Lib.hid (ineg_same p g v op n _ hz)
  obtain ⟨N, hN⟩ : ∃ N, N = -(sgn g n) := ⟨_, rfl⟩
  rw [← hN] at D ⊢
  replace k2 := Lib.hid k2
  obtain ⟨w1, hw1⟩ : ∃ w1, w1 = w.setCell ⟨p, 2, none⟩ (.int .i32 e) := ⟨_, rfl⟩
  rw [← hw1] at B c2 C D k2
  clear h hz hN
  replace hw1 := Lib.hid hw1
  unfold ptr at *
  go_enter Tryz.func32, Tryz.ntmps32
  go_wp2_with fail
  refine A.out.mono ?_
  rintro r w2 ⟨rfl, rfl⟩
  go_wp2_with fail
  refine B.out.mono ?_
  rintro r w3 ⟨rfl, rfl⟩
  go_wp2_with fail
  refine C.out.mono ?_
  rintro r w4 ⟨rfl, rfl⟩
  go_wp2_with fail
  refine C.out.mono ?_
  rintro r w4 ⟨rfl, rfl⟩
  go_wp2_with fail
  refine D.out.mono ?_
  rintro r w4 ⟨ob, rfl, g1, g2, g3, g4⟩
  replace g1 := Lib.hid g1
  replace g2 := Lib.hid g2
  replace g3 := Lib.hid g3
  replace g4 := Lib.hid g4
  go_wp2_with fail
  go_ret
  refine ⟨ob, rfl, ⟨g1.out, Eq.trans g4.out c2.out⟩, (k2.out.mono (fun _ _ h => Or.inl h)).trans g2.out (fun _ _ h => h), ?_⟩
  have s := k2.out.size
  rcases g3.out with e | ⟨b, e, hl⟩
  · exact Or.inl e
  · exact Or.inr ⟨b, e, by omega⟩
end Go.Proofs.YtcpjclakdpjjfaaGreatDoor

namespace Go.Proofs.YtcpjclakdpjjfaaGreatDoor
open Go.RowKit

theorem info73 : (Tryz.prog.info? 73).map (·.size) = some 3 := by kernel_rfl

set_option maxHeartbeats 1000000 in
theorem dSet_any (pz px : Nat) (z x e ex : Int) (oz ox : Option Nat) (w : World) (hz : DecAt w pz z e oz) (hx : DecAt w px x ex ox) (nzx : pz ≠ px) (noz : oz ≠ some px) (nox : ∀ b, ox = some b → oz ≠ some b) (nxp : ox ≠ some pz) (bx : x.natAbs < W64 ^ 100) :
    Calls Tryz.prog 38 #[ptr pz, ptr px] w (DecOp w pz oz (ptr pz) x ex) := by
  have P1 : (binOp .neq 34 (.pointer (some ⟨pz, 0, none⟩)) (.pointer (some ⟨px, 0, none⟩))).run Tryz.prog w = .ok (.bool true) w :=
    ptr_neq_other w Tryz.underlying34 info73 (by intro e; exact nzx (congrArg Addr.block e)) hz.int.plain hx.int.plain
  have A := Lib.hid (dBig_any px w)
  have B := Lib.hid (dSetBig_any pz px z x oz ox w hz.int hx.int nzx bx)
  replace hz := Lib.hid hz
  replace hx := Lib.hid hx
  replace bx := Lib.hid bx
  unfold ptr at *
  go_enter Tryz.func38, Tryz.ntmps38
  go_wp2_with fail
  refine A.out.mono ?_
  rintro r w1 ⟨rfl, rfl⟩
  go_wp2_with fail
  refine B.out.mono ?_
  rintro r w1 ⟨ob, rfl, g1, g2, g3, g4⟩
  have hx1 := hx.out.frame g2 (fun e => by rcases e with e | e; exact nzx e.symm; exact noz e) (fun b hb e => by rcases e with e | e; exact nxp (e ▸ hb); exact nox b hb e)
  have C := Lib.hid (dScale_any px ex w1 hx1.c2)
  have c2 := Lib.hid (Eq.trans g4 hz.out.c2)
  have D := Lib.hid (dSetScale_any pz ex _ w1 c2.out g1.plain)
  replace g1 := Lib.hid g1
  replace g2 := Lib.hid g2
  replace g3 := Lib.hid g3
  replace g4 := Lib.hid g4
  clear P1 A B hx1
  unfold ptr at *
  go_wp2_with fail
  refine C.out.mono ?_
  rintro r w2 ⟨rfl, rfl⟩
  go_wp2_with fail
  refine D.out.mono ?_
  rintro r w2 ⟨rfl, rfl⟩
  go_wp2_with fail
  go_ret
  obtain ⟨k1, k2⟩ := g1.out.set2 (.int .i32 ex)
  exact ⟨ob, rfl, ⟨k1, World.cell?_setCell_same _ _ _ c2.out⟩, g2.out.trans k2 (fun _ _ h => Or.inl h), g3.out⟩

set_option maxHeartbeats 1000000 in
theorem exp10_any (n : Nat) (hn : n ≤ 165) (w : World) (hg : Gk w) : Calls Tryz.prog 128 #[.int .i32 (n : Int)] w (IntNew w ((10 ^ n : Nat) : Int)) := by
  have B := IntC.boxed w false (.slice none 0 0) none 0 70 ⟨rfl, rfl⟩ (by simp)
  obtain ⟨w0, hw0⟩ : ∃ w0, w0 = w.alloc (.cells #[.bool false, .slice none 0 0] 70) := ⟨_, rfl⟩
  obtain ⟨p, hp⟩ : ∃ p, p = w.heap.size := ⟨_, rfl⟩
  have f0 : Fr (fun _ => False) w w0 := by rw [hw0]; exact Fr.alloc _ _ _
  rw [← hw0, ← hp] at B
  have s1 : Hid (w0.heap.size = w.heap.size + 1) := by show _ = _; rw [hw0]; simp
  have N1 := Lib.hid (newInt_any 10 (by omega) (by omega) w0)
  have N2 := Lib.hid (fun w1 => newInt_any (n : Int) (by omega) (by omega) w1)
  have hpw : 10 ^ n < W64 ^ 9 := Nat.lt_of_le_of_lt (Nat.pow_le_pow_right (by omega) hn) (by unfold W64; decide +kernel)
  have E := Lib.hid (fun (w2 : World) (f : Fr (fun _ => False) w0 w2) (p1 p2 : Nat) (o1 o2 : Option Nat) (h1 : IntAt w2 p1 10 o1) (h2 : IntAt w2 p2 (n : Int) o2) (hne : p ≠ p1) =>
    (show Calls Tryz.prog 154 #[.pointer (some ⟨p, 0, none⟩), .pointer (some ⟨p1, 0, none⟩), .pointer (some ⟨p2, 0, none⟩), .pointer none] w2 (IntOp w2 p none (ptr p) ((10 ^ n : Nat) : Int)) by
      obtain ⟨v1, C1⟩ := h1.get
      obtain ⟨v2, C2⟩ := h2.get
      have d1 : decide ((10 : Int) < 0) = false := by decide
      have d2 : decide ((n : Int) < 0) = false := by simp
      rw [d1] at C1
      rw [d2] at C2
      rw [Int.natAbs_natCast] at C2
      exact iExp_any p p1 p2 v1 v2 o1 o2 10 n w2 (B.frame f (fun f => f) (fun _ _ f => f)) C1 C2 hne (by omega) (by unfold W64; omega) (by omega) hpw ((hg.frame f0 (fun _ h => h.elim)).frame f (fun _ h => h.elim))))
  have hwr : IntKind.i64.wrap (n : Int) = (n : Int) := by rw [IntKind.wrap_i64]; omega
  obtain ⟨N, hN⟩ : ∃ N, N = 10 ^ n := ⟨_, rfl⟩
  rw [← hN] at E ⊢
  have hpl := Lib.hid B.lt
  replace hw0 := Lib.hid hw0
  replace hp := Lib.hid hp
  replace f0 := Lib.hid f0
  clear B hpw hN hg
  unfold ptr at *
  go_enter Tryz.func128, Tryz.ntmps128
  go_wp2_with fail
  rw [← hw0.out, ← hp.out]
  refine N1.out.mono ?_
  rintro r w1 ⟨p1, o1, rfl, h1, f1, l1, q1⟩
  have N3 := Lib.hid (N2.out w1)
  replace h1 := Lib.hid h1
  replace f1 := Lib.hid f1
  replace q1 := Lib.hid q1
  clear N1 N2
  go_wp2_with fail
  refine N3.out.mono ?_
  rintro r w2 ⟨p2, o2, rfl, h2, f2, l2, q2⟩
  have E2 := Lib.hid (E.out w2 (f1.out.trans f2 (fun _ _ h => h)) p1 p2 o1 o2 (h1.out.frame f2 (fun f => f) (fun _ _ f => f)) h2 (by have := hpl.out; omega))
  replace h2 := Lib.hid h2
  replace f2 := Lib.hid f2
  replace q2 := Lib.hid q2
  clear N3 E
  go_wp2_with fail
  refine E2.out.mono ?_
  rintro r w3 ⟨ob, rfl, g1, g2, g3, g4⟩
  replace g1 := Lib.hid g1
  replace g2 := Lib.hid g2
  replace g3 := Lib.hid g3
  go_wp2_with fail
  go_ret
  have a1 := s1.out
  have a2 := f1.out.size
  have a3 := f2.out.size
  have a4 := hp.out
  refine ⟨p, ob, rfl, g1.out, ((f0.out.trans f1.out (fun _ _ h => h)).trans f2.out (fun _ _ h => h)).trans g2.out ?_, by omega, ?_⟩
  · intro k hk e
    rcases e with e | e
    · omega
    · cases e
  · intro b hb
    rcases g3.out with e | ⟨b', e, hl⟩
    · rw [e] at hb; cases hb
    · rw [hb] at e; cases e; omega
end Go.Proofs.YtcpjclakdpjjfaaGreatDoor

namespace Go.Proofs.YtcpjclakdpjjfaaGreatDoor
open Go.RowKit

/-- An inf.Dec as it was, or a new one. -/
def DecUp (w : World) (p : Nat) (op : Option Nat) (z e : Int) (r : Ending) (w' : World) : Prop :=
  ∃ p' ob, r = .returned (ptr p') ∧ DecAt w' p' z e ob ∧ Fr (fun _ => False) w w' ∧ ((p' = p ∧ ob = op) ∨ (w.heap.size ≤ p' ∧ (∀ b, ob = some b → w.heap.size ≤ b)))

theorem natAbs_mul10 (z : Int) (k : Nat) : (z * ((10 ^ k : Nat) : Int)).natAbs = z.natAbs * 10 ^ k := by rw [Int.natAbs_mul, Int.natAbs_natCast]

set_option maxHeartbeats 2000000 in
theorem rescale_any (p : Nat) (z e : Int) (k : Nat) (op : Option Nat) (w : World) (h : DecAt w p z e op) (he1 : -1000 ≤ e) (he2 : e ≤ 1000) (hk : k ≤ 165) (bz : z.natAbs < W64 ^ 30) (hg : Gk w) :
    Calls Tryz.prog 97 #[ptr p, .int .i32 (e + k)] w (DecUp w p op (z * ((10 ^ k : Nat) : Int)) (e + k)) := by
  have A := Lib.hid (dScale_any p e w h.c2)
  have hw1 : wrap32 (e + k - e) = (k : Int) := by unfold wrap32; omega
  have hw1' : IntKind.i32.wrap (e + k - e) = (k : Int) := by rw [IntKind.wrap_i32]; omega
  have hw2 : (e + (k : Int) - e) = (k : Int) := by omega
  obtain ⟨E, hE⟩ : ∃ E, E = e + (k : Int) := ⟨_, rfl⟩
  rw [← hE] at hw1 hw1' hw2 ⊢
  by_cases h0 : k = 0
  · subst h0
    have hE0 : E = e := by omega
    subst hE0
    have hz : z * ((10 ^ 0 : Nat) : Int) = z := by simp
    rw [hz]
    have F : DecUp w p op z E (.returned (ptr p)) w := ⟨p, op, rfl, h, Fr.refl _ _, Or.inl ⟨rfl, rfl⟩⟩
    replace F := Lib.hid F
    clear h hE bz hg hz
    unfold ptr at *
    go_enter Tryz.func97, Tryz.ntmps97
    go_wp2_with fail
    refine A.out.mono ?_
    rintro r w1 ⟨rfl, rfl⟩
    go_wp2_with fail
    go_ret
    exact F.out
  · have X := Lib.hid (exp10_any k hk w hg)
    have hk0 : (0 : Int) < (k : Int) := by omega
    have hb10 : 10 ^ k < W64 ^ 30 := Nat.lt_of_le_of_lt (Nat.pow_le_pow_right (by omega) hk) (by unfold W64; decide +kernel)
    have M := Lib.hid (fun (w1 : World) (p1 : Nat) (o1 : Option Nat) (f : Fr (fun _ => False) w w1) (hx : IntAt w1 p1 ((10 ^ k : Nat) : Int) o1) (l1 : w.heap.size ≤ p1) (w2 : World) (h2 : w2 = w1.alloc (.cells #[.bool false, .slice none 0 0] 70)) =>
      (show Calls Tryz.prog 30 #[.pointer (some ⟨w1.heap.size, 0, none⟩), .pointer (some ⟨p, 0, none⟩), .pointer (some ⟨p1, 0, none⟩)] w2 (IntOp w2 w1.heap.size none (ptr w1.heap.size) (z * ((10 ^ k : Nat) : Int))) by
        subst h2
        have B := IntC.boxed w1 false (.slice none 0 0) none 0 70 ⟨rfl, rfl⟩ (by simp)
        have f2 : Fr (fun _ => False) w1 (w1.alloc (.cells #[.bool false, .slice none 0 0] 70)) := Fr.alloc _ _ _
        have hx2 := hx.frame f2 (fun f => f) (fun _ _ f => f)
        have hz2 := (h.int.frame f (fun f => f) (fun _ _ f => f)).frame f2 (fun f => f) (fun _ _ f => f)
        have l2 := h.int.lt
        have l3 := hx.lt
        obtain ⟨gx, vx, nx, C1, e1⟩ := hz2
        obtain ⟨gy, vy, ny, C2, e2⟩ := hx2
        have b1 : nx = z.natAbs := by rw [e1, sgn_natAbs]
        have b2 : ny = 10 ^ k := by have := congrArg Int.natAbs e2; rw [sgn_natAbs, Int.natAbs_natCast] at this; omega
        rw [e1, e2]
        exact iMul_any _ p p1 false gx gy _ vx vy none op o1 0 nx ny _ B C1 C2 (by omega) (by omega) (by rw [b1]; exact bz) (by rw [b2]; exact hb10) ((hg.frame f (fun _ h => h.elim)).frame f2 (fun _ h => h.elim))))
    have hzb : Hid ((z * ((10 ^ k : Nat) : Int)).natAbs < W64 ^ 100) := by
      show _ < _
      rw [natAbs_mul10]
      refine Nat.lt_of_lt_of_le (Nat.mul_lt_mul'' bz hb10) ?_
      rw [← Nat.pow_add]; exact Nat.pow_le_pow_right W64_pos (by omega)
    have Db := Lib.hid (dBig_any p)
    obtain ⟨Z, hZ⟩ : ∃ Z, Z = z * ((10 ^ k : Nat) : Int) := ⟨_, rfl⟩
    obtain ⟨T, hT⟩ : ∃ T, T = 10 ^ k := ⟨_, rfl⟩
    rw [← hZ] at M hzb ⊢
    rw [← hT] at M X
    have hpl := Lib.hid h.int.lt
    clear h hE bz hg hb10 hZ hT
    unfold ptr at *
    go_enter Tryz.func97, Tryz.ntmps97
    go_wp2_with fail
    refine A.out.mono ?_
    rintro r w1 ⟨rfl, rfl⟩
    go_wp2_with fail
    refine X.out.mono ?_
    rintro r w1 ⟨p1, o1, rfl, h1, f1, l1, q1⟩
    have M2 := Lib.hid (M.out w1 p1 o1 f1 h1 l1 _ rfl)
    replace h1 := Lib.hid h1
    replace f1 := Lib.hid f1
    replace q1 := Lib.hid q1
    replace l1 := Lib.hid l1
    clear M X A
    obtain ⟨w2, hw2⟩ : ∃ w2, w2 = w1.alloc (.cells #[.bool false, .slice none 0 0] 70) := ⟨_, rfl⟩
    obtain ⟨pz, hpz⟩ : ∃ pz, pz = w1.heap.size := ⟨_, rfl⟩
    rw [← hw2, ← hpz] at M2
    have f2 : Hid (Fr (fun _ => False) w1 w2) := by show Fr _ _ _; rw [hw2]; exact Fr.alloc _ _ _
    replace hw2 := Lib.hid hw2
    replace hpz := Lib.hid hpz
    go_wp2_with fail
    rw [← hw2.out, ← hpz.out]
    refine (Db.out _).mono ?_
    rintro r w3 ⟨rfl, rfl⟩
    go_wp2_with fail
    refine M2.out.mono ?_
    rintro r w3 ⟨o3, rfl, g1, g2, g3, g4⟩
    have Nw := Lib.hid (newDecBig_any pz Z E o3 w3 g1 hzb.out)
    replace g1 := Lib.hid g1
    replace g2 := Lib.hid g2
    replace g3 := Lib.hid g3
    unfold ptr at *
    go_wp2_with fail
    refine Nw.out.mono ?_
    rintro r w4 ⟨p4, o4, rfl, k1, k2, k3, k4⟩
    replace k1 := Lib.hid k1
    replace k2 := Lib.hid k2
    replace k3 := Lib.hid k3
    replace k4 := Lib.hid k4
    unfold ptr at *
    go_wp2_with fail
    go_ret
    have a1 := f1.out.size
    have a2 := f2.out.size
    have a3 := g2.out.size
    have a4 := hpz.out
    have a5 := k3.out
    refine ⟨p4, o4, rfl, k1.out, ((f1.out.trans f2.out (fun _ _ h => h)).trans g2.out ?_).trans k2.out (fun _ _ h => h), Or.inr ⟨by omega, fun b hb => by have := k4.out b hb; omega⟩⟩
    intro i hi e
    rcases e with e | e
    · omega
    · cases e
end Go.Proofs.YtcpjclakdpjjfaaGreatDoor

namespace Go.Proofs.YtcpjclakdpjjfaaGreatDoor
open Go.RowKit

def UpEnd (w : World) (x y e : Int) (r : Ending) (w' : World) : Prop :=
  ∃ p o1 q o2, r = .returned (.tuple #[ptr p, ptr q]) ∧ DecAt w' p x e o1 ∧ DecAt w' q y e o2 ∧ Fr (fun _ => False) w w' ∧ p ≠ q

theorem zero_pow10 (z : Int) : z * ((10 ^ 0 : Nat) : Int) = z := by simp

set_option maxHeartbeats 2000000 in
theorem upscale_any (p q : Nat) (x y ex ey : Int) (kx ky : Nat) (op oq : Option Nat) (w : World) (hx : DecAt w p x ex op) (hy : DecAt w q y ey oq) (npq : p ≠ q) (hxy : ex + kx = ey + ky) (h0 : kx = 0 ∨ ky = 0) (hk1 : kx ≤ 165) (hk2 : ky ≤ 165)
    (x1 : -1000 ≤ ex) (x2 : ex ≤ 1000) (y1 : -1000 ≤ ey) (y2 : ey ≤ 1000) (bx : x.natAbs < W64 ^ 30) (by_ : y.natAbs < W64 ^ 30) (hg : Gk w) :
    Calls Tryz.prog 64 #[ptr p, ptr q] w (UpEnd w (x * ((10 ^ kx : Nat) : Int)) (y * ((10 ^ ky : Nat) : Int)) (ex + kx)) := by
  have A := Lib.hid (dScale_any p ex w hx.c2)
  have B := Lib.hid (dScale_any q ey w hy.c2)
  by_cases hk : kx = 0
  · subst hk
    rw [zero_pow10]
    have hE : ex + ((0 : Nat) : Int) = ex := by omega
    rw [hE] at hxy ⊢
    by_cases hk' : ky = 0
    · subst hk'
      rw [zero_pow10]
      have hE2 : ex = ey := by omega
      subst hE2
      have F : UpEnd w x y ex (.returned (.tuple #[ptr p, ptr q])) w := ⟨p, op, q, oq, rfl, hx, hy, Fr.refl _ _, npq⟩
      replace F := Lib.hid F
      clear hx hy hg bx by_ hE hxy h0 hk1 hk2
      unfold ptr at *
      go_enter Tryz.func64, Tryz.ntmps64
      go_wp2_with fail
      refine A.out.mono ?_
      rintro r w1 ⟨rfl, rfl⟩
      go_wp2_with fail
      refine B.out.mono ?_
      rintro r w1 ⟨rfl, rfl⟩
      go_wp2_with fail
      go_ret2
      exact F.out
    · have R := Lib.hid (rescale_any q y ey ky oq w hy y1 y2 hk2 by_ hg)
      rw [← hxy] at R
      have c1 : (ex == ey) = false := by simp; omega
      have c2 : ex > ey := by omega
      have hpl := Lib.hid hx.int.lt
      have F : ∀ w' q' o', DecAt w' q' (y * ((10 ^ ky : Nat) : Int)) ex o' → Fr (fun _ => False) w w' → ((q' = q ∧ o' = oq) ∨ (w.heap.size ≤ q' ∧ (∀ b, o' = some b → w.heap.size ≤ b))) → UpEnd w x (y * ((10 ^ ky : Nat) : Int)) ex (.returned (.tuple #[ptr p, ptr q'])) w' := by
        intro w' q' o' h f hq
        refine ⟨p, op, q', o', rfl, hx.frame f (fun f => f) (fun _ _ f => f), h, f, ?_⟩
        rcases hq with ⟨e, _⟩ | ⟨e, _⟩
        · rw [e]; exact npq
        · have := hx.int.lt; omega
      obtain ⟨Y, hY⟩ : ∃ Y, Y = y * ((10 ^ ky : Nat) : Int) := ⟨_, rfl⟩
      rw [← hY] at R F ⊢
      replace F := Lib.hid F
      clear hx hy hg bx by_ hE hY hxy h0
      unfold ptr at *
      go_enter Tryz.func64, Tryz.ntmps64
      go_wp2_with fail
      refine A.out.mono ?_
      rintro r w1 ⟨rfl, rfl⟩
      go_wp2_with fail
      refine B.out.mono ?_
      rintro r w1 ⟨rfl, rfl⟩
      go_wp2_with fail
      refine A.out.mono ?_
      rintro r w1 ⟨rfl, rfl⟩
      go_wp2_with fail
      refine B.out.mono ?_
      rintro r w1 ⟨rfl, rfl⟩
      go_wp2_with fail
      refine A.out.mono ?_
      rintro r w1 ⟨rfl, rfl⟩
      go_wp2_with fail
      refine R.out.mono ?_
      rintro r w2 ⟨q', o', rfl, g1, g2, g3⟩
      have F2 := Lib.hid (F.out w2 q' o' g1 g2 g3)
      replace g1 := Lib.hid g1
      replace g2 := Lib.hid g2
      replace g3 := Lib.hid g3
      unfold ptr at *
      go_wp2_with fail
      go_ret2
      exact F2.out
  · obtain rfl : ky = 0 := by omega
    rw [zero_pow10]
    have R := Lib.hid (rescale_any p x ex kx op w hx x1 x2 hk1 bx hg)
    rw [hxy, show ey + ((0 : Nat) : Int) = ey by omega] at R
    rw [hxy, show ey + ((0 : Nat) : Int) = ey by omega]
    have c1 : (ex == ey) = false := by simp; omega
    have c2 : ¬ (ex > ey) := by omega
    have F : ∀ w' q' o', DecAt w' q' (x * ((10 ^ kx : Nat) : Int)) ey o' → Fr (fun _ => False) w w' → ((q' = p ∧ o' = op) ∨ (w.heap.size ≤ q' ∧ (∀ b, o' = some b → w.heap.size ≤ b))) → UpEnd w (x * ((10 ^ kx : Nat) : Int)) y ey (.returned (.tuple #[ptr q', ptr q])) w' := by
      intro w' q' o' h f hq
      refine ⟨q', o', q, oq, rfl, h, hy.frame f (fun f => f) (fun _ _ f => f), f, ?_⟩
      rcases hq with ⟨e, _⟩ | ⟨e, _⟩
      · rw [e]; exact npq
      · have := hy.int.lt; omega
    obtain ⟨X, hX⟩ : ∃ X, X = x * ((10 ^ kx : Nat) : Int) := ⟨_, rfl⟩
    rw [← hX] at R F ⊢
    replace F := Lib.hid F
    clear hx hy hg bx by_ hX hxy h0
    unfold ptr at *
    go_enter Tryz.func64, Tryz.ntmps64
    go_wp2_with fail
    refine A.out.mono ?_
    rintro r w1 ⟨rfl, rfl⟩
    go_wp2_with fail
    refine B.out.mono ?_
    rintro r w1 ⟨rfl, rfl⟩
    go_wp2_with fail
    refine A.out.mono ?_
    rintro r w1 ⟨rfl, rfl⟩
    go_wp2_with fail
    refine B.out.mono ?_
    rintro r w1 ⟨rfl, rfl⟩
    go_wp2_with fail
    refine B.out.mono ?_
    rintro r w1 ⟨rfl, rfl⟩
    go_wp2_with fail
    refine R.out.mono ?_
    rintro r w2 ⟨q', o', rfl, g1, g2, g3⟩
    have F2 := Lib.hid (F.out w2 q' o' g1 g2 g3)
    replace g1 := Lib.hid g1
    replace g2 := Lib.hid g2
    replace g3 := Lib.hid g3
    unfold ptr at *
    go_wp2_with fail
    go_ret2
    exact F2.out

set_option maxHeartbeats 1000000 in
theorem dCmp_any (p q : Nat) (x y ex ey : Int) (kx ky : Nat) (op oq : Option Nat) (w : World) (hx : DecAt w p x ex op) (hy : DecAt w q y ey oq) (npq : p ≠ q) (hxy : ex + kx = ey + ky) (h0 : kx = 0 ∨ ky = 0) (hk1 : kx ≤ 165) (hk2 : ky ≤ 165)
    (x1 : -1000 ≤ ex) (x2 : ex ≤ 1000) (y1 : -1000 ≤ ey) (y2 : ey ≤ 1000) (bx : x.natAbs < W64 ^ 30) (by_ : y.natAbs < W64 ^ 30) (hg : Gk w) :
    Calls Tryz.prog 36 #[ptr p, ptr q] w fun r w' => r = .returned (.int .i64 (cmpZ (x * ((10 ^ kx : Nat) : Int)) (y * ((10 ^ ky : Nat) : Int)))) ∧ Fr (fun _ => False) w w' := by
  have U := Lib.hid (upscale_any p q x y ex ey kx ky op oq w hx hy npq hxy h0 hk1 hk2 x1 x2 y1 y2 bx by_ hg)
  have Db := Lib.hid (dBig_any)
  obtain ⟨X, hX⟩ : ∃ X, X = x * ((10 ^ kx : Nat) : Int) := ⟨_, rfl⟩
  obtain ⟨Y, hY⟩ : ∃ Y, Y = y * ((10 ^ ky : Nat) : Int) := ⟨_, rfl⟩
  rw [← hX, ← hY] at U ⊢
  clear hx hy hg bx by_ hX hY hxy h0
  unfold ptr at *
  go_enter Tryz.func36, Tryz.ntmps36
  go_wp2_with fail
  refine U.out.mono ?_
  rintro r w1 ⟨p', o1, q', o2, rfl, g1, g2, g3, g4⟩
  obtain ⟨gx, vx, nx, C1, e1⟩ := g1.int
  obtain ⟨gy, vy, ny, C2, e2⟩ := g2.int
  have C := Lib.hid (icmp_any p' q' gx gy vx vy o1 o2 nx ny w1 C1 C2 g4)
  rw [← e1, ← e2] at C
  obtain ⟨N, hN⟩ : ∃ N, N = cmpZ X Y := ⟨_, rfl⟩
  rw [← hN] at C
  replace hN := Lib.hid hN
  replace g1 := Lib.hid g1
  replace g2 := Lib.hid g2
  replace g3 := Lib.hid g3
  clear C1 C2 e1 e2 U
  try unfold ptr at *
  go_wp2_with fail
  refine (Db.out p' w1).mono ?_
  rintro r w2 ⟨rfl, rfl⟩
  try unfold ptr at *
  go_wp2_with fail
  refine (Db.out q' w1).mono ?_
  rintro r w2 ⟨rfl, rfl⟩
  try unfold ptr at *
  go_wp2_with fail
  refine C.out.mono ?_
  rintro r w2 ⟨rfl, k, rfl⟩
  go_wp2_with fail
  go_ret
  exact ⟨by rw [← hN.out]; rfl, g3.out.trans (Fr.drewN _ _ _) (fun _ _ h => h)⟩
end Go.Proofs.YtcpjclakdpjjfaaGreatDoor

namespace Go.Proofs.YtcpjclakdpjjfaaGreatDoor
open Go.RowKit

set_option maxHeartbeats 2000000 in
theorem dUnscaled_any (p : Nat) (z : Int) (op : Option Nat) (w : World) (h : IntAt w p z op) :
    Calls Tryz.prog 33 #[ptr p] w fun r w' => r = .returned (.tuple #[.int .i64 (IntKind.i64.wrap z), .bool (cmpZ (IntKind.i64.wrap z) z == 0)]) ∧ Fr (fun _ => False) w w' := by
  obtain ⟨g, v, n, hz, e1⟩ := h
  have A := Lib.hid (int64_any p g v op n w hz)
  rw [← e1] at A
  have hpl := hz.lt
  obtain ⟨W, hW⟩ : ∃ W, W = IntKind.i64.wrap z := ⟨_, rfl⟩
  have hW1 : -9223372036854775808 ≤ W := by rw [hW, IntKind.wrap_i64]; omega
  have hW2 : W ≤ 9223372036854775807 := by rw [hW, IntKind.wrap_i64]; omega
  rw [← hW] at A ⊢
  have B := IntC.boxed w false (.slice none 0 0) none 0 70 ⟨rfl, rfl⟩ (by simp)
  obtain ⟨w0, hw0⟩ : ∃ w0, w0 = w.alloc (.cells #[.bool false, .slice none 0 0] 70) := ⟨_, rfl⟩
  obtain ⟨pt, hpt⟩ : ∃ pt, pt = w.heap.size := ⟨_, rfl⟩
  have f0 : Fr (fun _ => False) w w0 := by rw [hw0]; exact Fr.alloc _ _ _
  rw [← hw0, ← hpt] at B
  have S := Lib.hid (fun w' (f : Fr (fun _ => False) w0 w') => setInt64_any pt false _ none 0 W hW1 hW2 w' (B.frame f (fun f => f) (fun _ _ f => f)))
  have C : Hid (∀ w1 w2 o, Fr (fun _ => False) w0 w1 → IntAt w2 pt W o → Fr (fun k => k = pt ∨ (none : Option Nat) = some k) w1 w2 → Calls Tryz.prog 59 #[.pointer (some ⟨pt, 0, none⟩), .pointer (some ⟨p, 0, none⟩)] w2 fun e w' => e = .returned (.int .i64 (cmpZ W z)) ∧ Dr w2 w') := by
    intro w1 w2 o f1 hW' f2
    obtain ⟨gx, vx, nx, C1, e2⟩ := hW'
    have hz1 := (hz.frame f0 (fun f => f) (fun _ _ f => f)).frame f1 (fun f => f) (fun _ _ f => f)
    have hz2 := hz1.frame f2 (fun e => by rcases e with e | e; omega; cases e) (fun b hb e => by rcases e with e | e; subst hb; have := hz.nat.lt; omega; cases e)
    have := icmp_any pt p gx g vx v o op nx n w2 C1 hz2 (by omega)
    rw [← e1, ← e2] at this
    exact this
  obtain ⟨N, hN⟩ : ∃ N, N = cmpZ W z := ⟨_, rfl⟩
  rw [← hN] at C ⊢
  clear hz e1 hW hN B
  replace hW1 := Lib.hid hW1
  replace hW2 := Lib.hid hW2
  replace hpl := Lib.hid hpl
  replace f0 := Lib.hid f0
  replace hw0 := Lib.hid hw0
  replace hpt := Lib.hid hpt
  unfold ptr at *
  go_enter Tryz.func33, Tryz.ntmps33
  go_wp2_with fail
  refine A.out.mono ?_
  rintro r w1 ⟨rfl, rfl⟩
  go_wp2_with fail
  rw [← hw0.out, ← hpt.out]
  go_region_with (first
    | (go_at_call 58; refine (S.out _ (Fr.drew _ _)).mono ?_; rintro r w2 ⟨o2, rfl, g1, g2, g3, g4⟩)
    | (go_at_call 59; refine (C.out _ _ _ (Fr.drew _ _) g1 g2).mono ?_; rintro r w3 ⟨rfl, k3, rfl⟩))
  all_goals go_wp2_with fail
  all_goals go_ret2
  all_goals
    have a1 := f0.out
    have a2 := hpt.out
    refine ⟨rfl, ((a1.trans (Fr.drew (fun _ => False) _) (fun _ _ h => h)).trans g2 ?_).trans (Fr.drewN _ _ _) (fun _ _ h => h)⟩
    intro k hk e
    rcases e with e | e
    · omega
    · cases e
end Go.Proofs.YtcpjclakdpjjfaaGreatDoor

namespace Go.Proofs.YtcpjclakdpjjfaaGreatDoor
open Go.RowKit

theorem vl_top0 {l : List Nat} {n V : Nat} (h : vl l 0 (n + 1) = V) : W64 ^ n * gd l n ≤ V := by
  rw [← h, vl_snoc, Nat.zero_add]; omega

/-- Division by a power of ten, into new storages. -/
theorem div_ten (x y : Value) (ox oy : Option Nat) (m k : Nat) (w : World) (hx : NatV w x ox m) (hy : NatV w y oy (10 ^ k)) (hm : m < W64 ^ 30) (hk : k ≤ 57 ∨ m < 10 ^ k) (hg : Gk w) (hsz : 17 ≤ w.heap.size) :
    Calls Tryz.prog 155 #[.slice none 0 0, .pointer none, .slice none 0 0, x, y] w (DivEnd w none none (m / 10 ^ k) (m % 10 ^ k)) := by
  have hp : 0 < 10 ^ k := Nat.pow_pos (by omega)
  have hm100 : m < W64 ^ 100 := Nat.lt_of_lt_of_le hm (Nat.pow_le_pow_right W64_pos (by omega))
  rcases hy.split with ⟨h0, _⟩ | ⟨by_, ly, ny, rfl, Hy⟩
  · omega
  · have n1 := Hy.pos
    have hge := Hy.ge
    by_cases e1 : ny = 1
    · subst e1
      exact div_word _ _ x y none none ox by_ m _ ly w rfl rfl hx Hy hm100 (fun b hb => by cases hb)
    · by_cases hlt : m < 10 ^ k
      · rw [Nat.div_eq_of_lt hlt, Nat.mod_eq_of_lt hlt]
        exact div_less x y ox by_ m _ ny ly w hx Hy (by omega) hlt hm100
      · have hk57 : k ≤ 57 := by omega
        rcases hx.split with ⟨h0, _⟩ | ⟨bx, lx, nx, rfl, Hx⟩
        · omega
        · have hb : 10 ^ k ≤ 10 ^ 57 := Nat.pow_le_pow_right (by omega) hk57
          have n3 : ny ≤ 3 := Hy.len_le (Nat.lt_of_le_of_lt hb (by unfold W64; decide +kernel))
          have hnx : ny ≤ nx := by
            have h1 := Hx.len_le (k := nx) (by
              have := Hx.eq
              exact Hx.lt)
            by_cases h : ny ≤ nx
            · exact h
            · have h2 : W64 ^ nx ≤ W64 ^ (ny - 1) := Nat.pow_le_pow_right W64_pos (by omega)
              have h3 := Hx.lt
              omega
          obtain ⟨d, rfl⟩ : ∃ d, nx = ny + d := ⟨nx - ny, by omega⟩
          have l1 : ny + d ≤ 50 := by have := Hx.len_le hm; omega
          have htop : gd ly (ny - 1) < 2 ^ 63 := by
            obtain ⟨j, rfl⟩ : ∃ j, ny = j + 1 := ⟨ny - 1, by omega⟩
            have ht := vl_top0 Hy.eq
            rw [Nat.add_sub_cancel]
            have hj : j = 1 ∨ j = 2 := by omega
            rcases hj with rfl | rfl
            · have hk38 : k ≤ 38 := by
                by_cases h : k ≤ 38
                · exact h
                · have h39 : 10 ^ 39 ≤ 10 ^ k := Nat.pow_le_pow_right (by omega) (by omega)
                  have h2 := Hy.lt
                  have h3 : W64 ^ (1 + 1) < 10 ^ 39 := by unfold W64; decide +kernel
                  omega
              have h38 : 10 ^ k ≤ 10 ^ 38 := Nat.pow_le_pow_right (by omega) hk38
              have hc : (10 : Nat) ^ 38 < W64 ^ 1 * 2 ^ 63 := by unfold W64; decide +kernel
              exact Nat.lt_of_mul_lt_mul_left (Nat.lt_of_le_of_lt ht (Nat.lt_of_le_of_lt h38 hc))
            · have hc : (10 : Nat) ^ 57 < W64 ^ 2 * 2 ^ 63 := by unfold W64; decide +kernel
              exact Nat.lt_of_mul_lt_mul_left (Nat.lt_of_le_of_lt ht (Nat.lt_of_le_of_lt hb hc))
          exact div_great x y bx by_ d m _ ny lx ly w Hx Hy (by omega) n3 l1 (by omega) htop hg hsz

/-- QuoRem by a power of ten, into new big.Ints. -/
def QtEnd (w : World) (pz pr q r : Nat) (e : Ending) (w' : World) : Prop :=
  ∃ o1 o2, e = .returned (.tuple #[ptr pz, ptr pr]) ∧ IntAt w' pz ((q : Nat) : Int) o1 ∧ IntAt w' pr ((r : Nat) : Int) o2 ∧ Fr (fun k => k = pz ∨ k = pr) w w' ∧
    (∀ b, o1 = some b → w.heap.size ≤ b) ∧ (∀ b, o2 = some b → w.heap.size ≤ b) ∧ (∀ b, o1 = some b → o2 ≠ some b) ∧ Hi pz w w'

theorem quoRem_ten (pz px py pr m k : Nat) (ox oy : Option Nat) (w : World) (hz : IntC w pz false (.slice none 0 0) none 0) (hx : IntAt w px ((m : Nat) : Int) ox) (hy : IntAt w py ((10 ^ k : Nat) : Int) oy) (hr : IntC w pr false (.slice none 0 0) none 0)
    (nzx : pz ≠ px) (nzy : pz ≠ py) (nzr : pz ≠ pr) (nrx : pr ≠ px) (nry : pr ≠ py) (hm : m < W64 ^ 30) (hk : k ≤ 57 ∨ m < 10 ^ k) (hg : Gk w) :
    Calls Tryz.prog 149 #[ptr pz, ptr px, ptr py, ptr pr] w (QtEnd w pz pr (m / 10 ^ k) (m % 10 ^ k)) := by
  obtain ⟨vx, Cx⟩ := hx.nat
  obtain ⟨vy, Cy⟩ := hy.nat
  have fd : Fr (fun _ => False) w w.drew := Fr.drew _ w
  have hsz : 17 ≤ w.heap.size := by have h := World.block_lt_of_cell? w _ hg.g16; have h' : 16 < w.heap.size := h; omega
  have D := div_ten vx vy ox oy m k w.drew (Cx.nat.frame fd (fun _ _ f => f)) (Cy.nat.frame fd (fun _ _ f => f)) hm hk (hg.frame fd (fun _ h => h.elim)) hsz
  have H := quoRem_any pz px py pr false false false false _ vx vy _ none ox oy none 0 m (10 ^ k) 0 w hz Cx Cy hr nzx nzy nzr nrx nry D
  refine H.mono ?_
  rintro e w1 ⟨v1, o1, v2, o2, rfl, h1, h2, hf, a1, a2, dis, hi⟩
  have e1 : (if m / 10 ^ k = 0 then false else false != false) = false := by split <;> rfl
  have e2 : (if m % 10 ^ k = 0 then false else false) = false := by split <;> rfl
  rw [e1] at h1
  rw [e2] at h2
  refine ⟨o1, o2, rfl, ⟨_, _, _, h1, rfl⟩, ⟨_, _, _, h2, rfl⟩, hf.mono ?_, ?_, ?_, dis, hi⟩
  · intro i _ h
    rcases h with h | h | h | h
    · exact Or.inl h
    · exact Or.inr h
    · cases h
    · cases h
  · intro b hb
    rcases a1 with e | ⟨b', e, hl⟩
    · rw [e] at hb; cases hb
    · rw [hb] at e; cases e; exact hl
  · intro b hb
    rcases a2 with e | ⟨b', e, hl⟩
    · rw [e] at hb; cases hb
    · rw [hb] at e; cases e; exact hl
end Go.Proofs.YtcpjclakdpjjfaaGreatDoor


/-
  A part of the proof of FnQuantityAgain (texts E1 of mine, joined).
-/
import Derived.Test.YtcpjclakdpjjfaaGreatDoorM24
namespace Go.Proofs.YtcpjclakdpjjfaaGreatDoor
open Go.RowKit

theorem IntC.set2 {w : World} {p : Nat} {g : Bool} {v : Value} {ob : Option Nat} {n : Nat} (h : IntC w p g v ob n) (x : Value) : IntC (w.setCell ⟨p, 2, none⟩ x) p g v ob n ∧ Fr (fun k => k = p) w (w.setCell ⟨p, 2, none⟩ x) := by
  have f : Fr (fun k => k = p) w (w.setCell ⟨p, 2, none⟩ x) := Fr.setCell (S := fun k => k = p) _ _ _ (fun _ => rfl)
  refine ⟨⟨h.plain.setCell _ _, ?_, ?_, h.nat.frame f (fun b hb e => h.far (e ▸ hb)), h.can, h.far⟩, f⟩
  · rw [World.cell?_setCell_other _ _ _ _ (by intro e; cases e)]; exact h.c0
  · rw [World.cell?_setCell_other _ _ _ _ (by intro e; cases e)]; exact h.c1

theorem sgn_mul10 (g : Bool) (n k : Nat) : sgn g n * sgn false (10 ^ k) = sgn g (n * 10 ^ k) := by
  cases g with
  | false => show (n : Int) * ((10 ^ k : Nat) : Int) = ((n * 10 ^ k : Nat) : Int); rw [Int.natCast_mul]
  | true => show (-(n : Int)) * ((10 ^ k : Nat) : Int) = -((n * 10 ^ k : Nat) : Int); rw [Int.natCast_mul, Int.neg_mul]
theorem sgn_zero (g : Bool) : sgn g 0 = 0 := by cases g <;> rfl

/-- QuoRem by a power of ten, into new big.Ints, with a sign. -/
def QtS (g : Bool) (w : World) (pz pr q r : Nat) (e : Ending) (w' : World) : Prop :=
  ∃ o1 o2, e = .returned (.tuple #[ptr pz, ptr pr]) ∧ IntAt w' pz (sgn g q) o1 ∧ IntAt w' pr (sgn g r) o2 ∧ Fr (fun k => k = pz ∨ k = pr) w w' ∧
    (∀ b, o1 = some b → w.heap.size ≤ b) ∧ (∀ b, o2 = some b → w.heap.size ≤ b) ∧ (∀ b, o1 = some b → o2 ≠ some b) ∧ Hi pz w w'

theorem quoRem_sg (pz px py pr m k : Nat) (g : Bool) (ox oy : Option Nat) (w : World) (hz : IntC w pz false (.slice none 0 0) none 0) (hx : IntAt w px (sgn g m) ox) (hy : IntAt w py ((10 ^ k : Nat) : Int) oy) (hr : IntC w pr false (.slice none 0 0) none 0)
    (nzx : pz ≠ px) (nzy : pz ≠ py) (nzr : pz ≠ pr) (nrx : pr ≠ px) (nry : pr ≠ py) (hm : m < W64 ^ 30) (hk : k ≤ 57 ∨ m < 10 ^ k) (hg : Gk w) :
    Calls Tryz.prog 149 #[ptr pz, ptr px, ptr py, ptr pr] w (QtS g w pz pr (m / 10 ^ k) (m % 10 ^ k)) := by
  obtain ⟨gx, vx, nx, Cx, ex⟩ := hx
  have enx : nx = m := by have := congrArg Int.natAbs ex; rw [sgn_natAbs, sgn_natAbs] at this; exact this.symm
  subst enx
  have hgx : nx ≠ 0 → gx = g := by
    intro h0
    cases g <;> cases gx <;> simp [sgn] at ex <;> first | rfl | omega
  obtain ⟨vy, Cy⟩ := hy.nat
  have fd : Fr (fun _ => False) w w.drew := Fr.drew _ w
  have hsz : 17 ≤ w.heap.size := by have h := World.block_lt_of_cell? w _ hg.g16; have h' : 16 < w.heap.size := h; omega
  have D := div_ten vx vy ox oy nx k w.drew (Cx.nat.frame fd (fun _ _ f => f)) (Cy.nat.frame fd (fun _ _ f => f)) hm hk (hg.frame fd (fun _ h => h.elim)) hsz
  have H := quoRem_any pz px py pr false gx false false _ vx vy _ none ox oy none 0 nx (10 ^ k) 0 w hz Cx Cy hr nzx nzy nzr nrx nry D
  refine H.mono ?_
  rintro e w1 ⟨v1, o1, v2, o2, rfl, h1, h2, hf, a1, a2, dis, hi⟩
  have e1 : sgn g (nx / 10 ^ k) = sgn (if nx / 10 ^ k = 0 then false else gx != false) (nx / 10 ^ k) := by
    split
    · rename_i h; rw [h, sgn_zero, sgn_zero]
    · rename_i h
      have : nx ≠ 0 := fun h0 => h (by rw [h0]; simp)
      rw [hgx this]; cases g <;> rfl
  have e2 : sgn g (nx % 10 ^ k) = sgn (if nx % 10 ^ k = 0 then false else gx) (nx % 10 ^ k) := by
    split
    · rename_i h; rw [h, sgn_zero, sgn_zero]
    · rename_i h
      have : nx ≠ 0 := fun h0 => h (by rw [h0]; simp)
      rw [hgx this]
  refine ⟨o1, o2, rfl, ⟨_, _, _, h1, e1⟩, ⟨_, _, _, h2, e2⟩, hf.mono ?_, ?_, ?_, dis, hi⟩
  · intro i _ h
    rcases h with h | h | h | h
    · exact Or.inl h
    · exact Or.inr h
    · cases h
    · cases h
  · intro b hb
    rcases a1 with e | ⟨b', e, hl⟩
    · rw [e] at hb; cases hb
    · rw [hb] at e; cases e; exact hl
  · intro b hb
    rcases a2 with e | ⟨b', e, hl⟩
    · rw [e] at hb; cases hb
    · rw [hb] at e; cases e; exact hl

/-- What Dec.quoRem comes to. -/
def DqEnd (w : World) (g : Bool) (s : Int) (pz pn pd q r d : Nat) (E : Ending) (w' : World) : Prop :=
  ∃ o1 o2 o3, E = .returned (.tuple #[ptr pz, ptr pn, ptr pd]) ∧ DecAt w' pz (sgn g q) s o1 ∧ IntAt w' pn (sgn g r) o2 ∧ IntAt w' pd ((d : Nat) : Int) o3 ∧ Fr (fun k => k = pz ∨ k = pn ∨ k = pd) w w'

/-- All that the last part of Dec.quoRem asks, at the world w1, dividend at pi, divisor at pj. -/
structure QtIn (w w1 : World) (g : Bool) (pz pn pd pi pj X k : Nat) (oi oj : Option Nat) : Prop where
  g1 : IntAt w1 pi (sgn g X) oi
  g2 : IntAt w1 pj ((10 ^ k : Nat) : Int) oj
  fr : Fr (fun _ => False) w w1
  iz : pi ≠ pz
  jz : pj ≠ pz
  jn : pj ≠ pn
  jd : pj ≠ pd

set_option maxHeartbeats 4000000 in
set_option maxRecDepth 100000 in
theorem dQuoRem_any (pz px py pn pd u : Nat) (g : Bool) (s e : Int) (a b : Nat) (ox oy : Option Nat) (w : World) (hz : IntC w pz false (.slice none 0 0) none 0) (cz : w.cell? ⟨pz, 2, none⟩ = some (.int .i32 0))
    (hx : DecAt w px (sgn g u) e ox) (hy : DecAt w py 1 0 oy) (hn : IntC w pn false (.slice none 0 0) none 0) (hd : IntC w pd false (.slice none 0 0) none 0)
    (nzx : pz ≠ px) (nzy : pz ≠ py) (nzn : pz ≠ pn) (nzd : pz ≠ pd) (nny : pn ≠ py) (nnd : pn ≠ pd) (ndy : pd ≠ py) (z17 : 17 ≤ pz)
    (hs1 : 0 ≤ s) (hs2 : s ≤ 9) (hab : s + (b : Int) = e + (a : Int)) (h0 : a = 0 ∨ b = 0) (ha : a ≤ 165) (hb : b ≤ 130) (hX : u * 10 ^ a < W64 ^ 30) (hk : b ≤ 57 ∨ u < 10 ^ b) (hg : Gk w) :
    Calls Tryz.prog 123 #[ptr pz, ptr px, ptr py, .int .i32 s, .bool true, ptr pn, ptr pd] w (DqEnd w g s pz pn pd (u * 10 ^ a / 10 ^ b) (u * 10 ^ a % 10 ^ b) (10 ^ b)) := by
  have A := Lib.hid (dScale_any px e w hx.c2)
  have B := Lib.hid (dScale_any py 0 w hy.c2)
  have Db := Lib.hid (dBig_any)
  have Ex := Lib.hid (fun (n : Nat) (hn : n ≤ 165) w' (f : Fr (fun _ => False) w w') => exp10_any n hn w' (hg.frame f (fun _ h => h.elim)))
  have hz0 : 17 ≤ w.heap.size := by have h := World.block_lt_of_cell? w _ hg.g16; have h' : 16 < w.heap.size := h; omega
  have hk' : b ≤ 57 ∨ u * 10 ^ a < 10 ^ b := by
    rcases hk with h | h
    · exact Or.inl h
    · rcases h0 with rfl | rfl
      · right; simpa using h
      · exact Or.inl (by omega)
  have hb30 : 10 ^ b < W64 ^ 30 := Nat.lt_of_le_of_lt (Nat.pow_le_pow_right (by omega) hb) (by unfold W64; decide +kernel)
  have up : ∀ (x : Nat), x < W64 ^ 30 → x < W64 ^ 100 := fun _ h => Nat.lt_of_lt_of_le h (Nat.pow_le_pow_right W64_pos (by omega))
  -- what the multiplications make
  have Mx := Lib.hid (fun (hb0 : b = 0) (w1 : World) (p1 : Nat) (o1 : Option Nat) (f : Fr (fun _ => False) (w.alloc (.cells #[.bool false, .slice none 0 0] 70)) w1) (h1 : IntAt w1 p1 ((10 ^ a : Nat) : Int) o1) (l1 : w.heap.size < p1) =>
    (show Calls Tryz.prog 30 #[.pointer (some ⟨w.heap.size, 0, none⟩), .pointer (some ⟨px, 0, none⟩), .pointer (some ⟨p1, 0, none⟩)] w1 (IntOp w1 w.heap.size none (ptr w.heap.size) (sgn g (u * 10 ^ a))) by
      have B := (IntC.boxed w false (.slice none 0 0) none 0 70 ⟨rfl, rfl⟩ (by simp)).frame f (fun f => f) (fun _ _ f => f)
      have f2 : Fr (fun _ => False) w (w.alloc (.cells #[.bool false, .slice none 0 0] 70)) := Fr.alloc _ _ _
      have f3 := f2.trans f (fun _ _ h => h)
      obtain ⟨gx, vx, nx, Cx, ex⟩ := hx.int.frame f3 (fun f => f) (fun _ _ f => f)
      have enx : nx = u := by have := congrArg Int.natAbs ex; rw [sgn_natAbs, sgn_natAbs] at this; exact this.symm
      subst enx
      obtain ⟨vy, Cy⟩ := h1.nat
      have hlx := hx.int.lt
      have h10 : 10 ^ a < W64 ^ 30 := Nat.lt_of_le_of_lt (Nat.pow_le_pow_right (by omega) ha) (by unfold W64; decide +kernel)
      have hu : nx < W64 ^ 30 := Nat.lt_of_le_of_lt (Nat.le_mul_of_pos_right _ (Nat.pow_pos (by omega))) hX
      have := iMul_any w.heap.size px p1 false gx false _ vx vy none ox o1 0 nx (10 ^ a) w1 B Cx Cy (by omega) (by omega) hu h10 (hg.frame f3 (fun _ h => h.elim))
      have e1 : sgn gx nx * sgn false (10 ^ a) = sgn g (nx * 10 ^ a) := by
        rw [← ex, sgn_mul10]
      rw [e1] at this
      exact this))
  have My := Lib.hid (fun (w1 : World) (p1 : Nat) (o1 : Option Nat) (f : Fr (fun _ => False) (w.alloc (.cells #[.bool false, .slice none 0 0] 70)) w1) (h1 : IntAt w1 p1 ((10 ^ b : Nat) : Int) o1) (l1 : w.heap.size < p1) =>
    (show Calls Tryz.prog 30 #[.pointer (some ⟨w.heap.size, 0, none⟩), .pointer (some ⟨py, 0, none⟩), .pointer (some ⟨p1, 0, none⟩)] w1 (IntOp w1 w.heap.size none (ptr w.heap.size) (((10 ^ b : Nat)) : Int)) by
      have B := (IntC.boxed w false (.slice none 0 0) none 0 70 ⟨rfl, rfl⟩ (by simp)).frame f (fun f => f) (fun _ _ f => f)
      have f2 : Fr (fun _ => False) w (w.alloc (.cells #[.bool false, .slice none 0 0] 70)) := Fr.alloc _ _ _
      have f3 := f2.trans f (fun _ _ h => h)
      have hy' : IntAt w py ((1 : Nat) : Int) oy := hy.int
      obtain ⟨vx, Cx⟩ := (hy'.frame f3 (fun f => f) (fun _ _ f => f)).nat
      obtain ⟨vy, Cy⟩ := h1.nat
      have hlx := hy.int.lt
      have := iMul_any w.heap.size py p1 false false false _ vx vy none oy o1 0 1 (10 ^ b) w1 B Cx Cy (by omega) (by omega) (by unfold W64; decide +kernel) hb30 (hg.frame f3 (fun _ h => h.elim))
      have e1 : sgn false 1 * sgn false (10 ^ b) = ((10 ^ b : Nat) : Int) := by simp [sgn]
      rw [e1] at this
      exact this))
  -- the last part
  have QR := Lib.hid (fun (w1 : World) (pi pj X : Nat) (oi oj : Option Nat) (h : QtIn w w1 g pz pn pd pi pj X b oi oj) (hX' : X < W64 ^ 30) (hkk : b ≤ 57 ∨ X < 10 ^ b) =>
    (show Calls Tryz.prog 149 #[.pointer (some ⟨pz, 0, none⟩), .pointer (some ⟨pi, 0, none⟩), .pointer (some ⟨pj, 0, none⟩), .pointer (some ⟨(w1.setCell ⟨pz, 2, none⟩ (.int .i32 s)).heap.size, 0, none⟩)] ((w1.setCell ⟨pz, 2, none⟩ (.int .i32 s)).alloc (.cells #[.bool false, .slice none 0 0] 70)) (QtS g ((w1.setCell ⟨pz, 2, none⟩ (.int .i32 s)).alloc (.cells #[.bool false, .slice none 0 0] 70)) pz (w1.setCell ⟨pz, 2, none⟩ (.int .i32 s)).heap.size (X / 10 ^ b) (X % 10 ^ b)) by
      obtain ⟨c1, c2⟩ := (hz.frame h.fr (fun f => f) (fun _ _ f => f)).set2 (.int .i32 s)
      have fa : Fr (fun _ => False) (w1.setCell ⟨pz, 2, none⟩ (.int .i32 s)) ((w1.setCell ⟨pz, 2, none⟩ (.int .i32 s)).alloc (.cells #[.bool false, .slice none 0 0] 70)) := Fr.alloc _ _ _
      have ni : oi ≠ some pz := by
        intro e; obtain ⟨_, v, _, C, _⟩ := h.g1
        exact C.nat.sto.ne_bool ((hz.frame h.fr (fun f => f) (fun _ _ f => f)).c0) e
      have nj : oj ≠ some pz := by
        intro e; obtain ⟨v, C⟩ := h.g2.nat
        exact C.nat.sto.ne_bool ((hz.frame h.fr (fun f => f) (fun _ _ f => f)).c0) e
      have i1 := (h.g1.frame c2 h.iz (fun b hb e => ni (e ▸ hb))).frame fa (fun f => f) (fun _ _ f => f)
      have j1 := (h.g2.frame c2 h.jz (fun b hb e => nj (e ▸ hb))).frame fa (fun f => f) (fun _ _ f => f)
      have sz := c2.size
      have l1 := h.fr.size
      have li := h.g1.lt
      have lj := h.g2.lt
      have lz := hz.lt
      refine quoRem_sg pz pi pj _ X b g oi oj _ (c1.frame fa (fun f => f) (fun _ _ f => f)) i1 j1 (IntC.boxed _ false _ none 0 70 ⟨rfl, rfl⟩ (by simp)) (fun e => h.iz e.symm) (fun e => h.jz e.symm) (by omega) (by omega) (by omega) hX' hkk ?_
      refine (hg.frame ((h.fr.mono (T := fun k => k = pz) (fun _ _ h => h.elim)).trans c2 (fun _ _ h => h)) ?_).frame fa (fun _ h => h.elim)
      intro k hk
      rw [hk]; exact z17))
  replace hz := Lib.hid hz
  replace hn := Lib.hid hn
  replace hd := Lib.hid hd
  replace hx := Lib.hid hx
  replace hy := Lib.hid hy
  replace cz := Lib.hid cz
  replace hg := Lib.hid hg
  replace hX := Lib.hid hX
  replace hk := Lib.hid hk
  replace hk' := Lib.hid hk'
  replace hb30 := Lib.hid hb30
  replace up := Lib.hid up
  have t1 : wrap32 e = e := by unfold wrap32; omega
  have t1' : IntKind.i32.wrap e = e := by rw [IntKind.wrap_i32]; omega
  have dX : Hid (∀ (x : Nat), x < W64 ^ 30 → x / 10 ^ b < W64 ^ 30 ∧ x % 10 ^ b < W64 ^ 100) := fun x h => ⟨Nat.lt_of_le_of_lt (Nat.div_le_self _ _) h, up.out _ (Nat.lt_of_le_of_lt (Nat.mod_le _ _) h)⟩
  by_cases e0 : a = 0 ∧ b = 0
  · obtain ⟨ea, eb⟩ := e0
    have t2 : wrap32 (s - e) = 0 := by unfold wrap32; omega
    have t2' : IntKind.i32.wrap (s - e) = 0 := by rw [IntKind.wrap_i32]; omega
    have t4 : (s - e) = 0 := by omega
    have hXu : u * 10 ^ a = u := by rw [ea]; simp
    have hY1 : ((10 ^ b : Nat) : Int) = 1 := by rw [eb]; simp
    have QIN : Hid (QtIn w w g pz pn pd px py (u * 10 ^ a) b ox oy) := ⟨by rw [hXu]; exact hx.out.int, by rw [hY1]; exact hy.out.int, Fr.refl _ _, fun e => nzx e.symm, fun e => nzy e.symm, fun e => nny e.symm, fun e => ndy e.symm⟩
    have hXb := Lib.hid hX.out
    obtain ⟨X, hXe⟩ : ∃ X, X = u * 10 ^ a := ⟨_, rfl⟩
    rw [← hXe] at QIN hXb hk' Mx ⊢
    replace hXe := Lib.hid hXe
    replace ea := Lib.hid ea
    replace eb := Lib.hid eb
    replace hab := Lib.hid hab
    replace ha := Lib.hid ha
    replace hb := Lib.hid hb
    clear hX hk h0 hXu hY1
    unfold ptr at *
    go_enter Tryz.func123, Tryz.ntmps123
    go_wp2_with fail
    refine A.out.mono ?_
    rintro r w9 ⟨rfl, rfl⟩
    go_wp2_with fail
    refine B.out.mono ?_
    rintro r w9 ⟨rfl, rfl⟩
    go_wp2_with fail
    refine (Db.out _ _).mono ?_
    rintro r w9 ⟨rfl, rfl⟩
    go_wp2_with fail
    refine (Db.out _ _).mono ?_
    rintro r w9 ⟨rfl, rfl⟩
    go_wp2_with fail
    have QI := QIN.out
    have zc := hz.out.frame QI.fr (fun f => f) (fun _ _ f => f)
    have cz1 := cell_frame cz.out QI.fr (fun f => f)
    have P1 : (binOp .eql 78 (.pointer (some ⟨py, 0, none⟩)) (.pointer (some ⟨pz, 0, none⟩))).run Tryz.prog w = .ok (.bool false) w :=
      ptr_eql_other w Tryz.underlying78 info70 (by intro e; exact QI.jz (congrArg Addr.block e)) QI.g2.plain zc.plain
    have SS := Lib.hid (dSetScale_any pz s _ w cz1 zc.plain)
    have QQ := Lib.hid (QR.out w px py X ox oy QI hXb.out hk'.out)
    obtain ⟨s1, s2⟩ := zc.set2 (.int .i32 s)
    have ws2 := Lib.hid (World.cell?_setCell_same w ⟨pz, 2, none⟩ (.int .i32 s) cz1)
    obtain ⟨w2, hw2⟩ : ∃ w2, w2 = w.setCell ⟨pz, 2, none⟩ (.int .i32 s) := ⟨_, rfl⟩
    rw [← hw2] at QQ SS s1 s2 ws2
    obtain ⟨w3, hw3⟩ : ∃ w3, w3 = w2.alloc (.cells #[.bool false, .slice none 0 0] 70) := ⟨_, rfl⟩
    have f3 : Fr (fun _ => False) w2 w3 := by rw [hw3]; exact Fr.alloc _ _ _
    have hl3 : w3.heap.size = w2.heap.size + 1 := by rw [hw3]; simp
    obtain ⟨pr, hpr⟩ : ∃ pr, pr = w2.heap.size := ⟨_, rfl⟩
    rw [← hw3, ← hpr] at QQ
    have nI : ox ≠ some pz := by intro e; obtain ⟨_, v, _, C, _⟩ := QI.g1; exact C.nat.sto.ne_bool zc.c0 e
    have nJ : oy ≠ some pz := by intro e; obtain ⟨v, C⟩ := QI.g2.nat; exact C.nat.sto.ne_bool zc.c0 e
    have gj3 := Lib.hid ((QI.g2.frame s2 QI.jz (fun b hb e => nJ (e ▸ hb))).frame f3 (fun f => f) (fun _ _ f => f))
    have hn3 := Lib.hid (((hn.out.frame QI.fr (fun f => f) (fun _ _ f => f)).frame s2 (fun e => nzn e.symm) (fun _ h => by cases h)).frame f3 (fun f => f) (fun _ _ f => f))
    have hd3 := Lib.hid (((hd.out.frame QI.fr (fun f => f) (fun _ _ f => f)).frame s2 (fun e => nzd e.symm) (fun _ h => by cases h)).frame f3 (fun f => f) (fun _ _ f => f))
    have z1 := QI.fr.size
    have z2 := s2.size
    have lj := QI.g2.lt
    have F13 := Lib.hid (((QI.fr.mono (T := fun k => k = pz) (fun _ _ h => h.elim)).trans s2 (fun _ _ h => h)).trans f3 (fun _ _ h => h.elim))
    have lpn := hn.out.lt
    have lpd := hd.out.lt
    have npr : pn ≠ pr ∧ pd ≠ pr ∧ py ≠ pr ∧ w.heap.size ≤ pr := by omega
    replace npr := Lib.hid npr
    have ws3 := Lib.hid (show w3.cell? ⟨pz, 2, none⟩ = some (.int .i32 s) from cell_frame ws2.out f3 (fun f => f))
    replace lpn := Lib.hid lpn
    replace lpd := Lib.hid lpd
    replace lj := Lib.hid lj
    replace z1 := Lib.hid z1
    replace z2 := Lib.hid z2
    replace nI := Lib.hid nI
    replace nJ := Lib.hid nJ
    replace s1 := Lib.hid s1
    replace s2 := Lib.hid s2
    replace f3 := Lib.hid f3
    replace hl3 := Lib.hid hl3
    replace hw2 := Lib.hid hw2
    replace hw3 := Lib.hid hw3
    replace hpr := Lib.hid hpr
    replace zc := Lib.hid zc
    replace QI := Lib.hid QI
    clear cz1
    try unfold ptr at *
    go_wp2_with fail
    refine (Db.out _ _).mono ?_
    rintro r w9 ⟨rfl, rfl⟩
    go_wp2_with fail
    refine SS.out.mono ?_
    rintro r w9 ⟨rfl, rfl⟩
    clear P1 SS
    go_wp2_with fail
    refine (Db.out _ _).mono ?_
    rintro r w9 ⟨rfl, rfl⟩
    go_wp2_with fail
    rw [← hw3.out, ← hpr.out]
    refine QQ.out.mono ?_
    rintro r w4 ⟨o1, o2, rfl, q1, q2, qf, a1, a2, dis, hi⟩
    have n1 : ¬ (pn = pz ∨ pn = pr) := by rintro (e | e); exact nzn e.symm; exact npr.out.1 e
    have n2 : ¬ (pd = pz ∨ pd = pr) := by rintro (e | e); exact nzd e.symm; exact npr.out.2.1 e
    have n3 : ¬ (py = pz ∨ py = pr) := by rintro (e | e); exact QI.out.jz e; exact npr.out.2.2.1 e
    have hn4 := hn3.out.frame qf n1 (fun _ h => by cases h)
    have hd4 := hd3.out.frame qf n2 (fun _ h => by cases h)
    have gj4 := gj3.out.frame qf n3 (fun b hb e => by
      obtain ⟨v, C⟩ := gj3.out.nat
      rcases e with e | e
      · exact nJ.out (e ▸ hb)
      · subst hb
        have h1 := C.nat.lt
        have h2 := QI.out.g2.ob_lt
        have h3 := npr.out; have h4 := hpr.out; have h5 := z2.out
        omega)
    obtain ⟨gr, vr, nr, Cr, er⟩ := q2
    have I1 := Lib.hid (iset_any pn pr false gr _ vr none o2 0 nr w4 hn4 Cr npr.out.1 (by have := congrArg Int.natAbs er; rw [sgn_natAbs, sgn_natAbs] at this; rw [← this]; exact (dX.out _ hXb.out).2))
    have d1 := Lib.hid (show DecAt w4 pz _ s o1 from ⟨q1, Eq.trans hi ws3.out⟩)
    replace q1 := Lib.hid q1
    replace er := Lib.hid er
    replace qf := Lib.hid qf
    replace a1 := Lib.hid a1
    replace a2 := Lib.hid a2
    replace dis := Lib.hid dis
    replace hi := Lib.hid hi
    replace hn4 := Lib.hid hn4
    replace hd4 := Lib.hid hd4
    replace gj4 := Lib.hid gj4
    clear QQ Cr
    try unfold ptr at *
    go_wp2_with fail
    refine I1.out.mono ?_
    rintro r w5 ⟨v5, o5, rfl, m1, m2, m3, m4⟩
    have oj0 : oy ≠ some pn := by intro e; obtain ⟨v, C⟩ := gj4.out.nat; exact C.nat.sto.ne_bool hn4.out.c0 e
    have hd5 := hd4.out.frame m2 (fun e => by rcases e with e | e; exact nnd e.symm; cases e) (fun _ h => by cases h)
    obtain ⟨vj, Cj⟩ := (gj4.out.frame m2 (fun e => by rcases e with e | e; exact QI.out.jn e; cases e) (fun b hb e => by rcases e with e | e; exact oj0 (e ▸ hb); cases e)).nat
    have I2 := Lib.hid (iset_any pd py false false _ vj none oy 0 _ w5 hd5 Cj (fun e => QI.out.jd e.symm) (up.out _ hb30.out))
    have o10 : o1 ≠ some pn := by intro e; obtain ⟨_, v, _, C, _⟩ := q1.out; exact C.nat.sto.ne_bool hn4.out.c0 e
    have d2 := Lib.hid (d1.out.frame m2 (fun e => by rcases e with e | e; exact nzn e; cases e) (fun b hb e => by rcases e with e | e; exact o10 (e ▸ hb); cases e))
    replace m1 := Lib.hid m1
    replace m2 := Lib.hid m2
    replace m3 := Lib.hid m3
    replace m4 := Lib.hid m4
    replace hd5 := Lib.hid hd5
    clear I1 Cj
    try unfold ptr at *
    go_wp2_with fail
    refine I2.out.mono ?_
    rintro r w6 ⟨v6, o6, rfl, p1, p2, p3, p4⟩
    have o11 : o1 ≠ some pd := by intro e; obtain ⟨_, v, _, C, _⟩ := d2.out.int; exact C.nat.sto.ne_bool hd5.out.c0 e
    have o51 : o5 ≠ some pd := by intro e; exact m1.out.nat.sto.ne_bool hd5.out.c0 e
    have d3 := d2.out.frame p2 (fun e => by rcases e with e | e; exact nzd e; cases e) (fun b hb e => by rcases e with e | e; exact o11 (e ▸ hb); cases e)
    have m1' := m1.out.frame p2 (fun e => by rcases e with e | e; exact nnd e; cases e) (fun b hb e => by rcases e with e | e; exact o51 (e ▸ hb); cases e)
    have FIN : DqEnd w g s pz pn pd (X / 10 ^ b) (X % 10 ^ b) (10 ^ b) (.returned (.tuple #[ptr pz, ptr pn, ptr pd])) w6 := by
      refine ⟨o1, o5, o6, rfl, d3, ⟨_, _, _, m1', er.out⟩, ⟨_, _, _, p1, rfl⟩, ((F13.out.mono (fun _ _ h => Or.inl h)).trans qf.out ?_ |>.trans m2.out ?_).trans p2 ?_⟩
      · intro k hk e
        rcases e with e | e
        · exact Or.inl e
        · have := npr.out.2.2.2; omega
      · intro k hk e
        rcases e with e | e
        · exact Or.inr (Or.inl e)
        · cases e
      · intro k hk e
        rcases e with e | e
        · exact Or.inr (Or.inr e)
        · cases e
    replace FIN := Lib.hid FIN
    replace p1 := Lib.hid p1
    replace p2 := Lib.hid p2
    replace p3 := Lib.hid p3
    replace p4 := Lib.hid p4
    replace d3 := Lib.hid d3
    replace m1' := Lib.hid m1'
    unfold ptr at FIN
    go_wp2_with fail
    go_ret3
    exact FIN.out
  · by_cases hb0 : b = 0
    · have ha0 : a ≠ 0 := fun h => e0 ⟨h, hb0⟩
      have t2 : wrap32 (s - e) = (a : Int) := by unfold wrap32; omega
      have t2' : IntKind.i32.wrap (s - e) = (a : Int) := by rw [IntKind.wrap_i32]; omega
      have hpos : (0 : Int) < (a : Int) := by omega
      have hY1 : Hid (((10 ^ b : Nat) : Int) = 1) := by show _ = _; rw [hb0]; simp
      have hXb := Lib.hid hX.out
      replace Mx := Lib.hid (Mx.out hb0)
      obtain ⟨X, hXe⟩ : ∃ X, X = u * 10 ^ a := ⟨_, rfl⟩
      rw [← hXe] at hXb hk' Mx ⊢
      replace hXe := Lib.hid hXe
      replace hab := Lib.hid hab
      replace hb0 := Lib.hid hb0
      replace hb := Lib.hid hb
      clear hX hk h0 e0
      have al : Fr (fun _ => False) w (w.alloc (.cells #[.bool false, .slice none 0 0] 70)) := Fr.alloc _ _ _
      have Ex2 := Lib.hid (Ex.out a (by omega) _ al)
      obtain ⟨wa, hwa⟩ : ∃ wa, wa = w.alloc (.cells #[.bool false, .slice none 0 0] 70) := ⟨_, rfl⟩
      obtain ⟨pm, hpm⟩ : ∃ pm, pm = w.heap.size := ⟨_, rfl⟩
      have la : Hid (wa.heap.size = w.heap.size + 1) := by show _ = _; rw [hwa]; simp
      rw [← hwa] at Ex2 al Mx My
      rw [← hpm] at Mx My
      replace hwa := Lib.hid hwa
      replace hpm := Lib.hid hpm
      replace al := Lib.hid al
      replace ha := Lib.hid ha
      unfold ptr at *
      go_enter Tryz.func123, Tryz.ntmps123
      go_wp2_with fail
      refine A.out.mono ?_
      rintro r w9 ⟨rfl, rfl⟩
      go_wp2_with fail
      refine B.out.mono ?_
      rintro r w9 ⟨rfl, rfl⟩
      go_wp2_with fail
      rw [← hwa.out, ← hpm.out]
      refine (Db.out _ _).mono ?_
      rintro r w9 ⟨rfl, rfl⟩
      go_wp2_with fail
      refine Ex2.out.mono ?_
      rintro r wb ⟨pe, oe, rfl, x1, x2, x3, x4⟩
      have M2 := Lib.hid (Mx.out wb pe oe x2 x1 (by have := la.out; have := hpm.out; omega))
      replace x1 := Lib.hid x1
      replace x2 := Lib.hid x2
      replace x3 := Lib.hid x3
      replace x4 := Lib.hid x4
      clear Ex2 Mx My
      try unfold ptr at *
      go_wp2_with fail
      refine M2.out.mono ?_
      rintro r w1 ⟨om, rfl, g1, g2, g3, g4⟩
      have FF : Fr (fun _ => False) w w1 := (al.out.trans x2.out (fun _ _ h => h)).trans g2 (by
        intro k hk e
        rcases e with e | e
        · have := hpm.out; omega
        · cases e)
      have QIN : Hid (QtIn w w1 g pz pn pd pm py X b om oy) := by
        have l1 := hz.out.lt
        have h := hpm.out
        exact ⟨g1, by rw [hY1.out]; exact hy.out.int.frame FF (fun f => f) (fun _ _ f => f), FF, by omega, fun e => nzy e.symm, fun e => nny e.symm, fun e => ndy e.symm⟩
      replace FF := Lib.hid FF
      replace g1 := Lib.hid g1
      replace g2 := Lib.hid g2
      replace g3 := Lib.hid g3
      replace g4 := Lib.hid g4
      clear M2
      try unfold ptr at *
      go_wp2_with fail
      refine (Db.out _ _).mono ?_
      rintro r w9 ⟨rfl, rfl⟩
      go_wp2_with fail
      have QI := QIN.out
      have zc := hz.out.frame QI.fr (fun f => f) (fun _ _ f => f)
      have cz1 := cell_frame cz.out QI.fr (fun f => f)
      have P1 : (binOp .eql 78 (.pointer (some ⟨py, 0, none⟩)) (.pointer (some ⟨pz, 0, none⟩))).run Tryz.prog w1 = .ok (.bool false) w1 :=
        ptr_eql_other w1 Tryz.underlying78 info70 (by intro e; exact QI.jz (congrArg Addr.block e)) QI.g2.plain zc.plain
      have SS := Lib.hid (dSetScale_any pz s _ w1 cz1 zc.plain)
      have QQ := Lib.hid (QR.out w1 pm py X om oy QI hXb.out hk'.out)
      obtain ⟨s1, s2⟩ := zc.set2 (.int .i32 s)
      have ws2 := Lib.hid (World.cell?_setCell_same w1 ⟨pz, 2, none⟩ (.int .i32 s) cz1)
      obtain ⟨w2, hw2⟩ : ∃ w2, w2 = w1.setCell ⟨pz, 2, none⟩ (.int .i32 s) := ⟨_, rfl⟩
      rw [← hw2] at QQ SS s1 s2 ws2
      obtain ⟨w3, hw3⟩ : ∃ w3, w3 = w2.alloc (.cells #[.bool false, .slice none 0 0] 70) := ⟨_, rfl⟩
      have f3 : Fr (fun _ => False) w2 w3 := by rw [hw3]; exact Fr.alloc _ _ _
      have hl3 : w3.heap.size = w2.heap.size + 1 := by rw [hw3]; simp
      obtain ⟨pr, hpr⟩ : ∃ pr, pr = w2.heap.size := ⟨_, rfl⟩
      rw [← hw3, ← hpr] at QQ
      have nI : om ≠ some pz := by intro e; obtain ⟨_, v, _, C, _⟩ := QI.g1; exact C.nat.sto.ne_bool zc.c0 e
      have nJ : oy ≠ some pz := by intro e; obtain ⟨v, C⟩ := QI.g2.nat; exact C.nat.sto.ne_bool zc.c0 e
      have gj3 := Lib.hid ((QI.g2.frame s2 QI.jz (fun b hb e => nJ (e ▸ hb))).frame f3 (fun f => f) (fun _ _ f => f))
      have hn3 := Lib.hid (((hn.out.frame QI.fr (fun f => f) (fun _ _ f => f)).frame s2 (fun e => nzn e.symm) (fun _ h => by cases h)).frame f3 (fun f => f) (fun _ _ f => f))
      have hd3 := Lib.hid (((hd.out.frame QI.fr (fun f => f) (fun _ _ f => f)).frame s2 (fun e => nzd e.symm) (fun _ h => by cases h)).frame f3 (fun f => f) (fun _ _ f => f))
      have z1 := QI.fr.size
      have z2 := s2.size
      have lj := QI.g2.lt
      have F13 := Lib.hid (((QI.fr.mono (T := fun k => k = pz) (fun _ _ h => h.elim)).trans s2 (fun _ _ h => h)).trans f3 (fun _ _ h => h.elim))
      have lpn := hn.out.lt
      have lpd := hd.out.lt
      have npr : pn ≠ pr ∧ pd ≠ pr ∧ py ≠ pr ∧ w.heap.size ≤ pr := by omega
      replace npr := Lib.hid npr
      have ws3 := Lib.hid (show w3.cell? ⟨pz, 2, none⟩ = some (.int .i32 s) from cell_frame ws2.out f3 (fun f => f))
      replace lpn := Lib.hid lpn
      replace lpd := Lib.hid lpd
      replace lj := Lib.hid lj
      replace z1 := Lib.hid z1
      replace z2 := Lib.hid z2
      replace nI := Lib.hid nI
      replace nJ := Lib.hid nJ
      replace s1 := Lib.hid s1
      replace s2 := Lib.hid s2
      replace f3 := Lib.hid f3
      replace hl3 := Lib.hid hl3
      replace hw2 := Lib.hid hw2
      replace hw3 := Lib.hid hw3
      replace hpr := Lib.hid hpr
      replace zc := Lib.hid zc
      replace QI := Lib.hid QI
      clear cz1
      try unfold ptr at *
      go_wp2_with fail
      refine (Db.out _ _).mono ?_
      rintro r w9 ⟨rfl, rfl⟩
      go_wp2_with fail
      refine SS.out.mono ?_
      rintro r w9 ⟨rfl, rfl⟩
      clear P1 SS
      go_wp2_with fail
      refine (Db.out _ _).mono ?_
      rintro r w9 ⟨rfl, rfl⟩
      go_wp2_with fail
      rw [← hw3.out, ← hpr.out]
      refine QQ.out.mono ?_
      rintro r w4 ⟨o1, o2, rfl, q1, q2, qf, a1, a2, dis, hi⟩
      have n1 : ¬ (pn = pz ∨ pn = pr) := by rintro (e | e); exact nzn e.symm; exact npr.out.1 e
      have n2 : ¬ (pd = pz ∨ pd = pr) := by rintro (e | e); exact nzd e.symm; exact npr.out.2.1 e
      have n3 : ¬ (py = pz ∨ py = pr) := by rintro (e | e); exact QI.out.jz e; exact npr.out.2.2.1 e
      have hn4 := hn3.out.frame qf n1 (fun _ h => by cases h)
      have hd4 := hd3.out.frame qf n2 (fun _ h => by cases h)
      have gj4 := gj3.out.frame qf n3 (fun b hb e => by
        obtain ⟨v, C⟩ := gj3.out.nat
        rcases e with e | e
        · exact nJ.out (e ▸ hb)
        · subst hb
          have h1 := C.nat.lt
          have h2 := QI.out.g2.ob_lt
          have h3 := npr.out; have h4 := hpr.out; have h5 := z2.out
          omega)
      obtain ⟨gr, vr, nr, Cr, er⟩ := q2
      have I1 := Lib.hid (iset_any pn pr false gr _ vr none o2 0 nr w4 hn4 Cr npr.out.1 (by have := congrArg Int.natAbs er; rw [sgn_natAbs, sgn_natAbs] at this; rw [← this]; exact (dX.out _ hXb.out).2))
      have d1 := Lib.hid (show DecAt w4 pz _ s o1 from ⟨q1, Eq.trans hi ws3.out⟩)
      replace q1 := Lib.hid q1
      replace er := Lib.hid er
      replace qf := Lib.hid qf
      replace a1 := Lib.hid a1
      replace a2 := Lib.hid a2
      replace dis := Lib.hid dis
      replace hi := Lib.hid hi
      replace hn4 := Lib.hid hn4
      replace hd4 := Lib.hid hd4
      replace gj4 := Lib.hid gj4
      clear QQ Cr
      try unfold ptr at *
      go_wp2_with fail
      refine I1.out.mono ?_
      rintro r w5 ⟨v5, o5, rfl, m1, m2, m3, m4⟩
      have oj0 : oy ≠ some pn := by intro e; obtain ⟨v, C⟩ := gj4.out.nat; exact C.nat.sto.ne_bool hn4.out.c0 e
      have hd5 := hd4.out.frame m2 (fun e => by rcases e with e | e; exact nnd e.symm; cases e) (fun _ h => by cases h)
      obtain ⟨vj, Cj⟩ := (gj4.out.frame m2 (fun e => by rcases e with e | e; exact QI.out.jn e; cases e) (fun b hb e => by rcases e with e | e; exact oj0 (e ▸ hb); cases e)).nat
      have I2 := Lib.hid (iset_any pd py false false _ vj none oy 0 _ w5 hd5 Cj (fun e => QI.out.jd e.symm) (up.out _ hb30.out))
      have o10 : o1 ≠ some pn := by intro e; obtain ⟨_, v, _, C, _⟩ := q1.out; exact C.nat.sto.ne_bool hn4.out.c0 e
      have d2 := Lib.hid (d1.out.frame m2 (fun e => by rcases e with e | e; exact nzn e; cases e) (fun b hb e => by rcases e with e | e; exact o10 (e ▸ hb); cases e))
      replace m1 := Lib.hid m1
      replace m2 := Lib.hid m2
      replace m3 := Lib.hid m3
      replace m4 := Lib.hid m4
      replace hd5 := Lib.hid hd5
      clear I1 Cj
      try unfold ptr at *
      go_wp2_with fail
      refine I2.out.mono ?_
      rintro r w6 ⟨v6, o6, rfl, p1, p2, p3, p4⟩
      have o11 : o1 ≠ some pd := by intro e; obtain ⟨_, v, _, C, _⟩ := d2.out.int; exact C.nat.sto.ne_bool hd5.out.c0 e
      have o51 : o5 ≠ some pd := by intro e; exact m1.out.nat.sto.ne_bool hd5.out.c0 e
      have d3 := d2.out.frame p2 (fun e => by rcases e with e | e; exact nzd e; cases e) (fun b hb e => by rcases e with e | e; exact o11 (e ▸ hb); cases e)
      have m1' := m1.out.frame p2 (fun e => by rcases e with e | e; exact nnd e; cases e) (fun b hb e => by rcases e with e | e; exact o51 (e ▸ hb); cases e)
      have FIN : DqEnd w g s pz pn pd (X / 10 ^ b) (X % 10 ^ b) (10 ^ b) (.returned (.tuple #[ptr pz, ptr pn, ptr pd])) w6 := by
        refine ⟨o1, o5, o6, rfl, d3, ⟨_, _, _, m1', er.out⟩, ⟨_, _, _, p1, rfl⟩, ((F13.out.mono (fun _ _ h => Or.inl h)).trans qf.out ?_ |>.trans m2.out ?_).trans p2 ?_⟩
        · intro k hk e
          rcases e with e | e
          · exact Or.inl e
          · have := npr.out.2.2.2; omega
        · intro k hk e
          rcases e with e | e
          · exact Or.inr (Or.inl e)
          · cases e
        · intro k hk e
          rcases e with e | e
          · exact Or.inr (Or.inr e)
          · cases e
      replace FIN := Lib.hid FIN
      replace p1 := Lib.hid p1
      replace p2 := Lib.hid p2
      replace p3 := Lib.hid p3
      replace p4 := Lib.hid p4
      replace d3 := Lib.hid d3
      replace m1' := Lib.hid m1'
      unfold ptr at FIN
      go_wp2_with fail
      go_ret3
      exact FIN.out
    · obtain rfl : a = 0 := by omega
      obtain ⟨nb, hnb⟩ : ∃ nb : Int, nb = -(b : Int) := ⟨_, rfl⟩
      have t2 : wrap32 (s - e) = nb := by unfold wrap32; omega
      have t2' : IntKind.i32.wrap (s - e) = nb := by rw [IntKind.wrap_i32]; omega
      have n1 : nb < 0 := by omega
      have n2 : ¬ (0 < nb) := by omega
      have t5 : wrap32 (-nb) = (b : Int) := by unfold wrap32; omega
      have t5' : IntKind.i32.wrap (-nb) = (b : Int) := by rw [IntKind.wrap_i32]; omega
      have hXu : Hid (u * 10 ^ 0 = u) := by show _ = _; simp
      have hXb := Lib.hid hX.out
      obtain ⟨X, hXe⟩ : ∃ X, X = u * 10 ^ 0 := ⟨_, rfl⟩
      rw [← hXe] at hXb hk' Mx hXu ⊢
      replace hXe := Lib.hid hXe
      replace hab := Lib.hid hab
      replace ha := Lib.hid ha
      replace hnb := Lib.hid hnb
      clear hX hk h0 e0
      have al : Fr (fun _ => False) w (w.alloc (.cells #[.bool false, .slice none 0 0] 70)) := Fr.alloc _ _ _
      have Ex2 := Lib.hid (Ex.out b (by omega) _ al)
      obtain ⟨wa, hwa⟩ : ∃ wa, wa = w.alloc (.cells #[.bool false, .slice none 0 0] 70) := ⟨_, rfl⟩
      obtain ⟨pm, hpm⟩ : ∃ pm, pm = w.heap.size := ⟨_, rfl⟩
      have la : Hid (wa.heap.size = w.heap.size + 1) := by show _ = _; rw [hwa]; simp
      rw [← hwa] at Ex2 al Mx My
      rw [← hpm] at Mx My
      replace hwa := Lib.hid hwa
      replace hpm := Lib.hid hpm
      replace al := Lib.hid al
      replace hb := Lib.hid hb
      unfold ptr at *
      go_enter Tryz.func123, Tryz.ntmps123
      go_wp2_with fail
      refine A.out.mono ?_
      rintro r w9 ⟨rfl, rfl⟩
      go_wp2_with fail
      refine B.out.mono ?_
      rintro r w9 ⟨rfl, rfl⟩
      go_wp2_with fail
      refine (Db.out _ _).mono ?_
      rintro r w9 ⟨rfl, rfl⟩
      go_wp2_with fail
      rw [← hwa.out, ← hpm.out]
      refine (Db.out _ _).mono ?_
      rintro r w9 ⟨rfl, rfl⟩
      go_wp2_with fail
      refine Ex2.out.mono ?_
      rintro r wb ⟨pe, oe, rfl, x1, x2, x3, x4⟩
      have M2 := Lib.hid (My.out wb pe oe x2 x1 (by have := la.out; have := hpm.out; omega))
      replace x1 := Lib.hid x1
      replace x2 := Lib.hid x2
      replace x3 := Lib.hid x3
      replace x4 := Lib.hid x4
      clear Ex2 Mx My
      try unfold ptr at *
      go_wp2_with fail
      refine M2.out.mono ?_
      rintro r w1 ⟨om, rfl, g1, g2, g3, g4⟩
      have FF : Fr (fun _ => False) w w1 := (al.out.trans x2.out (fun _ _ h => h)).trans g2 (by
        intro k hk e
        rcases e with e | e
        · have := hpm.out; omega
        · cases e)
      have QIN : Hid (QtIn w w1 g pz pn pd px pm X b ox om) := by
        have l1 := hz.out.lt
        have l2 := hn.out.lt
        have l3 := hd.out.lt
        have h := hpm.out
        exact ⟨by rw [hXu.out]; exact hx.out.int.frame FF (fun f => f) (fun _ _ f => f), g1, FF, fun e => nzx e.symm, by omega, by omega, by omega⟩
      replace FF := Lib.hid FF
      replace g1 := Lib.hid g1
      replace g2 := Lib.hid g2
      replace g3 := Lib.hid g3
      replace g4 := Lib.hid g4
      clear M2
      try unfold ptr at *
      have QI := QIN.out
      have zc := hz.out.frame QI.fr (fun f => f) (fun _ _ f => f)
      have cz1 := cell_frame cz.out QI.fr (fun f => f)
      have P1 : (binOp .eql 78 (.pointer (some ⟨pm, 0, none⟩)) (.pointer (some ⟨pz, 0, none⟩))).run Tryz.prog w1 = .ok (.bool false) w1 :=
        ptr_eql_other w1 Tryz.underlying78 info70 (by intro e; exact QI.jz (congrArg Addr.block e)) QI.g2.plain zc.plain
      have SS := Lib.hid (dSetScale_any pz s _ w1 cz1 zc.plain)
      have QQ := Lib.hid (QR.out w1 px pm X ox om QI hXb.out hk'.out)
      obtain ⟨s1, s2⟩ := zc.set2 (.int .i32 s)
      have ws2 := Lib.hid (World.cell?_setCell_same w1 ⟨pz, 2, none⟩ (.int .i32 s) cz1)
      obtain ⟨w2, hw2⟩ : ∃ w2, w2 = w1.setCell ⟨pz, 2, none⟩ (.int .i32 s) := ⟨_, rfl⟩
      rw [← hw2] at QQ SS s1 s2 ws2
      obtain ⟨w3, hw3⟩ : ∃ w3, w3 = w2.alloc (.cells #[.bool false, .slice none 0 0] 70) := ⟨_, rfl⟩
      have f3 : Fr (fun _ => False) w2 w3 := by rw [hw3]; exact Fr.alloc _ _ _
      have hl3 : w3.heap.size = w2.heap.size + 1 := by rw [hw3]; simp
      obtain ⟨pr, hpr⟩ : ∃ pr, pr = w2.heap.size := ⟨_, rfl⟩
      rw [← hw3, ← hpr] at QQ
      have nI : ox ≠ some pz := by intro e; obtain ⟨_, v, _, C, _⟩ := QI.g1; exact C.nat.sto.ne_bool zc.c0 e
      have nJ : om ≠ some pz := by intro e; obtain ⟨v, C⟩ := QI.g2.nat; exact C.nat.sto.ne_bool zc.c0 e
      have gj3 := Lib.hid ((QI.g2.frame s2 QI.jz (fun b hb e => nJ (e ▸ hb))).frame f3 (fun f => f) (fun _ _ f => f))
      have hn3 := Lib.hid (((hn.out.frame QI.fr (fun f => f) (fun _ _ f => f)).frame s2 (fun e => nzn e.symm) (fun _ h => by cases h)).frame f3 (fun f => f) (fun _ _ f => f))
      have hd3 := Lib.hid (((hd.out.frame QI.fr (fun f => f) (fun _ _ f => f)).frame s2 (fun e => nzd e.symm) (fun _ h => by cases h)).frame f3 (fun f => f) (fun _ _ f => f))
      have z1 := QI.fr.size
      have z2 := s2.size
      have lj := QI.g2.lt
      have F13 := Lib.hid (((QI.fr.mono (T := fun k => k = pz) (fun _ _ h => h.elim)).trans s2 (fun _ _ h => h)).trans f3 (fun _ _ h => h.elim))
      have lpn := hn.out.lt
      have lpd := hd.out.lt
      have npr : pn ≠ pr ∧ pd ≠ pr ∧ pm ≠ pr ∧ w.heap.size ≤ pr := by omega
      replace npr := Lib.hid npr
      have ws3 := Lib.hid (show w3.cell? ⟨pz, 2, none⟩ = some (.int .i32 s) from cell_frame ws2.out f3 (fun f => f))
      replace lpn := Lib.hid lpn
      replace lpd := Lib.hid lpd
      replace lj := Lib.hid lj
      replace z1 := Lib.hid z1
      replace z2 := Lib.hid z2
      replace nI := Lib.hid nI
      replace nJ := Lib.hid nJ
      replace s1 := Lib.hid s1
      replace s2 := Lib.hid s2
      replace f3 := Lib.hid f3
      replace hl3 := Lib.hid hl3
      replace hw2 := Lib.hid hw2
      replace hw3 := Lib.hid hw3
      replace hpr := Lib.hid hpr
      replace zc := Lib.hid zc
      replace QI := Lib.hid QI
      clear cz1
      try unfold ptr at *
      go_wp2_with fail
      refine (Db.out _ _).mono ?_
      rintro r w9 ⟨rfl, rfl⟩
      go_wp2_with fail
      refine SS.out.mono ?_
      rintro r w9 ⟨rfl, rfl⟩
      clear P1 SS
      go_wp2_with fail
      refine (Db.out _ _).mono ?_
      rintro r w9 ⟨rfl, rfl⟩
      go_wp2_with fail
      rw [← hw3.out, ← hpr.out]
      refine QQ.out.mono ?_
      rintro r w4 ⟨o1, o2, rfl, q1, q2, qf, a1, a2, dis, hi⟩
      have n1 : ¬ (pn = pz ∨ pn = pr) := by rintro (e | e); exact nzn e.symm; exact npr.out.1 e
      have n2 : ¬ (pd = pz ∨ pd = pr) := by rintro (e | e); exact nzd e.symm; exact npr.out.2.1 e
      have n3 : ¬ (pm = pz ∨ pm = pr) := by rintro (e | e); exact QI.out.jz e; exact npr.out.2.2.1 e
      have hn4 := hn3.out.frame qf n1 (fun _ h => by cases h)
      have hd4 := hd3.out.frame qf n2 (fun _ h => by cases h)
      have gj4 := gj3.out.frame qf n3 (fun b hb e => by
        obtain ⟨v, C⟩ := gj3.out.nat
        rcases e with e | e
        · exact nJ.out (e ▸ hb)
        · subst hb
          have h1 := C.nat.lt
          have h2 := QI.out.g2.ob_lt
          have h3 := npr.out; have h4 := hpr.out; have h5 := z2.out
          omega)
      obtain ⟨gr, vr, nr, Cr, er⟩ := q2
      have I1 := Lib.hid (iset_any pn pr false gr _ vr none o2 0 nr w4 hn4 Cr npr.out.1 (by have := congrArg Int.natAbs er; rw [sgn_natAbs, sgn_natAbs] at this; rw [← this]; exact (dX.out _ hXb.out).2))
      have d1 := Lib.hid (show DecAt w4 pz _ s o1 from ⟨q1, Eq.trans hi ws3.out⟩)
      replace q1 := Lib.hid q1
      replace er := Lib.hid er
      replace qf := Lib.hid qf
      replace a1 := Lib.hid a1
      replace a2 := Lib.hid a2
      replace dis := Lib.hid dis
      replace hi := Lib.hid hi
      replace hn4 := Lib.hid hn4
      replace hd4 := Lib.hid hd4
      replace gj4 := Lib.hid gj4
      clear QQ Cr
      try unfold ptr at *
      go_wp2_with fail
      refine I1.out.mono ?_
      rintro r w5 ⟨v5, o5, rfl, m1, m2, m3, m4⟩
      have oj0 : om ≠ some pn := by intro e; obtain ⟨v, C⟩ := gj4.out.nat; exact C.nat.sto.ne_bool hn4.out.c0 e
      have hd5 := hd4.out.frame m2 (fun e => by rcases e with e | e; exact nnd e.symm; cases e) (fun _ h => by cases h)
      obtain ⟨vj, Cj⟩ := (gj4.out.frame m2 (fun e => by rcases e with e | e; exact QI.out.jn e; cases e) (fun b hb e => by rcases e with e | e; exact oj0 (e ▸ hb); cases e)).nat
      have I2 := Lib.hid (iset_any pd pm false false _ vj none om 0 _ w5 hd5 Cj (fun e => QI.out.jd e.symm) (up.out _ hb30.out))
      have o10 : o1 ≠ some pn := by intro e; obtain ⟨_, v, _, C, _⟩ := q1.out; exact C.nat.sto.ne_bool hn4.out.c0 e
      have d2 := Lib.hid (d1.out.frame m2 (fun e => by rcases e with e | e; exact nzn e; cases e) (fun b hb e => by rcases e with e | e; exact o10 (e ▸ hb); cases e))
      replace m1 := Lib.hid m1
      replace m2 := Lib.hid m2
      replace m3 := Lib.hid m3
      replace m4 := Lib.hid m4
      replace hd5 := Lib.hid hd5
      clear I1 Cj
      try unfold ptr at *
      go_wp2_with fail
      refine I2.out.mono ?_
      rintro r w6 ⟨v6, o6, rfl, p1, p2, p3, p4⟩
      have o11 : o1 ≠ some pd := by intro e; obtain ⟨_, v, _, C, _⟩ := d2.out.int; exact C.nat.sto.ne_bool hd5.out.c0 e
      have o51 : o5 ≠ some pd := by intro e; exact m1.out.nat.sto.ne_bool hd5.out.c0 e
      have d3 := d2.out.frame p2 (fun e => by rcases e with e | e; exact nzd e; cases e) (fun b hb e => by rcases e with e | e; exact o11 (e ▸ hb); cases e)
      have m1' := m1.out.frame p2 (fun e => by rcases e with e | e; exact nnd e; cases e) (fun b hb e => by rcases e with e | e; exact o51 (e ▸ hb); cases e)
      have FIN : DqEnd w g s pz pn pd (X / 10 ^ b) (X % 10 ^ b) (10 ^ b) (.returned (.tuple #[ptr pz, ptr pn, ptr pd])) w6 := by
        refine ⟨o1, o5, o6, rfl, d3, ⟨_, _, _, m1', er.out⟩, ⟨_, _, _, p1, rfl⟩, ((F13.out.mono (fun _ _ h => Or.inl h)).trans qf.out ?_ |>.trans m2.out ?_).trans p2 ?_⟩
        · intro k hk e
          rcases e with e | e
          · exact Or.inl e
          · have := npr.out.2.2.2; omega
        · intro k hk e
          rcases e with e | e
          · exact Or.inr (Or.inl e)
          · cases e
        · intro k hk e
          rcases e with e | e
          · exact Or.inr (Or.inr e)
          · cases e
      replace FIN := Lib.hid FIN
      replace p1 := Lib.hid p1
      replace p2 := Lib.hid p2
      replace p3 := Lib.hid p3
      replace p4 := Lib.hid p4
      replace d3 := Lib.hid d3
      replace m1' := Lib.hid m1'
      unfold ptr at FIN
      go_wp2_with fail
      go_ret3
      exact FIN.out

end Go.Proofs.YtcpjclakdpjjfaaGreatDoor


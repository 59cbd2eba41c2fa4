/-
  A part of the proof of FnQuantityAgain (texts R6, R7, R8 of mine, joined).
-/
import Derived.Test.YtcpjclakdpjjfaaGreatDoorM30
import Derived.Test.YtcpjclakdpjjfaaGreatDoorM12
import Derived.Test.YtcpjclakdpjjfaaGreatDoorM22
import Derived.Test.YtcpjclakdpjjfaaGreatDoorM13
namespace Go.Proofs.YtcpjclakdpjjfaaGreatDoor
open Go.RowKit

def PlainT (w : World) (b : Nat) (T : TypeId) : Prop := ∃ c, w.heap[b]? = some (.cells c T (0, 0))
theorem PlainT.frame {S : Nat → Prop} {w w' : World} {b : Nat} {T : TypeId} (h : PlainT w b T) (f : Fr S w w') (hn : ¬ S b) : PlainT w' b T := by
  obtain ⟨c, hc⟩ := h
  exact ⟨c, (f.block b (Array.getElem?_eq_some_iff.1 hc).1 hn).trans hc⟩
theorem PlainT.setCell {w : World} {b : Nat} {T : TypeId} (h : PlainT w b T) (a : Addr) (v : Value) : PlainT (w.setCell a v) b T := by
  obtain ⟨c, hT⟩ := h
  by_cases e : b = a.block
  · subst e
    refine ⟨if a.spot.isSome then c else c.setIfInBounds a.off v, ?_⟩
    simp [World.setCell, Array.getElem?_modify, hT]
  · exact ⟨c, by rw [Below.heap_setCell _ _ _ _ e]; exact hT⟩
theorem PlainT.alloc {w : World} {b : Nat} {T : TypeId} (h : PlainT w b T) (o : Obj) : PlainT (w.alloc o) b T := h.frame (Fr.alloc (fun _ => False) w o) (fun f => f)
theorem PlainT.plain {w : World} {b : Nat} {T : TypeId} (h : PlainT w b T) : Plain w b := by obtain ⟨c, hc⟩ := h; exact ⟨c, T, hc⟩

theorem cell_set2 (w : World) (a q : Addr) (v : Value) (o1 o2 : Obj) (hq : q.block < w.heap.size) (hne : q ≠ a) : (((w.setCell a v).alloc o1).alloc o2).cell? q = w.cell? q := by
  have h1 : q.block < (w.setCell a v).heap.size := by simpa using hq
  rw [((Fr.alloc (fun _ => False) (w.setCell a v) o1).trans (Fr.alloc (fun _ => False) _ o2) (fun _ _ h => h)).cell h1 (fun f => f), World.cell?_setCell_other _ _ _ _ hne.symm]
theorem cell_set1 (w : World) (a q : Addr) (v : Value) (o2 : Obj) (hq : q.block < w.heap.size) (hne : q ≠ a) : ((w.setCell a v).alloc o2).cell? q = w.cell? q := by
  have h1 : q.block < (w.setCell a v).heap.size := by simpa using hq
  rw [(Fr.alloc (fun _ => False) (w.setCell a v) o2).cell h1 (fun f => f), World.cell?_setCell_other _ _ _ _ hne.symm]

/-- What the first addSuffix comes to. -/
def SufFirst (w : World) (p o : Nat) (T : TypeId) (s : ByteArray) (k : Int × Int) (e : Ending) (w' : World) : Prop :=
  e = .returned (.tuple #[]) ∧ ∃ b1 b2 b3 Q2' v, LsAt w' p o b1 b2 b3 (putL s (pk k) []) Q2' [(k, v)] ∧ BSl w' v s.data.toList ∧ Fr (fun i => i = p) w w' ∧ w.heap.size ≤ b1 ∧ w.heap.size ≤ b2 ∧ w.heap.size ≤ b3 ∧
    (∀ i, i ≠ o → i ≠ o + 1 → i ≠ o + 2 → w'.cell? ⟨p, i, none⟩ = w.cell? ⟨p, i, none⟩) ∧ PlainT w' p T

set_option maxRecDepth 100000 in
set_option maxHeartbeats 2000000 in
theorem add_first (p o : Nat) (s : ByteArray) (k1 k2 : Int) (w : World) (T : TypeId) (hq : PlainT w p T) (c0 : w.cell? ⟨p, o, none⟩ = some (.map none)) (c1 : w.cell? ⟨p, o + 1, none⟩ = some (.map none)) (c2 : w.cell? ⟨p, o + 2, none⟩ = some (.map none)) :
    Calls Tryz.prog 45 #[.pointer (some ⟨p, o, none⟩), .string s, .agg #[.int .i32 k1, .int .i32 k2]] w (SufFirst w p o T s (k1, k2)) := by
  have hp := hq.plain
  have hb := hp.lt
  have e1 := map_nn102
  have e2 := map_nn103
  have e3 := map_nn104
  have f0 := hp.free o
  have f1 := hp.free (o + 1)
  have f2 := hp.free (o + 2)
  have hmm := @run_makeMap Tryz.prog
  go_enter Tryz.func45, Tryz.ntmps45
  go_upto_if 19 with fail
  obtain ⟨w1, hw1⟩ : ∃ w1, w1 = ((w.setCell ⟨p, o, none⟩ (.map (some (w.heap.size + 1)))).alloc (.cells #[.int .i32 k1, .int .i32 k2] 111)).alloc (.map #[] 0) := ⟨_, rfl⟩
  have ws1 : w1.heap.size = w.heap.size + 2 := by rw [hw1]; simp
  have hq1 : PlainT w1 p T := by rw [hw1]; exact ((hq.setCell _ _).alloc _).alloc _
  have hp1 : Plain w1 p := by rw [hw1]; exact ((hp.setCell _ _).alloc _).alloc _
  have fr1 : Fr (fun i => i = p) w w1 := by rw [hw1]; exact ((Fr.setCell (S := fun i => i = p) w ⟨p, o, none⟩ _ (fun _ => rfl)).trans ((Fr.alloc (fun _ => False) _ _).trans (Fr.alloc (fun _ => False) _ _) (fun _ _ h => h)) (fun _ _ h => h.elim))
  have k10 : w1.cell? ⟨p, o, none⟩ = some (.map (some (w.heap.size + 1))) := by
    rw [hw1, ((Fr.alloc (fun _ => False) (w.setCell ⟨p, o, none⟩ _) _).trans (Fr.alloc (fun _ => False) _ _) (fun _ _ h => h)).cell (by simpa using hb) (fun f => f), World.cell?_setCell_same w ⟨p, o, none⟩ _ c0]
  have k11 : w1.cell? ⟨p, o + 1, none⟩ = some (.map none) := by rw [hw1, cell_set2 _ _ _ _ _ _ hb (by simp)]; exact c1
  have k12 : w1.cell? ⟨p, o + 2, none⟩ = some (.map none) := by rw [hw1, cell_set2 _ _ _ _ _ _ hb (by simp)]; exact c2
  have kO1 : ∀ i, i ≠ o → w1.cell? ⟨p, i, none⟩ = w.cell? ⟨p, i, none⟩ := fun i hi => by rw [hw1, cell_set2 _ _ _ _ _ _ hb (by intro e; cases e; exact hi rfl)]
  have m11x : Hid (MapB Value.string w1 (w.heap.size + 1) []) := by
    show MapB _ _ _ _
    rw [hw1]
    have := MapB.made Value.string ((w.setCell ⟨p, o, none⟩ (.map (some (w.heap.size + 1)))).alloc (.cells #[.int .i32 k1, .int .i32 k2] 111))
    simpa using this
  have m11 : MapB Value.string w1 (w.heap.size + 1) [] := by
    rw [hw1]
    have := MapB.made Value.string ((w.setCell ⟨p, o, none⟩ (.map (some (w.heap.size + 1)))).alloc (.cells #[.int .i32 k1, .int .i32 k2] 111))
    simpa using this
  have bx0 : w1.cell? ⟨w.heap.size, 0, none⟩ = some (.int .i32 k1) := by
    rw [hw1, (Fr.alloc (fun _ => False) _ _).cell (by simp) (fun f => f)]
    have := World.cell?_alloc_mark (w.setCell ⟨p, o, none⟩ (.map (some (w.heap.size + 1)))) #[.int .i32 k1, .int .i32 k2] 111 (0, 0) 0
    simpa using this
  have bx1 : w1.cell? ⟨w.heap.size, 1, none⟩ = some (.int .i32 k2) := by
    rw [hw1, (Fr.alloc (fun _ => False) _ _).cell (by simp) (fun f => f)]
    have := World.cell?_alloc_mark (w.setCell ⟨p, o, none⟩ (.map (some (w.heap.size + 1)))) #[.int .i32 k1, .int .i32 k2] 111 (0, 0) 1
    simpa using this
  have hb1 := hp1.lt
  have g1 := hp1.free (o + 1)
  have g2 := hp1.free (o + 2)
  rw [← hw1]
  replace hw1 := Lib.hid hw1
  replace kO1 := Lib.hid kO1
  replace ws1 := Lib.hid ws1
  replace fr1 := Lib.hid fr1
  clear c0 c1 c2 f0 f1 f2 e1
  clear m11
  go_wp2_with fail
  obtain ⟨w3, hw3⟩ : ∃ w3, w3 = (((w1.setCell ⟨p, o + 1, none⟩ (.map (some w1.heap.size))).setCell ⟨p, o + 2, none⟩ (.map (some (w1.heap.size + 1)))).alloc (.map #[] 0)).alloc (.map #[] 0) := ⟨_, rfl⟩
  rw [← hw3]
  obtain ⟨wx, hwx⟩ : ∃ wx, wx = w1.setCell ⟨p, o + 1, none⟩ (.map (some w1.heap.size)) := ⟨_, rfl⟩
  have hwxs : wx.heap.size = w1.heap.size := by rw [hwx]; simp
  have hpx : Plain wx p := by rw [hwx]; exact hp1.setCell _ _
  have frx : Fr (fun i => i = p) w1 wx := by rw [hwx]; exact Fr.setCell (S := fun i => i = p) w1 ⟨p, o + 1, none⟩ _ (fun _ => rfl)
  have kx0 : wx.cell? ⟨p, o, none⟩ = some (.map (some (w.heap.size + 1))) := by rw [hwx, World.cell?_setCell_other _ _ _ _ (by simp)]; exact k10
  have kx1 : wx.cell? ⟨p, o + 1, none⟩ = some (.map (some w1.heap.size)) := by rw [hwx, World.cell?_setCell_same w1 ⟨p, o + 1, none⟩ _ k11]
  have kx2 : wx.cell? ⟨p, o + 2, none⟩ = some (.map none) := by rw [hwx, World.cell?_setCell_other _ _ _ _ (by simp)]; exact k12
  have kxO : ∀ i, i ≠ o + 1 → wx.cell? ⟨p, i, none⟩ = w1.cell? ⟨p, i, none⟩ := fun i hi => by rw [hwx, World.cell?_setCell_other _ _ _ _ (by intro e; cases e; exact hi rfl)]
  rw [← hwx] at hw3
  have hpxl := hpx.lt
  have hq3 : PlainT w3 p T := by rw [hw3, hwx]; exact (((hq1.setCell _ _).setCell _ _).alloc _).alloc _
  have hp3 : Plain w3 p := by rw [hw3]; exact ((hpx.setCell _ _).alloc _).alloc _
  have fr3 : Fr (fun i => i = p) wx w3 := by rw [hw3]; exact ((Fr.setCell (S := fun i => i = p) wx ⟨p, o + 2, none⟩ _ (fun _ => rfl)).trans ((Fr.alloc (fun _ => False) _ _).trans (Fr.alloc (fun _ => False) _ _) (fun _ _ h => h)) (fun _ _ h => h.elim))
  have k30 : w3.cell? ⟨p, o, none⟩ = some (.map (some (w.heap.size + 1))) := by rw [hw3, cell_set2 _ _ _ _ _ _ hpxl (by simp)]; exact kx0
  have k31 : w3.cell? ⟨p, o + 1, none⟩ = some (.map (some w1.heap.size)) := by rw [hw3, cell_set2 _ _ _ _ _ _ hpxl (by simp)]; exact kx1
  have k32 : w3.cell? ⟨p, o + 2, none⟩ = some (.map (some (w1.heap.size + 1))) := by
    rw [hw3, ((Fr.alloc (fun _ => False) (wx.setCell ⟨p, o + 2, none⟩ _) _).trans (Fr.alloc (fun _ => False) _ _) (fun _ _ h => h)).cell (by simpa using hpxl) (fun f => f), World.cell?_setCell_same wx ⟨p, o + 2, none⟩ _ kx2]
  have k3O : ∀ i, i ≠ o → i ≠ o + 1 → i ≠ o + 2 → w3.cell? ⟨p, i, none⟩ = w.cell? ⟨p, i, none⟩ := fun i h0 h1 h2 => by
    rw [hw3, cell_set2 _ _ _ _ _ _ hpxl (by intro e; cases e; exact h2 rfl), kxO i h1, kO1.out i h0]
  have fr13 : Fr (fun i => i = p) w1 w3 := frx.trans fr3 (fun _ _ h => h)
  have npw : p ≠ w.heap.size := Nat.ne_of_lt hb
  have hws1 := ws1.out
  have lw1 : w.heap.size < w1.heap.size := by omega
  have x0 : w3.cell? ⟨w.heap.size, 0, none⟩ = some (.int .i32 k1) := (fr13.cell (p := ⟨w.heap.size, 0, none⟩) lw1 (fun e => npw e.symm)).trans bx0
  have x1 : w3.cell? ⟨w.heap.size, 1, none⟩ = some (.int .i32 k2) := (fr13.cell (p := ⟨w.heap.size, 1, none⟩) lw1 (fun e => npw e.symm)).trans bx1
  have m31 : MapB Value.string w3 (w.heap.size + 1) [] := m11x.out.frame fr13 (fun e => by have e : w.heap.size + 1 = p := e; omega)
  have m32 : MapB pk w3 w1.heap.size [] := by
    rw [hw3]
    have := (MapB.made pk (wx.setCell ⟨p, o + 2, none⟩ (.map (some (w1.heap.size + 1))))).frame (Fr.alloc (fun _ => False) _ (.map #[] 0)) (fun f => f)
    simpa [hwxs] using this
  have m33 : MapB pk w3 (w1.heap.size + 1) [] := by
    rw [hw3]
    have := MapB.made pk ((wx.setCell ⟨p, o + 2, none⟩ (.map (some (w1.heap.size + 1)))).alloc (.map #[] 0))
    simpa [hwxs] using this
  have ws3 : w3.heap.size = w1.heap.size + 2 := by rw [hw3]; simp [hwxs]
  have hL : LsAt w3 p o (w.heap.size + 1) w1.heap.size (w1.heap.size + 1) [] [] [] := ⟨hp3, k30, k31, k32, m31, m32, m33, by omega, by omega, by omega⟩
  have frw3 : Fr (fun i => i = p) w w3 := fr1.out.trans fr13 (fun _ _ h => h)
  obtain ⟨N, hN⟩ : ∃ N, N = w.heap.size := ⟨_, rfl⟩
  obtain ⟨b1, hb1'⟩ : ∃ b, b = w.heap.size + 1 := ⟨_, rfl⟩
  obtain ⟨b2, hb2'⟩ : ∃ b, b = w1.heap.size := ⟨_, rfl⟩
  obtain ⟨b3, hb3'⟩ : ∃ b, b = w1.heap.size + 1 := ⟨_, rfl⟩
  have lb1 : N < b1 := by omega
  have lb2 : N < b2 := by omega
  have lb3 : N < b3 := by omega
  have hN3 : N < w3.heap.size := by omega
  rw [← hb3', ← hb1'] at hL
  rw [← hb2'] at hL
  rw [← hN] at x0 x1
  rw [← hb3', ← hb1', ← hb2', ← hN]
  have lN1 : w.heap.size ≤ b1 := by omega
  have lN2 : w.heap.size ≤ b2 := by omega
  have lN3 : w.heap.size ≤ b3 := by omega
  clear hb3' hb1' hb2' hN hb hp ws1 hws1 k10 k11 k12 kx0 kx1 kx2 kxO hw3 hwx hwxs hw1 m31 m32 m33 m11x ws3 k30 k31 k32 kO1 bx0 bx1 fr13 frx fr3 hpx hpxl npw g1 g2 lw1 hp1 hb1 fr1 e2 e3 hmm
  have c0 := hL.c0
  have c1 := hL.c1
  have c2 := hL.c2
  have hb := hL.plain.lt
  replace frw3 := Lib.hid frw3
  replace k3O := Lib.hid k3O
  refine wp_region_mid 0 6 (by kernel_rfl) (by kernel_rfl) (by kernel_rfl) ?_
  simp only [List.take_succ_cons, List.take_zero, List.drop_succ_cons, List.drop_zero]
  refine wpQuiet_nil ?_
  repeat (go_big_quiet_step (fail))
  refine wpQuiet_nil ?_
  obtain ⟨wa, hwa⟩ : ∃ wa, wa = w3.drew := ⟨_, rfl⟩
  have fa : Fr (fun _ => False) w3 wa := by rw [hwa]; exact Fr.drew _ _
  have h := hL
  have ha := hL.frame fa (fun f => f) (fun f => f) (fun f => f) (fun f => f)
  have hsz : N < wa.heap.size := Nat.lt_of_lt_of_le hN3 fa.size
  have y0' : wa.cell? ⟨N, 0, none⟩ = some (.int .i32 k1) := by rw [hwa]; exact x0
  have y1' : wa.cell? ⟨N, 1, none⟩ = some (.int .i32 k2) := by rw [hwa]; exact x1
  replace x0 := y0'
  replace x1 := y1'
  clear y0' y1' c0 c1 c2 hL
  rw [← hwa]
  replace hwa := Lib.hid hwa
  refine wpList_put _ rfl _ _ _ 102 rfl 59 111 fit59 Tryz.underlying102 b1 [] rfl ha.m1 s (pk (k1, k2)) rfl rfl ?_
  intro wb hmb fb
  have nb1 : b1 ≠ p := ha.m1.not_plain ha.plain
  have nb2 : b2 ≠ p := ha.m2.not_plain ha.plain
  have nb3 : b3 ≠ p := ha.m3.not_plain ha.plain
  have cb1 := (fb.cell (p := ⟨p, o + 1, none⟩) ha.plain.lt (fun e => nb1 e.symm)).trans ha.c1
  have cb2 := (fb.cell (p := ⟨p, o + 2, none⟩) ha.plain.lt (fun e => nb1 e.symm)).trans ha.c2
  have y0 := (fb.cell (p := ⟨N, 0, none⟩) hsz (fun e => by have e : N = b1 := e; omega)).trans x0
  have y1 := (fb.cell (p := ⟨N, 1, none⟩) hsz (fun e => by have e : N = b1 := e; omega)).trans x1
  have mb2 := ha.m2.frame fb (fun e => h.n12 e.symm)
  have mb3 := ha.m3.frame fb (fun e => h.n13 e.symm)
  skip
  go_wp2_with fail
  refine NoPanic.normal ?_
  go_wp2_with fail
  refine wp_region_mid 0 6 (by kernel_rfl) (by kernel_rfl) (by kernel_rfl) ?_
  simp only [List.take_succ_cons, List.take_zero, List.drop_succ_cons, List.drop_zero]
  refine wpQuiet_nil ?_
  repeat (go_big_quiet_step (fail))
  refine wpQuiet_nil ?_
  refine wpList_put _ rfl _ _ _ 103 rfl 111 59 fit111 Tryz.underlying103 b2 [] rfl (mb2.frame (Fr.drew (fun _ => False) wb) (fun f => f)) (k1, k2) (.string s) rfl rfl ?_
  intro wc hmc fc
  have fbc : Fr (fun i => i = b1 ∨ i = b2) wa wc := (fb.mono (T := fun i => i = b1 ∨ i = b2) (fun _ _ h => Or.inl h)).trans (((Fr.drew (fun _ => False) wb).mono (fun _ _ h => h.elim)).trans (fc.mono (T := fun i => i = b1 ∨ i = b2) (fun _ _ h => Or.inr h)) (fun _ _ h => h)) (fun _ _ h => h)
  have cc2 := (fbc.cell (p := ⟨p, o + 2, none⟩) ha.plain.lt (by rintro (e | e); exact nb1 e.symm; exact nb2 e.symm)).trans ha.c2
  have z0 := (fbc.cell (p := ⟨N, 0, none⟩) hsz (by rintro (e | e); (have e : N = b1 := e; omega); (have e : N = b2 := e; omega))).trans x0
  have z1 := (fbc.cell (p := ⟨N, 1, none⟩) hsz (by rintro (e | e); (have e : N = b1 := e; omega); (have e : N = b2 := e; omega))).trans x1
  have mc3 := ha.m3.frame fbc (by rintro (e | e); exact h.n13 e.symm; exact h.n23 e.symm)
  have mc1 := hmb.frame ((Fr.drew (fun i => i = b2) wb).trans fc (fun _ _ h => h)) (fun e => h.n12 e)
  have kc := fun w => run_bytes_of_string (P := Tryz.prog) w 59 96 5 s Tryz.underlying59 Tryz.underlying96 Tryz.underlying5
  have plc : p < wc.heap.size := Nat.lt_of_lt_of_le ha.plain.lt fbc.size
  have hwl : N < wc.heap.size := Nat.lt_of_lt_of_le hsz fbc.size
  have fw : Fr (fun _ => False) wc (wc.alloc (.cells (bytesRow s (grownCap wc.drew s.size 0 5)) 5 ((bytesRow s (grownCap wc.drew s.size 0 5)).size, (bytesRow s (grownCap wc.drew s.size 0 5)).size + 1))).drew.drew :=
    (Fr.alloc (fun _ => False) wc _).trans ((Fr.drew (fun _ => False) _).trans (Fr.drew (fun _ => False) _) (fun _ _ h => h)) (fun _ _ h => h)
  obtain ⟨wd, hput, hmd, fd⟩ := (mc3.frame fw (fun f => f)).put fit111 Tryz.underlying104 (k1, k2) (.slice (some ⟨wc.heap.size, 0, none⟩) s.size (grownCap wc.drew s.size 0 5))
  unfold pk at hput
  go_wp2_with fail
  refine NoPanic.normal ?_
  go_wp2_with fail
  clear y0 y1 cb1 cb2 x0 x1
  go_region
  have FIN : SufFirst w p o T s (k1, k2) (.returned (.tuple #[])) wd := by
    have hS3 : putL (k1, k2) (.slice (some ⟨wc.heap.size, 0, none⟩) s.size (grownCap wc.drew s.size 0 5)) [] = [((k1, k2), .slice (some ⟨wc.heap.size, 0, none⟩) s.size (grownCap wc.drew s.size 0 5))] := rfl
    rw [hS3] at hmd
    have fcd : Fr (fun i => i = b3) wc wd := (fw.mono (fun _ _ h => h.elim)).trans fd (fun _ _ h => h)
    have fad : Fr (fun i => i = b1 ∨ i = b2 ∨ i = b3) wa wd := (fbc.mono (T := fun i => i = b1 ∨ i = b2 ∨ i = b3) (fun _ _ h => h.elim Or.inl (fun h => Or.inr (Or.inl h)))).trans fcd (fun _ _ h => Or.inr (Or.inr h))
    have np : ¬ (p = b1 ∨ p = b2 ∨ p = b3) := by rintro (e | e | e); exact nb1 e.symm; exact nb2 e.symm; exact nb3 e.symm
    refine ⟨rfl, b1, b2, b3, _, _, ⟨ha.plain.frame fad np, (fad.cell ha.plain.lt np).trans ha.c0, (fad.cell ha.plain.lt np).trans ha.c1, (fad.cell ha.plain.lt np).trans ha.c2, mc1.frame fcd h.n13, hmc.frame fcd h.n23, hmd, h.n12, h.n13, h.n23⟩, ?_, ?_, lN1, lN2, lN3, ?_, hq3.frame (fa.mono (T := fun i => i = b1 ∨ i = b2 ∨ i = b3) (fun _ _ h => h.elim) |>.trans fad (fun _ _ h => h)) np⟩
    · have hb := bsl_made wc s (grownCap wc.drew s.size 0 5) ((bytesRow s (grownCap wc.drew s.size 0 5)).size, (bytesRow s (grownCap wc.drew s.size 0 5)).size + 1)
      refine hb.frame (S := fun i => i = b3) (((Fr.drew (fun i => i = b3) _).trans (Fr.drew (fun i => i = b3) _) (fun _ _ h => h)).trans fd (fun _ _ h => h)) ?_
      rintro k cs fr hk rfl
      exact (mc3.frame fw (fun f => f)).no_cells hk
    · refine frw3.out.trans ((fa.mono (T := fun i => i = b1 ∨ i = b2 ∨ i = b3) (fun _ _ h => h.elim)).trans fad (fun _ _ h => h)) ?_
      rintro i hi (e | e | e) <;> omega
    · intro i h0 h1 h2
      exact ((fad.cell (p := ⟨p, i, none⟩) ha.plain.lt np).trans (fa.cell (p := ⟨p, i, none⟩) hp3.lt (fun f => f))).trans (k3O.out i h0 h1 h2)
  all_goals
    go_end0
    exact FIN
end Go.Proofs.YtcpjclakdpjjfaaGreatDoor

namespace Go.Proofs.YtcpjclakdpjjfaaGreatDoor
open Go.RowKit

abbrev STab := List (ByteArray × Value)
abbrev RTab := List ((Int × Int) × List UInt8)

structure BinOnly (w0 w : World) (p : Nat) (SB : STab) (RB : RTab) (c1 c2 c3 : Nat) (Q2 Q3 : List ((Int × Int) × Value)) : Prop where
  ls : LsAt w p 3 c1 c2 c3 SB Q2 Q3
  rows : RowsOk w Q3 RB
  g1 : w0.heap.size ≤ c1
  g2 : w0.heap.size ≤ c2
  g3 : w0.heap.size ≤ c3
  gp : w0.heap.size ≤ p
  d0 : w.cell? ⟨p, 0, none⟩ = some (.map none)
  d1 : w.cell? ⟨p, 1, none⟩ = some (.map none)
  d2 : w.cell? ⟨p, 2, none⟩ = some (.map none)
  fr : Fr (fun _ => False) w0 w
  ty : PlainT w p 108
def BinS (w0 w : World) (p : Nat) (SB : STab) (RB : RTab) : Prop := ∃ c1 c2 c3 Q2 Q3, BinOnly w0 w p SB RB c1 c2 c3 Q2 Q3

structure BinDec (w0 w : World) (p : Nat) (SB : STab) (RB : RTab) (SD : STab) (RD : RTab) (c1 c2 c3 : Nat) (Q2 Q3 : List ((Int × Int) × Value)) (b1 b2 b3 : Nat) (K2 K3 : List ((Int × Int) × Value)) : Prop where
  bin : LsAt w p 3 c1 c2 c3 SB Q2 Q3
  brows : RowsOk w Q3 RB
  dec : LsAt w p 0 b1 b2 b3 SD K2 K3
  drows : RowsOk w K3 RD
  g1 : w0.heap.size ≤ b1
  g2 : w0.heap.size ≤ b2
  g3 : w0.heap.size ≤ b3
  n1 : c1 ≠ b1 ∧ c1 ≠ b2 ∧ c1 ≠ b3
  n2 : c2 ≠ b1 ∧ c2 ≠ b2 ∧ c2 ≠ b3
  n3 : c3 ≠ b1 ∧ c3 ≠ b2 ∧ c3 ≠ b3
  fr : Fr (fun _ => False) w0 w
def DecS (w0 w : World) (p : Nat) (SB : STab) (RB : RTab) (SD : STab) (RD : RTab) : Prop := ∃ c1 c2 c3 Q2 Q3 b1 b2 b3 K2 K3, BinDec w0 w p SB RB SD RD c1 c2 c3 Q2 Q3 b1 b2 b3 K2 K3

theorem Fr.three {w0 w w' : World} {b1 b2 b3 : Nat} (f : Fr (fun _ => False) w0 w) (g : Fr (fun i => i = b1 ∨ i = b2 ∨ i = b3) w w') (g1 : w0.heap.size ≤ b1) (g2 : w0.heap.size ≤ b2) (g3 : w0.heap.size ≤ b3) : Fr (fun _ => False) w0 w' :=
  f.trans g (by rintro i hi (e | e | e) <;> omega)

theorem LsAt.not5 {w : World} {p o b1 b2 b3 : Nat} {S : STab} {Q2 Q3 : List ((Int × Int) × Value)} (h : LsAt w p o b1 b2 b3 S Q2 Q3) : ∀ k cs fr, w.heap[k]? = some (.cells cs 5 fr) → ¬ (k = b1 ∨ k = b2 ∨ k = b3) := by
  rintro k cs fr hk (e | e | e)
  · subst e; exact h.m1.no_cells hk
  · subst e; exact h.m2.no_cells hk
  · subst e; exact h.m3.no_cells hk
theorem LsAt.notp {w : World} {p o b1 b2 b3 : Nat} {S : STab} {Q2 Q3 : List ((Int × Int) × Value)} (h : LsAt w p o b1 b2 b3 S Q2 Q3) : ¬ (p = b1 ∨ p = b2 ∨ p = b3) := by
  rintro (e | e | e)
  · exact h.m1.not_plain h.plain e.symm
  · exact h.m2.not_plain h.plain e.symm
  · exact h.m3.not_plain h.plain e.symm

theorem add_bin (w0 w : World) (p : Nat) (SB : STab) (RB : RTab) (s : ByteArray) (k1 k2 : Int) (h : BinS w0 w p SB RB) (hk : ∀ r ∈ RB, ((k1, k2) == r.1) = false) :
    Calls Tryz.prog 45 #[.pointer (some ⟨p, 3, none⟩), .string s, .agg #[.int .i32 k1, .int .i32 k2]] w fun e w' => e = .returned (.tuple #[]) ∧ BinS w0 w' p (putL s (pk (k1, k2)) SB) (RB ++ [((k1, k2), s.data.toList)]) := by
  obtain ⟨c1, c2, c3, Q2, Q3, h⟩ := h
  refine (add_next p 3 c1 c2 c3 SB Q2 Q3 s k1 k2 w h.ls (h.rows.lk_none hk)).mono ?_
  rintro e w' ⟨rfl, Q2', v, hl, hb, hf⟩
  have np := h.ls.notp
  have hpl := h.ls.plain.lt
  refine ⟨rfl, c1, c2, c3, _, _, hl, (h.rows.frame hf h.ls.not5).snoc rfl hb, h.g1, h.g2, h.g3, h.gp, ?_, ?_, ?_, h.fr.three hf h.g1 h.g2 h.g3, h.ty.frame hf np⟩
  · exact (hf.cell hpl np).trans h.d0
  · exact (hf.cell hpl np).trans h.d1
  · exact (hf.cell hpl np).trans h.d2

theorem add_dec (w0 w : World) (p : Nat) (SB : STab) (RB : RTab) (SD : STab) (RD : RTab) (s : ByteArray) (k1 k2 : Int) (h : DecS w0 w p SB RB SD RD) (hk : ∀ r ∈ RD, ((k1, k2) == r.1) = false) :
    Calls Tryz.prog 45 #[.pointer (some ⟨p, 0, none⟩), .string s, .agg #[.int .i32 k1, .int .i32 k2]] w fun e w' => e = .returned (.tuple #[]) ∧ DecS w0 w' p SB RB (putL s (pk (k1, k2)) SD) (RD ++ [((k1, k2), s.data.toList)]) := by
  obtain ⟨c1, c2, c3, Q2, Q3, b1, b2, b3, K2, K3, h⟩ := h
  refine (add_next p 0 b1 b2 b3 SD K2 K3 s k1 k2 w h.dec (h.drows.lk_none hk)).mono ?_
  rintro e w' ⟨rfl, K2', v, hl, hb, hf⟩
  obtain ⟨x1, x2, x3⟩ := h.n1
  obtain ⟨y1, y2, y3⟩ := h.n2
  obtain ⟨z1, z2, z3⟩ := h.n3
  refine ⟨rfl, c1, c2, c3, _, _, b1, b2, b3, _, _, h.bin.frame hf h.dec.notp ?_ ?_ ?_, h.brows.frame hf h.dec.not5, hl, (h.drows.frame hf h.dec.not5).snoc rfl hb, h.g1, h.g2, h.g3, h.n1, h.n2, h.n3, h.fr.three hf h.g1 h.g2 h.g3⟩
  · rintro (e | e | e); exact x1 e; exact x2 e; exact x3 e
  · rintro (e | e | e); exact y1 e; exact y2 e; exact y3 e
  · rintro (e | e | e); exact z1 e; exact z2 e; exact z3 e

theorem bin_first (w0 w : World) (p : Nat) (s : ByteArray) (k1 k2 : Int) (hp : PlainT w p 108) (gp : w0.heap.size ≤ p) (hc : ∀ i, i < 6 → w.cell? ⟨p, i, none⟩ = some (.map none)) (fr : Fr (fun _ => False) w0 w) :
    Calls Tryz.prog 45 #[.pointer (some ⟨p, 3, none⟩), .string s, .agg #[.int .i32 k1, .int .i32 k2]] w fun e w' => e = .returned (.tuple #[]) ∧ BinS w0 w' p (putL s (pk (k1, k2)) []) [((k1, k2), s.data.toList)] := by
  refine (add_first p 3 s k1 k2 w 108 hp (hc 3 (by omega)) (hc 4 (by omega)) (hc 5 (by omega))).mono ?_
  rintro e w' ⟨rfl, b1, b2, b3, Q2, v, hl, hb, hf, l1, l2, l3, hO, hq⟩
  have := fr.size
  refine ⟨rfl, b1, b2, b3, _, _, hl, ⟨rfl, hb, trivial⟩, by omega, by omega, by omega, gp, ?_, ?_, ?_, fr.trans hf (fun i hi e => by omega), hq⟩
  · rw [hO 0 (by omega) (by omega) (by omega)]; exact hc 0 (by omega)
  · rw [hO 1 (by omega) (by omega) (by omega)]; exact hc 1 (by omega)
  · rw [hO 2 (by omega) (by omega) (by omega)]; exact hc 2 (by omega)


theorem dec_first (w0 w : World) (p : Nat) (SB : STab) (RB : RTab) (s : ByteArray) (k1 k2 : Int) (h : BinS w0 w p SB RB) :
    Calls Tryz.prog 45 #[.pointer (some ⟨p, 0, none⟩), .string s, .agg #[.int .i32 k1, .int .i32 k2]] w fun e w' => e = .returned (.tuple #[]) ∧ DecS w0 w' p SB RB (putL s (pk (k1, k2)) []) [((k1, k2), s.data.toList)] := by
  obtain ⟨c1, c2, c3, Q2, Q3, h⟩ := h
  refine (add_first p 0 s k1 k2 w 108 h.ty h.d0 h.d1 h.d2).mono ?_
  rintro e w' ⟨rfl, b1, b2, b3, K2, v, hl, hb, hf, l1, l2, l3, hO, hq⟩
  have := h.fr.size
  have e1 := h.ls.m1.lt
  have e2 := h.ls.m2.lt
  have e3 := h.ls.m3.lt
  have q1 := h.ls.m1.not_plain h.ls.plain
  have q2 := h.ls.m2.not_plain h.ls.plain
  have q3 := h.ls.m3.not_plain h.ls.plain
  have gp := h.gp
  refine ⟨rfl, c1, c2, c3, _, _, b1, b2, b3, _, _, ⟨hl.plain, ?_, ?_, ?_, h.ls.m1.frame hf q1, h.ls.m2.frame hf q2, h.ls.m3.frame hf q3, h.ls.n12, h.ls.n13, h.ls.n23⟩, h.rows.frame hf ?_, hl, ⟨rfl, hb, trivial⟩, by omega, by omega, by omega, by omega, by omega, by omega, h.fr.trans hf (fun i hi e => by omega)⟩
  · rw [hO 3 (by omega) (by omega) (by omega)]; exact h.ls.c0
  · rw [hO 4 (by omega) (by omega) (by omega)]; exact h.ls.c1
  · rw [hO 5 (by omega) (by omega) (by omega)]; exact h.ls.c2
  · rintro k cs fr hk rfl
    obtain ⟨cs', hp'⟩ := h.ty
    rw [hp'] at hk
    simp only [Option.some.injEq, Obj.cells.injEq] at hk
    exact absurd hk.2.1 (by decide)
end Go.Proofs.YtcpjclakdpjjfaaGreatDoor

namespace Go.Proofs.YtcpjclakdpjjfaaGreatDoor
open Go.RowKit

def binST : STab := [({ data := #[75, 105] }, pk (2, 10)), ({ data := #[77, 105] }, pk (2, 20)), ({ data := #[71, 105] }, pk (2, 30)), ({ data := #[84, 105] }, pk (2, 40)), ({ data := #[80, 105] }, pk (2, 50)), ({ data := #[69, 105] }, pk (2, 60))]
def binRT : RTab := [((2, 10), [75, 105]), ((2, 20), [77, 105]), ((2, 30), [71, 105]), ((2, 40), [84, 105]), ((2, 50), [80, 105]), ((2, 60), [69, 105])]
def decST : STab := [({ data := #[] }, pk (10, 0)), ({ data := #[110] }, pk (10, -9)), ({ data := #[117] }, pk (10, -6)), ({ data := #[109] }, pk (10, -3)), ({ data := #[107] }, pk (10, 3)), ({ data := #[77] }, pk (10, 6)), ({ data := #[71] }, pk (10, 9)), ({ data := #[84] }, pk (10, 12)), ({ data := #[80] }, pk (10, 15)), ({ data := #[69] }, pk (10, 18))]
def decRT : RTab := [((2, 0), []), ((10, -9), [110]), ((10, -6), [117]), ((10, -3), [109]), ((10, 0), []), ((10, 3), [107]), ((10, 6), [77]), ((10, 9), [71]), ((10, 12), [84]), ((10, 15), [80]), ((10, 18), [69])]

/-- A suffixHandler at block p, its tables filled. -/
def SufAt (w : World) (p : Nat) : Prop := ∃ c1 c2 c3 Q2 Q3 b1 b2 b3 K2 K3, LsAt w p 3 c1 c2 c3 binST Q2 Q3 ∧ RowsOk w Q3 binRT ∧ LsAt w p 0 b1 b2 b3 decST K2 K3 ∧ RowsOk w K3 decRT
theorem SufAt.frame {w w' : World} {p : Nat} (h : SufAt w p) (f : Fr (fun _ => False) w w') : SufAt w' p := by
  obtain ⟨c1, c2, c3, Q2, Q3, b1, b2, b3, K2, K3, h1, h2, h3, h4⟩ := h
  have n : ∀ (k : Nat) (cs : Array Value) (fr : Nat × Nat), w.heap[k]? = some (Obj.cells cs 5 fr) → ¬ False := fun _ _ _ _ f => f
  exact ⟨c1, c2, c3, Q2, Q3, b1, b2, b3, K2, K3, h1.frame f (fun f => f) (fun f => f) (fun f => f) (fun f => f), h2.frame f n, h3.frame f (fun f => f) (fun f => f) (fun f => f) (fun f => f), h4.frame f n⟩

/-- What newSuffixer comes to. -/
def SufNew (w : World) (e : Ending) (w' : World) : Prop := ∃ p, e = .returned (.iface 113 (.agg #[.pointer (some ⟨p, 0, none⟩)])) ∧ SufAt w' p ∧ Fr (fun _ => False) w w'

set_option maxRecDepth 100000 in
set_option maxHeartbeats 2000000 in
theorem newSuffixer_any (w : World) : Calls Tryz.prog 18 #[] w (SufNew w) := by
  obtain ⟨w0, hw0⟩ : ∃ w0, w0 = w.alloc (.cells #[.map none, .map none, .map none, .map none, .map none, .map none] 108) := ⟨_, rfl⟩
  obtain ⟨p, hp⟩ : ∃ p, p = w.heap.size := ⟨_, rfl⟩
  have hat : w0.heap[p]? = some (.cells #[.map none, .map none, .map none, .map none, .map none, .map none] 108 (0, 0)) := by rw [hw0, hp]; exact heap_alloc_new _ _
  have hc : ∀ i, i < 6 → w0.cell? ⟨p, i, none⟩ = some (.map none) := by
    intro i hi
    unfold World.cell?
    rw [hat]
    have : ∀ j : Fin 6, (#[.map none, .map none, .map none, .map none, .map none, .map none] : Array Value)[j.val]? = some (.map none) := by intro j; rcases j with ⟨j, hj⟩; match j, hj with | 0, _ => rfl | 1, _ => rfl | 2, _ => rfl | 3, _ => rfl | 4, _ => rfl | 5, _ => rfl
    exact this ⟨i, hi⟩
  have hf : Fr (fun _ => False) w w0 := by rw [hw0]; exact Fr.alloc _ _ _
  have B := Lib.hid (bin_first w w0 p { data := #[75, 105] } 2 10 ⟨_, hat⟩ (by omega) hc hf)
  replace hat := Lib.hid hat
  replace hc := Lib.hid hc
  replace hf := Lib.hid hf
  go_enter Tryz.func18, Tryz.ntmps18
  go_wp2_with fail
  rw [← hw0, ← hp]
  replace hp := Lib.hid hp
  replace hw0 := Lib.hid hw0
  refine B.out.mono ?_
  rintro e w1 ⟨rfl, h1⟩
  replace h1 := Lib.hid h1
  go_wp2_with fail
  refine (add_bin w w1 p _ _ { data := #[77, 105] } 2 20 h1.out (by decide)).mono ?_
  rintro e w2 ⟨rfl, h2⟩
  replace h2 := Lib.hid h2
  clear h1
  go_wp2_with fail
  refine (add_bin w w2 p _ _ { data := #[71, 105] } 2 30 h2.out (by decide)).mono ?_
  rintro e w3 ⟨rfl, h3⟩
  replace h3 := Lib.hid h3
  clear h2
  go_wp2_with fail
  refine (add_bin w w3 p _ _ { data := #[84, 105] } 2 40 h3.out (by decide)).mono ?_
  rintro e w4 ⟨rfl, h4⟩
  replace h4 := Lib.hid h4
  clear h3
  go_wp2_with fail
  refine (add_bin w w4 p _ _ { data := #[80, 105] } 2 50 h4.out (by decide)).mono ?_
  rintro e w5 ⟨rfl, h5⟩
  replace h5 := Lib.hid h5
  clear h4
  go_wp2_with fail
  refine (add_bin w w5 p _ _ { data := #[69, 105] } 2 60 h5.out (by decide)).mono ?_
  rintro e w6 ⟨rfl, h6⟩
  replace h6 := Lib.hid h6
  clear h5
  go_wp2_with fail
  refine (dec_first w w6 p _ _ { data := #[] } 2 0 h6.out).mono ?_
  rintro e w7 ⟨rfl, h7⟩
  replace h7 := Lib.hid h7
  clear h6
  go_wp2_with fail
  refine (add_dec w w7 p _ _ _ _ { data := #[110] } 10 (-9) h7.out (by decide)).mono ?_
  rintro e w8 ⟨rfl, h8⟩
  replace h8 := Lib.hid h8
  clear h7
  go_wp2_with fail
  refine (add_dec w w8 p _ _ _ _ { data := #[117] } 10 (-6) h8.out (by decide)).mono ?_
  rintro e w9 ⟨rfl, h9⟩
  replace h9 := Lib.hid h9
  clear h8
  go_wp2_with fail
  refine (add_dec w w9 p _ _ _ _ { data := #[109] } 10 (-3) h9.out (by decide)).mono ?_
  rintro e w10 ⟨rfl, h10⟩
  replace h10 := Lib.hid h10
  clear h9
  go_wp2_with fail
  refine (add_dec w w10 p _ _ _ _ { data := #[] } 10 0 h10.out (by decide)).mono ?_
  rintro e w11 ⟨rfl, h11⟩
  replace h11 := Lib.hid h11
  clear h10
  go_wp2_with fail
  refine (add_dec w w11 p _ _ _ _ { data := #[107] } 10 3 h11.out (by decide)).mono ?_
  rintro e w12 ⟨rfl, h12⟩
  replace h12 := Lib.hid h12
  clear h11
  go_wp2_with fail
  refine (add_dec w w12 p _ _ _ _ { data := #[77] } 10 6 h12.out (by decide)).mono ?_
  rintro e w13 ⟨rfl, h13⟩
  replace h13 := Lib.hid h13
  clear h12
  go_wp2_with fail
  refine (add_dec w w13 p _ _ _ _ { data := #[71] } 10 9 h13.out (by decide)).mono ?_
  rintro e w14 ⟨rfl, h14⟩
  replace h14 := Lib.hid h14
  clear h13
  go_wp2_with fail
  refine (add_dec w w14 p _ _ _ _ { data := #[84] } 10 12 h14.out (by decide)).mono ?_
  rintro e w15 ⟨rfl, h15⟩
  replace h15 := Lib.hid h15
  clear h14
  go_wp2_with fail
  refine (add_dec w w15 p _ _ _ _ { data := #[80] } 10 15 h15.out (by decide)).mono ?_
  rintro e w16 ⟨rfl, h16⟩
  replace h16 := Lib.hid h16
  clear h15
  go_wp2_with fail
  refine (add_dec w w16 p _ _ _ _ { data := #[69] } 10 18 h16.out (by decide)).mono ?_
  rintro e w17 ⟨rfl, h17⟩
  replace h17 := Lib.hid h17
  clear h16
  go_wp2_with fail
  go_ret
  obtain ⟨c1, c2, c3, Q2, Q3, b1, b2, b3, K2, K3, h⟩ := h17.out
  exact ⟨p, rfl, ⟨c1, c2, c3, Q2, Q3, b1, b2, b3, K2, K3, h.bin, h.brows, h.dec, h.drows⟩, h.fr⟩
end Go.Proofs.YtcpjclakdpjjfaaGreatDoor


/-
  A part of the proof of FnQuantityAgain (texts I7, I8 of mine, joined).
-/
import Derived.Test.YtcpjclakdpjjfaaGreatDoorM17
import Derived.Test.YtcpjclakdpjjfaaGreatDoorM12
import Derived.Test.YtcpjclakdpjjfaaGreatDoorM09
namespace Go.Proofs.YtcpjclakdpjjfaaGreatDoor
open Go.RowKit

/-- What is left when the words were stored: facts for the stores that follow. -/
theorem int_fin {w w1 : World} {pz : Nat} {gz : Bool} {vz : Value} {oz : Option Nat} {nz : Nat} (hz : IntC w pz gz vz oz nz) {v' : Value} {ob : Option Nat} {N : Nat} (hn : NatV w1 v' ob N) (hf : Fr (fun k => oz = some k) w w1) (ho : ob = oz ∨ ∃ b, ob = some b ∧ w.heap.size ≤ b) :
    w1.frozen? ⟨pz, 1, none⟩ = false ∧ w1.cell? ⟨pz, 1, none⟩ = some vz ∧ (w1.setCell ⟨pz, 1, none⟩ v').frozen? ⟨pz, 0, none⟩ = false ∧ (w1.setCell ⟨pz, 1, none⟩ v').cell? ⟨pz, 0, none⟩ = some (.bool gz) ∧
    (w1.setCell ⟨pz, 1, none⟩ v').cell? ⟨pz, 1, none⟩ = some v' ∧
    (∀ g k r, (g = true → N ≠ 0) → IntEnd w pz oz r g N (.returned r) (((w1.setCell ⟨pz, 1, none⟩ v').drewN k).setCell ⟨pz, 0, none⟩ (.bool g))) := by
  have hpz : Plain w1 pz := hz.plain.frame hf (fun e => hz.far e)
  have q2 := cell_frame hz.c1 hf (fun e => hz.far e)
  have q3 := cell_frame hz.c0 hf (fun e => hz.far e)
  have hob : ob ≠ some pz := by
    rcases ho with e | ⟨b, e, hb⟩
    · rw [e]; exact hz.far
    · rw [e]
      intro f
      cases f
      have := hz.lt
      omega
  refine ⟨hpz.free 1, q2, (hpz.setCell _ _).free 0, (World.cell?_setCell_other w1 _ _ _ (by intro e; cases e)).trans q3, World.cell?_setCell_same w1 _ _ q2, ?_⟩
  intro g k r can
  obtain ⟨m1, m2⟩ := IntC.made hpz q3 q2 hn hob g can k
  exact ⟨v', ob, rfl, m1, (hf.mono (fun _ _ h => Or.inr h)).trans (m2.mono (fun _ _ h => Or.inl h)) (fun _ _ h => h), ho, (Hi.fr hf hz.plain.lt (fun e => hz.far e)).trans (Hi.sets pz w1 v' (.bool g) k)⟩

/-- A smaller number taken from a number of one word. -/
theorem sub_small (z x y : Value) (oz ox : Option Nat) (by_ m n ny : Nat) (ly : List Nat) (w : World) (hz : Sto w z oz) (hy : Wds w y by_ ly ny n) (hx : NatV w x ox m) (hmn : m < n) (hn : n < W64) :
    Calls Tryz.prog 96 #[z, y, x] w (NatEnd w oz (n - m)) := by
  have l1 : ny ≤ 1 := hy.len_le (by rw [Nat.pow_one]; exact hn)
  have l2 := hy.pos
  obtain rfl : ny = 1 := by omega
  have hW : W64 ≤ W64 ^ 100 := by
    have : W64 ^ 1 ≤ W64 ^ 100 := Nat.pow_le_pow_right W64_pos (by omega)
    rwa [Nat.pow_one] at this
  rcases hx.split with ⟨rfl, ax, cx, rfl⟩ | ⟨bx, lx, nx, rfl, Hx⟩
  · exact sub_zero z y oz by_ n 1 cx ly ax w hz hy (by omega)
  · have l3 : nx ≤ 1 := Hx.len_le (by rw [Nat.pow_one]; omega)
    have l4 := Hx.pos
    obtain rfl : nx = 1 := by omega
    exact sub_same z y x oz by_ bx n m 1 ly lx w hz hy Hx (by omega) (by omega)

theorem cmpI_neg {m n : Nat} (h : m < n) : ¬ (0 ≤ cmpI m n) := by rw [cmpI_lt h]; omega

set_option maxHeartbeats 4000000 in
set_option maxRecDepth 100000 in
theorem iadd_any (pz px py : Nat) (gz gx gy : Bool) (vz vx vy : Value) (oz ox oy : Option Nat) (nz nx ny : Nat) (w : World) (hz : IntC w pz gz vz oz nz) (hx : IntC w px gx vx ox nx) (hy : IntC w py gy vy oy ny)
    (bx : nx < W64 ^ 30) (by_ : ny < W64 ^ 30) (hc : gx ≠ gy → nx < ny ∧ ny < W64) :
    Calls Tryz.prog 62 #[.pointer (some ⟨pz, 0, none⟩), .pointer (some ⟨px, 0, none⟩), .pointer (some ⟨py, 0, none⟩)] w (IntOp w pz oz (ptr pz) (sgn gx nx + sgn gy ny)) := by
  have fd : ∀ k, Fr (fun _ => False) w (w.drewN k) := fun k => Fr.drewN _ w k
  have h100 : W64 ^ 30 ≤ W64 ^ 100 := Nat.pow_le_pow_right W64_pos (by omega)
  have A : Hid (∀ k, Calls Tryz.prog 95 #[vz, vx, vy] (w.drewN k) (NatEnd (w.drewN k) oz (nx + ny))) := fun k =>
    add_any vz vx vy oz ox oy nx ny (w.drewN k) (hz.nat.frame (fd k) (fun _ _ h => h)).sto (hx.nat.frame (fd k) (fun _ _ h => h)) (hy.nat.frame (fd k) (fun _ _ h => h)) (by omega) (by omega)
  have C : Hid (∀ k, Calls Tryz.prog 93 #[vx, vy] (w.drewN k) fun e w' => e = .returned (.int .i64 (cmpI nx ny)) ∧ Dr (w.drewN k) w') := fun k =>
    cmp_any vx vy ox oy nx ny (w.drewN k) (hx.nat.frame (fd k) (fun _ _ f => f)) (hy.nat.frame (fd k) (fun _ _ f => f))
  have B : Hid (nx < ny → ny < W64 → ∀ k, Calls Tryz.prog 96 #[vz, vy, vx] (w.drewN k) (NatEnd (w.drewN k) oz (ny - nx))) := fun h1 h2 k => by
    rcases (hy.nat.frame (fd k) (fun _ _ f => f)).split with ⟨e, _⟩ | ⟨bY, lY, nY, e, HY⟩
    · omega
    · exact sub_small vz vx vy oz ox bY nx ny nY lY (w.drewN k) (hz.nat.frame (fd k) (fun _ _ h => h)).sto HY (hx.nat.frame (fd k) (fun _ _ h => h)) h1 h2
  have z0 := hz.c0
  have z1 := hz.c1
  have x0 := hx.c0
  have x1 := hx.c1
  have y0 := hy.c0
  have y1 := hy.c1
  replace hz := Lib.hid hz
  replace hx := Lib.hid hx
  replace hy := Lib.hid hy
  replace bx := Lib.hid bx
  replace by_ := Lib.hid by_
  replace h100 := Lib.hid h100
  replace hc := Lib.hid hc
  clear fd
  obtain ⟨N, hN⟩ : ∃ N, N = cmpI nx ny := ⟨_, rfl⟩
  rw [← hN] at C
  replace hN := Lib.hid hN
  cases gx <;> cases gy
  · go_enter Tryz.func62, Tryz.ntmps62
    go_wp2_with fail
    go_quiet (fail)
    go_wp2_with fail
    refine wp_region_mid 1 13 (by kernel_rfl) (by kernel_rfl) (by kernel_rfl) ?_
    simp only [List.take_succ_cons, List.take_zero, List.drop_succ_cons, List.drop_zero]
    repeat (go_big_quiet_step (fail))
    refine wpQuiet_nil ?_
    repeat (go_big_quiet_step (fail))
    refine wpQuiet_nil ?_
    go_wp2_with fail
    refine (A.out _).mono ?_
    rintro e w1 ⟨v', ob, rfl, hn, hf, ho⟩
    have hf0 : Fr (fun k => oz = some k) w w1 := (Fr.drewN _ w _).trans hf (fun _ _ h => h)
    obtain ⟨q1, q2, fz0, cz0, cz1, fin⟩ := int_fin hz.out hn hf0 ho
    rcases hn.split with ⟨h0, a', c', rfl⟩ | ⟨b', l', len', rfl, H'⟩
    · have F := Lib.hid (fin false 0 (ptr pz) (by simp))
      replace h0 := Lib.hid h0
      replace hn := Lib.hid hn
      replace hf := Lib.hid hf
      replace ho := Lib.hid ho
      replace hf0 := Lib.hid hf0
      replace fin := Lib.hid fin
      go_wp2_with fail
      refine NoPanic.normal ?_
      go_wp2_with fail
      go_ret
      refine IntEnd.op F.out ?_
      have := h0.out
      have hx0 : nx = 0 := by omega
      have hy0 : ny = 0 := by omega
      subst hx0
      subst hy0
      rfl
    · have p1 := H'.pos
      have p2 := H'.npos
      have e1 : (0 : Int) < len' := by omega
      obtain rfl := H'.val
      have F := Lib.hid (fin false 0 (ptr pz) (by omega))
      replace H' := Lib.hid H'
      replace hn := Lib.hid hn
      replace hf := Lib.hid hf
      replace ho := Lib.hid ho
      replace hf0 := Lib.hid hf0
      replace fin := Lib.hid fin
      replace p2 := Lib.hid p2
      go_wp2_with fail
      refine NoPanic.normal ?_
      go_wp2_with fail
      go_ret
      exact IntEnd.op F.out (by simp [sgn] <;> omega)
  · go_enter Tryz.func62, Tryz.ntmps62
    go_wp2_with fail
    go_quiet (fail)
    go_wp2_with fail
    refine wp_region_mid 0 8 (by kernel_rfl) (by kernel_rfl) (by kernel_rfl) ?_
    simp only [List.take_succ_cons, List.take_zero, List.drop_succ_cons, List.drop_zero]
    refine wpQuiet_nil ?_
    repeat (go_big_quiet_step (fail))
    refine wpQuiet_nil ?_
    obtain ⟨hl1, hl2⟩ := hc.out (by simp)
    have hN3 : ¬ (0 ≤ N) := by rw [hN.out]; exact cmpI_neg hl1
    replace hl1 := Lib.hid hl1
    replace hl2 := Lib.hid hl2
    go_wp2_with fail
    refine (C.out _).mono ?_
    rintro e w1 ⟨rfl, k, rfl⟩
    go_wp2_with fail
    refine NoPanic.normal ?_
    go_wp2_with fail
    refine wp_region_mid 1 13 (by kernel_rfl) (by kernel_rfl) (by kernel_rfl) ?_
    simp only [List.take_succ_cons, List.take_zero, List.drop_succ_cons, List.drop_zero]
    repeat (go_big_quiet_step (fail))
    refine wpQuiet_nil ?_
    repeat (go_big_quiet_step (fail))
    refine wpQuiet_nil ?_
    go_wp2_with fail
    refine (B.out hl1.out hl2.out _).mono ?_
    rintro e w1 ⟨v', ob, rfl, hn, hf, ho⟩
    have hf0 : Fr (fun k => oz = some k) w w1 := (Fr.drewN _ w _).trans hf (fun _ _ h => h)
    obtain ⟨q1, q2, fz0, cz0, cz1, fin⟩ := int_fin hz.out hn hf0 ho
    rcases hn.split with ⟨h0, a', c', rfl⟩ | ⟨b', l', len', rfl, H'⟩
    · have F := Lib.hid (fin false 0 (ptr pz) (by simp))
      replace h0 := Lib.hid h0
      replace hn := Lib.hid hn
      replace hf := Lib.hid hf
      replace ho := Lib.hid ho
      replace hf0 := Lib.hid hf0
      replace fin := Lib.hid fin
      go_wp2_with fail
      refine NoPanic.normal ?_
      go_wp2_with fail
      go_ret
      refine IntEnd.op F.out ?_
      have := h0.out
      have h1 := hl1.out
      omega
    · have p1 := H'.pos
      have p2 := H'.npos
      have e1 : (0 : Int) < len' := by omega
      obtain rfl := H'.val
      have F := Lib.hid (fin true 0 (ptr pz) (by omega))
      replace H' := Lib.hid H'
      replace hn := Lib.hid hn
      replace hf := Lib.hid hf
      replace ho := Lib.hid ho
      replace hf0 := Lib.hid hf0
      replace fin := Lib.hid fin
      replace p2 := Lib.hid p2
      go_wp2_with fail
      refine NoPanic.normal ?_
      go_wp2_with fail
      go_ret
      exact IntEnd.op F.out (by have := hl1.out; simp [sgn] <;> omega)
  · go_enter Tryz.func62, Tryz.ntmps62
    go_wp2_with fail
    go_quiet (fail)
    go_wp2_with fail
    refine wp_region_mid 0 8 (by kernel_rfl) (by kernel_rfl) (by kernel_rfl) ?_
    simp only [List.take_succ_cons, List.take_zero, List.drop_succ_cons, List.drop_zero]
    refine wpQuiet_nil ?_
    repeat (go_big_quiet_step (fail))
    refine wpQuiet_nil ?_
    obtain ⟨hl1, hl2⟩ := hc.out (by simp)
    have hN3 : ¬ (0 ≤ N) := by rw [hN.out]; exact cmpI_neg hl1
    replace hl1 := Lib.hid hl1
    replace hl2 := Lib.hid hl2
    go_wp2_with fail
    refine (C.out _).mono ?_
    rintro e w1 ⟨rfl, k, rfl⟩
    go_wp2_with fail
    refine NoPanic.normal ?_
    go_wp2_with fail
    refine wp_region_mid 1 13 (by kernel_rfl) (by kernel_rfl) (by kernel_rfl) ?_
    simp only [List.take_succ_cons, List.take_zero, List.drop_succ_cons, List.drop_zero]
    repeat (go_big_quiet_step (fail))
    refine wpQuiet_nil ?_
    repeat (go_big_quiet_step (fail))
    refine wpQuiet_nil ?_
    go_wp2_with fail
    refine (B.out hl1.out hl2.out _).mono ?_
    rintro e w1 ⟨v', ob, rfl, hn, hf, ho⟩
    have hf0 : Fr (fun k => oz = some k) w w1 := (Fr.drewN _ w _).trans hf (fun _ _ h => h)
    obtain ⟨q1, q2, fz0, cz0, cz1, fin⟩ := int_fin hz.out hn hf0 ho
    rcases hn.split with ⟨h0, a', c', rfl⟩ | ⟨b', l', len', rfl, H'⟩
    · have F := Lib.hid (fin false 0 (ptr pz) (by simp))
      replace h0 := Lib.hid h0
      replace hn := Lib.hid hn
      replace hf := Lib.hid hf
      replace ho := Lib.hid ho
      replace hf0 := Lib.hid hf0
      replace fin := Lib.hid fin
      go_wp2_with fail
      refine NoPanic.normal ?_
      go_wp2_with fail
      go_ret
      refine IntEnd.op F.out ?_
      have := h0.out
      have h1 := hl1.out
      omega
    · have p1 := H'.pos
      have p2 := H'.npos
      have e1 : (0 : Int) < len' := by omega
      obtain rfl := H'.val
      have F := Lib.hid (fin false 0 (ptr pz) (by omega))
      replace H' := Lib.hid H'
      replace hn := Lib.hid hn
      replace hf := Lib.hid hf
      replace ho := Lib.hid ho
      replace hf0 := Lib.hid hf0
      replace fin := Lib.hid fin
      replace p2 := Lib.hid p2
      go_wp2_with fail
      refine NoPanic.normal ?_
      go_wp2_with fail
      go_ret
      exact IntEnd.op F.out (by have := hl1.out; simp [sgn] <;> omega)
  · go_enter Tryz.func62, Tryz.ntmps62
    go_wp2_with fail
    go_quiet (fail)
    go_wp2_with fail
    refine wp_region_mid 1 13 (by kernel_rfl) (by kernel_rfl) (by kernel_rfl) ?_
    simp only [List.take_succ_cons, List.take_zero, List.drop_succ_cons, List.drop_zero]
    repeat (go_big_quiet_step (fail))
    refine wpQuiet_nil ?_
    repeat (go_big_quiet_step (fail))
    refine wpQuiet_nil ?_
    go_wp2_with fail
    refine (A.out _).mono ?_
    rintro e w1 ⟨v', ob, rfl, hn, hf, ho⟩
    have hf0 : Fr (fun k => oz = some k) w w1 := (Fr.drewN _ w _).trans hf (fun _ _ h => h)
    obtain ⟨q1, q2, fz0, cz0, cz1, fin⟩ := int_fin hz.out hn hf0 ho
    rcases hn.split with ⟨h0, a', c', rfl⟩ | ⟨b', l', len', rfl, H'⟩
    · have F := Lib.hid (fin false 0 (ptr pz) (by simp))
      replace h0 := Lib.hid h0
      replace hn := Lib.hid hn
      replace hf := Lib.hid hf
      replace ho := Lib.hid ho
      replace hf0 := Lib.hid hf0
      replace fin := Lib.hid fin
      go_wp2_with fail
      refine NoPanic.normal ?_
      go_wp2_with fail
      go_ret
      refine IntEnd.op F.out ?_
      have := h0.out
      have hx0 : nx = 0 := by omega
      have hy0 : ny = 0 := by omega
      subst hx0
      subst hy0
      rfl
    · have p1 := H'.pos
      have p2 := H'.npos
      have e1 : (0 : Int) < len' := by omega
      obtain rfl := H'.val
      have F := Lib.hid (fin true 0 (ptr pz) (by omega))
      replace H' := Lib.hid H'
      replace hn := Lib.hid hn
      replace hf := Lib.hid hf
      replace ho := Lib.hid ho
      replace hf0 := Lib.hid hf0
      replace fin := Lib.hid fin
      replace p2 := Lib.hid p2
      go_wp2_with fail
      refine NoPanic.normal ?_
      go_wp2_with fail
      go_ret
      exact IntEnd.op F.out (by simp [sgn] <;> omega)

set_option maxHeartbeats 4000000 in
set_option maxRecDepth 100000 in
theorem isub_any (pz px py : Nat) (gz gx gy : Bool) (vz vx vy : Value) (oz ox oy : Option Nat) (nz nx ny : Nat) (w : World) (hz : IntC w pz gz vz oz nz) (hx : IntC w px gx vx ox nx) (hy : IntC w py gy vy oy ny)
    (bx : nx < W64 ^ 30) (by_ : ny < W64 ^ 30) (hc : gx = gy → nx < ny ∧ ny < W64) :
    Calls Tryz.prog 143 #[.pointer (some ⟨pz, 0, none⟩), .pointer (some ⟨px, 0, none⟩), .pointer (some ⟨py, 0, none⟩)] w (IntOp w pz oz (ptr pz) (sgn gx nx - sgn gy ny)) := by
  have fd : ∀ k, Fr (fun _ => False) w (w.drewN k) := fun k => Fr.drewN _ w k
  have h100 : W64 ^ 30 ≤ W64 ^ 100 := Nat.pow_le_pow_right W64_pos (by omega)
  have A : Hid (∀ k, Calls Tryz.prog 95 #[vz, vx, vy] (w.drewN k) (NatEnd (w.drewN k) oz (nx + ny))) := fun k =>
    add_any vz vx vy oz ox oy nx ny (w.drewN k) (hz.nat.frame (fd k) (fun _ _ h => h)).sto (hx.nat.frame (fd k) (fun _ _ h => h)) (hy.nat.frame (fd k) (fun _ _ h => h)) (by omega) (by omega)
  have C : Hid (∀ k, Calls Tryz.prog 93 #[vx, vy] (w.drewN k) fun e w' => e = .returned (.int .i64 (cmpI nx ny)) ∧ Dr (w.drewN k) w') := fun k =>
    cmp_any vx vy ox oy nx ny (w.drewN k) (hx.nat.frame (fd k) (fun _ _ f => f)) (hy.nat.frame (fd k) (fun _ _ f => f))
  have B : Hid (nx < ny → ny < W64 → ∀ k, Calls Tryz.prog 96 #[vz, vy, vx] (w.drewN k) (NatEnd (w.drewN k) oz (ny - nx))) := fun h1 h2 k => by
    rcases (hy.nat.frame (fd k) (fun _ _ f => f)).split with ⟨e, _⟩ | ⟨bY, lY, nY, e, HY⟩
    · omega
    · exact sub_small vz vx vy oz ox bY nx ny nY lY (w.drewN k) (hz.nat.frame (fd k) (fun _ _ h => h)).sto HY (hx.nat.frame (fd k) (fun _ _ h => h)) h1 h2
  have z0 := hz.c0
  have z1 := hz.c1
  have x0 := hx.c0
  have x1 := hx.c1
  have y0 := hy.c0
  have y1 := hy.c1
  replace hz := Lib.hid hz
  replace hx := Lib.hid hx
  replace hy := Lib.hid hy
  replace bx := Lib.hid bx
  replace by_ := Lib.hid by_
  replace h100 := Lib.hid h100
  replace hc := Lib.hid hc
  clear fd
  obtain ⟨N, hN⟩ : ∃ N, N = cmpI nx ny := ⟨_, rfl⟩
  rw [← hN] at C
  replace hN := Lib.hid hN
  cases gx <;> cases gy
  · go_enter Tryz.func143, Tryz.ntmps143
    go_wp2_with fail
    go_quiet (fail)
    go_wp2_with fail
    refine wp_region_mid 0 8 (by kernel_rfl) (by kernel_rfl) (by kernel_rfl) ?_
    simp only [List.take_succ_cons, List.take_zero, List.drop_succ_cons, List.drop_zero]
    refine wpQuiet_nil ?_
    repeat (go_big_quiet_step (fail))
    refine wpQuiet_nil ?_
    obtain ⟨hl1, hl2⟩ := hc.out (by simp)
    have hN3 : ¬ (0 ≤ N) := by rw [hN.out]; exact cmpI_neg hl1
    replace hl1 := Lib.hid hl1
    replace hl2 := Lib.hid hl2
    go_wp2_with fail
    refine (C.out _).mono ?_
    rintro e w1 ⟨rfl, k, rfl⟩
    go_wp2_with fail
    refine NoPanic.normal ?_
    go_wp2_with fail
    refine wp_region_mid 1 13 (by kernel_rfl) (by kernel_rfl) (by kernel_rfl) ?_
    simp only [List.take_succ_cons, List.take_zero, List.drop_succ_cons, List.drop_zero]
    repeat (go_big_quiet_step (fail))
    refine wpQuiet_nil ?_
    repeat (go_big_quiet_step (fail))
    refine wpQuiet_nil ?_
    go_wp2_with fail
    refine (B.out hl1.out hl2.out _).mono ?_
    rintro e w1 ⟨v', ob, rfl, hn, hf, ho⟩
    have hf0 : Fr (fun k => oz = some k) w w1 := (Fr.drewN _ w _).trans hf (fun _ _ h => h)
    obtain ⟨q1, q2, fz0, cz0, cz1, fin⟩ := int_fin hz.out hn hf0 ho
    rcases hn.split with ⟨h0, a', c', rfl⟩ | ⟨b', l', len', rfl, H'⟩
    · have F := Lib.hid (fin false 0 (ptr pz) (by simp))
      replace h0 := Lib.hid h0
      replace hn := Lib.hid hn
      replace hf := Lib.hid hf
      replace ho := Lib.hid ho
      replace hf0 := Lib.hid hf0
      replace fin := Lib.hid fin
      go_wp2_with fail
      refine NoPanic.normal ?_
      go_wp2_with fail
      go_ret
      refine IntEnd.op F.out ?_
      have := h0.out
      have h1 := hl1.out
      omega
    · have p1 := H'.pos
      have p2 := H'.npos
      have e1 : (0 : Int) < len' := by omega
      obtain rfl := H'.val
      have F := Lib.hid (fin true 0 (ptr pz) (by omega))
      replace H' := Lib.hid H'
      replace hn := Lib.hid hn
      replace hf := Lib.hid hf
      replace ho := Lib.hid ho
      replace hf0 := Lib.hid hf0
      replace fin := Lib.hid fin
      replace p2 := Lib.hid p2
      go_wp2_with fail
      refine NoPanic.normal ?_
      go_wp2_with fail
      go_ret
      exact IntEnd.op F.out (by have := hl1.out; simp [sgn] <;> omega)
  · go_enter Tryz.func143, Tryz.ntmps143
    go_wp2_with fail
    go_quiet (fail)
    go_wp2_with fail
    refine wp_region_mid 1 13 (by kernel_rfl) (by kernel_rfl) (by kernel_rfl) ?_
    simp only [List.take_succ_cons, List.take_zero, List.drop_succ_cons, List.drop_zero]
    repeat (go_big_quiet_step (fail))
    refine wpQuiet_nil ?_
    repeat (go_big_quiet_step (fail))
    refine wpQuiet_nil ?_
    go_wp2_with fail
    refine (A.out _).mono ?_
    rintro e w1 ⟨v', ob, rfl, hn, hf, ho⟩
    have hf0 : Fr (fun k => oz = some k) w w1 := (Fr.drewN _ w _).trans hf (fun _ _ h => h)
    obtain ⟨q1, q2, fz0, cz0, cz1, fin⟩ := int_fin hz.out hn hf0 ho
    rcases hn.split with ⟨h0, a', c', rfl⟩ | ⟨b', l', len', rfl, H'⟩
    · have F := Lib.hid (fin false 0 (ptr pz) (by simp))
      replace h0 := Lib.hid h0
      replace hn := Lib.hid hn
      replace hf := Lib.hid hf
      replace ho := Lib.hid ho
      replace hf0 := Lib.hid hf0
      replace fin := Lib.hid fin
      go_wp2_with fail
      refine NoPanic.normal ?_
      go_wp2_with fail
      go_ret
      refine IntEnd.op F.out ?_
      have := h0.out
      have hx0 : nx = 0 := by omega
      have hy0 : ny = 0 := by omega
      subst hx0
      subst hy0
      rfl
    · have p1 := H'.pos
      have p2 := H'.npos
      have e1 : (0 : Int) < len' := by omega
      obtain rfl := H'.val
      have F := Lib.hid (fin false 0 (ptr pz) (by omega))
      replace H' := Lib.hid H'
      replace hn := Lib.hid hn
      replace hf := Lib.hid hf
      replace ho := Lib.hid ho
      replace hf0 := Lib.hid hf0
      replace fin := Lib.hid fin
      replace p2 := Lib.hid p2
      go_wp2_with fail
      refine NoPanic.normal ?_
      go_wp2_with fail
      go_ret
      exact IntEnd.op F.out (by simp [sgn] <;> omega)
  · go_enter Tryz.func143, Tryz.ntmps143
    go_wp2_with fail
    go_quiet (fail)
    go_wp2_with fail
    refine wp_region_mid 1 13 (by kernel_rfl) (by kernel_rfl) (by kernel_rfl) ?_
    simp only [List.take_succ_cons, List.take_zero, List.drop_succ_cons, List.drop_zero]
    repeat (go_big_quiet_step (fail))
    refine wpQuiet_nil ?_
    repeat (go_big_quiet_step (fail))
    refine wpQuiet_nil ?_
    go_wp2_with fail
    refine (A.out _).mono ?_
    rintro e w1 ⟨v', ob, rfl, hn, hf, ho⟩
    have hf0 : Fr (fun k => oz = some k) w w1 := (Fr.drewN _ w _).trans hf (fun _ _ h => h)
    obtain ⟨q1, q2, fz0, cz0, cz1, fin⟩ := int_fin hz.out hn hf0 ho
    rcases hn.split with ⟨h0, a', c', rfl⟩ | ⟨b', l', len', rfl, H'⟩
    · have F := Lib.hid (fin false 0 (ptr pz) (by simp))
      replace h0 := Lib.hid h0
      replace hn := Lib.hid hn
      replace hf := Lib.hid hf
      replace ho := Lib.hid ho
      replace hf0 := Lib.hid hf0
      replace fin := Lib.hid fin
      go_wp2_with fail
      refine NoPanic.normal ?_
      go_wp2_with fail
      go_ret
      refine IntEnd.op F.out ?_
      have := h0.out
      have hx0 : nx = 0 := by omega
      have hy0 : ny = 0 := by omega
      subst hx0
      subst hy0
      rfl
    · have p1 := H'.pos
      have p2 := H'.npos
      have e1 : (0 : Int) < len' := by omega
      obtain rfl := H'.val
      have F := Lib.hid (fin true 0 (ptr pz) (by omega))
      replace H' := Lib.hid H'
      replace hn := Lib.hid hn
      replace hf := Lib.hid hf
      replace ho := Lib.hid ho
      replace hf0 := Lib.hid hf0
      replace fin := Lib.hid fin
      replace p2 := Lib.hid p2
      go_wp2_with fail
      refine NoPanic.normal ?_
      go_wp2_with fail
      go_ret
      exact IntEnd.op F.out (by simp [sgn] <;> omega)
  · go_enter Tryz.func143, Tryz.ntmps143
    go_wp2_with fail
    go_quiet (fail)
    go_wp2_with fail
    refine wp_region_mid 0 8 (by kernel_rfl) (by kernel_rfl) (by kernel_rfl) ?_
    simp only [List.take_succ_cons, List.take_zero, List.drop_succ_cons, List.drop_zero]
    refine wpQuiet_nil ?_
    repeat (go_big_quiet_step (fail))
    refine wpQuiet_nil ?_
    obtain ⟨hl1, hl2⟩ := hc.out (by simp)
    have hN3 : ¬ (0 ≤ N) := by rw [hN.out]; exact cmpI_neg hl1
    replace hl1 := Lib.hid hl1
    replace hl2 := Lib.hid hl2
    go_wp2_with fail
    refine (C.out _).mono ?_
    rintro e w1 ⟨rfl, k, rfl⟩
    go_wp2_with fail
    refine NoPanic.normal ?_
    go_wp2_with fail
    refine wp_region_mid 1 13 (by kernel_rfl) (by kernel_rfl) (by kernel_rfl) ?_
    simp only [List.take_succ_cons, List.take_zero, List.drop_succ_cons, List.drop_zero]
    repeat (go_big_quiet_step (fail))
    refine wpQuiet_nil ?_
    repeat (go_big_quiet_step (fail))
    refine wpQuiet_nil ?_
    go_wp2_with fail
    refine (B.out hl1.out hl2.out _).mono ?_
    rintro e w1 ⟨v', ob, rfl, hn, hf, ho⟩
    have hf0 : Fr (fun k => oz = some k) w w1 := (Fr.drewN _ w _).trans hf (fun _ _ h => h)
    obtain ⟨q1, q2, fz0, cz0, cz1, fin⟩ := int_fin hz.out hn hf0 ho
    rcases hn.split with ⟨h0, a', c', rfl⟩ | ⟨b', l', len', rfl, H'⟩
    · have F := Lib.hid (fin false 0 (ptr pz) (by simp))
      replace h0 := Lib.hid h0
      replace hn := Lib.hid hn
      replace hf := Lib.hid hf
      replace ho := Lib.hid ho
      replace hf0 := Lib.hid hf0
      replace fin := Lib.hid fin
      go_wp2_with fail
      refine NoPanic.normal ?_
      go_wp2_with fail
      go_ret
      refine IntEnd.op F.out ?_
      have := h0.out
      have h1 := hl1.out
      omega
    · have p1 := H'.pos
      have p2 := H'.npos
      have e1 : (0 : Int) < len' := by omega
      obtain rfl := H'.val
      have F := Lib.hid (fin false 0 (ptr pz) (by omega))
      replace H' := Lib.hid H'
      replace hn := Lib.hid hn
      replace hf := Lib.hid hf
      replace ho := Lib.hid ho
      replace hf0 := Lib.hid hf0
      replace fin := Lib.hid fin
      replace p2 := Lib.hid p2
      go_wp2_with fail
      refine NoPanic.normal ?_
      go_wp2_with fail
      go_ret
      exact IntEnd.op F.out (by have := hl1.out; simp [sgn] <;> omega)
end Go.Proofs.YtcpjclakdpjjfaaGreatDoor

namespace Go.Proofs.YtcpjclakdpjjfaaGreatDoor
open Go.RowKit

theorem IntAt.get {w : World} {p : Nat} {z : Int} {ob : Option Nat} (h : IntAt w p z ob) : ∃ v, IntC w p (decide (z < 0)) v ob z.natAbs := by
  obtain ⟨g, v, n, h, rfl⟩ := h
  refine ⟨v, ?_⟩
  have e1 : decide (sgn g n < 0) = g := by
    cases g with
    | false => simp [sgn] <;> omega
    | true => have := h.can rfl; simp [sgn] <;> omega
  rw [e1, sgn_natAbs]
  exact h
theorem IntAt.nat {w : World} {p n : Nat} {ob : Option Nat} (h : IntAt w p (n : Int) ob) : ∃ v, IntC w p false v ob n := by
  obtain ⟨v, h⟩ := h.get
  have e : decide ((n : Int) < 0) = false := by simp
  rw [e, Int.natAbs_natCast] at h
  exact ⟨v, h⟩
theorem IntC.at {w : World} {p : Nat} {g : Bool} {v : Value} {ob : Option Nat} {n : Nat} (h : IntC w p g v ob n) : IntAt w p (sgn g n) ob := ⟨g, v, n, h, rfl⟩
theorem sgn_get (z : Int) : sgn (decide (z < 0)) z.natAbs = z := by unfold sgn; by_cases h : z < 0 <;> simp [h] <;> omega

/-- A big.Int as new(big.Int) makes it. -/
theorem IntC.zero (w : World) (T : TypeId) : IntC (w.alloc (.cells #[.bool false, .slice none 0 0] T)) w.heap.size false (.slice none 0 0) none 0 := IntC.boxed w false _ none 0 T ⟨rfl, rfl⟩ (by simp)

set_option maxHeartbeats 1000000 in
theorem intOne_any (w : World) : Calls Tryz.prog 174 #[] w (IntNew w 1) := by
  have H := Lib.hid (natOne_any w)
  go_enter Tryz.func174, Tryz.ntmps174
  go_wp2_with fail
  refine H.out.mono ?_
  rintro e w1 ⟨v, ob, rfl, hn, hf, ho⟩
  obtain ⟨a, m, c, rfl⟩ := hn.slice
  have B := Lib.hid (IntC.boxed w1 false _ ob 1 70 hn (by simp))
  replace hn := Lib.hid hn
  replace hf := Lib.hid hf
  replace ho := Lib.hid ho
  go_wp2_with fail
  go_ret
  refine ⟨w1.heap.size, ob, rfl, ⟨_, _, _, B.out, rfl⟩, (hf.out.mono (fun _ _ h => by cases h)).trans (Fr.alloc _ _ _) (fun _ _ h => h), hf.out.size, ?_⟩
  intro b hb
  rcases ho.out with e | ⟨b', e, hge⟩
  · rw [e] at hb; cases hb
  · rw [hb] at e; cases e; exact hge

set_option maxHeartbeats 1000000 in
theorem iMul_any (pz px py : Nat) (gz gx gy : Bool) (vz vx vy : Value) (oz ox oy : Option Nat) (nz nx ny : Nat) (w : World) (hz : IntC w pz gz vz oz nz) (hx : IntC w px gx vx ox nx) (hy : IntC w py gy vy oy ny)
    (nxy : px ≠ py) (nzy : pz ≠ py) (bx : nx < W64 ^ 30) (by_ : ny < W64 ^ 30) (hg : Gk w) :
    Calls Tryz.prog 30 #[.pointer (some ⟨pz, 0, none⟩), .pointer (some ⟨px, 0, none⟩), .pointer (some ⟨py, 0, none⟩)] w (IntOp w pz oz (ptr pz) (sgn gx nx * sgn gy ny)) := by
  have M := Lib.hid (imul_any pz px py gz gx gy vz vx vy oz ox oy nz nx ny w hz hx hy nxy nzy bx by_ hg)
  rw [← sgn_mul]
  obtain ⟨G, hG⟩ : ∃ G, G = (if nx * ny = 0 then false else gx != gy) := ⟨_, rfl⟩
  rw [← hG] at M ⊢
  clear hz hx hy bx by_ hg hG
  go_enter Tryz.func30, Tryz.ntmps30
  go_wp2_with fail
  refine M.out.mono ?_
  rintro e w1 ⟨v, ob, rfl, h1, h2, h3, h4⟩
  replace h4 := Lib.hid h4
  replace h1 := Lib.hid h1
  replace h2 := Lib.hid h2
  replace h3 := Lib.hid h3
  go_wp2_with fail
  go_ret
  exact ⟨ob, rfl, h1.out.at, h2.out, h3.out, h4.out⟩

set_option maxHeartbeats 2000000 in
set_option maxRecDepth 100000 in
/-- Lsh of a number of one word. -/
theorem iLsh_any (pz px : Nat) (gz : Bool) (vz vx : Value) (oz : Option Nat) (bx nz m s : Nat) (lx : List Nat) (w : World) (hz : IntC w pz gz vz oz nz) (hx : IntC w px false vx (some bx) m) (Hx : Wds w vx bx lx 1 m) (nzx : pz ≠ px) (h1 : 1 ≤ s) (h2 : s ≤ 63) :
    Calls Tryz.prog 27 #[.pointer (some ⟨pz, 0, none⟩), .pointer (some ⟨px, 0, none⟩), .int .u64 (s : Int)] w (IntOp w pz oz (ptr pz) ((m * 2 ^ s : Nat) : Int)) := by
  have fd : Fr (fun _ => False) w w.drew := Fr.drew _ w
  have S := lsh_one vz vx oz bx m s lx w.drew (hz.nat.frame fd (fun _ _ h => h)).sto ⟨Hx.val, Hx.blk.drew, Hx.le, Hx.pos, Hx.cap, Hx.eq, Hx.top⟩ h1 h2
  obtain ⟨N, hN⟩ : ∃ N, N = m * 2 ^ s := ⟨_, rfl⟩
  rw [← hN] at S ⊢
  replace S := Lib.hid S
  have z1 := hz.c1
  have x1 := hx.c1
  replace hz := Lib.hid hz
  replace hx := Lib.hid hx
  replace hN := Lib.hid hN
  replace Hx := Lib.hid Hx
  clear fd
  go_enter Tryz.func27, Tryz.ntmps27
  go_wp2_with fail
  refine wp_region_mid 1 10 (by kernel_rfl) (by kernel_rfl) (by kernel_rfl) ?_
  simp only [List.take_succ_cons, List.take_zero, List.drop_succ_cons, List.drop_zero]
  repeat (go_big_quiet_step (fail))
  refine wpQuiet_nil ?_
  repeat (go_big_quiet_step (fail))
  refine wpQuiet_nil ?_
  go_wp2_with fail
  refine S.out.mono ?_
  rintro e w1 ⟨v', ob, rfl, hn, hf, ho⟩
  have hf0 : Fr (fun k => oz = some k) w w1 := (Fr.drew _ w).trans hf (fun _ _ h => h)
  obtain ⟨q1, q2, fz0, cz0, cz1, fin⟩ := int_fin hz.out hn hf0 ho
  have F := Lib.hid (fin false 0 (ptr pz) (by simp))
  have cx0 : (w1.setCell ⟨pz, 1, none⟩ v').cell? ⟨px, 0, none⟩ = some (.bool false) :=
    (World.cell?_setCell_other w1 _ _ _ (by intro e; cases e)).trans (cell_frame hx.out.c0 hf0 (fun e => hz.out.nat.sto.ne_bool hx.out.c0 e))
  obtain ⟨a', m', c', rfl⟩ := hn.slice
  replace hn := Lib.hid hn
  replace hf := Lib.hid hf
  replace ho := Lib.hid ho
  replace hf0 := Lib.hid hf0
  replace fin := Lib.hid fin
  clear S z1 x1
  go_wp2_with fail
  refine NoPanic.normal ?_
  go_wp2_with fail
  go_ret
  exact IntEnd.op F.out rfl

set_option maxHeartbeats 2000000 in
set_option maxRecDepth 100000 in
/-- A power, into a new big.Int. -/
theorem iexp_any (pz px py : Nat) (vx vy : Value) (ox oy : Option Nat) (m n : Nat) (w : World) (hz : IntC w pz false (.slice none 0 0) none 0) (hx : IntC w px false vx ox m) (hy : IntC w py false vy oy n) (nzx : pz ≠ px)
    (hm : 2 ≤ m) (hm1 : m < W64) (hn : n < 1000) (hp : m ^ n < W64 ^ 9) (hg : Gk w) :
    Calls Tryz.prog 171 #[.pointer (some ⟨pz, 0, none⟩), .pointer (some ⟨px, 0, none⟩), .pointer (some ⟨py, 0, none⟩), .pointer none, .bool false] w (IntOp w pz none (ptr pz) ((m ^ n : Nat) : Int)) := by
  have S := expNN_any vx vy ox oy m n w hx.nat hy.nat hm hm1 hn hp hg
  obtain ⟨N, hN⟩ : ∃ N, N = m ^ n := ⟨_, rfl⟩
  have hN0 : 0 < N := by rw [hN]; exact Nat.pow_pos (by omega)
  rw [← hN] at S ⊢
  replace S := Lib.hid S
  have z1 := hz.c1
  have x0 := hx.c0
  have x1 := hx.c1
  have y0 := hy.c0
  have y1 := hy.c1
  have hxl := hx.lt
  replace hz := Lib.hid hz
  replace hx := Lib.hid hx
  replace hN := Lib.hid hN
  have hyl : ∃ a c k, vy = .slice a k c := by
    obtain ⟨a, k, c, e⟩ := hy.nat.slice
    exact ⟨a, c, k, e⟩
  have hxv : ∃ a c k, vx = .slice a k c := by
    obtain ⟨a, k, c, e⟩ := hx.out.nat.slice
    exact ⟨a, c, k, e⟩
  obtain ⟨ay, cy, ky, rfl⟩ := hyl
  obtain ⟨ax, cx, kx, rfl⟩ := hxv
  replace hy := Lib.hid hy
  replace hp := Lib.hid hp
  replace hm := Lib.hid hm
  replace hm1 := Lib.hid hm1
  replace hg := Lib.hid hg
  replace hxl := Lib.hid hxl
  go_enter Tryz.func171, Tryz.ntmps171
  go_wp2_with fail
  refine S.out.mono ?_
  rintro e w1 ⟨v', ob, rfl, hn', hf, hfresh⟩
  have ho : ob = none ∨ ∃ b, ob = some b ∧ w.heap.size ≤ b := by
    cases ob with
    | none => exact Or.inl rfl
    | some b => exact Or.inr ⟨b, rfl, hfresh b rfl⟩
  have hf0 : Fr (fun k => (none : Option Nat) = some k) w w1 := hf.mono (fun _ _ h => h.elim)
  obtain ⟨q1, q2, fz0, cz0, cz1, fin⟩ := int_fin hz.out hn' hf0 ho
  have F := Lib.hid (fin false 0 (ptr pz) (by simp))
  have cx0 : (w1.setCell ⟨pz, 1, none⟩ v').cell? ⟨px, 0, none⟩ = some (.bool false) :=
    (World.cell?_setCell_other w1 _ _ _ (by intro e; cases e)).trans (cell_frame x0 hf (fun f => f))
  rcases hn'.split with ⟨h0, _⟩ | ⟨b', l', len', rfl, H'⟩
  · omega
  · have p1 := H'.pos
    have e1 : (0 : Int) < len' := by omega
    obtain rfl := H'.val
    replace H' := Lib.hid H'
    replace hn' := Lib.hid hn'
    replace hf := Lib.hid hf
    replace ho := Lib.hid ho
    replace hf0 := Lib.hid hf0
    replace fin := Lib.hid fin
    replace hfresh := Lib.hid hfresh
    clear S
    go_wp2_with fail
    go_ret
    exact IntEnd.op F.out rfl

set_option maxHeartbeats 1000000 in
theorem iExp_any (pz px py : Nat) (vx vy : Value) (ox oy : Option Nat) (m n : Nat) (w : World) (hz : IntC w pz false (.slice none 0 0) none 0) (hx : IntC w px false vx ox m) (hy : IntC w py false vy oy n) (nzx : pz ≠ px)
    (hm : 2 ≤ m) (hm1 : m < W64) (hn : n < 1000) (hp : m ^ n < W64 ^ 9) (hg : Gk w) :
    Calls Tryz.prog 154 #[.pointer (some ⟨pz, 0, none⟩), .pointer (some ⟨px, 0, none⟩), .pointer (some ⟨py, 0, none⟩), .pointer none] w (IntOp w pz none (ptr pz) ((m ^ n : Nat) : Int)) := by
  have M := Lib.hid (iexp_any pz px py vx vy ox oy m n w hz hx hy nzx hm hm1 hn hp hg)
  clear hz hx hy hg hp
  obtain ⟨N, hN⟩ : ∃ N, N = m ^ n := ⟨_, rfl⟩
  rw [← hN] at M ⊢
  clear hN
  go_enter Tryz.func154, Tryz.ntmps154
  go_wp2_with fail
  refine M.out.mono ?_
  rintro e w1 ⟨ob, rfl, h1, h2, h3, h4⟩
  replace h4 := Lib.hid h4
  replace h1 := Lib.hid h1
  replace h2 := Lib.hid h2
  replace h3 := Lib.hid h3
  go_wp2_with fail
  go_ret
  exact ⟨ob, rfl, h1.out, h2.out, h3.out, h4.out⟩
end Go.Proofs.YtcpjclakdpjjfaaGreatDoor


/-
  A part of the proof of FnQuantityAgain (texts I5, I6 of mine, joined).
-/
import Derived.Test.YtcpjclakdpjjfaaGreatDoorM16
import Derived.Test.YtcpjclakdpjjfaaGreatDoorM13
namespace Go.Proofs.YtcpjclakdpjjfaaGreatDoor
open Go.RowKit

def ptr (p : Nat) : Value := .pointer (some ⟨p, 0, none⟩)

/-- What an operation into the big.Int at block pz, its storage oz, comes to: it is z. -/
def IntOp (w : World) (pz : Nat) (oz : Option Nat) (r : Value) (z : Int) (e : Ending) (w' : World) : Prop :=
  ∃ ob, e = .returned r ∧ IntAt w' pz z ob ∧ Fr (fun k => k = pz ∨ oz = some k) w w' ∧ (ob = oz ∨ ∃ b, ob = some b ∧ w.heap.size ≤ b) ∧ Hi pz w w'

theorem IntEnd.op {w w' : World} {pz : Nat} {oz : Option Nat} {r : Value} {g : Bool} {n : Nat} {z : Int} {e : Ending} (h : IntEnd w pz oz r g n e w') (hz : z = sgn g n) : IntOp w pz oz r z e w' := by
  obtain ⟨v, ob, h1, h2, h3, h4, h5⟩ := h
  exact ⟨ob, h1, ⟨g, v, n, h2, hz⟩, h3, h4, h5⟩

theorem NatV.slice {w : World} {v : Value} {ob : Option Nat} {n : Nat} (h : NatV w v ob n) : ∃ a m c, v = .slice a m c := by
  rcases h.split with ⟨_, ax, cx, e⟩ | ⟨bx, lx, nx, _, Hx⟩
  · exact ⟨_, _, _, e⟩
  · exact ⟨_, _, _, Hx.val⟩

theorem sgn_natAbs (g : Bool) (n : Nat) : (sgn g n).natAbs = n := by unfold sgn; split <;> omega
theorem IntC.sgn0 {w : World} {p : Nat} {g : Bool} {v : Value} {ob : Option Nat} {n : Nat} (h : IntC w p g v ob n) : (sgn g n < 0) ↔ g = true := by
  unfold sgn
  constructor
  · intro hl; cases g with
    | true => rfl
    | false => simp at hl; omega
  · intro e; subst e; have := h.can rfl; simp; omega

set_option maxHeartbeats 1000000 in
theorem int64_any (p : Nat) (g : Bool) (v : Value) (ob : Option Nat) (n : Nat) (w : World) (h : IntC w p g v ob n) :
    Calls Tryz.prog 57 #[.pointer (some ⟨p, 0, none⟩)] w fun e w' => e = .returned (.int .i64 (IntKind.i64.wrap (sgn g n))) ∧ w = w' := by
  have c0 := h.c0
  have c1 := h.c1
  have L := Lib.hid (low64_any v ob n w h.nat)
  have eT : wrap64 (-wrap64 ((n % W64 : Nat) : Int)) = IntKind.i64.wrap (sgn true n) := by
    show _ = IntKind.i64.wrap (-(n : Int))
    rw [IntKind.wrap_i64]; unfold wrap64 W64; omega
  have eF : wrap64 ((n % W64 : Nat) : Int) = IntKind.i64.wrap (sgn false n) := by
    show _ = IntKind.i64.wrap ((n : Int))
    rw [IntKind.wrap_i64]; unfold wrap64 W64; omega
  obtain ⟨k, hk⟩ : ∃ k, k = n % W64 := ⟨_, rfl⟩
  rw [← hk] at L eT eF
  clear hk
  have key : ∀ a m c, v = .slice a m c → Calls Tryz.prog 57 #[.pointer (some ⟨p, 0, none⟩)] w fun e w' => e = .returned (.int .i64 (IntKind.i64.wrap (sgn g n))) ∧ w = w' := by
    intro a m c e
    subst e
    clear h
    cases g with
    | true =>
      obtain ⟨r, hr⟩ : ∃ r, r = IntKind.i64.wrap (sgn true n) := ⟨_, rfl⟩
      rw [← hr] at eT ⊢
      replace eT := Lib.hid eT
      replace eF := Lib.hid eF
      replace hr := Lib.hid hr
      go_enter Tryz.func57, Tryz.ntmps57
      go_wp2_with fail
      refine L.out.mono ?_
      rintro e w1 ⟨rfl, rfl⟩
      go_wp2_with fail
      go_ret
      exact ⟨congrArg (fun z => Ending.returned (.int .i64 z)) eT.out, rfl⟩
    | false =>
      obtain ⟨r, hr⟩ : ∃ r, r = IntKind.i64.wrap (sgn false n) := ⟨_, rfl⟩
      rw [← hr] at eF ⊢
      replace eT := Lib.hid eT
      replace eF := Lib.hid eF
      replace hr := Lib.hid hr
      go_enter Tryz.func57, Tryz.ntmps57
      go_wp2_with fail
      refine L.out.mono ?_
      rintro e w1 ⟨rfl, rfl⟩
      go_wp2_with fail
      go_ret
      exact ⟨congrArg (fun z => Ending.returned (.int .i64 z)) eF.out, rfl⟩
  rcases h.nat.split with ⟨_, ax, cx, e⟩ | ⟨bx, lx, nx, _, Hx⟩
  · exact key _ _ _ e
  · exact key _ _ _ Hx.val

theorem IntC.made2 {w1 : World} {p : Nat} {v : Value} {ob : Option Nat} {n : Nat} {u0 u1 : Value} (hp : Plain w1 p) (c0 : w1.cell? ⟨p, 0, none⟩ = some u0) (c1 : w1.cell? ⟨p, 1, none⟩ = some u1) (hn : NatV w1 v ob n) (far : ob ≠ some p) (g : Bool) (can : g = true → n ≠ 0) :
    IntC ((w1.setCell ⟨p, 1, none⟩ v).setCell ⟨p, 0, none⟩ (.bool g)) p g v ob n ∧ Fr (fun i => i = p) w1 ((w1.setCell ⟨p, 1, none⟩ v).setCell ⟨p, 0, none⟩ (.bool g)) := IntC.made hp c0 c1 hn far g can 0

set_option maxHeartbeats 1000000 in
theorem setInt64_any (p : Nat) (g : Bool) (v : Value) (ob : Option Nat) (n : Nat) (x : Int) (h1 : -9223372036854775808 ≤ x) (h2 : x ≤ 9223372036854775807) (w : World) (h : IntC w p g v ob n) :
    Calls Tryz.prog 58 #[.pointer (some ⟨p, 0, none⟩), .int .i64 x] w (IntOp w p ob (ptr p) x) := by
  have c0 := h.c0
  have c1 := h.c1
  have f0 := h.plain.free 0
  have f1 := h.plain.free 1
  have S := Lib.hid (setUint64_any v ob x.natAbs w h.nat.sto (by unfold W64; omega))
  have hh := Lib.hid h
  have fin : ∀ (v' : Value) (ob' : Option Nat) (w1 : World) (g' : Bool), x = sgn g' x.natAbs → NatV w1 v' ob' x.natAbs → Fr (fun k => ob = some k) w w1 → (ob' = ob ∨ ∃ b, ob' = some b ∧ w.heap.size ≤ b) → (g' = true → x.natAbs ≠ 0) →
      IntOp w p ob (ptr p) x (.returned (ptr p)) ((w1.setCell ⟨p, 1, none⟩ v').setCell ⟨p, 0, none⟩ (.bool g')) ∧ w1.frozen? ⟨p, 1, none⟩ = false ∧ w1.cell? ⟨p, 1, none⟩ = some v ∧ (w1.setCell ⟨p, 1, none⟩ v').frozen? ⟨p, 0, none⟩ = false ∧ (w1.setCell ⟨p, 1, none⟩ v').cell? ⟨p, 0, none⟩ = some (.bool g) := by
    intro v' ob' w1 g' hx hn hf ho can
    have hp1 : Plain w1 p := h.plain.frame hf (fun e => h.far e)
    have q0 := cell_frame h.c0 hf (fun e => h.far e)
    have q1 := cell_frame h.c1 hf (fun e => h.far e)
    have far : ob' ≠ some p := by
      rcases ho with e | ⟨b, e, hb⟩
      · rw [e]; exact h.far
      · rw [e]; intro f; cases f; have := h.lt; omega
    obtain ⟨m1, m2⟩ := IntC.made2 hp1 q0 q1 hn far g' can
    refine ⟨⟨ob', rfl, ⟨g', v', _, m1, hx⟩, (hf.mono (fun _ _ h => Or.inr h)).trans (m2.mono (fun _ _ h => Or.inl h)) (fun _ _ h => h), ho, (Hi.fr hf h.plain.lt (fun e => h.far e)).trans (Hi.sets p w1 v' (.bool g') 0)⟩, hp1.free 1, q1, (hp1.setCell _ _).free 0, ?_⟩
    rw [World.cell?_setCell_other _ _ _ _ (by intro e; cases e)]; exact q0
  replace fin := Lib.hid fin
  have key : ∀ a m c, v = .slice a m c → Calls Tryz.prog 58 #[.pointer (some ⟨p, 0, none⟩), .int .i64 x] w (IntOp w p ob (ptr p) x) := by
    intro a m c e
    subst e
    clear h
    by_cases hx : x < 0
    · have hw : IntKind.u64.wrap (wrap64 (-x)) = (x.natAbs : Int) := by rw [IntKind.wrap_u64]; unfold wrap64; omega
      have hs : x = sgn true x.natAbs := by show x = -(x.natAbs : Int); omega
      have hc : Hid (true = true → x.natAbs ≠ 0) := fun _ => by omega
      obtain ⟨u, hu⟩ : ∃ u, u = x.natAbs := ⟨_, rfl⟩
      rw [← hu] at S fin hw hs hc
      replace hs := Lib.hid hs
      replace hu := Lib.hid hu
      replace h1 := Lib.hid h1
      replace h2 := Lib.hid h2
      go_enter Tryz.func58, Tryz.ntmps58
      go_wp2_with fail
      refine S.out.mono ?_
      rintro e w1 ⟨v', ob', rfl, hn, hf, ho⟩
      obtain ⟨a', m', c', rfl⟩ := hn.slice
      obtain ⟨r, r1, r2, r3, r4⟩ := fin.out _ ob' w1 true hs.out hn hf ho (fun _ => hc.out trivial)
      replace r := Lib.hid r
      replace hn := Lib.hid hn
      replace hf := Lib.hid hf
      replace ho := Lib.hid ho
      go_wp2_with fail
      go_ret
      exact r.out
    · have hw : IntKind.u64.wrap x = (x.natAbs : Int) := by rw [IntKind.wrap_u64]; omega
      have hs : x = sgn false x.natAbs := by show x = (x.natAbs : Int); omega
      have hc : Hid (false = true → x.natAbs ≠ 0) := fun h => by cases h
      obtain ⟨u, hu⟩ : ∃ u, u = x.natAbs := ⟨_, rfl⟩
      rw [← hu] at S fin hw hs hc
      replace hs := Lib.hid hs
      replace hu := Lib.hid hu
      replace h1 := Lib.hid h1
      replace h2 := Lib.hid h2
      go_enter Tryz.func58, Tryz.ntmps58
      go_wp2_with fail
      refine S.out.mono ?_
      rintro e w1 ⟨v', ob', rfl, hn, hf, ho⟩
      obtain ⟨a', m', c', rfl⟩ := hn.slice
      obtain ⟨r, r1, r2, r3, r4⟩ := fin.out _ ob' w1 false hs.out hn hf ho (fun h => by cases h)
      replace r := Lib.hid r
      replace hn := Lib.hid hn
      replace hf := Lib.hid hf
      replace ho := Lib.hid ho
      go_wp2_with fail
      go_ret
      exact r.out
  rcases h.nat.split with ⟨_, ax, cx, e⟩ | ⟨bx, lx, nx, _, Hx⟩
  · exact key _ _ _ e
  · exact key _ _ _ Hx.val
end Go.Proofs.YtcpjclakdpjjfaaGreatDoor

namespace Go.Proofs.YtcpjclakdpjjfaaGreatDoor
open Go.RowKit

def cmpZ (x y : Int) : Int := if x < y then -1 else if x = y then 0 else 1

theorem cmpZ_sgn {gx gy : Bool} {m n : Nat} (hx : gx = true → m ≠ 0) (hy : gy = true → n ≠ 0) :
    cmpZ (sgn gx m) (sgn gy n) = if gx = gy then (if gx = true then -cmpI m n else cmpI m n) else if gx = true then -1 else 1 := by
  unfold cmpZ cmpI sgn
  cases gx <;> cases gy <;> simp <;> (try simp at hx) <;> (try simp at hy) <;> (repeat' split) <;> omega

set_option maxHeartbeats 1000000 in
set_option maxRecDepth 100000 in
theorem icmp_any (px py : Nat) (gx gy : Bool) (vx vy : Value) (ox oy : Option Nat) (nx ny : Nat) (w : World) (hx : IntC w px gx vx ox nx) (hy : IntC w py gy vy oy ny) (nxy : px ≠ py) :
    Calls Tryz.prog 59 #[.pointer (some ⟨px, 0, none⟩), .pointer (some ⟨py, 0, none⟩)] w fun e w' => e = .returned (.int .i64 (cmpZ (sgn gx nx) (sgn gy ny))) ∧ Dr w w' := by
  rw [cmpZ_sgn hx.can hy.can]
  have P1 : (binOp .eql 78 (.pointer (some ⟨px, 0, none⟩)) (.pointer (some ⟨py, 0, none⟩))).run Tryz.prog w = .ok (.bool false) w :=
    ptr_eql_other w Tryz.underlying78 info70 (by intro e; exact nxy (congrArg Addr.block e)) hx.plain hy.plain
  have C : Hid (∀ k, Calls Tryz.prog 93 #[vx, vy] (w.drewN k) fun e w' => e = .returned (.int .i64 (cmpI nx ny)) ∧ Dr (w.drewN k) w') := fun k =>
    cmp_any vx vy ox oy nx ny (w.drewN k) (hx.nat.frame (Fr.drewN (fun _ => False) w k) (fun _ _ f => f)) (hy.nat.frame (Fr.drewN (fun _ => False) w k) (fun _ _ f => f))
  obtain ⟨N, hN⟩ : ∃ N, N = cmpI nx ny := ⟨_, rfl⟩
  have hN2 : N = -1 ∨ N = 0 ∨ N = 1 := by rw [hN]; unfold cmpI; split; exact Or.inl rfl; split; exact Or.inr (Or.inl rfl); exact Or.inr (Or.inr rfl)
  have hN3 : wrap64 (-N) = -N := by unfold wrap64; omega
  rw [← hN] at C ⊢
  have c0 := hx.c0
  have c1 := hx.c1
  have d0 := hy.c0
  have d1 := hy.c1
  clear hN hx hy
  replace hN2 := Lib.hid hN2
  cases gx <;> cases gy
  · simp only [if_true, Bool.false_eq_true, if_false]
    go_enter Tryz.func59, Tryz.ntmps59
    go_wp2_with fail
    go_quiet (fail)
    go_wp2_with fail
    refine wp_region_mid 0 8 (by kernel_rfl) (by kernel_rfl) (by kernel_rfl) ?_
    simp only [List.take_succ_cons, List.take_zero, List.drop_succ_cons, List.drop_zero]
    refine wpQuiet_nil ?_
    repeat (go_big_quiet_step (fail))
    refine wpQuiet_nil ?_
    go_wp2_with fail
    refine (C.out _).mono ?_
    rintro e w1 ⟨rfl, k, rfl⟩
    go_wp2_with fail
    refine NoPanic.normal ?_
    go_wp2_with fail
    go_ret
    first | exact ⟨rfl, _, rfl⟩ | exact ⟨ret_int hN3, _, rfl⟩
  · simp only [Bool.false_eq_true, if_false]
    go_enter Tryz.func59, Tryz.ntmps59
    go_wp2_with fail
    go_quiet (fail)
    go_wp2_with fail
    go_ret
    exact ⟨rfl, _, rfl⟩
  · simp only [if_true]
    go_enter Tryz.func59, Tryz.ntmps59
    go_wp2_with fail
    go_quiet (fail)
    go_wp2_with fail
    go_ret
    exact ⟨rfl, _, rfl⟩
  · simp only [if_true]
    go_enter Tryz.func59, Tryz.ntmps59
    go_wp2_with fail
    go_quiet (fail)
    go_wp2_with fail
    refine wp_region_mid 0 8 (by kernel_rfl) (by kernel_rfl) (by kernel_rfl) ?_
    simp only [List.take_succ_cons, List.take_zero, List.drop_succ_cons, List.drop_zero]
    refine wpQuiet_nil ?_
    repeat (go_big_quiet_step (fail))
    refine wpQuiet_nil ?_
    go_wp2_with fail
    refine (C.out _).mono ?_
    rintro e w1 ⟨rfl, k, rfl⟩
    go_wp2_with fail
    refine NoPanic.normal ?_
    go_wp2_with fail
    go_ret
    first | exact ⟨rfl, _, rfl⟩ | exact ⟨ret_int hN3, _, rfl⟩

/-- The post of Set at the same pointer. -/
theorem iset_same (p : Nat) (w : World) :
    Calls Tryz.prog 53 #[.pointer (some ⟨p, 0, none⟩), .pointer (some ⟨p, 0, none⟩)] w fun e w' => e = .returned (ptr p) ∧ w = w' := by
  have P1 : (binOp .neq 78 (.pointer (some ⟨p, 0, none⟩)) (.pointer (some ⟨p, 0, none⟩))).run Tryz.prog w = .ok (.bool false) w := ptr_neq_same _ w Tryz.underlying78 info70
  go_enter Tryz.func53, Tryz.ntmps53
  go_wp2_with fail
  go_ret
  exact ⟨rfl, rfl⟩

set_option maxHeartbeats 2000000 in
set_option maxRecDepth 100000 in
theorem iset_any (pz px : Nat) (gz gx : Bool) (vz vx : Value) (oz ox : Option Nat) (nz nx : Nat) (w : World) (hz : IntC w pz gz vz oz nz) (hx : IntC w px gx vx ox nx) (nzx : pz ≠ px) (bx : nx < W64 ^ 100) :
    Calls Tryz.prog 53 #[.pointer (some ⟨pz, 0, none⟩), .pointer (some ⟨px, 0, none⟩)] w (IntEnd w pz oz (ptr pz) gx nx) := by
  have P1 : (binOp .neq 78 (.pointer (some ⟨pz, 0, none⟩)) (.pointer (some ⟨px, 0, none⟩))).run Tryz.prog w = .ok (.bool true) w :=
    ptr_neq_other w Tryz.underlying78 info70 (by intro e; exact nzx (congrArg Addr.block e)) hz.plain hx.plain
  have fd : Fr (fun _ => False) w w.drew := Fr.drew _ w
  have S := set_any vz vx oz ox nx w.drew (hz.nat.frame fd (fun _ _ h => h)).sto (hx.nat.frame fd (fun _ _ h => h)) bx
  replace S := Lib.hid S
  have z1 := hz.c1
  have x1 := hx.c1
  replace hz := Lib.hid hz
  replace hx := Lib.hid hx
  replace bx := Lib.hid bx
  clear fd
  go_enter Tryz.func53, Tryz.ntmps53
  go_wp2_with fail
  clear P1
  refine wp_region_mid 1 9 (by kernel_rfl) (by kernel_rfl) (by kernel_rfl) ?_
  simp only [List.take_succ_cons, List.take_zero, List.drop_succ_cons, List.drop_zero]
  repeat (go_big_quiet_step (fail))
  refine wpQuiet_nil ?_
  repeat (go_big_quiet_step (fail))
  refine wpQuiet_nil ?_
  go_wp2_with fail
  refine S.out.mono ?_
  rintro e w1 ⟨v', ob, rfl, hn, hf, ho⟩
  have hf0 : Fr (fun k => oz = some k) w w1 := (Fr.drew _ w).trans hf (fun _ _ h => h)
  have hpz : Plain w1 pz := hz.out.plain.frame hf0 (fun e => hz.out.far e)
  have q1 := hpz.free 1
  have q2 := cell_frame hz.out.c1 hf0 (fun e => hz.out.far e)
  have q3 := cell_frame hz.out.c0 hf0 (fun e => hz.out.far e)
  have hob : ob ≠ some pz := by
    rcases ho with e | ⟨b, e, hb⟩
    · rw [e]; exact hz.out.far
    · rw [e]
      intro f
      cases f
      have := hz.out.lt
      have e2 : w.drew.heap.size = w.heap.size := rfl
      omega
  obtain ⟨m1, m2⟩ := IntC.made2 hpz q3 q2 hn hob gx hx.out.can
  have hfin : Fr (fun k => k = pz ∨ oz = some k) w ((w1.setCell ⟨pz, 1, none⟩ v').setCell ⟨pz, 0, none⟩ (.bool gx)) := (hf0.mono (fun _ _ h => Or.inr h)).trans (m2.mono (fun _ _ h => Or.inl h)) (fun _ _ h => h)
  have hHi : Hid (Hi pz w ((w1.setCell ⟨pz, 1, none⟩ v').setCell ⟨pz, 0, none⟩ (.bool gx))) := (Hi.fr hf0 hz.out.plain.lt (fun e => hz.out.far e)).trans (Hi.sets pz w1 v' (.bool gx) 0)
  have n01 : (⟨pz, 1, none⟩ : Addr) ≠ ⟨pz, 0, none⟩ := by intro e; cases e
  have fz0 : (w1.setCell ⟨pz, 1, none⟩ v').frozen? ⟨pz, 0, none⟩ = false := (hpz.setCell _ _).free 0
  have cz0 : (w1.setCell ⟨pz, 1, none⟩ v').cell? ⟨pz, 0, none⟩ = some (.bool gz) := (World.cell?_setCell_other w1 _ _ _ n01).trans q3
  have cx0 : (w1.setCell ⟨pz, 1, none⟩ v').cell? ⟨px, 0, none⟩ = some (.bool gx) :=
    (World.cell?_setCell_other w1 _ _ _ (by intro e; cases e)).trans (cell_frame hx.out.c0 hf0 (fun e => hz.out.nat.sto.ne_bool hx.out.c0 e))
  obtain ⟨a', m', c', rfl⟩ := hn.slice
  replace m1 := Lib.hid m1
  replace m2 := Lib.hid m2
  replace hfin := Lib.hid hfin
  replace hob := Lib.hid hob
  replace hf := Lib.hid hf
  replace ho := Lib.hid ho
  replace hf0 := Lib.hid hf0
  replace hpz := Lib.hid hpz
  replace hn := Lib.hid hn
  clear S z1 x1 n01
  go_wp2_with fail
  refine NoPanic.normal ?_
  go_wp2_with fail
  go_ret
  exact ⟨_, ob, rfl, m1.out, hfin.out, ho.out, hHi.out⟩

set_option maxHeartbeats 2000000 in
/-- Neg in place. -/
theorem ineg_same (p : Nat) (g : Bool) (v : Value) (ob : Option Nat) (n : Nat) (w : World) (h : IntC w p g v ob n) :
    Calls Tryz.prog 56 #[.pointer (some ⟨p, 0, none⟩), .pointer (some ⟨p, 0, none⟩)] w (IntOp w p ob (ptr p) (-(sgn g n))) := by
  have S := Lib.hid (iset_same p w)
  have c0 := h.c0
  have c1 := h.c1
  have f0 := h.plain.free 0
  have mk : ∀ g' : Bool, (g' = true → n ≠ 0) → IntC (w.setCell ⟨p, 0, none⟩ (.bool g')) p g' v ob n ∧ Fr (fun k => k = p ∨ ob = some k) w (w.setCell ⟨p, 0, none⟩ (.bool g')) := by
    intro g' can
    have f : Fr (fun i => i = p) w (w.setCell ⟨p, 0, none⟩ (.bool g')) := Fr.setCell (S := fun i => i = p) _ _ _ (fun _ => rfl)
    refine ⟨⟨h.plain.setCell _ _, World.cell?_setCell_same _ _ _ c0, ?_, h.nat.frame f (fun b hb e => h.far (e ▸ hb)), can, h.far⟩, f.mono (fun _ _ h => Or.inl h)⟩
    rw [World.cell?_setCell_other _ _ _ _ (by intro e; cases e)]; exact c1
  rcases h.nat.split with ⟨h0, ax, cx, rfl⟩ | ⟨bx, lx, nx, rfl, Hx⟩
  · have hg : g = false := by
      cases g with
      | false => rfl
      | true => exact (h.can rfl h0).elim
    subst hg
    have M := mk false (by simp)
    subst h0
    replace M := Lib.hid M
    clear h mk
    go_enter Tryz.func56, Tryz.ntmps56
    go_wp2_with fail
    refine S.out.mono ?_
    rintro e w1 ⟨rfl, rfl⟩
    go_wp2_with fail
    go_ret
    exact ⟨ob, rfl, ⟨false, _, 0, M.out.1, rfl⟩, M.out.2, Or.inl rfl, Hi.set0 _ _ _⟩
  · have e1 : (0 : Int) < nx := by have := Hx.pos; omega
    have hn := Hx.npos
    have M := mk (!g) (fun _ => by omega)
    obtain rfl := Hx.val
    have es : -(sgn g n) = sgn (!g) n := by cases g <;> simp [sgn]
    rw [es]
    replace M := Lib.hid M
    replace Hx := Lib.hid Hx
    clear h mk es
    cases g with
    | true =>
      go_enter Tryz.func56, Tryz.ntmps56
      go_wp2_with fail
      refine S.out.mono ?_
      rintro e w1 ⟨rfl, rfl⟩
      go_wp2_with fail
      go_ret
      exact ⟨_, rfl, ⟨_, _, n, M.out.1, rfl⟩, M.out.2, Or.inl rfl, Hi.set0 _ _ _⟩
    | false =>
      go_enter Tryz.func56, Tryz.ntmps56
      go_wp2_with fail
      refine S.out.mono ?_
      rintro e w1 ⟨rfl, rfl⟩
      go_wp2_with fail
      go_ret
      exact ⟨_, rfl, ⟨_, _, n, M.out.1, rfl⟩, M.out.2, Or.inl rfl, Hi.set0 _ _ _⟩
end Go.Proofs.YtcpjclakdpjjfaaGreatDoor


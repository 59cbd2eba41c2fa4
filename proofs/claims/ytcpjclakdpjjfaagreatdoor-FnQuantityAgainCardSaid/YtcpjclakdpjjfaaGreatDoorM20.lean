/-
  A part of the proof of FnQuantityAgain (texts J1, Lg, Bl, Mp of mine, joined).
-/
import Derived.Test.YtcpjclakdpjjfaaGreatDoorM19
import Derived.Test.YtcpjclakdpjjfaaGreatDoorM08
import Derived.Laws.BitsLemmas
import Derived.Laws.FloatArith
namespace Go.Proofs.YtcpjclakdpjjfaaGreatDoor
open Go.RowKit

theorem ediv_sgn {nx ny : Nat} (hy : 0 < ny) : ((-(nx : Int)) / (ny : Int) = if nx % ny = 0 then -((nx / ny : Nat) : Int) else -((nx / ny : Nat) : Int) - 1) ∧ ((-(nx : Int)) % (ny : Int) = if nx % ny = 0 then 0 else (ny : Int) - ((nx % ny : Nat) : Int)) := by
  have hd := Nat.div_add_mod nx ny
  have hlt := Nat.mod_lt nx hy
  generalize nx / ny = q at *
  generalize nx % ny = r at *
  subst hd
  by_cases h : r = 0
  · subst h
    rw [if_pos rfl, if_pos rfl, Nat.add_zero, Int.natCast_mul, ← Int.mul_neg]
    exact ⟨Int.mul_ediv_cancel_left _ (by omega), Int.mul_emod_right _ _⟩
  · rw [if_neg h, if_neg h]
    have e : -((ny * q + r : Nat) : Int) = (ny : Int) * (-(q : Int) - 1) + ((ny : Int) - r) := by
      rw [Int.mul_sub, Int.mul_neg]; simp; omega
    rw [e]
    have hb : 0 ≤ (ny : Int) - r ∧ (ny : Int) - r < ny := by omega
    constructor
    · rw [Int.mul_add_ediv_left _ _ (by omega), Int.ediv_eq_zero_of_lt hb.1 hb.2, Int.add_zero]
    · rw [Int.mul_add_emod_self_left]; exact Int.emod_eq_of_lt hb.1 hb.2

/-- What DivMod comes to. -/
def DmEnd (w : World) (pz : Nat) (oz : Option Nat) (pr : Nat) (or_ : Option Nat) (q r : Int) (e : Ending) (w' : World) : Prop :=
  ∃ o1 o2, e = .returned (.tuple #[ptr pz, ptr pr]) ∧ IntAt w' pz q o1 ∧ IntAt w' pr r o2 ∧ Fr (fun k => k = pz ∨ k = pr ∨ oz = some k ∨ or_ = some k) w w' ∧
    (o1 = oz ∨ ∃ b, o1 = some b ∧ w.heap.size ≤ b) ∧ (o2 = or_ ∨ ∃ b, o2 = some b ∧ w.heap.size ≤ b) ∧ (∀ b, o1 = some b → o2 ≠ some b)

set_option maxHeartbeats 4000000 in
set_option maxRecDepth 100000 in
theorem divMod_any (pz px py pr : Nat) (gz gx gr : Bool) (vz vx vy vr : Value) (oz ox or_ : Option Nat) (by_ nz nx ny nr : Nat) (ly : List Nat) (w : World) (hz : IntC w pz gz vz oz nz) (hx : IntC w px gx vx ox nx) (hy : IntC w py false vy (some by_) ny) (hr : IntC w pr gr vr or_ nr)
    (Hy : Wds w vy by_ ly 1 ny) (nzx : pz ≠ px) (nzy : pz ≠ py) (nzr : pz ≠ pr) (nrx : pr ≠ px) (nry : pr ≠ py) (dzr : ∀ b, oz = some b → or_ ≠ some b) (dzy : oz ≠ some by_) (dry : or_ ≠ some by_) (bx : nx < W64 ^ 30) :
    Calls Tryz.prog 156 #[.pointer (some ⟨pz, 0, none⟩), .pointer (some ⟨px, 0, none⟩), .pointer (some ⟨py, 0, none⟩), .pointer (some ⟨pr, 0, none⟩)] w
      (DmEnd w pz oz pr or_ (sgn gx nx / (ny : Int)) (sgn gx nx % (ny : Int))) := by
  have fd : ∀ k, Fr (fun _ => False) w (w.drewN k) := fun k => Fr.drewN _ w k
  have P1 : ∀ n, (binOp .eql 78 (.pointer (some ⟨pz, 0, none⟩)) (.pointer (some ⟨py, 0, none⟩))).run Tryz.prog (w.drewN n) = .ok (.bool false) (w.drewN n) := fun n =>
    ptr_eql_other (w.drewN n) Tryz.underlying78 info70 (by intro e; exact nzy (congrArg Addr.block e)) (hz.plain.drewN n) (hy.plain.drewN n)
  have A : ∀ k, Calls Tryz.prog 84 #[vz, vy] (w.drewN k) fun e w' => e = .returned (.bool false) ∧ Dr (w.drewN k) w' := fun k => by
    have := alias_any vz vy oz (some by_) (w.drewN k) (hz.nat.frame (fd k) (fun _ _ f => f)).sto (hy.nat.frame (fd k) (fun _ _ f => f)).sto
    have e : aliasB oz (some by_) = false := by
      cases oz with
      | none => rfl
      | some b =>
        show decide (b = by_) = false
        rw [decide_eq_false]
        intro e; exact dzy (by rw [e])
    rwa [e] at this
  have h100 : W64 ^ 30 ≤ W64 ^ 100 := Nat.pow_le_pow_right W64_pos (by omega)
  have Q : Hid (∀ k, Calls Tryz.prog 149 #[.pointer (some ⟨pz, 0, none⟩), .pointer (some ⟨px, 0, none⟩), .pointer (some ⟨py, 0, none⟩), .pointer (some ⟨pr, 0, none⟩)] (w.drewN k)
      (QrEnd (w.drewN k) pz oz pr or_ (if nx / ny = 0 then false else gx != false) (nx / ny) (if nx % ny = 0 then false else gx) (nx % ny))) := fun k => by
    have fz := hz.frame (fd k) (fun f => f) (fun _ _ f => f)
    have fx := hx.frame (fd k) (fun f => f) (fun _ _ f => f)
    have fy := hy.frame (fd k) (fun f => f) (fun _ _ f => f)
    have fr := hr.frame (fd k) (fun f => f) (fun _ _ f => f)
    refine quoRem_any pz px py pr gz gx false gr vz vx vy vr oz ox (some by_) or_ nz nx ny nr (w.drewN k) fz fx fy fr nzx nzy nzr nrx nry ?_
    refine div_word vz vr vx vy oz or_ ox by_ nx ny ly (w.drewN k).drew ?_ ?_ ?_ ⟨Hy.val, (Hy.blk.drewN k).drew, Hy.le, Hy.pos, Hy.cap, Hy.eq, Hy.top⟩ (by omega) dzr
    · exact (hz.nat.frame (Fr.drewN (fun _ => False) w (k + 1)) (fun _ _ f => f)).sto
    · exact (hr.nat.frame (Fr.drewN (fun _ => False) w (k + 1)) (fun _ _ f => f)).sto
    · exact hx.nat.frame (Fr.drewN (fun _ => False) w (k + 1)) (fun _ _ f => f)
  replace A := Lib.hid A
  have z1 := hz.c1
  have y1 := hy.c1
  have y0 := hy.c0
  have hyp := Hy.npos
  have hyl := Hy.lt
  rw [Nat.pow_one] at hyl
  replace hz := Lib.hid hz
  replace hx := Lib.hid hx
  replace hy := Lib.hid hy
  replace hr := Lib.hid hr
  replace Hy := Lib.hid Hy
  replace bx := Lib.hid bx
  replace h100 := Lib.hid h100
  replace hyl := Lib.hid hyl
  replace dzr := Lib.hid dzr
  clear fd
  obtain ⟨ZQ, hZQ⟩ : ∃ z, z = sgn gx nx / (ny : Int) := ⟨_, rfl⟩
  obtain ⟨ZR, hZR⟩ : ∃ z, z = sgn gx nx % (ny : Int) := ⟨_, rfl⟩
  rw [← hZQ, ← hZR]
  replace hZQ := Lib.hid hZQ
  replace hZR := Lib.hid hZR
  replace hyp := Lib.hid hyp
  go_enter Tryz.func156, Tryz.ntmps156
  go_wp2_with fail
  refine wp_region_mid 0 12 (by kernel_rfl) (by kernel_rfl) (by kernel_rfl) ?_
  simp only [List.take_succ_cons, List.take_zero, List.drop_succ_cons, List.drop_zero]
  refine wpQuiet_nil ?_
  repeat (go_big_quiet_step (fail))
  refine wpQuiet_nil ?_
  go_wp2_with fail
  refine (A.out _).mono ?_
  rintro e w1 ⟨rfl, k, rfl⟩
  go_wp2_with fail
  refine NoPanic.normal ?_
  go_wp2_with fail
  refine (Q.out _).mono ?_
  rintro e w2 ⟨v1, o1, v2, o2, rfl, hq2, hr2, hf0, a1, a2, dis, _⟩
  have hf : Fr (fun i => i = pz ∨ i = pr ∨ oz = some i ∨ or_ = some i) w w2 := (Fr.drewN _ w _).trans hf0 (fun _ _ h => h)
  have b1 : o1 = oz ∨ ∃ b, o1 = some b ∧ w.heap.size ≤ b := a1
  have b2 : o2 = or_ ∨ ∃ b, o2 = some b ∧ w.heap.size ≤ b := a2
  have q0 := hr2.c0
  have q0' := hq2.c0
  replace hf0 := Lib.hid hf0
  replace a1 := Lib.hid a1
  replace a2 := Lib.hid a2
  clear P1 A Q
  by_cases hneg : gx = true ∧ nx % ny ≠ 0
  · obtain ⟨rfl, hrem⟩ := hneg
    have hy2 : IntC w2 py false vy (some by_) ny := hy.out.frame hf (fun e => by
      rcases e with e | e | e | e
      · exact nzy e.symm
      · exact nry e.symm
      · exact hz.out.nat.sto.ne_bool hy.out.c0 e
      · exact hr.out.nat.sto.ne_bool hy.out.c0 e) (fun b hb e => by
      cases hb
      rcases e with e | e | e | e
      · exact hy.out.nat.sto.ne_bool hz.out.c0 (congrArg some e)
      · exact hy.out.nat.sto.ne_bool hr.out.c0 (congrArg some e)
      · exact dzy e
      · exact dry e)
    have c0 := hy2.c0
    have O1 := Lib.hid (intOne_any w2)
    rw [if_neg hrem] at q0 hr2
    obtain ⟨G, hG⟩ : ∃ G, G = (if nx / ny = 0 then false else (true != false)) := ⟨_, rfl⟩
    rw [← hG] at q0' hq2
    replace hG := Lib.hid hG
    replace hq2 := Lib.hid hq2
    replace hr2 := Lib.hid hr2
    replace hf := Lib.hid hf
    replace b1 := Lib.hid b1
    replace b2 := Lib.hid b2
    replace dis := Lib.hid dis
    replace hy2 := Lib.hid hy2
    replace hrem := Lib.hid hrem
    go_wp2_with fail
    refine O1.out.mono ?_
    rintro e w3 ⟨p1, ob1, rfl, hone, hf3, hp1, hob1⟩
    obtain ⟨vo, ho⟩ := IntAt.nat (n := 1) hone
    have hq3 := hq2.out.frame hf3 (fun f => f) (fun _ _ f => f)
    have hr3 := hr2.out.frame hf3 (fun f => f) (fun _ _ f => f)
    have hy3 := hy2.out.frame hf3 (fun f => f) (fun _ _ f => f)
    have hqb : nx / ny < W64 ^ 30 := Nat.lt_of_le_of_lt (Nat.div_le_self _ _) bx.out
    have h1b : (1 : Nat) < W64 ^ 30 := by
      have : W64 ^ 1 ≤ W64 ^ 30 := Nat.pow_le_pow_right W64_pos (by omega)
      rw [Nat.pow_one] at this
      unfold W64 at *
      omega
    have S := isub_any pz pz p1 G G false v1 v1 vo o1 o1 ob1 (nx / ny) (nx / ny) 1 w3 hq3 hq3 ho hqb h1b (fun e => by
      have := hG.out
      rw [e] at this
      by_cases h0 : nx / ny = 0
      · exact ⟨by omega, by unfold W64; omega⟩
      · rw [if_neg h0] at this; cases this)
    replace S := Lib.hid S
    have hzp : pz ≠ p1 := by have := hq2.out.lt; omega
    replace hone := Lib.hid hone
    replace ho := Lib.hid ho
    replace hf3 := Lib.hid hf3
    replace hob1 := Lib.hid hob1
    replace hp1 := Lib.hid hp1
    replace hq3 := Lib.hid hq3
    replace hr3 := Lib.hid hr3
    replace hy3 := Lib.hid hy3
    replace hqb := Lib.hid hqb
    replace h1b := Lib.hid h1b
    clear O1
    go_wp2_with fail
    refine S.out.mono ?_
    rintro e w4 ⟨o4, rfl, hz4, hf4, a4, _⟩
    have no1r : ∀ b, o2 = some b → ¬ (b = pz ∨ o1 = some b) := fun b hb e => by
      rcases e with e | e
      · exact hr3.out.nat.sto.ne_bool hq3.out.c0 (by rw [hb, e])
      · exact dis.out b e hb
    have hr4 := hr3.out.frame hf4 (fun e => by
      rcases e with e | e
      · exact nzr e.symm
      · exact hq3.out.nat.sto.ne_bool hr3.out.c0 e) no1r
    have hy4 := hy3.out.frame hf4 (fun e => by
      rcases e with e | e
      · exact nzy e.symm
      · exact hq3.out.nat.sto.ne_bool hy3.out.c0 e) (fun b hb e => by
      cases hb
      rcases e with e | e
      · exact hy3.out.nat.sto.ne_bool hq3.out.c0 (congrArg some e)
      · rcases b1.out with h | ⟨b', h, hge⟩
        · rw [h] at e; exact dzy e
        · rw [h] at e; cases e
          have := hy.out.nat.lt
          omega)
    have hrb : nx % ny < W64 ^ 30 := Nat.lt_of_le_of_lt (Nat.mod_le _ _) bx.out
    have hyb : ny < W64 ^ 30 := by
      have : W64 ^ 1 ≤ W64 ^ 30 := Nat.pow_le_pow_right W64_pos (by omega)
      rw [Nat.pow_one] at this
      have := hyl.out
      omega
    have T := iadd_any pr pr py true true false v2 v2 vy o2 o2 (some by_) (nx % ny) (nx % ny) ny w4 hr4 hr4 hy4 hrb hyb (fun _ => ⟨Nat.mod_lt _ hyp.out, hyl.out⟩)
    replace T := Lib.hid T
    replace hz4 := Lib.hid hz4
    replace hf4 := Lib.hid hf4
    replace a4 := Lib.hid a4
    replace no1r := Lib.hid no1r
    replace hr4 := Lib.hid hr4
    replace hy4 := Lib.hid hy4
    replace hrb := Lib.hid hrb
    replace hyb := Lib.hid hyb
    clear S
    go_wp2_with fail
    refine T.out.mono ?_
    rintro e w5 ⟨o5, rfl, hr5, hf5, a5, _⟩
    have hz5 : IntAt w5 pz (sgn G (nx / ny) - sgn false 1) o4 := by
      obtain ⟨g', v', n', hC, e'⟩ := hz4.out
      refine ⟨g', v', n', hC.frame hf5 (fun e => ?_) (fun b hb e => ?_), e'⟩
      · rcases e with e | e
        · exact nzr e
        · exact no1r.out _ e (Or.inl rfl)
      · rcases e with e | e
        · subst e
          exact hC.nat.sto.ne_bool hr4.out.c0 hb
        · rcases a4.out with h | ⟨b', h, hge⟩
          · rw [h] at hb; exact no1r.out _ e (Or.inr hb)
          · rw [hb] at h; cases h
            have : b < w3.heap.size := by have := hr3.out.nat; rw [e] at this; exact this.lt
            omega
    have eq1 : sgn G (nx / ny) - sgn false 1 = ZQ := by
      rw [hZQ.out]
      show _ = (-(nx : Int)) / (ny : Int)
      rw [(ediv_sgn hyp.out).1, if_neg hrem.out, hG.out]
      by_cases h0 : nx / ny = 0
      · rw [if_pos h0, h0]; rfl
      · rw [if_neg h0]; rfl
    have eq2 : sgn true (nx % ny) + sgn false ny = ZR := by
      rw [hZR.out]
      show -((nx % ny : Nat) : Int) + (ny : Int) = (-(nx : Int)) % (ny : Int)
      rw [(ediv_sgn hyp.out).2, if_neg hrem.out]; omega
    rw [eq1] at hz5
    rw [eq2] at hr5
    have ffin : Fr (fun i => i = pz ∨ i = pr ∨ oz = some i ∨ or_ = some i) w w5 := by
      refine ((hf.out.trans (hf3.out.mono (fun _ _ h => h.elim)) (fun _ _ h => h)).trans (hf4.out.mono (T := fun i => i = pz ∨ o1 = some i) (fun _ _ h => h)) (fun i hi e => ?_)).trans (hf5.mono (T := fun i => i = pr ∨ o2 = some i) (fun _ _ h => h)) (fun i hi e => ?_)
      · rcases e with e | e
        · exact Or.inl e
        · rcases b1.out with h | ⟨b', h, hge⟩
          · rw [h] at e; exact Or.inr (Or.inr (Or.inl e))
          · rw [h] at e; cases e; omega
      · rcases e with e | e
        · exact Or.inr (Or.inl e)
        · rcases b2.out with h | ⟨b', h, hge⟩
          · rw [h] at e; exact Or.inr (Or.inr (Or.inr e))
          · rw [h] at e; cases e; omega
    have s2 := hf.out.size
    have s3 := hf3.out.size
    have s4 := hf4.out.size
    have p1' : o4 = oz ∨ ∃ b, o4 = some b ∧ w.heap.size ≤ b := by
      rcases a4.out with h | ⟨b', h, hge⟩
      · rw [h]; exact b1.out
      · exact Or.inr ⟨b', h, by omega⟩
    have p2' : o5 = or_ ∨ ∃ b, o5 = some b ∧ w.heap.size ≤ b := by
      rcases a5 with h | ⟨b', h, hge⟩
      · rw [h]; exact b2.out
      · exact Or.inr ⟨b', h, by omega⟩
    have pd : ∀ b, o4 = some b → o5 ≠ some b := by
      intro b hb e
      rcases a5 with h | ⟨b', h, hge⟩
      · rw [h] at e
        rcases a4.out with h4 | ⟨b4, h4, hge4⟩
        · rw [h4] at hb; exact dis.out b hb e
        · rw [hb] at h4; cases h4
          have : b < w3.heap.size := by have := hr3.out.nat; rw [e] at this; exact this.lt
          omega
      · rw [e] at h; cases h
        obtain ⟨g', v', n', hC, _⟩ := hz4.out
        have : b < w4.heap.size := by have := hC.nat; rw [hb] at this; exact this.lt
        omega
    have FIN : DmEnd w pz oz pr or_ ZQ ZR (.returned (.tuple #[ptr pz, ptr pr])) w5 := ⟨o4, o5, rfl, hz5, hr5, ffin, p1', p2', pd⟩
    replace FIN := Lib.hid FIN
    replace hz5 := Lib.hid hz5
    replace hr5 := Lib.hid hr5
    replace ffin := Lib.hid ffin
    replace p1' := Lib.hid p1'
    replace p2' := Lib.hid p2'
    replace pd := Lib.hid pd
    replace hf5 := Lib.hid hf5
    replace a5 := Lib.hid a5
    replace eq1 := Lib.hid eq1
    replace eq2 := Lib.hid eq2
    clear T
    go_wp2_with fail
    go_ret2
    exact FIN.out
  · have e2 : (if nx % ny = 0 then false else gx) = false := by
      by_cases h : nx % ny = 0
      · rw [if_pos h]
      · rw [if_neg h]
        cases gx with
        | false => rfl
        | true => exact (hneg ⟨rfl, h⟩).elim
    have eq1 : sgn (if nx / ny = 0 then false else gx != false) (nx / ny) = ZQ := by
      rw [hZQ.out]
      cases gx with
      | false => show sgn (if nx / ny = 0 then false else false) (nx / ny) = (nx : Int) / (ny : Int); simp [sgn]
      | true =>
        have h : nx % ny = 0 := by
          by_cases h : nx % ny = 0
          · exact h
          · exact (hneg ⟨rfl, h⟩).elim
        show _ = (-(nx : Int)) / (ny : Int)
        rw [(ediv_sgn hyp.out).1, if_pos h]
        by_cases h0 : nx / ny = 0
        · rw [if_pos h0, h0]; rfl
        · rw [if_neg h0]; rfl
    have eq2 : sgn (if nx % ny = 0 then false else gx) (nx % ny) = ZR := by
      rw [e2, hZR.out]
      cases gx with
      | false => show ((nx % ny : Nat) : Int) = (nx : Int) % (ny : Int); simp
      | true =>
        have h : nx % ny = 0 := by
          by_cases h : nx % ny = 0
          · exact h
          · exact (hneg ⟨rfl, h⟩).elim
        show ((nx % ny : Nat) : Int) = (-(nx : Int)) % (ny : Int)
        rw [(ediv_sgn hyp.out).2, if_pos h, h]; rfl
    have FIN : DmEnd w pz oz pr or_ ZQ ZR (.returned (.tuple #[ptr pz, ptr pr])) w2 := ⟨o1, o2, rfl, ⟨_, _, _, hq2, eq1.symm⟩, ⟨_, _, _, hr2, eq2.symm⟩, hf, b1, b2, dis⟩
    rw [e2] at q0
    replace FIN := Lib.hid FIN
    replace hq2 := Lib.hid hq2
    replace hr2 := Lib.hid hr2
    replace hf := Lib.hid hf
    replace b1 := Lib.hid b1
    replace b2 := Lib.hid b2
    replace dis := Lib.hid dis
    replace eq1 := Lib.hid eq1
    replace eq2 := Lib.hid eq2
    replace e2 := Lib.hid e2
    replace hneg := Lib.hid hneg
    clear q0'
    go_wp2_with fail
    go_ret2
    exact FIN.out
end Go.Proofs.YtcpjclakdpjjfaaGreatDoor

namespace Go.Proofs.YtcpjclakdpjjfaaGreatDoor
open Go.RowKit

/-! THE LOGARITHM OF 10 BY 2, as math.Log2 reckons it. -/
theorem run_archLog (w : World) : (callFunc 243 #[.float .f64 4603804719079489536]).run Tryz.prog w = .ok (.value (.float .f64 13825510489450817230)) w := by
  rw [run_callFunc_extern (e := Extern.MathLog.archLog) Tryz.func243 (by kernel_rfl) (by kernel_rfl) (by kernel_rfl) (by kernel_rfl)]
  kernel_rfl
theorem run_bits (b : Nat) (w : World) : (callFunc 248 #[.float .f64 b]).run Tryz.prog w = .ok (.value (.int .u64 (b : Int))) w := by
  rw [run_callFunc_extern (e := Extern.MathFloatBits.float64bits) Tryz.func248 (by kernel_rfl) (by kernel_rfl) (by kernel_rfl) (by kernel_rfl)]
  rfl
theorem run_frombits (b : Nat) (w : World) : (callFunc 249 #[.int .u64 (b : Int)]).run Tryz.prog w = .ok (.value (.float .f64 b)) w := by
  rw [run_callFunc_extern (e := Extern.MathFloatBits.float64frombits) Tryz.func249 (by kernel_rfl) (by kernel_rfl) (by kernel_rfl) (by kernel_rfl)]
  rfl

set_option maxRecDepth 100000 in
theorem fabs_ten (w : World) : Calls Tryz.prog 252 #[.float .f64 4621819117588971520] w fun e w' => e = .returned (.float .f64 4621819117588971520) ∧ w = w' := by
  have H1 : ∀ w, (callFunc 248 #[.float .f64 4621819117588971520]).run Tryz.prog w = .ok (.value (.int .u64 4621819117588971520)) w := fun w => run_bits 4621819117588971520 w
  have H2 : ∀ w, (callFunc 249 #[.int .u64 4621819117588971520]).run Tryz.prog w = .ok (.value (.float .f64 4621819117588971520)) w := fun w => run_frombits 4621819117588971520 w
  have H3 : bits .andNot .u64 4621819117588971520 9223372036854775808 = 4621819117588971520 := by decide +kernel
  go_enter Tryz.func252, Tryz.ntmps252
  go_wp2
  go_ret
  exact ⟨rfl, rfl⟩
theorem isNaN_ten (w : World) : Calls Tryz.prog 246 #[.float .f64 4621819117588971520] w fun e w' => e = .returned (.bool false) ∧ w = w' := by
  have H : (FloatKind.f64.format.order 4621819117588971520 4621819117588971520 != some Ordering.eq) = false := by kernel_rfl
  go_enter Tryz.func246, Tryz.ntmps246
  go_wp2
  go_ret
  exact ⟨by simp, rfl⟩

theorem isInf_ten (w : World) : Calls Tryz.prog 245 #[.float .f64 4621819117588971520, .int .i64 0] w fun e w' => e = .returned (.bool false) ∧ w = w' := by
  have H : (FloatKind.f64.format.order 4621819117588971520 9218868437227405311 == some Ordering.gt) = false := by kernel_rfl
  have A := fabs_ten w
  go_enter Tryz.func245, Tryz.ntmps245
  go_wp2_with fail
  refine A.mono ?_
  rintro e w1 ⟨rfl, rfl⟩
  go_wp2_with fail
  go_ret
  exact ⟨by simp, rfl⟩
theorem normalize_ten (w : World) : Calls Tryz.prog 247 #[.float .f64 4621819117588971520] w fun e w' => e = .returned (.tuple #[.float .f64 4621819117588971520, .int .i64 0]) ∧ w = w' := by
  have H : (FloatKind.f64.format.order 4621819117588971520 4503599627370496 == some Ordering.lt) = false := by kernel_rfl
  have A := fabs_ten w
  go_enter Tryz.func247, Tryz.ntmps247
  go_wp2_with fail
  refine A.mono ?_
  rintro e w1 ⟨rfl, rfl⟩
  go_wp2_with fail
  go_ret2
  exact ⟨rfl, rfl⟩

set_option maxRecDepth 100000 in
theorem frexp_ten (w : World) : Calls Tryz.prog 242 #[.float .f64 4621819117588971520] w fun e w' => e = .returned (.tuple #[.float .f64 4603804719079489536, .int .i64 4]) ∧ w = w' := by
  have H0 : (FloatKind.f64.format.order 4621819117588971520 0 == some Ordering.eq) = false := by kernel_rfl
  have H1 : ∀ w, (callFunc 248 #[.float .f64 4621819117588971520]).run Tryz.prog w = .ok (.value (.int .u64 4621819117588971520)) w := fun w => run_bits 4621819117588971520 w
  have H2 : ∀ w, (callFunc 249 #[.int .u64 4603804719079489536]).run Tryz.prog w = .ok (.value (.float .f64 4603804719079489536)) w := fun w => run_frombits 4603804719079489536 w
  have K1 : bits .and .u64 1026 2047 = 1026 := by decide +kernel
  have K2 : bits .andNot .u64 4621819117588971520 9218868437227405312 = 1125899906842624 := by decide +kernel
  have K3 : bits .or .u64 1125899906842624 4602678819172646912 = 4603804719079489536 := by decide +kernel
  have A := isInf_ten w
  have B := isNaN_ten w
  have C := normalize_ten w
  go_enter Tryz.func242, Tryz.ntmps242
  go_wp2_with fail
  refine A.mono ?_
  rintro e w1 ⟨rfl, rfl⟩
  go_wp2_with fail
  refine B.mono ?_
  rintro e w1 ⟨rfl, rfl⟩
  go_wp2_with fail
  refine C.mono ?_
  rintro e w1 ⟨rfl, rfl⟩
  go_wp2_with fail
  go_ret2
  exact ⟨rfl, rfl⟩
theorem Frexp_ten (w : World) : Calls Tryz.prog 232 #[.float .f64 4621819117588971520] w fun e w' => e = .returned (.tuple #[.float .f64 4603804719079489536, .int .i64 4]) ∧ w = w' := by
  have A := frexp_ten w
  go_enter Tryz.func232, Tryz.ntmps232
  go_wp2_with fail
  refine A.mono ?_
  rintro e w1 ⟨rfl, rfl⟩
  go_wp2_with fail
  go_ret2
  exact ⟨rfl, rfl⟩
theorem Log_ten (w : World) : Calls Tryz.prog 233 #[.float .f64 4603804719079489536] w fun e w' => e = .returned (.float .f64 13825510489450817230) ∧ w = w' := by
  have A := run_archLog
  go_enter Tryz.func233, Tryz.ntmps233
  go_wp2
  go_ret
  exact ⟨rfl, rfl⟩
set_option maxRecDepth 100000 in
theorem log2_ten (w : World) : Calls Tryz.prog 219 #[.float .f64 4621819117588971520] w fun e w' => e = .returned (.float .f64 4614662735865160561) ∧ w = w' := by
  have H0 : (FloatKind.f64.format.order 4603804719079489536 4602678819172646912 == some Ordering.eq) = false := by kernel_rfl
  have H1 : ∀ w, (binOp .mul 293 (.float .f64 13825510489450817230) (.float .f64 4609176140021203710)).run Tryz.prog w = .ok (.float .f64 13827654785158443579) w := fun w => by kernel_rfl
  have H2 : ∀ w, (binOp .add 293 (.float .f64 13827654785158443579) (.float .f64 4616189618054758400)).run Tryz.prog w = .ok (.float .f64 4614662735865160561) w := fun w => by kernel_rfl
  have H3 : floatOfInt .f64 4 = 4616189618054758400 := by kernel_rfl
  have A := Frexp_ten w
  have B := Log_ten w
  go_enter Tryz.func219, Tryz.ntmps219
  go_wp2_with fail
  refine A.mono ?_
  rintro e w1 ⟨rfl, rfl⟩
  go_wp2_with fail
  refine B.mono ?_
  rintro e w1 ⟨rfl, rfl⟩
  go_wp2_with fail
  go_ret
  exact ⟨rfl, rfl⟩
theorem Log2_ten (w : World) : Calls Tryz.prog 195 #[.float .f64 4621819117588971520] w fun e w' => e = .returned (.float .f64 4614662735865160561) ∧ w = w' := by
  have A := log2_ten w
  go_enter Tryz.func195, Tryz.ntmps195
  go_wp2_with fail
  refine A.mono ?_
  rintro e w1 ⟨rfl, rfl⟩
  go_wp2_with fail
  go_ret
  exact ⟨rfl, rfl⟩
end Go.Proofs.YtcpjclakdpjjfaaGreatDoor

namespace Go.Proofs.YtcpjclakdpjjfaaGreatDoor
open Go.RowKit

theorem or_word {a b : Nat} (ha : a < 2 ^ 64) (hb : b < 2 ^ 64) : bits .or .u64 (a : Int) (b : Int) = ((a ||| b : Nat) : Int) :=
  (bits_nat .u64 64 (by decide) (fun n h0 h1 => by rw [IntKind.wrap_u64]; omega) a b ha hb).2

/-- A word whose bits were smeared: not smaller, of the same length. -/
theorem smear {t x B d : Nat} (h1 : t ≤ x) (h2 : x < 2 ^ B) (hB : B ≤ 64) : ∃ y : Nat, bits .or .u64 (x : Int) ((x : Int) / (d : Int)) = (y : Int) ∧ t ≤ y ∧ y < 2 ^ B := by
  have hd : x / d ≤ x := Nat.div_le_self _ _
  have h64 : 2 ^ B ≤ 2 ^ 64 := Nat.pow_le_pow_right (by omega) hB
  refine ⟨x ||| x / d, ?_, ?_, ?_⟩
  · rw [← Int.natCast_ediv]
    exact or_word (by omega) (by omega)
  · exact Nat.le_trans h1 Nat.left_le_or
  · exact Nat.or_lt_two_pow h2 (by omega)

set_option maxHeartbeats 2000000 in
set_option maxRecDepth 100000 in
theorem bitLen_any (x : Value) (b len n : Nat) (l : List Nat) (w : World) (hx : Wds w x b l len n) :
    Calls Tryz.prog 194 #[x] w fun e w' => ∃ L : Nat, e = .returned (.int .i64 (L : Int)) ∧ w = w' ∧ n < 2 ^ L ∧ 1 ≤ L ∧ L ≤ 64 * len := by
  have t0 := gd_lt hx.blk.ok (len - 1)
  have p1 := hx.pos
  have p2 := hx.cap
  have p3 := hx.le
  obtain ⟨b1, b2, b3, b4⟩ := lz_norm (y := gd l (len - 1)) (by have := hx.top; omega) t0
  have c1 : w.cell? ⟨b, len - 1, none⟩ = some (.int .u64 ((gd l (len - 1) : Nat) : Int)) := hx.blk.cell _ (by have := hx.le; omega)
  have hlt : gd l (len - 1) < 2 ^ Lib.bitLen (gd l (len - 1)) := by
    obtain ⟨k1, k2, k3⟩ := Lib.bitLenAux_bounds 64 (gd l (len - 1)) t0 (by have := hx.top; omega)
    exact k3
  have hn : n < 2 ^ (64 * (len - 1) + Lib.bitLen (gd l (len - 1))) := by
    rw [← hx.eq]
    obtain ⟨d, rfl⟩ : ∃ d, len = d + 1 := ⟨len - 1, by omega⟩
    rw [vl_snoc, Nat.zero_add, Nat.add_sub_cancel] at *
    have h1 := vl_lt hx.blk.ok 0 d
    have e : W64 ^ d = 2 ^ (64 * d) := by rw [Nat.pow_mul]; rfl
    rw [e] at h1 ⊢
    rw [Nat.pow_add]
    have h2 : 2 ^ (64 * d) * (gd l d + 1) ≤ 2 ^ (64 * d) * 2 ^ Lib.bitLen (gd l d) := Nat.mul_le_mul_left _ hlt
    rw [Nat.mul_add, Nat.mul_one] at h2
    omega
  obtain ⟨t, ht⟩ : ∃ t, t = gd l (len - 1) := ⟨_, rfl⟩
  rw [← ht] at c1 hlt hn b1 b2
  obtain ⟨B, hB⟩ : ∃ B, B = Lib.bitLen t := ⟨_, rfl⟩
  rw [← hB] at hlt hn b1 b2
  obtain ⟨t1, E1, q1, r1⟩ := smear (d := 2) (Nat.le_refl t) hlt b1
  obtain ⟨t2, E2, q2, r2⟩ := smear (d := 4) q1 r1 b1
  obtain ⟨t3, E3, q3, r3⟩ := smear (d := 16) q2 r2 b1
  obtain ⟨t4, E4, q4, r4⟩ := smear (d := 256) q3 r3 b1
  obtain ⟨t5, E5, q5, r5⟩ := smear (d := 65536) q4 r4 b1
  obtain ⟨t6, E6, q6, r6⟩ := smear (d := 65536 * 65536) q5 r5 b1
  replace E1 : bits .or .u64 (t : Int) ((t : Int) / 2) = (t1 : Int) := E1
  replace E2 : bits .or .u64 (t1 : Int) ((t1 : Int) / 4) = (t2 : Int) := E2
  replace E3 : bits .or .u64 (t2 : Int) ((t2 : Int) / 16) = (t3 : Int) := E3
  replace E4 : bits .or .u64 (t3 : Int) ((t3 : Int) / 256) = (t4 : Int) := E4
  replace E5 : bits .or .u64 (t4 : Int) ((t4 : Int) / 65536) = (t5 : Int) := E5
  have E6' : bits .or .u64 (t5 : Int) ((t5 : Int) / 65536 / 65536) = (t6 : Int) := by
    rw [← E6, Int.ediv_ediv_of_nonneg (by omega)]; rfl
  have h64 : 2 ^ B ≤ 2 ^ 64 := Nat.pow_le_pow_right (by omega) b1
  have e64 : W64 = 2 ^ 64 := by decide
  have HL := Tryz.bits_Len (t6 : Int) w (by omega) (by omega)
  rw [Int.toNat_natCast] at HL
  obtain ⟨L, hL⟩ : ∃ L, L = Lib.bitLen t6 := ⟨_, rfl⟩
  have hLB : B ≤ L ∧ L ≤ 64 := by
    obtain ⟨k1, k2, k3⟩ := Lib.bitLenAux_bounds 64 t6 (by omega) (by have := hx.top; rw [← ht] at this; omega)
    have e1 : Lib.bitLenAux 64 t6 = L := hL.symm
    rw [e1] at k1 k2 k3
    obtain ⟨j1, j2, j3⟩ := Lib.bitLenAux_bounds 64 t (by omega) (by have := hx.top; rw [← ht] at this; omega)
    have e2 : Lib.bitLenAux 64 t = B := hB.symm
    rw [e2] at j1 j2 j3
    refine ⟨?_, by rw [hL]; exact Lib.bitLen_le t6 64 (Nat.le_refl _) (by omega)⟩
    have : 2 ^ (B - 1) < 2 ^ L := by omega
    have := (Nat.pow_lt_pow_iff_right (show 1 < 2 by decide)).1 this
    omega
  rw [← hL] at HL
  have hfin : n < 2 ^ (64 * (len - 1) + L) := Nat.lt_of_lt_of_le hn (Nat.pow_le_pow_right (by omega) (by omega))
  obtain rfl := hx.val
  have f1 : (len : Int) - 1 = ((len - 1 : Nat) : Int) := by omega
  have f2 : ((len - 1 : Nat) : Int) < len := by omega
  have f3 : (0 : Int) ≤ ((len - 1 : Nat) : Int) := by omega
  have hl1 : len ≤ 1000 := by omega
  replace HL := Lib.hid HL
  replace hfin := Lib.hid hfin
  replace hL := Lib.hid hL
  replace hlt := Lib.hid hlt
  replace hn := Lib.hid hn
  replace h64 := Lib.hid h64
  replace e64 := Lib.hid e64
  replace E6 := Lib.hid E6
  replace r1 := Lib.hid r1
  replace r2 := Lib.hid r2
  replace r3 := Lib.hid r3
  replace r4 := Lib.hid r4
  replace r5 := Lib.hid r5
  replace r6 := Lib.hid r6
  replace ht := Lib.hid ht
  replace hB := Lib.hid hB
  replace t0 := Lib.hid t0
  replace b3 := Lib.hid b3
  replace b4 := Lib.hid b4
  replace hx := Lib.hid hx
  go_enter Tryz.func194, Tryz.ntmps194
  go_wp2_with fail
  refine HL.out.mono ?_
  rintro e w1 ⟨rfl, rfl⟩
  go_wp2_with fail
  go_ret
  refine ⟨64 * (len - 1) + L, ?_, rfl, hfin.out, by omega, by omega⟩
  refine congrArg (fun z => Ending.returned (.int .i64 z)) ?_
  omega
end Go.Proofs.YtcpjclakdpjjfaaGreatDoor

namespace Go.Proofs.YtcpjclakdpjjfaaGreatDoor
open Go.RowKit

/-- How many digits itoa makes room for, less one. -/
def roomOf (L : Nat) : Option Int := (floatBits .quo .f64 (floatOfInt .f64 (L : Int)) 4614662735865160561).bind fun r => floatToIntVal .f64 r .i64
theorem room_tab : ∀ L : Fin 520, (match roomOf L.val with | some n => decide (0 ≤ n ∧ n ≤ 200 ∧ 2 ^ L.val ≤ 10 ^ (n.toNat + 1)) | none => false) = true := by decide +kernel
theorem room_any (L : Nat) (h : L < 520) : ∃ r n : Nat, floatBits .quo .f64 (floatOfInt .f64 (L : Int)) 4614662735865160561 = some r ∧ floatToIntVal .f64 r .i64 = some (n : Int) ∧ n ≤ 200 ∧ 2 ^ L ≤ 10 ^ (n + 1) := by
  have := room_tab ⟨L, h⟩
  simp only [roomOf] at this
  cases e : floatBits .quo .f64 (floatOfInt .f64 (L : Int)) 4614662735865160561 with
  | none => rw [e] at this; simp at this
  | some r =>
    rw [e] at this
    simp only [Option.bind_some] at this
    cases e2 : floatToIntVal .f64 r .i64 with
    | none => rw [e2] at this; simp at this
    | some n =>
      rw [e2] at this
      simp only [decide_eq_true_eq] at this
      obtain ⟨m, rfl⟩ : ∃ m : Nat, n = m := ⟨n.toNat, by omega⟩
      rw [Int.toNat_natCast] at this
      exact ⟨r, m, rfl, e2, by omega, this.2.2⟩

set_option maxHeartbeats 1000000 in
set_option maxRecDepth 100000 in
theorem maxPow_ten (w : World) : Calls Tryz.prog 181 #[.int .u64 10] w fun e w' => e = .returned (.tuple #[.int .u64 10000000000000000000, .int .i64 19]) ∧ w = w' := by
  go_enter Tryz.func181, Tryz.ntmps181
  go_wp2_with fail
  go_loop [2, 3] (fun p n => ∃ k q : Nat, p = .int .u64 (q : Int) ∧ n = .int .i64 (k : Int) ∧ Hid (q = 10 ^ k) ∧ 1 ≤ k ∧ k ≤ 19) (fun _ n => 19 - (intOf n).toNat)
  case atStart => exact ⟨1, 10, rfl, rfl, by rfl, by omega, by omega⟩
  case round =>
    obtain ⟨k, q, rfl, rfl, hq, hk1, hk2⟩ := hrel
    by_cases h : k = 19
    · subst h
      obtain rfl : q = 10000000000000000000 := by rw [hq.out]
      clear hq
      go_wp2_with fail
      go_ret2
      exact ⟨rfl, rfl⟩
    · have h18 : 10 ^ k ≤ 10 ^ 18 := Nat.pow_le_pow_right (by omega) (by omega)
      have hle : q ≤ 10 ^ 18 := by rw [hq.out]; exact h18
      have e18 : (10 : Nat) ^ 18 = 1000000000000000000 := by decide
      rw [e18] at hle
      have c1 : (q : Int) ≤ 1844674407370955161 := by omega
      have F : IntKind.u64.wrap ((q : Int) * 10) = ((q * 10 : Nat) : Int) := by
        rw [show (q : Int) * 10 = ((q * 10 : Nat) : Int) by omega]; exact wrapu _ (by unfold W64; omega)
      have hq2 : Hid (q * 10 = 10 ^ (k + 1)) := by show _ = _; rw [hq.out, Nat.pow_succ]
      obtain ⟨q2, hq2e⟩ : ∃ q2, q2 = q * 10 := ⟨_, rfl⟩
      rw [← hq2e] at F hq2
      replace hq2e := Lib.hid hq2e
      replace hle := Lib.hid hle
      replace h18 := Lib.hid h18
      clear e18
      go_wp2_with fail
      go_round
      case rel => exact ⟨k + 1, q2, rfl, by simp, hq2, by omega, by omega⟩
      case measure => simp [intOf]; omega

theorem pow_half (x n : Nat) : x ^ n = (x * x) ^ (n / 2) * (if n % 2 = 0 then 1 else x) := by
  have e : n = 2 * (n / 2) + n % 2 := (Nat.div_add_mod n 2).symm
  have hx : (x * x) ^ (n / 2) = x ^ (2 * (n / 2)) := by rw [Nat.pow_mul, Nat.pow_two]
  rw [hx]
  rcases Nat.mod_two_eq_zero_or_one n with h | h
  · rw [if_pos h, Nat.mul_one]
    congr 1; omega
  · rw [if_neg (by omega), ← Nat.pow_succ]
    congr 1; omega

set_option maxHeartbeats 1000000 in
set_option maxRecDepth 100000 in
theorem pow_ten (N : Nat) (hN : N ≤ 19) (w : World) : Calls Tryz.prog 182 #[.int .u64 10, .int .i64 (N : Int)] w fun e w' => e = .returned (.int .u64 ((10 ^ N : Nat) : Int)) ∧ w = w' := by
  have hT : 10 ^ N < W64 := Nat.lt_of_le_of_lt (Nat.pow_le_pow_right (by omega) hN) (by decide)
  obtain ⟨T, hTe⟩ : ∃ T, T = 10 ^ N := ⟨_, rfl⟩
  rw [← hTe] at hT ⊢
  replace hT := Lib.hid hT
  replace hTe := Lib.hid hTe
  go_enter Tryz.func182, Tryz.ntmps182
  go_wp2_with fail
  go_loop [4, 0, 1] (fun p x n => ∃ a b k : Nat, p = .int .u64 (a : Int) ∧ x = .int .u64 (b : Int) ∧ n = .int .i64 (k : Int) ∧ Hid (a < W64 ∧ b < W64 ∧ (a * b ^ k) % W64 = T) ∧ k ≤ 19) (fun _ _ n => (intOf n).toNat)
  case atStart => exact ⟨1, 10, N, rfl, rfl, rfl, ⟨by decide, by decide, by rw [Nat.one_mul, ← hTe.out]; exact Nat.mod_eq_of_lt hT.out⟩, hN⟩
  case round =>
    obtain ⟨a, b, k, rfl, rfl, rfl, hI, hk⟩ := hrel
    by_cases h0 : k = 0
    · subst h0
      have : a = T := by
        have := hI.out.2.2
        rw [Nat.pow_zero, Nat.mul_one, Nat.mod_eq_of_lt hI.out.1] at this
        exact this
      subst this
      go_wp2_with fail
      go_ret
      exact ⟨rfl, rfl⟩
    · have c1 : (0 : Int) < k := by omega
      have S : (k : Int) / 2 = ((k / 2 : Nat) : Int) := by omega
      have F2 : IntKind.u64.wrap ((b : Int) * b) = ((b * b % W64 : Nat) : Int) := by
        rw [wrapu_mod, ← Int.natCast_mul, ← Int.natCast_emod]
      have key : (a * b ^ k) % W64 = ((if k % 2 = 0 then a else a * b % W64) * (b * b % W64) ^ (k / 2)) % W64 := by
        rw [pow_half b k]
        split
        · rw [Nat.mul_one, Nat.mul_mod, Nat.mul_mod a, ← Nat.pow_mod]
        · rw [Nat.mul_mod (a * b % W64), Nat.mod_mod, ← Nat.pow_mod, ← Nat.mul_mod, Nat.mul_assoc a b, Nat.mul_comm ((b * b) ^ (k / 2)) b]
      obtain ⟨b2, hb2⟩ : ∃ b2, b2 = b * b % W64 := ⟨_, rfl⟩
      rw [← hb2] at F2 key
      have hb2l : Hid (b2 < W64) := by show _ < _; rw [hb2]; exact Nat.mod_lt _ W64_pos
      have hkk : k / 2 < k := by omega
      by_cases hm : k % 2 = 0
      · have A : bits .and .i64 (k : Int) 1 = 0 := by
          have := bits_mask .i64 32 (by decide) (fun n h0 h1 => by rw [IntKind.wrap_i64]; omega) 1 (by decide) (k : Int) (by omega) (by omega)
          have e : bits .and .i64 (k : Int) 1 = (k : Int) % 2 := this
          rw [e]; omega
        rw [if_pos hm] at key
        have hI2 : Hid (a < W64 ∧ b2 < W64 ∧ (a * b2 ^ (k / 2)) % W64 = T) := ⟨hI.out.1, hb2l.out, by rw [← key]; exact hI.out.2.2⟩
        replace key := Lib.hid key
        replace hb2 := Lib.hid hb2
        obtain ⟨k2, hk2⟩ : ∃ k2, k2 = k / 2 := ⟨_, rfl⟩
        rw [← hk2] at S hI2 hkk
        replace hk2 := Lib.hid hk2
        go_wp2_with fail
        go_round
        case rel => exact ⟨a, b2, k2, rfl, rfl, rfl, hI2, by omega⟩
        case measure => simp [intOf]; omega
      · have A : bits .and .i64 (k : Int) 1 = 1 := by
          have := bits_mask .i64 32 (by decide) (fun n h0 h1 => by rw [IntKind.wrap_i64]; omega) 1 (by decide) (k : Int) (by omega) (by omega)
          have e : bits .and .i64 (k : Int) 1 = (k : Int) % 2 := this
          rw [e]; omega
        have F1 : IntKind.u64.wrap ((a : Int) * b) = ((a * b % W64 : Nat) : Int) := by
          rw [wrapu_mod, ← Int.natCast_mul, ← Int.natCast_emod]
        rw [if_neg hm] at key
        obtain ⟨a2, ha2⟩ : ∃ a2, a2 = a * b % W64 := ⟨_, rfl⟩
        rw [← ha2] at F1 key
        have hI2 : Hid (a2 < W64 ∧ b2 < W64 ∧ (a2 * b2 ^ (k / 2)) % W64 = T) := ⟨by rw [ha2]; exact Nat.mod_lt _ W64_pos, hb2l.out, by rw [← key]; exact hI.out.2.2⟩
        replace key := Lib.hid key
        replace hb2 := Lib.hid hb2
        replace ha2 := Lib.hid ha2
        obtain ⟨k2, hk2⟩ : ∃ k2, k2 = k / 2 := ⟨_, rfl⟩
        rw [← hk2] at S hI2 hkk
        replace hk2 := Lib.hid hk2
        go_wp2_with fail
        go_round
        case rel => exact ⟨a2, b2, k2, rfl, rfl, rfl, hI2, by omega⟩
        case measure => simp [intOf]; omega
end Go.Proofs.YtcpjclakdpjjfaaGreatDoor


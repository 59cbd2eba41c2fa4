/-
  A part of the proof of FnQuantityAgain (texts Ls, Sb, I1, Hf, I2, I3 of mine, joined).
-/
import Derived.Test.YtcpjclakdpjjfaaGreatDoorM08
import Derived.Test.YtcpjclakdpjjfaaGreatDoorM04
import Derived.Test.YtcpjclakdpjjfaaGreatDoorM06
namespace Go.Proofs.YtcpjclakdpjjfaaGreatDoor
open Go.RowKit

set_option maxHeartbeats 2000000 in
set_option maxRecDepth 100000 in
/-- A number of one word, moved s places to the left. -/
theorem lsh_one (z x : Value) (oz : Option Nat) (bx m s : Nat) (lx : List Nat) (w : World) (hz : Sto w z oz) (hx : Wds w x bx lx 1 m) (h1 : 1 ≤ s) (h2 : s ≤ 63) :
    Calls Tryz.prog 52 #[z, x, .int .u64 (s : Int)] w (NatEnd w oz (m * 2 ^ s)) := by
  have H := Lib.hid (make_any z oz 2 w hz (by omega) (by omega))
  have p3 := hx.le
  have e0 : ((s : Int) == 0) = false := by simp; omega
  have e1 : (s : Int) / 64 = 0 := by omega
  have e2 : (s : Int) % 64 = s := by omega
  have e3 : (s : Int).tdiv 64 = 0 := by rw [Int.tdiv_eq_ediv_of_nonneg (by omega)]; exact e1
  have e4 : (s : Int).tmod 64 = s := by rw [Int.tmod_eq_emod_of_nonneg (by omega)]; exact e2
  have vx := Lib.hid hx.eq
  have bx0 := Lib.hid hx.blk
  obtain rfl := hx.val
  have hcl : ∀ (ty : TypeId) (b c : Nat) (w : World), (Builtin.clear_ #[68] ty #[.slice (some ⟨b, 0, none⟩) 0 c]).run Tryz.prog w = .ok (.tuple #[]) w := fun ty b c w => by
    simp [Builtin.clear_, run_underlying Tryz.underlying68]
  clear hz hx
  go_enter Tryz.func52, Tryz.ntmps52
  go_wp2_with fail
  refine H.out.mono ?_
  rintro e w' ⟨b, l, rfl, hb, hl, hc, hf, ho, hcap⟩
  have bx1 := bx0.out.frame hf (fun f => f)
  have H2 := lshVU_any b 0 1 l.length bx 0 lx.length s l lx w' hb bx1 (by omega) (by omega) (fun _ => rfl) (by omega) (by omega) h1 h2
  replace H2 := Lib.hid H2
  replace hb := Lib.hid hb
  replace hf := Lib.hid hf
  replace ho := Lib.hid ho
  clear hcap H bx1
  go_wp2_with fail
  refine H2.out.mono ?_
  rintro e w2 ⟨c, l2, rfl, hv2, hc2, hs2⟩
  have r6 := hv2.blk.free 1
  have r7 := hv2.blk.cell 1 (by rw [hv2.len]; omega)
  have F := norm_cap b 2 l.length (l2.set 1 c) (w2.setCell ⟨b, 1, none⟩ (.int .u64 (c : Int))) (hv2.blk.set 1 c hc2) (by simp [hv2.len]) hl (by omega) hc
  have fr2 : Fr (fun k => oz = some k) w (w2.setCell ⟨b, 1, none⟩ (.int .u64 (c : Int))) := make_fr hf.out ho.out (hv2.fr.trans (Fr.setCell (S := fun k => k = b) _ _ _ (fun _ => rfl)) (fun _ _ => id))
  have ev : vl (l2.set 1 c) 0 2 = m * 2 ^ s := by
    rw [vl_snoc, Nat.zero_add, gd_set _ _ _ _ (by rw [hv2.len]; omega), if_pos rfl, vl_congr (m := l2) (p := 0) (fun i hi => by rw [gd_set _ _ _ _ (by rw [hv2.len]; omega), if_neg (by omega)])]
    rw [← vx.out, ← hs2, Nat.mul_comm c]
  rw [ev] at F
  replace F := Lib.hid F
  replace fr2 := Lib.hid fr2
  clear hv2 hc2 hs2 H2 ev
  go_wp2_with fail
  refine F.out.mono ?_
  rintro e w4 ⟨v, rfl, h4, rfl⟩
  replace h4 := Lib.hid h4
  go_wp2_with fail
  go_ret
  exact ⟨v, some b, rfl, h4.out, fr2.out, make_new ho.out⟩

theorem natOne_any (w : World) : Calls Tryz.prog 193 #[] w (NatEnd w none 1) := by
  go_enter Tryz.func193, Tryz.ntmps193
  go_wp2
  go_ret
  refine ⟨_, some w.heap.size, rfl, ⟨[1], 1, rfl, ⟨⟨121, ?_⟩, ?_⟩, by simp, by simp, by simp, ?_, Or.inr ?_⟩, Fr.alloc _ _ _, Or.inr ⟨_, rfl, Nat.le_refl _⟩⟩
  · show (w.heap.push _)[w.heap.size]? = _
    rw [Array.getElem?_push_size]; rfl
  · intro x hx
    simp at hx
    subst hx
    unfold W64; omega
  · show gd [1] 0 + W64 * 0 = 1
    rfl
  · show gd [1] 0 ≠ 0
    decide
end Go.Proofs.YtcpjclakdpjjfaaGreatDoor

namespace Go.Proofs.YtcpjclakdpjjfaaGreatDoor
open Go.RowKit

set_option maxHeartbeats 1000000 in
theorem sub_zero (z x : Value) (oz : Option Nat) (bx m nx cy : Nat) (lx : List Nat) (ay : Option Addr) (w : World) (hz : Sto w z oz) (hx : Wds w x bx lx nx m) (hm : m < W64 ^ 100) :
    Calls Tryz.prog 96 #[z, x, .slice ay 0 cy] w (NatEnd w oz m) := by
  have H := Lib.hid (set_any z x oz (some bx) m w hz hx.natv hm)
  have p1 := hx.pos
  obtain rfl := hx.val
  clear hz hx hm
  have e0 : ((nx : Int) == 0) = false := by simp; omega
  have e1 : ¬ (nx : Int) < 0 := by omega
  go_enter Tryz.func96, Tryz.ntmps96
  go_wp2_with fail
  refine H.out.mono ?_
  rintro e w4 ⟨v, ob, rfl, h4⟩
  go_wp2_with fail
  go_ret
  exact ⟨v, ob, rfl, h4⟩

set_option maxHeartbeats 2000000 in
set_option maxRecDepth 100000 in
theorem sub_same (z x y : Value) (oz : Option Nat) (bx by_ m n nx : Nat) (lx ly : List Nat) (w : World) (hz : Sto w z oz) (hx : Wds w x bx lx nx m) (hy : Wds w y by_ ly nx n)
    (hle : n ≤ m) (h1 : nx ≤ 100) : Calls Tryz.prog 96 #[z, x, y] w (NatEnd w oz (m - n)) := by
  have H := Lib.hid (make_any z oz nx w hz hx.pos (by omega))
  have p1 := hx.pos
  have q1 := hx.le
  have q2 := hy.le
  have r2 : ((nx : Int) == 0) = false := by simp; omega
  have vx := Lib.hid hx.eq
  have vy := Lib.hid hy.eq
  have bx0 := Lib.hid hx.blk
  have by0 := Lib.hid hy.blk
  have hml := Lib.hid hx.lt
  obtain rfl := hx.val
  obtain rfl := hy.val
  clear hz hx hy
  go_enter Tryz.func96, Tryz.ntmps96
  go_wp2_with fail
  refine H.out.mono ?_
  rintro e w' ⟨b, l, rfl, hb, hl, hc, hf, ho, hcap⟩
  have bx1 := bx0.out.frame hf (fun f => f)
  have by1 := by0.out.frame hf (fun f => f)
  have H2 := subVV_any b 0 nx l.length bx 0 lx.length by_ 0 ly.length l lx ly w'.drew hb.drew bx1.drew by1.drew (by omega) (by omega) (by omega) (fun _ => rfl) (fun _ => rfl) (by omega)
  replace H2 := Lib.hid H2
  replace hb := Lib.hid hb
  replace hf := Lib.hid hf
  replace ho := Lib.hid ho
  clear hcap H by1 bx1
  have t2 : (nx : Int) ≤ l.length := by omega
  have t3 : (nx : Int) ≤ lx.length := by omega
  have t4 : (nx : Int) ≤ ly.length := by omega
  go_wp2_with fail
  refine wp_region_heads 9 (by kernel_rfl) (by kernel_rfl) ?_
  simp only [List.take_succ_cons, List.take_zero, List.drop_succ_cons, List.drop_zero]
  repeat (go_big_quiet_step (fail))
  refine wpQuiet_nil ?_
  go_wp2_with fail
  refine H2.out.mono ?_
  rintro e w2 ⟨c, l', rfl, hv, hc1, hs⟩
  rw [vx.out, vy.out] at hs
  have hlt' := vl_lt hv.blk.ok 0 nx
  have hc0 : c = 0 := by
    rcases (show c = 0 ∨ c = 1 by omega) with e | e
    · exact e
    · subst e; rw [Nat.one_mul] at hs; have := hml.out; omega
  subst hc0
  have hval : vl l' 0 nx = m - n := by rw [Nat.zero_mul] at hs; omega
  have F := norm_cap b nx l.length l' w2 hv.blk hv.len hl (by omega) hc
  rw [hval] at F
  have fr2 : Fr (fun k => oz = some k) w w2 := make_fr hf.out ho.out ((Fr.drewN _ _ 1).trans hv.fr (fun _ _ => id))
  replace F := Lib.hid F
  replace fr2 := Lib.hid fr2
  clear hv hs H2 hval hlt'
  go_wp2_with fail
  refine NoPanic.normal ?_
  go_wp2_with fail
  refine F.out.mono ?_
  rintro e w4 ⟨v, rfl, h4, rfl⟩
  replace h4 := Lib.hid h4
  go_wp2_with fail
  go_ret
  exact ⟨v, some b, rfl, h4.out, fr2.out, make_new ho.out⟩
end Go.Proofs.YtcpjclakdpjjfaaGreatDoor

namespace Go.Proofs.YtcpjclakdpjjfaaGreatDoor
open Go.RowKit

/-- The number that a sign and a size make. -/
def sgn (neg : Bool) (n : Nat) : Int := if neg then -(n : Int) else n

/-- A big.Int that lies at the head of block p: its sign, its words' value v in the storage ob, its size n. -/
structure IntC (w : World) (p : Nat) (neg : Bool) (v : Value) (ob : Option Nat) (n : Nat) : Prop where
  plain : Plain w p
  c0 : w.cell? ⟨p, 0, none⟩ = some (.bool neg)
  c1 : w.cell? ⟨p, 1, none⟩ = some v
  nat : NatV w v ob n
  can : neg = true → n ≠ 0
  far : ob ≠ some p

theorem Plain.free {w : World} {b : Nat} (h : Plain w b) (i : Nat) : w.frozen? ⟨b, i, none⟩ = false := by
  obtain ⟨c, T, hT⟩ := h
  simp [World.frozen?, hT]

/-- A big.Int z at block p, its words in ob. -/
def IntAt (w : World) (p : Nat) (z : Int) (ob : Option Nat) : Prop := ∃ neg v n, IntC w p neg v ob n ∧ z = sgn neg n

theorem IntC.frame {S : Nat → Prop} {w w' : World} {p : Nat} {neg : Bool} {v : Value} {ob : Option Nat} {n : Nat} (h : IntC w p neg v ob n) (f : Fr S w w') (hp : ¬ S p) (hb : ∀ b, ob = some b → ¬ S b) : IntC w' p neg v ob n :=
  ⟨h.plain.frame f hp, cell_frame h.c0 f hp, cell_frame h.c1 f hp, h.nat.frame f hb, h.can, h.far⟩
theorem IntAt.frame {S : Nat → Prop} {w w' : World} {p : Nat} {z : Int} {ob : Option Nat} (h : IntAt w p z ob) (f : Fr S w w') (hp : ¬ S p) (hb : ∀ b, ob = some b → ¬ S b) : IntAt w' p z ob := by
  obtain ⟨neg, v, n, h, e⟩ := h
  exact ⟨neg, v, n, h.frame f hp hb, e⟩
theorem IntC.lt {w : World} {p : Nat} {neg : Bool} {v : Value} {ob : Option Nat} {n : Nat} (h : IntC w p neg v ob n) : p < w.heap.size := h.plain.lt

set_option maxHeartbeats 1000000 in
theorem sign_any (p : Nat) (neg : Bool) (v : Value) (ob : Option Nat) (n : Nat) (w : World) (h : IntC w p neg v ob n) :
    Calls Tryz.prog 55 #[.pointer (some ⟨p, 0, none⟩)] w fun e w' => e = .returned (.int .i64 (sgn neg n).sign) ∧ w = w' := by
  have c0 := h.c0
  have c1 := h.c1
  rcases h.nat.split with ⟨rfl, a, c, rfl⟩ | ⟨b, l, len, rfl, H⟩
  · have e : (sgn neg 0).sign = 0 := by cases neg <;> rfl
    rw [e]
    clear h
    go_enter Tryz.func55, Tryz.ntmps55
    go_wp2
    go_ret
    exact ⟨rfl, rfl⟩
  · have p1 := H.pos
    have p2 := H.npos
    have e0 : ((len : Int) == 0) = false := by simp; omega
    obtain rfl := H.val
    cases neg with
    | true =>
      have e : (sgn true n).sign = -1 := by
        show (-(n : Int)).sign = -1
        rw [Int.sign_neg, Int.sign_eq_one_of_pos (by omega)]
      rw [e]
      clear h H
      go_enter Tryz.func55, Tryz.ntmps55
      go_wp2
      go_ret
      exact ⟨rfl, rfl⟩
    | false =>
      have e : (sgn false n).sign = 1 := by
        show ((n : Int)).sign = 1
        rw [Int.sign_eq_one_of_pos (by omega)]
      rw [e]
      clear h H
      go_enter Tryz.func55, Tryz.ntmps55
      go_wp2
      go_ret
      exact ⟨rfl, rfl⟩
end Go.Proofs.YtcpjclakdpjjfaaGreatDoor

namespace Go.Proofs.YtcpjclakdpjjfaaGreatDoor
open Go.RowKit

/-- Operations that make no call. -/
def opCalm : Op → Bool
  | .pick .. => true
  | .nilCheck _ => true
  | o => opVal o

theorem calm_of {P : Program} {ρ : Operand → Value} {o : Oper} {w w' : World} {f : FuncId} {args : Array Value} (ho : opCalm o.op = true) : (execOp ρ o).run P w ≠ .ok (.enter f args) w' := by
  intro h
  by_cases hv : opVal o.op = true
  · obtain ⟨u, hu⟩ := val_of hv h
    cases hu
  · unfold execOp at h
    cases e : o.op <;> rw [e] at ho h hv <;> simp only [opCalm] at ho <;> first | (exact hv ho) | skip
    case pick c a b =>
      simp at h
      cases hs : (asBool (ρ c)).run P w with
      | ok v w1 => rw [hs] at h; simp [Result.andThen] at h
      | halt x w1 => rw [hs] at h; simp [Result.andThen] at h
    case nilCheck x =>
      simp only [] at h
      split at h
      · simp [runtimePanic] at h
      · simp [runtimePanic] at h
      · simp [runtimePanic] at h
      · split at h
        · simp [runtimePanic] at h
        · simp at h
          generalize Sem.run P (nilAhead _ _ _ _) w = r at h
          cases r with
          | halt x w1 => simp [Result.andThen] at h
          | ok v w1 =>
            simp only [Result.andThen] at h
            split at h <;> simp at h
        · simp at h
      · simp at h

theorem still_of_quiet {P : Program} {ops : Array Oper} {C : World → Prop} {w : World} (hC : C w) {K : Act → Prop} : ∀ (l : List Oper) (a : Act), (l.all fun o => opCalm o.op) = true → wpQuiet P ops C K l a → wpStill P ops w K l a
  | [], _, _, h => h
  | o :: l, a, hl, h => by
    simp only [List.all_cons, Bool.and_eq_true] at hl
    unfold wpQuiet at h
    unfold wpStill
    split
    · rename_i hw
      rw [if_pos hw] at h
      obtain ⟨v, h1, h2⟩ := h
      have h3 := h1 w hC
      unfold Oper.quietAt at h3
      unfold Oper.still
      cases hr : (execOp a.eval o).run P w with
      | ok n w' =>
        rw [hr] at h3
        cases n with
        | value u =>
          simp only [Oper.quietUpon] at h3
          obtain ⟨e1, e2⟩ := h3
          subst e2
          exact ⟨e1, still_of_quiet hC l _ hl.2 h2⟩
        | skip =>
          simp only [Oper.quietUpon] at h3
          obtain ⟨e1, e2⟩ := h3
          subst e2
          exact ⟨e1, still_of_quiet hC l _ hl.2 h2⟩
        | enter f args => exact (calm_of hl.1 hr).elim
        | _ => simp only [Oper.quietUpon] at h3
      | halt x w' => rw [hr] at h3; simp only [Oper.quietUpon] at h3
    · rename_i hw
      rw [if_neg hw] at h
      exact still_of_quiet hC l _ hl.2 h

/-- wp_region_pre, its middle part walked by go_big_quiet_step (facts on w itself). -/
theorem wp_region_mid {P : Program} {Q : Exit → Act → World → Prop} {id : Nat} {a : Act} {w : World} {l : List Oper} (m n : Nat) (hm : P.follows .mixedOrders = true) (hB : preTailB l m n = true) (hc : (((l.take n).drop m).all fun o => opCalm o.op) = true)
    (h : wpQuiet P l.toArray (fun _ => True) (fun a1 => wpQuiet P l.toArray (fun w' => ∃ n, w' = w.drewN n) (fun a' => wpList P l.toArray (NoPanic Q) (l.drop n) a' w.drew) ((l.take n).drop m) a1) (l.take m) a) : (Code.region id l.toArray true).wp P Q a w := by
  refine wp_region_pre m n hm hB ?_
  have mono : ∀ (l1 : List Oper) (K K' : Act → Prop) (a : Act), (∀ a, K a → K' a) → wpQuiet P l.toArray (fun _ => True) K l1 a → wpQuiet P l.toArray (fun _ => True) K' l1 a := by
    intro l1
    induction l1 with
    | nil => intro K K' a hK h; exact hK a h
    | cons o r ih =>
      intro K K' a hK h
      unfold wpQuiet at h ⊢
      split
      · rename_i hw
        rw [if_pos hw] at h
        exact Oper.quiet_mono (fun a' h' => ih K K' a' hK h') h
      · rename_i hw
        rw [if_neg hw] at h
        exact ih K K' _ hK h
  exact mono _ _ _ _ (fun a' h' => still_of_quiet ⟨1, rfl⟩ _ _ hc h') h
end Go.Proofs.YtcpjclakdpjjfaaGreatDoor

namespace Go.Proofs.YtcpjclakdpjjfaaGreatDoor
open Go.RowKit

theorem info70 : (Tryz.prog.info? 70).map (·.size) = some 2 := by kernel_rfl

/-- A block that begins with a Bool is no storage. -/
theorem Sto.ne_bool {w : World} {v : Value} {ob : Option Nat} {p : Nat} {g : Bool} (h : Sto w v ob) (c : w.cell? ⟨p, 0, none⟩ = some (.bool g)) : ob ≠ some p := by
  intro e
  subst e
  obtain ⟨l, len, _, hb, _, h0, _⟩ := h
  have := hb.cell 0 h0
  rw [c] at this
  cases this

theorem sgn_mul (a b : Bool) (m n : Nat) : sgn (if m * n = 0 then false else a != b) (m * n) = sgn a m * sgn b n := by
  by_cases h : m * n = 0
  · rw [if_pos h, h]
    rcases Nat.mul_eq_zero.1 h with rfl | rfl
    · cases a <;> cases b <;> simp [sgn]
    · cases a <;> cases b <;> simp [sgn]
  · rw [if_neg h]
    cases a <;> cases b <;> simp [sgn, Int.neg_mul, Int.mul_neg]
end Go.Proofs.YtcpjclakdpjjfaaGreatDoor

namespace Go.Proofs.YtcpjclakdpjjfaaGreatDoor
open Go.RowKit

/-- The cell behind a big.Int's own two (the scale, where the big.Int is the head of an inf.Dec). -/
def Hi (p : Nat) (w w' : World) : Prop := w'.cell? ⟨p, 2, none⟩ = w.cell? ⟨p, 2, none⟩
theorem Hi.refl (p : Nat) (w : World) : Hi p w w := rfl
theorem Hi.trans {p : Nat} {a b c : World} (h : Hi p a b) (k : Hi p b c) : Hi p a c := Eq.trans k h
theorem Hi.fr {S : Nat → Prop} {p : Nat} {w w' : World} (f : Fr S w w') (hp : p < w.heap.size) (hn : ¬ S p) : Hi p w w' := f.cell hp hn
theorem Hi.set0 (p : Nat) (w : World) (v : Value) : Hi p w (w.setCell ⟨p, 0, none⟩ v) := World.cell?_setCell_other _ _ _ _ (by intro e; cases e)
theorem Hi.set1 (p : Nat) (w : World) (v : Value) : Hi p w (w.setCell ⟨p, 1, none⟩ v) := World.cell?_setCell_other _ _ _ _ (by intro e; cases e)
theorem Hi.sets (p : Nat) (w : World) (v v' : Value) (k : Nat) : Hi p w (((w.setCell ⟨p, 1, none⟩ v).drewN k).setCell ⟨p, 0, none⟩ v') := ((Hi.set1 p w v).trans (show Hi p _ ((w.setCell ⟨p, 1, none⟩ v).drewN k) from rfl)).trans (Hi.set0 p _ v')

/-- What an operation into the big.Int at block pz, its storage oz, comes to. -/
def IntEnd (w : World) (pz : Nat) (oz : Option Nat) (r : Value) (g : Bool) (n : Nat) (e : Ending) (w' : World) : Prop :=
  ∃ v ob, e = .returned r ∧ IntC w' pz g v ob n ∧ Fr (fun k => k = pz ∨ oz = some k) w w' ∧ (ob = oz ∨ ∃ b, ob = some b ∧ w.heap.size ≤ b) ∧ Hi pz w w'

/-- A big.Int whose words and then whose sign were stored. -/
theorem IntC.made {w1 : World} {p : Nat} {v : Value} {ob : Option Nat} {n : Nat} {u0 u1 : Value} (hp : Plain w1 p) (c0 : w1.cell? ⟨p, 0, none⟩ = some u0) (c1 : w1.cell? ⟨p, 1, none⟩ = some u1) (hn : NatV w1 v ob n) (far : ob ≠ some p) (g : Bool) (can : g = true → n ≠ 0) (k : Nat) :
    IntC (((w1.setCell ⟨p, 1, none⟩ v).drewN k).setCell ⟨p, 0, none⟩ (.bool g)) p g v ob n ∧ Fr (fun i => i = p) w1 (((w1.setCell ⟨p, 1, none⟩ v).drewN k).setCell ⟨p, 0, none⟩ (.bool g)) := by
  have f : Fr (fun i => i = p) w1 (((w1.setCell ⟨p, 1, none⟩ v).drewN k).setCell ⟨p, 0, none⟩ (.bool g)) :=
    ((Fr.setCell (S := fun i => i = p) _ _ _ (fun _ => rfl)).trans (Fr.drewN _ _ k) (fun _ _ h => h)).trans (Fr.setCell (S := fun i => i = p) _ _ _ (fun _ => rfl)) (fun _ _ h => h)
  have n01 : (⟨p, 1, none⟩ : Addr) ≠ ⟨p, 0, none⟩ := by intro e; cases e
  have d0 : ((w1.setCell ⟨p, 1, none⟩ v).drewN k).cell? ⟨p, 0, none⟩ = some u0 := (World.cell?_setCell_other w1 _ _ _ n01).trans c0
  have d1 : ((w1.setCell ⟨p, 1, none⟩ v).drewN k).cell? ⟨p, 1, none⟩ = some v := World.cell?_setCell_same w1 _ _ c1
  refine ⟨⟨((hp.setCell _ _).drewN k).setCell _ _, World.cell?_setCell_same _ _ _ d0, ?_, hn.frame f (fun b hb e => far (e ▸ hb)), can, far⟩, f⟩
  rw [World.cell?_setCell_other _ _ _ _ (fun e => n01 e.symm)]
  exact d1

set_option maxHeartbeats 4000000 in
set_option maxRecDepth 100000 in
theorem imul_any (pz px py : Nat) (gz gx gy : Bool) (vz vx vy : Value) (oz ox oy : Option Nat) (nz nx ny : Nat) (w : World) (hz : IntC w pz gz vz oz nz) (hx : IntC w px gx vx ox nx) (hy : IntC w py gy vy oy ny)
    (nxy : px ≠ py) (nzy : pz ≠ py) (bx : nx < W64 ^ 30) (by_ : ny < W64 ^ 30) (hg : Gk w) :
    Calls Tryz.prog 54 #[.pointer (some ⟨pz, 0, none⟩), .pointer none, .pointer (some ⟨px, 0, none⟩), .pointer (some ⟨py, 0, none⟩)] w
      (IntEnd w pz oz (.tuple #[]) (if nx * ny = 0 then false else gx != gy) (nx * ny)) := by
  have P1 : (binOp .eql 78 (.pointer (some ⟨px, 0, none⟩)) (.pointer (some ⟨py, 0, none⟩))).run Tryz.prog w = .ok (.bool false) w :=
    ptr_eql_other w Tryz.underlying78 info70 (by intro e; exact nxy (congrArg Addr.block e)) hx.plain hy.plain
  have fd : Fr (fun _ => False) w w.drew := Fr.drew _ w
  have M := mul_any vz (.pointer none) vx vy oz ox oy nx ny w.drew (hz.nat.frame fd (fun _ _ h => h)).sto (hx.nat.frame fd (fun _ _ h => h)) (hy.nat.frame fd (fun _ _ h => h)) bx by_ (hg.frame fd (fun _ h => h.elim))
  obtain ⟨N, hN⟩ : ∃ N, N = nx * ny := ⟨_, rfl⟩
  obtain ⟨G, hG⟩ : ∃ G, G = (if N = 0 then false else gx != gy) := ⟨_, rfl⟩
  rw [← hN] at M
  rw [← hN, ← hG]
  replace hG := Lib.hid hG
  replace hN := Lib.hid hN
  replace M := Lib.hid M
  have z1 := hz.c1
  have x1 := hx.c1
  have y1 := hy.c1
  replace hz := Lib.hid hz
  replace hx := Lib.hid hx
  replace hy := Lib.hid hy
  replace bx := Lib.hid bx
  replace by_ := Lib.hid by_
  replace hg := Lib.hid hg
  clear fd
  go_enter Tryz.func54, Tryz.ntmps54
  go_wp2_with fail
  clear P1
  refine wp_region_pre 1 14 (by kernel_rfl) (by kernel_rfl) ?_
  simp only [List.take_succ_cons, List.take_zero, List.drop_succ_cons, List.drop_zero]
  repeat (go_big_quiet_step (fail))
  refine wpQuiet_nil ?_
  repeat still_step
  try refine wpStill_nil ?_
  go_wp2_with fail
  refine M.out.mono ?_
  rintro e w1 ⟨v', ob, rfl, hn, hf, ho⟩
  have hf0 : Fr (fun k => oz = some k) w w1 := (Fr.drew _ w).trans hf (fun _ _ h => h)
  have hpz : Plain w1 pz := hz.out.plain.frame hf0 (fun e => hz.out.far e)
  have q1 := hpz.free 1
  have q2 := cell_frame hz.out.c1 hf0 (fun e => hz.out.far e)
  have q3 := cell_frame hz.out.c0 hf0 (fun e => hz.out.far e)
  have hob : ob ≠ some pz := by
    rcases ho with e | ⟨b, e, hb⟩
    · rw [e]; exact hz.out.far
    · rw [e]
      intro f
      cases f
      have := hz.out.lt
      have e2 : w.drew.heap.size = w.heap.size := rfl
      omega
  have hw2 : ∀ (g : Bool), g = G → IntC ((w1.setCell ⟨pz, 1, none⟩ v').drew.setCell ⟨pz, 0, none⟩ (.bool g)) pz g v' ob N ∧ Fr (fun k => k = pz ∨ oz = some k) w ((w1.setCell ⟨pz, 1, none⟩ v').drew.setCell ⟨pz, 0, none⟩ (.bool g)) ∧ Hi pz w ((w1.setCell ⟨pz, 1, none⟩ v').drew.setCell ⟨pz, 0, none⟩ (.bool g)) := by
    intro g hg
    obtain ⟨h1, h2⟩ := IntC.made hpz q3 q2 hn hob g (fun e h0 => by rw [hg, hG.out, if_pos h0] at e; cases e) 1
    exact ⟨h1, (hf0.mono (fun _ _ h => Or.inr h)).trans h2 (fun _ _ h => Or.inl h), (Hi.fr hf0 hz.out.plain.lt (fun e => hz.out.far e)).trans (Hi.sets pz w1 v' (.bool g) 1)⟩
  replace hw2 := Lib.hid hw2
  have n01 : (⟨pz, 1, none⟩ : Addr) ≠ ⟨pz, 0, none⟩ := by intro e; cases e
  have cz1 : (w1.setCell ⟨pz, 1, none⟩ v').cell? ⟨pz, 1, none⟩ = some v' := World.cell?_setCell_same w1 _ _ q2
  have fz0 : (w1.setCell ⟨pz, 1, none⟩ v').frozen? ⟨pz, 0, none⟩ = false := (hpz.setCell _ _).free 0
  have cz0 : (w1.setCell ⟨pz, 1, none⟩ v').cell? ⟨pz, 0, none⟩ = some (.bool gz) := (World.cell?_setCell_other w1 _ _ _ n01).trans q3
  have cx0 : (w1.setCell ⟨pz, 1, none⟩ v').cell? ⟨px, 0, none⟩ = some (.bool gx) :=
    (World.cell?_setCell_other w1 _ _ _ (by intro e; cases e)).trans (cell_frame hx.out.c0 hf0 (fun e => hz.out.nat.sto.ne_bool hx.out.c0 e))
  have cy0 : (w1.setCell ⟨pz, 1, none⟩ v').cell? ⟨py, 0, none⟩ = some (.bool gy) :=
    (World.cell?_setCell_other w1 _ _ _ (by intro e; cases e)).trans (cell_frame hy.out.c0 hf0 (fun e => hz.out.nat.sto.ne_bool hy.out.c0 e))
  replace hob := Lib.hid hob
  clear n01
  replace hf := Lib.hid hf
  replace ho := Lib.hid ho
  replace hf0 := Lib.hid hf0
  replace hpz := Lib.hid hpz
  clear M z1 x1 y1
  rcases hn.split with ⟨h0, a', c', rfl⟩ | ⟨b', l', len', rfl, H'⟩
  · replace h0 := Lib.hid h0
    replace hn := Lib.hid hn
    go_wp2_with fail
    refine NoPanic.normal ?_
    go_wp2_with fail
    obtain ⟨w2, hW2⟩ : ∃ w2, w2 = w1.setCell ⟨pz, 1, none⟩ (.slice a' 0 c') := ⟨_, rfl⟩
    rw [← hW2] at cz1 fz0 cz0 cx0 cy0
    rw [← hW2]
    replace hW2 := Lib.hid hW2
    clear q1 q2 q3
    refine wp_region_mid 1 18 (by kernel_rfl) (by kernel_rfl) (by kernel_rfl) ?_
    simp only [List.take_succ_cons, List.take_zero, List.drop_succ_cons, List.drop_zero]
    repeat (go_big_quiet_step (fail))
    refine wpQuiet_nil ?_
    repeat (go_big_quiet_step (fail))
    refine wpQuiet_nil ?_
    go_wp2_with fail
    refine NoPanic.normal ?_
    go_wp2_with fail
    go_end0
    subst hW2
    obtain rfl : G = false := by rw [hG.out, if_pos h0.out]
    have := hw2.out false rfl
    exact ⟨_, ob, rfl, this.1, this.2.1, ho.out, this.2.2⟩
  · have p1 := H'.pos
    have p2 := H'.npos
    have e1 : (0 : Int) < len' := by omega
    obtain rfl := H'.val
    replace H' := Lib.hid H'
    replace hn := Lib.hid hn
    replace p2 := Lib.hid p2
    go_wp2_with fail
    refine NoPanic.normal ?_
    go_wp2_with fail
    obtain ⟨w2, hW2⟩ : ∃ w2, w2 = w1.setCell ⟨pz, 1, none⟩ (.slice (some ⟨b', 0, none⟩) len' l'.length) := ⟨_, rfl⟩
    rw [← hW2] at cz1 fz0 cz0 cx0 cy0
    rw [← hW2]
    replace hW2 := Lib.hid hW2
    clear q1 q2 q3
    refine wp_region_mid 1 18 (by kernel_rfl) (by kernel_rfl) (by kernel_rfl) ?_
    simp only [List.take_succ_cons, List.take_zero, List.drop_succ_cons, List.drop_zero]
    repeat (go_big_quiet_step (fail))
    refine wpQuiet_nil ?_
    repeat (go_big_quiet_step (fail))
    refine wpQuiet_nil ?_
    go_wp2_with fail
    refine NoPanic.normal ?_
    go_wp2_with fail
    go_end0
    subst hW2
    obtain rfl : G = (gx != gy) := by rw [hG.out, if_neg (by have := p2.out; omega)]
    have := hw2.out _ rfl
    exact ⟨_, some b', rfl, this.1, this.2.1, ho.out, this.2.2⟩
end Go.Proofs.YtcpjclakdpjjfaaGreatDoor


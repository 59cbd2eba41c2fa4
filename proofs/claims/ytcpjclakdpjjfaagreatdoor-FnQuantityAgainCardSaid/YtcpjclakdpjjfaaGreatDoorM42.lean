/-
  A part of the proof of FnQuantityAgain (texts V0, X1, X2, W0, W3, U9, V1, V2, V3 of mine, joined).
-/
import Derived.Test.YtcpjclakdpjjfaaGreatDoorM15
import Derived.Test.YtcpjclakdpjjfaaGreatDoorChecked
import Derived.WalkKit
import Derived.LaidEql
import Derived.Stop.Asserts
import Derived.RowKitTokens
import Derived.Test.YtcpjclakdpjjfaaGreatDoorM33
import Derived.Test.YtcpjclakdpjjfaaGreatDoorM38
import Derived.KernelRfl
import Derived.Test.YtcpjclakdpjjfaaGreatDoorM41
import Derived.Test.YtcpjclakdpjjfaaGreatDoorM22
import Derived.Lib.SmallJoins
namespace Go.Proofs.YtcpjclakdpjjfaaGreatDoor
open Go

/-- What ParseQuantity's quantities are like. -/
structure PQF (q : MQ) : Prop where
  f2 : q.fmt ≤ 2
  lo : q.u ≠ 0 → -9 ≤ q.e
  nb : q.big = false → -9 ≤ q.e ∧ -9223372036854775807 ≤ q.u ∧ q.u ≤ 9223372036854775807
  nbin : q.big = false → q.fmt = 1 → q.e = 0
  bbin : q.big = true → q.fmt = 1 → q.u ≠ 0 → q.e = -9 ∨ q.e = 0
  bstr : q.big = true → q.str = []

theorem slow_facts (pos : Bool) (u : Nat) (e : Int) (f : Nat) (hf : f ≤ 2) : PQF (slowQ pos u e f) := by
  unfold slowQ
  by_cases hu : u = 0
  · rw [if_pos hu]
    exact ⟨hf, fun h => absurd rfl h, fun h => by simp at h, fun h => by simp at h, fun _ _ h => absurd rfl h, fun _ => rfl⟩
  · rw [if_neg hu]
    simp only
    split
    · exact ⟨by simp, fun _ => by simp, fun h => by simp at h, fun h => by simp at h, fun _ _ _ => Or.inr rfl, fun _ => rfl⟩
    · refine ⟨?_, fun _ => by simp, fun h => by simp at h, fun h => by simp at h, fun _ _ _ => Or.inl rfl, fun _ => rfl⟩
      show (if f = 1 ∧ _ then 2 else f) ≤ 2
      split <;> omega

theorem abs_if (b : Bool) (n : Nat) (h : n ≤ 9223372036854775807) : -9223372036854775807 ≤ (if b = true then (n : Int) else -(n : Int)) ∧ (if b = true then (n : Int) else -(n : Int)) ≤ 9223372036854775807 := by
  cases b <;> simp <;> omega

theorem parse_facts {s : List UInt8} {q : MQ} (h : parseQ s = .ok q) : PQF q := by
  unfold parseQ at h
  split at h
  · cases h
  · split at h
    · cases h
      exact ⟨Nat.le_refl 2, fun h => absurd rfl h, fun _ => by simp, fun _ h => by simp at h, fun h => by simp at h, fun h => by simp at h⟩
    · cases hp : splitQ s with
      | none => rw [hp] at h; cases h
      | some p =>
        rw [hp] at h
        simp only at h
        cases hs : sufQ p.suf with
        | none => rw [hs] at h; cases h
        | some r =>
          obtain ⟨b, x, f⟩ := r
          rw [hs] at h
          simp only [PR.ok.injEq] at h
          subst h
          have sf := split_fine hp
          have hdg : ∀ c ∈ p.num ++ p.denom, isDg c = true := by
            intro c hc
            rcases List.mem_append.1 hc with hc | hc
            · exact sf.num c hc
            · exact sf.den c hc
          have hlt := decV_lt _ hdg
          have hf : f ≤ 2 := by rcases sufQ_cases hs with ⟨_, h, _⟩ | ⟨_, h, _⟩ | ⟨_, h, _⟩ <;> omega
          rw [makeQ_eq]
          by_cases hC : 0 ≤ precQ b x p.num p.denom ∧ -9 ≤ ((if b = 10 then x else 0) - (p.denom.length : Int))
          · rw [if_pos hC]
            obtain ⟨hc, hsc⟩ := hC
            have hb : b = 10 ∨ (b = 2 ∧ f = 1 ∧ (x = 10 ∨ x = 20 ∨ x = 30 ∨ x = 40 ∨ x = 50 ∨ x = 60)) := by
              rcases sufQ_cases hs with ⟨h, _⟩ | ⟨h, h1, h2⟩ | ⟨h, _⟩
              · exact Or.inl h
              · exact Or.inr ⟨h, h1, h2⟩
              · exact Or.inl h
            have hf1 : f = 1 → b = 2 := by
              intro h1
              rcases sufQ_cases hs with ⟨_, h, _⟩ | ⟨h, _, _⟩ | ⟨_, h, _⟩
              · omega
              · exact h
              · omega
            have hfit : decV (p.num ++ p.denom) * (if b = 10 then 1 else 2 ^ x.toNat) ≤ 9223372036854775807 := by
              rcases hb with rfl | ⟨rfl, _, hx⟩
              · unfold precQ at hc
                rw [if_pos rfl] at hc
                have hl : (p.num ++ p.denom).length ≤ 18 := by rw [List.length_append]; omega
                have : 10 ^ (p.num ++ p.denom).length ≤ 10 ^ 18 := Nat.pow_le_pow_right (by omega) hl
                rw [if_pos rfl, Nat.mul_one]
                omega
              · unfold precQ at hc
                rw [if_neg (by decide)] at hc
                split at hc
                · rename_i hd
                  rw [if_neg (by decide)]
                  rw [hd, List.append_nil] at hlt ⊢
                  obtain ⟨X, hX⟩ : ∃ X : Nat, x = (X : Int) := ⟨x.toNat, by omega⟩
                  subst hX
                  have := bin_fits (dv := decV p.num) (n := p.num.length) (x := X) hlt (by omega) (by omega)
                  simpa [maxQ] using this
                · omega
            refine ⟨hf, fun _ => hsc, fun _ => ⟨hsc, abs_if p.pos _ hfit⟩, fun _ h1 => ?_, fun h => by simp at h, fun h => by simp at h⟩
            have hb2 := hf1 h1
            subst hb2
            unfold precQ at hc
            rw [if_neg (by decide)] at hc
            split at hc
            · rename_i hd
              simp [hd]
            · omega
          · rw [if_neg hC]
            exact slow_facts _ _ _ _ hf
end Go.Proofs.YtcpjclakdpjjfaaGreatDoor

namespace Go.Proofs.YtcpjclakdpjjfaaGreatDoor
open Go.RowKit Go.Extern.Stop Go.Stop Go.Extern

/-! errors.Is over two sentinels (after the guide's worked example). -/
theorem isTypeOf (v : Value) (w : World) : (Extern.ReflectliteType.typeOf #[.iface 204 v]).run Tryz.prog w = .ok (.iface 185 (.agg #[.pointer (some ⟨19, 204, none⟩)])) w := by kernel_rfl
def cmpE : Array Value → Sem Value := Extern.ReflectliteType.method fun t => do Go.Extern.Rtype.noPackHeld "Comparable" t; pure (.bool (← typeInfo t).comparable)
theorem isComparable (w : World) : (cmpE #[.agg #[.pointer (some ⟨19, 204, none⟩)]]).run Tryz.prog w = .ok (.bool true) w := by kernel_rfl
theorem isMethodComparable (v : Value) (w : World) : (Go.method 477 185 v "Comparable").run Tryz.prog w = .ok (300, v) w := by kernel_rfl
theorem isComp : (Tryz.prog.info? 204).map (·.comparable) = some true := by kernel_rfl
theorem isSize : (Tryz.prog.info? 206).map (·.size) = some 1 := by kernel_rfl
theorem noIsE (v : Value) (xT : TypeId) (w : World) : (Instr.typeAssert (.iface 204 v) xT 187 true).run Tryz.prog w = .ok (.tuple #[.nilIface, .bool false]) w := run_typeAssert_lacksB Tryz.underlying187 (by kernel_rfl) (by kernel_rfl) v xT w
theorem noUnwrapE (v : Value) (xT : TypeId) (w : World) : (Instr.typeAssert (.iface 204 v) xT 190 true).run Tryz.prog w = .ok (.tuple #[.nilIface, .bool false]) w := run_typeAssert_lacksB Tryz.underlying190 (by kernel_rfl) (by kernel_rfl) v xT w
theorem noUnwrapsE (v : Value) (xT : TypeId) (w : World) : (Instr.typeAssert (.iface 204 v) xT 191 true).run Tryz.prog w = .ok (.tuple #[.nilIface, .bool false]) w := run_typeAssert_lacksB Tryz.underlying191 (by kernel_rfl) (by kernel_rfl) v xT w

set_option maxRecDepth 100000 in
set_option maxHeartbeats 2000000 in
theorem is_same (a : Addr) (w : World) :
    Calls Tryz.prog 40 #[.iface 204 (.pointer (some a)), .iface 204 (.pointer (some a))] w fun e w' => e = .returned (.bool true) ∧ w' = w := by
  obtain ⟨i, hi, hcmp⟩ := Option.map_eq_some_iff.1 isComp
  obtain ⟨j, hj, hjs⟩ := Option.map_eq_some_iff.1 isSize
  have h8 := @run_callFunc_extern Tryz.prog 66 _ Extern.ReflectliteType.typeOf Tryz.func66 (by kernel_rfl) (by kernel_rfl) (by kernel_rfl) (by kernel_rfl)
  have h32 := @run_callFunc_extern Tryz.prog 300 _ cmpE Tryz.func300 (by kernel_rfl) (by kernel_rfl) (by kernel_rfl) (by kernel_rfl)
  have tT := isTypeOf
  have cT := isComparable
  have mR := isMethodComparable
  have heq := run_eql_iface_ptr_same (P := Tryz.prog) w a Tryz.underlying41 Tryz.underlying204 hi hcmp hj
  go_enter Tryz.func40, Tryz.ntmps40
  go_wp2
  refine wp_loop_rounds 1 ?_
  rw [rounds_succ]
  go_wp2
  go_ret
  exact ⟨rfl, rfl⟩

set_option maxRecDepth 100000 in
set_option maxHeartbeats 2000000 in
theorem is_other (a b : Addr) (ca cb : Array Value) (ta tb : TypeId) (w : World) (hne : a ≠ b) (ha : w.heap[a.block]? = some (.cells ca ta (0, 0))) (hb : w.heap[b.block]? = some (.cells cb tb (0, 0))) :
    Calls Tryz.prog 40 #[.iface 204 (.pointer (some a)), .iface 204 (.pointer (some b))] w fun e w' => e = .returned (.bool false) ∧ w' = w := by
  obtain ⟨i, hi, hcmp⟩ := Option.map_eq_some_iff.1 isComp
  obtain ⟨j, hj, hjs⟩ := Option.map_eq_some_iff.1 isSize
  have h8 := @run_callFunc_extern Tryz.prog 66 _ Extern.ReflectliteType.typeOf Tryz.func66 (by kernel_rfl) (by kernel_rfl) (by kernel_rfl) (by kernel_rfl)
  have h32 := @run_callFunc_extern Tryz.prog 300 _ cmpE Tryz.func300 (by kernel_rfl) (by kernel_rfl) (by kernel_rfl) (by kernel_rfl)
  have tT := isTypeOf
  have cT := isComparable
  have mR := isMethodComparable
  have nE := noIsE
  have uE := noUnwrapE
  have vE := noUnwrapsE
  have heq := run_eql_iface_ptr_other (P := Tryz.prog) w Tryz.underlying41 Tryz.underlying204 hi hcmp hj (by rw [hjs]; decide) hne ha hb
  go_enter Tryz.func40, Tryz.ntmps40
  go_wp2
  refine wp_loop_rounds 1 ?_
  rw [rounds_succ]
  go_wp2
  go_ret
  exact ⟨rfl, rfl⟩
end Go.Proofs.YtcpjclakdpjjfaaGreatDoor

namespace Go.Proofs.YtcpjclakdpjjfaaGreatDoor
open Go.RowKit

theorem eql_nil41 (v : Value) (w : World) : (binOp .eql 41 (.iface 204 v) .nilIface).run Tryz.prog w = .ok (.bool false) w := by kernel_rfl

set_option maxRecDepth 100000 in
set_option maxHeartbeats 2000000 in
theorem fault_nil (w : World) : Calls Tryz.prog 11 #[.nilIface] w fun e w' => e = .returned (.int .i64 0) ∧ w = w' := by
  have hz : (binOp .eql 41 .nilIface .nilIface).run Tryz.prog w = .ok (.bool true) w := by kernel_rfl
  go_enter Tryz.func11, Tryz.ntmps11
  go_wp2_with fail
  go_ret
  exact ⟨rfl, rfl⟩

/-- The kinds of an error that ParseQuantity tells. -/
def kindQ (k : Nat) : Nat := if k = 1 then 1 else 3

set_option maxRecDepth 100000 in
set_option maxHeartbeats 2000000 in
theorem fault_one (a0 a1 a2 : Addr) (pe ps pr : Value) (w : World) (hG : GW w a0 a1 a2 pe ps pr) : Calls Tryz.prog 11 #[.iface 204 (.pointer (some a0))] w fun e w' => e = .returned (.int .i64 1) ∧ w = w' := by
  have c0 := hG.c0
  have hz := eql_nil41 (.pointer (some a0)) w
  have I := Lib.hid (is_same a0 w)
  clear hG
  go_enter Tryz.func11, Tryz.ntmps11
  go_wp2_with fail
  refine I.out.mono ?_
  rintro e w1 ⟨rfl, rfl⟩
  go_wp2_with fail
  go_ret
  exact ⟨rfl, rfl⟩

set_option maxRecDepth 100000 in
set_option maxHeartbeats 2000000 in
theorem fault_three (a0 a1 a2 : Addr) (pe ps pr : Value) (w : World) (hG : GW w a0 a1 a2 pe ps pr) : Calls Tryz.prog 11 #[.iface 204 (.pointer (some a1))] w fun e w' => e = .returned (.int .i64 3) ∧ w = w' := by
  have c0 := hG.c0
  have c1 := hG.c1
  have c2 := hG.c2
  have hz := eql_nil41 (.pointer (some a1)) w
  obtain ⟨x0, t0, p0⟩ := hG.p0
  obtain ⟨x1, t1, p1⟩ := hG.p1
  obtain ⟨x2, t2, p2⟩ := hG.p2
  have I0 := Lib.hid (is_other a1 a0 x1 x0 t1 t0 w (Ne.symm hG.n01) p1 p0)
  have I2 := Lib.hid (is_other a1 a2 x1 x2 t1 t2 w hG.n12 p1 p2)
  have I1 := Lib.hid (is_same a1 w)
  clear hG p0 p1 p2
  go_enter Tryz.func11, Tryz.ntmps11
  go_wp2_with fail
  refine I0.out.mono ?_
  rintro e w1 ⟨rfl, rfl⟩
  clear I0
  go_wp2_with fail
  refine I2.out.mono ?_
  rintro e w2 ⟨rfl, rfl⟩
  clear I2
  go_wp2_with fail
  refine I1.out.mono ?_
  rintro e w3 ⟨rfl, rfl⟩
  go_wp2_with fail
  go_ret
  exact ⟨rfl, rfl⟩
end Go.Proofs.YtcpjclakdpjjfaaGreatDoor

namespace Go.Proofs.YtcpjclakdpjjfaaGreatDoor
open Go

theorem pair_of {x y : MQ} (hx : QB x) (fx : PQF x) (hy : QB y) (fy : PQF y) (h : (x.u ≠ 0 ∧ y.u ≠ 0) ∨ (-15 ≤ y.e ∧ y.e ≤ 15)) : CmpPair x y := by
  have x1 := hx.lo
  have x2 := hx.hi
  have y1 := hy.lo
  have y2 := hy.hi
  have d : x.e - y.e ≤ 165 ∧ y.e - x.e ≤ 165 := by
    rcases h with ⟨h1, h2⟩ | ⟨h1, h2⟩
    · have := fx.lo h1
      have := fy.lo h2
      omega
    · omega
  exact ⟨by omega, by omega, by omega, by omega, d.1, d.2, fun h => (fx.nb h).1, fun h => (fy.nb h).1, Nat.lt_trans hx.u TOP_W, Nat.lt_trans hy.u TOP_W⟩

def hiL : List UInt8 := [57, 50, 50, 51, 51, 55, 50, 48, 51, 54, 56, 53, 52, 55, 55, 53, 56, 48, 55]
def loL : List UInt8 := 45 :: hiL
def hiQ : MQ := ⟨true, 9223372036854775807000000000, -9, 2, []⟩
def loQ : MQ := ⟨true, -9223372036854775807000000000, -9, 2, []⟩
theorem parse_hi : parseQ hiL = .ok hiQ := by rfl
theorem parse_lo : parseQ loL = .ok loQ := by rfl
theorem pbs_hi : PBs hiL := fair_pbs (by decide)
theorem pbs_lo : PBs loL := fair_pbs (by decide)
theorem hi_v : hiQ.v = maxQ * 10 ^ 200 := by
  unfold MQ.v hiQ sv maxQ
  rw [show (200 + (-9 : Int)).toNat = 191 from rfl, show (10 : Int) ^ 200 = 10 ^ 9 * 10 ^ 191 from by rw [← Int.pow_add]]
  generalize (10 : Int) ^ 191 = P
  rw [← Int.mul_assoc]
  rfl
theorem lo_v : loQ.v = -(maxQ * 10 ^ 200) := by
  unfold MQ.v loQ sv maxQ
  rw [show (200 + (-9 : Int)).toNat = 191 from rfl, show (10 : Int) ^ 200 = 10 ^ 9 * 10 ^ 191 from by rw [← Int.pow_add]]
  generalize (10 : Int) ^ 191 = P
  rw [← Int.mul_assoc, ← Int.neg_mul]
  rfl

/-- The law's guard: neither above the one nor below the other. -/
theorem guard_abs (q : MQ) : ¬ (cmpQ q hiQ = 1 ∨ cmpQ q loQ = -1) ↔ q.v.natAbs ≤ maxQ * 10 ^ 200 := by
  unfold cmpQ
  rw [hi_v, lo_v]
  have hQ : ((maxQ * 10 ^ 200 : Nat) : Int) = maxQ * 10 ^ 200 := by rw [Int.natCast_mul, pow10_cast]
  rw [← hQ]
  have h0 : 0 < maxQ * 10 ^ 200 := Nat.mul_pos (by decide) (Nat.pow_pos (by decide))
  generalize maxQ * 10 ^ 200 = M at h0
  generalize q.v = v
  constructor
  · intro h
    by_cases h1 : v < (M : Int) <;> by_cases h2 : v = (M : Int) <;> by_cases h3 : v < -(M : Int) <;> by_cases h4 : v = -(M : Int) <;> simp [h1, h2, h3, h4] at h <;> omega
  · intro h
    by_cases h1 : v < (M : Int) <;> by_cases h2 : v = (M : Int) <;> by_cases h3 : v < -(M : Int) <;> by_cases h4 : v = -(M : Int) <;> simp [h1, h2, h3, h4] <;> omega

theorem canon_zero {q : MQ} (h : q.u = 0) : canon q = [48] := by unfold canon; rw [if_pos h]
theorem parse_48 : parseQ [48] = .ok ⟨false, 0, 0, 2, [48]⟩ := rfl
theorem v_zero {q : MQ} : q.v = 0 ↔ q.u = 0 := by
  unfold MQ.v sv
  constructor
  · intro h
    rcases Int.mul_eq_zero.1 h with h | h
    · exact h
    · exact absurd h (Int.ne_of_gt (Int.pow_pos (by decide)))
  · intro h; rw [h, Int.zero_mul]

/-- A quantity and what its canonical form is read as may be compared, either way round. -/
theorem pair_again {q q' : MQ} (hx : QB q) (fx : PQF q) (hy : QB q') (fy : PQF q') (h : parseQ (canon q) = .ok q') (hv : q'.v = q.v) : CmpPair q q' := by
  refine pair_of hx fx hy fy ?_
  by_cases hu : q.u = 0
  · rw [canon_zero hu, parse_48] at h
    cases h
    exact Or.inr ⟨by decide, by decide⟩
  · refine Or.inl ⟨hu, fun h0 => hu (v_zero.1 ?_)⟩
    rw [← hv]; exact v_zero.2 h0
end Go.Proofs.YtcpjclakdpjjfaaGreatDoor

namespace Go.Proofs.YtcpjclakdpjjfaaGreatDoor
open Go

def giL : List UInt8 := [49, 46, 53, 71, 105]
def giQ : MQ := ⟨true, 1610612736000000000, -9, 1, []⟩
set_option maxRecDepth 100000 in
theorem parse_gi : parseQ giL = .ok giQ := by kernel_rfl
theorem pbs_gi : PBs giL := fair_pbs (by decide)
theorem gi_v : giQ.v = 1610612736 * 10 ^ 200 := by
  unfold MQ.v giQ sv
  rw [show (200 + (-9 : Int)).toNat = 191 from rfl, show (10 : Int) ^ 200 = 10 ^ 9 * 10 ^ 191 from by rw [← Int.pow_add]]
  generalize (10 : Int) ^ 191 = P
  rw [← Int.mul_assoc]
  rfl
theorem canon_gi : canon giQ = [49, 53, 51, 54, 77, 105] := by
  have hv := gi_v
  have hp : (10 : Int) ^ 200 ≠ 0 := Int.ne_of_gt (Int.pow_pos (by decide))
  have h10 : (10 : Int) ^ 200 = ((10 ^ 200 : Nat) : Int) := (pow10_cast 200).symm
  have h1 : 10 ^ 200 * 1024 ≤ giQ.v.natAbs := by
    rw [hv, Int.natAbs_mul, h10, Int.natAbs_natCast]
    generalize 10 ^ 200 = P
    show P * 1024 ≤ 1610612736 * P
    omega
  have h2 : giQ.v % 10 ^ 200 = 0 := by rw [hv]; exact Int.mul_emod_left _ _
  have hd : giQ.v / 10 ^ 200 = 1610612736 := by rw [hv]; exact Int.mul_ediv_cancel _ hp
  have hst : strip 1024 1610612736 = (1536, 2) := by
    rw [strip_step (by decide) (by decide) (by decide), strip_step (by decide) (by decide) (by decide), strip_stop (by decide)]
  unfold canon
  rw [if_neg (by decide), if_pos (by unfold isBin; exact decide_eq_true ⟨rfl, h1, h2⟩), hd]
  show Lib.itoa (signed 1610612736 (strip 1024 (1610612736 : Int).natAbs).1) ++ bsuf (strip 1024 (1610612736 : Int).natAbs).2 = _
  rw [show (1610612736 : Int).natAbs = 1610612736 from rfl, hst]
  have hi : Lib.itoa 1536 = [49, 53, 51, 54] := by decide +kernel
  show Lib.itoa 1536 ++ bsuf 2 = _
  rw [hi]
  rfl
end Go.Proofs.YtcpjclakdpjjfaaGreatDoor

namespace Go.Proofs.YtcpjclakdpjjfaaGreatDoor
open Go.RowKit Go.Lib

/-- append(buf[o:o+n], b...) of bytes where there is room: at any offset of the block. -/
theorem run_append_cells_off {P : Program} (w : World) (t ty e : TypeId) (i : TypeInfo) (ht : P.underlying t = some (.slice e)) (hi : P.info? e = some i) (hs1 : i.size = 1)
    (g o sLen sCap : Nat) (cur : Array Value) (hg : w.heap[g]? = some (.cells cur e (0, 0))) (b : Addr) (m c : Nat) (cs : List Value) (hl : cs.length = m) (hcs : ∀ j v, cs[j]? = some v → w.cell? (b.add j) = some v) (hone : ∀ u ∈ cs, u.oneCell' = true)
    (hroom : sLen + m ≤ sCap) (hfit : o + sLen + m ≤ cur.size) :
    (Builtin.append_ #[t, t] ty #[.slice (some ⟨g, o, none⟩) sLen sCap, .slice (some b) m c]).run P w =
      .ok (.slice (some ⟨g, o, none⟩) (sLen + m) sCap) (w.setRow g (cur.toList.take (o + sLen) ++ cs ++ cur.toList.drop (o + sLen + m)).toArray) := by
  have hf := run_firstCells_some (P := P) w 1 m b m c cs (by omega) hcs
  have hst := run_storeCells_at P g (o + sLen) e cs 0 cur w hg (by simpa [hl] using hfit) hone
  simp only [Nat.add_zero, hl] at hst
  simp [Builtin.append_, run_underlying ht, sizeOf, typeInfo, hi, hs1, Builtin.lenOf, hroom, hf, Addr.add]
  have e1 : (if sLen = 0 then ({ block := g, off := o } : Addr) else { block := g, off := o + sLen }) = { block := g, off := o + sLen } := by
    split
    · rename_i h; subst h; rfl
    · rfl
  rw [e1, hst, ← List.append_assoc]
  rfl

theorem wpList_append_cells_off {P : Program} (w : World) {ops : Array Oper} {rest : List Oper} {op : Oper} {a : Act} {Q : Exit → Act → World → Prop} (hgd : op.guard = none) (sl x : Operand) (t : TypeId)
    (ho : op.op = .call { callee := .builtin .append, args := #[sl, x], argTypes := #[t, t] })
    (e : TypeId) (i : TypeInfo) (ht : P.underlying t = some (.slice e)) (hi : P.info? e = some i) (hs1 : i.size = 1)
    (g o sLen sCap : Nat) (cur : Array Value) (hs : a.eval sl = .slice (some ⟨g, o, none⟩) sLen sCap) (hg : w.heap[g]? = some (.cells cur e (0, 0))) (b : Addr) (m c : Nat) (hx : a.eval x = .slice (some b) m c) (cs : List Value) (hl : cs.length = m) (hcs : ∀ j v, cs[j]? = some v → w.cell? (b.add j) = some v) (hone : ∀ u ∈ cs, u.oneCell' = true)
    (hroom : sLen + m ≤ sCap) (hfit : o + sLen + m ≤ cur.size)
    (h : wpList P ops Q rest (a.put op.dst (.slice (some ⟨g, o, none⟩) (sLen + m) sCap)) (w.setRow g (cur.toList.take (o + sLen) ++ cs ++ cur.toList.drop (o + sLen + m)).toArray)) : wpList P ops Q (op :: rest) a w := by
  refine wpList_plain hgd fun K hK => ?_
  have hr := run_append_cells_off (P := P) w t op.type e i ht hi hs1 g o sLen sCap cur hg b m c cs hl hcs hone hroom hfit
  unfold Oper.wp execOp
  simp only [ho, resolve, invoke, builtin, Sem.run_bind, Sem.run_pure, Result.andThen_ok, List.map_toArray, List.map_cons, List.map_nil, hs, hx, hr]
  exact hK _ _ h

/-- append(s, nil...). -/
theorem run_append_none {P : Program} (w : World) (t ty e : TypeId) (i : TypeInfo) (ht : P.underlying t = some (.slice e)) (hi : P.info? e = some i) (hs1 : i.size = 1) (base : Option Addr) (n c : Nat) (hc : n ≤ c) :
    (Builtin.append_ #[t, t] ty #[.slice base n c, .slice none 0 0]).run P w = .ok (.slice base n c) w := by
  have hf := run_firstCells_none (P := P) w 1 0 0 0
  cases base <;> simp [Builtin.append_, run_underlying ht, sizeOf, typeInfo, hi, hs1, Builtin.lenOf, hc, hf, storeCells]

theorem wpList_append_none {P : Program} (w : World) {ops : Array Oper} {rest : List Oper} {op : Oper} {a : Act} {Q : Exit → Act → World → Prop} (hgd : op.guard = none) (sl x : Operand) (t : TypeId)
    (ho : op.op = .call { callee := .builtin .append, args := #[sl, x], argTypes := #[t, t] })
    (e : TypeId) (i : TypeInfo) (ht : P.underlying t = some (.slice e)) (hi : P.info? e = some i) (hs1 : i.size = 1) (base : Option Addr) (n c : Nat) (hs : a.eval sl = .slice base n c) (hx : a.eval x = .slice none 0 0) (hc : n ≤ c)
    (h : wpList P ops Q rest (a.put op.dst (.slice base n c)) w) : wpList P ops Q (op :: rest) a w := by
  refine wpList_plain hgd fun K hK => ?_
  have hr := run_append_none (P := P) w t op.type e i ht hi hs1 base n c hc
  unfold Oper.wp execOp
  simp only [ho, resolve, invoke, builtin, Sem.run_bind, Sem.run_pure, Result.andThen_ok, List.map_toArray, List.map_cons, List.map_nil, hs, hx, hr]
  exact hK _ _ h
end Go.Proofs.YtcpjclakdpjjfaaGreatDoor

namespace Go.Proofs.YtcpjclakdpjjfaaGreatDoor
open Go

theorem p200 (b : Nat) (hb : b ≤ 9) : (10 : Int) ^ 200 = 10 ^ (200 - b) * 10 ^ b := by rw [← Int.pow_add]; congr 1; omega

theorem sv_whole (u e : Int) (e1 : -9 ≤ e) (e2 : e ≤ 0) : (sv u e % 10 ^ 200 = 0 ↔ u.natAbs % 10 ^ (-e).toNat = 0) ∧ (u.natAbs % 10 ^ (-e).toNat = 0 → sv u e / 10 ^ 200 = wholeQ u (-e).toNat) := by
  obtain ⟨b, hb⟩ : ∃ b : Nat, e = -(b : Int) := ⟨(-e).toNat, by omega⟩
  subst hb
  have hb9 : b ≤ 9 := by omega
  have e3 : (-(-(b : Int))).toNat = b := by omega
  have e4 : (200 + -(b : Int)).toNat = 200 - b := by omega
  rw [e3]
  unfold sv wholeQ
  rw [e4, p200 b hb9, Int.mul_comm u]
  have hP : (0 : Int) < 10 ^ (200 - b) := Int.pow_pos (by decide)
  rw [Int.mul_emod_mul_of_pos _ _ hP, Int.mul_ediv_mul_of_pos _ _ hP]
  generalize (10 : Int) ^ (200 - b) = P at hP
  have hQ : ((10 ^ b : Nat) : Int) = 10 ^ b := pow10_cast b
  rw [← hQ]
  have hq0 : 0 < 10 ^ b := Nat.pow_pos (by omega)
  generalize 10 ^ b = Q at hq0
  have key : u % (Q : Int) = 0 ↔ u.natAbs % Q = 0 := by
    rw [← Nat.dvd_iff_mod_eq_zero, ← Int.ofNat_dvd_left, Int.dvd_iff_emod_eq_zero]
  constructor
  · rw [← key]
    constructor
    · intro h
      rcases Int.mul_eq_zero.1 h with h | h
      · omega
      · exact h
    · intro h
      rw [h]; simp
  · intro h
    rw [if_pos h, Nat.add_zero]
    obtain ⟨k, hk⟩ := Nat.dvd_of_mod_eq_zero h
    rw [hk, Nat.mul_div_cancel_left _ hq0]
    rcases Int.natAbs_eq u with hu | hu
    · have : u = (Q : Int) * (k : Int) := by rw [hu, hk]; simp
      have hn : ¬ u < 0 := by rw [hu]; omega
      rw [this, Int.mul_ediv_cancel_left _ (by omega)]
      rw [← this]
      simp [sgn, hn]
    · have : u = (Q : Int) * (-(k : Int)) := by rw [hu, hk]; simp [Int.mul_neg]
      rw [this, Int.mul_ediv_cancel_left _ (by omega), ← this]
      by_cases hn : u < 0
      · simp [sgn, hn]
      · have hk0 : k = 0 := by
          rcases Nat.eq_zero_or_pos k with h | h
          · exact h
          · have := Nat.mul_pos hq0 h
            omega
        subst hk0
        simp [sgn]

theorem sv_1024 (n : Int) : sv n 0 = n * 10 ^ 200 := rfl

/-- Below 1024 in size, as the two comparisons tell it. -/
theorem cmp_1024 (v : Int) : (cmpZ v (sv (-1024) 0) = 1 ∧ cmpZ v (sv 1024 0) = -1 ↔ ¬ 10 ^ 200 * 1024 ≤ v.natAbs) := by
  rw [sv_1024, sv_1024]
  have hP : (0 : Nat) < 10 ^ 200 := Nat.pow_pos (by omega)
  have hQ : ((10 ^ 200 : Nat) : Int) = 10 ^ 200 := pow10_cast 200
  rw [← hQ]
  generalize 10 ^ 200 = P at hP
  unfold cmpZ
  constructor
  · rintro ⟨h1, h2⟩
    split at h1
    · omega
    · split at h1
      · omega
      · split at h2
        · omega
        · split at h2 <;> omega
  · intro h
    have a : ¬ v < -1024 * (P : Int) := by omega
    have b : ¬ v = -1024 * (P : Int) := by omega
    have c : v < 1024 * (P : Int) := by omega
    rw [if_neg a, if_neg b, if_pos c]
    exact ⟨rfl, rfl⟩
end Go.Proofs.YtcpjclakdpjjfaaGreatDoor

namespace Go.Proofs.YtcpjclakdpjjfaaGreatDoor
open Go.RowKit

set_option maxRecDepth 100000 in
set_option maxHeartbeats 1000000 in
theorem lcons_none (p o b1 b2 b3 : Nat) (S : STab) (Q2 Q3 : List ((Int × Int) × Value)) (k1 k2 : Int) (w : World) (h : LsAt w p o b1 b2 b3 S Q2 Q3) (hl : lk (k1, k2) Q3 0 = none) :
    Calls Tryz.prog 283 #[.pointer (some ⟨p, o, none⟩), .int .i32 k1, .int .i32 k2] w fun e w' => e = .returned (.tuple #[.slice none 0 0, .bool false]) ∧ w = w' := by
  have c2 := h.c2
  have m3 := h.m3
  have hz := zero96 w
  go_enter Tryz.func283, Tryz.ntmps283
  go_wp2_with (first | (at_lookup; refine wpList_look w rfl _ _ 104 true rfl 111 96 fit111 Tryz.underlying104 hz b3 Q3 rfl m3 (k1, k2) rfl (.tuple #[.slice none 0 0, .bool false]) (by rw [hl]; rfl) ?_) | fail)
  go_ret2
  exact ⟨rfl, rfl⟩

set_option maxRecDepth 100000 in
set_option maxHeartbeats 1000000 in
theorem scons_none (p o : Nat) (F : ByteArray) (hF : (o = 0 ∧ F = fmtT 2) ∨ (o = 3 ∧ F = fmtT 1)) (b1 b2 b3 : Nat) (S : STab) (Q2 Q3 : List ((Int × Int) × Value)) (k1 k2 : Int) (w : World) (h : LsAt w p o b1 b2 b3 S Q2 Q3) (hl : lk (k1, k2) Q3 0 = none) :
    Calls Tryz.prog 281 #[.pointer (some ⟨p, 0, none⟩), .int .i32 k1, .int .i32 k2, .string F] w fun e w' => e = .returned (.tuple #[.slice none 0 0, .bool false]) ∧ w = w' := by
  have L := Lib.hid (lcons_none p o b1 b2 b3 S Q2 Q3 k1 k2 w h hl)
  clear h hl
  rcases hF with ⟨rfl, rfl⟩ | ⟨rfl, rfl⟩
  · unfold fmtT
    go_enter Tryz.func281, Tryz.ntmps281
    go_wp2_with fail
    refine L.out.mono ?_
    rintro r w1 ⟨rfl, hw⟩
    subst hw
    go_wp2_with fail
    go_ret2
    exact ⟨rfl, rfl⟩
  · unfold fmtT
    go_enter Tryz.func281, Tryz.ntmps281
    go_wp2_with fail
    refine L.out.mono ?_
    rintro r w1 ⟨rfl, hw⟩
    subst hw
    go_wp2_with fail
    go_ret2
    exact ⟨rfl, rfl⟩
end Go.Proofs.YtcpjclakdpjjfaaGreatDoor

namespace Go.Proofs.YtcpjclakdpjjfaaGreatDoor
open Go.RowKit Go.Joins

/-- A slice of bytes that may be nil. -/
def SfxAt (w : World) (v : Value) (l : List UInt8) : Prop := (v = .slice none 0 0 ∧ l = []) ∨ BSl w v l

theorem SfxAt.frame {S : Nat → Prop} {w w' : World} {v : Value} {l : List UInt8} (h : SfxAt w v l) (f : Fr S w w') (hS : ∀ k cs fr, w.heap[k]? = some (.cells cs 5 fr) → ¬ S k) : SfxAt w' v l :=
  h.elim Or.inl (fun h => Or.inr (h.frame f hS))
theorem SfxAt.fr {w w' : World} {v : Value} {l : List UInt8} (h : SfxAt w v l) (f : Fr (fun _ => False) w w') : SfxAt w' v l := h.frame f (fun _ _ _ _ h => h)

theorem sfx_row {w : World} {B : Nat} {v : Value} {l : List UInt8} (h : w.ownsRow B 5 1 v l.length (Lib.byteCells l)) : SfxAt w v l := by
  rcases h.2 with ⟨hv, hn⟩ | ⟨g, cap, cur, hv, _, hg, hn, _, hs, ht⟩
  · exact Or.inl ⟨hv, List.length_eq_zero_iff.1 hn⟩
  · refine Or.inr ⟨g, cap, cur, hv, ⟨_, hg⟩, fun i hi => ?_⟩
    rw [Nat.mul_one] at ht
    have e : (cur.toList.take l.length)[i]? = (Lib.byteCells l)[i]? := by rw [ht]
    rw [List.getElem?_take_of_lt hi, Array.getElem?_toList] at e
    rw [e]
    simp [Lib.byteCells, hi]

theorem nums_tx (l : List UInt8) : strOfNums (l.map fun c => (c.toNat : Int)) = tx l := by
  unfold strOfNums tx
  rw [List.map_map]
  congr 2
  conv => rhs; rw [← List.map_id l]
  refine List.map_congr_left (fun c _ => ?_)
  simp

/-- string(b). -/
theorem sfx_string (w : World) (v : Value) (l : List UInt8) (h : SfxAt w v l) : (convert 96 9 v).run Tryz.prog w = .ok (.string (tx l)) w := by
  rcases h with ⟨rfl, rfl⟩ | ⟨g, cap, cs, rfl, ⟨fr, hg⟩, hc⟩
  · exact run_convert_bytes_nil (P := Tryz.prog) w 96 5 Tryz.underlying96 Tryz.underlying5 0 0 9 Tryz.underlying9
  · have h := run_convert_bytes_arg (P := Tryz.prog) w 96 5 Tryz.underlying96 Tryz.underlying5 g 0 l.length cap (l.map fun c => (c.toNat : Int)) (by simp) (fun i hi => by
      rw [Nat.zero_add, cell_of_block hg, hc i hi]
      simp [hi]) 9 Tryz.underlying9
    rw [h, nums_tx]

theorem RowsOk.look {w : World} (k : Int × Int) : ∀ {Q : List ((Int × Int) × Value)} {R : RTab} (i : Nat), RowsOk w Q R → match R.find? (fun r => k == r.1) with
    | some r => ∃ j v, lk k Q i = some (j, v) ∧ BSl w v r.2
    | none => lk k Q i = none
  | [], [], _, _ => rfl
  | q :: Q, r :: R, i, h => by
    unfold lk
    rw [List.find?_cons, h.1]
    cases hk : k == r.1 with
    | true => exact ⟨i, q.2, rfl, h.2.1⟩
    | false => exact RowsOk.look k (i + 1) h.2.2
  | [], _ :: _, _, h => h.elim
  | _ :: _, [], _, h => h.elim

theorem sufTab_dec : ∀ r ∈ sufTab, r.2.2.2 = 2 → r.2.2.1 = -9 ∨ r.2.2.1 = -6 ∨ r.2.2.1 = -3 ∨ r.2.2.1 = 0 ∨ r.2.2.1 = 3 ∨ r.2.2.1 = 6 ∨ r.2.2.1 = 9 ∨ r.2.2.1 = 12 ∨ r.2.2.1 = 15 ∨ r.2.2.1 = 18 := by decide
theorem decRT_dec : ∀ r ∈ decRT, r.1.1 = 10 → r.1.2 = -9 ∨ r.1.2 = -6 ∨ r.1.2 = -3 ∨ r.1.2 = 0 ∨ r.1.2 = 3 ∨ r.1.2 = 6 ∨ r.1.2 = 9 ∨ r.1.2 = 12 ∨ r.1.2 = 15 ∨ r.1.2 = 18 := by decide
theorem dsuf_rt (x : Int) : dsuf 2 x = ((decRT.find? (fun r => ((10 : Int), x) == r.1)).map (·.2)).getD [] := by
  unfold dsuf
  rw [if_pos rfl]
  by_cases h : x = -9 ∨ x = -6 ∨ x = -3 ∨ x = 0 ∨ x = 3 ∨ x = 6 ∨ x = 9 ∨ x = 12 ∨ x = 15 ∨ x = 18
  · rcases h with rfl | rfl | rfl | rfl | rfl | rfl | rfl | rfl | rfl | rfl <;> decide
  · rw [List.find?_eq_none.2, List.find?_eq_none.2]
    · rfl
    · intro r hr hb
      rw [beq_iff_eq] at hb
      have := decRT_dec r hr (by rw [← hb])
      rw [← hb] at this
      exact h this
    · intro r hr hb
      rw [beq_iff_eq] at hb
      have := sufTab_dec r hr (by rw [hb])
      rw [hb] at this
      exact h this

theorem sufTab_bin : ∀ r ∈ sufTab, r.2.2.2 = 1 → r.2.2.1 = 10 ∨ r.2.2.1 = 20 ∨ r.2.2.1 = 30 ∨ r.2.2.1 = 40 ∨ r.2.2.1 = 50 ∨ r.2.2.1 = 60 := by decide
theorem binRT_bin : ∀ r ∈ binRT, r.1.2 = 10 ∨ r.1.2 = 20 ∨ r.1.2 = 30 ∨ r.1.2 = 40 ∨ r.1.2 = 50 ∨ r.1.2 = 60 := by decide
theorem bsuf_rt (k : Nat) : bsuf k = ((binRT.find? (fun r => ((2 : Int), 10 * (k : Int)) == r.1)).map (·.2)).getD [] := by
  unfold bsuf
  generalize 10 * (k : Int) = x
  by_cases h : x = 10 ∨ x = 20 ∨ x = 30 ∨ x = 40 ∨ x = 50 ∨ x = 60
  · rcases h with rfl | rfl | rfl | rfl | rfl | rfl <;> decide
  · rw [List.find?_eq_none.2, List.find?_eq_none.2]
    · rfl
    · intro r hr hb
      rw [beq_iff_eq] at hb
      have := binRT_bin r hr
      rw [← hb] at this
      exact h this
    · intro r hr hb
      rw [beq_iff_eq] at hb
      have := sufTab_bin r hr (by rw [hb])
      rw [hb] at this
      exact h this

/-- What constructBytes comes to. -/
def ConsEnd (w : World) (l : List UInt8) (e : Ending) (w' : World) : Prop := ∃ sv ok, e = .returned (.tuple #[sv, .bool ok]) ∧ SfxAt w' sv l ∧ Fr (fun _ => False) w w'

theorem cons_dec2 (p : Nat) (x : Int) (w : World) (h : SufAt w p) : Calls Tryz.prog 281 #[.pointer (some ⟨p, 0, none⟩), .int .i32 10, .int .i32 x, .string (fmtT 2)] w (ConsEnd w (dsuf 2 x)) := by
  obtain ⟨c1, c2, c3, Q2, Q3, b1, b2, b3, K2, K3, _, _, hD, hDR⟩ := h
  have L := hDR.look (10, x) 0
  rw [dsuf_rt]
  cases hf : decRT.find? (fun r => ((10 : Int), x) == r.1) with
  | some r =>
    rw [hf] at L
    obtain ⟨j, v, hl, hb⟩ := L
    refine (scons_si p 0 j (fmtT 2) (Or.inl ⟨rfl, rfl⟩) b1 b2 b3 decST K2 K3 v 10 x w hD hl).mono ?_
    rintro e w' ⟨rfl, hw⟩
    subst hw
    exact ⟨v, true, rfl, Or.inr hb, Fr.refl _ _⟩
  | none =>
    rw [hf] at L
    refine (scons_none p 0 (fmtT 2) (Or.inl ⟨rfl, rfl⟩) b1 b2 b3 decST K2 K3 10 x w hD L).mono ?_
    rintro e w' ⟨rfl, hw⟩
    subst hw
    exact ⟨_, false, rfl, Or.inl ⟨rfl, rfl⟩, Fr.refl _ _⟩

theorem cons_bin (p k : Nat) (w : World) (h : SufAt w p) : Calls Tryz.prog 281 #[.pointer (some ⟨p, 0, none⟩), .int .i32 2, .int .i32 (10 * (k : Int)), .string (fmtT 1)] w (ConsEnd w (bsuf k)) := by
  obtain ⟨c1, c2, c3, Q2, Q3, b1, b2, b3, K2, K3, hB, hBR, _, _⟩ := h
  have L := hBR.look (2, 10 * (k : Int)) 0
  rw [bsuf_rt]
  cases hf : binRT.find? (fun r => ((2 : Int), 10 * (k : Int)) == r.1) with
  | some r =>
    rw [hf] at L
    obtain ⟨j, v, hl, hb⟩ := L
    refine (scons_si p 3 j (fmtT 1) (Or.inr ⟨rfl, rfl⟩) c1 c2 c3 binST Q2 Q3 v 2 _ w hB hl).mono ?_
    rintro e w' ⟨rfl, hw⟩
    subst hw
    exact ⟨v, true, rfl, Or.inr hb, Fr.refl _ _⟩
  | none =>
    rw [hf] at L
    refine (scons_none p 3 (fmtT 1) (Or.inr ⟨rfl, rfl⟩) c1 c2 c3 binST Q2 Q3 2 _ w hB L).mono ?_
    rintro e w' ⟨rfl, hw⟩
    subst hw
    exact ⟨_, false, rfl, Or.inl ⟨rfl, rfl⟩, Fr.refl _ _⟩
end Go.Proofs.YtcpjclakdpjjfaaGreatDoor


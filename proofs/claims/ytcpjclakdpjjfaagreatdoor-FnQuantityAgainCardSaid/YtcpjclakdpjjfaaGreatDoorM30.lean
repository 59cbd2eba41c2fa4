/-
  A part of the proof of FnQuantityAgain (texts Ma, Pa, R5 of mine, joined).
-/
import Derived.Test.YtcpjclakdpjjfaaGreatDoorM01
import Derived.Maps.OwnSet
import Derived.Maps.OwnOps
import Derived.Test.YtcpjclakdpjjfaaGreatDoorM14
import Derived.Test.YtcpjclakdpjjfaaGreatDoorM17
import Derived.Test.YtcpjclakdpjjfaaGreatDoorM12
import Derived.Test.YtcpjclakdpjjfaaGreatDoorM21
import Derived.Laws.IdiomStrings
namespace Go.Proofs.YtcpjclakdpjjfaaGreatDoor
open Go.RowKit Go.ChangeMaps

def pk (p : Int × Int) : Value := .agg #[.int .i32 p.1, .int .i32 p.2]
def ents (es : Array MapEntry) : List (Value × Value) := es.toList.map fun e => (e.key, e.val)
/-- Block b is a map of these entries, in this order; f makes the keys. -/
def MapB {α : Type} (f : α → Value) (w : World) (b : Nat) (l : List (α × Value)) : Prop := ∃ es c, w.heap[b]? = some (.map es c) ∧ ents es = l.map fun p => (f p.1, p.2)

theorem MapB.lt {α : Type} {f : α → Value} {w : World} {b : Nat} {l : List (α × Value)} (h : MapB f w b l) : b < w.heap.size := by
  obtain ⟨es, c, hb, _⟩ := h
  exact (Array.getElem?_eq_some_iff.1 hb).1
theorem MapB.frame {α : Type} {f : α → Value} {S : Nat → Prop} {w w' : World} {b : Nat} {l : List (α × Value)} (h : MapB f w b l) (g : Fr S w w') (hn : ¬ S b) : MapB f w' b l := by
  have hlt := h.lt
  obtain ⟨es, c, hb, he⟩ := h
  exact ⟨es, c, (g.block b hlt hn).trans hb, he⟩
theorem MapB.made {α : Type} (f : α → Value) (w : World) : MapB f (w.alloc (.map #[] 0)) w.heap.size [] := ⟨#[], 0, (MapKept.heap_alloc w _).1, rfl⟩

def lk {α : Type} [BEq α] (k : α) : List (α × Value) → Nat → Option (Nat × Value)
  | [], _ => none
  | p :: t, i => if k == p.1 then some (i, p.2) else lk k t (i + 1)

def putL {α : Type} [BEq α] (k : α) (v : Value) (l : List (α × Value)) : List (α × Value) :=
  match lk k l 0 with
  | none => l ++ [(k, v)]
  | some (i, _) => l.set i (k, v)

/-- What is asked of a key's type. -/
structure KeyFit {α : Type} [BEq α] (f : α → Value) (P : Program) (K : TypeId) : Prop where
  check : ∀ (k : α) (em : Bool) (w : World), (Instr.checkKey em 10000 K (f k)).run P w = .ok () w
  find : ∀ (k : α) (es : List MapEntry) (l : List (α × Value)) (w : World), es.map (fun e => (e.key, e.val)) = l.map (fun p => (f p.1, p.2)) → (Instr.findKey K (f k) es).run P w = .ok (lk k l 0) w
  stays : ∀ (k k' : α) (w : World), (k == k') = true → (Instr.keyThatStays (f k') (f k)).run P w = .ok (f k) w

theorem findNow_str (s : ByteArray) : ∀ (es : List MapEntry) (l : List (ByteArray × Value)) (i : Nat), es.map (fun e => (e.key, e.val)) = l.map (fun p => (Value.string p.1, p.2)) → Instr.findNow .string (.string s) es i = some (lk s l i)
  | [], l, i, h => by
    cases l with
    | nil => rfl
    | cons p t => simp at h
  | e :: es, l, i, h => by
    cases l with
    | nil => simp at h
    | cons p t =>
      simp only [List.map_cons, List.cons.injEq, Prod.mk.injEq] at h
      obtain ⟨⟨h1, h2⟩, h3⟩ := h
      have ih := findNow_str s es t (i + 1) h3
      unfold Instr.findNow lk
      rw [h1]
      simp only [Instr.sameNow]
      cases s == p.1 with
      | true => simp [h2]
      | false => simpa using ih

theorem ba_beq (a b : ByteArray) : (a == b) = true ↔ a = b := by
  obtain ⟨a⟩ := a
  obtain ⟨b⟩ := b
  have h : ((⟨a⟩ : ByteArray) == ⟨b⟩) = (a == b) := rfl
  rw [h]
  simp

theorem string_fit {P : Program} {K : TypeId} (hK : P.underlying K = some .string) : KeyFit (Value.string) P K where
  check k em w := by
    have : ∀ n, (Instr.checkKey em (n + 1) K (.string k)).run P w = .ok () w := fun n => by simp [Instr.checkKey, run_underlying hK]
    exact this 9999
  find k es l w h := by
    simp [Instr.findKey, run_underlying hK, findNow_str k es l 0 h]
  stays k k' w h := by
    have : ∀ n, Instr.sameBits n (.string k') (.string k) = (k' == k) := fun n => by cases n <;> simp [Instr.sameBits]
    have h2 : (k' == k) = true := (ba_beq _ _).mpr ((ba_beq _ _).mp h).symm
    simp [Instr.keyThatStays, this, h2]

theorem findAsking_pair {P : Program} {K : TypeId} {w : World} (hE : ∀ p q, (Op.equal K (pk p) (pk q)).run P w = .ok (p == q) w) (k : Int × Int) : ∀ (es : List MapEntry) (l : List ((Int × Int) × Value)) (i : Nat), es.map (fun e => (e.key, e.val)) = l.map (fun p => (pk p.1, p.2)) →
    (Instr.findAsking K (pk k) es i).run P w = .ok (lk k l i) w
  | [], l, i, h => by
    cases l with
    | nil => simp [Instr.findAsking, lk]
    | cons p t => simp at h
  | e :: es, l, i, h => by
    cases l with
    | nil => simp at h
    | cons p t =>
      simp only [List.map_cons, List.cons.injEq, Prod.mk.injEq] at h
      obtain ⟨⟨h1, h2⟩, h3⟩ := h
      have ih := findAsking_pair hE k es t (i + 1) h3
      unfold Instr.findAsking lk
      rw [h1]
      have := hE k p.1
      cases hb : k == p.1 with
      | true => rw [hb] at this; simp [this, h2]
      | false => rw [hb] at this; simp [this, ih]

theorem pair_fit {P : Program} {K : TypeId} {fs : Array Field} (hK : P.underlying K = some (.struct fs)) (hc : ∀ (k : Int × Int) (em : Bool) (w : World), (Instr.checkKey em 10000 K (pk k)).run P w = .ok () w)
    (hE : ∀ p q w, (Op.equal K (pk p) (pk q)).run P w = .ok (p == q) w) : KeyFit pk P K where
  check := hc
  find k es l w h := by
    cases es with
    | nil =>
      cases l with
      | nil => simp [Instr.findKey, run_underlying hK, Instr.findNow, lk]
      | cons p t => simp at h
    | cons e es =>
      have := findAsking_pair (fun p q => hE p q w) k (e :: es) l 0 h
      have hn : Instr.findNow (.struct fs) (pk k) (e :: es) 0 = none := by unfold Instr.findNow pk; simp [Instr.sameNow]
      simp [Instr.findKey, run_underlying hK, hn, this]
  stays k k' w h := by
    have h2 : k = k' := by simpa using h
    subst h2
    have : ∀ n, Instr.sameBits (n + 2) (pk k) (pk k) = true := fun n => by simp [Instr.sameBits, pk]
    simp [Instr.keyThatStays, this 9998]

section
variable {α : Type} [BEq α] {f : α → Value} {P : Program} {T K E : TypeId}

theorem MapB.look {w : World} {b : Nat} {l : List (α × Value)} (h : MapB f w b l) (F : KeyFit f P K) (hT : P.underlying T = some (.map K E)) {z : Value} (hz : (zeroValue E).run P w = .ok z w) (k : α) (c : Bool) :
    (Instr.lookup T (.map (some b)) (f k) c).run P w = .ok (if c then .tuple #[((lk k l 0).map (·.2)).getD z, .bool (lk k l 0).isSome] else ((lk k l 0).map (·.2)).getD z) w := by
  obtain ⟨es, cl, hb, he⟩ := h
  have h1 := F.find k es.toList l w he
  cases hl : lk k l 0 with
  | none => rw [hl] at h1; simp [Instr.lookup, run_underlying hT, MapKept.run_getObj_map hb, F.check, h1, hz]
  | some r => rw [hl] at h1; simp [Instr.lookup, run_underlying hT, MapKept.run_getObj_map hb, F.check, h1]

theorem lk_spec {k : α} : ∀ {l : List (α × Value)} {i j : Nat} {v : Value}, lk k l i = some (j, v) → ∃ n p, j = i + n ∧ l[n]? = some p ∧ (k == p.1) = true
  | [], i, j, v, h => by cases h
  | p :: t, i, j, v, h => by
    unfold lk at h
    cases hb : k == p.1 with
    | true => rw [hb] at h; simp at h; exact ⟨0, p, by omega, rfl, hb⟩
    | false =>
      rw [hb] at h; simp at h
      obtain ⟨n, q, h1, h2, h3⟩ := lk_spec h
      exact ⟨n + 1, q, by omega, h2, h3⟩

theorem Fr.block_set {w : World} {b : Nat} {es : Array MapEntry} {c : Nat} (hb : w.heap[b]? = some (.map es c)) (o : Obj) : Fr (fun k => k = b) w (setBlock w b o) :=
  ⟨rfl, rfl, rfl, by simp [setBlock], fun k _ hn => heap_setBlock_other hb o hn⟩

theorem MapB.put {w : World} {b : Nat} {l : List (α × Value)} (h : MapB f w b l) (F : KeyFit f P K) (hT : P.underlying T = some (.map K E)) (k : α) (v : Value) :
    ∃ w', (Instr.mapUpdate T (.map (some b)) (f k) v).run P w = .ok () w' ∧ MapB f w' b (putL k v l) ∧ Fr (fun i => i = b) w w' := by
  obtain ⟨es, cl, hb, he⟩ := h
  have h1 := F.find k es.toList l w he
  unfold putL
  cases hl : lk k l 0 with
  | none =>
    rw [hl] at h1
    refine ⟨setBlock w b (.map (es.push ⟨f k, v, cl⟩) (cl + 1)), ?_, ⟨_, _, heap_setBlock_same hb _, ?_⟩, Fr.block_set hb _⟩
    · simp [Instr.mapUpdate, run_underlying hT, MapKept.run_getObj_map hb, F.check, h1, MapKept.run_setObj_map _ hb, Result.andThen, setBlock]
    · unfold ents at he ⊢
      rw [Array.toList_push, List.map_append, he]; simp
  | some r =>
    obtain ⟨j, v0⟩ := r
    rw [hl] at h1
    obtain ⟨n, p, hn, hp, hkp⟩ := lk_spec hl
    rw [Nat.zero_add] at hn
    subst hn
    have hlen : es.toList.length = l.length := by have := congrArg List.length he; simpa [ents] using this
    have hj : j < es.toList.length := by rw [hlen]; exact (List.getElem?_eq_some_iff.1 hp).1
    obtain ⟨e0, he0⟩ : ∃ e0, es[j]? = some e0 := ⟨es[j]'(by simpa using hj), Array.getElem?_eq_getElem _⟩
    have hk0 : e0.key = f p.1 := by
      have := congrArg (fun m => m[j]?) he
      simp [ents, he0, hp] at this
      exact this.1
    have hst := F.stays k p.1 w hkp
    refine ⟨setBlock w b (.map (es.modify j fun e => { e with key := f k, val := v }) cl), ?_, ⟨_, _, heap_setBlock_same hb _, ?_⟩, Fr.block_set hb _⟩
    · simp [Instr.mapUpdate, run_underlying hT, MapKept.run_getObj_map hb, F.check, h1, he0, hk0, hst, MapKept.run_setObj_map _ hb, Result.andThen, setBlock]
    · unfold ents at he ⊢
      have h2 : es.toList[j]? = some e0 := by simpa using he0
      rw [Array.toList_modify, modify_eq_set _ _ _ _ h2, List.map_set, he, List.map_set]

variable (w : World) {ops : Array Oper} {rest : List Oper} {o : Oper} {a : Act} {Q : Exit → Act → World → Prop}

theorem wpList_put (hg : o.guard = none) (m x v : Operand) (t : TypeId) (hop : o.op = Op.mapUpdate t m x v) (k e : TypeId) (F : KeyFit f P k) (ht : P.underlying t = some (.map k e)) (b : Nat) (l : List (α × Value))
    (hm : a.eval m = .map (some b)) (h : MapB f w b l) (key : α) (val : Value) (hx : a.eval x = f key) (hv : a.eval v = val)
    (hK : ∀ w', MapB f w' b (putL key val l) → Fr (fun i => i = b) w w' → wpList P ops Q rest (a.put o.dst undef) w') : wpList P ops Q (o :: rest) a w := by
  refine wpList_plain hg fun K' hK' => ?_
  obtain ⟨w', hrun, r1, r2⟩ := h.put F ht key val
  unfold Oper.wp
  simp [execOp, hop, hm, hx, hv, hrun, Result.andThen]
  exact hK' _ _ (hK w' r1 r2)

theorem wpList_look (hg : o.guard = none) (m x : Operand) (t : TypeId) (c : Bool) (hop : o.op = Op.lookup t m x c) (k e : TypeId) (F : KeyFit f P k) (ht : P.underlying t = some (.map k e)) {z : Value} (hz : (zeroValue e).run P w = .ok z w) (b : Nat) (l : List (α × Value))
    (hm : a.eval m = .map (some b)) (h : MapB f w b l) (key : α) (hx : a.eval x = f key) (r : Value)
    (hr : (if c then .tuple #[((lk key l 0).map (·.2)).getD z, .bool (lk key l 0).isSome] else ((lk key l 0).map (·.2)).getD z) = r)
    (hK : wpList P ops Q rest (a.put o.dst r) w) : wpList P ops Q (o :: rest) a w := by
  refine wpList_plain hg fun K' hK' => ?_
  have hrun := h.look F ht hz key c
  rw [hr] at hrun
  unfold Oper.wp
  simp [execOp, hop, hm, hx, hrun, Result.andThen]
  exact hK' _ _ hK
end
end Go.Proofs.YtcpjclakdpjjfaaGreatDoor

/-
  PLAIN LEMMAS for the walks of package resource: the loops that strip factors, products in 64 bits, comparing at two scales.
-/
namespace Go.Proofs.YtcpjclakdpjjfaaGreatDoor
open Go

theorem strip_step {b n : Nat} (hb : 2 ≤ b) (hn : 0 < n) (h : n % b = 0) : strip b n = ((strip b (n / b)).1, (strip b (n / b)).2 + 1) := by
  conv => lhs; unfold strip
  rw [dif_pos ⟨hb, hn, h⟩]
theorem strip_stop {b n : Nat} (h : n % b ≠ 0) : strip b n = (n, 0) := by
  unfold strip
  rw [dif_neg (fun x => h x.2.2)]
/-- strip, t rounds on. -/
def Strips (b N n t : Nat) : Prop := 0 < n ∧ strip b N = ((strip b n).1, (strip b n).2 + t)
theorem Strips.start {b N : Nat} (h : 0 < N) : Strips b N N 0 := ⟨h, rfl⟩
theorem Strips.step {b N n t : Nat} (hb : 2 ≤ b) (h : Strips b N n t) (hd : n % b = 0) : Strips b N (n / b) (t + 1) ∧ n / b < n := by
  obtain ⟨h0, h1⟩ := h
  have h2 : 0 < n / b := by
    rcases Nat.eq_zero_or_pos (n / b) with e | e
    · have := Nat.div_add_mod n b; rw [e, hd] at this; omega
    · exact e
  refine ⟨⟨h2, ?_⟩, Nat.div_lt_self h0 hb⟩
  rw [h1, strip_step hb h0 hd]
  simp only [Prod.mk.injEq, true_and]; omega
theorem Strips.stop {b N n t : Nat} (h : Strips b N n t) (hd : n % b ≠ 0) : strip b N = (n, t) := by
  rw [h.2, strip_stop hd]; simp

/-- A product of 64 bits that went over does not divide back. -/
theorem over_div {a k : Int} (hk : k = 10 ∨ k = 100) (h1 : -9223372036854775808 ≤ a) (h2 : a ≤ 9223372036854775807) (h : ¬ (-9223372036854775808 ≤ a * k ∧ a * k ≤ 9223372036854775807)) :
    Int.tdiv (IntKind.i64.wrap (a * k)) k ≠ a := by
  intro e
  rw [IntKind.wrap_i64] at e
  rcases hk with rfl | rfl
  · generalize hc : (a * 10 + 9223372036854775808) % 18446744073709551616 - 9223372036854775808 = c at e
    have : c = 10 * c.tdiv 10 + c.tmod 10 := (Int.mul_tdiv_add_tmod c 10).symm
    have b1 := Int.tmod_lt_of_pos c (show (0 : Int) < 10 by omega)
    have b2 := Int.lt_tmod_of_pos c (show (0 : Int) < 10 by omega)
    rw [e] at this
    omega
  · generalize hc : (a * 100 + 9223372036854775808) % 18446744073709551616 - 9223372036854775808 = c at e
    have : c = 100 * c.tdiv 100 + c.tmod 100 := (Int.mul_tdiv_add_tmod c 100).symm
    have b1 := Int.tmod_lt_of_pos c (show (0 : Int) < 100 by omega)
    have b2 := Int.lt_tmod_of_pos c (show (0 : Int) < 100 by omega)
    rw [e] at this
    omega
theorem fit_div {a k : Int} (hk : 0 < k) (h1 : -9223372036854775808 ≤ a * k) (h2 : a * k ≤ 9223372036854775807) : IntKind.i64.wrap (a * k) = a * k ∧ Int.tdiv (a * k) k = a :=
  ⟨by rw [IntKind.wrap_i64]; omega, Int.mul_tdiv_cancel a (by omega)⟩

theorem tmod3 (x : Int) : (x.tmod 3 = 0 ↔ x % 3 = 0) ∧ (x.tmod 3 = 1 ∨ x.tmod 3 = -2 ↔ x % 3 = 1) ∧ (x.tmod 3 = 2 ∨ x.tmod 3 = -1 ↔ x % 3 = 2) := by
  have : x = 3 * x.tdiv 3 + x.tmod 3 := (Int.mul_tdiv_add_tmod x 3).symm
  have b1 := Int.tmod_lt_of_pos x (show (0 : Int) < 3 by omega)
  have b2 := Int.lt_tmod_of_pos x (show (0 : Int) < 3 by omega)
  omega

/-- Comparing a at a greater scale with b: by b divided (truncated) by the scales' power. -/
theorem cmp_div (a b : Int) {D : Int} (hD : 0 < D) : cmpZ (a * D) b =
    if b.tdiv D = a then (if b.tmod D = 0 then 0 else if 0 < b.tmod D then -1 else 1) else if a < b.tdiv D then -1 else 1 := by
  have e : b = D * b.tdiv D + b.tmod D := (Int.mul_tdiv_add_tmod b D).symm
  have b1 := Int.tmod_lt_of_pos b hD
  have b2 := Int.lt_tmod_of_pos b hD
  generalize b.tdiv D = q at *
  generalize b.tmod D = r at *
  unfold cmpZ
  by_cases h : q = a
  · subst h
    rw [if_pos rfl]
    have : q * D = D * q := Int.mul_comm _ _
    by_cases h0 : r = 0
    · rw [if_pos h0, if_neg (by omega), if_pos (by omega)]
    · rw [if_neg h0]
      by_cases h1 : 0 < r
      · rw [if_pos h1, if_pos (by omega)]
      · rw [if_neg h1, if_neg (by omega), if_neg (by omega)]
  · rw [if_neg h]
    by_cases h1 : a < q
    · rw [if_pos h1, if_pos]
      have : (a + 1) * D ≤ q * D := Int.mul_le_mul_of_nonneg_right (by omega) (by omega)
      have h3 : (a + 1) * D = a * D + D := by rw [Int.add_mul, Int.one_mul]
      have : q * D = D * q := Int.mul_comm _ _
      omega
    · rw [if_neg h1]
      have : (q + 1) * D ≤ a * D := Int.mul_le_mul_of_nonneg_right (by omega) (by omega)
      have h3 : (q + 1) * D = q * D + D := by rw [Int.add_mul, Int.one_mul]
      have : q * D = D * q := Int.mul_comm _ _
      rw [if_neg (by omega), if_neg (by omega)]

theorem cmpZ_neg (x y : Int) : cmpZ y x = -cmpZ x y := by unfold cmpZ; split <;> split <;> (try split) <;> omega
theorem cmpZ_mul (x y : Int) {D : Int} (hD : 0 < D) : cmpZ (x * D) (y * D) = cmpZ x y := by
  unfold cmpZ
  have h1 : x * D < y * D ↔ x < y := ⟨fun h => Int.lt_of_mul_lt_mul_right h (by omega), fun h => Int.mul_lt_mul_of_pos_right h hD⟩
  have h2 : x * D = y * D ↔ x = y := ⟨fun h => Int.eq_of_mul_eq_mul_right (by omega) h, fun h => by rw [h]⟩
  simp only [h1, h2]
theorem cmpQ_cmpZ (p q : MQ) : cmpQ p q = cmpZ p.v q.v := by unfold cmpQ cmpZ; rfl
/-- The order of two numbers at two exponents, by whole numbers. -/
theorem cmp_sv (u v d e : Int) (kx ky : Nat) (h : d + ky = e + kx) (hd : -200 ≤ d - kx) : cmpZ (sv u d) (sv v e) = cmpZ (u * ((10 ^ kx : Nat) : Int)) (v * ((10 ^ ky : Nat) : Int)) := by
  have h1 : sv u d = (u * ((10 ^ kx : Nat) : Int)) * 10 ^ (200 + (d - kx)).toNat := by
    unfold sv
    rw [pow10_cast, Int.mul_assoc, ← Int.pow_add]
    congr 2; omega
  have h2 : sv v e = (v * ((10 ^ ky : Nat) : Int)) * 10 ^ (200 + (d - kx)).toNat := by
    unfold sv
    rw [pow10_cast, Int.mul_assoc, ← Int.pow_add]
    congr 2; omega
  rw [h1, h2, cmpZ_mul _ _ (Int.pow_pos (by omega))]
end Go.Proofs.YtcpjclakdpjjfaaGreatDoor

namespace Go.Proofs.YtcpjclakdpjjfaaGreatDoor
open Go.RowKit

theorem pair_check (k : Int × Int) (em : Bool) (w : World) : (Instr.checkKey em 10000 111 (pk k)).run Tryz.prog w = .ok () w := by
  kernel_rfl
theorem pair_equal (p q : Int × Int) (w : World) : (Op.equal 111 (pk p) (pk q)).run Tryz.prog w = .ok (p == q) w := by
  obtain ⟨a, b⟩ := p
  obtain ⟨c, d⟩ := q
  have e : (((a, b) : Int × Int) == (c, d)) = ((a == c) && (b == d)) := rfl
  rw [e]
  have h1 : ∀ n x y w, (Op.equalIn (n + 1) 21 (.int .i32 x) (.int .i32 y)).run Tryz.prog w = .ok (x == y) w := fun n x y w => by
    simp [Op.equalIn, run_underlying Tryz.underlying21]
  have p1 : ∀ x y w, (part 21 #[.int .i32 x, .int .i32 y] 0).run Tryz.prog w = .ok (.int .i32 x) w := fun x y w => by kernel_rfl
  have p2 : ∀ x y w, (part 21 #[.int .i32 x, .int .i32 y] 1).run Tryz.prog w = .ok (.int .i32 y) w := fun x y w => by kernel_rfl
  have h : ∀ n : Nat, (Op.equalIn (n + 2) 111 (pk (a, b)) (pk (c, d))).run Tryz.prog w = .ok ((a == c) && (b == d)) w := fun n => by
    unfold pk
    simp [Op.equalIn, run_underlying Tryz.underlying111, p1, p2]
    by_cases h1 : a = c <;> by_cases h2 : b = d <;> simp [h1, h2]
  exact h 9998
theorem fit59 : KeyFit Value.string Tryz.prog 59 := string_fit Tryz.underlying59
theorem fit111 : KeyFit pk Tryz.prog 111 := pair_fit Tryz.underlying111 pair_check pair_equal

/-- A slice of bytes that holds a text. -/
def BSl (w : World) (v : Value) (l : List UInt8) : Prop := ∃ g cap cs, v = .slice (some ⟨g, 0, none⟩) l.length cap ∧ (∃ fr, w.heap[g]? = some (.cells cs 5 fr)) ∧ ∀ i (h : i < l.length), cs[i]? = some (.int .u8 (l[i].toNat : Int))
/-- What the third map of a listSuffixer holds, text by text. -/
def RowsOk (w : World) : List ((Int × Int) × Value) → List ((Int × Int) × List UInt8) → Prop
  | [], [] => True
  | q :: Q, r :: R => q.1 = r.1 ∧ BSl w q.2 r.2 ∧ RowsOk w Q R
  | _, _ => False

theorem BSl.frame {S : Nat → Prop} {w w' : World} {v : Value} {l : List UInt8} (h : BSl w v l) (f : Fr S w w') (hS : ∀ k cs fr, w.heap[k]? = some (.cells cs 5 fr) → ¬ S k) : BSl w' v l := by
  obtain ⟨g, cap, cs, hv, ⟨fr, hb⟩, hc⟩ := h
  exact ⟨g, cap, cs, hv, ⟨fr, (f.block g (Array.getElem?_eq_some_iff.1 hb).1 (hS g cs fr hb)).trans hb⟩, hc⟩
theorem RowsOk.frame {S : Nat → Prop} {w w' : World} : ∀ {Q : List ((Int × Int) × Value)} {R : List ((Int × Int) × List UInt8)}, RowsOk w Q R → Fr S w w' → (∀ k cs fr, w.heap[k]? = some (.cells cs 5 fr) → ¬ S k) → RowsOk w' Q R
  | [], [], _, _, _ => trivial
  | _ :: _, _ :: _, h, f, hS => ⟨h.1, h.2.1.frame f hS, RowsOk.frame h.2.2 f hS⟩
  | [], _ :: _, h, _, _ => h.elim
  | _ :: _, [], h, _, _ => h.elim
theorem RowsOk.snoc {w : World} {q : (Int × Int) × Value} {r : (Int × Int) × List UInt8} (e : q.1 = r.1) (hb : BSl w q.2 r.2) : ∀ {Q : List ((Int × Int) × Value)} {R : List ((Int × Int) × List UInt8)}, RowsOk w Q R → RowsOk w (Q ++ [q]) (R ++ [r])
  | [], [], _ => ⟨e, hb, trivial⟩
  | _ :: _, _ :: _, h => ⟨h.1, h.2.1, RowsOk.snoc e hb h.2.2⟩
  | [], _ :: _, h => h.elim
  | _ :: _, [], h => h.elim
theorem RowsOk.lk_none {w : World} {k : Int × Int} : ∀ {Q : List ((Int × Int) × Value)} {R : List ((Int × Int) × List UInt8)} {i : Nat}, RowsOk w Q R → (∀ r ∈ R, (k == r.1) = false) → lk k Q i = none
  | [], [], _, _, _ => rfl
  | q :: Q, r :: R, i, h, hn => by
    unfold lk
    rw [h.1, hn r (by simp)]
    exact RowsOk.lk_none h.2.2 (fun r hr => hn r (by simp [hr]))
  | [], _ :: _, _, h, _ => h.elim
  | _ :: _, [], _, h, _ => h.elim

structure LsAt (w : World) (p o b1 b2 b3 : Nat) (S : List (ByteArray × Value)) (Q2 Q3 : List ((Int × Int) × Value)) : Prop where
  plain : Plain w p
  c0 : w.cell? ⟨p, o, none⟩ = some (.map (some b1))
  c1 : w.cell? ⟨p, o + 1, none⟩ = some (.map (some b2))
  c2 : w.cell? ⟨p, o + 2, none⟩ = some (.map (some b3))
  m1 : MapB Value.string w b1 S
  m2 : MapB pk w b2 Q2
  m3 : MapB pk w b3 Q3
  n12 : b1 ≠ b2
  n13 : b1 ≠ b3
  n23 : b2 ≠ b3

theorem MapB.no_cells {α : Type} {f : α → Value} {w : World} {b : Nat} {l : List (α × Value)} (h : MapB f w b l) {cs : Array Value} {T : TypeId} {fr : Nat × Nat} : w.heap[b]? ≠ some (.cells cs T fr) := by
  obtain ⟨es, c, hb, _⟩ := h
  rw [hb]; simp
theorem MapB.not_plain {α : Type} {f : α → Value} {w : World} {b : Nat} {l : List (α × Value)} (h : MapB f w b l) {p : Nat} (hp : Plain w p) : b ≠ p := by
  obtain ⟨c, T, hT⟩ := hp
  rintro rfl
  exact h.no_cells hT
theorem LsAt.frame {S' : Nat → Prop} {w w' : World} {p o b1 b2 b3 : Nat} {S : List (ByteArray × Value)} {Q2 Q3 : List ((Int × Int) × Value)} (h : LsAt w p o b1 b2 b3 S Q2 Q3) (f : Fr S' w w') (hp : ¬ S' p) (h1 : ¬ S' b1) (h2 : ¬ S' b2) (h3 : ¬ S' b3) : LsAt w' p o b1 b2 b3 S Q2 Q3 :=
  ⟨h.plain.frame f hp, (f.cell h.plain.lt hp).trans h.c0, (f.cell h.plain.lt hp).trans h.c1, (f.cell h.plain.lt hp).trans h.c2, h.m1.frame f h1, h.m2.frame f h2, h.m3.frame f h3, h.n12, h.n13, h.n23⟩

/-- What addSuffix comes to. -/
def SufAdd (w : World) (p o b1 b2 b3 : Nat) (S : List (ByteArray × Value)) (Q3 : List ((Int × Int) × Value)) (s : ByteArray) (k : Int × Int) (e : Ending) (w' : World) : Prop :=
  e = .returned (.tuple #[]) ∧ ∃ Q2' v, LsAt w' p o b1 b2 b3 (putL s (pk k) S) Q2' (Q3 ++ [(k, v)]) ∧ BSl w' v s.data.toList ∧ Fr (fun i => i = b1 ∨ i = b2 ∨ i = b3) w w'

theorem bsl_made (w : World) (s : ByteArray) (c : Nat) (fr : Nat × Nat) : BSl (w.alloc (.cells (bytesRow s c) 5 fr)) (.slice (some ⟨w.heap.size, 0, none⟩) s.size c) s.data.toList := by
  refine ⟨w.heap.size, c, _, by simp, ⟨fr, heap_alloc_new _ _⟩, ?_⟩
  intro i hi
  unfold bytesRow
  simp at hi
  simp [Array.getElem?_append, hi]

theorem map_nil102 (b : Nat) (w : World) : (binOp .eql 102 (.map (some b)) (.map none)).run Tryz.prog w = .ok (.bool false) w := by kernel_rfl
theorem map_nil103 (b : Nat) (w : World) : (binOp .eql 103 (.map (some b)) (.map none)).run Tryz.prog w = .ok (.bool false) w := by kernel_rfl
theorem map_nil104 (b : Nat) (w : World) : (binOp .eql 104 (.map (some b)) (.map none)).run Tryz.prog w = .ok (.bool false) w := by kernel_rfl
theorem map_nn102 (w : World) : (binOp .eql 102 (.map none) (.map none)).run Tryz.prog w = .ok (.bool true) w := by kernel_rfl
theorem map_nn103 (w : World) : (binOp .eql 103 (.map none) (.map none)).run Tryz.prog w = .ok (.bool true) w := by kernel_rfl
theorem map_nn104 (w : World) : (binOp .eql 104 (.map none) (.map none)).run Tryz.prog w = .ok (.bool true) w := by kernel_rfl

set_option maxRecDepth 100000 in
set_option maxHeartbeats 2000000 in
theorem add_next (p o b1 b2 b3 : Nat) (S : List (ByteArray × Value)) (Q2 Q3 : List ((Int × Int) × Value)) (s : ByteArray) (k1 k2 : Int) (w : World) (h : LsAt w p o b1 b2 b3 S Q2 Q3) (hk : lk (k1, k2) Q3 0 = none) :
    Calls Tryz.prog 45 #[.pointer (some ⟨p, o, none⟩), .string s, .agg #[.int .i32 k1, .int .i32 k2]] w (SufAdd w p o b1 b2 b3 S Q3 s (k1, k2)) := by
  have c0 := h.c0
  have c1 := h.c1
  have c2 := h.c2
  have hb := h.plain.lt
  have e1 := map_nil102 b1
  have e2 := map_nil103 b2
  have e3 := map_nil104 b3
  go_enter Tryz.func45, Tryz.ntmps45
  go_wp2_with fail
  refine wp_region_mid 0 6 (by kernel_rfl) (by kernel_rfl) (by kernel_rfl) ?_
  simp only [List.take_succ_cons, List.take_zero, List.drop_succ_cons, List.drop_zero]
  refine wpQuiet_nil ?_
  repeat (go_big_quiet_step (fail))
  refine wpQuiet_nil ?_
  obtain ⟨wa, hwa⟩ : ∃ wa, wa = (w.alloc (.cells #[.int .i32 k1, .int .i32 k2] 111)).drew := ⟨_, rfl⟩
  have fa : Fr (fun _ => False) w wa := by rw [hwa]; exact (Fr.alloc _ _ _).trans (Fr.drew (fun _ => False) _) (fun _ _ h => h)
  have ha := h.frame fa (fun f => f) (fun f => f) (fun f => f) (fun f => f)
  have x0 : wa.cell? ⟨w.heap.size, 0, none⟩ = some (.int .i32 k1) := by rw [hwa]; exact (World.cell?_alloc_mark w #[.int .i32 k1, .int .i32 k2] 111 (0, 0) 0)
  have x1 : wa.cell? ⟨w.heap.size, 1, none⟩ = some (.int .i32 k2) := by rw [hwa]; exact (World.cell?_alloc_mark w #[.int .i32 k1, .int .i32 k2] 111 (0, 0) 1)
  have hsz : w.heap.size < wa.heap.size := by rw [hwa]; show _ < (w.alloc _).heap.size; simp
  rw [← hwa]
  replace hwa := Lib.hid hwa
  refine wpList_put _ rfl _ _ _ 102 rfl 59 111 fit59 Tryz.underlying102 b1 S rfl ha.m1 s (pk (k1, k2)) rfl rfl ?_
  intro wb hmb fb
  have hbl : ∀ {k : Nat}, k < w.heap.size → k < wa.heap.size := fun h => Nat.lt_trans h hsz
  have nb1 : b1 ≠ p := ha.m1.not_plain ha.plain
  have nb2 : b2 ≠ p := ha.m2.not_plain ha.plain
  have nb3 : b3 ≠ p := ha.m3.not_plain ha.plain
  have lb1 := h.m1.lt
  have lb2 := h.m2.lt
  have lb3 := h.m3.lt
  have cb1 := (fb.cell (p := ⟨p, o + 1, none⟩) ha.plain.lt (fun e => nb1 e.symm)).trans ha.c1
  have cb2 := (fb.cell (p := ⟨p, o + 2, none⟩) ha.plain.lt (fun e => nb1 e.symm)).trans ha.c2
  have y0 := (fb.cell (p := ⟨w.heap.size, 0, none⟩) hsz (fun e => by have e : w.heap.size = b1 := e; omega)).trans x0
  have y1 := (fb.cell (p := ⟨w.heap.size, 1, none⟩) hsz (fun e => by have e : w.heap.size = b1 := e; omega)).trans x1
  have mb2 := ha.m2.frame fb (fun e => h.n12 e.symm)
  have mb3 := ha.m3.frame fb (fun e => h.n13 e.symm)
  clear c0 c1 c2
  go_wp2_with fail
  refine NoPanic.normal ?_
  go_wp2_with fail
  refine wp_region_mid 0 6 (by kernel_rfl) (by kernel_rfl) (by kernel_rfl) ?_
  simp only [List.take_succ_cons, List.take_zero, List.drop_succ_cons, List.drop_zero]
  refine wpQuiet_nil ?_
  repeat (go_big_quiet_step (fail))
  refine wpQuiet_nil ?_
  refine wpList_put _ rfl _ _ _ 103 rfl 111 59 fit111 Tryz.underlying103 b2 Q2 rfl (mb2.frame (Fr.drew (fun _ => False) wb) (fun f => f)) (k1, k2) (.string s) rfl rfl ?_
  intro wc hmc fc
  have fbc : Fr (fun i => i = b1 ∨ i = b2) wa wc := (fb.mono (T := fun i => i = b1 ∨ i = b2) (fun _ _ h => Or.inl h)).trans (((Fr.drew (fun _ => False) wb).mono (fun _ _ h => h.elim)).trans (fc.mono (T := fun i => i = b1 ∨ i = b2) (fun _ _ h => Or.inr h)) (fun _ _ h => h)) (fun _ _ h => h)
  have cc2 := (fbc.cell (p := ⟨p, o + 2, none⟩) ha.plain.lt (by rintro (e | e); exact nb1 e.symm; exact nb2 e.symm)).trans ha.c2
  have z0 := (fbc.cell (p := ⟨w.heap.size, 0, none⟩) hsz (by rintro (e | e); (have e : w.heap.size = b1 := e; omega); (have e : w.heap.size = b2 := e; omega))).trans x0
  have z1 := (fbc.cell (p := ⟨w.heap.size, 1, none⟩) hsz (by rintro (e | e); (have e : w.heap.size = b1 := e; omega); (have e : w.heap.size = b2 := e; omega))).trans x1
  have mc3 := ha.m3.frame fbc (by rintro (e | e); exact h.n13 e.symm; exact h.n23 e.symm)
  have mc1 := hmb.frame ((Fr.drew (fun i => i = b2) wb).trans fc (fun _ _ h => h)) (fun e => h.n12 e)
  have kc := fun w => run_bytes_of_string (P := Tryz.prog) w 59 96 5 s Tryz.underlying59 Tryz.underlying96 Tryz.underlying5
  have plc : p < wc.heap.size := Nat.lt_of_lt_of_le ha.plain.lt fbc.size
  have hwl : w.heap.size < wc.heap.size := Nat.lt_of_lt_of_le hsz fbc.size
  have fw : Fr (fun _ => False) wc (wc.alloc (.cells (bytesRow s (grownCap wc.drew s.size 0 5)) 5 ((bytesRow s (grownCap wc.drew s.size 0 5)).size, (bytesRow s (grownCap wc.drew s.size 0 5)).size + 1))).drew.drew :=
    (Fr.alloc (fun _ => False) wc _).trans ((Fr.drew (fun _ => False) _).trans (Fr.drew (fun _ => False) _) (fun _ _ h => h)) (fun _ _ h => h)
  obtain ⟨wd, hput, hmd, fd⟩ := (mc3.frame fw (fun f => f)).put fit111 Tryz.underlying104 (k1, k2) (.slice (some ⟨wc.heap.size, 0, none⟩) s.size (grownCap wc.drew s.size 0 5))
  unfold pk at hput
  go_wp2_with fail
  refine NoPanic.normal ?_
  go_wp2_with fail
  clear e1 e2 e3 y0 y1 cb1 cb2 x0 x1
  go_region
  have FIN : SufAdd w p o b1 b2 b3 S Q3 s (k1, k2) (.returned (.tuple #[])) wd := by
    have hS3 : putL (k1, k2) (.slice (some ⟨wc.heap.size, 0, none⟩) s.size (grownCap wc.drew s.size 0 5)) Q3 = Q3 ++ [((k1, k2), .slice (some ⟨wc.heap.size, 0, none⟩) s.size (grownCap wc.drew s.size 0 5))] := by unfold putL; rw [hk]
    rw [hS3] at hmd
    have fcd : Fr (fun i => i = b3) wc wd := (fw.mono (fun _ _ h => h.elim)).trans fd (fun _ _ h => h)
    have fad : Fr (fun i => i = b1 ∨ i = b2 ∨ i = b3) wa wd := (fbc.mono (T := fun i => i = b1 ∨ i = b2 ∨ i = b3) (fun _ _ h => h.elim Or.inl (fun h => Or.inr (Or.inl h)))).trans fcd (fun _ _ h => Or.inr (Or.inr h))
    have np : ¬ (p = b1 ∨ p = b2 ∨ p = b3) := by rintro (e | e | e); exact nb1 e.symm; exact nb2 e.symm; exact nb3 e.symm
    refine ⟨rfl, _, _, ⟨ha.plain.frame fad np, (fad.cell ha.plain.lt np).trans ha.c0, (fad.cell ha.plain.lt np).trans ha.c1, (fad.cell ha.plain.lt np).trans ha.c2, mc1.frame fcd h.n13, hmc.frame fcd h.n23, hmd, h.n12, h.n13, h.n23⟩, ?_, (fa.mono (fun _ _ h => h.elim)).trans fad (fun _ _ h => h)⟩
    have hb := bsl_made wc s (grownCap wc.drew s.size 0 5) ((bytesRow s (grownCap wc.drew s.size 0 5)).size, (bytesRow s (grownCap wc.drew s.size 0 5)).size + 1)
    refine hb.frame (S := fun i => i = b3) (((Fr.drew (fun i => i = b3) _).trans (Fr.drew (fun i => i = b3) _) (fun _ _ h => h)).trans fd (fun _ _ h => h)) ?_
    rintro k cs fr hk rfl
    exact (mc3.frame fw (fun f => f)).no_cells hk
  all_goals
    go_end0
    exact FIN
end Go.Proofs.YtcpjclakdpjjfaaGreatDoor


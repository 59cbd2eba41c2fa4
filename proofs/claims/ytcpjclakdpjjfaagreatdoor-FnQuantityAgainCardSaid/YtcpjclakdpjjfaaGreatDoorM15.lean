/-
  A part of the proof of FnQuantityAgain (texts Q6, Q7, Q8, Q9 of mine, joined).
-/
import Derived.Test.YtcpjclakdpjjfaaGreatDoorM14
namespace Go.Proofs.YtcpjclakdpjjfaaGreatDoor
open Go

/-- A great bound on all that is reckoned. -/
def TOP : Nat := 10 ^ 136

/-- What the walk asks of a text's parts: mantissa u, exponent e. -/
structure PB (p : Pq) (b : Nat) (x : Int) : Prop where
  dig : ∃ c ∈ p.value, isDg c = true
  vlen : p.value.length ≤ 150
  nlen : p.num.length ≤ 200
  dlen : p.denom.length ≤ 100
  xlen : x.natAbs ≤ 150
  elo : -130 ≤ (if b = 10 then x else 0) - (p.denom.length : Int)
  u : decV (p.num ++ p.denom) * (if b = 10 then 1 else 2 ^ x.toNat) < TOP
  hi : -9 ≤ (if b = 10 then x else 0) - (p.denom.length : Int) → decV (p.num ++ p.denom) * (if b = 10 then 1 else 2 ^ x.toNat) * 10 ^ ((if b = 10 then x else 0) - (p.denom.length : Int) + 9).toNat < TOP
  lo : (if b = 10 then x else 0) - (p.denom.length : Int) < -9 → -9 - ((if b = 10 then x else 0) - (p.denom.length : Int)) ≤ 57 ∨ decV (p.num ++ p.denom) * (if b = 10 then 1 else 2 ^ x.toNat) < 10 ^ (-9 - ((if b = 10 then x else 0) - (p.denom.length : Int))).toNat

def PBs (s : List UInt8) : Prop := s.length ≤ 200 ∧ ∀ p b x f, splitQ s = some p → sufQ p.suf = some (b, x, f) → PB p b x

/-- What the walk asks of a quantity. -/
structure QB (q : MQ) : Prop where
  lo : -130 ≤ q.e
  hi : q.e ≤ 150
  u : q.u.natAbs < TOP
  n : -9 ≤ q.e → q.u.natAbs * 10 ^ (q.e + 9).toNat < TOP

theorem TOP_pos : 0 < TOP := Nat.pow_pos (by omega)
theorem ceil_le (a b : Nat) : ceilDiv a b ≤ a / b + 1 := by unfold ceilDiv; split <;> omega

theorem nano_top {u : Nat} {e : Int} (h1 : u < TOP) (h2 : -9 ≤ e → u * 10 ^ (e + 9).toNat < TOP) (h3 : 0 < u) : nanoN u e < TOP := by
  unfold nanoN
  split
  · rename_i h; exact h2 h
  · rename_i h
    have := ceil_le u (10 ^ (-9 - e).toNat)
    have h10 : 10 ^ 1 ≤ 10 ^ (-9 - e).toNat := Nat.pow_le_pow_right (by omega) (by omega)
    have h4 : u / 10 ^ (-9 - e).toNat ≤ u / 10 := Nat.div_le_div_left (by simpa using h10) (by omega)
    omega

theorem natAbs_if (b : Bool) (n : Nat) : (if b = true then (n : Int) else -(n : Int)).natAbs = n := by split <;> omega

theorem slow_qb (pos : Bool) (u : Nat) (e : Int) (f : Nat) (h1 : u < TOP) (h2 : -9 ≤ e → u * 10 ^ (e + 9).toNat < TOP) (l1 : -130 ≤ e) (l2 : e ≤ 150) : QB (slowQ pos u e f) := by
  by_cases hu0 : u = 0
  · have e1 : slowQ pos u e f = ⟨true, 0, e, f, []⟩ := by unfold slowQ; rw [if_pos hu0]
    rw [e1]
    exact ⟨l1, l2, TOP_pos, fun _ => by simp [TOP_pos]⟩
  · have hn := nano_top h1 h2 (by omega)
    by_cases hcap : f = 1 ∧ maxQ * 10 ^ 9 < nanoN u e
    · have e1 : slowQ pos u e f = ⟨true, if pos then maxQ else -maxQ, 0, 1, []⟩ := by unfold slowQ; rw [if_neg hu0]; simp only []; rw [if_pos hcap]
      rw [e1]
      refine ⟨by simp, by simp, ?_, fun _ => ?_⟩
      · show (if pos = true then (maxQ : Int) else -(maxQ : Int)).natAbs < _
        rw [natAbs_if]
        exact Nat.lt_of_le_of_lt (Nat.le_mul_of_pos_right _ (by decide)) (Nat.lt_trans hcap.2 hn)
      · show (if pos = true then (maxQ : Int) else -(maxQ : Int)).natAbs * 10 ^ 9 < _
        rw [natAbs_if]
        exact Nat.lt_trans hcap.2 hn
    · have e1 : slowQ pos u e f = ⟨true, if pos then (nanoN u e : Int) else -(nanoN u e : Int), -9, if f = 1 ∧ nanoN u e < 10 ^ 9 then 2 else f, []⟩ := by unfold slowQ; rw [if_neg hu0]; simp only []; rw [if_neg hcap]
      rw [e1]
      refine ⟨by simp, by simp, ?_, fun _ => ?_⟩
      · show (if pos = true then (nanoN u e : Int) else -(nanoN u e : Int)).natAbs < _
        rw [natAbs_if]; exact hn
      · show (if pos = true then (nanoN u e : Int) else -(nanoN u e : Int)).natAbs * 10 ^ 0 < _
        rw [natAbs_if]; simpa using hn

theorem make_qb (s : List UInt8) (p : Pq) (b : Nat) (x : Int) (f : Nat) (h : PB p b x) : QB (makeQ s p b x f) := by
  rw [makeQ_eq]
  have hx := h.xlen
  have l1 := h.elo
  have l2 : (if b = 10 then x else 0) - (p.denom.length : Int) ≤ 150 := by split <;> omega
  have hu := h.u
  have hh := h.hi
  generalize ((if b = 10 then x else 0) - (p.denom.length : Int)) = e at *
  generalize (decV (p.num ++ p.denom) * if b = 10 then 1 else 2 ^ x.toNat) = u at *
  split
  · refine ⟨l1, l2, ?_, fun h9 => ?_⟩
    · show (if p.pos = true then (u : Int) else -(u : Int)).natAbs < _
      rw [natAbs_if]; exact hu
    · show (if p.pos = true then (u : Int) else -(u : Int)).natAbs * 10 ^ (e + 9).toNat < _
      rw [natAbs_if]; exact hh h9
  · exact slow_qb p.pos _ _ f hu hh l1 l2
theorem parse_qb {s : List UInt8} (h : PBs s) {q : MQ} (hq : parseQ s = .ok q) : QB q := by
  unfold parseQ at hq
  split at hq
  · cases hq
  split at hq
  · cases hq; exact ⟨by simp, by simp, TOP_pos, fun _ => by simp [TOP_pos]⟩
  split at hq
  · cases hq
  rename_i p hp
  split at hq
  · cases hq
  rename_i b x f hs
  cases hq
  exact make_qb _ _ _ _ _ (h.2 p b x f hp hs)

theorem qb_v {q : MQ} (h : QB q) : q.v.natAbs < 10 ^ 500 := by
  unfold MQ.v
  rw [sv_abs]
  have h1 := h.u
  have h20 : ∀ k, (200 + q.e).toNat ≤ k → 10 ^ (200 + q.e).toNat ≤ 10 ^ k := fun _ hk => Nat.pow_le_pow_right (by omega) hk
  have h2 := h20 350 (by have := h.hi; omega)
  obtain ⟨E, hE⟩ : ∃ E : Nat, E = 10 ^ 350 := ⟨_, rfl⟩
  have hpos : ∀ k, 0 < 10 ^ k := fun _ => Nat.pow_pos (by omega)
  have hE0 : 0 < E := by rw [hE]; exact hpos 350
  rw [← hE] at h2
  have h3 : q.u.natAbs * 10 ^ (200 + q.e).toNat < TOP * E := Nat.lt_of_le_of_lt (Nat.mul_le_mul_left _ h2) (Nat.mul_lt_mul_of_pos_right h1 hE0)
  have hadd : ∀ a b : Nat, 10 ^ a * 10 ^ b ≤ 10 ^ (a + b) := fun a b => Nat.le_of_eq (Nat.pow_add 10 a b).symm
  have hle : ∀ a b : Nat, a ≤ b → 10 ^ a ≤ 10 ^ b := fun _ _ h => Nat.pow_le_pow_right (by omega) h
  have h5 := hadd 136 350
  have h6 := hle (136 + 350) 500 (by omega)
  have h4 : TOP * E ≤ 10 ^ 500 := by
    rw [hE]
    unfold TOP
    exact Nat.le_trans h5 h6
  exact Nat.lt_of_lt_of_le h3 h4

/-! A canonical text is one that the walk takes. -/
theorem dec_len {n k : Nat} (h : n < 10 ^ k) (hk : 0 < k) : (Lib.decDigits n).length ≤ k := by
  rw [Lib.decDigits_length]
  induction k generalizing n with
  | zero => omega
  | succ k ih =>
    by_cases h10 : n < 10
    · rw [Lib.nDigits_small h10]; omega
    · rw [Lib.nDigits_big h10]
      by_cases hk0 : k = 0
      · subst hk0; simp at h; omega
      · have := ih (n := n / 10) (by rw [Nat.pow_succ] at h; omega) (by omega)
        omega

theorem itoa_len {m : Int} {k : Nat} (h : m.natAbs < 10 ^ k) (hk : 0 < k) : (Lib.itoa m).length ≤ k + 1 := by
  by_cases h0 : 0 ≤ m
  · obtain ⟨n, rfl⟩ : ∃ n : Nat, m = n := ⟨m.toNat, by omega⟩
    rw [itoa_pos]
    have := dec_len (n := n) (by simpa using h) hk
    omega
  · obtain ⟨n, rfl⟩ : ∃ n : Nat, m = -(n : Int) := ⟨(-m).toNat, by omega⟩
    rw [itoa_neg n (by omega), List.length_cons]
    have := dec_len (n := n) (by simpa using h) hk
    omega

theorem itoa_dg (m : Int) : ∃ c ∈ Lib.itoa m, isDg c = true := by
  have key : ∀ n, ∃ c ∈ Lib.decDigits n, isDg c = true := by
    intro n
    cases e : Lib.decDigits n with
    | nil => exact (dec_ne n e).elim
    | cons c r => exact ⟨c, by simp, dec_dg n c (by rw [e]; simp)⟩
  by_cases h0 : 0 ≤ m
  · obtain ⟨n, rfl⟩ : ∃ n : Nat, m = n := ⟨m.toNat, by omega⟩
    rw [itoa_pos]; exact key n
  · obtain ⟨n, rfl⟩ : ∃ n : Nat, m = -(n : Int) := ⟨(-m).toNat, by omega⟩
    rw [itoa_neg n (by omega)]
    obtain ⟨c, h1, h2⟩ := key n
    exact ⟨c, by simp [h1], h2⟩

/-- The split of a number with a fine suffix. -/
theorem split_text (m : Int) (hm : m ≠ 0) (suf : List UInt8) (hs : SufFine suf) : splitQ (Lib.itoa m ++ suf) = some ⟨decide (0 < m), Lib.itoa m, Lib.decDigits m.natAbs, [], suf⟩ := by
  by_cases hp : 0 < m
  · obtain ⟨n, rfl⟩ : ∃ n : Nat, m = n := ⟨m.toNat, by omega⟩
    rw [itoa_pos, Int.natAbs_natCast, split_pos n (by omega) suf hs, decide_eq_true hp]
  · obtain ⟨n, rfl⟩ : ∃ n : Nat, m = -(n : Int) := ⟨(-m).toNat, by omega⟩
    rw [itoa_neg n (by omega), Int.natAbs_neg, Int.natAbs_natCast, List.cons_append, split_neg n (by omega) suf hs, decide_eq_false hp]

theorem pbs_text (m : Int) (hm : m ≠ 0) (suf : List UInt8) (hs : SufFine suf) (hl : suf.length ≤ 20) (b : Nat) (x : Int) (f : Nat) (hq : sufQ suf = some (b, x, f)) (hu : m.natAbs < TOP)
    (hb : b = 10 ∨ m.natAbs * 2 ^ x.toNat ≤ maxQ) (hx : -9 ≤ x) (hx2 : x ≤ 150) (ht : b = 10 → m.natAbs * 10 ^ (x + 9).toNat < TOP) : PBs (Lib.itoa m ++ suf) := by
  have hl2 := itoa_len (k := 136) hu (by omega)
  have hl3 := dec_len (k := 136) hu (by omega)
  have hmax : maxQ < TOP := Nat.lt_of_lt_of_le (show maxQ < 10 ^ 19 by unfold maxQ; decide) (Nat.pow_le_pow_right (by omega) (by omega))
  refine ⟨by rw [List.length_append]; omega, ?_⟩
  intro p b' x' f' h1 h2
  rw [split_text m hm suf hs] at h1
  cases h1
  simp only [hq, Option.some.injEq, Prod.mk.injEq] at h2
  obtain ⟨rfl, rfl, rfl⟩ := h2
  have key : m.natAbs * (if b = 10 then 1 else 2 ^ x.toNat) < TOP := by
    rcases hb with h | h
    · rw [if_pos h, Nat.mul_one]; exact hu
    · split
      · rw [Nat.mul_one]; exact hu
      · exact Nat.lt_of_le_of_lt h hmax
  constructor
  case dig => exact itoa_dg m
  case vlen => exact Nat.le_trans hl2 (by omega)
  case nlen => exact Nat.le_trans hl3 (by omega)
  case dlen => simp
  case xlen => omega
  case elo => simp only [List.length_nil]; split <;> omega
  all_goals simp only [List.append_nil, decV_dec, List.length_nil, Int.natCast_zero, Int.sub_zero]
  case u => exact key
  case hi =>
    intro _
    by_cases hb10 : b = 10
    · rw [if_pos hb10, if_pos hb10, Nat.mul_one]; exact ht hb10
    · rw [if_neg hb10, if_neg hb10]
      have h5 : m.natAbs * 2 ^ x.toNat ≤ maxQ := by rcases hb with h | h; exact (hb10 h).elim; exact h
      have h6 : maxQ * 10 ^ 9 < TOP := Nat.lt_of_lt_of_le (show maxQ * 10 ^ 9 < 10 ^ 28 by unfold maxQ; decide) (Nat.pow_le_pow_right (by omega) (by omega))
      exact Nat.lt_of_le_of_lt (Nat.mul_le_mul_right _ h5) h6
  case lo => intro h; exfalso; split at h <;> omega

theorem dsuf_len (f : Nat) (x : Int) (h : x.natAbs < 10 ^ 4) : (dsuf f x).length ≤ 20 := by
  unfold dsuf
  split
  · cases e : sufTab.find? (fun r => r.2 == (10, x, 2)) with
    | none => simp
    | some r =>
      have := List.mem_of_find?_eq_some e
      simp only [sufTab, List.mem_cons, List.not_mem_nil, or_false] at this
      rcases this with rfl | rfl | rfl | rfl | rfl | rfl | rfl | rfl | rfl | rfl | rfl | rfl | rfl | rfl | rfl | rfl <;> simp
  · split
    · simp
    · rw [List.length_cons]
      have := itoa_len h (by omega)
      omega
theorem bsuf_len (k : Nat) : (bsuf k).length ≤ 20 := by
  unfold bsuf
  cases e : sufTab.find? (fun r => r.2 == (2, 10 * (k : Int), 1)) with
  | none => simp
  | some r =>
    have := List.mem_of_find?_eq_some e
    simp only [sufTab, List.mem_cons, List.not_mem_nil, or_false] at this
    rcases this with rfl | rfl | rfl | rfl | rfl | rfl | rfl | rfl | rfl | rfl | rfl | rfl | rfl | rfl | rfl | rfl <;> simp
end Go.Proofs.YtcpjclakdpjjfaaGreatDoor

namespace Go.Proofs.YtcpjclakdpjjfaaGreatDoor
open Go

theorem pbs_dec (q : MQ) (h : Fine q) (hb : isBin q = false) (hq : QB q) : PBs (canon q) := by
  obtain ⟨c1, c2, c3, c4⟩ := canD_spec q.u q.e h.u0 (by have := h.lo; omega)
  have hc : canon q = Lib.itoa (canD q.u q.e).1 ++ dsuf (if q.fmt = 0 then 0 else 2) (canD q.u q.e).2 := by
    unfold canon
    rw [if_neg h.u0, if_neg (by simp [hb])]
  have hx9 : -9 ≤ (canD q.u q.e).2 := by have := h.lo; omega
  have hn := hq.n h.lo
  have hlo := h.lo
  have hv : (canD q.u q.e).1.natAbs * 10 ^ ((canD q.u q.e).2 + 9).toNat = q.u.natAbs * 10 ^ (q.e + 9).toNat := by
    have e := congrArg Int.natAbs c2
    rw [sv_abs, sv_abs] at e
    have e1 : (200 + (canD q.u q.e).2).toNat = ((canD q.u q.e).2 + 9).toNat + 191 := by omega
    have e2 : (200 + q.e).toNat = (q.e + 9).toNat + 191 := by omega
    rw [e1, e2, Nat.pow_add, Nat.pow_add, ← Nat.mul_assoc, ← Nat.mul_assoc] at e
    exact Nat.eq_of_mul_eq_mul_right (Nat.pow_pos (by omega)) e
  rw [← hv] at hn
  have hm : (canD q.u q.e).1.natAbs < TOP := Nat.lt_of_le_of_lt (Nat.le_mul_of_pos_right _ (Nat.pow_pos (by omega))) hn
  have hx : (canD q.u q.e).2 < (136 : Nat) := by
    have h1 : 1 * 10 ^ ((canD q.u q.e).2 + 9).toNat ≤ (canD q.u q.e).1.natAbs * 10 ^ ((canD q.u q.e).2 + 9).toNat := Nat.mul_le_mul_right _ (by have := c1.m0; omega)
    rw [Nat.one_mul] at h1
    have h2 := (Nat.pow_lt_pow_iff_right (show 1 < 10 by decide)).1 (Nat.lt_of_le_of_lt h1 hn)
    omega
  have hx19 : q.fmt ≠ 0 → (canD q.u q.e).2 ≤ 18 := fun hf => by
    have := exp_le (K := 19) c1.m0 (by rw [c2]; exact Nat.lt_of_le_of_lt (h.hi hf) maxQ_lt)
    have := c1.three
    omega
  rw [hc]
  have hlen : ∀ f, (dsuf f (canD q.u q.e).2).length ≤ 20 := fun f => dsuf_len f _ (by omega)
  by_cases hf : q.fmt = 0
  · rw [if_pos hf]
    by_cases hx0 : (canD q.u q.e).2 = 0
    · rw [hx0] at hn ⊢
      exact pbs_text _ c1.m0 _ (sufFine_of (by decide)) (by decide) 10 0 2 (by decide) hm (Or.inl rfl) (by omega) (by omega) (fun _ => hn)
    · obtain ⟨d1, d2⟩ := dsuf0 _ hx0 (by omega)
      exact pbs_text _ c1.m0 _ d1 (hlen 0) 10 _ 0 d2 hm (Or.inl rfl) hx9 (by omega) (fun _ => hn)
  · rw [if_neg hf]
    obtain ⟨d1, d2⟩ := dsuf2 _ c1.three hx9 (hx19 hf)
    exact pbs_text _ c1.m0 _ d1 (hlen 2) 10 _ 2 d2 hm (Or.inl rfl) hx9 (by omega) (fun _ => hn)

theorem pbs_bin (q : MQ) (h : Fine q) (hb : isBin q = true) : PBs (canon q) := by
  unfold isBin at hb
  simp only [decide_eq_true_eq] at hb
  obtain ⟨b1, b2, b3⟩ := hb
  have hv : q.v = q.v / 10 ^ 200 * 10 ^ 200 := (Int.ediv_mul_cancel (Int.dvd_of_emod_eq_zero b3)).symm
  obtain ⟨n, hn⟩ : ∃ n, n = q.v / 10 ^ 200 := ⟨_, rfl⟩
  have hc : canon q = Lib.itoa (signed n (strip 1024 n.natAbs).1) ++ bsuf (strip 1024 n.natAbs).2 := by
    unfold canon
    rw [if_neg h.u0, if_pos (by unfold isBin; exact decide_eq_true ⟨b1, b2, b3⟩), ← hn]
  rw [← hn] at hv
  have hp10 : (10 : Int) ^ 200 = ((10 ^ 200 : Nat) : Int) := (pow10_cast 200).symm
  have habs : q.v.natAbs = n.natAbs * 10 ^ 200 := by rw [hv, Int.natAbs_mul, hp10, Int.natAbs_natCast]
  have h200 : 0 < 10 ^ 200 := Nat.pow_pos (by omega)
  have hn0 : n.natAbs ≠ 0 := by
    intro e
    rw [habs, e, Nat.zero_mul] at b2
    have : 0 < 10 ^ 200 * 1024 := by omega
    omega
  have hmax : n.natAbs ≤ maxQ := by
    have := h.hi (by omega)
    rw [habs] at this
    exact Nat.le_of_mul_le_mul_right this h200
  obtain ⟨s1, s2, s3⟩ := strip_spec 1024 n.natAbs (by omega) (by omega)
  generalize strip 1024 n.natAbs = t at *
  obtain ⟨a, k⟩ := t
  simp only at *
  have hk : k ≤ 6 := by
    by_cases hk : k ≤ 6
    · exact hk
    · exfalso
      have h7 : 1024 ^ 7 ≤ 1024 ^ k := Nat.pow_le_pow_right (by omega) (by omega)
      have : 1 * 1024 ^ k ≤ a * 1024 ^ k := Nat.mul_le_mul_right _ s3
      have e7 : 1024 ^ 7 = 1180591620717411303424 := by decide
      rw [← s1] at this
      unfold maxQ at hmax
      omega
  have hm : signed n a ≠ 0 := signed_ne n s3
  have e2 : a * 2 ^ (10 * k) = n.natAbs := by
    rw [Nat.pow_mul, s1]
  have ha : a ≤ maxQ := by
    rw [← e2] at hmax
    exact Nat.le_trans (Nat.le_mul_of_pos_right _ (Nat.pow_pos (by omega))) hmax
  have hmx : maxQ < 10 ^ 19 := by unfold maxQ; decide
  have ht : 10 ^ 19 ≤ TOP := Nat.pow_le_pow_right (by omega) (by omega)
  rw [hc]
  by_cases hk0 : k = 0
  · subst hk0
    refine pbs_text (signed n a) hm _ (sufFine_of (by decide)) (by decide) 10 0 2 (by decide) (by rw [natAbs_signed]; omega) (Or.inl rfl) (by omega) (by omega) (fun _ => ?_)
    rw [natAbs_signed]
    have h9 : a * 10 ^ (0 + 9 : Int).toNat ≤ 10 ^ 19 * 10 ^ 9 := Nat.mul_le_mul_right _ (by omega)
    have h28 : 10 ^ 19 * 10 ^ 9 < 10 ^ 29 := by decide
    have h29 : 10 ^ 29 ≤ TOP := Nat.pow_le_pow_right (by omega) (by omega)
    omega
  · obtain ⟨f1, f2⟩ := bsuf_fine k hk hk0
    exact pbs_text (signed n a) hm _ f1 (bsuf_len k) 2 _ 1 f2 (by rw [natAbs_signed]; omega) (Or.inr (by rw [natAbs_signed, Int.toNat_natCast, e2]; exact hmax)) (by omega) (by omega) (fun h => by omega)

theorem pbs_zero : PBs [48] := by
  refine ⟨by simp, ?_⟩
  intro p b x f h1 h2
  have e1 : splitQ [48] = some ⟨true, [48], [48], [], []⟩ := rfl
  rw [e1] at h1
  cases h1
  have e2 : sufQ [] = some (10, 0, 2) := by decide
  rw [e2] at h2
  cases h2
  constructor
  case dig => exact ⟨48, List.mem_singleton.2 rfl, dg48⟩
  case vlen => simp
  case nlen => simp
  case dlen => simp
  case xlen => simp
  case elo => simp
  case u => show 0 < TOP; exact TOP_pos
  case hi => intro _; show 0 * _ < TOP; rw [Nat.zero_mul]; exact TOP_pos
  case lo => intro h; simp at h

theorem canon_pbs {s : List UInt8} (hs : PBs s) {q : MQ} (hq : parseQ s = .ok q) (hi : q.fmt = 2 → q.v.natAbs ≤ maxQ * 10 ^ 200) : PBs (canon q) := by
  by_cases h0 : q.u = 0
  · have : canon q = [48] := by unfold canon; rw [if_pos h0]
    rw [this]; exact pbs_zero
  · have hb := parse_qb hs hq
    obtain ⟨f1, f2, f3⟩ := parse_fine hq h0
    have hf : Fine q := ⟨h0, f1, f2, fun h => by rcases (show q.fmt = 1 ∨ q.fmt = 2 by omega) with h | h; exact f3 h; exact hi h, qb_v hb⟩
    cases e : isBin q with
    | true => exact pbs_bin q hf e
    | false => exact pbs_dec q hf e hb

/-- THE PLAIN LAW: the canonical form of what was read, read again. -/
theorem canon_again {s : List UInt8} (hs : PBs s) {q : MQ} (hq : parseQ s = .ok q) (hi : q.fmt = 2 → q.v.natAbs ≤ maxQ * 10 ^ 200) :
    ∃ q', parseQ (canon q) = .ok q' ∧ q'.v = q.v ∧ (q.fmt ≠ 1 → canon q' = canon q) ∧ (q.fmt = 1 → q'.fmt = 2 → q'.v.natAbs ≤ maxQ * 10 ^ 200) := by
  by_cases h0 : q.u = 0
  · have : canon q = [48] := by unfold canon; rw [if_pos h0]
    refine ⟨⟨false, 0, 0, 2, [48]⟩, by rw [this]; rfl, ?_, ?_, ?_⟩
    · simp [MQ.v, sv, h0]
    · intro _; rw [this]; rfl
    · intro _ _; simp [MQ.v, sv]
  · have hb := parse_qb hs hq
    obtain ⟨f1, f2, f3⟩ := parse_fine hq h0
    have hf : Fine q := ⟨h0, f1, f2, fun h => by rcases (show q.fmt = 1 ∨ q.fmt = 2 by omega) with h | h; exact f3 h; exact hi h, qb_v hb⟩
    cases e : isBin q with
    | true =>
      obtain ⟨q', a1, a2, a3, a4, a5⟩ := again_bin q hf e
      refine ⟨q', a1, a2, ?_, ?_⟩
      · intro h; exfalso; apply h; unfold isBin at e; simp only [decide_eq_true_eq] at e; exact e.1
      · intro h _; rw [a2]; exact f3 h
    | false =>
      obtain ⟨q', a1, a2, a3, a4, a5, a6⟩ := again_dec q hf e
      exact ⟨q', a1, a2, fun _ => a6, fun h _ => by rw [a2]; exact f3 h⟩

theorem cmp_self {p q : MQ} (h : p.v = q.v) : cmpQ p q = 0 := by unfold cmpQ; rw [h, if_neg (Int.lt_irrefl _), if_pos rfl]
end Go.Proofs.YtcpjclakdpjjfaaGreatDoor

namespace Go.Proofs.YtcpjclakdpjjfaaGreatDoor
open Go

/-- quantityFair's loop: is there a digit, the power behind the last e. -/
def fairGo : List UInt8 → Bool → Nat → Bool → Option (Bool × Nat)
  | [], d, p, _ => some (d, p)
  | c :: r, d, p, b =>
    if isDg c then fairGo r true (if b then min 1000 (10 * p + (c.toNat - 48)) else p) b
    else if c ≠ 43 ∧ c ≠ 45 ∧ c ≠ 46 ∧ d = false then none
    else if c = 101 ∨ c = 69 then fairGo r d 0 true
    else fairGo r d p b

def fairQ (s : List UInt8) : Bool :=
  match fairGo s false 0 false with
  | none => false
  | some (d, p) => d && decide (s.length ≤ 60) && decide (p ≤ 60)

theorem fair_nodg : ∀ (v : List UInt8) (p : Nat) (b : Bool), (∀ c ∈ v, isDg c = false) → fairGo v false p b = none ∨ ∃ p', fairGo v false p b = some (false, p')
  | [], p, b, _ => Or.inr ⟨p, rfl⟩
  | c :: v, p, b, h => by
    have hc := h c (by simp)
    unfold fairGo
    simp only [hc, Bool.false_eq_true, if_false]
    split
    · exact Or.inl rfl
    · split
      · exact fair_nodg v _ _ (fun x hx => h x (by simp [hx]))
      · exact fair_nodg v _ _ (fun x hx => h x (by simp [hx]))
theorem fair_letter : ∀ (v : List UInt8) (p : Nat) (b : Bool) (c : UInt8) (r : List UInt8), (∀ c ∈ v, isDg c = false) → isDg c = false → c ≠ 43 → c ≠ 45 → c ≠ 46 → fairGo (v ++ c :: r) false p b = none
  | [], p, b, c, r, _, hc, c1, c2, c3 => by
    rw [List.nil_append]
    unfold fairGo
    simp only [hc, Bool.false_eq_true, if_false]
    rw [if_pos ⟨c1, c2, c3, by trivial⟩]
  | a :: v, p, b, c, r, h, hc, c1, c2, c3 => by
    have ha := h a (by simp)
    rw [List.cons_append]
    unfold fairGo
    simp only [ha, Bool.false_eq_true, if_false]
    split
    · rfl
    · split
      · exact fair_letter v _ _ c r (fun x hx => h x (by simp [hx])) hc c1 c2 c3
      · exact fair_letter v _ _ c r (fun x hx => h x (by simp [hx])) hc c1 c2 c3

theorem fair_app : ∀ (v : List UInt8) (d : Bool) (p : Nat) (b : Bool) (t : List UInt8) (x : Bool × Nat), fairGo (v ++ t) d p b = some x → ∃ d' p' b', fairGo t d' p' b' = some x
  | [], d, p, b, t, x, h => ⟨d, p, b, h⟩
  | c :: v, d, p, b, t, x, h => by
    rw [List.cons_append] at h
    unfold fairGo at h
    split at h
    · exact fair_app v _ _ _ t x h
    · split at h
      · cases h
      · split at h
        · exact fair_app v _ _ _ t x h
        · exact fair_app v _ _ _ t x h

theorem fair_capped : ∀ (l : List UInt8) (d : Bool) (p : Nat) (d' : Bool) (p' : Nat), (∀ c ∈ l, isDg c = true) → fairGo l d p true = some (d', p') → (1000 ≤ p → 1000 ≤ p') ∧ (p' < 1000 → p' = p * 10 ^ l.length + decV l)
  | [], d, p, d', p', _, h => by
    unfold fairGo at h
    cases h
    exact ⟨fun h => h, fun _ => by simp [decV]⟩
  | c :: l, d, p, d', p', hl, h => by
    have hc := hl c (by simp)
    unfold fairGo at h
    rw [if_pos hc, if_pos rfl] at h
    obtain ⟨h1, h2⟩ := fair_capped l _ _ d' p' (fun x hx => hl x (by simp [hx])) h
    refine ⟨fun hp => h1 (by omega), fun hp => ?_⟩
    have h3 := h2 hp
    by_cases hbig : 1000 ≤ 10 * p + (c.toNat - 48)
    · have := h1 (by omega); omega
    · rw [Nat.min_eq_right (by omega)] at h3
      rw [h3, decV_cons, List.length_cons, Nat.pow_succ, Nat.add_mul, Nat.mul_comm (10 ^ l.length) 10, ← Nat.mul_assoc, Nat.mul_comm 10 p, Nat.add_assoc]

theorem parseU_inv (M : Nat) : ∀ (l : List UInt8) (acc u : Nat), Lib.parseUintM M acc l = .ok u → (∀ c ∈ l, isDg c = true) ∧ u = acc * 10 ^ l.length + decV l
  | [], acc, u, h => by
    unfold Lib.parseUintM at h
    cases h
    exact ⟨by simp, by simp [decV]⟩
  | c :: l, acc, u, h => by
    unfold Lib.parseUintM at h
    split at h
    · rename_i hc
      split at h
      · cases h
      · split at h
        · cases h
        · obtain ⟨h1, h2⟩ := parseU_inv M l _ u h
          refine ⟨?_, ?_⟩
          · intro x hx
            rcases List.mem_cons.1 hx with rfl | hx
            · simpa [isDg] using hc
            · exact h1 x hx
          · rw [h2, decV_cons, List.length_cons, Nat.pow_succ, Nat.add_mul, Nat.mul_comm (10 ^ l.length) 10, ← Nat.mul_assoc, Nat.add_assoc]
    · cases h

theorem parseI_inv {r : List UInt8} {x : Int} (h : Lib.parseIntB 64 r = .ok x) : ∃ ds, (∀ c ∈ ds, isDg c = true) ∧ x.natAbs = decV ds ∧ (r = ds ∨ ∃ c, (c = 43 ∨ c = 45) ∧ r = c :: ds) := by
  cases r with
  | nil => cases h
  | cons c r =>
    unfold Lib.parseIntB Lib.parseUintB at h
    simp only [] at h
    have key : ∀ (E : Lib.NumEnd Nat) (l : List UInt8) (u : Nat), (if l = [] then E else Lib.parseUintM (2 ^ 64 - 1) 0 l) = Lib.NumEnd.ok u → (∀ v, E ≠ Lib.NumEnd.ok v) → (∀ c ∈ l, isDg c = true) ∧ u = decV l := by
      intro E l u hu hE
      split at hu
      · exact absurd hu (hE u)
      · have := parseU_inv _ l 0 u hu
        rwa [Nat.zero_mul, Nat.zero_add] at this
    split at h
    · cases h
    · cases h
    · rename_i u hu
      obtain ⟨k1, k2⟩ := key _ _ u hu (by intro _ h; cases h)
      have hx : x.natAbs = u := by
        split at h
        · cases h
        · split at h
          · cases h
          · cases h; split <;> omega
      refine ⟨_, k1, hx.trans k2, ?_⟩
      by_cases hc : c.toNat = 43 ∨ c.toNat = 45
      · rw [if_pos hc]
        refine Or.inr ⟨c, ?_, rfl⟩
        rcases hc with h | h
        · left; exact UInt8.toNat_inj.1 h
        · right; exact UInt8.toNat_inj.1 h
      · rw [if_neg hc]; exact Or.inl rfl

theorem fair_exp {v r : List UInt8} {c : UInt8} {x : Int} (hc : c = 69 ∨ c = 101) (hf : fairQ (v ++ c :: r) = true) (h : Lib.parseIntB 64 r = .ok x) : x.natAbs ≤ 60 := by
  unfold fairQ at hf
  split at hf
  · cases hf
  · rename_i d p hg
    simp only [Bool.and_eq_true, decide_eq_true_eq] at hf
    obtain ⟨d', p', b', hg⟩ := fair_app v _ _ _ _ _ hg
    unfold fairGo at hg
    have hcd : isDg c = false := by rcases hc with rfl | rfl <;> decide
    have h1 : c ≠ 43 ∧ c ≠ 45 ∧ c ≠ 46 := by rcases hc with rfl | rfl <;> decide
    simp only [hcd, Bool.false_eq_true, if_false] at hg
    split at hg
    · cases hg
    · rw [if_pos (by rcases hc with rfl | rfl <;> simp)] at hg
      obtain ⟨ds, k1, k2, k3⟩ := parseI_inv h
      have fin : ∀ dd, fairGo ds dd 0 true = some (d, p) → x.natAbs ≤ 60 := by
        intro dd hh
        have := (fair_capped ds _ _ _ _ k1 hh).2 (by omega)
        omega
      rcases k3 with rfl | ⟨c', hc', rfl⟩
      · exact fin _ hg
      · unfold fairGo at hg
        have : isDg c' = false := by rcases hc' with rfl | rfl <;> decide
        simp only [this, Bool.false_eq_true, if_false] at hg
        split at hg
        · cases hg
        · rw [if_neg (by rcases hc' with rfl | rfl <;> simp)] at hg
          exact fin _ hg
end Go.Proofs.YtcpjclakdpjjfaaGreatDoor

namespace Go.Proofs.YtcpjclakdpjjfaaGreatDoor
open Go

theorem decV_zero (l : List UInt8) : decV (48 :: l) = decV l := by rw [decV_cons]; simp

/-- A text in its pieces: sign and zeros a, digits n0, the point and the digits d behind it, the suffix. -/
structure Pieces (s : List UInt8) (p : Pq) (n0 : List UInt8) : Prop where
  app : s = p.value ++ p.suf
  n0dg : ∀ c ∈ n0, isDg c = true
  num : p.num = if n0 = [] then [48] else n0
  len : n0.length + p.denom.length + p.suf.length ≤ s.length
  len1 : p.denom ≠ [] → n0.length + p.denom.length + p.suf.length + 1 ≤ s.length
  head : ∀ c, p.suf.head? = some c → isDg c = false

theorem dropWhile_suffix (f : UInt8 → Bool) (l : List UInt8) : l.dropWhile f <:+ l := List.dropWhile_suffix f
theorem unsign_suffix (l : List UInt8) : unsign l <:+ l := by
  unfold unsign
  split
  · exact List.tail_suffix l
  · exact List.suffix_refl l
theorem dropW_head (f : UInt8 → Bool) (l : List UInt8) (c : UInt8) (h : (l.dropWhile f).head? = some c) : f c = false := by
  induction l with
  | nil => simp at h
  | cons a l ih =>
    rw [List.dropWhile_cons] at h
    split at h
    · exact ih h
    · rename_i ha
      simp only [List.head?_cons, Option.some.injEq] at h
      subst h
      simpa using ha

theorem split_pieces {s : List UInt8} {p : Pq} (h : splitQ s = some p) : (p.value = [48] ∧ p.num = [48] ∧ p.denom = [] ∧ p.suf = []) ∨ ∃ n0, Pieces s p n0 := by
  unfold splitQ at h
  simp only [] at h
  split at h
  · cases h
    exact Or.inl ⟨rfl, rfl, rfl, rfl⟩
  · rename_i hr1
    split at h
    · cases h
      refine Or.inr ⟨((unsign s).dropWhile zeroP).takeWhile isDg, ?_⟩
      have s1 : (unsign s).dropWhile zeroP <:+ s := (dropWhile_suffix _ _).trans (unsign_suffix s)
      generalize (unsign s).dropWhile zeroP = r1 at *
      have e1 : r1 = r1.takeWhile isDg ++ r1.dropWhile isDg := (List.takeWhile_append_dropWhile).symm
      have hl1 : r1.length = (r1.takeWhile isDg).length + (r1.dropWhile isDg).length := by
        have := congrArg List.length e1
        rwa [List.length_append] at this
      have s2 : r1.dropWhile isDg <:+ s := (dropWhile_suffix _ _).trans s1
      have hd2 := dropW_head isDg r1
      have hl0 : r1.length ≤ s.length := s1.length_le
      have htw := tw_all isDg r1
      generalize r1.takeWhile isDg = n0 at *
      generalize r1.dropWhile isDg = r2 at *
      have s3 : (fracQ r2).2 <:+ s ∧ (fracQ r2).1.length + (fracQ r2).2.length ≤ r2.length ∧ ((fracQ r2).1 ≠ [] → (fracQ r2).1.length + (fracQ r2).2.length + 1 ≤ r2.length) ∧ (∀ c, (fracQ r2).2.head? = some c → isDg c = false) := by
        unfold fracQ
        split
        · rename_i hp
          have e3 : r2.tail = r2.tail.takeWhile isDg ++ r2.tail.dropWhile isDg := (List.takeWhile_append_dropWhile).symm
          have hl3 : r2.tail.length = (r2.tail.takeWhile isDg).length + (r2.tail.dropWhile isDg).length := by
            have := congrArg List.length e3
            rwa [List.length_append] at this
          have hlt : r2.tail.length + 1 = r2.length := by
            cases r2 with
            | nil => simp at hp
            | cons a t => simp
          refine ⟨((dropWhile_suffix _ _).trans (List.tail_suffix r2)).trans s2, ?_, ?_, dropW_head isDg r2.tail⟩
          · show (r2.tail.takeWhile isDg).length + (r2.tail.dropWhile isDg).length ≤ _
            omega
          · intro _
            show (r2.tail.takeWhile isDg).length + (r2.tail.dropWhile isDg).length + 1 ≤ _
            omega
        · exact ⟨s2, by simp, by simp, hd2⟩
      obtain ⟨s3, k1, k2, k3⟩ := s3
      refine ⟨?_, htw, rfl, ?_, ?_, k3⟩
      · obtain ⟨t, ht⟩ := s3
        show s = s.take (s.length - (fracQ r2).2.length) ++ (fracQ r2).2
        rw [← ht, take_app]
      · show n0.length + (fracQ r2).1.length + (fracQ r2).2.length ≤ s.length
        omega
      · intro hne
        show n0.length + (fracQ r2).1.length + (fracQ r2).2.length + 1 ≤ s.length
        have := k2 hne
        omega
    · cases h

theorem sufQ_head {suf : List UInt8} {r : Nat × Int × Nat} (h : sufQ suf = some r) : suf = [] ∨ ∃ c t, suf = c :: t ∧ isDg c = false ∧ c ≠ 43 ∧ c ≠ 45 ∧ c ≠ 46 := by
  unfold sufQ at h
  split at h
  · rename_i r' hr
    have hm := List.mem_of_find?_eq_some hr
    have he := List.find?_some hr
    simp only [beq_iff_eq] at he
    subst he
    simp only [sufTab, List.mem_cons, List.not_mem_nil, or_false] at hm
    rcases hm with rfl | rfl | rfl | rfl | rfl | rfl | rfl | rfl | rfl | rfl | rfl | rfl | rfl | rfl | rfl | rfl
    · exact Or.inl rfl
    all_goals exact Or.inr ⟨_, _, rfl, by decide, by decide, by decide, by decide⟩
  · split at h
    · split at h
      · rename_i hc
        refine Or.inr ⟨_, _, rfl, ?_⟩
        rcases hc.1 with rfl | rfl <;> decide
      · cases h
    · cases h

theorem pow_le_TOP {n k : Nat} (h : n < 10 ^ k) (hk : k ≤ 136) : n < TOP := Nat.lt_of_lt_of_le h (Nat.pow_le_pow_right (by omega) hk)

/-- THE TEXTS THAT THE STATEMENT SPEAKS OF are such as the walk takes. -/
theorem fair_pbs {s : List UInt8} (hf : fairQ s = true) : PBs s := by
  have hlen : s.length ≤ 60 := by
    unfold fairQ at hf
    split at hf
    · cases hf
    · simp only [Bool.and_eq_true, decide_eq_true_eq] at hf; exact hf.1.2
  refine ⟨by omega, ?_⟩
  intro p b x f hp hq
  rcases split_pieces hp with ⟨e1, e2, e3, e4⟩ | ⟨n0, hP⟩
  · have h0 : sufQ [] = some (10, 0, 2) := by decide
    rw [e4, h0] at hq
    cases hq
    constructor
    case dig => rw [e1]; exact ⟨48, List.mem_singleton.2 rfl, dg48⟩
    case vlen => rw [e1]; simp
    case nlen => rw [e2]; simp
    case dlen => rw [e3]; simp
    case xlen => simp
    case elo => rw [e3]; simp
    case u => rw [e2, e3]; show 0 < TOP; exact TOP_pos
    case hi => intro _; rw [e2, e3]; show 0 * _ < TOP; rw [Nat.zero_mul]; exact TOP_pos
    case lo => intro h; rw [e3] at h; simp at h
  have hv : p.value.length + p.suf.length = s.length := by rw [hP.app]; simp
  have hdig : ∃ c ∈ p.value, isDg c = true := by
    by_cases h : ∃ c ∈ p.value, isDg c = true
    · exact h
    · exfalso
      have hno : ∀ c ∈ p.value, isDg c = false := by
        intro c hc
        cases e : isDg c with
        | false => rfl
        | true => exact (h ⟨c, hc, e⟩).elim
      unfold fairQ at hf
      rw [hP.app] at hf
      rcases sufQ_head hq with e | ⟨c, t, e, k1, k2, k3, k4⟩
      · rw [e, List.append_nil] at hf
        rcases fair_nodg p.value 0 false hno with h | ⟨p', h⟩ <;> rw [h] at hf <;> simp at hf
      · rw [e, fair_letter p.value 0 false c t hno k1 k2 k3 k4] at hf
        simp at hf
  have hsf := split_fine hp
  have hdv : decV (p.num ++ p.denom) < 10 ^ (n0.length + p.denom.length) := by
    rw [hP.num]
    by_cases h : n0 = []
    · rw [if_pos h, h, List.singleton_append, decV_zero, List.length_nil, Nat.zero_add]
      exact decV_lt _ hsf.den
    · rw [if_neg h, ← List.length_append]
      refine decV_lt _ ?_
      intro c hc
      rcases List.mem_append.1 hc with hc | hc
      · exact hP.n0dg c hc
      · exact hsf.den c hc
  have hx : x.natAbs ≤ 60 ∧ (b = 10 ∨ (b = 2 ∧ 0 ≤ x ∧ p.suf.length = 2)) ∧ (x < 0 → 1 ≤ p.suf.length) := by
    have hsl : x ≠ 0 → 1 ≤ p.suf.length := by
      intro h0
      cases e : p.suf with
      | nil =>
        have h0' : sufQ [] = some (10, 0, 2) := by decide
        rw [e, h0'] at hq
        cases hq; exact (h0 rfl).elim
      | cons c t => simp
    rcases sufQ_cases hq with ⟨h1, h2, h3⟩ | ⟨h1, h2, h3⟩ | ⟨h1, h2, c, r, h3, h4, h5⟩
    · exact ⟨by omega, Or.inl h1, fun h => hsl (by omega)⟩
    · refine ⟨by omega, Or.inr ⟨h1, by omega, ?_⟩, fun h => hsl (by omega)⟩
      subst h1 h2
      unfold sufQ at hq
      split at hq
      · rename_i r' hr
        have hm := List.mem_of_find?_eq_some hr
        have he := List.find?_some hr
        simp only [beq_iff_eq] at he
        rw [← he]
        simp only [Option.some.injEq] at hq
        simp only [sufTab, List.mem_cons, List.not_mem_nil, or_false] at hm
        rcases hm with rfl | rfl | rfl | rfl | rfl | rfl | rfl | rfl | rfl | rfl | rfl | rfl | rfl | rfl | rfl | rfl <;> first | rfl | (simp at hq)
      · split at hq
        · split at hq
          · split at hq
            · cases hq
            · cases hq
          · cases hq
        · cases hq
    · refine ⟨?_, Or.inl h1, fun h => hsl (by omega)⟩
      have : s = p.value ++ c :: r := by rw [← h3]; exact hP.app
      rw [this] at hf
      exact fair_exp h4 hf h5
  obtain ⟨hx, hb, hs⟩ := hx
  have l0 := hP.len
  have l1 := hP.len1
  have hu : decV (p.num ++ p.denom) * (if b = 10 then 1 else 2 ^ x.toNat) < 10 ^ (n0.length + p.denom.length + (if b = 10 then 0 else 19)) := by
    rcases hb with h | ⟨h1, h2, h3⟩
    · rw [if_pos h, if_pos h, Nat.mul_one]; exact hdv
    · have h10 : ¬ b = 10 := by omega
      rw [if_neg h10, if_neg h10, Nat.pow_add]
      have h60 : 2 ^ x.toNat ≤ 2 ^ 60 := Nat.pow_le_pow_right (by omega) (by omega)
      have h19 : 2 ^ 60 ≤ 10 ^ 19 := by decide
      exact Nat.lt_of_lt_of_le (Nat.mul_lt_mul_of_pos_right hdv (Nat.pow_pos (by omega))) (Nat.mul_le_mul_left _ (Nat.le_trans h60 h19))
  have hnl : p.num.length ≤ 60 := by
    rw [hP.num]; split
    · simp
    · omega
  have hd59 : p.denom.length ≤ 59 := by
    by_cases h : p.denom = []
    · rw [h]; simp
    · have := l1 h; omega
  constructor
  case dig => exact hdig
  case vlen => omega
  case nlen => omega
  case dlen => omega
  case xlen => omega
  case elo => split <;> omega
  case u => exact pow_le_TOP hu (by split <;> omega)
  case hi =>
    intro h9
    generalize (decV (p.num ++ p.denom) * if b = 10 then 1 else 2 ^ x.toNat) = u at *
    have h3 : u * 10 ^ ((if b = 10 then x else 0) - (p.denom.length : Int) + 9).toNat < 10 ^ (n0.length + p.denom.length + (if b = 10 then 0 else 19)) * 10 ^ ((if b = 10 then x else 0) - (p.denom.length : Int) + 9).toNat := Nat.mul_lt_mul_of_pos_right hu (Nat.pow_pos (by omega))
    rw [← Nat.pow_add] at h3
    exact pow_le_TOP h3 (by split <;> split at h9 <;> omega)
  case lo =>
    intro h9
    by_cases h57 : -9 - ((if b = 10 then x else 0) - (p.denom.length : Int)) ≤ 57
    · exact Or.inl h57
    · refine Or.inr (Nat.lt_of_lt_of_le hu (Nat.pow_le_pow_right (by omega) ?_))
      rcases hb with h | ⟨h1, h2, h3⟩
      · rw [if_pos h] at h57 ⊢
        rw [if_pos h]
        by_cases hden : p.denom = []
        · rw [hden] at h57 l0 ⊢
          simp only [List.length_nil, Int.natCast_zero] at *
          omega
        · have := l1 hden
          by_cases hx0 : x < 0
          · have := hs hx0; omega
          · omega
      · have h10 : ¬ b = 10 := by omega
        rw [if_neg h10] at h57
        omega
end Go.Proofs.YtcpjclakdpjjfaaGreatDoor


/-
  A part of the proof of FnQuantityAgain (texts Q3, Q4, Q5 of mine, joined).
-/
import Derived.Test.YtcpjclakdpjjfaaGreatDoorM13
namespace Go.Proofs.YtcpjclakdpjjfaaGreatDoor
open Go

theorem strip_spec (b n : Nat) (hb : 2 ≤ b) (hn : 0 < n) : n = (strip b n).1 * b ^ (strip b n).2 ∧ (strip b n).1 % b ≠ 0 ∧ 0 < (strip b n).1 := by
  induction n using Nat.strongRecOn with
  | _ n ih =>
    rw [strip]
    split
    · rename_i h
      have hd : n / b * b = n := Nat.div_mul_cancel (Nat.dvd_of_mod_eq_zero h.2.2)
      have hp : 0 < n / b := Nat.div_pos (Nat.le_of_dvd hn (Nat.dvd_of_mod_eq_zero h.2.2)) (by omega)
      obtain ⟨e1, e2, e3⟩ := ih (n / b) (Nat.div_lt_self hn hb) hp
      refine ⟨?_, e2, e3⟩
      simp only
      rw [Nat.pow_succ, ← Nat.mul_assoc, ← e1, hd]
    · rename_i h
      have : n % b ≠ 0 := fun e => h ⟨hb, hn, e⟩
      simp [this, hn]

theorem natAbs_signed (u : Int) (n : Nat) : (signed u n).natAbs = n := by unfold signed; split <;> omega
theorem signed_self (u : Int) : signed u u.natAbs = u := by unfold signed; split <;> omega
theorem signed_mul (u : Int) (m n : Nat) : signed u (m * n) = signed u m * n := by
  unfold signed; split
  · rw [Int.neg_mul, Int.natCast_mul]
  · rw [Int.natCast_mul]
theorem signed_ne (u : Int) {n : Nat} (h : 0 < n) : signed u n ≠ 0 := by unfold signed; split <;> omega

theorem pow_split10 {a b : Int} (ha : 0 ≤ a) (hb : 0 ≤ b) : (10 : Int) ^ (a + b).toNat = 10 ^ a.toNat * 10 ^ b.toNat := by
  rw [Int.toNat_add ha hb, Int.pow_add]
theorem pow10_cast (n : Nat) : ((10 ^ n : Nat) : Int) = (10 : Int) ^ n := by simp

/-- A canonical pair. -/
structure CanP (m x : Int) : Prop where
  m0 : m ≠ 0
  three : x % 3 = 0
  top : m.natAbs % 1000 ≠ 0

theorem canD_spec (u e : Int) (hu : u ≠ 0) (he : -190 ≤ e) : CanP (canD u e).1 (canD u e).2 ∧ sv (canD u e).1 (canD u e).2 = sv u e ∧ (canD u e).2 ≥ e - e % 3 ∧ (0 < (canD u e).1 ↔ 0 < u) := by
  obtain ⟨s1, s2, s3⟩ := strip_spec 10 u.natAbs (by omega) (by omega)
  unfold canD
  generalize strip 10 u.natAbs = t at *
  obtain ⟨a, k⟩ := t
  simp only at *
  have hr : ∃ r : Nat, (e + (k : Int)) % 3 = r ∧ r < 3 := ⟨((e + (k : Int)) % 3).toNat, by omega, by omega⟩
  obtain ⟨r, hr, hr3⟩ := hr
  rw [hr, Int.toNat_natCast]
  refine ⟨⟨signed_ne u (Nat.mul_pos s3 (Nat.pow_pos (by omega))), ?_, ?_⟩, ?_, ?_, ?_⟩
  · omega
  · rw [natAbs_signed]
    rcases (show r = 0 ∨ r = 1 ∨ r = 2 by omega) with rfl | rfl | rfl <;> omega
  · unfold sv
    have e1 : (10 : Int) ^ (200 + (e + ↑k - ↑r)).toNat * 10 ^ r = 10 ^ (200 + e).toNat * 10 ^ k := by
      rw [← Int.pow_add, ← Int.pow_add]
      congr 1
      omega
    rw [signed_mul, Int.mul_assoc, Int.mul_comm ((10 ^ r : Nat) : Int), pow10_cast, e1]
    rw [Int.mul_comm ((10 : Int) ^ _) (10 ^ k), ← Int.mul_assoc, ← pow10_cast k, ← signed_mul, ← s1, signed_self]
  · omega
  · unfold signed
    have : 0 < a * 10 ^ r := Nat.mul_pos s3 (Nat.pow_pos (by omega))
    split <;> omega

theorem CanP.uniq {m x m' x' : Int} (h : CanP m x) (h' : CanP m' x') (hx : -200 ≤ x) (hx' : -200 ≤ x') (e : sv m x = sv m' x') : m = m' ∧ x = x' := by
  have key : ∀ {m x m' x' : Int}, CanP m x → CanP m' x' → -200 ≤ x → x ≤ x' → sv m x = sv m' x' → m = m' ∧ x = x' := by
    intro m x m' x' h h' hx hle e
    unfold sv at e
    obtain ⟨d, hd⟩ : ∃ d : Nat, x' = x + 3 * d := ⟨((x' - x) / 3).toNat, by have := h.three; have := h'.three; omega⟩
    have e1 : (200 + x').toNat = (200 + x).toNat + 3 * d := by omega
    rw [e1, Int.pow_add, Int.mul_comm (10 ^ _) (10 ^ (3 * d)), ← Int.mul_assoc] at e
    have hp : (10 : Int) ^ (200 + x).toNat ≠ 0 := by rw [← pow10_cast]; have : 0 < 10 ^ (200 + x).toNat := Nat.pow_pos (by omega); omega
    have e2 : m = m' * 10 ^ (3 * d) := Int.eq_of_mul_eq_mul_right hp e
    cases d with
    | zero => simp at e2 hd; exact ⟨e2, hd.symm⟩
    | succ d =>
      exfalso
      apply h.top
      rw [e2, Int.natAbs_mul, ← pow10_cast, Int.natAbs_natCast, Nat.mul_add, Nat.pow_add, Nat.mul_one]
      have : (10 : Nat) ^ 3 = 1000 := by decide
      rw [this, ← Nat.mul_assoc, Nat.mul_mod_left]
  by_cases hle : x ≤ x'
  · exact key h h' hx hle e
  · obtain ⟨a, b⟩ := key h' h hx' (by omega) e.symm
    exact ⟨a.symm, b.symm⟩

theorem canD_uniq {u e u' e' : Int} (hu : u ≠ 0) (hu' : u' ≠ 0) (he : -190 ≤ e) (he' : -190 ≤ e') (h : sv u e = sv u' e') : canD u e = canD u' e' := by
  obtain ⟨a1, a2, a3, _⟩ := canD_spec u e hu he
  obtain ⟨b1, b2, b3, _⟩ := canD_spec u' e' hu' he'
  obtain ⟨c1, c2⟩ := a1.uniq b1 (by omega) (by omega) (by rw [a2, b2, h])
  exact Prod.ext c1 c2

/-! Numbers read again. -/
theorem parseU_ok (M : Nat) (hM : M < 18446744073709551616) : ∀ (l : List UInt8) (acc : Nat), (∀ c ∈ l, isDg c = true) → acc * 10 ^ l.length + decV l ≤ M → Lib.parseUintM M acc l = .ok (acc * 10 ^ l.length + decV l)
  | [], acc, _, _ => by simp [Lib.parseUintM, decV]
  | c :: l, acc, h, hle => by
    have hc := h c (by simp)
    simp only [isDg, decide_eq_true_eq] at hc
    have e : acc * 10 ^ (c :: l).length + decV (c :: l) = (acc * 10 + (c.toNat - 48)) * 10 ^ l.length + decV l := by
      rw [decV_cons, List.length_cons, Nat.pow_succ, Nat.add_mul, Nat.mul_comm (10 ^ l.length) 10, ← Nat.mul_assoc, Nat.add_assoc]
    rw [e] at hle ⊢
    have hp : 0 < 10 ^ l.length := Nat.pow_pos (by omega)
    have h1 : acc * 10 + (c.toNat - 48) ≤ (acc * 10 + (c.toNat - 48)) * 10 ^ l.length := Nat.le_mul_of_pos_right _ hp
    unfold Lib.parseUintM
    rw [if_pos hc, if_neg (by omega), if_neg (by omega)]
    exact parseU_ok M hM l _ (fun x hx => h x (by simp [hx])) hle

theorem parseI_dec (n : Nat) (h : n < 9223372036854775808) : Lib.parseIntB 64 (Lib.decDigits n) = .ok (n : Int) := by
  have hu := parseU_ok (2 ^ 64 - 1) (by decide) (Lib.decDigits n) 0 (dec_dg n) (by rw [decV_dec]; omega)
  rw [decV_dec, Nat.zero_mul, Nat.zero_add] at hu
  have hd := dec_dg n
  have hne := dec_ne n
  generalize Lib.decDigits n = l at *
  cases l with
  | nil => exact (hne rfl).elim
  | cons c r =>
    have hc := hd c (by simp)
    simp only [isDg, decide_eq_true_eq] at hc
    unfold Lib.parseIntB Lib.parseUintB
    simp only [if_neg (show ¬ (c.toNat = 43 ∨ c.toNat = 45) by omega), reduceCtorEq, if_false, hu]
    rw [if_neg (by omega), if_neg (by omega), if_neg (by omega)]
theorem parseI_neg (n : Nat) (h : n < 9223372036854775808) : Lib.parseIntB 64 (45 :: Lib.decDigits n) = .ok (-(n : Int)) := by
  have hu := parseU_ok (2 ^ 64 - 1) (by decide) (Lib.decDigits n) 0 (dec_dg n) (by rw [decV_dec]; omega)
  rw [decV_dec, Nat.zero_mul, Nat.zero_add] at hu
  have hne := dec_ne n
  generalize Lib.decDigits n = l at *
  unfold Lib.parseIntB Lib.parseUintB
  have e45 : (45 : UInt8).toNat = 45 := rfl
  simp only [e45, or_true, if_true, if_neg hne, hu]
  rw [if_neg (by omega), if_neg (by omega)]
theorem parseI_itoa (x : Int) (h : x.natAbs < 9223372036854775808) : Lib.parseIntB 64 (Lib.itoa x) = .ok x := by
  by_cases h0 : 0 ≤ x
  · obtain ⟨n, rfl⟩ : ∃ n : Nat, x = n := ⟨x.toNat, by omega⟩
    rw [itoa_pos]; exact parseI_dec n (by omega)
  · obtain ⟨n, rfl⟩ : ∃ n : Nat, x = -(n : Int) := ⟨(-x).toNat, by omega⟩
    rw [itoa_neg n (by omega)]; exact parseI_neg n (by omega)

/-! Suffixes. -/
theorem sufFine_of {suf : List UInt8} (h : (suf.head?.all (fun c => !isDg c) && decide (suf.head? ≠ some 46) && sufOk suf) = true) : SufFine suf := by
  simp only [Bool.and_eq_true, decide_eq_true_eq] at h
  refine ⟨?_, h.1.2, h.2⟩
  intro c hc
  have := h.1.1
  rw [hc] at this
  simpa using this

theorem dsuf2 (x : Int) (h3 : x % 3 = 0) (h1 : -9 ≤ x) (h2 : x ≤ 18) : SufFine (dsuf 2 x) ∧ sufQ (dsuf 2 x) = some (10, x, 2) := by
  rcases (show x = -9 ∨ x = -6 ∨ x = -3 ∨ x = 0 ∨ x = 3 ∨ x = 6 ∨ x = 9 ∨ x = 12 ∨ x = 15 ∨ x = 18 by omega) with rfl | rfl | rfl | rfl | rfl | rfl | rfl | rfl | rfl | rfl
  all_goals exact ⟨sufFine_of (by decide), by decide⟩

theorem itoa_head (x : Int) : ∃ c r, Lib.itoa x = c :: r ∧ isSuf c = false ∧ (unsign (Lib.itoa x)).dropWhile isDg = [] := by
  have hd : ∀ n, (Lib.decDigits n).dropWhile isDg = [] := by
    intro n
    have := (takeW isDg (Lib.decDigits n) [] (dec_dg n) (by simp)).2
    simpa using this
  have key : ∀ n c r, Lib.decDigits n = c :: r → 48 ≤ c.toNat ∧ c.toNat ≤ 57 := by
    intro n c r e
    have := dec_dg n c (by rw [e]; simp)
    simpa [isDg] using this
  have sfx : ∀ c : UInt8, 48 ≤ c.toNat → c.toNat ≤ 57 → isSuf c = false := by
    intro c h1 h2
    simp only [isSuf, List.contains_eq_any_beq, List.any_cons, List.any_nil, Bool.or_false, Bool.or_eq_false_iff, beq_eq_false_iff_ne]
    refine ⟨?_, ?_, ?_, ?_, ?_, ?_, ?_, ?_, ?_, ?_, ?_, ?_⟩ <;> (rintro rfl; simp at h1 h2)
  by_cases h0 : 0 ≤ x
  · obtain ⟨n, rfl⟩ : ∃ n : Nat, x = n := ⟨x.toNat, by omega⟩
    rw [itoa_pos]
    cases e : Lib.decDigits n with
    | nil => exact (dec_ne n e).elim
    | cons c r =>
      obtain ⟨k1, k2⟩ := key n c r e
      refine ⟨c, r, rfl, sfx c k1 k2, ?_⟩
      rw [← e]
      unfold unsign
      rw [if_neg]
      · exact hd n
      · rw [e]
        rintro (h | h) <;> (simp only [List.head?_cons, Option.some.injEq] at h; subst h; simp at k1)
  · obtain ⟨n, rfl⟩ : ∃ n : Nat, x = -(n : Int) := ⟨(-x).toNat, by omega⟩
    rw [itoa_neg n (by omega)]
    refine ⟨45, _, rfl, by decide, ?_⟩
    unfold unsign
    rw [if_pos (by simp)]
    exact hd n

theorem dsuf0 (x : Int) (h0 : x ≠ 0) (h : x.natAbs < 9223372036854775808) : SufFine (dsuf 0 x) ∧ sufQ (dsuf 0 x) = some (10, x, 0) := by
  have e : dsuf 0 x = 101 :: Lib.itoa x := by unfold dsuf; rw [if_neg (by omega), if_neg h0]
  rw [e]
  obtain ⟨c, r, e2, e3, e4⟩ := itoa_head x
  constructor
  · refine ⟨by intro c hc; cases hc; rfl, by simp, ?_⟩
    unfold sufOk
    have e5 : (101 :: Lib.itoa x).dropWhile isSuf = Lib.itoa x := by
      rw [List.dropWhile_cons_of_pos (by decide), e2, List.dropWhile_cons_of_neg (by simp [e3])]
    rw [e5, e4]; rfl
  · unfold sufQ
    have e6 : sufTab.find? (fun r => r.1 == 101 :: Lib.itoa x) = none := by
      rw [List.find?_eq_none]
      intro r hr
      simp only [sufTab, List.mem_cons, List.not_mem_nil, or_false] at hr
      rcases hr with rfl | rfl | rfl | rfl | rfl | rfl | rfl | rfl | rfl | rfl | rfl | rfl | rfl | rfl | rfl | rfl <;> simp
    rw [e6]
    simp only [parseI_itoa x h]
    rw [if_pos ⟨by simp, by rw [e2]; simp⟩]
end Go.Proofs.YtcpjclakdpjjfaaGreatDoor

namespace Go.Proofs.YtcpjclakdpjjfaaGreatDoor
open Go

theorem sgn_if (m : Int) (k : Nat) : (if decide (0 < m) = true then ((m.natAbs * k : Nat) : Int) else -((m.natAbs * k : Nat) : Int)) = m * k := by
  by_cases h : 0 < m
  · rw [if_pos (by simpa using h), Int.natCast_mul]; congr 1; omega
  · rw [if_neg (by simpa using h), Int.natCast_mul, ← Int.neg_mul]; congr 1; omega

theorem sv_zero (u : Int) : sv u 0 = u * 10 ^ 200 := rfl
theorem sv_nano (u : Int) (x : Int) (hx : -9 ≤ x) : sv (u * 10 ^ (x + 9).toNat) (-9) = sv u x := by
  unfold sv
  rw [Int.mul_assoc, ← Int.pow_add]
  congr 2
  omega

/-- What the canonical text of a decimal number is read as. -/
theorem make_dec (s v : List UInt8) (m x : Int) (suf : List UInt8) (f : Nat) (hm : m ≠ 0) (hx : -9 ≤ x) (hf : f ≠ 1) :
    (makeQ s ⟨decide (0 < m), v, Lib.decDigits m.natAbs, [], suf⟩ 10 x f).v = sv m x ∧ (makeQ s ⟨decide (0 < m), v, Lib.decDigits m.natAbs, [], suf⟩ 10 x f).u ≠ 0 ∧
    -9 ≤ (makeQ s ⟨decide (0 < m), v, Lib.decDigits m.natAbs, [], suf⟩ 10 x f).e ∧ (makeQ s ⟨decide (0 < m), v, Lib.decDigits m.natAbs, [], suf⟩ 10 x f).fmt = f := by
  unfold makeQ
  simp only [List.append_nil, decV_dec, List.length_nil, Int.natCast_zero, Int.sub_zero, if_true, Nat.mul_one]
  split
  · have := sgn_if m 1
    simp only [Nat.mul_one, Int.natCast_one, Int.mul_one] at this
    simp only [MQ.v, this]
    exact ⟨by trivial, hm, hx, by trivial⟩
  · unfold slowQ
    rw [if_neg (by omega)]
    simp only []
    rw [if_neg (by omega)]
    have e : nanoN m.natAbs x = m.natAbs * 10 ^ (x + 9).toNat := by unfold nanoN; rw [if_pos hx]
    have := sgn_if m (10 ^ (x + 9).toNat)
    simp only [MQ.v, e, this]
    rw [if_neg (by omega), pow10_cast]
    refine ⟨sv_nano _ _ hx, ?_, by omega, rfl⟩
    exact Int.mul_ne_zero hm (by rw [← pow10_cast]; have : 0 < 10 ^ (x + 9).toNat := Nat.pow_pos (by omega); omega)

theorem make_bin (s v : List UInt8) (m : Int) (k : Nat) (suf : List UInt8) (hm : m ≠ 0) (hb : m.natAbs * 2 ^ k ≤ maxQ) :
    (makeQ s ⟨decide (0 < m), v, Lib.decDigits m.natAbs, [], suf⟩ 2 (k : Int) 1).v = sv (m * 2 ^ k) 0 ∧ (makeQ s ⟨decide (0 < m), v, Lib.decDigits m.natAbs, [], suf⟩ 2 (k : Int) 1).u ≠ 0 ∧
    -9 ≤ (makeQ s ⟨decide (0 < m), v, Lib.decDigits m.natAbs, [], suf⟩ 2 (k : Int) 1).e ∧ (makeQ s ⟨decide (0 < m), v, Lib.decDigits m.natAbs, [], suf⟩ 2 (k : Int) 1).fmt = 1 := by
  have h2 : ((2 ^ k : Nat) : Int) = (2 : Int) ^ k := by simp
  have hp : 0 < 2 ^ k := Nat.pow_pos (by omega)
  have hu : m * ((2 ^ k : Nat) : Int) ≠ 0 := Int.mul_ne_zero hm (by omega)
  unfold makeQ
  simp only [List.append_nil, decV_dec, List.length_nil, Int.natCast_zero, Int.sub_zero, Int.toNat_natCast, if_neg (show ¬ (2 : Nat) = 10 by decide)]
  split
  · have := sgn_if m (2 ^ k)
    simp only [MQ.v, this]
    rw [← h2]
    exact ⟨by trivial, hu, by omega, by trivial⟩
  · have hn : 0 < m.natAbs * 2 ^ k := Nat.mul_pos (by omega) hp
    unfold slowQ
    rw [if_neg (by omega)]
    simp only []
    have e : nanoN (m.natAbs * 2 ^ k) 0 = m.natAbs * 2 ^ k * 10 ^ 9 := by unfold nanoN; rw [if_pos (by omega)]; rfl
    rw [e]
    have h9 : m.natAbs * 2 ^ k * 10 ^ 9 ≤ maxQ * 10 ^ 9 := Nat.mul_le_mul_right _ hb
    have h10 : 1 * 10 ^ 9 ≤ m.natAbs * 2 ^ k * 10 ^ 9 := Nat.mul_le_mul_right _ hn
    have g1 : ¬ (True ∧ maxQ * 10 ^ 9 < m.natAbs * 2 ^ k * 10 ^ 9) := fun h => Nat.not_lt.2 h9 h.2
    have g2 : ¬ (True ∧ m.natAbs * 2 ^ k * 10 ^ 9 < 10 ^ 9) := fun h => by rw [Nat.one_mul] at h10; exact Nat.not_lt.2 h10 h.2
    rw [if_neg g1, if_neg g2]
    have := sgn_if m (2 ^ k * 10 ^ 9)
    rw [← Nat.mul_assoc] at this
    simp only [MQ.v]
    rw [this, Int.natCast_mul (2 ^ k), ← Int.mul_assoc, ← h2]
    refine ⟨?_, ?_, by omega, by trivial⟩
    · have := sv_nano (m * ((2 ^ k : Nat) : Int)) 0 (by omega)
      rw [← this, pow10_cast]; rfl
    · exact Int.mul_ne_zero hu (by decide)

/-- What is known of a quantity other than 0 that was read. -/
structure Fine (q : MQ) : Prop where
  u0 : q.u ≠ 0
  lo : -9 ≤ q.e
  f2 : q.fmt ≤ 2
  hi : q.fmt ≠ 0 → q.v.natAbs ≤ maxQ * 10 ^ 200
  top : q.v.natAbs < 10 ^ 500

theorem sv_abs (m x : Int) : (sv m x).natAbs = m.natAbs * 10 ^ (200 + x).toNat := by
  unfold sv
  rw [Int.natAbs_mul, ← pow10_cast, Int.natAbs_natCast]

theorem exp_le {m x : Int} {K : Nat} (hm : m ≠ 0) (h : (sv m x).natAbs < 10 ^ (200 + K)) : x < K := by
  rw [sv_abs] at h
  have h1 : 1 * 10 ^ (200 + x).toNat ≤ m.natAbs * 10 ^ (200 + x).toNat := Nat.mul_le_mul_right _ (by omega)
  rw [Nat.one_mul] at h1
  have h2 := (Nat.pow_lt_pow_iff_right (show 1 < 10 by decide)).1 (Nat.lt_of_le_of_lt h1 h)
  omega

theorem maxQ_lt : maxQ * 10 ^ 200 < 10 ^ (200 + 19) := by
  rw [Nat.pow_add, Nat.mul_comm]
  exact Nat.mul_lt_mul_of_pos_left (by unfold maxQ; decide) (Nat.pow_pos (by omega))

/-- The canonical text of a number told by powers of ten, read again. -/
theorem again_dec (q : MQ) (h : Fine q) (hb : isBin q = false) :
    ∃ q', parseQ (canon q) = .ok q' ∧ q'.v = q.v ∧ q'.u ≠ 0 ∧ -9 ≤ q'.e ∧ (q'.fmt = 2 ∨ (q'.fmt = 0 ∧ q.fmt = 0)) ∧ canon q' = canon q := by
  obtain ⟨c1, c2, c3, c4⟩ := canD_spec q.u q.e h.u0 (by have := h.lo; omega)
  have hc : canon q = Lib.itoa (canD q.u q.e).1 ++ dsuf (if q.fmt = 0 then 0 else 2) (canD q.u q.e).2 := by
    unfold canon
    rw [if_neg h.u0, if_neg (by simp [hb])]
  have hx9 : -9 ≤ (canD q.u q.e).2 := by have := h.lo; omega
  have hx5 : (canD q.u q.e).2 < (300 : Nat) := exp_le (K := 300) c1.m0 (by rw [c2, show (200 + 300 : Nat) = 500 from rfl]; exact h.top)
  have hx19 : q.fmt ≠ 0 → (canD q.u q.e).2 ≤ 18 := fun hf => by
    have := exp_le (K := 19) c1.m0 (by rw [c2]; exact Nat.lt_of_le_of_lt (h.hi hf) maxQ_lt)
    have := c1.three
    omega
  have hsuf : ∃ f, SufFine (dsuf (if q.fmt = 0 then 0 else 2) (canD q.u q.e).2) ∧ sufQ (dsuf (if q.fmt = 0 then 0 else 2) (canD q.u q.e).2) = some (10, (canD q.u q.e).2, f) ∧ (f = 2 ∨ (f = 0 ∧ q.fmt = 0)) ∧
      dsuf (if q.fmt = 0 then 0 else 2) (canD q.u q.e).2 = dsuf f (canD q.u q.e).2 := by
    by_cases hf : q.fmt = 0
    · rw [if_pos hf]
      by_cases hx : (canD q.u q.e).2 = 0
      · rw [hx]
        exact ⟨2, sufFine_of (by decide), by decide, Or.inl rfl, by decide⟩
      · obtain ⟨d1, d2⟩ := dsuf0 _ hx (by omega)
        exact ⟨0, d1, d2, Or.inr ⟨rfl, hf⟩, rfl⟩
    · rw [if_neg hf]
      obtain ⟨d1, d2⟩ := dsuf2 _ c1.three hx9 (hx19 hf)
      exact ⟨2, d1, d2, Or.inl rfl, rfl⟩
  obtain ⟨f, f1, f2, f3, f4⟩ := hsuf
  have hp := parse_text _ c1.m0 _ f1 10 _ f f2
  rw [← hc] at hp
  obtain ⟨k1, k2, k3, k4⟩ := make_dec (canon q) (Lib.itoa (canD q.u q.e).1) (canD q.u q.e).1 (canD q.u q.e).2 (dsuf (if q.fmt = 0 then 0 else 2) (canD q.u q.e).2) f c1.m0 hx9 (by omega)
  generalize makeQ (canon q) _ 10 (canD q.u q.e).2 f = q' at *
  refine ⟨q', hp, k1.trans c2, k2, k3, by rw [k4]; exact f3, ?_⟩
  have hv : sv q'.u q'.e = sv q.u q.e := k1.trans c2
  have hu := canD_uniq k2 h.u0 (by omega) (by have := h.lo; omega) hv
  have hb' : isBin q' = false := by unfold isBin; rw [k4, decide_eq_false]; omega
  rw [hc, f4]
  unfold canon
  rw [if_neg k2, if_neg (by simp [hb']), hu, k4]
  rcases f3 with rfl | ⟨rfl, _⟩ <;> rfl

theorem bsuf_fine (k : Nat) (h : k ≤ 6) (hk : k ≠ 0) : SufFine (bsuf k) ∧ sufQ (bsuf k) = some (2, ((10 * k : Nat) : Int), 1) := by
  rcases (show k = 1 ∨ k = 2 ∨ k = 3 ∨ k = 4 ∨ k = 5 ∨ k = 6 by omega) with rfl | rfl | rfl | rfl | rfl | rfl
  all_goals exact ⟨sufFine_of (by decide), by decide⟩

/-- The canonical text of a number told by powers of 1024, read again. -/
theorem again_bin (q : MQ) (h : Fine q) (hb : isBin q = true) :
    ∃ q', parseQ (canon q) = .ok q' ∧ q'.v = q.v ∧ q'.u ≠ 0 ∧ -9 ≤ q'.e ∧ (q'.fmt = 2 ∨ q'.fmt = 1) := by
  unfold isBin at hb
  simp only [decide_eq_true_eq] at hb
  obtain ⟨b1, b2, b3⟩ := hb
  have hv : q.v = q.v / 10 ^ 200 * 10 ^ 200 := (Int.ediv_mul_cancel (Int.dvd_of_emod_eq_zero b3)).symm
  obtain ⟨n, hn⟩ : ∃ n, n = q.v / 10 ^ 200 := ⟨_, rfl⟩
  have hc : canon q = Lib.itoa (signed n (strip 1024 n.natAbs).1) ++ bsuf (strip 1024 n.natAbs).2 := by
    unfold canon
    rw [if_neg h.u0, if_pos (by unfold isBin; exact decide_eq_true ⟨b1, b2, b3⟩), ← hn]
  rw [← hn] at hv
  have hp10 : (10 : Int) ^ 200 = ((10 ^ 200 : Nat) : Int) := (pow10_cast 200).symm
  have habs : q.v.natAbs = n.natAbs * 10 ^ 200 := by rw [hv, Int.natAbs_mul, hp10, Int.natAbs_natCast]
  have h200 : 0 < 10 ^ 200 := Nat.pow_pos (by omega)
  have hn0 : n.natAbs ≠ 0 := by
    intro e
    rw [habs, e, Nat.zero_mul] at b2
    have : 0 < 10 ^ 200 * 1024 := by omega
    omega
  have hmax : n.natAbs ≤ maxQ := by
    have := h.hi (by omega)
    rw [habs] at this
    exact Nat.le_of_mul_le_mul_right this h200
  obtain ⟨s1, s2, s3⟩ := strip_spec 1024 n.natAbs (by omega) (by omega)
  generalize strip 1024 n.natAbs = t at *
  obtain ⟨a, k⟩ := t
  simp only at *
  have hk : k ≤ 6 := by
    by_cases hk : k ≤ 6
    · exact hk
    · exfalso
      have h7 : 1024 ^ 7 ≤ 1024 ^ k := Nat.pow_le_pow_right (by omega) (by omega)
      have : 1 * 1024 ^ k ≤ a * 1024 ^ k := Nat.mul_le_mul_right _ s3
      have e7 : 1024 ^ 7 = 1180591620717411303424 := by decide
      rw [← s1] at this
      unfold maxQ at hmax
      omega
  have hm : signed n a ≠ 0 := signed_ne n s3
  have hval : signed n a * (2 : Int) ^ (10 * k) = n := by
    have e1 : (2 : Int) ^ (10 * k) = ((1024 ^ k : Nat) : Int) := by
      rw [Int.pow_mul]; simp
    rw [e1, ← signed_mul, ← s1, signed_self]
  by_cases hk0 : k = 0
  · subst hk0
    have hp := parse_text (signed n a) hm (bsuf 0) (sufFine_of (by decide)) 10 0 2 (by decide)
    rw [← hc] at hp
    obtain ⟨k1, k2, k3, k4⟩ := make_dec (canon q) (Lib.itoa (signed n a)) (signed n a) 0 (bsuf 0) 2 hm (by omega) (by omega)
    refine ⟨_, hp, ?_, k2, k3, Or.inl k4⟩
    rw [k1, hv]
    simp only [Nat.mul_zero, Int.pow_zero, Int.mul_one] at hval
    rw [hval, sv_zero]
  · obtain ⟨f1, f2⟩ := bsuf_fine k hk hk0
    have hp := parse_text (signed n a) hm (bsuf k) f1 2 _ 1 f2
    rw [← hc] at hp
    have e2 : a * 2 ^ (10 * k) = n.natAbs := by
      rw [Nat.pow_mul, s1]
    obtain ⟨k1, k2, k3, k4⟩ := make_bin (canon q) (Lib.itoa (signed n a)) (signed n a) (10 * k) (bsuf k) hm (by rw [natAbs_signed, e2]; exact hmax)
    refine ⟨_, hp, ?_, k2, k3, Or.inr k4⟩
    rw [k1, hval, sv_zero, hv]
end Go.Proofs.YtcpjclakdpjjfaaGreatDoor

namespace Go.Proofs.YtcpjclakdpjjfaaGreatDoor
open Go

theorem tw_all (p : UInt8 → Bool) (l : List UInt8) : ∀ c ∈ l.takeWhile p, p c = true := by
  induction l with
  | nil => simp
  | cons c l ih =>
    intro d hd
    rw [List.takeWhile_cons] at hd
    split at hd
    · rename_i h
      rcases List.mem_cons.1 hd with rfl | hd
      · exact h
      · exact ih d hd
    · simp at hd
theorem dg48 : isDg 48 = true := by decide

/-- What a split text's digits are. -/
structure SplitFine (s : List UInt8) (p : Pq) : Prop where
  num : ∀ c ∈ p.num, isDg c = true
  den : ∀ c ∈ p.denom, isDg c = true
  ne : p.num ≠ []

theorem fracQ_dg (r : List UInt8) : ∀ c ∈ (fracQ r).1, isDg c = true := by
  unfold fracQ
  split
  · exact tw_all _ _
  · simp

theorem split_fine {s : List UInt8} {p : Pq} (h : splitQ s = some p) : SplitFine s p := by
  unfold splitQ at h
  simp only [] at h
  split at h
  · cases h
    exact ⟨by intro c hc; simp only [List.mem_singleton] at hc; subst hc; exact dg48, by simp, by simp⟩
  · split at h
    · cases h
      refine ⟨?_, fracQ_dg _, ?_⟩
      · show ∀ c ∈ (if List.takeWhile isDg _ = [] then [48] else _), _
        split
        · intro c hc; simp only [List.mem_singleton] at hc; subst hc; exact dg48
        · exact tw_all _ _
      · show (if List.takeWhile isDg _ = [] then ([48] : List UInt8) else _) ≠ []
        split
        · simp
        · rename_i h; exact h
    · cases h

theorem sufQ_cases {suf : List UInt8} {b : Nat} {x : Int} {f : Nat} (h : sufQ suf = some (b, x, f)) :
    (b = 10 ∧ f = 2 ∧ -9 ≤ x ∧ x ≤ 18) ∨ (b = 2 ∧ f = 1 ∧ (x = 10 ∨ x = 20 ∨ x = 30 ∨ x = 40 ∨ x = 50 ∨ x = 60)) ∨ (b = 10 ∧ f = 0 ∧ ∃ c r, suf = c :: r ∧ (c = 69 ∨ c = 101) ∧ Lib.parseIntB 64 r = .ok x) := by
  unfold sufQ at h
  split at h
  · rename_i r hr
    have hm := List.mem_of_find?_eq_some hr
    simp only [sufTab, List.mem_cons, List.not_mem_nil, or_false] at hm
    have h := Option.some.inj h
    rcases hm with rfl | rfl | rfl | rfl | rfl | rfl | rfl | rfl | rfl | rfl | rfl | rfl | rfl | rfl | rfl | rfl <;>
      (simp only [Prod.mk.injEq] at h; obtain ⟨rfl, rfl, rfl⟩ := h; simp)
  · split at h
    · rename_i c r
      split at h
      · rename_i hc
        split at h
        · rename_i v hv
          cases h
          exact Or.inr (Or.inr ⟨rfl, rfl, _, _, rfl, hc.1, hv⟩)
        · cases h
      · cases h
    · cases h

theorem nano_pos {u : Nat} (hu : 0 < u) (e : Int) : 0 < nanoN u e := by
  unfold nanoN
  split
  · exact Nat.mul_pos hu (Nat.pow_pos (by omega))
  · unfold ceilDiv
    split
    · rename_i h
      generalize 10 ^ (-9 - e).toNat = t at *
      have := Nat.div_add_mod u t
      generalize u / t = v at *
      cases v with
      | zero => rw [h] at this; simp at this; omega
      | succ v => exact Nat.succ_pos _
    · exact Nat.succ_pos _

theorem bin_fits {dv n x : Nat} (hd : dv < 10 ^ n) (hx : x = 10 ∨ x = 20 ∨ x = 30 ∨ x = 40 ∨ x = 50 ∨ x = 60) (hp : 0 ≤ (15 : Int) - n - (x : Int) * 3 / 10 - 1) : dv * 2 ^ x ≤ maxQ := by
  have key : ∀ k, n ≤ k → 10 ^ k * 2 ^ x ≤ maxQ → dv * 2 ^ x ≤ maxQ := by
    intro k hk h
    have h1 : 10 ^ n ≤ 10 ^ k := Nat.pow_le_pow_right (by omega) hk
    exact Nat.le_trans (Nat.mul_le_mul_right _ (by omega)) h
  rcases hx with rfl | rfl | rfl | rfl | rfl | rfl
  · exact key 11 (by omega) (by unfold maxQ; decide)
  · exact key 8 (by omega) (by unfold maxQ; decide)
  · exact key 5 (by omega) (by unfold maxQ; decide)
  · exact key 2 (by omega) (by unfold maxQ; decide)
  · exact key 0 (by omega) (by unfold maxQ; decide)
  · omega

theorem slow_fine (pos : Bool) (u : Nat) (e : Int) (f : Nat) (hf : f ≤ 2) (hu : (slowQ pos u e f).u ≠ 0) : -9 ≤ (slowQ pos u e f).e ∧ (slowQ pos u e f).fmt ≤ 2 ∧ ((slowQ pos u e f).fmt = 1 → (slowQ pos u e f).v.natAbs ≤ maxQ * 10 ^ 200) := by
  by_cases hu0 : u = 0
  · exfalso
    apply hu
    unfold slowQ
    rw [if_pos hu0]
  by_cases hcap : f = 1 ∧ maxQ * 10 ^ 9 < nanoN u e
  · have e1 : slowQ pos u e f = ⟨true, if pos then maxQ else -maxQ, 0, 1, []⟩ := by unfold slowQ; rw [if_neg hu0]; simp only []; rw [if_pos hcap]
    rw [e1]
    refine ⟨by simp, by simp, ?_⟩
    intro _
    simp only [MQ.v, sv_abs]
    have : (if pos = true then (maxQ : Int) else -(maxQ : Int)).natAbs = maxQ := by split <;> omega
    rw [this]
    exact Nat.le_refl _
  · have e1 : slowQ pos u e f = ⟨true, if pos then (nanoN u e : Int) else -(nanoN u e : Int), -9, if f = 1 ∧ nanoN u e < 10 ^ 9 then 2 else f, []⟩ := by unfold slowQ; rw [if_neg hu0]; simp only []; rw [if_neg hcap]
    rw [e1]
    refine ⟨by simp, ?_, ?_⟩
    · show (if f = 1 ∧ nanoN u e < 10 ^ 9 then 2 else f) ≤ 2
      split <;> omega
    · intro hf1
      have hf1 : f = 1 := by
        by_cases h : f = 1
        · exact h
        · simp only [h, false_and, if_false] at hf1
      simp only [MQ.v, sv_abs]
      have : (if pos = true then (nanoN u e : Int) else -(nanoN u e : Int)).natAbs = nanoN u e := by split <;> omega
      rw [this]
      have h1 : nanoN u e ≤ maxQ * 10 ^ 9 := by
        by_cases h : nanoN u e ≤ maxQ * 10 ^ 9
        · exact h
        · exact (hcap ⟨hf1, Nat.lt_of_not_le h⟩).elim
      have e2 : (10 : Nat) ^ 200 = 10 ^ 9 * 10 ^ (200 + (-9) : Int).toNat := by rw [← Nat.pow_add]; rfl
      rw [e2, ← Nat.mul_assoc]
      exact Nat.mul_le_mul_right _ h1

theorem makeQ_eq (s : List UInt8) (p : Pq) (b : Nat) (x : Int) (f : Nat) : makeQ s p b x f =
    if 0 ≤ precQ b x p.num p.denom ∧ -9 ≤ ((if b = 10 then x else 0) - (p.denom.length : Int)) then ⟨false, if p.pos then (decV (p.num ++ p.denom) * (if b = 10 then 1 else 2 ^ x.toNat) : Nat) else -((decV (p.num ++ p.denom) * (if b = 10 then 1 else 2 ^ x.toNat) : Nat) : Int), ((if b = 10 then x else 0) - (p.denom.length : Int)), f, if keepQ b x ((if b = 10 then x else 0) - (p.denom.length : Int)) p.num p.denom then s else []⟩
    else slowQ p.pos (decV (p.num ++ p.denom) * (if b = 10 then 1 else 2 ^ x.toNat)) ((if b = 10 then x else 0) - (p.denom.length : Int)) f := rfl

/-- What was read, other than 0. -/
theorem parse_fine {s : List UInt8} {q : MQ} (h : parseQ s = .ok q) (hu : q.u ≠ 0) : -9 ≤ q.e ∧ q.fmt ≤ 2 ∧ (q.fmt = 1 → q.v.natAbs ≤ maxQ * 10 ^ 200) := by
  unfold parseQ at h
  split at h
  · cases h
  split at h
  · cases h; exact (hu rfl).elim
  split at h
  · cases h
  rename_i p hp
  have hs := split_fine hp
  split at h
  · cases h
  rename_i b x f hq
  cases h
  have hc := sufQ_cases hq
  have hf : f ≤ 2 := by rcases hc with ⟨_, h, _⟩ | ⟨_, h, _⟩ | ⟨_, h, _⟩ <;> omega
  have hb : f = 1 → b = 2 ∧ (x = 10 ∨ x = 20 ∨ x = 30 ∨ x = 40 ∨ x = 50 ∨ x = 60) := by
    intro e; rcases hc with ⟨_, h, _⟩ | ⟨h0, h, h1⟩ | ⟨_, h, _⟩
    · omega
    · exact ⟨h0, h1⟩
    · omega
  clear hc
  rw [makeQ_eq] at hu ⊢
  generalize hsc : ((if b = 10 then x else 0) - (p.denom.length : Int)) = e at *
  by_cases hpr : 0 ≤ precQ b x p.num p.denom ∧ -9 ≤ e
  · rw [if_pos hpr]
    refine ⟨hpr.2, hf, ?_⟩
    intro e1
    obtain ⟨rfl, hx⟩ := hb e1
    have hden : p.denom = [] := by
      have := hpr.1
      unfold precQ at this
      rw [if_neg (by decide)] at this
      by_cases hd : p.denom = []
      · exact hd
      · rw [if_neg hd] at this; omega
    have hpr1 := hpr.1
    unfold precQ at hpr1
    rw [if_neg (by decide), if_pos hden] at hpr1
    obtain ⟨k, rfl⟩ : ∃ k : Nat, x = k := ⟨x.toNat, by omega⟩
    have hv := bin_fits (decV_lt p.num hs.num) (x := k) (by omega) hpr1
    have e0 : e = 0 := by rw [← hsc, hden]; rfl
    subst e0
    show (sv (if p.pos = true then ((decV (p.num ++ p.denom) * (if 2 = 10 then 1 else 2 ^ (k : Int).toNat) : Nat) : Int) else -((decV (p.num ++ p.denom) * (if 2 = 10 then 1 else 2 ^ (k : Int).toNat) : Nat) : Int)) 0).natAbs ≤ _
    rw [sv_abs, hden, List.append_nil, if_neg (show ¬ (2 : Nat) = 10 by decide), Int.toNat_natCast]
    have : (if p.pos = true then ((decV p.num * 2 ^ k : Nat) : Int) else -((decV p.num * 2 ^ k : Nat) : Int)).natAbs = decV p.num * 2 ^ k := by split <;> omega
    rw [this]
    exact Nat.mul_le_mul_right _ hv
  · rw [if_neg hpr] at hu ⊢
    generalize (decV (p.num ++ p.denom) * if b = 10 then 1 else 2 ^ x.toNat) = u at *
    exact slow_fine p.pos u e f hf hu
end Go.Proofs.YtcpjclakdpjjfaaGreatDoor


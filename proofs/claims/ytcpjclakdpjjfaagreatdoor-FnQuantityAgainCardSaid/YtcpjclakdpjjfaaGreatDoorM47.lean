/-
  A part of the proof of FnQuantityAgain (texts X6 of mine, joined).
-/
import Derived.Test.YtcpjclakdpjjfaaGreatDoorM46
namespace Go.Proofs.YtcpjclakdpjjfaaGreatDoor
open Go.RowKit

theorem slow_str (pos : Bool) (u : Nat) (e : Int) (f : Nat) : (slowQ pos u e f).str = [] := by
  unfold slowQ
  by_cases h : u = 0
  · rw [if_pos h]
  · rw [if_neg h]
    simp only
    by_cases h2 : f = 1 ∧ maxQ * 10 ^ 9 < nanoN u e
    · rw [if_pos h2]
    · rw [if_neg h2]

theorem parse_str {l : List UInt8} {q : MQ} (h : parseQ l = .ok q) : q.str = [] ∨ q.str = l := by
  unfold parseQ at h
  split at h
  · cases h
  · split at h
    · cases h; exact Or.inr rfl
    · cases hp : splitQ l with
      | none => rw [hp] at h; cases h
      | some p =>
        rw [hp] at h
        simp only at h
        cases hs : sufQ p.suf with
        | none => rw [hs] at h; cases h
        | some r =>
          obtain ⟨b, x, f⟩ := r
          rw [hs] at h
          simp only [PR.ok.injEq] at h
          subst h
          rw [makeQ_eq]
          by_cases hC : 0 ≤ precQ b x p.num p.denom ∧ -9 ≤ ((if b = 10 then x else 0) - (p.denom.length : Int))
          · rw [if_pos hC]
            have gen : ∀ c : Bool, (if c = true then l else []) = [] ∨ (if c = true then l else []) = l := by
              intro c; cases c
              · exact Or.inl rfl
              · exact Or.inr rfl
            exact gen _
          · rw [if_neg hC]
            exact Or.inl (slow_str _ _ _ _)

section
variable {a0 a1 a2 : Addr} {pe ps pr : Value} {w : World} (hG : GW w a0 a1 a2 pe ps pr)
include hG

theorem gives_text {l : List UInt8} (hP : PBs l) {q : MQ} (hq : parseQ l = .ok q) : Gives w 5 #[.string (tx l)] (.tuple #[.string (tx (canon q)), .int .i64 (q.fmt : Int), .int .i64 0]) := fun wx fx => by
  refine (qtext_any (tx l) l a0 a1 a2 pe ps pr wx (hG.frame fx) (tx_list l) hP).mono ?_
  rintro e w' ⟨f, h⟩
  rw [hq] at h
  exact ⟨h, f⟩

theorem gives_print {l : List UInt8} (hP : PBs l) {q : MQ} (hq : parseQ l = .ok q) : Gives w 9 #[.string (tx l)] (.tuple #[.string (tx (tellQ q)), .int .i64 0]) := fun wx fx =>
  qprint_ok (tx l) l a0 a1 a2 pe ps pr wx (hG.frame fx) (tx_list l) hP q hq

theorem gives_cmp {l1 l2 : List UInt8} (hP1 : PBs l1) (hP2 : PBs l2) {x y : MQ} (hx : parseQ l1 = .ok x) (hy : parseQ l2 = .ok y) (hC : CmpPair x y) : Gives w 8 #[.string (tx l1), .string (tx l2)] (.tuple #[.int .i64 (cmpQ x y), .int .i64 0]) := fun wx fx =>
  qcmp_ok (tx l1) (tx l2) l1 l2 a0 a1 a2 pe ps pr wx (hG.frame fx) (tx_list l1) (tx_list l2) hP1 hP2 x y hx hy hC

theorem gives_same {l1 l2 : List UInt8} (hP1 : PBs l1) (hP2 : PBs l2) {x y : MQ} (hx : parseQ l1 = .ok x) (hy : parseQ l2 = .ok y) (hC : CmpPair x y) (hv : x.v = y.v) : Gives w 8 #[.string (tx l1), .string (tx l2)] (.tuple #[.int .i64 0, .int .i64 0]) := by
  have h := gives_cmp hG hP1 hP2 hx hy hC
  rwa [cmp_self hv] at h

theorem gives_awake : Gives w 7 #[] (.bool true) := fun wx fx => awake_any a0 a1 a2 pe ps pr wx (hG.frame fx)
theorem gives_kind {l : List UInt8} (hP : PBs l) {k : Nat} (hk : parseQ l = .err k) : Gives w 6 #[.string (tx l)] (.int .i64 (kindQ k : Int)) := fun wx fx =>
  qkind_err (tx l) l a0 a1 a2 pe ps pr wx (hG.frame fx) (tx_list l) hP k hk
theorem gives_bad {l : List UInt8} (hP : PBs l) {k : Nat} (hk : parseQ l = .err k) : Gives w 5 #[.string (tx l)] (.tuple #[.string { data := #[] }, .int .i64 0, .int .i64 (kindQ k : Int)]) := fun wx fx => by
  refine (qtext_any (tx l) l a0 a1 a2 pe ps pr wx (hG.frame fx) (tx_list l) hP).mono ?_
  rintro e w' ⟨f, h⟩
  rw [hk] at h
  exact ⟨h, f⟩

theorem law_any (s : ByteArray) (hmax : s.size ≤ 9223372036854775807) : Calls Tryz.prog 3 #[.string s] w (LawEnd w) := by
  by_cases hlen : s.size ≤ 2147483647
  case neg => exact law_long s w (by omega) hmax
  obtain ⟨l, hl⟩ : ∃ l, l = s.data.toList := ⟨_, rfl⟩
  have hs : s = tx l := by rw [hl, tx_of]
  have hll : l.length ≤ 2147483647 := by rw [hs, tx_size] at hlen; exact hlen
  have F4 := fair_any s l w hl.symm hll
  subst hs
  cases hf : fairQ l with
  | false => rw [hf] at F4; exact law_unfair _ w hlen F4
  | true =>
    rw [hf] at F4
    have hP := fair_pbs hf
    have W7 := gives_awake hG
    cases hq : parseQ l with
    | err k =>
      refine law_err _ w hlen F4 (kindQ k : Int) ?_ (gives_bad hG hP hq) (gives_kind hG hP hq) W7
      unfold kindQ
      split <;> rfl
    | ok q =>
      have F := parse_facts hq
      have Q := parse_qb hP hq
      have T0 := gives_text hG hP hq
      have H := gives_cmp hG hP pbs_hi hq parse_hi (pair_of Q F (parse_qb pbs_hi parse_hi) (parse_facts parse_hi) (Or.inr ⟨by decide, by decide⟩))
      have L := gives_cmp hG hP pbs_lo hq parse_lo (pair_of Q F (parse_qb pbs_lo parse_lo) (parse_facts parse_lo) (Or.inr ⟨by decide, by decide⟩))
      have P1 := gives_print hG hP hq
      -- what goes for every text that is read again
      have AGAIN : (q.fmt = 2 → q.v.natAbs ≤ maxQ * 10 ^ 200) → ∃ q', PBs (canon q) ∧ parseQ (canon q) = .ok q' ∧ q'.v = q.v ∧ (q.fmt ≠ 1 → canon q' = canon q) ∧ (q.fmt = 1 → q'.fmt = 2 → q'.v.natAbs ≤ maxQ * 10 ^ 200) ∧ ∃ z, PBs (tellQ q) ∧ parseQ (tellQ q) = .ok z ∧ (z = q' ∨ z = q) := fun hi => by
        obtain ⟨q', h1, h2, h3, h4⟩ := canon_again hP hq hi
        have hPc := canon_pbs hP hq hi
        refine ⟨q', hPc, h1, h2, h3, h4, ?_⟩
        unfold tellQ
        by_cases hst : q.str = []
        · rw [if_pos hst]
          exact ⟨q', hPc, h1, Or.inl rfl⟩
        · rw [if_neg hst]
          rcases parse_str hq with e | e
          · exact absurd e hst
          · rw [e]; exact ⟨q, hP, hq, Or.inr rfl⟩
      have hg := guard_abs q
      by_cases h0 : q.fmt = 0
      · obtain ⟨q', hPc, hq', hv, hc, _, z, hPt, hz, hzz⟩ := AGAIN (fun h => by omega)
        have hcc := hc (by omega)
        have F' := parse_facts hq'
        have Q' := parse_qb hPc hq'
        have T1 := gives_text hG hPc hq'
        have C1 := gives_same hG hP hPc hq hq' (pair_again Q F Q' F' hq' hv) hv.symm
        have T2 := gives_text hG hPt hz
        have hcz : canon z = canon q := by rcases hzz with rfl | rfl; exact hcc; rfl
        rw [hcc] at T1
        rw [hcz] at T2
        rw [h0] at T0
        exact law_exp _ w hlen F4 _ _ _ T0 H L _ _ _ T1 C1 P1 T2 W7
      have hf0 : ((q.fmt : Int) == 0) = false := beq_eq_false_iff_ne.mpr (by omega)
      by_cases hh : 0 < cmpQ q hiQ
      · exact law_above _ w hlen F4 _ _ _ _ T0 H L hf0 hh
      by_cases hl2 : cmpQ q loQ < 0
      · exact law_below _ w hlen F4 _ _ _ _ T0 H L hf0 (by omega) hl2
      have hin := hg.1 (by rintro (h | h) <;> omega)
      obtain ⟨q', hPc, hq', hv, hc, hc1, z, hPt, hz, hzz⟩ := AGAIN (fun _ => hin)
      have F' := parse_facts hq'
      have Q' := parse_qb hPc hq'
      have T1 := gives_text hG hPc hq'
      have C1 := gives_same hG hP hPc hq hq' (pair_again Q F Q' F' hq' hv) hv.symm
      have T2 := gives_text hG hPt hz
      rcases (show q.fmt = 1 ∨ q.fmt = 2 by have := F.f2; omega) with h1 | h2
      · rw [h1] at T0
        -- the canonical form, read again and told
        obtain ⟨y, hy1, hy2, _, _⟩ := canon_again hPc hq' (fun h => hc1 h1 h)
        have hPy := canon_pbs hPc hq' (fun h => hc1 h1 h)
        have Fy := parse_facts hy1
        have Qy := parse_qb hPy hy1
        have PY : CmpPair y q' := by
          have p := pair_again Q' F' Qy Fy hy1 hy2
          exact ⟨p.y1, p.y2, p.q1, p.q2, p.d2, p.d1, p.yn, p.qn, p.yu, p.qu⟩
        have C2 := gives_same hG hPy hPc hy1 hq' PY hy2
        have C3 : Gives w 8 #[.string (tx (canon z)), .string (tx (canon q))] (.tuple #[.int .i64 0, .int .i64 0]) := by
          rcases hzz with rfl | rfl
          · exact C2
          · exact gives_same hG hPc hPc hq' hq' ⟨by have := Q'.lo; omega, by have := Q'.hi; omega, by have := Q'.lo; omega, by have := Q'.hi; omega, by omega, by omega, fun h => (F'.nb h).1, fun h => (F'.nb h).1, Nat.lt_trans Q'.u TOP_W, Nat.lt_trans Q'.u TOP_W⟩ rfl
        exact law_bin _ w hlen F4 _ _ _ T0 H L (by omega) (by omega) _ _ _ _ _ T1 C1 P1 T2 W7 C2 C3
      · rw [h2] at T0
        have hcc := hc (by omega)
        have hcz : canon z = canon q := by rcases hzz with rfl | rfl; exact hcc; rfl
        rw [hcc] at T1
        rw [hcz] at T2
        exact law_dec _ w hlen F4 _ _ _ T0 H L (by omega) (by omega) _ _ _ T1 C1 P1 T2 W7
end
end Go.Proofs.YtcpjclakdpjjfaaGreatDoor


/-
  A part of the proof of FnQuantityAgain (texts Hg, Q1, Q2 of mine, joined).
-/
import Derived.Test.YtcpjclakdpjjfaaGreatDoorM12
import Derived.Lib.ItoaNum
import Derived.Lib.ParseIntBCases
namespace Go.Proofs.YtcpjclakdpjjfaaGreatDoor
open Go.RowKit

/-- An exit post whose normal end is another one. -/
def MidQ (Q : Exit → Act → World → Prop) (X : Act → World → Prop) : Exit → Act → World → Prop
  | .normal, a, w => X a w
  | e, a, w => Q e a w

section
variable {P : Program} {ops : Array Oper} {md : Region.Mode}

theorem wpOp_mid {Q : Exit → Act → World → Prop} {X : Act → World → Prop} {i : Nat} {K K' : Act → World → Prop} {a : Act} {w : World} (hK : ∀ a w, K a w → K' a w) (h : wpOp P ops (MidQ Q X) i K a w) : wpOp P ops Q i K' a w := by
  unfold wpOp at *
  split
  · rename_i ho
    simp only [ho] at h
    exact hK _ _ h
  · rename_i o ho
    simp only [ho] at h
    split
    · rename_i hw
      rw [if_pos hw] at h
      rcases h with h | ⟨h1, h2⟩
      · refine Or.inl ?_
        unfold Oper.wp at *
        generalize (execOp a.eval o).run P w = r at *
        cases r with
        | ok n w' =>
          cases n <;> simp only [Oper.upon] at h ⊢ <;>
            first
              | exact hK _ _ h
              | exact Calls.mono h (fun e w'' he => by cases e <;> first | exact hK _ _ he | exact he)
              | exact Rows.mono h (fun _ _ he => hK _ _ he)
        | halt x w' => cases x <;> simp only [Oper.upon] at h ⊢ <;> exact h
      · exact Or.inr ⟨h1, h2⟩
    · rename_i hw
      rw [if_neg hw] at h
      exact hK _ _ h

def seqPB (ops : Array Oper) : Nat → Nat → Array Bool → Bool
  | 0, _, _ => true
  | g + 1, k, L => decide (Region.ready .any ops L = [k]) && seqPB ops g (k + 1) (L.setIfInBounds k true)
def freePB (ops : Array Oper) : Nat → Nat → Array Bool → Bool
  | 0, _, _ => true
  | f + 1, k, L => (Region.ready .any ops L).contains k && Region.free .any ops L k && freePB ops f (k + 1) (L.setIfInBounds k true)

theorem any_seq_then {Q : Exit → Act → World → Prop} {X : Act → World → Prop} {fuel : Nat} : ∀ (l : List Oper) (k : Nat) (listed : Array Bool) (a : Act) (w : World), (∀ j, j < l.length → l[j]? = ops[k + j]?) →
    seqPB ops l.length k listed = true → wpList P ops (MidQ Q X) l a w → (∀ a' w', X a' w' → wpAnyH P .any ops Q (fun _ => True) fuel (stepL l.length k listed) a' w') →
    wpAnyH P .any ops Q (fun _ => True) (l.length + fuel) listed a w
  | [], k, listed, a, w, _, _, h, hX => by
    rw [List.length_nil, Nat.zero_add]
    exact hX a w h
  | o :: l, k, listed, a, w, hl, hB, h, hX => by
    have h0 : ops[k]? = some o := by simpa using (hl 0 (by simp)).symm
    simp only [List.length_cons, seqPB, Bool.and_eq_true, decide_eq_true_eq] at hB
    rw [List.length_cons, show l.length + 1 + fuel = (l.length + fuel) + 1 by omega]
    refine ⟨fun h1 => (by rw [hB.1] at h1; cases h1), fun i hi => ?_⟩
    rw [hB.1] at hi
    have hik : i = k := by simpa using hi
    subst hik
    have hw : wpOp P ops (MidQ Q X) i (wpList P ops (MidQ Q X) l) a w := by unfold wpOp; simp only [h0]; exact h
    exact wpOp_mid (fun a' w' h' => ⟨trivial, any_seq_then l (i + 1) _ a' w' (fun j hj => by have := hl (j + 1) (by simp; omega); simpa [Nat.add_assoc, Nat.add_comm 1 j] using this) hB.2 h' hX⟩) hw

theorem any_free_then {Q : Exit → Act → World → Prop} (hs : Region.noSelect ops = true) (hQ : ∀ c a a' w, Q (.panic c) a w → Q (.panic c) a' w) {fuel : Nat} {K : Act → Prop} {w : World} :
    ∀ (l : List Oper) (k : Nat) (listed : Array Bool) (a : Act), (∀ j, j < l.length → l[j]? = ops[k + j]?) → (l.all fun o => opVal o.op) = true →
      freePB ops l.length k listed = true → wpQuiet P ops (fun _ => True) K l a →
      (∀ a', K a' → wpAnyH P .any ops Q (fun _ => True) fuel (stepL l.length k listed) a' w) →
      wpAnyH P .any ops Q (fun _ => True) (l.length + fuel) listed a w
  | [], k, listed, a, _, _, _, h, hK => by
    rw [List.length_nil, Nat.zero_add]
    exact hK a h
  | o :: l, k, listed, a, hl, hv, hB, h, hK => by
    have h0 : ops[k]? = some o := by simpa using (hl 0 (by simp)).symm
    simp only [List.length_cons, freePB, Bool.and_eq_true] at hB
    simp only [List.all_cons, Bool.and_eq_true] at hv
    have nxt : ∀ v, YieldsIf P ops (fun _ => True) o v a → wpQuiet P ops (fun _ => True) K l (a.put o.dst v) → wpAnyH P .any ops Q (fun _ => True) ((o :: l).length + fuel) listed a w := by
      intro v hy hq
      rw [List.length_cons, show l.length + 1 + fuel = (l.length + fuel) + 1 by omega]
      refine wpAnyH_take h0 hs hB.1.2 hB.1.1 (fun c a w hp => hQ c _ a w hp) hy trivial ?_
      exact any_free_then hs hQ l (k + 1) _ _ (fun j hj => by have := hl (j + 1) (by simp; omega); simpa [Nat.add_assoc, Nat.add_comm 1 j] using this) hv.2 hB.2 hq hK
    unfold wpQuiet at h
    by_cases hw : Region.wanted o (yielded ops a.tmps) = true
    · rw [if_pos hw] at h
      obtain ⟨v, hy, hk⟩ := yields_of_quiet hv.1 hw h
      exact nxt v hy hk
    · rw [if_neg hw] at h
      exact nxt undef (Or.inr ⟨by simpa using hw, rfl⟩) h

theorem any_seq_end {Q : Exit → Act → World → Prop} (l : List Oper) (k : Nat) (listed : Array Bool) (a : Act) (w : World) (hl : ∀ j, l[j]? = ops[k + j]?) (hB : Region.seqB .any ops l.length k listed = true) (h : wpList P ops Q l a w) :
    wpAnyH P .any ops Q (fun _ => True) l.length listed a w :=
  held_of_any (fun _ => trivial) _ _ _ _ (wpAny_of_seq l k listed a w hl hB h)

/-! The reading part, its tail weaker bound. -/
def sink2B (ops : Array Oper) (m n : Nat) : Bool :=
  (List.range n).all fun i => decide (i < m) || (List.range (n + 1)).any fun j => decide (i < j) && Region.waitsFor .any ops j i
def chain2B (ops : Array Oper) (n : Nat) : Bool :=
  (List.range ops.size).all fun t => decide (t ≤ n) || (List.range t).any fun j => decide (n ≤ j) && Region.waitsFor .any ops t j

theorem tail_waits2 {m n : Nat} {listed : Array Bool} (hs : sink2B ops m n = true) (hc : chain2B ops n = true) (hn : n < ops.size) (inv : HeadInv .any ops n listed) :
    ∀ (d i : Nat), n - i = d → m ≤ i → i < n → listed.getD i true = false → ∀ t, n ≤ t → t ∉ Region.ready .any ops listed := by
  intro d
  induction d using Nat.strongRecOn with
  | _ d ih =>
    intro i hd hmi hi hun t ht hr
    obtain ⟨_, ot, hot, hall⟩ := mem_ready.1 hr
    have htlt : t < ops.size := (Array.getElem?_eq_some_iff.1 hot).1
    by_cases htn : t = n
    · subst htn
      have h1 := List.all_eq_true.1 hs i (List.mem_range.2 hi)
      simp only [Bool.or_eq_true, decide_eq_true_eq] at h1
      have h1 := h1.resolve_left (by omega)
      obtain ⟨j, hj, hj2⟩ := List.any_eq_true.1 h1
      simp only [Bool.and_eq_true, decide_eq_true_eq] at hj2
      obtain ⟨oj, hoj, e, he, hb, hon⟩ := Region.waitsFor_spec hj2.2
      have hjle : j ≤ t := by have := List.mem_range.1 hj; omega
      by_cases hjt : j = t
      · subst hjt
        have : oj = ot := Option.some.inj (hoj.symm.trans hot)
        subst this
        have h2 := hall e he hb
        rw [hon, getD_both hun] at h2
        cases h2
      · cases hl : listed.getD j false with
        | true =>
          have h2 := inv.closed j oj hoj hl e he hb
          rw [hon, getD_both hun] at h2
          cases h2
        | false =>
          have hjs : j < listed.size := by rw [inv.size]; omega
          exact ih (t - j) (by omega) j rfl (by omega) (by omega) (getD_in hjs hl) t (Nat.le_refl _) hr
    · have h1 := List.all_eq_true.1 hc t (List.mem_range.2 htlt)
      simp only [Bool.or_eq_true, decide_eq_true_eq] at h1
      rcases h1 with h1 | h1
      · omega
      · obtain ⟨j, hj, hj2⟩ := List.any_eq_true.1 h1
        simp only [Bool.and_eq_true, decide_eq_true_eq] at hj2
        have hjt := List.mem_range.1 hj
        obtain ⟨o', ho', e, he, hb, hon⟩ := Region.waitsFor_spec hj2.2
        have : o' = ot := Option.some.inj (ho'.symm.trans hot)
        subst this
        have h2 := hall e he hb
        rw [hon, getD_both (inv.tail j hj2.1 (by omega))] at h2
        cases h2

theorem wpAnyL_first2 {w : World} {m n i : Nat} {oi : Oper} {v : Value} {L : Array Bool → Act → Prop} (hi : ops[i]? = some oi) (hsel : ∀ (j : Nat) (o : Oper) cs b, ops[j]? = some o → o.op ≠ .select cs b)
    (hs : sink2B ops m n = true) (hc : chain2B ops n = true) (hn : n < ops.size) (hmi : m ≤ i) (hin : i < n)
    (hdone : ∀ listed a, L listed a → ∀ j ∈ Region.ready .any ops listed, n ≤ j) :
    ∀ (f : Nat) (listed : Array Bool) (a : Act), HeadInv .any ops n listed →
      (∀ j oj, ops[j]? = some oj → j ≠ i → listed.getD j true = false → (∀ e ∈ oj.after, Region.binds .any e = true → e.on ≠ i) → oi.apart ops oj = true) →
      i ∈ Region.ready .any ops listed → YieldsAt P ops w oi v a →
      wpAnyL P .any ops w n L f (listed.setIfInBounds i true) (a.put oi.dst v) → wpAnyL P .any ops w n L (f + 1) listed a := by
  intro f
  induction f with
  | zero =>
    intro listed a inv _ hr hy H
    have hun := (mem_ready.1 hr).1
    refine ⟨fun h => (by rw [h] at hr; cases hr), fun j hj => ?_⟩
    have hjn : j < n := by
      rcases Nat.lt_or_ge j n with h | h
      · exact h
      · exact absurd hj (tail_waits2 hs hc hn inv _ i rfl hmi hin hun j h)
    refine ⟨hjn, ?_⟩
    by_cases hji : j = i
    · subst hji; exact hy.stOp hi H
    · have := hdone _ _ H j (ready_mono hj hji)
      omega
  | succ f ih =>
    intro listed a inv hfree hr hy H
    have hun := (mem_ready.1 hr).1
    refine ⟨fun h => (by rw [h] at hr; cases hr), fun j hj => ?_⟩
    have hjn : j < n := by
      rcases Nat.lt_or_ge j n with h | h
      · exact h
      · exact absurd hj (tail_waits2 hs hc hn inv _ i rfl hmi hin hun j h)
    refine ⟨hjn, ?_⟩
    by_cases hji : j = i
    · subst hji; exact hy.stOp hi H
    · have h1 := (H.2 j (ready_mono hj hji)).2
      obtain ⟨hjun, oj, hoj, hall⟩ := mem_ready.1 hj
      have hnot : ∀ e ∈ oj.after, Region.binds .any e = true → e.on ≠ i := fun e he hb heq => by
        have h1 := hall e he hb
        rw [heq, getD_both hun] at h1
        cases h1
      have h2 := stOp_put hoj (hfree j oj hoj hji hjun hnot) (fun cs b => hsel i oi cs b hi) (fun cs b => hsel j oj cs b hoj) hy h1
      have hfree' : ∀ k ok, ops[k]? = some ok → k ≠ i → (listed.setIfInBounds j true).getD k true = false →
          (∀ e ∈ ok.after, Region.binds .any e = true → e.on ≠ i) → oi.apart ops ok = true := fun k ok hk hki hun hno => by
        refine hfree k ok hk hki ?_ hno
        by_cases hjk : j = k
        · subst hjk; exact hjun
        · rw [getD_set_ne true hjk] at hun; exact hun
      refine stOp_mono (fun a' h3 => ih (listed.setIfInBounds j true) a' (inv.set hj hjn) hfree' (ready_mono hr (Ne.symm hji)) h3.1 ?_) h2
      rw [Array.setIfInBounds_comm _ _ hji]
      exact h3.2

theorem wpAnyL_lex2 {w : World} {m n : Nat} {Lq : Act → Prop} (hsel : Region.noSelect ops = true) (hs : sink2B ops m n = true) (hc : chain2B ops n = true) (hn : n < ops.size) :
    ∀ (l : List Oper) (k : Nat) (listed : Array Bool) (a : Act), (∀ j, j < l.length → l[j]? = ops[k + j]?) → m ≤ k → k + l.length = n → HeadInv .any ops n listed →
    freePB ops l.length k listed = true → ((Region.ready .any ops (stepL l.length k listed)).all fun j => decide (n ≤ j)) = true → wpStill P ops w Lq l a →
    wpAnyL P .any ops w n (fun listed' a' => listed' = stepL l.length k listed ∧ Lq a') l.length listed a
  | [], k, listed, a, _, _, hk, _, _, _, h => ⟨rfl, h⟩
  | o :: l, k, listed, a, hl, hmk, hk, inv, hB, hE, h => by
    have h0 : ops[k]? = some o := by simpa using (hl 0 (by simp)).symm
    simp only [List.length_cons, freePB, Bool.and_eq_true] at hB
    obtain ⟨⟨hr, hf⟩, hB'⟩ := hB
    have hkn : k < n := by simp only [List.length_cons] at hk; omega
    have hr' : k ∈ Region.ready .any ops listed := by simpa using hr
    have hst : stOp P ops w k (wpStill P ops w Lq l) a := by unfold stOp; simp only [h0]; exact h
    obtain ⟨v, hy, hK⟩ := yieldsAt_of_stOp h0 hst
    have e : stepL (o :: l).length k listed = stepL l.length (k + 1) (listed.setIfInBounds k true) := rfl
    rw [e] at hE ⊢
    exact wpAnyL_first2 h0 (Region.noSelect_spec hsel) hs hc hn hmk hkn (fun listed' a' hL j hj => by
      rw [hL.1] at hj
      simpa using List.all_eq_true.1 hE j hj) l.length listed a inv (Region.free_spec h0 hf) hr' hy
      (wpAnyL_lex2 hsel hs hc hn l (k + 1) _ _ (fun j hj => by have := hl (j + 1) (by simp; omega); simpa [Nat.add_assoc, Nat.add_comm 1 j] using this) (by omega) (by simp only [List.length_cons] at hk; omega) (inv.set hr' hkn) hB' hE hK)
end

/-- The parts of a region: m moves that nothing orders; readings up to n; from n on in forced order up to p; moves that nothing orders up to q; the rest in forced order. -/
def partsB (l : List Oper) (m n p q : Nat) : Bool :=
  let ops := l.toArray
  let L0 := Array.replicate ops.size false
  let L1 := stepL m 0 L0
  let L2 := stepL (n - m) m L1
  let L3 := stepL (p - n) n L2
  let L4 := stepL (q - p) p L3
  Region.noSelect ops && decide (m ≤ n) && decide (n < ops.size) && decide (n ≤ p) && decide (p ≤ q) && decide (q ≤ ops.size) && ((l.take m).all fun o => opVal o.op) && preB ops ops m 0 L0 &&
    sink2B ops m n && chain2B ops n && freePB ops (n - m) m L1 && ((Region.ready .any ops L2).all fun j => decide (n ≤ j)) && (((l.take n).drop m).all fun o => opCalm o.op) &&
    seqPB ops (p - n) n L2 && (((l.take q).drop p).all fun o => opVal o.op) && freePB ops (q - p) p L3 && Region.seqB .any ops (ops.size - q) q L4

theorem quiet_mono {P : Program} {ops : Array Oper} {C : World → Prop} : ∀ (l1 : List Oper) (K K' : Act → Prop) (a : Act), (∀ a, K a → K' a) → wpQuiet P ops C K l1 a → wpQuiet P ops C K' l1 a := by
  intro l1
  induction l1 with
  | nil => intro K K' a hK h; exact hK a h
  | cons o r ih =>
    intro K K' a hK h
    unfold wpQuiet at h ⊢
    split
    · rename_i hw
      rw [if_pos hw] at h
      exact Oper.quiet_mono (fun a' h' => ih K K' a' hK h') h
    · rename_i hw
      rw [if_neg hw] at h
      exact ih K K' _ hK h

theorem wp_region_parts {P : Program} {Q : Exit → Act → World → Prop} {id : Nat} {a : Act} {w : World} {l : List Oper} (m n p q : Nat) (hm : P.follows .mixedOrders = true) (hB : partsB l m n p q = true)
    (h : wpQuiet P l.toArray (fun _ => True) (fun a1 => wpQuiet P l.toArray (fun w' => ∃ n, w' = w.drewN n) (fun a' =>
      wpList P l.toArray (MidQ (NoPanic Q) (fun a2 w2 => wpQuiet P l.toArray (fun _ => True) (fun a3 => wpList P l.toArray (NoPanic Q) (l.drop q) a3 w2) ((l.take q).drop p) a2)) ((l.take p).drop n) a' w.drew) ((l.take n).drop m) a1) (l.take m) a) :
    (Code.region id l.toArray true).wp P Q a w := by
  simp only [partsB, Bool.and_eq_true, decide_eq_true_eq] at hB
  obtain ⟨⟨⟨⟨⟨⟨⟨⟨⟨⟨⟨⟨⟨⟨⟨⟨hs, hmn⟩, hn⟩, hnp⟩, hpq⟩, hq⟩, hv⟩, hpre⟩, hsink⟩, hchain⟩, hfree⟩, hge⟩, hcalm⟩, hseq⟩, hv2⟩, hfree2⟩, hend⟩ := hB
  have hn' : n < l.length := by simpa using hn
  have hq' : q ≤ l.length := by simpa using hq
  have hsz : l.toArray.size = l.length := by simp
  have htm : (l.take m).length = m := by simp; omega
  have hmid : ((l.take n).drop m).length = n - m := by simp; omega
  have hpl : ((l.take p).drop n).length = p - n := by simp; omega
  have hql : ((l.take q).drop p).length = q - p := by simp; omega
  have hdl : (l.drop q).length = l.toArray.size - q := by simp
  have at_ : ∀ (u v j : Nat), v ≤ l.length → j < ((l.take v).drop u).length → ((l.take v).drop u)[j]? = l.toArray[u + j]? := by
    intro u v j hv hj
    have : u + j < v := by simp at hj; omega
    simp only [List.getElem?_toArray]
    rw [List.getElem?_drop, List.getElem?_take_of_lt this]
  have hQ : ∀ c a a' w, NoPanic Q (.panic c) a w → NoPanic Q (.panic c) a' w := fun c a a' w hp => by unfold NoPanic at hp; simp at hp
  have inv0 : HeadInv .any l.toArray n (Array.replicate l.toArray.size false) :=
    ⟨by simp, fun j oj _ hl => (by rw [getD_replicate_false] at hl; cases hl), fun t _ ht => getD_in (by simpa using ht) (getD_replicate_false _ _)⟩
  refine wp_region_noPanic (wp_region_held (S := fun _ => True) hm ?_)
  have H := pre_go (P := P) (Q := NoPanic Q) (ops := l.toArray) (ops2 := l.toArray) (n := n) (fuel := l.toArray.size - m) (w := w.drew) hs hQ
    (l.take m) 0 (Array.replicate l.toArray.size false) a (fun j hj => by
      have hj' : j < m := by rw [htm] at hj; exact hj
      simp [hj']) hv (by rw [htm]; exact hpre) inv0 (by rw [htm]; omega) (fun j hj => absurd hj (Nat.not_lt_zero _)) h (fun a1 hi _ hk => by
      rw [htm] at hi ⊢
      have HL := wpAnyL_lex2 (P := P) (ops := l.toArray) (w := w.drew) (m := m) (n := n) hs hsink hchain hn ((l.take n).drop m) m _ a1 (fun j hj => at_ m n j (by omega) hj) (Nat.le_refl _) (by rw [hmid]; omega) hi (by rw [hmid]; exact hfree) (by rw [hmid]; exact hge)
        (still_of_quiet ⟨1, rfl⟩ _ _ hcalm hk)
      refine held_of_any (fun _ => trivial) _ _ _ _ ?_
      have HH := wpAny_of_head (Q' := NoPanic Q) (g := l.toArray.size - n) (fun listed a' hL => by
        obtain ⟨rfl, hL2⟩ := hL
        rw [hmid]
        refine wpAny_of_held (S := fun _ => True) _ _ _ _ ?_
        have H3 := any_seq_then (P := P) (ops := l.toArray) (Q := NoPanic Q) (fuel := l.toArray.size - p) ((l.take p).drop n) n _ a' w.drew (fun j hj => at_ n p j (by omega) hj) (by rw [hpl]; exact hseq) hL2 (fun a2 w2 h2 => by
          rw [hpl]
          have H4 := any_free_then (P := P) (ops := l.toArray) (Q := NoPanic Q) (fuel := l.toArray.size - q) hs hQ ((l.take q).drop p) p _ a2 (fun j hj => at_ p q j hq' hj) hv2 (by rw [hql]; exact hfree2) h2 (fun a3 h3 => by
            rw [hql]
            have H5 := any_seq_end (P := P) (ops := l.toArray) (Q := NoPanic Q) (l.drop q) q (stepL (q - p) p (stepL (p - n) n (stepL (n - m) m (stepL m 0 (Array.replicate l.toArray.size false))))) a3 w2 (fun j => by simp [List.getElem?_drop]) (by rw [hdl]; exact hend) h3
            rw [hdl] at H5
            exact H5)
          rw [hql, show q - p + (l.toArray.size - q) = l.toArray.size - p by omega] at H4
          exact H4)
        rw [hpl, show p - n + (l.toArray.size - p) = l.toArray.size - n by omega] at H3
        exact H3) _ _ _ HL
      rw [hmid, show n - m + (l.toArray.size - n) = l.toArray.size - m by omega] at HH
      exact HH)
  rw [htm, show m + (l.toArray.size - m) = l.toArray.size by omega] at H
  exact H
end Go.Proofs.YtcpjclakdpjjfaaGreatDoor

/-
  QUANTITIES IN PLAIN LEAN: what ParseQuantity, CanonicalizeBytes and Cmp compute, on lists of bytes and integers.
-/
namespace Go.Proofs.YtcpjclakdpjjfaaGreatDoor
open Go

def isDg (c : UInt8) : Bool := decide (48 ≤ c.toNat ∧ c.toNat ≤ 57)
/-- one of eEinumkKMGTP -/
def isSuf (c : UInt8) : Bool := [101, 69, 105, 110, 117, 109, 107, 75, 77, 71, 84, 80].contains c
/-- The number of a row of digits. -/
def decV (l : List UInt8) : Nat := l.foldl (fun a c => 10 * a + (c.toNat - 48)) 0

structure Pq where
  pos : Bool
  value : List UInt8
  num : List UInt8
  denom : List UInt8
  suf : List UInt8

def unsign (s : List UInt8) : List UInt8 := if s.head? = some 45 ∨ s.head? = some 43 then s.tail else s
def sufOk (r : List UInt8) : Bool := ((unsign (r.dropWhile isSuf)).dropWhile isDg).isEmpty

/-- The rest of a text behind its digits ahead of the point: the digits behind it, and what follows. -/
def fracQ (r : List UInt8) : List UInt8 × List UInt8 :=
  if r.head? = some 46 then (r.tail.takeWhile isDg, r.tail.dropWhile isDg) else ([], r)

def zeroP : UInt8 → Bool := fun c => c == 48

/-- parseQuantityString; none: ErrFormatWrong -/
def splitQ (s : List UInt8) : Option Pq :=
  let pos := decide (s.head? ≠ some 45)
  let r1 := (unsign s).dropWhile zeroP
  if r1 = [] then some ⟨pos, [48], [48], [], []⟩
  else
    let n0 := r1.takeWhile isDg
    let f := fracQ (r1.dropWhile isDg)
    if sufOk f.2 then some ⟨pos, s.take (s.length - f.2.length), if n0 = [] then [48] else n0, f.1, f.2⟩ else none

/-- The suffixes by name: base, exponent, format (0 exponent, 1 binary, 2 decimal). -/
def sufTab : List (List UInt8 × Nat × Int × Nat) :=
  [([], 10, 0, 2), ([110], 10, -9, 2), ([117], 10, -6, 2), ([109], 10, -3, 2), ([107], 10, 3, 2), ([77], 10, 6, 2), ([71], 10, 9, 2), ([84], 10, 12, 2), ([80], 10, 15, 2), ([69], 10, 18, 2),
   ([75, 105], 2, 10, 1), ([77, 105], 2, 20, 1), ([71, 105], 2, 30, 1), ([84, 105], 2, 40, 1), ([80, 105], 2, 50, 1), ([69, 105], 2, 60, 1)]

def sufQ (s : List UInt8) : Option (Nat × Int × Nat) :=
  match sufTab.find? (fun r => r.1 == s) with
  | some r => some r.2
  | none =>
    match s with
    | c :: r => if (c = 69 ∨ c = 101) ∧ r ≠ [] then (match Lib.parseIntB 64 r with | .ok v => some (10, v, 0) | _ => none) else none
    | [] => none

/-- A quantity: u times ten to the power of e; str: the text that it keeps. -/
structure MQ where
  big : Bool
  u : Int
  e : Int
  fmt : Nat
  str : List UInt8

/-- u times ten to the power of e (at least -200), in units of ten to the power of -200. -/
def sv (u e : Int) : Int := u * 10 ^ (200 + e).toNat
def MQ.v (q : MQ) : Int := sv q.u q.e

def ceilDiv (a b : Nat) : Nat := a / b + (if a % b = 0 then 0 else 1)

/-- Rounded up to nano. -/
def nanoN (u : Nat) (e : Int) : Nat := if -9 ≤ e then u * 10 ^ (e + 9).toNat else ceilDiv u (10 ^ (-9 - e).toNat)

def maxQ : Nat := 9223372036854775807

/-- The slow road: digits dv at exponent e, times 2 to the power x if the base is 2. -/
def slowQ (pos : Bool) (u : Nat) (e : Int) (f : Nat) : MQ :=
  if u = 0 then ⟨true, 0, e, f, []⟩
  else
    let n := nanoN u e
    if f = 1 ∧ maxQ * 10 ^ 9 < n then ⟨true, if pos then maxQ else -maxQ, 0, 1, []⟩
    else ⟨true, if pos then n else -n, -9, if f = 1 ∧ n < 10 ^ 9 then 2 else f, []⟩

def precQ (b : Nat) (x : Int) (num denom : List UInt8) : Int :=
  if b = 10 then 18 - (num.length + denom.length) else if denom = [] then 15 - num.length - x * 3 / 10 - 1 else -1

def keepQ (b : Nat) (x sc : Int) (num denom : List UInt8) : Bool :=
  if b = 10 then decide (sc % 3 = 0 ∧ ¬ [48, 48, 48] <:+ (num ++ denom) ∧ (num ++ denom).head? ≠ some 48) else decide (x % 10 = 0 ∧ decV (num ++ denom) % 8 ≠ 0)

/-- What a text's parts make. -/
def makeQ (s : List UInt8) (p : Pq) (b : Nat) (x : Int) (f : Nat) : MQ :=
  let dv := decV (p.num ++ p.denom)
  let sc := (if b = 10 then x else 0) - (p.denom.length : Int)
  let m := if b = 10 then 1 else 2 ^ x.toNat
  if 0 ≤ precQ b x p.num p.denom ∧ -9 ≤ sc then ⟨false, if p.pos then (dv * m : Nat) else -((dv * m : Nat) : Int), sc, f, if keepQ b x sc p.num p.denom then s else []⟩
  else slowQ p.pos (dv * m) sc f

inductive PR where
  | err (k : Nat)
  | ok (q : MQ)

def parseQ (s : List UInt8) : PR :=
  if s = [] then .err 1
  else if s = [48] then .ok ⟨false, 0, 0, 2, s⟩
  else match splitQ s with
    | none => .err 1
    | some p => match sufQ p.suf with
      | none => .err 3
      | some (b, x, f) => .ok (makeQ s p b x f)

/-- A number without its factors b, and how many they were. -/
def strip (b n : Nat) : Nat × Nat :=
  if h : 2 ≤ b ∧ 0 < n ∧ n % b = 0 then ((strip b (n / b)).1, (strip b (n / b)).2 + 1) else (n, 0)
termination_by n
decreasing_by exact Nat.div_lt_self h.2.1 h.1

def signed (u : Int) (n : Nat) : Int := if u < 0 then -(n : Int) else n

/-- The canonical mantissa and exponent. -/
def canD (u e : Int) : Int × Int :=
  let t := strip 10 u.natAbs
  let x := e + t.2
  (signed u (t.1 * 10 ^ (x % 3).toNat), x - x % 3)

def dsuf (f : Nat) (x : Int) : List UInt8 :=
  if f = 2 then ((sufTab.find? (fun r => r.2 == (10, x, 2))).map (·.1)).getD [] else if x = 0 then [] else 101 :: Lib.itoa x

def bsuf (k : Nat) : List UInt8 := ((sufTab.find? (fun r => r.2 == (2, 10 * (k : Int), 1))).map (·.1)).getD []

/-- Is a quantity told by 1024? (not below 1024 in size, and whole) -/
def isBin (q : MQ) : Bool := decide (q.fmt = 1 ∧ (10 ^ 200 * 1024 ≤ q.v.natAbs) ∧ q.v % 10 ^ 200 = 0)

def canon (q : MQ) : List UInt8 :=
  if q.u = 0 then [48]
  else if isBin q then
    let n := q.v / 10 ^ 200
    let t := strip 1024 n.natAbs
    Lib.itoa (signed n t.1) ++ bsuf t.2
  else
    let c := canD q.u q.e
    Lib.itoa c.1 ++ dsuf (if q.fmt = 0 then 0 else 2) c.2

def cmpQ (p q : MQ) : Int := if p.v < q.v then -1 else if p.v = q.v then 0 else 1

/-- What String tells. -/
def tellQ (q : MQ) : List UInt8 := if q.str = [] then canon q else q.str
end Go.Proofs.YtcpjclakdpjjfaaGreatDoor

namespace Go.Proofs.YtcpjclakdpjjfaaGreatDoor
open Go

theorem decV_snoc (l : List UInt8) (c : UInt8) : decV (l ++ [c]) = 10 * decV l + (c.toNat - 48) := by simp [decV]
theorem decV_dec (n : Nat) : decV (Lib.decDigits n) = n := by
  induction n using Nat.strongRecOn with
  | _ n ih =>
    rw [Lib.decDigits]
    split
    · rename_i h
      simp [decV, UInt8.toNat_ofNat']
      omega
    · rename_i h
      rw [decV_snoc, ih (n / 10) (by omega)]
      simp [UInt8.toNat_ofNat']
      omega
theorem decV_acc (l : List UInt8) (a : Nat) : l.foldl (fun a c => 10 * a + (c.toNat - 48)) a = a * 10 ^ l.length + decV l := by
  induction l generalizing a with
  | nil => simp [decV]
  | cons c l ih =>
    unfold decV
    rw [List.foldl_cons, List.foldl_cons, ih, ih, List.length_cons, Nat.pow_succ]
    simp only [Nat.mul_zero, Nat.zero_add]
    rw [Nat.add_mul, Nat.mul_comm 10 a, Nat.mul_assoc, Nat.mul_comm 10 (10 ^ l.length), Nat.add_assoc]
theorem decV_cons (c : UInt8) (l : List UInt8) : decV (c :: l) = (c.toNat - 48) * 10 ^ l.length + decV l := by
  have := decV_acc l (c.toNat - 48)
  unfold decV at *
  rw [List.foldl_cons, ← this]
  simp
theorem decV_lt (l : List UInt8) (h : ∀ c ∈ l, isDg c = true) : decV l < 10 ^ l.length := by
  induction l with
  | nil => simp [decV]
  | cons c l ih =>
    have h1 := ih (fun x hx => h x (by simp [hx]))
    have h2 := h c (by simp)
    simp only [isDg, decide_eq_true_eq] at h2
    rw [decV_cons, List.length_cons, Nat.pow_succ]
    have h3 : (c.toNat - 48) * 10 ^ l.length ≤ 9 * 10 ^ l.length := Nat.mul_le_mul_right _ (by omega)
    omega
theorem dec_dg (n : Nat) : ∀ c ∈ Lib.decDigits n, isDg c = true := by
  induction n using Nat.strongRecOn with
  | _ n ih =>
    rw [Lib.decDigits]
    split
    · intro c hc
      simp only [List.mem_singleton] at hc
      subst hc
      simp only [isDg, UInt8.toNat_ofNat', decide_eq_true_eq]; omega
    · intro c hc
      simp only [List.mem_append, List.mem_singleton] at hc
      rcases hc with hc | rfl
      · exact ih (n / 10) (by omega) c hc
      · simp only [isDg, UInt8.toNat_ofNat', decide_eq_true_eq]; omega
theorem dec_ne (n : Nat) : Lib.decDigits n ≠ [] := by
  rw [Lib.decDigits]; split <;> simp
theorem dec_head (n : Nat) (hn : 0 < n) : ∃ c r, Lib.decDigits n = c :: r ∧ 49 ≤ c.toNat ∧ c.toNat ≤ 57 := by
  induction n using Nat.strongRecOn with
  | _ n ih =>
    rw [Lib.decDigits]
    split
    · exact ⟨_, [], rfl, by simp only [UInt8.toNat_ofNat']; omega, by simp only [UInt8.toNat_ofNat']; omega⟩
    · obtain ⟨c, r, e, h⟩ := ih (n / 10) (by omega) (by omega)
      exact ⟨c, r ++ [UInt8.ofNat (48 + n % 10)], by rw [e]; rfl, h⟩

theorem takeW (p : UInt8 → Bool) (l r : List UInt8) (hl : ∀ c ∈ l, p c = true) (hr : ∀ c, r.head? = some c → p c = false) : (l ++ r).takeWhile p = l ∧ (l ++ r).dropWhile p = r := by
  induction l with
  | nil =>
    cases r with
    | nil => simp
    | cons c r => have := hr c rfl; simp [this]
  | cons c l ih =>
    have := ih (fun x hx => hl x (by simp [hx]))
    have h := hl c (by simp)
    simp [h, this]

/-- A suffix that a number may bear. -/
structure SufFine (suf : List UInt8) : Prop where
  dg : ∀ c, suf.head? = some c → isDg c = false
  dot : suf.head? ≠ some 46
  ok : sufOk suf = true

theorem itoa_pos (n : Nat) : Lib.itoa (n : Int) = Lib.decDigits n := by unfold Lib.itoa; rw [if_neg (by omega)]; simp
theorem itoa_neg (n : Nat) (h : 0 < n) : Lib.itoa (-(n : Int)) = 45 :: Lib.decDigits n := by unfold Lib.itoa; rw [if_pos (by omega)]; simp

theorem split_dec (m : Nat) (hm : 0 < m) (suf : List UInt8) (hs : SufFine suf) :
    (Lib.decDigits m ++ suf).dropWhile zeroP = Lib.decDigits m ++ suf ∧ Lib.decDigits m ++ suf ≠ [] ∧ (Lib.decDigits m ++ suf).takeWhile isDg = Lib.decDigits m ∧ fracQ ((Lib.decDigits m ++ suf).dropWhile isDg) = ([], suf) := by
  obtain ⟨c, r, e, h1, h2⟩ := dec_head m hm
  obtain ⟨t1, t2⟩ := takeW isDg (Lib.decDigits m) suf (dec_dg m) hs.dg
  refine ⟨?_, ?_, t1, ?_⟩
  · rw [e, List.cons_append, List.dropWhile_cons_of_neg]
    simp only [zeroP, beq_iff_eq]
    intro hc
    subst hc
    simp at h1
  · simp [dec_ne]
  · rw [t2]
    unfold fracQ
    rw [if_neg hs.dot]

theorem take_app (l r : List UInt8) : (l ++ r).take ((l ++ r).length - r.length) = l := by
  rw [List.length_append, Nat.add_sub_cancel, List.take_left]

theorem split_pos (m : Nat) (hm : 0 < m) (suf : List UInt8) (hs : SufFine suf) :
    splitQ (Lib.decDigits m ++ suf) = some ⟨true, Lib.decDigits m, Lib.decDigits m, [], suf⟩ := by
  obtain ⟨a1, a2, a3, a4⟩ := split_dec m hm suf hs
  obtain ⟨c, r, e, h1, h2⟩ := dec_head m hm
  have hh : (Lib.decDigits m ++ suf).head? = some c := by rw [e]; rfl
  have c1 : c ≠ 45 := by rintro rfl; simp at h1
  have c2 : c ≠ 43 := by rintro rfl; simp at h1
  have hu : unsign (Lib.decDigits m ++ suf) = Lib.decDigits m ++ suf := by
    unfold unsign
    rw [hh, if_neg (by simp [c1, c2])]
  unfold splitQ
  simp only [hu, a1, a3, a4, if_neg a2, hs.ok, if_true, hh, if_neg (dec_ne m), take_app]
  simp [c1]

theorem split_neg (m : Nat) (hm : 0 < m) (suf : List UInt8) (hs : SufFine suf) :
    splitQ (45 :: (Lib.decDigits m ++ suf)) = some ⟨false, 45 :: Lib.decDigits m, Lib.decDigits m, [], suf⟩ := by
  obtain ⟨a1, a2, a3, a4⟩ := split_dec m hm suf hs
  have hu : unsign (45 :: (Lib.decDigits m ++ suf)) = Lib.decDigits m ++ suf := by
    unfold unsign
    rw [if_pos (by simp)]; rfl
  have ht : (45 :: (Lib.decDigits m ++ suf)).take ((45 :: (Lib.decDigits m ++ suf)).length - suf.length) = 45 :: Lib.decDigits m := by
    have := take_app (45 :: Lib.decDigits m) suf
    rwa [List.cons_append] at this
  unfold splitQ
  simp only [hu, a1, a3, a4, if_neg a2, hs.ok, if_true, if_neg (dec_ne m), ht]
  simp

/-- What a number behind which a fine suffix stands is read as. -/
theorem parse_text (m : Int) (hm : m ≠ 0) (suf : List UInt8) (hs : SufFine suf) (b : Nat) (x : Int) (f : Nat) (hq : sufQ suf = some (b, x, f)) :
    parseQ (Lib.itoa m ++ suf) = .ok (makeQ (Lib.itoa m ++ suf) ⟨decide (0 < m), Lib.itoa m, Lib.decDigits m.natAbs, [], suf⟩ b x f) := by
  by_cases hp : 0 < m
  · obtain ⟨n, rfl⟩ : ∃ n : Nat, m = n := ⟨m.toNat, by omega⟩
    rw [itoa_pos, Int.natAbs_natCast]
    obtain ⟨c, r, e, h1, h2⟩ := dec_head n (by omega)
    have n1 : Lib.decDigits n ++ suf ≠ [] := by simp [dec_ne]
    have n2 : Lib.decDigits n ++ suf ≠ [48] := by
      rw [e]
      intro h
      simp only [List.cons_append, List.cons.injEq] at h
      rw [h.1] at h1
      simp at h1
    unfold parseQ
    rw [if_neg n1, if_neg n2, split_pos n (by omega) suf hs]
    simp only [hq]
    rw [decide_eq_true hp]
  · obtain ⟨n, rfl⟩ : ∃ n : Nat, m = -(n : Int) := ⟨(-m).toNat, by omega⟩
    rw [itoa_neg n (by omega), Int.natAbs_neg, Int.natAbs_natCast]
    have n2 : 45 :: Lib.decDigits n ++ suf ≠ [48] := by intro h; simp at h
    unfold parseQ
    rw [if_neg (by simp), if_neg n2, List.cons_append, split_neg n (by omega) suf hs]
    simp only [hq]
    rw [decide_eq_false hp]
end Go.Proofs.YtcpjclakdpjjfaaGreatDoor


/-
  A part of the proof of FnQuantityAgain (texts Hh, I9 of mine, joined).
-/
import Derived.Test.YtcpjclakdpjjfaaGreatDoorM13
import Derived.Test.YtcpjclakdpjjfaaGreatDoorM18
import Derived.Test.YtcpjclakdpjjfaaGreatDoorM16
namespace Go.Proofs.YtcpjclakdpjjfaaGreatDoor
open Go.RowKit

/-! A region whose last reading p may also come up behind the writes that follow (it looks at temporaries alone). -/
section
variable {P : Program} {ops : Array Oper}

def onlyLoose (m p : Nat) (listed : Array Bool) : Bool := ((List.range p).all fun i => decide (i < m) || listed.getD i false) && !listed.getD p true

def wpAnyN (P : Program) (ops : Array Oper) (w : World) (m p : Nat) (X : Array Bool → Act → Prop) : Nat → Array Bool → Act → Prop
  | 0, listed, a => X listed a
  | f + 1, listed, a => if onlyLoose m p listed = true then stOp P ops w p (wpAnyN P ops w m p X f (listed.setIfInBounds p true)) a
      else Region.ready .any ops listed ≠ [] ∧ ∀ i ∈ Region.ready .any ops listed, i < p + 1 ∧ stOp P ops w i (wpAnyN P ops w m p X f (listed.setIfInBounds i true)) a

def sink3B (ops : Array Oper) (m p : Nat) : Bool :=
  (List.range p).all fun i => decide (i < m) || (List.range (p + 2)).any fun j => decide (i < j) && decide (j ≠ p) && Region.waitsFor .any ops j i

theorem tail_waits3 {m p : Nat} {listed : Array Bool} (hs : sink3B ops m p = true) (hc : chain2B ops (p + 1) = true) (inv : HeadInv .any ops (p + 1) listed) :
    ∀ (d i : Nat), p + 1 - i = d → m ≤ i → i < p → listed.getD i true = false → ∀ t, p + 1 ≤ t → t ∉ Region.ready .any ops listed := by
  intro d
  induction d using Nat.strongRecOn with
  | _ d ih =>
    intro i hd hmi hi hun t ht hr
    obtain ⟨_, ot, hot, hall⟩ := mem_ready.1 hr
    have htlt : t < ops.size := (Array.getElem?_eq_some_iff.1 hot).1
    by_cases htn : t = p + 1
    · have h1 := List.all_eq_true.1 hs i (List.mem_range.2 hi)
      simp only [Bool.or_eq_true, decide_eq_true_eq] at h1
      have h1 := h1.resolve_left (by omega)
      obtain ⟨j, hj, hj2⟩ := List.any_eq_true.1 h1
      simp only [Bool.and_eq_true, decide_eq_true_eq] at hj2
      obtain ⟨⟨hij, hjp⟩, hw⟩ := hj2
      obtain ⟨oj, hoj, e, he, hb, hon⟩ := Region.waitsFor_spec hw
      have hjle : j ≤ p + 1 := by have := List.mem_range.1 hj; omega
      by_cases hjt : j = t
      · subst hjt
        have : oj = ot := Option.some.inj (hoj.symm.trans hot)
        subst this
        have h2 := hall e he hb
        rw [hon, getD_both hun] at h2
        cases h2
      · cases hl : listed.getD j false with
        | true =>
          have h2 := inv.closed j oj hoj hl e he hb
          rw [hon, getD_both hun] at h2
          cases h2
        | false =>
          have hjs : j < listed.size := by rw [inv.size]; omega
          exact ih (p + 1 - j) (by omega) j rfl (by omega) (by omega) (getD_in hjs hl) t ht hr
    · have h1 := List.all_eq_true.1 hc t (List.mem_range.2 htlt)
      simp only [Bool.or_eq_true, decide_eq_true_eq] at h1
      rcases h1 with h1 | h1
      · omega
      · obtain ⟨j, hj, hj2⟩ := List.any_eq_true.1 h1
        simp only [Bool.and_eq_true, decide_eq_true_eq] at hj2
        have hjt := List.mem_range.1 hj
        obtain ⟨o', ho', e, he, hb, hon⟩ := Region.waitsFor_spec hj2.2
        have : o' = ot := Option.some.inj (ho'.symm.trans hot)
        subst this
        have h2 := hall e he hb
        rw [hon, getD_both (inv.tail j hj2.1 (by omega))] at h2
        cases h2

theorem onlyLoose_not {m p i : Nat} {listed : Array Bool} (hmi : m ≤ i) (hi : i < p) (hun : listed.getD i true = false) : onlyLoose m p listed = false := by
  unfold onlyLoose
  have : ((List.range p).all fun i => decide (i < m) || listed.getD i false) = false := by
    rw [List.all_eq_false]
    refine ⟨i, List.mem_range.2 hi, ?_⟩
    rw [getD_both hun]
    simp; omega
  rw [this]; rfl

theorem wpAnyN_first {w : World} {m p i : Nat} {oi : Oper} {v : Value} {X : Array Bool → Act → Prop} (hi : ops[i]? = some oi) (hsel : ∀ (j : Nat) (o : Oper) cs b, ops[j]? = some o → o.op ≠ .select cs b)
    (hs : sink3B ops m p = true) (hc : chain2B ops (p + 1) = true) (hn : p + 1 < ops.size) (hmi : m ≤ i) (hin : i < p)
    (hdone : ∀ listed a, X listed a → ∀ j ∈ Region.ready .any ops listed, p + 1 ≤ j) :
    ∀ (f : Nat) (listed : Array Bool) (a : Act), HeadInv .any ops (p + 1) listed → (∀ j, j < m → listed.getD j false = true) →
      (∀ j oj, ops[j]? = some oj → j ≠ i → listed.getD j true = false → (∀ e ∈ oj.after, Region.binds .any e = true → e.on ≠ i) → oi.apart ops oj = true) →
      i ∈ Region.ready .any ops listed → YieldsAt P ops w oi v a →
      wpAnyN P ops w m p X f (listed.setIfInBounds i true) (a.put oi.dst v) → wpAnyN P ops w m p X (f + 1) listed a := by
  intro f
  induction f with
  | zero =>
    intro listed a inv _ _ hr hy H
    have hun := (mem_ready.1 hr).1
    unfold wpAnyN
    rw [if_neg (by rw [onlyLoose_not hmi hin hun]; simp)]
    refine ⟨fun h => (by rw [h] at hr; cases hr), fun j hj => ?_⟩
    have hjn : j < p + 1 := by
      rcases Nat.lt_or_ge j (p + 1) with h | h
      · exact h
      · exact absurd hj (tail_waits3 hs hc inv _ i rfl hmi hin hun j h)
    refine ⟨hjn, ?_⟩
    by_cases hji : j = i
    · subst hji; exact hy.stOp hi H
    · have := hdone _ _ H j (ready_mono hj hji)
      omega
  | succ f ih =>
    intro listed a inv hlow hfree hr hy H
    have hun := (mem_ready.1 hr).1
    unfold wpAnyN
    rw [if_neg (by rw [onlyLoose_not hmi hin hun]; simp)]
    refine ⟨fun h => (by rw [h] at hr; cases hr), fun j hj => ?_⟩
    have hjn : j < p + 1 := by
      rcases Nat.lt_or_ge j (p + 1) with h | h
      · exact h
      · exact absurd hj (tail_waits3 hs hc inv _ i rfl hmi hin hun j h)
    refine ⟨hjn, ?_⟩
    by_cases hji : j = i
    · subst hji; exact hy.stOp hi H
    · obtain ⟨hjun, oj, hoj, hall⟩ := mem_ready.1 hj
      have h1 : stOp P ops w j (wpAnyN P ops w m p X f ((listed.setIfInBounds i true).setIfInBounds j true)) (a.put oi.dst v) := by
        unfold wpAnyN at H
        split at H
        · rename_i hl
          have hjp : j = p := by
            by_cases hjp : j = p
            · exact hjp
            · exfalso
              unfold onlyLoose at hl
              simp only [Bool.and_eq_true] at hl
              have h2 := List.all_eq_true.1 hl.1 j (List.mem_range.2 (by omega))
              simp only [Bool.or_eq_true, decide_eq_true_eq] at h2
              rcases h2 with h2 | h2
              · have h3 := hlow j h2
                rw [getD_both hjun] at h3
                cases h3
              · rw [getD_set_ne false (Ne.symm hji), getD_both hjun] at h2
                cases h2
          subst hjp
          exact H
        · exact (H.2 j (ready_mono hj hji)).2
      have hnot : ∀ e ∈ oj.after, Region.binds .any e = true → e.on ≠ i := fun e he hb heq => by
        have h1 := hall e he hb
        rw [heq, getD_both hun] at h1
        cases h1
      have h2 := stOp_put hoj (hfree j oj hoj hji hjun hnot) (fun cs b => hsel i oi cs b hi) (fun cs b => hsel j oj cs b hoj) hy h1
      have hfree' : ∀ k ok, ops[k]? = some ok → k ≠ i → (listed.setIfInBounds j true).getD k true = false →
          (∀ e ∈ ok.after, Region.binds .any e = true → e.on ≠ i) → oi.apart ops ok = true := fun k ok hk hki hun hno => by
        refine hfree k ok hk hki ?_ hno
        by_cases hjk : j = k
        · subst hjk; exact hjun
        · rw [getD_set_ne true hjk] at hun; exact hun
      refine stOp_mono (fun a' h3 => ih (listed.setIfInBounds j true) a' (inv.set hj hjn) (fun k hk => getD_set_true (hlow k hk)) hfree' (ready_mono hr (Ne.symm hji)) h3.1 ?_) h2
      rw [Array.setIfInBounds_comm _ _ hji]
      exact h3.2

theorem wpAnyN_lex {w : World} {m p : Nat} {op : Oper} {Lq : Act → Prop} (hp : ops[p]? = some op) (hsel : Region.noSelect ops = true) (hs : sink3B ops m p = true) (hc : chain2B ops (p + 1) = true) (hn : p + 1 < ops.size) :
    ∀ (l : List Oper) (k : Nat) (listed : Array Bool) (a : Act), (∀ j, j < l.length → l[j]? = ops[k + j]?) → m ≤ k → k + l.length = p → HeadInv .any ops (p + 1) listed → (∀ j, j < k → listed.getD j false = true) → listed.getD p true = false →
    freePB ops l.length k listed = true → ((Region.ready .any ops ((stepL l.length k listed).setIfInBounds p true)).all fun j => decide (p + 1 ≤ j)) = true → wpStill P ops w Lq (l ++ [op]) a →
    wpAnyN P ops w m p (fun listed' a' => listed' = (stepL l.length k listed).setIfInBounds p true ∧ Lq a') (l.length + 1) listed a
  | [], k, listed, a, _, _, hk, inv, hlow, hun, _, _, h => by
    simp only [List.length_nil, Nat.add_zero] at hk
    subst hk
    unfold wpAnyN
    have hl : onlyLoose m k listed = true := by
      unfold onlyLoose
      simp only [Bool.and_eq_true, Bool.not_eq_true']
      refine ⟨List.all_eq_true.2 fun i hi => ?_, hun⟩
      rw [hlow i (List.mem_range.1 hi)]; simp
    rw [if_pos hl]
    have hst : stOp P ops w k (wpStill P ops w Lq []) a := by unfold stOp; simp only [hp]; exact h
    exact stOp_mono (fun a' h' => ⟨rfl, h'⟩) hst
  | o :: l, k, listed, a, hl, hmk, hk, inv, hlow, hun, hB, hE, h => by
    have h0 : ops[k]? = some o := by simpa using (hl 0 (by simp)).symm
    simp only [List.length_cons, freePB, Bool.and_eq_true] at hB
    obtain ⟨⟨hr, hf⟩, hB'⟩ := hB
    have hkn : k < p := by simp only [List.length_cons] at hk; omega
    have hr' : k ∈ Region.ready .any ops listed := by simpa using hr
    have hst : stOp P ops w k (wpStill P ops w Lq (l ++ [op])) a := by unfold stOp; simp only [h0]; exact h
    obtain ⟨v, hy, hK⟩ := yieldsAt_of_stOp h0 hst
    have e : stepL (o :: l).length k listed = stepL l.length (k + 1) (listed.setIfInBounds k true) := rfl
    rw [e] at hE ⊢
    exact wpAnyN_first h0 (Region.noSelect_spec hsel) hs hc hn hmk hkn (fun listed' a' hL j hj => by
      rw [hL.1] at hj
      simpa using List.all_eq_true.1 hE j hj) (l.length + 1) listed a inv (fun j hj => hlow j (by omega)) (Region.free_spec h0 hf) hr' hy
      (wpAnyN_lex hp hsel hs hc hn l (k + 1) _ _ (fun j hj => by have := hl (j + 1) (by simp; omega); simpa [Nat.add_assoc, Nat.add_comm 1 j] using this) (by omega) (by simp only [List.length_cons] at hk; omega) (inv.set hr' (by omega)) (fun j hj => by
        by_cases e : j = k
        · subst e
          have hlt : j < listed.size := by rw [inv.size]; omega
          simp [hlt]
        · exact getD_set_true (hlow j (by omega))) (by rw [getD_set_ne true (by omega)]; exact hun) hB' hE hK)

theorem getD_stepL : ∀ (n k : Nat) (L : Array Bool) (j : Nat) (d : Bool), (stepL n k L).getD j d = if k ≤ j ∧ j < k + n ∧ j < L.size then true else L.getD j d
  | 0, k, L, j, d => by
    rw [if_neg (by omega)]; rfl
  | n + 1, k, L, j, d => by
    show (stepL n (k + 1) (L.setIfInBounds k true)).getD j d = _
    rw [getD_stepL n (k + 1) _ j d]
    by_cases hj : j = k
    · subst hj
      rw [if_neg (by omega)]
      by_cases hs : j < L.size
      · rw [if_pos (by omega)]; simp [hs]
      · rw [if_neg (by omega)]; simp [hs]
    · rw [getD_set_ne d (fun e => hj e.symm)]
      simp only [Array.size_setIfInBounds]
      by_cases h : k + 1 ≤ j ∧ j < k + 1 + n ∧ j < L.size
      · rw [if_pos h, if_pos (by omega)]
      · rw [if_neg h, if_neg (by omega)]
theorem size_stepL : ∀ (n k : Nat) (L : Array Bool), (stepL n k L).size = L.size
  | 0, _, _ => rfl
  | n + 1, k, L => by
    show (stepL n (k + 1) (L.setIfInBounds k true)).size = _
    rw [size_stepL n (k + 1)]; simp

theorem array_ext_getD {L M : Array Bool} (hs : L.size = M.size) (h : ∀ j, j < L.size → L.getD j false = M.getD j false) : L = M := by
  apply Array.ext hs
  intro j h1 h2
  have := h j h1
  simp [h1, h2] at this
  exact this

theorem anyH_of_N {w : World} {m p g : Nat} {op : Oper} {X : Array Bool → Act → Prop} {Q : Exit → Act → World → Prop} (hp : ops[p]? = some op) (hsel : Region.noSelect ops = true) (hQ : ∀ c a a' w, Q (.panic c) a w → Q (.panic c) a' w)
    (hpure : ∀ v a, YieldsAt P ops w op v a → YieldsIf P ops (fun _ => True) op v a)
    (hr : (Region.ready .any ops (stepL p 0 (Array.replicate ops.size false))).contains p = true) (hf : Region.free .any ops (stepL p 0 (Array.replicate ops.size false)) p = true)
    (hX : ∀ listed a, X listed a → wpAnyH P .any ops Q (fun _ => True) g listed a w) :
    ∀ (f : Nat) (listed : Array Bool) (a : Act), listed.size = ops.size → (∀ j, j < m → listed.getD j false = true) → (∀ t, p + 1 ≤ t → t < ops.size → listed.getD t true = false) → wpAnyN P ops w m p X f listed a →
      wpAnyH P .any ops Q (fun _ => True) (f + g) listed a w
  | 0, listed, a, _, _, _, h => by rw [Nat.zero_add]; exact hX _ _ h
  | f + 1, listed, a, hsz, hlow, htail, h => by
    have hplt : p < ops.size := (Array.getElem?_eq_some_iff.1 hp).1
    rw [show f + 1 + g = (f + g) + 1 by omega]
    have nxt : ∀ i, i < p + 1 → ∀ a', wpAnyN P ops w m p X f (listed.setIfInBounds i true) a' → wpAnyH P .any ops Q (fun _ => True) (f + g) (listed.setIfInBounds i true) a' w := fun i hi a' h' =>
      anyH_of_N hp hsel hQ hpure hr hf hX f _ a' (by simp [hsz]) (fun j hj => getD_set_true (hlow j hj)) (fun t ht ht2 => by rw [getD_set_ne true (by omega)]; exact htail t ht ht2) h'
    unfold wpAnyN at h
    split at h
    · rename_i hl
      unfold onlyLoose at hl
      simp only [Bool.and_eq_true, Bool.not_eq_true'] at hl
      have e : listed = stepL p 0 (Array.replicate ops.size false) := by
        apply array_ext_getD
        · rw [size_stepL, hsz]; simp
        · intro j hj
          rw [getD_stepL, getD_replicate_false]
          have hsr : (Array.replicate ops.size false).size = ops.size := by simp
          rw [hsr]
          by_cases hjp : j < p
          · rw [if_pos (by omega)]
            have := List.all_eq_true.1 hl.1 j (List.mem_range.2 hjp)
            simp only [Bool.or_eq_true, decide_eq_true_eq] at this
            rcases this with h | h
            · exact hlow j h
            · exact h
          · rw [if_neg (by omega)]
            by_cases hjp2 : j = p
            · subst hjp2; exact getD_both hl.2
            · exact getD_both (htail j (by omega) (by omega))
      obtain ⟨v, hy, hk⟩ := yieldsAt_of_stOp hp h
      refine wpAnyH_take hp hsel (by rw [e]; exact hf) (by rw [e]; exact hr) (fun c a w hp => hQ c _ a w hp) (hpure v a hy) trivial ?_
      exact nxt p (by omega) _ hk
    · refine ⟨fun h0 => absurd h0 h.1, fun i hi => ?_⟩
      obtain ⟨h1, h2⟩ := h.2 i hi
      exact wpOp_of_stOp (fun a' h' => ⟨trivial, nxt i h1 a' h'⟩) h2
end

def isPick : Op → Bool
  | .pick .. => true
  | _ => false

theorem pick_pure {P : Program} {ops : Array Oper} {w : World} {o : Oper} (ho : isPick o.op = true) (v : Value) (a : Act) (h : YieldsAt P ops w o v a) : YieldsIf P ops (fun _ => True) o v a := by
  rcases h with ⟨hw, h⟩ | h
  · refine Or.inl ⟨hw, ?_⟩
    intro w' _
    cases e : o.op <;> rw [e] at ho <;> simp only [isPick, Bool.false_eq_true] at ho
    case pick c x y =>
      unfold execOp at h ⊢
      rw [e] at h ⊢
      simp only [] at h ⊢
      cases hb : a.eval c with
      | bool b =>
        rw [hb] at h
        simp [asBool] at h ⊢
        exact h
      | _ => rw [hb] at h; simp [asBool, Result.andThen] at h
  · exact Or.inr h

/-- m moves that nothing orders; readings up to p; number p, a pick that may come up behind the writes too; the rest in forced order. -/
def looseB (l : List Oper) (m p : Nat) : Bool :=
  let ops := l.toArray
  let L0 := Array.replicate ops.size false
  let L1 := stepL m 0 L0
  let Lp := stepL (p - m) m L1
  Region.noSelect ops && decide (m ≤ p) && decide (p + 1 < ops.size) && ((l.take m).all fun o => opVal o.op) && preB ops ops m 0 L0 && sink3B ops m p && chain2B ops (p + 1) && freePB ops (p - m) m L1 &&
    ((Region.ready .any ops (Lp.setIfInBounds p true)).all fun j => decide (p + 1 ≤ j)) && (((l.take (p + 1)).drop m).all fun o => opCalm o.op) &&
    (Region.ready .any ops (stepL p 0 L0)).contains p && Region.free .any ops (stepL p 0 L0) p && Region.seqB .any ops (ops.size - (p + 1)) (p + 1) (Lp.setIfInBounds p true) && ((l[p]?).map fun o => isPick o.op) == some true

theorem wp_region_loose {P : Program} {Q : Exit → Act → World → Prop} {id : Nat} {a : Act} {w : World} {l : List Oper} (m p : Nat) (hm : P.follows .mixedOrders = true) (hB : looseB l m p = true)
    (h : wpQuiet P l.toArray (fun _ => True) (fun a1 => wpQuiet P l.toArray (fun w' => ∃ n, w' = w.drewN n) (fun a' => wpList P l.toArray (NoPanic Q) (l.drop (p + 1)) a' w.drew) ((l.take (p + 1)).drop m) a1) (l.take m) a) :
    (Code.region id l.toArray true).wp P Q a w := by
  simp only [looseB, Bool.and_eq_true, decide_eq_true_eq, beq_iff_eq] at hB
  obtain ⟨⟨⟨⟨⟨⟨⟨⟨⟨⟨⟨⟨⟨hs, hmp⟩, hn⟩, hv⟩, hpre⟩, hsink⟩, hchain⟩, hfree⟩, hge⟩, hcalm⟩, hr⟩, hf⟩, hend⟩, hpick⟩ := hB
  have hn' : p + 1 < l.length := by simpa using hn
  obtain ⟨op, hop, hpk⟩ : ∃ op, l[p]? = some op ∧ isPick op.op = true := by
    cases e : l[p]? with
    | none => rw [e] at hpick; cases hpick
    | some op => rw [e] at hpick; exact ⟨op, rfl, by simpa using hpick⟩
  have hop' : l.toArray[p]? = some op := by simpa using hop
  have htm : (l.take m).length = m := by simp; omega
  have hmid : ((l.take p).drop m).length = p - m := by simp; omega
  have hsplit : (l.take (p + 1)).drop m = (l.take p).drop m ++ [op] := by
    have e1 : l.take (p + 1) = l.take p ++ [op] := by
      rw [List.take_add_one, hop]; rfl
    rw [e1, List.drop_append_of_le_length (by simp; omega)]
  have hdl : (l.drop (p + 1)).length = l.toArray.size - (p + 1) := by simp
  have hQ : ∀ c a a' w, NoPanic Q (.panic c) a w → NoPanic Q (.panic c) a' w := fun c a a' w hp => by unfold NoPanic at hp; simp at hp
  have inv0 : HeadInv .any l.toArray (p + 1) (Array.replicate l.toArray.size false) :=
    ⟨by simp, fun j oj _ hl => (by rw [getD_replicate_false] at hl; cases hl), fun t _ ht => getD_in (by simpa using ht) (getD_replicate_false _ _)⟩
  refine wp_region_noPanic (wp_region_held (S := fun _ => True) hm ?_)
  have H := pre_go (P := P) (Q := NoPanic Q) (ops := l.toArray) (ops2 := l.toArray) (n := p + 1) (fuel := l.toArray.size - m) (w := w.drew) hs hQ
    (l.take m) 0 (Array.replicate l.toArray.size false) a (fun j hj => by
      have hj' : j < m := by rw [htm] at hj; exact hj
      simp [hj']) hv (by rw [htm]; exact hpre) inv0 (by rw [htm]; omega) (fun j hj => absurd hj (Nat.not_lt_zero _)) h (fun a1 hi hb hk => by
      rw [htm] at hi hb ⊢
      have hst := still_of_quiet ⟨1, rfl⟩ _ _ hcalm hk
      rw [hsplit] at hst
      have HN := wpAnyN_lex (P := P) (ops := l.toArray) (w := w.drew) (m := m) (p := p) hop' hs hsink hchain hn ((l.take p).drop m) m _ a1 (fun j hj => by
        have hlt : m + j < p := by rw [hmid] at hj; omega
        simp only [List.getElem?_toArray]
        rw [List.getElem?_drop, List.getElem?_take_of_lt hlt]) (Nat.le_refl _) (by rw [hmid]; omega) hi (fun j hj => hb j (by omega)) (by
          rw [getD_stepL, if_neg (by omega)]
          exact getD_in (by simp; omega) (getD_replicate_false _ _)) (by rw [hmid]; exact hfree) (by rw [hmid]; exact hge) hst
      rw [hmid] at HN
      have HH := anyH_of_N (P := P) (ops := l.toArray) (w := w.drew) (m := m) (p := p) (g := l.toArray.size - (p + 1)) (Q := NoPanic Q) hop' hs hQ (fun v a => pick_pure hpk v a) hr hf (fun listed a' hL => by
        obtain ⟨rfl, hL2⟩ := hL
        have H5 := any_seq_end (P := P) (ops := l.toArray) (Q := NoPanic Q) (l.drop (p + 1)) (p + 1) ((stepL (p - m) m (stepL m 0 (Array.replicate l.toArray.size false))).setIfInBounds p true) a' w.drew (fun j => by simp [List.getElem?_drop]) (by rw [hdl]; exact hend) hL2
        rw [hdl] at H5
        exact H5) _ _ _ hi.size (fun j hj => hb j (by omega)) (fun t ht ht2 => hi.tail t ht ht2) HN
      rw [show p - m + 1 + (l.toArray.size - (p + 1)) = l.toArray.size - m by omega] at HH
      exact HH)
  rw [htm, show m + (l.toArray.size - m) = l.toArray.size by omega] at H
  exact H
end Go.Proofs.YtcpjclakdpjjfaaGreatDoor

namespace Go.Proofs.YtcpjclakdpjjfaaGreatDoor
open Go.RowKit

theorem MidQ.norm {Q : Exit → Act → World → Prop} {X : Act → World → Prop} {a : Act} {w : World} (h : X a w) : MidQ Q X .normal a w := h

/-- What QuoRem comes to: quotient at pz, rest at pr. -/
def QrEnd (w : World) (pz : Nat) (oz : Option Nat) (pr : Nat) (or_ : Option Nat) (g1 : Bool) (q : Nat) (g2 : Bool) (r : Nat) (e : Ending) (w' : World) : Prop :=
  ∃ v1 o1 v2 o2, e = .returned (.tuple #[ptr pz, ptr pr]) ∧ IntC w' pz g1 v1 o1 q ∧ IntC w' pr g2 v2 o2 r ∧ Fr (fun k => k = pz ∨ k = pr ∨ oz = some k ∨ or_ = some k) w w' ∧
    (o1 = oz ∨ ∃ b, o1 = some b ∧ w.heap.size ≤ b) ∧ (o2 = or_ ∨ ∃ b, o2 = some b ∧ w.heap.size ≤ b) ∧ (∀ b, o1 = some b → o2 ≠ some b) ∧ Hi pz w w'

theorem qr_fin {w w1 : World} {pz pr : Nat} {gz gr : Bool} {vz vr : Value} {oz or_ : Option Nat} {nz nr : Nat} (hz : IntC w pz gz vz oz nz) (hr : IntC w pr gr vr or_ nr) (nzr : pz ≠ pr) {v1 v2 : Value} {o1 o2 : Option Nat} {q r : Nat}
    (h1 : NatV w1 v1 o1 q) (h2 : NatV w1 v2 o2 r) (hf : Fr (fun k => oz = some k ∨ or_ = some k) w w1) (a1 : o1 = oz ∨ ∃ b, o1 = some b ∧ w.heap.size ≤ b) (a2 : o2 = or_ ∨ ∃ b, o2 = some b ∧ w.heap.size ≤ b) (dis : ∀ b, o1 = some b → o2 ≠ some b) :
    w1.frozen? ⟨pz, 1, none⟩ = false ∧ w1.cell? ⟨pz, 1, none⟩ = some vz ∧
    (w1.setCell ⟨pz, 1, none⟩ v1).frozen? ⟨pr, 1, none⟩ = false ∧ (w1.setCell ⟨pz, 1, none⟩ v1).cell? ⟨pr, 1, none⟩ = some vr ∧
    ((w1.setCell ⟨pz, 1, none⟩ v1).setCell ⟨pr, 1, none⟩ v2).cell? ⟨pz, 1, none⟩ = some v1 ∧ ((w1.setCell ⟨pz, 1, none⟩ v1).setCell ⟨pr, 1, none⟩ v2).cell? ⟨pr, 1, none⟩ = some v2 ∧
    ((w1.setCell ⟨pz, 1, none⟩ v1).setCell ⟨pr, 1, none⟩ v2).frozen? ⟨pz, 0, none⟩ = false ∧ ((w1.setCell ⟨pz, 1, none⟩ v1).setCell ⟨pr, 1, none⟩ v2).cell? ⟨pz, 0, none⟩ = some (.bool gz) ∧
    (∀ k g, ((((w1.setCell ⟨pz, 1, none⟩ v1).setCell ⟨pr, 1, none⟩ v2).drewN k).setCell ⟨pz, 0, none⟩ (.bool g)).frozen? ⟨pr, 0, none⟩ = false ∧ ((((w1.setCell ⟨pz, 1, none⟩ v1).setCell ⟨pr, 1, none⟩ v2).drewN k).setCell ⟨pz, 0, none⟩ (.bool g)).cell? ⟨pr, 0, none⟩ = some (.bool gr)) ∧
    (∀ g1 g2 k, (g1 = true → q ≠ 0) → (g2 = true → r ≠ 0) → QrEnd w pz oz pr or_ g1 q g2 r (.returned (.tuple #[ptr pz, ptr pr])) (((((w1.setCell ⟨pz, 1, none⟩ v1).setCell ⟨pr, 1, none⟩ v2).drewN k).setCell ⟨pz, 0, none⟩ (.bool g1)).setCell ⟨pr, 0, none⟩ (.bool g2))) := by
  have dz : ¬ (oz = some pz ∨ or_ = some pz) := by
    rintro (e | e)
    · exact hz.far e
    · exact hr.nat.sto.ne_bool hz.c0 e
  have dr : ¬ (oz = some pr ∨ or_ = some pr) := by
    rintro (e | e)
    · exact hz.nat.sto.ne_bool hr.c0 e
    · exact hr.far e
  have pz1 : Plain w1 pz := hz.plain.frame hf dz
  have pr1 : Plain w1 pr := hr.plain.frame hf dr
  have z1 := cell_frame hz.c1 hf dz
  have z0 := cell_frame hz.c0 hf dz
  have r1 := cell_frame hr.c1 hf dr
  have r0 := cell_frame hr.c0 hf dr
  have ob : ∀ {o : Option Nat} {x : Option Nat} {p : Nat}, (o = x ∨ ∃ b, o = some b ∧ w.heap.size ≤ b) → p < w.heap.size → x ≠ some p → o ≠ some p := by
    intro o x p h hp hx
    rcases h with e | ⟨b, e, hb⟩
    · rw [e]; exact hx
    · rw [e]; intro f; cases f; omega
  have o1z := ob a1 hz.lt (fun e => dz (Or.inl e))
  have o1r := ob a1 hr.lt (fun e => dr (Or.inl e))
  have o2z := ob a2 hz.lt (fun e => dz (Or.inr e))
  have o2r := ob a2 hr.lt (fun e => dr (Or.inr e))
  have ne : ∀ {i j : Nat}, (⟨pz, i, none⟩ : Addr) ≠ ⟨pr, j, none⟩ := fun e => nzr (congrArg Addr.block e)
  have ne' : ∀ {i j : Nat}, (⟨pr, i, none⟩ : Addr) ≠ ⟨pz, j, none⟩ := fun e => nzr (congrArg Addr.block e).symm
  have n10 : ∀ {p : Nat}, (⟨p, 1, none⟩ : Addr) ≠ ⟨p, 0, none⟩ := fun e => by cases e
  refine ⟨pz1.free 1, z1, (pr1.setCell _ _).free 1, ?_, ?_, ?_, ((pz1.setCell _ _).setCell _ _).free 0, ?_, ?_, ?_⟩
  · rw [World.cell?_setCell_other _ _ _ _ ne]; exact r1
  · rw [World.cell?_setCell_other _ _ _ _ ne']; exact World.cell?_setCell_same _ _ _ z1
  · exact World.cell?_setCell_same _ _ _ ((World.cell?_setCell_other _ _ _ _ ne).trans r1)
  · rw [World.cell?_setCell_other _ _ _ _ ne', World.cell?_setCell_other _ _ _ _ n10]; exact z0
  · intro k g
    refine ⟨((((pr1.setCell _ _).setCell _ _).drewN k).setCell _ _).free 0, ?_⟩
    rw [World.cell?_setCell_other _ _ _ _ ne]
    show ((w1.setCell ⟨pz, 1, none⟩ v1).setCell ⟨pr, 1, none⟩ v2).cell? ⟨pr, 0, none⟩ = _
    rw [World.cell?_setCell_other _ _ _ _ n10, World.cell?_setCell_other _ _ _ _ ne]; exact r0
  · intro g1 g2 k c1 c2
    have f : Fr (fun i => i = pz ∨ i = pr) w1 (((((w1.setCell ⟨pz, 1, none⟩ v1).setCell ⟨pr, 1, none⟩ v2).drewN k).setCell ⟨pz, 0, none⟩ (.bool g1)).setCell ⟨pr, 0, none⟩ (.bool g2)) :=
      ((((Fr.setCell (S := fun i => i = pz ∨ i = pr) _ _ _ (fun _ => Or.inl rfl)).trans (Fr.setCell (S := fun i => i = pz ∨ i = pr) _ _ _ (fun _ => Or.inr rfl)) (fun _ _ h => h)).trans (Fr.drewN _ _ k) (fun _ _ h => h)).trans (Fr.setCell (S := fun i => i = pz ∨ i = pr) _ _ _ (fun _ => Or.inl rfl)) (fun _ _ h => h)).trans (Fr.setCell (S := fun i => i = pz ∨ i = pr) _ _ _ (fun _ => Or.inr rfl)) (fun _ _ h => h)
    have q0 : ((w1.setCell ⟨pz, 1, none⟩ v1).setCell ⟨pr, 1, none⟩ v2).cell? ⟨pz, 0, none⟩ = some (.bool gz) := by
      rw [World.cell?_setCell_other _ _ _ _ ne', World.cell?_setCell_other _ _ _ _ n10]; exact z0
    refine ⟨v1, o1, v2, o2, rfl, ⟨((((pz1.setCell _ _).setCell _ _).drewN k).setCell _ _).setCell _ _, ?_, ?_, h1.frame f (fun b hb e => by rcases e with e | e; exact o1z (e ▸ hb); exact o1r (e ▸ hb)), c1, o1z⟩,
      ⟨((((pr1.setCell _ _).setCell _ _).drewN k).setCell _ _).setCell _ _, ?_, ?_, h2.frame f (fun b hb e => by rcases e with e | e; exact o2z (e ▸ hb); exact o2r (e ▸ hb)), c2, o2r⟩, ?_, a1, a2, dis, ?_⟩
    · rw [World.cell?_setCell_other _ _ _ _ ne']
      exact World.cell?_setCell_same _ _ _ q0
    · rw [World.cell?_setCell_other _ _ _ _ ne', World.cell?_setCell_other _ _ _ _ (fun e => n10 e.symm)]
      show ((w1.setCell ⟨pz, 1, none⟩ v1).setCell ⟨pr, 1, none⟩ v2).cell? ⟨pz, 1, none⟩ = _
      rw [World.cell?_setCell_other _ _ _ _ ne']; exact World.cell?_setCell_same _ _ _ z1
    · refine World.cell?_setCell_same _ _ _ (u := .bool gr) ?_
      rw [World.cell?_setCell_other _ _ _ _ ne]
      show ((w1.setCell ⟨pz, 1, none⟩ v1).setCell ⟨pr, 1, none⟩ v2).cell? ⟨pr, 0, none⟩ = _
      rw [World.cell?_setCell_other _ _ _ _ n10, World.cell?_setCell_other _ _ _ _ ne]; exact r0
    · rw [World.cell?_setCell_other _ _ _ _ (fun e => n10 e.symm), World.cell?_setCell_other _ _ _ _ ne]
      show ((w1.setCell ⟨pz, 1, none⟩ v1).setCell ⟨pr, 1, none⟩ v2).cell? ⟨pr, 1, none⟩ = _
      exact World.cell?_setCell_same _ _ _ ((World.cell?_setCell_other _ _ _ _ ne).trans r1)
    · exact (hf.mono (fun _ _ h => Or.inr (Or.inr h))).trans f (fun i _ h => by
        rcases h with h | h
        · exact Or.inl h
        · exact Or.inr (Or.inl h))
    · refine (Hi.fr hf hz.lt dz).trans ?_
      have e1 : Hi pz w1 ((w1.setCell ⟨pz, 1, none⟩ v1).setCell ⟨pr, 1, none⟩ v2) := (Hi.set1 pz w1 v1).trans (World.cell?_setCell_other _ _ _ _ ne')
      have e2 : Hi pz ((w1.setCell ⟨pz, 1, none⟩ v1).setCell ⟨pr, 1, none⟩ v2) (((w1.setCell ⟨pz, 1, none⟩ v1).setCell ⟨pr, 1, none⟩ v2).drewN k) := rfl
      exact ((e1.trans e2).trans (Hi.set0 pz _ _)).trans (World.cell?_setCell_other _ _ _ _ ne')

set_option maxHeartbeats 4000000 in
set_option maxRecDepth 100000 in
theorem quoRem_any (pz px py pr : Nat) (gz gx gy gr : Bool) (vz vx vy vr : Value) (oz ox oy or_ : Option Nat) (nz nx ny nr : Nat) (w : World) (hz : IntC w pz gz vz oz nz) (hx : IntC w px gx vx ox nx) (hy : IntC w py gy vy oy ny) (hr : IntC w pr gr vr or_ nr)
    (nzx : pz ≠ px) (nzy : pz ≠ py) (nzr : pz ≠ pr) (nrx : pr ≠ px) (nry : pr ≠ py)
    (D : Calls Tryz.prog 155 #[vz, .pointer none, vr, vx, vy] w.drew (DivEnd w.drew oz or_ (nx / ny) (nx % ny))) :
    Calls Tryz.prog 149 #[.pointer (some ⟨pz, 0, none⟩), .pointer (some ⟨px, 0, none⟩), .pointer (some ⟨py, 0, none⟩), .pointer (some ⟨pr, 0, none⟩)] w
      (QrEnd w pz oz pr or_ (if nx / ny = 0 then false else gx != gy) (nx / ny) (if nx % ny = 0 then false else gx) (nx % ny)) := by
  obtain ⟨q, hq⟩ : ∃ q, q = nx / ny := ⟨_, rfl⟩
  obtain ⟨r, hre⟩ : ∃ r, r = nx % ny := ⟨_, rfl⟩
  rw [← hq, ← hre] at D
  rw [← hq, ← hre]
  obtain ⟨G1, hG1⟩ : ∃ G, G = (if q = 0 then false else gx != gy) := ⟨_, rfl⟩
  obtain ⟨G2, hG2⟩ : ∃ G, G = (if r = 0 then false else gx) := ⟨_, rfl⟩
  rw [← hG1, ← hG2]
  replace hq := Lib.hid hq
  replace hre := Lib.hid hre
  replace hG1 := Lib.hid hG1
  replace hG2 := Lib.hid hG2
  replace D := Lib.hid D
  have z1 := hz.c1
  have r1 := hr.c1
  have x1 := hx.c1
  have y1 := hy.c1
  replace hz := Lib.hid hz
  replace hx := Lib.hid hx
  replace hy := Lib.hid hy
  replace hr := Lib.hid hr
  go_enter Tryz.func149, Tryz.ntmps149
  go_wp2_with fail
  refine wp_region_parts 2 18 20 22 (by kernel_rfl) (by kernel_rfl) ?_
  simp only [List.take_succ_cons, List.take_zero, List.drop_succ_cons, List.drop_zero]
  repeat (go_big_quiet_step (fail))
  refine wpQuiet_nil ?_
  repeat (go_big_quiet_step (fail))
  refine wpQuiet_nil ?_
  go_wp2_with fail
  refine D.out.mono ?_
  rintro e w1 ⟨v1, o1, v2, o2, rfl, h1, h2, hf, a1, a2, dis⟩
  have hf0 : Fr (fun k => oz = some k ∨ or_ = some k) w w1 := (Fr.drew _ w).trans hf (fun _ _ h => h)
  obtain ⟨k1, k2, k3, k4, k5, k6, k7, k8, k9, fin⟩ := qr_fin hz.out hr.out nzr h1 h2 hf0 a1 a2 dis
  have cx0 : ((w1.setCell ⟨pz, 1, none⟩ v1).setCell ⟨pr, 1, none⟩ v2).cell? ⟨px, 0, none⟩ = some (.bool gx) := by
    rw [World.cell?_setCell_other _ _ _ _ (fun e => nrx (congrArg Addr.block e)), World.cell?_setCell_other _ _ _ _ (fun e => nzx (congrArg Addr.block e))]
    exact cell_frame hx.out.c0 hf0 (fun e => by rcases e with e | e; exact hz.out.nat.sto.ne_bool hx.out.c0 e; exact hr.out.nat.sto.ne_bool hx.out.c0 e)
  have cy0 : ((w1.setCell ⟨pz, 1, none⟩ v1).setCell ⟨pr, 1, none⟩ v2).cell? ⟨py, 0, none⟩ = some (.bool gy) := by
    rw [World.cell?_setCell_other _ _ _ _ (fun e => nry (congrArg Addr.block e)), World.cell?_setCell_other _ _ _ _ (fun e => nzy (congrArg Addr.block e))]
    exact cell_frame hy.out.c0 hf0 (fun e => by rcases e with e | e; exact hz.out.nat.sto.ne_bool hy.out.c0 e; exact hr.out.nat.sto.ne_bool hy.out.c0 e)
  have hl1 : ∃ a m c, v1 = .slice a m c ∧ ((m = 0 ∧ q = 0) ∨ ((0 : Int) < m ∧ q ≠ 0)) := by
    rcases h1.split with ⟨e, a, c, rfl⟩ | ⟨b, l, m, _, H⟩
    · exact ⟨a, 0, c, rfl, Or.inl ⟨rfl, e⟩⟩
    · have := H.pos
      have := H.npos
      exact ⟨_, m, _, H.val, Or.inr ⟨by omega, by omega⟩⟩
  have hl2 : ∃ a m c, v2 = .slice a m c ∧ ((m = 0 ∧ r = 0) ∨ ((0 : Int) < m ∧ r ≠ 0)) := by
    rcases h2.split with ⟨e, a, c, rfl⟩ | ⟨b, l, m, _, H⟩
    · exact ⟨a, 0, c, rfl, Or.inl ⟨rfl, e⟩⟩
    · have := H.pos
      have := H.npos
      exact ⟨_, m, _, H.val, Or.inr ⟨by omega, by omega⟩⟩
  obtain ⟨A1, M1, C1, rfl, hl1⟩ := hl1
  obtain ⟨A2, M2, C2, rfl, hl2⟩ := hl2
  replace fin := Lib.hid fin
  replace h1 := Lib.hid h1
  replace h2 := Lib.hid h2
  replace hf := Lib.hid hf
  replace hf0 := Lib.hid hf0
  replace a1 := Lib.hid a1
  replace a2 := Lib.hid a2
  replace dis := Lib.hid dis
  replace hl1 := Lib.hid hl1
  replace hl2 := Lib.hid hl2
  replace k9 := Lib.hid k9
  clear z1 r1 x1 y1 D
  go_wp2_with fail
  refine MidQ.norm ?_
  repeat (go_big_quiet_step (fail))
  refine wpQuiet_nil ?_
  go_wp2_with fail
  refine NoPanic.normal ?_
  go_wp2_with fail
  obtain ⟨w2, hW2⟩ : ∃ w2, w2 = (w1.setCell ⟨pz, 1, none⟩ (.slice A1 M1 C1)).setCell ⟨pr, 1, none⟩ (.slice A2 M2 C2) := ⟨_, rfl⟩
  rw [← hW2] at k5 k6 k7 k8 cx0 cy0
  rw [← hW2]
  replace hW2 := Lib.hid hW2
  clear k1 k2 k3 k4
  rcases hl1.out with ⟨rfl, hq0⟩ | ⟨hm1, hq0⟩ <;> rcases hl2.out with ⟨rfl, hr0⟩ | ⟨hm2, hr0⟩
  all_goals
    replace hq0 := Lib.hid hq0
    replace hr0 := Lib.hid hr0
  · have f9 : ∀ g, (w2.setCell ⟨pz, 0, none⟩ (.bool g)).frozen? ⟨pr, 0, none⟩ = false := fun g => by rw [hW2.out]; exact (k9.out 0 g).1
    have c9 : ∀ g, (w2.setCell ⟨pz, 0, none⟩ (.bool g)).cell? ⟨pr, 0, none⟩ = some (.bool gr) := fun g => by rw [hW2.out]; exact (k9.out 0 g).2
    refine wp_region_loose 2 30 (by kernel_rfl) (by kernel_rfl) ?_
    simp only [List.take_succ_cons, List.take_zero, List.drop_succ_cons, List.drop_zero]
    repeat (go_big_quiet_step (fail))
    refine wpQuiet_nil ?_
    repeat (go_big_quiet_step (fail))
    refine wpQuiet_nil ?_
    go_wp2_with fail
    refine NoPanic.normal ?_
    go_wp2_with fail
    go_ret2
    have F := fin.out G1 G2 1 (fun e h => by rw [hG1.out, if_pos h] at e; cases e) (fun e h => by rw [hG2.out, if_pos h] at e; cases e)
    rw [hW2.out]
    have e1 : G1 = false := by rw [hG1.out, if_pos hq0.out]
    have e2 : G2 = false := by rw [hG2.out, if_pos hr0.out]
    rw [e1, e2] at F ⊢
    exact F
  · have f9 : ∀ g, (w2.setCell ⟨pz, 0, none⟩ (.bool g)).frozen? ⟨pr, 0, none⟩ = false := fun g => by rw [hW2.out]; exact (k9.out 0 g).1
    have c9 : ∀ g, (w2.setCell ⟨pz, 0, none⟩ (.bool g)).cell? ⟨pr, 0, none⟩ = some (.bool gr) := fun g => by rw [hW2.out]; exact (k9.out 0 g).2
    refine wp_region_loose 2 30 (by kernel_rfl) (by kernel_rfl) ?_
    simp only [List.take_succ_cons, List.take_zero, List.drop_succ_cons, List.drop_zero]
    repeat (go_big_quiet_step (fail))
    refine wpQuiet_nil ?_
    have hb2 : 0 < M2 := by omega
    repeat (go_big_quiet_step (fail))
    refine wpQuiet_nil ?_
    go_wp2_with fail
    refine NoPanic.normal ?_
    go_wp2_with fail
    go_ret2
    have F := fin.out G1 G2 1 (fun e h => by rw [hG1.out, if_pos h] at e; cases e) (fun e h => by rw [hG2.out, if_pos h] at e; cases e)
    rw [hW2.out]
    have e1 : G1 = false := by rw [hG1.out, if_pos hq0.out]
    have e2 : G2 = gx := by rw [hG2.out, if_neg hr0.out]
    rw [e1, e2] at F ⊢
    exact F
  · have f9 : ∀ g, (w2.setCell ⟨pz, 0, none⟩ (.bool g)).frozen? ⟨pr, 0, none⟩ = false := fun g => by rw [hW2.out]; exact (k9.out 0 g).1
    have c9 : ∀ g, (w2.setCell ⟨pz, 0, none⟩ (.bool g)).cell? ⟨pr, 0, none⟩ = some (.bool gr) := fun g => by rw [hW2.out]; exact (k9.out 0 g).2
    refine wp_region_loose 2 30 (by kernel_rfl) (by kernel_rfl) ?_
    simp only [List.take_succ_cons, List.take_zero, List.drop_succ_cons, List.drop_zero]
    repeat (go_big_quiet_step (fail))
    refine wpQuiet_nil ?_
    have hb1 : 0 < M1 := by omega
    repeat (go_big_quiet_step (fail))
    refine wpQuiet_nil ?_
    go_wp2_with fail
    refine NoPanic.normal ?_
    go_wp2_with fail
    go_ret2
    have F := fin.out G1 G2 1 (fun e h => by rw [hG1.out, if_pos h] at e; cases e) (fun e h => by rw [hG2.out, if_pos h] at e; cases e)
    rw [hW2.out]
    have e1 : G1 = (gx != gy) := by rw [hG1.out, if_neg hq0.out]
    have e2 : G2 = false := by rw [hG2.out, if_pos hr0.out]
    rw [e1, e2] at F ⊢
    exact F
  · have f9 : ∀ g, (w2.setCell ⟨pz, 0, none⟩ (.bool g)).frozen? ⟨pr, 0, none⟩ = false := fun g => by rw [hW2.out]; exact (k9.out 0 g).1
    have c9 : ∀ g, (w2.setCell ⟨pz, 0, none⟩ (.bool g)).cell? ⟨pr, 0, none⟩ = some (.bool gr) := fun g => by rw [hW2.out]; exact (k9.out 0 g).2
    refine wp_region_loose 2 30 (by kernel_rfl) (by kernel_rfl) ?_
    simp only [List.take_succ_cons, List.take_zero, List.drop_succ_cons, List.drop_zero]
    repeat (go_big_quiet_step (fail))
    refine wpQuiet_nil ?_
    have hb1 : 0 < M1 := by omega
    have hb2 : 0 < M2 := by omega
    repeat (go_big_quiet_step (fail))
    refine wpQuiet_nil ?_
    go_wp2_with fail
    refine NoPanic.normal ?_
    go_wp2_with fail
    go_ret2
    have F := fin.out G1 G2 1 (fun e h => by rw [hG1.out, if_pos h] at e; cases e) (fun e h => by rw [hG2.out, if_pos h] at e; cases e)
    rw [hW2.out]
    have e1 : G1 = (gx != gy) := by rw [hG1.out, if_neg hq0.out]
    have e2 : G2 = gx := by rw [hG2.out, if_neg hr0.out]
    rw [e1, e2] at F ⊢
    exact F
end Go.Proofs.YtcpjclakdpjjfaaGreatDoor


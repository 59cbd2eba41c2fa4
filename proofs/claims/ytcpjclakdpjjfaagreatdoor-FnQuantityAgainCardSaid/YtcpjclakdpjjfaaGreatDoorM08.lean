/-
  A part of the proof of FnQuantityAgain (texts N8, He, N9 of mine, joined).
-/
import Derived.Test.YtcpjclakdpjjfaaGreatDoorM07
import Derived.Test.YtcpjclakdpjjfaaGreatDoorM06
import Derived.Test.YtcpjclakdpjjfaaGreatDoorM05
namespace Go.Proofs.YtcpjclakdpjjfaaGreatDoor
open Go.RowKit

set_option maxHeartbeats 1000000 in
set_option maxRecDepth 100000 in
theorem sqr_zero (z s : Value) (oz : Option Nat) (ax : Option Addr) (cx : Nat) (w : World) (hz : Sto w z oz) :
    Calls Tryz.prog 89 #[z, s, .slice ax 0 cx] w (NatEnd w oz 0) := by
  have hc := Lib.hid hz.cut
  obtain ⟨va, vn, vc, hv⟩ : ∃ va vn vc, z = .slice va vn vc := by
    cases oz with
    | none => exact ⟨_, _, _, hz⟩
    | some b => obtain ⟨l, len, rfl, _⟩ := hz; exact ⟨_, _, _, rfl⟩
  subst hv
  clear hz
  cases va with
  | none =>
    go_enter_defers Tryz.func89, Tryz.ntmps89
    go_wp2_with fail
    refine ⟨_, results_tmp rfl _ _ _, ?_⟩
    exact ⟨_, oz, rfl, hc.out, Fr.refl _ _, Or.inl rfl⟩
  | some a =>
    go_enter_defers Tryz.func89, Tryz.ntmps89
    go_wp2_with fail
    refine ⟨_, results_tmp rfl _ _ _, ?_⟩
    exact ⟨_, oz, rfl, hc.out, Fr.refl _ _, Or.inl rfl⟩

set_option maxHeartbeats 2000000 in
set_option maxRecDepth 100000 in
theorem sqr_one (z s x : Value) (oz : Option Nat) (bx n : Nat) (lx : List Nat) (w : World) (hz : Sto w z oz) (hx : Wds w x bx lx 1 n) :
    Calls Tryz.prog 89 #[z, s, x] w (NatEnd w oz (n * n)) := by
  have r1 : w.cell? ⟨bx, 0, none⟩ = some (.int .u64 ((gd lx 0 : Nat) : Int)) := hx.blk.cell 0 hx.le
  have hn : n = gd lx 0 := by rw [← hx.eq]; show gd lx 0 + W64 * 0 = _; omega
  have hw : n < W64 := by rw [hn]; exact gd_lt hx.blk.ok 0
  have q1 := hx.le
  rw [← hn] at r1
  have H := Lib.hid (make_any z oz 2 w hz (by omega) (by omega))
  have M := fun w => Lib.hid (mulWW_any n n hw hw w)
  obtain ⟨hi, ehi⟩ : ∃ k, k = mulHi n n := ⟨_, rfl⟩
  obtain ⟨lo, elo⟩ : ∃ k, k = mulLo n n := ⟨_, rfl⟩
  have bhi : hi < W64 := by rw [ehi]; unfold mulHi; exact Nat.div_lt_of_lt_mul (Nat.mul_lt_mul'' hw hw)
  have blo : lo < W64 := by rw [elo]; unfold mulLo; exact Nat.mod_lt _ W64_pos
  have es : lo + W64 * hi = n * n := by rw [ehi, elo]; unfold mulHi mulLo; exact Nat.mod_add_div _ _
  rw [← ehi, ← elo] at M
  replace M := Lib.hid M
  replace bhi := Lib.hid bhi
  replace blo := Lib.hid blo
  replace es := Lib.hid es
  replace hw := Lib.hid hw
  obtain rfl := hx.val
  clear hn hz hx ehi elo
  go_enter_defers Tryz.func89, Tryz.ntmps89
  go_wp2_with fail
  refine H.out.mono ?_
  rintro e w' ⟨b, l, rfl, hb, hl, hc, hf, ho, hcap⟩
  have r6 := hb.free 0
  have r7 := hb.cell 0 (by omega)
  have r8 := hb.free 1
  have r9 := hb.cell 1 (by omega)
  have F := norm_cap b 2 l.length ((l.set 1 hi).set 0 lo) ((w'.setCell ⟨b, 1, none⟩ (.int .u64 (hi : Int))).setCell ⟨b, 0, none⟩ (.int .u64 (lo : Int))) ((hb.set 1 hi bhi.out).set 0 lo blo.out) (by simp) hl (by omega) hc
  have fr2 : Fr (fun k => oz = some k) w ((w'.setCell ⟨b, 1, none⟩ (.int .u64 (hi : Int))).setCell ⟨b, 0, none⟩ (.int .u64 (lo : Int))) :=
    make_fr hf ho ((Fr.setCell (S := fun k => k = b) _ _ _ (fun _ => rfl)).trans (Fr.setCell (S := fun k => k = b) _ _ _ (fun _ => rfl)) (fun _ _ => id))
  have ev : vl ((l.set 1 hi).set 0 lo) 0 2 = n * n := by
    show gd _ 0 + W64 * (gd _ (0 + 1) + W64 * 0) = _
    rw [gd_set _ _ _ _ (by simp; omega), if_pos rfl, gd_set _ _ _ _ (by simp; omega), if_neg (by omega), gd_set _ _ _ _ (by omega), if_pos rfl, Nat.mul_zero, Nat.add_zero]
    exact es.out
  rw [ev] at F
  replace F := Lib.hid F
  replace fr2 := Lib.hid fr2
  replace hb := Lib.hid hb
  replace hf := Lib.hid hf
  replace ho := Lib.hid ho
  clear hcap H ev
  go_wp2_with fail
  refine (M.out _).out.mono ?_
  rintro e w2 ⟨rfl, rfl⟩
  go_wp2_with fail
  refine F.out.mono ?_
  rintro e w4 ⟨v, rfl, h4, rfl⟩
  replace h4 := Lib.hid h4
  go_wp2_with fail
  refine ⟨_, results_tmp rfl _ _ _, ?_⟩
  exact ⟨v, some b, rfl, h4.out, fr2.out, make_new ho.out⟩

set_option maxHeartbeats 4000000 in
set_option maxRecDepth 100000 in
theorem sqr_main (z s x : Value) (oz : Option Nat) (bx n nx : Nat) (lx : List Nat) (w : World) (hz : Sto w z oz) (hx : Wds w x bx lx nx n)
    (h2 : 2 ≤ nx) (h1 : nx ≤ 10) (hg : Gk w) : Calls Tryz.prog 89 #[z, s, x] w (NatEnd w oz (n * n)) := by
  have q1 := hx.le
  have r2 : ((nx : Int) == 0) = false := by simp; omega
  have r4 : ((nx : Int) == 1) = false := by simp; omega
  have r5 : (nx : Int) < 12 := by omega
  have r6 : (nx : Int) < 80 := by omega
  have vx := Lib.hid hx.eq
  have bx0 := Lib.hid hx.blk
  have hg6 := Lib.hid hg.g6
  have hg7 := Lib.hid hg.g7
  have A1 := Lib.hid (alias_any z x oz (some bx) w hz hx.natv.sto)
  obtain rfl := hx.val
  have hzs := Lib.hid hz
  clear hz hx hg
  have rest : ∀ (z' : Value) (k : Option Nat) (w1 : World), Dr w w1 → Sto w1 z' k → (k = none ∨ k = oz) → (∀ c, k = some c → c ≠ bx) →
      Calls Tryz.prog 86 #[z', .int .i64 (2 * (nx : Int))] w1 fun e w2 => ∃ (b : Nat) (l : List Nat), e = .returned (.slice (some ⟨b, 0, none⟩) (nx + nx) l.length) ∧ nx + nx ≤ l.length ∧ l.length ≤ 1000 ∧
        w2.cell? ⟨6, 0, none⟩ = some (.int .i64 12) ∧ w2.cell? ⟨7, 0, none⟩ = some (.int .i64 80) ∧
        Hid (Calls Tryz.prog 111 #[.slice (some ⟨b, 0, none⟩) (nx + nx) l.length, .slice (some ⟨bx, 0, none⟩) nx lx.length, .slice (some ⟨bx, 0, none⟩) nx lx.length] w2 fun e w3 => e = .returned (.tuple #[]) ∧
          Hid (Calls Tryz.prog 88 #[.slice (some ⟨b, 0, none⟩) (nx + nx) l.length] w3 (NatEnd w oz (n * n)))) := by
    rintro z' k w1 ⟨d, rfl⟩ hs hk hne
    have H := make_any z' k (nx + nx) (w.drewN d) hs (by omega) (by omega)
    rw [show ((nx + nx : Nat) : Int) = 2 * (nx : Int) by omega] at H
    refine H.mono ?_
    rintro e w2 ⟨b, l, rfl, hb, hl, hc, hf, ho, _⟩
    have f0 : Fr (fun _ => False) w w2 := (Fr.drewN _ w d).trans hf (fun _ _ f => f)
    have ho' : oz = some b ∨ w.heap.size ≤ b := by
      rcases ho with ho | ho
      · rcases hk with hk | hk
        · rw [hk] at ho; cases ho
        · exact Or.inl (hk ▸ ho)
      · exact Or.inr ho
    have nbx : bx ≠ b := by
      rcases ho with ho | ho
      · exact fun e => (hne b ho) e.symm
      · have := bx0.out.lt
        have e : (w.drewN d).heap.size = w.heap.size := rfl
        omega
    refine ⟨b, l, rfl, hl, hc, cell_frame hg6.out f0 (fun f => f), cell_frame hg7.out f0 (fun f => f), ?_⟩
    refine (basicMul_any b bx bx nx nx lx.length lx.length l lx lx w2 hb (bx0.out.frame f0 (fun f => f)) (bx0.out.frame f0 (fun f => f)) nbx nbx q1 q1 hl (by omega) (by omega) rfl rfl).mono ?_
    rintro e w3 ⟨l', rfl, hv, hp⟩
    refine ⟨rfl, ?_⟩
    refine (norm_cap b (nx + nx) l.length l' w3 hv.blk hv.len hl (by omega) hc).mono ?_
    rintro e w4 ⟨v, rfl, hn, rfl⟩
    rw [hp, vx.out] at hn
    exact ⟨v, some b, rfl, hn, make_fr f0 ho' hv.fr, make_new ho'⟩
  replace rest := Lib.hid rest
  go_enter_defers Tryz.func89, Tryz.ntmps89
  go_wp2_with fail
  refine A1.out.mono ?_
  rintro e w1 ⟨rfl, hd1⟩
  cases ha : aliasB oz (some bx) with
  | true =>
    have R := Lib.hid (rest.out (.slice none 0 0) none w1 hd1 rfl (Or.inl rfl) (fun c hc => by cases hc))
    go_wp2_with fail
    refine R.out.mono ?_
    rintro e w2 ⟨b, l, rfl, hl, hc, g6, g7, H⟩
    go_wp2_with fail
    refine H.out.mono ?_
    rintro e w3 ⟨rfl, H3⟩
    go_wp2_with fail
    refine H3.out.mono ?_
    rintro e w4 ⟨v, ob, rfl, h4⟩
    replace h4 := Lib.hid h4
    go_wp2_with fail
    refine ⟨_, results_tmp rfl _ _ _, ?_⟩
    exact ⟨v, ob, rfl, h4.out⟩
  | false =>
    have hs2 : Sto w1 z oz := by
      obtain ⟨k, rfl⟩ := hd1
      exact hzs.out.frame (Fr.drewN (fun _ => False) w k) (fun _ _ f => f)
    have R := Lib.hid (rest.out z oz w1 hd1 hs2 (Or.inr rfl) (fun c hc => aliasB_ne ha hc))
    clear hs2
    go_wp2_with fail
    refine R.out.mono ?_
    rintro e w2 ⟨b, l, rfl, hl, hc, g6, g7, H⟩
    go_wp2_with fail
    refine H.out.mono ?_
    rintro e w3 ⟨rfl, H3⟩
    go_wp2_with fail
    refine H3.out.mono ?_
    rintro e w4 ⟨v, ob, rfl, h4⟩
    replace h4 := Lib.hid h4
    go_wp2_with fail
    refine ⟨_, results_tmp rfl _ _ _, ?_⟩
    exact ⟨v, ob, rfl, h4.out⟩

theorem sqr_any (z s x : Value) (oz ox : Option Nat) (n : Nat) (w : World) (hz : Sto w z oz) (hx : NatV w x ox n) (hn : n < W64 ^ 10) (hg : Gk w) :
    Calls Tryz.prog 89 #[z, s, x] w (NatEnd w oz (n * n)) := by
  rcases hx.split with ⟨rfl, ax, cx, ex⟩ | ⟨bx, lx, nx, rfl, Hx⟩
  · rw [ex]
    exact sqr_zero z s oz ax cx w hz
  · have px := Hx.pos
    have kx := Hx.len_le hn
    by_cases h : nx = 1
    · subst h; exact sqr_one z s x oz bx n lx w hz Hx
    · exact sqr_main z s x oz bx n nx lx w hz Hx (by omega) kx hg
end Go.Proofs.YtcpjclakdpjjfaaGreatDoor

namespace Go.Proofs.YtcpjclakdpjjfaaGreatDoor
open Go.RowKit

/-- Operation number n waits for es besides. -/
def addEdges (es : Array Edge) : Nat → List Oper → List Oper
  | _, [] => []
  | 0, o :: r => { o with after := o.after ++ es } :: r
  | k + 1, o :: r => o :: addEdges es k r

theorem addEdges_len (es : Array Edge) : ∀ (n : Nat) (l : List Oper), (addEdges es n l).length = l.length
  | _, [] => by cases ‹Nat› <;> rfl
  | 0, _ :: _ => rfl
  | k + 1, o :: r => by simp [addEdges, addEdges_len es k r]
theorem addEdges_ne (es : Array Edge) : ∀ (n : Nat) (l : List Oper) (j : Nat), j ≠ n → (addEdges es n l)[j]? = l[j]?
  | n, [], j, _ => by cases n <;> rfl
  | 0, o :: r, j, h => by
    cases j with
    | zero => exact absurd rfl h
    | succ j => rfl
  | k + 1, o :: r, j, h => by
    cases j with
    | zero => rfl
    | succ j => simpa [addEdges] using addEdges_ne es k r j (by omega)
theorem addEdges_eq (es : Array Edge) : ∀ (n : Nat) (l : List Oper), (addEdges es n l)[n]? = (l[n]?).map fun o => { o with after := o.after ++ es }
  | n, [] => by cases n <;> rfl
  | 0, o :: r => rfl
  | k + 1, o :: r => by simpa [addEdges] using addEdges_eq es k r
theorem addEdges_drop (es : Array Edge) : ∀ (n : Nat) (l : List Oper), (addEdges es n l).drop n = match l.drop n with
    | [] => []
    | o :: r => { o with after := o.after ++ es } :: r
  | n, [] => by cases n <;> rfl
  | 0, o :: r => rfl
  | k + 1, o :: r => by simpa [addEdges] using addEdges_drop es k r

section
variable {P : Program} {Q : Exit → Act → World → Prop}

theorem yielded_add (es : Array Edge) (n : Nat) (l : List Oper) (tmps : Array Value) : yielded (addEdges es n l).toArray tmps = yielded l.toArray tmps := by
  funext j
  unfold yielded
  have : ((addEdges es n l).toArray[j]?).bind (·.dst) = (l.toArray[j]?).bind (·.dst) := by
    simp only [List.getElem?_toArray]
    by_cases e : j = n
    · subst e
      rw [addEdges_eq]
      cases l[j]? <;> rfl
    · rw [addEdges_ne _ _ _ _ e]
  rw [this]

theorem wpOp_add {es : Array Edge} {n : Nat} {l : List Oper} {i : Nat} {K : Act → World → Prop} {a : Act} {w : World} (h : wpOp P (addEdges es n l).toArray Q i K a w) : wpOp P l.toArray Q i K a w := by
  unfold wpOp at *
  rw [yielded_add] at h
  simp only [List.getElem?_toArray] at *
  by_cases e : i = n
  · subst e
    rw [addEdges_eq] at h
    cases hl : l[i]? with
    | none => rw [hl] at h; exact h
    | some o => rw [hl] at h; exact h
  · rw [addEdges_ne _ _ _ _ e] at h
    exact h

theorem ready_add {es : Array Edge} {n : Nat} {l : List Oper} {md : Region.Mode} {listed : Array Bool} (h : ∀ e ∈ es, listed.getD e.on false = true) :
    Region.ready md (addEdges es n l).toArray listed = Region.ready md l.toArray listed := by
  unfold Region.ready
  have hs : (addEdges es n l).toArray.size = l.toArray.size := by simp [addEdges_len]
  rw [hs]
  congr 1
  funext i
  congr 1
  simp only [List.getElem?_toArray]
  by_cases e : i = n
  · subst e
    rw [addEdges_eq]
    cases l[i]? with
    | none => rfl
    | some o =>
      simp only [Option.map_some, Option.getD_some]
      rw [Array.all_append]
      have : (es.all fun e => !Region.binds md e || listed.getD e.on false) = true := by
        rw [Array.all_eq_true']
        intro x hx
        rw [h x hx]; simp
      rw [this, Bool.and_true]
  · rw [addEdges_ne _ _ _ _ e]

theorem wpAny_add {es : Array Edge} {n : Nat} {l : List Oper} {md : Region.Mode} : ∀ (f : Nat) (listed : Array Bool) (a : Act) (w : World), (∀ e ∈ es, listed.getD e.on false = true) →
    wpAny P md (addEdges es n l).toArray Q f listed a w → wpAny P md l.toArray Q f listed a w
  | 0, listed, a, w, hl, h => by
    refine ⟨?_, h.2⟩
    rw [← ready_add (es := es) (n := n) hl]; exact h.1
  | f + 1, listed, a, w, hl, h => by
    have hr := ready_add (n := n) (l := l) (md := md) hl
    refine ⟨fun h0 => h.1 (by rw [hr]; exact h0), fun i hi => ?_⟩
    have h1 := wpOp_add (h.2 i (by rw [hr]; exact hi))
    refine wpOp_mono (fun a' w' h' => wpAny_add f _ a' w' (fun e he => ?_) h') h1
    exact getD_set_true (hl e he)

theorem wpStill_add {es : Array Edge} {n : Nat} {l : List Oper} {w : World} {K K' : Act → Prop} (hK : ∀ a, K a → K' a) : ∀ (r : List Oper) (a : Act), wpStill P l.toArray w K r a → wpStill P (addEdges es n l).toArray w K' r a
  | [], a, h => hK a h
  | o :: r, a, h => by
    unfold wpStill at *
    rw [yielded_add]
    split
    · rename_i hw
      rw [if_pos hw] at h
      exact Oper.still_mono (fun a' h' => wpStill_add hK r a' h') h
    · rename_i hw
      rw [if_neg hw] at h
      exact wpStill_add hK r _ h

theorem wpList_add {es : Array Edge} {n : Nat} {l : List Oper} : ∀ (r : List Oper) (a : Act) (w : World), wpList P l.toArray Q r a w → wpList P (addEdges es n l).toArray Q r a w
  | [], a, w, h => h
  | o :: r, a, w, h => by
    unfold wpList at *
    rw [yielded_add]
    split
    · rename_i hw
      rw [if_pos hw] at h
      exact h.imp (Oper.wp_mono fun a' w' h' => wpList_add r a' w' h') id
    · rename_i hw
      rw [if_neg hw] at h
      exact wpList_add r _ _ h

theorem wpList_drop {es : Array Edge} {n : Nat} {l : List Oper} {a : Act} {w : World} (h : wpList P l.toArray Q (l.drop n) a w) : wpList P (addEdges es n l).toArray Q ((addEdges es n l).drop n) a w := by
  rw [addEdges_drop]
  have h1 := wpList_add (es := es) (n := n) _ _ _ h
  cases hd : l.drop n with
  | nil => rw [hd] at h1; exact h1
  | cons o r => rw [hd] at h1; exact h1

def preB (ops ops2 : Array Oper) : Nat → Nat → Array Bool → Bool
  | 0, _, _ => true
  | f + 1, k, L => (Region.ready .any ops L).contains k && Region.free .any ops L k && (Region.ready .any ops2 L).contains k && preB ops ops2 f (k + 1) (L.setIfInBounds k true)
def stepL : Nat → Nat → Array Bool → Array Bool
  | 0, _, L => L
  | f + 1, k, L => stepL f (k + 1) (L.setIfInBounds k true)

theorem pre_go {ops ops2 : Array Oper} {n : Nat} (hs : Region.noSelect ops = true) (hQ : ∀ c a a' w, Q (.panic c) a w → Q (.panic c) a' w) {fuel : Nat} {K : Act → Prop} {w : World} :
    ∀ (l : List Oper) (k : Nat) (listed : Array Bool) (a : Act), (∀ j, j < l.length → l[j]? = ops[k + j]?) → (l.all fun o => opVal o.op) = true →
      preB ops ops2 l.length k listed = true → HeadInv .any ops2 n listed → k + l.length ≤ n → (∀ j, j < k → listed.getD j false = true) → wpQuiet P ops (fun _ => True) K l a →
      (∀ a', HeadInv .any ops2 n (stepL l.length k listed) → (∀ j, j < k + l.length → (stepL l.length k listed).getD j false = true) → K a' → wpAnyH P .any ops Q (fun _ => True) fuel (stepL l.length k listed) a' w) →
      wpAnyH P .any ops Q (fun _ => True) (l.length + fuel) listed a w
  | [], k, listed, a, _, _, _, inv, _, hj, h, hK => by
    rw [List.length_nil, Nat.zero_add]
    exact hK a inv hj h
  | o :: l, k, listed, a, hl, hv, hB, inv, hn, hj, h, hK => by
    have h0 : ops[k]? = some o := by simpa using (hl 0 (by simp)).symm
    simp only [List.length_cons, preB, Bool.and_eq_true] at hB
    simp only [List.all_cons, Bool.and_eq_true] at hv
    simp only [List.length_cons] at hn
    have hr2 : k ∈ Region.ready .any ops2 listed := by simpa using hB.1.2
    have nxt : ∀ v, YieldsIf P ops (fun _ => True) o v a → wpQuiet P ops (fun _ => True) K l (a.put o.dst v) → wpAnyH P .any ops Q (fun _ => True) ((o :: l).length + fuel) listed a w := by
      intro v hy hq
      rw [List.length_cons, show l.length + 1 + fuel = (l.length + fuel) + 1 by omega]
      refine wpAnyH_take h0 hs hB.1.1.2 hB.1.1.1 (fun c a w hp => hQ c _ a w hp) hy trivial ?_
      refine pre_go hs hQ l (k + 1) _ _ (fun j hj => ?_) hv.2 hB.2 (inv.set hr2 (by omega)) (by omega) (fun j hj' => ?_) hq (fun a' hi hb hk => hK a' hi (by rw [List.length_cons, show k + (l.length + 1) = k + 1 + l.length by omega]; exact hb) hk)
      · have := hl (j + 1) (by simp; omega)
        rw [show k + 1 + j = k + (j + 1) by omega, ← this]
        simp
      · by_cases e : j = k
        · subst e
          have hlt : j < listed.size := by
            have h1 := (mem_ready.1 hr2).1
            obtain ⟨_, o2, h3, _⟩ := mem_ready.1 hr2
            have := (Array.getElem?_eq_some_iff.1 h3).1
            rw [inv.size]; exact this
          simp [hlt]
        · exact getD_set_true (hj j (by omega))
    unfold wpQuiet at h
    by_cases hw : Region.wanted o (yielded ops a.tmps) = true
    · rw [if_pos hw] at h
      obtain ⟨v, hy, hk⟩ := yields_of_quiet hv.1 hw h
      exact nxt v hy hk
    · rw [if_neg hw] at h
      exact nxt undef (Or.inr ⟨by simpa using hw, rfl⟩) h

def preEdges (m : Nat) : Array Edge := ((List.range m).map fun i => (⟨i, .phase⟩ : Edge)).toArray

/-- The first m operations end in values whatever the world is; those from m to n read in the world at hand, and number n waits for each of them; the others follow in their forced order. -/
def preTailB (l : List Oper) (m n : Nat) : Bool :=
  let ops := l.toArray
  let ops2 := (addEdges (preEdges m) n l).toArray
  let L0 := Array.replicate ops.size false
  Region.noSelect ops && Region.noSelect ops2 && decide (n < ops.size) && decide (m ≤ n) && ((l.take m).all fun o => opVal o.op) && preB ops ops2 m 0 L0 &&
    Region.sinkB .any ops2 n && Region.chainB .any ops2 n && Region.lexHead .any ops2 (ops.size - n) (n - m) m (stepL m 0 L0)

theorem wp_region_pre {id : Nat} {a : Act} {w : World} {l : List Oper} (m n : Nat) (hm : P.follows .mixedOrders = true) (hB : preTailB l m n = true)
    (h : wpQuiet P l.toArray (fun _ => True) (fun a1 => wpStill P l.toArray w.drew (fun a' => wpList P l.toArray (NoPanic Q) (l.drop n) a' w.drew) ((l.take n).drop m) a1) (l.take m) a) : (Code.region id l.toArray true).wp P Q a w := by
  simp only [preTailB, Bool.and_eq_true, decide_eq_true_eq] at hB
  obtain ⟨⟨⟨⟨⟨⟨⟨⟨hs, hs2⟩, hn⟩, hmn⟩, hv⟩, hpre⟩, hsink⟩, hchain⟩, hlex⟩ := hB
  have hn' : n < l.length := by simpa using hn
  have htm : (l.take m).length = m := by simp; omega
  have hsz : (addEdges (preEdges m) n l).toArray.size = l.toArray.size := by simp [addEdges_len]
  have hmid : ((l.take n).drop m).length = n - m := by simp; omega
  have hdl : ((addEdges (preEdges m) n l).drop n).length = l.toArray.size - n := by simp [addEdges_len]
  have inv0 : HeadInv .any (addEdges (preEdges m) n l).toArray n (Array.replicate l.toArray.size false) :=
    ⟨by simp [addEdges_len], fun j oj _ hl => (by rw [getD_replicate_false] at hl; cases hl), fun t _ ht => getD_in (by simpa [addEdges_len] using ht) (getD_replicate_false _ _)⟩
  refine wp_region_noPanic (wp_region_held (S := fun _ => True) hm ?_)
  have H := pre_go (P := P) (Q := NoPanic Q) (ops := l.toArray) (ops2 := (addEdges (preEdges m) n l).toArray) (n := n) (fuel := l.toArray.size - m) (w := w.drew) hs (fun c a a' w hp => by unfold NoPanic at hp; simp at hp)
    (l.take m) 0 (Array.replicate l.toArray.size false) a (fun j hj => by
      have hj' : j < m := by rw [htm] at hj; exact hj
      simp [hj']) hv (by rw [htm]; exact hpre) inv0 (by rw [htm]; omega) (fun j hj => absurd hj (Nat.not_lt_zero _)) h (fun a' hi hb hk => by
      rw [htm] at hi hb ⊢
      refine held_of_any (fun _ => trivial) _ _ _ _ ?_
      refine wpAny_add (es := preEdges m) (n := n) _ _ _ _ (fun e he => ?_) ?_
      · simp only [preEdges, List.mem_toArray, List.mem_map, List.mem_range] at he
        obtain ⟨i, hi', rfl⟩ := he
        exact hb i (by omega)
      · have HL := wpAnyL_lex (P := P) (md := .any) (ops := (addEdges (preEdges m) n l).toArray) (w := w.drew) (g := l.toArray.size - n) (n := n) (Lq := fun a' => wpList P (addEdges (preEdges m) n l).toArray (NoPanic Q) ((addEdges (preEdges m) n l).drop n) a' w.drew)
          hs2 hsink hchain (by rw [hsz]; exact hn) ((l.take n).drop m) m _ a' (fun j hj => by
            rw [hmid] at hj
            simp only [List.getElem?_toArray]
            rw [addEdges_ne _ _ _ _ (by omega), List.getElem?_drop, List.getElem?_take_of_lt (by omega)]) (by rw [hmid]; omega) hi (by rw [hmid]; exact hlex) (wpStill_add (fun a' h' => wpList_drop h') _ _ hk)
        have := wpAny_of_head (Q' := NoPanic Q) (g := l.toArray.size - n) (fun listed a' hL => by
          have := wpAny_of_seq (md := .any) (Q' := NoPanic Q) ((addEdges (preEdges m) n l).drop n) n listed a' w.drew (fun j => by simp [List.getElem?_drop]) (by rw [hdl]; exact hL.1) hL.2
          rwa [hdl] at this) _ _ _ HL
        rw [hmid, show n - m + (l.toArray.size - n) = l.toArray.size - m by omega] at this
        exact this)
  rw [htm, show m + (l.toArray.size - m) = l.toArray.size by omega] at H
  exact H
end
end Go.Proofs.YtcpjclakdpjjfaaGreatDoor

namespace Go.Proofs.YtcpjclakdpjjfaaGreatDoor
open Go.RowKit

/-- What comes of a division by a word into the storage oz. -/
def DivWEnd (w : World) (oz : Option Nat) (q r : Nat) (e : Ending) (w' : World) : Prop :=
  ∃ v ob, e = .returned (.tuple #[v, .int .u64 (r : Int)]) ∧ NatV w' v ob q ∧ Fr (fun k => oz = some k) w w' ∧ (ob = oz ∨ ∃ b, ob = some b ∧ w.heap.size ≤ b)

set_option maxHeartbeats 1000000 in
theorem divW_any (z x : Value) (oz ox : Option Nat) (m y : Nat) (w : World) (hz : Sto w z oz) (hx : NatV w x ox m) (hm : m < W64 ^ 100) (hy : y < W64) (h2 : 2 ≤ y) :
    Calls Tryz.prog 172 #[z, x, .int .u64 (y : Int)] w (DivWEnd w oz (m / y) (m % y)) := by
  have e0 : ((y : Int) == 0) = false := by simp; omega
  have e1 : ((y : Int) == 1) = false := by simp; omega
  rcases hx.split with ⟨rfl, ax, cx, rfl⟩ | ⟨bx, lx, nx, rfl, Hx⟩
  · have hc := Lib.hid hz.cut
    obtain ⟨va, vn, vc, hv⟩ : ∃ va vn vc, z = .slice va vn vc := by
      cases oz with
      | none => exact ⟨_, _, _, hz⟩
      | some b => obtain ⟨l, len, rfl, _⟩ := hz; exact ⟨_, _, _, rfl⟩
    subst hv
    rw [Nat.zero_div, Nat.zero_mod]
    clear hx hz hm hy h2
    cases va with
    | none =>
      go_enter Tryz.func172, Tryz.ntmps172
      go_wp2_with fail
      go_ret2
      exact ⟨_, oz, rfl, hc.out, Fr.refl _ _, Or.inl rfl⟩
    | some a =>
      go_enter Tryz.func172, Tryz.ntmps172
      go_wp2_with fail
      go_ret2
      exact ⟨_, oz, rfl, hc.out, Fr.refl _ _, Or.inl rfl⟩
  · have p1 := Hx.pos
    have p2 := Hx.len_le hm
    have p3 := Hx.le
    have H := Lib.hid (make_any z oz nx w hz (by omega) (by omega))
    have e2 : ((nx : Int) == 0) = false := by simp; omega
    have vx := Lib.hid Hx.eq
    have bx0 := Lib.hid Hx.blk
    obtain rfl := Hx.val
    replace hy := Lib.hid hy
    clear hz hx Hx hm
    go_enter Tryz.func172, Tryz.ntmps172
    go_wp2_with fail
    refine H.out.mono ?_
    rintro e w' ⟨b, l, rfl, hb, hl, hc, hf, ho, hcap⟩
    have bx1 := bx0.out.frame hf (fun f => f)
    have H2 := divWVW_any b 0 nx l.length bx 0 lx.length y l lx w' hb bx1 (by omega) (by omega) (fun _ => rfl) (by omega) (by omega) hy.out (by omega)
    replace H2 := Lib.hid H2
    replace hb := Lib.hid hb
    replace hf := Lib.hid hf
    replace ho := Lib.hid ho
    clear hcap H bx1
    go_wp2_with fail
    refine H2.out.mono ?_
    rintro e w2 ⟨r, l2, rfl, hv2, hr2, hs2⟩
    rw [vx.out] at hs2
    have hq : vl l2 0 nx = m / y := by
      rw [← hs2]; exact (by rw [Nat.mul_comm, Nat.mul_add_div (by omega), Nat.div_eq_of_lt hr2]; rfl)
    have hr : r = m % y := by
      rw [← hs2, Nat.mul_comm, Nat.mul_add_mod, Nat.mod_eq_of_lt hr2]
    have F := norm_cap b nx l.length l2 w2 hv2.blk hv2.len hl (by omega) hc
    have fr2 : Fr (fun k => oz = some k) w w2 := make_fr hf.out ho.out hv2.fr
    rw [hq] at F
    subst hr
    replace F := Lib.hid F
    replace fr2 := Lib.hid fr2
    clear hv2 hr2 hs2 H2 hq
    go_wp2_with fail
    refine F.out.mono ?_
    rintro e w4 ⟨v, rfl, h4, rfl⟩
    replace h4 := Lib.hid h4
    go_wp2_with fail
    go_ret2
    exact ⟨v, some b, rfl, h4.out, fr2.out, make_new ho.out⟩

set_option maxHeartbeats 1000000 in
theorem low64_any (x : Value) (ox : Option Nat) (m : Nat) (w : World) (hx : NatV w x ox m) :
    Calls Tryz.prog 91 #[x] w fun e w' => e = .returned (.int .u64 ((m % W64 : Nat) : Int)) ∧ w = w' := by
  rcases hx.split with ⟨rfl, ax, cx, rfl⟩ | ⟨bx, lx, nx, rfl, Hx⟩
  · rw [Nat.zero_mod]
    clear hx
    go_enter Tryz.func91, Tryz.ntmps91
    go_wp2
    go_ret
    exact ⟨rfl, rfl⟩
  · have p1 := Hx.pos
    have p3 := Hx.le
    have e2 : ((nx : Int) == 0) = false := by simp; omega
    have r1 : w.cell? ⟨bx, 0, none⟩ = some (.int .u64 ((gd lx 0 : Nat) : Int)) := Hx.blk.cell 0 (by omega)
    have hg : gd lx 0 = m % W64 := by
      rw [← Hx.eq]
      obtain ⟨d, rfl⟩ : ∃ d, nx = d + 1 := ⟨nx - 1, by omega⟩
      show _ = (gd lx 0 + W64 * _) % W64
      rw [Nat.add_mul_mod_self_left, Nat.mod_eq_of_lt (gd_lt Hx.blk.ok 0)]
    obtain rfl := Hx.val
    rw [hg] at r1
    obtain ⟨k, hk⟩ : ∃ k, k = m % W64 := ⟨_, rfl⟩
    rw [← hk] at r1 ⊢
    clear hg hx Hx hk
    go_enter Tryz.func91, Tryz.ntmps91
    go_wp2
    go_ret
    exact ⟨rfl, rfl⟩

theorem getStack_any (w : World) : Calls Tryz.prog 112 #[] w fun e w' => e = .returned (.pointer (some ⟨w.heap.size, 0, none⟩)) ∧ w'.cell? ⟨w.heap.size, 0, none⟩ = some (.pointer none) ∧ Fr (fun _ => False) w w' ∧ w.heap.size < w'.heap.size := by
  go_enter Tryz.func112, Tryz.ntmps112
  go_wp2
  go_ret
  refine ⟨rfl, ?_, Fr.alloc _ _ _, ?_⟩
  · simp
  · simp

theorem stackFree_any (a : Addr) (u : FrameMode) (w : World) (hc : w.cell? a = some (.pointer none)) :
    CallsD Tryz.prog 113 #[.pointer (some a)] u w fun e u' w' => u' = u ∧ (e = .returned (.tuple #[]) ∧ w' = w) := by
  go_enter_d Tryz.func113, Tryz.ntmps113
  go_wp2
  go_end0
  exact ⟨rfl, rfl⟩
end Go.Proofs.YtcpjclakdpjjfaaGreatDoor


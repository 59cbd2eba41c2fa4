/-
  A part of the proof of FnQuantityAgain (texts Na, Nb, Kd, St of mine, joined).
-/
import Derived.Test.YtcpjclakdpjjfaaGreatDoorM08
import Derived.Test.YtcpjclakdpjjfaaGreatDoorM03
import Derived.Laws.AppendOwn
namespace Go.Proofs.YtcpjclakdpjjfaaGreatDoor
open Go.RowKit

/-- What comes of an operation into no storage. -/
def NewEnd (w : World) (n : Nat) (e : Ending) (w' : World) : Prop :=
  ∃ v ob, e = .returned v ∧ NatV w' v ob n ∧ Fr (fun _ => False) w w' ∧ (∀ b, ob = some b → w.heap.size ≤ b)

theorem NatEnd.new {w w' : World} {n : Nat} {e : Ending} (h : NatEnd w none n e w') : NewEnd w n e w' := by
  obtain ⟨v, ob, h1, h2, h3, h4⟩ := h
  refine ⟨v, ob, h1, h2, h3.mono (fun _ _ h => by cases h), fun b hb => ?_⟩
  rcases h4 with h4 | ⟨c, h4, h5⟩
  · rw [h4] at hb; cases hb
  · rw [hb] at h4; cases h4; exact h5

/-- The word of an exponent, after s places to the left. -/
def shw1 (n s : Nat) : Nat := n * 2 ^ s % W64

theorem norm_natv (v : Value) (ob : Option Nat) (n : Nat) (w : World) (h : NatV w v ob n) : Calls Tryz.prog 88 #[v] w fun e w' => ∃ v', e = .returned v' ∧ NatV w v' ob n ∧ w = w' := by
  cases ob with
  | none =>
    obtain ⟨rfl, rfl⟩ := h
    go_enter Tryz.func88, Tryz.ntmps88
    go_wp2
    go_loop [3] (fun i => i = .int .i64 0) (fun _ => 0)
    case atStart => rfl
    case round =>
      subst hrel
      go_wp2
      go_ret
      exact ⟨_, rfl, ⟨rfl, rfl⟩, rfl⟩
  | some b =>
    obtain ⟨l, len, rfl, h2, h3, h4, h5, h6, h7⟩ := h
    refine (norm_cap b len l.length l w h2 rfl h3 h4 h5).mono ?_
    rintro e w' ⟨v', he, hv, hw⟩
    rw [h6] at hv
    exact ⟨v', he, hv, hw⟩

theorem exp_shape {n : Nat} (h2 : 2 ≤ n) (hn : n < 1000) : ∃ s0 wb : Nat, s0 = 64 - Lib.bitLen n ∧ s0 + 1 + wb = 64 ∧ 2 ^ wb ≤ n ∧ n < 2 ^ (wb + 1) := by
  have hw : n < W64 := by unfold W64; omega
  obtain ⟨b1, b2, b3⟩ := Lib.bitLenAux_bounds 64 n (by rw [← W64_eq]; exact hw) (by omega)
  have b1' : 1 ≤ Lib.bitLen n := b1
  have b2' : 2 ^ (Lib.bitLen n - 1) ≤ n := b2
  have b3' : n < 2 ^ Lib.bitLen n := b3
  have hle : Lib.bitLen n ≤ 64 := Lib.bitLen_le n 64 (Nat.le_refl _) (by rw [← W64_eq]; exact hw)
  exact ⟨64 - Lib.bitLen n, Lib.bitLen n - 1, rfl, by omega, b2', by rw [show Lib.bitLen n - 1 + 1 = Lib.bitLen n by omega]; exact b3'⟩

theorem shw1_next (n s : Nat) : shw1 n s * 2 % W64 = shw1 n (s + 1) := by
  unfold shw1
  rw [Nat.mod_mul_mod, Nat.pow_succ, Nat.mul_assoc]
/-- The top bit, and what n's upper part grows to. -/
theorem shw1_top {n s t : Nat} (h : s + t = 63) : n / 2 ^ t = 2 * (n / 2 ^ (t + 1)) + shw1 n s / 2 ^ 63 ∧ (shw1 n s / 2 ^ 63 = 0 ∨ shw1 n s / 2 ^ 63 = 1) := by
  have e1 : shw1 n s / 2 ^ 63 = n / 2 ^ t % 2 := by
    unfold shw1
    rw [W64_eq, show (2 : Nat) ^ 64 = 2 ^ 63 * 2 from rfl, Nat.mod_mul_right_div_self, ← h, Nat.pow_add, Nat.mul_comm n, Nat.mul_div_mul_left _ _ (Nat.pow_pos (by omega))]
  have e2 : n / 2 ^ (t + 1) = n / 2 ^ t / 2 := by rw [Nat.pow_succ, Nat.div_div_eq_div_mul]
  rw [e1, e2]
  omega
theorem and_top {v : Nat} (hv : v < W64) : bits .and .u64 (v : Int) 9223372036854775808 = ((v / 2 ^ 63 * 2 ^ 63 : Nat) : Int) := by
  have e := bits_and_u64_nat v 9223372036854775808 hv (by decide)
  refine e.trans ?_
  rw [show (9223372036854775808 : Nat) = 2 ^ 63 from rfl]
  congr 1
  have h2 : v / 2 ^ 63 < 2 := by unfold W64 at hv; omega
  have ht : v.testBit 63 = decide (v / 2 ^ 63 = 1) := by rw [Nat.testBit_eq_decide_div_mod_eq, Nat.mod_eq_of_lt h2]
  apply Nat.eq_of_testBit_eq
  intro i
  rw [Nat.testBit_and, Nat.testBit_two_pow]
  rcases (show v / 2 ^ 63 = 0 ∨ v / 2 ^ 63 = 1 by omega) with e | e
  · rw [e, Nat.zero_mul, Nat.zero_testBit]
    by_cases hi : 63 = i
    · subst hi; rw [ht, e]; rfl
    · rw [decide_eq_false hi, Bool.and_false]
  · rw [e, Nat.one_mul, Nat.testBit_two_pow]
    by_cases hi : 63 = i
    · subst hi; rw [ht, e]; rfl
    · rw [decide_eq_false hi, Bool.and_false]

set_option maxHeartbeats 4000000 in
set_option maxRecDepth 100000 in
theorem expNN_loop (x y : Value) (bx by_ m n : Nat) (lx ly : List Nat) (w : World) (hx : Wds w x bx lx 1 m) (hy : Wds w y by_ ly 1 n) (h2 : 2 ≤ n) (hn : n < 1000) (hm : 2 ≤ m) (hp : m ^ n < W64 ^ 9) (hg : Gk w) :
    Calls Tryz.prog 187 #[.slice none 0 0, .pointer none, x, y, .slice none 0 0, .bool false] w (NewEnd w (m ^ n)) := by
  have A1 := Lib.hid (alias_any (.slice none 0 0) x none (some bx) w rfl hx.natv.sto)
  have A2 : Hid (∀ w1, Dr w w1 → Calls Tryz.prog 84 #[.slice none 0 0, y] w1 fun e w' => e = .returned (.bool false) ∧ Dr w1 w') := fun w1 ⟨k, hk⟩ => by
    subst hk
    exact alias_any (.slice none 0 0) y none (some by_) _ rfl (hy.natv.sto.frame (Fr.drewN (fun _ => False) w k) (fun _ _ f => f))
  have ex : gd lx 0 = m := by rw [← hx.eq]; show _ = gd lx 0 + W64 * 0; omega
  have ey : gd ly 0 = n := by rw [← hy.eq]; show _ = gd ly 0 + W64 * 0; omega
  have rx : w.cell? ⟨bx, 0, none⟩ = some (.int .u64 (m : Int)) := by have := hx.blk.cell 0 hx.le; rw [← ex]; exact this
  have ry : w.cell? ⟨by_, 0, none⟩ = some (.int .u64 (n : Int)) := by have := hy.blk.cell 0 hy.le; rw [← ey]; exact this
  have q1 := hx.le
  have q2 := hy.le
  have e1 : ((m : Int) == 1) = false := by simp; omega
  have e2 : ((n : Int) == 1) = false := by simp; omega
  have hwx := Lib.hid hx
  have hwy := Lib.hid hy
  obtain rfl := hx.val
  obtain rfl := hy.val
  replace hg := Lib.hid hg
  replace hp := Lib.hid hp
  clear hx hy ex ey
  go_enter_defers Tryz.func187, Tryz.ntmps187
  go_wp2_with fail
  refine A1.out.mono ?_
  rintro e w1 ⟨rfl, hd1⟩
  rw [show aliasB none (some bx) = false from rfl]
  have A2' := Lib.hid (A2.out w1 hd1)
  replace hd1 := Lib.hid hd1
  go_wp2_with fail
  refine A2'.out.mono ?_
  rintro e w2 ⟨rfl, hd2⟩
  obtain ⟨d, rfl⟩ := hd1.out.trans hd2
  go_wp2_with fail
  refine (getStack_any _).mono ?_
  rintro e w3 ⟨rfl, hs, hf, hlt⟩
  have f3 : Fr (fun _ => False) w w3 := (Fr.drewN _ w d).trans hf (fun _ _ h => h)
  have rx3 := cell_frame rx f3 (fun h => h)
  have ry3 := cell_frame ry f3 (fun h => h)
  replace hs := Lib.hid hs
  replace hf := Lib.hid hf
  replace hlt := Lib.hid hlt
  go_wp2_with fail
  have hx3 := hwx.out.natv.frame f3 (fun _ _ h => h)
  have S := set_any (.slice none 0 0) _ none (some bx) m w3 rfl hx3 (Nat.lt_of_le_of_lt (Nat.le_trans (Nat.le_of_eq (Nat.pow_one m).symm) (Nat.pow_le_pow_right (by omega) (show 1 ≤ n by omega))) (Nat.lt_of_lt_of_le hp.out (Nat.pow_le_pow_right W64_pos (by omega))))
  replace S := Lib.hid S
  replace f3 := Lib.hid f3
  clear hx3 rx3
  refine S.out.mono ?_
  intro e w4 hS
  obtain ⟨v4, ob4, rfl, hv4, hf4, hn4⟩ := hS.new
  have ry4 := cell_frame ry3 hf4 (fun h => h)
  replace hv4 := Lib.hid hv4
  replace hf4 := Lib.hid hf4
  replace hn4 := Lib.hid hn4
  have N := Lib.hid (nlz_any n (by unfold W64; omega) w4)
  clear ry3
  go_wp2_with fail
  refine N.out.mono ?_
  rintro e w5 ⟨rfl, rfl⟩
  obtain ⟨s0, wb, hs0, hsw, hw1, hw2⟩ : ∃ s0 wb : Nat, s0 = 64 - Lib.bitLen n ∧ s0 + 1 + wb = 64 ∧ 2 ^ wb ≤ n ∧ n < 2 ^ (wb + 1) := exp_shape h2 hn
  rw [← hs0]
  replace hw1 := Lib.hid hw1
  replace hw2 := Lib.hid hw2
  clear hs0 N
  have e7 : (s0 : Int) < 64 := by omega
  go_wp2_with fail
  have ew : IntKind.u64.wrap ((n : Int) * 2 ^ (s0 + 1)) = ((shw1 n (s0 + 1) : Nat) : Int) := by
    rw [wrapu_mod]
    have : ((n : Int) * 2 ^ (s0 + 1)) = ((n * 2 ^ (s0 + 1) : Nat) : Int) := by simp
    rw [this]; rfl
  have ev : (64 : Int) - ((s0 : Int) + 1) = (wb : Int) := by omega
  rw [ew, ev]
  clear ew ev
  obtain ⟨sp, hsp⟩ : ∃ sp, sp = w.heap.size := ⟨_, rfl⟩
  rw [← hsp]
  have hs4 : w3.cell? ⟨sp, 0, none⟩ = some (.pointer none) := by rw [hsp]; exact hs.out
  have hl3 : sp < w3.heap.size := by rw [hsp]; exact hlt.out
  replace hs4 := Lib.hid hs4
  replace hl3 := Lib.hid hl3
  replace hsp := Lib.hid hsp
  clear hs hlt hf A1 A2 A2' hd1 hd2 S rx ry ry4 hS
  go_loopw [0, 15, 19, 21] (fun z v zz i wr => ∃ (k : Nat) (ob1 ob2 : Option Nat), i = .int .i64 (k : Int) ∧ k ≤ wb ∧ v = .int .u64 ((shw1 n (s0 + 1 + k) : Nat) : Int) ∧ Hid (NatV wr z ob1 (m ^ (n / 2 ^ (wb - k))) ∧ Sto wr zz ob2 ∧ Fr (fun _ => False) w3 wr ∧ (∀ b, ob1 = some b → w3.heap.size ≤ b) ∧ (∀ b, ob2 = some b → w3.heap.size ≤ b) ∧ (∀ b, ob1 = some b → ob2 ≠ some b))) (fun _ _ _ i _ => wb - (intOf i).toNat)
  case atStart =>
    refine ⟨0, ob4, none, rfl, Nat.zero_le _, rfl, ?_, rfl, hf4.out, hn4.out, (fun b hb => by cases hb), (fun b _ hb => by cases hb)⟩
    have : n / 2 ^ (wb - 0) = 1 := by
      rw [Nat.sub_zero, Nat.div_eq_iff (Nat.pow_pos (by omega))]
      have := hw1.out; have := hw2.out
      rw [Nat.pow_succ] at this
      omega
    rw [this, Nat.pow_one]
    exact hv4.out
  case round =>
    obtain ⟨k, ob1, ob2, rfl, hk, rfl, hrel⟩ := hrel
    obtain ⟨g1, g2, g3, g4, g5, g6⟩ := hrel.out
    by_cases hlt : k < wb
    · obtain ⟨t, ht⟩ : ∃ t, wb = k + 1 + t := ⟨wb - (k + 1), by omega⟩
      obtain ⟨tp1, tp2⟩ := shw1_top (n := n) (s := s0 + 1 + k) (t := t) (by omega)
      rw [show wb - k = t + 1 by omega] at g1
      have hvl : shw1 n (s0 + 1 + k) < W64 := Nat.mod_lt _ W64_pos
      have ea := and_top hvl
      have en : IntKind.u64.wrap (((shw1 n (s0 + 1 + k) : Nat) : Int) * 2) = ((shw1 n (s0 + 1 + (k + 1)) : Nat) : Int) := by
        rw [wrapu_mod, show s0 + 1 + (k + 1) = s0 + 1 + k + 1 by omega, ← shw1_next, Int.natCast_emod, Int.natCast_mul]
        rfl
      obtain ⟨a, hA⟩ : ∃ a, a = n / 2 ^ (t + 1) := ⟨_, rfl⟩
      rw [← hA] at g1 tp1
      obtain ⟨v, hv⟩ : ∃ v, v = shw1 n (s0 + 1 + k) := ⟨_, rfl⟩
      rw [← hv] at tp1 tp2 ea en
      rw [← hv]
      obtain ⟨v', hv'⟩ : ∃ v, v = shw1 n (s0 + 1 + (k + 1)) := ⟨_, rfl⟩
      rw [← hv'] at en
      have hna : n / 2 ^ t ≤ n := Nat.div_le_self _ _
      have hpa : ∀ c, c ≤ n → m ^ c < W64 ^ 9 := fun c hc => Nat.lt_of_le_of_lt (Nat.pow_le_pow_right (by omega) hc) hp.out
      have up : ∀ {x q : Nat}, 9 ≤ q → x < W64 ^ 9 → x < W64 ^ q := fun hq h => Nat.lt_of_lt_of_le h (Nat.pow_le_pow_right W64_pos hq)
      have hgr := hg.out.frame (f3.out.trans g3 (fun _ _ h => h)) (fun _ h => h.elim)
      have H := sqr_any _ (.pointer (some ⟨sp, 0, none⟩)) _ ob2 ob1 (m ^ a) wr g2 g1 (up (by omega) (hpa a (by omega))) hgr
      rw [← Nat.pow_add, ← Nat.two_mul] at H
      replace H := Lib.hid H
      have hx1 := hwx.out.natv.frame (f3.out.trans g3 (fun _ _ h => h)) (fun _ _ h => h)
      have hbx : bx < w.heap.size := hwx.out.blk.lt
      have hw03 : w.heap.size ≤ w3.heap.size := f3.out.size
      -- what the mul makes of it
      have M : ∀ (z' : Value) (ob3 : Option Nat) (w1 : World) (zo : Value), zo = u0 → NatV w1 z' ob3 (m ^ (2 * a)) → Fr (fun k => ob2 = some k) wr w1 → (ob3 = ob2 ∨ ∃ b, ob3 = some b ∧ wr.heap.size ≤ b) → 2 * a + 1 ≤ n →
          Calls Tryz.prog 90 #[zo, .pointer (some ⟨sp, 0, none⟩), z', .slice (some ⟨bx, 0, none⟩) 1 lx.length] w1 (NatEnd w1 ob1 (m ^ (2 * a + 1))) := by
        rintro z' ob3 w1 zo rfl hz' hf ho hle
        rw [Nat.pow_succ]
        refine mul_any _ _ z' _ ob1 ob3 (some bx) _ m w1 (g1.sto.frame hf (fun b hb e => g6 b hb e)) hz' (hx1.frame hf (fun b hb e => ?_)) (up (by omega) (hpa _ (by omega))) ?_ (hgr.frame hf (fun k hk => ?_))
        · simp only [Option.some.injEq] at hb; subst hb
          have := g5 _ e; omega
        · have := hpa 1 (by omega)
          rw [Nat.pow_one] at this
          exact up (by omega) this
        · have h1 := g5 _ hk
          have h2 := World.block_lt_of_cell? w _ hg.out.g16
          have h3 : 16 < w.heap.size := h2
          omega
      replace M := Lib.hid M
      replace hp := Lib.hid hp
      replace hrel := Lib.hid hrel
      replace hx1 := Lib.hid hx1
      replace hgr := Lib.hid hgr
      replace hv := Lib.hid hv
      replace hv' := Lib.hid hv'
      replace hA := Lib.hid hA
      replace hpa := Lib.hid hpa
      have g12 := Lib.hid g1
      have g22 := Lib.hid g2
      have g32 := Lib.hid g3
      have g42 := Lib.hid g4
      have g52 := Lib.hid g5
      have g62 := Lib.hid g6
      have e9 : (k : Int) < wb := by omega
      replace tp1 := Lib.hid tp1
      replace hna := Lib.hid hna
      have ek : wb - (k + 1) = t := by omega
      replace ek := Lib.hid ek
      replace ht := Lib.hid ht
      have fin : ∀ (z1 zz1 : Value) (o1 o2 : Option Nat) (w1 : World), NatV w1 z1 o1 (m ^ (n / 2 ^ t)) → Sto w1 zz1 o2 → Fr (fun x => ob2 = some x ∨ ob1 = some x) wr w1 → (∀ b, o1 = some b → w3.heap.size ≤ b) → (∀ b, o2 = some b → w3.heap.size ≤ b) →
          (∀ b, o1 = some b → o2 ≠ some b) → NatV w1 z1 o1 (m ^ (n / 2 ^ (wb - (k + 1)))) ∧ Sto w1 zz1 o2 ∧ Fr (fun _ => False) w3 w1 ∧ (∀ b, o1 = some b → w3.heap.size ≤ b) ∧ (∀ b, o2 = some b → w3.heap.size ≤ b) ∧ (∀ b, o1 = some b → o2 ≠ some b) := by
        intro z1 zz1 o1 o2 w1 h1 h2 h3 h4 h5 h6
        refine ⟨by rw [ek.out]; exact h1, h2, g32.out.trans h3 (fun i hi e => ?_), h4, h5, h6⟩
        rcases e with e | e
        · have := g52.out _ e; omega
        · have := g42.out _ e; omega
      replace fin := Lib.hid fin
      have hsz : w3.heap.size ≤ wr.heap.size := g3.size
      replace hsz := Lib.hid hsz
      rcases tp2 with hb | hb
      · rw [hb] at ea
        have ea : bits .and .u64 (v : Int) 9223372036854775808 = 0 := ea
        replace hb := Lib.hid hb
        clear up hvl g1 g2 g3 g4 g5 g6
        go_wp2_with fail
        refine H.out.mono ?_
        rintro e w1 ⟨z', ob3, rfl, hz', hf', ho'⟩
        replace hz' := Lib.hid hz'
        replace hf' := Lib.hid hf'
        replace ho' := Lib.hid ho'
        go_wp2_with fail
        go_roundw
        case rel =>
          have e2 : n / 2 ^ t = 2 * a := by rw [tp1.out, hb.out]; rfl
          have n3 : ∀ b, ob3 = some b → w3.heap.size ≤ b := fun b h => by
            rcases ho'.out with e | ⟨c, e, hc⟩
            · exact g52.out b (e ▸ h)
            · rw [e] at h; cases h; have := hsz.out; omega
          refine ⟨k + 1, ob3, ob1, by congr 1, by omega, by rw [hv'.out], fin.out _ _ _ _ _ (by rw [e2]; exact hz'.out) (g12.out.sto.frame hf'.out (fun b h e => g62.out b h e)) (hf'.out.mono (fun _ _ h => Or.inl h)) n3 g42.out ?_⟩
          intro b h1 h2
          rcases ho'.out with e | ⟨c, e, hc⟩
          · exact g62.out b h2 (e ▸ h1)
          · rw [e] at h1; cases h1
            subst h2
            have := g12.out.lt; omega
        case measure => simp [intOf]; omega
      · rw [hb] at ea
        have ea : bits .and .u64 (v : Int) 9223372036854775808 = 9223372036854775808 := ea
        have e2 : n / 2 ^ t = 2 * a + 1 := by rw [tp1.out, hb]
        replace hb := Lib.hid hb
        replace e2 := Lib.hid e2
        clear up hvl g1 g2 g3 g4 g5 g6
        go_wp2_with fail
        refine H.out.mono ?_
        rintro e w1 ⟨z', ob3, rfl, hz', hf', ho'⟩
        have M' := M.out z' ob3 w1 u0 rfl hz' hf' ho' (by have := hna.out; rw [e2.out] at this; exact this)
        replace M' := Lib.hid M'
        replace hz' := Lib.hid hz'
        replace hf' := Lib.hid hf'
        replace ho' := Lib.hid ho'
        go_wp2_with fail
        refine M'.out.mono ?_
        rintro e w5 ⟨z5, ob5, rfl, hz5, hf5, ho5⟩
        replace hz5 := Lib.hid hz5
        replace hf5 := Lib.hid hf5
        replace ho5 := Lib.hid ho5
        go_wp2_with fail
        go_roundw
        case rel =>
          have n3 : ∀ b, ob3 = some b → w3.heap.size ≤ b := fun b h => by
            rcases ho'.out with e | ⟨c, e, hc⟩
            · exact g52.out b (e ▸ h)
            · rw [e] at h; cases h; have := hsz.out; omega
          have hs1 := hf'.out.size
          have n5 : ∀ b, ob5 = some b → w3.heap.size ≤ b := fun b h => by
            rcases ho5.out with e | ⟨c, e, hc⟩
            · exact g42.out b (e ▸ h)
            · rw [e] at h; cases h; have := hsz.out; omega
          have d31 : ∀ b, ob3 = some b → ob1 ≠ some b := by
            intro b h1 h2
            rcases ho'.out with e | ⟨c, e, hc⟩
            · exact g62.out b h2 (e ▸ h1)
            · rw [e] at h1; cases h1
              subst h2
              have := g12.out.lt; omega
          refine ⟨k + 1, ob5, ob3, by congr 1, by omega, by rw [hv'.out], fin.out _ _ _ _ _ (by rw [e2.out]; exact hz5.out) (hz'.out.sto.frame hf5.out (fun b h e => d31 b h e)) ((hf'.out.mono (fun _ _ h => Or.inl h)).trans hf5.out (fun _ _ h => Or.inr h)) n5 n3 ?_⟩
          intro b h1 h2
          rcases ho5.out with e | ⟨c, e, hc⟩
          · exact d31 b h2 (e ▸ h1)
          · rw [e] at h1; cases h1
            subst h2
            have := hz'.out.lt; omega
        case measure => simp [intOf]; omega
    · obtain rfl : k = wb := by omega
      have hst : wr.cell? ⟨sp, 0, none⟩ = some (.pointer none) := cell_frame hs4.out g3 (fun h => h)
      rw [Nat.sub_self, Nat.pow_zero, Nat.div_one] at g1
      have NN := Lib.hid (norm_natv _ _ _ _ g1)
      have f0 := Lib.hid (f3.out.trans g3 (fun _ _ h => h))
      have gn := Lib.hid g4
      have hw03 := Lib.hid f3.out.size
      replace hst := Lib.hid hst
      clear g1 g2 g3 g4 g5 g6
      go_wp2_with fail
      go_loopw [0, 22] (fun z i wr' => z = u0 ∧ i = .int .i64 (-1) ∧ wr' = wr) (fun _ _ _ => 0)
      case atStart => exact ⟨rfl, rfl, rfl⟩
      case round =>
        obtain ⟨rfl, rfl, rfl⟩ := hrel
        go_wp2_with fail
        refine NN.out.mono ?_
        rintro e w9 ⟨v9, rfl, h9, rfl⟩
        replace h9 := Lib.hid h9
        go_wp2_with fail
        refine leaves_cons (f := 113) (args := #[.pointer (some ⟨sp, 0, none⟩)]) (by simp) (by simp [go_sem]) ?_
        refine (stackFree_any _ .returning _ hst.out).mono ?_
        rintro e u' w'' ⟨rfl, rfl, rfl⟩
        refine ⟨_, results_tmp rfl _ _ _, ?_⟩
        exact ⟨v9, ob1, rfl, h9.out, f0.out, fun b hb => Nat.le_trans hw03.out (gn.out b hb)⟩
end Go.Proofs.YtcpjclakdpjjfaaGreatDoor

namespace Go.Proofs.YtcpjclakdpjjfaaGreatDoor
open Go.RowKit

set_option maxHeartbeats 1000000 in
set_option maxRecDepth 100000 in
theorem expNN_zero (x y : Value) (ox oy : Option Nat) (m : Nat) (w : World) (hx : NatV w x ox m) (hy : NatV w y oy 0) :
    Calls Tryz.prog 187 #[.slice none 0 0, .pointer none, x, y, .slice none 0 0, .bool false] w (NewEnd w 1) := by
  have A1 := Lib.hid (alias_any (.slice none 0 0) x none ox w rfl hx.sto)
  have A2 : Hid (∀ w1, Dr w w1 → Calls Tryz.prog 84 #[.slice none 0 0, y] w1 fun e w' => e = .returned (.bool false) ∧ Dr w1 w') := fun w1 ⟨k, hk⟩ => by
    subst hk
    exact alias_any (.slice none 0 0) y none oy _ rfl (hy.sto.frame (Fr.drewN (fun _ => False) w k) (fun _ _ f => f))
  obtain ⟨ay, cy, rfl⟩ : ∃ a c, y = .slice a 0 c := by
    rcases hy.split with ⟨_, a, c, h⟩ | ⟨b, l, len, _, h⟩
    · exact ⟨a, c, h⟩
    · exact absurd h.npos (Nat.lt_irrefl _)
  obtain ⟨ax, nx, cx, rfl⟩ : ∃ a n c, x = .slice a n c := by
    rcases hx.split with ⟨_, ax, cx, ex⟩ | ⟨bx, lx, nx, _, Hx⟩
    · exact ⟨_, _, _, ex⟩
    · exact ⟨_, _, _, Hx.val⟩
  clear hx hy
  go_enter_defers Tryz.func187, Tryz.ntmps187
  go_wp2_with fail
  refine A1.out.mono ?_
  rintro e w1 ⟨rfl, hd1⟩
  rw [show aliasB none ox = false from rfl]
  have A2' := Lib.hid (A2.out w1 hd1)
  replace hd1 := Lib.hid hd1
  go_wp2_with fail
  refine A2'.out.mono ?_
  rintro e w2 ⟨rfl, hd2⟩
  obtain ⟨d, rfl⟩ := hd1.out.trans hd2
  have S := Lib.hid (setWord_any (.slice none 0 0) none 1 (w.drewN d) rfl (by unfold W64; omega))
  clear A1 A2 A2' hd1 hd2
  go_wp2_with fail
  refine S.out.mono ?_
  intro e w4 hS
  obtain ⟨v4, ob4, rfl, hv4, hf4, hn4⟩ := hS.new
  replace hv4 := Lib.hid hv4
  replace hf4 := Lib.hid hf4
  replace hn4 := Lib.hid hn4
  clear hS
  go_wp2_with fail
  refine ⟨_, results_tmp rfl _ _ _, ?_⟩
  exact ⟨v4, ob4, rfl, hv4.out, (Fr.drewN _ w d).trans hf4.out (fun _ _ h => h), hn4.out⟩

set_option maxHeartbeats 1000000 in
set_option maxRecDepth 100000 in
theorem expNN_one (x y : Value) (bx by_ m : Nat) (lx ly : List Nat) (w : World) (hx : Wds w x bx lx 1 m) (hy : Wds w y by_ ly 1 1) (hm : 2 ≤ m) :
    Calls Tryz.prog 187 #[.slice none 0 0, .pointer none, x, y, .slice none 0 0, .bool false] w (NewEnd w m) := by
  have A1 := Lib.hid (alias_any (.slice none 0 0) x none (some bx) w rfl hx.natv.sto)
  have A2 : Hid (∀ w1, Dr w w1 → Calls Tryz.prog 84 #[.slice none 0 0, y] w1 fun e w' => e = .returned (.bool false) ∧ Dr w1 w') := fun w1 ⟨k, hk⟩ => by
    subst hk
    exact alias_any (.slice none 0 0) y none (some by_) _ rfl (hy.natv.sto.frame (Fr.drewN (fun _ => False) w k) (fun _ _ f => f))
  have ex : gd lx 0 = m := by rw [← hx.eq]; show _ = gd lx 0 + W64 * 0; omega
  have ey : gd ly 0 = 1 := by rw [← hy.eq]; show _ = gd ly 0 + W64 * 0; omega
  have rx : w.cell? ⟨bx, 0, none⟩ = some (.int .u64 (m : Int)) := by have := hx.blk.cell 0 hx.le; rw [← ex]; exact this
  have ry : w.cell? ⟨by_, 0, none⟩ = some (.int .u64 1) := by have := hy.blk.cell 0 hy.le; exact this.trans (by show some (Value.int _ ((gd ly 0 : Nat) : Int)) = _; rw [ey]; rfl)
  have q1 := hx.le
  have q2 := hy.le
  have e1 : ((m : Int) == 1) = false := by simp; omega
  have hwx := Lib.hid hx
  have hlt := Lib.hid hx.lt
  obtain rfl := hx.val
  obtain rfl := hy.val
  clear hx hy ex ey
  go_enter_defers Tryz.func187, Tryz.ntmps187
  go_wp2_with fail
  refine A1.out.mono ?_
  rintro e w1 ⟨rfl, hd1⟩
  rw [show aliasB none (some bx) = false from rfl]
  have A2' := Lib.hid (A2.out w1 hd1)
  replace hd1 := Lib.hid hd1
  go_wp2_with fail
  refine A2'.out.mono ?_
  rintro e w2 ⟨rfl, hd2⟩
  obtain ⟨d, rfl⟩ := hd1.out.trans hd2
  have S := Lib.hid (set_any (.slice none 0 0) _ none (some bx) m (w.drewN d) rfl (hwx.out.natv.frame (Fr.drewN (fun _ => False) w d) (fun _ _ f => f)) (Nat.lt_of_lt_of_le hlt.out (Nat.pow_le_pow_right W64_pos (by omega))))
  clear A1 A2 A2' hd1 hd2
  go_wp2_with fail
  refine S.out.mono ?_
  intro e w4 hS
  obtain ⟨v4, ob4, rfl, hv4, hf4, hn4⟩ := hS.new
  replace hv4 := Lib.hid hv4
  replace hf4 := Lib.hid hf4
  replace hn4 := Lib.hid hn4
  clear hS
  go_wp2_with fail
  refine ⟨_, results_tmp rfl _ _ _, ?_⟩
  exact ⟨v4, ob4, rfl, hv4.out, (Fr.drewN _ w d).trans hf4.out (fun _ _ h => h), hn4.out⟩

/-- A number of one word raised to a small power. -/
theorem expNN_any (x y : Value) (ox oy : Option Nat) (m n : Nat) (w : World) (hx : NatV w x ox m) (hy : NatV w y oy n) (hm : 2 ≤ m) (hm1 : m < W64) (hn : n < 1000) (hp : m ^ n < W64 ^ 9) (hg : Gk w) :
    Calls Tryz.prog 187 #[.slice none 0 0, .pointer none, x, y, .slice none 0 0, .bool false] w (NewEnd w (m ^ n)) := by
  rcases hx.split with ⟨rfl, _⟩ | ⟨bx, lx, nx, rfl, Hx⟩
  · omega
  · have kx : nx = 1 := by
      have := Hx.len_le (k := 1) (by rw [Nat.pow_one]; exact hm1)
      have := Hx.pos
      omega
    subst kx
    rcases hy.split with ⟨rfl, _⟩ | ⟨by_, ly, ny, rfl, Hy⟩
    · rw [Nat.pow_zero]; exact expNN_zero x y _ oy m w hx hy
    · have ky : ny = 1 := by
        have := Hy.len_le (k := 1) (by rw [Nat.pow_one]; unfold W64; omega)
        have := Hy.pos
        omega
      subst ky
      have hpos := Hy.npos
      by_cases h1 : n = 1
      · subst h1; rw [Nat.pow_one]; exact expNN_one x y bx by_ m lx ly w Hx Hy hm
      · exact expNN_loop x y bx by_ m n lx ly w Hx Hy (by omega) hn hm hp hg
end Go.Proofs.YtcpjclakdpjjfaaGreatDoor

namespace Go.Proofs.YtcpjclakdpjjfaaGreatDoor
open Go.RowKit

/-! The guess of a digit in the long division, in plain numbers. V = (v1 W + v2) P + v0, X = (h W W + u1 W + u2) P + x0. -/

theorem kd_dec {A B P v0 x0 V X q : Nat} (hV : V = A * P + v0) (hX : X = B * P + x0) (hx : x0 < P) (hq : B < q * A) : X / V < q := by
  have h1 : X / V * V ≤ X := Nat.div_mul_le_self _ _
  have h2 : X / V * (A * P) ≤ X / V * V := Nat.mul_le_mul_left _ (by omega)
  have h3 : X < (B + 1) * P := by rw [Nat.add_mul, Nat.one_mul]; omega
  generalize X / V = d at *
  have h4 : d * A * P < (B + 1) * P := by rw [Nat.mul_assoc]; omega
  have h5 : d * A < B + 1 := Nat.lt_of_mul_lt_mul_right h4
  have h6 : d * A < q * A := by omega
  exact Nat.lt_of_mul_lt_mul_right h6

theorem kd_stop {A B P v0 x0 V X q : Nat} (hV : V = A * P + v0) (hv : v0 < P) (hX : X = B * P + x0) (hq : q * A ≤ B) (hqA : q ≤ A) (hA : 0 < A) (hP : 0 < P) : q ≤ X / V + 1 := by
  cases q with
  | zero => exact Nat.zero_le _
  | succ r =>
    have hVp : 0 < V := by rw [hV]; exact Nat.lt_of_lt_of_le (Nat.mul_pos hA hP) (Nat.le_add_right _ _)
    have : r ≤ X / V := by
      rw [Nat.le_div_iff_mul_le hVp]
      have h1 : r * V ≤ r * (A * P) + r * P := by
        rw [hV, Nat.mul_add]
        exact Nat.add_le_add_left (Nat.mul_le_mul_left _ (Nat.le_of_lt hv)) _
      have h2 : r * P ≤ A * P := Nat.mul_le_mul_right _ (by omega)
      have h3 : r * (A * P) + A * P = (r + 1) * A * P := by rw [Nat.mul_assoc, Nat.add_mul r, Nat.one_mul]
      have h4 : (r + 1) * A * P ≤ B * P := Nat.mul_le_mul_right _ hq
      omega
    omega

theorem kd_start {W P v1 v2 v0 h u1 u2 x0 V X : Nat} (hV : V = (v1 * W + v2) * P + v0) (hX : X = (h * W * W + u1 * W + u2) * P + x0) (hx : x0 < P) (hu : u2 < W) (h1 : 0 < v1) : X / V ≤ (h * W + u1) / v1 := by
  rw [Nat.le_div_iff_mul_le h1]
  have e1 : X / V * V ≤ X := Nat.div_mul_le_self _ _
  have e2 : X / V * (v1 * (W * P)) ≤ X / V * V := by
    refine Nat.mul_le_mul_left _ ?_
    rw [hV, Nat.add_mul, Nat.mul_assoc]; omega
  have e3 : X < (h * W + u1 + 1) * (W * P) := by
    have a1 : h * W * W + u1 * W + u2 + 1 ≤ (h * W + u1 + 1) * W := by rw [Nat.add_mul, Nat.add_mul, Nat.one_mul]; omega
    generalize h * W * W + u1 * W + u2 = B at *
    have a2 := Nat.mul_le_mul_right P a1
    rw [Nat.mul_assoc, Nat.add_mul B, Nat.one_mul] at a2
    omega
  generalize X / V = d at *
  have e4 : d * v1 * (W * P) < (h * W + u1 + 1) * (W * P) := by rw [Nat.mul_assoc]; omega
  have := Nat.lt_of_mul_lt_mul_right e4
  omega

theorem kd_top {W P v1 v2 v0 u1 u2 x0 V X : Nat} (hV : V = (v1 * W + v2) * P + v0) (hv : v0 < P) (hv2 : v2 < W) (hX : X = (v1 * W * W + u1 * W + u2) * P + x0) (h1 : W ≤ 2 * v1 + 2) (hW : 2 ≤ W) (hv1 : 0 < v1) : W - 1 ≤ X / V + 1 := by
  obtain ⟨w, rfl⟩ : ∃ w, W = w + 2 := ⟨W - 2, by omega⟩
  have hVp : 0 < V := by
    rw [hV]
    exact Nat.lt_of_lt_of_le (Nat.mul_pos (Nat.lt_of_lt_of_le (Nat.mul_pos hv1 (by omega)) (Nat.le_add_right _ _)) (by omega)) (Nat.le_add_right _ _)
  have : w ≤ X / V := by
    rw [Nat.le_div_iff_mul_le hVp]
    have a1 : V ≤ (v1 + 1) * ((w + 2) * P) := by
      have b1 : v1 * (w + 2) + v2 + 1 ≤ (v1 + 1) * (w + 2) := by rw [Nat.add_mul (v1), Nat.one_mul]; omega
      have b2 := Nat.mul_le_mul_right P b1
      rw [Nat.mul_assoc (v1 + 1), Nat.add_mul (v1 * (w + 2) + v2), Nat.one_mul] at b2
      omega
    have a2 : w * V ≤ w * ((v1 + 1) * ((w + 2) * P)) := Nat.mul_le_mul_left _ a1
    have a3 : w * (v1 + 1) ≤ v1 * (w + 2) := by rw [Nat.mul_add, Nat.mul_add, Nat.mul_one, Nat.mul_comm v1 w]; omega
    have a4 : w * (v1 + 1) * ((w + 2) * P) ≤ v1 * (w + 2) * ((w + 2) * P) := Nat.mul_le_mul_right _ a3
    have a5 : v1 * (w + 2) * ((w + 2) * P) = v1 * (w + 2) * (w + 2) * P := by rw [Nat.mul_assoc (v1 * (w + 2))]
    have a6 : v1 * (w + 2) * (w + 2) * P ≤ X := by rw [hX, Nat.add_mul, Nat.add_mul]; omega
    rw [Nat.mul_assoc] at a4
    omega
  omega

/-- The row less the guess times the divisor: no borrow: the guess is the digit; a borrow: it is one too great, and adding the divisor back mends it. -/
theorem kd_sub {V X q L M c : Nat} (hV : 0 < V) (h1 : X / V ≤ q) (h2 : q ≤ X / V + 1) (hs : L + q * V = X + c * M) (hL : L < M) (hc : c ≤ 1) :
    (c = 0 → q = X / V ∧ L = X % V) ∧ (c = 1 → q = X / V + 1 ∧ L + V = X % V + M) := by
  have hd := Nat.div_add_mod X V
  have hm := Nat.mod_lt X hV
  rw [Nat.mul_comm] at hd
  constructor
  · rintro rfl
    rw [Nat.zero_mul, Nat.add_zero] at hs
    have : q ≤ X / V := by rw [Nat.le_div_iff_mul_le hV]; omega
    have e : q = X / V := by omega
    subst e
    exact ⟨rfl, by omega⟩
  · rintro rfl
    rw [Nat.one_mul] at hs
    have : q ≠ X / V := by rintro rfl; omega
    have e : q = X / V + 1 := by omega
    rw [e, Nat.add_mul, Nat.one_mul] at hs
    exact ⟨e, by omega⟩
end Go.Proofs.YtcpjclakdpjjfaaGreatDoor

namespace Go.Proofs.YtcpjclakdpjjfaaGreatDoor
open Go.RowKit

theorem zeroCells_zrow (n : Nat) : Builtin.zeroCells (Value.int IntKind.u64 0).cells n = zrow n := by
  apply Array.toList_inj.1
  have h1 : (zrow n).toList = List.replicate n (.int .u64 0) := by
    unfold zrow
    rw [List.map_replicate]; rfl
  rw [h1, show (Value.int IntKind.u64 0).cells = #[.int .u64 0] from rfl]
  simp [Builtin.zeroCells]
  apply List.ext_getElem
  · simp
  · intro i h1 h2
    simp [Nat.mod_one]
theorem zrow_add (m n : Nat) : zrow m ++ zrow n = zrow (m + n) := by
  unfold zrow
  rw [List.append_toArray, ← List.map_append, List.replicate_append_replicate]

/-- append(nil, make([]Word, m)...): a new block of m words that are 0, and of what the tape adds. -/
theorem run_append_nil (t : TypeId) (ht : Tryz.prog.underlying t = some (.slice 121)) (m : Nat) (h0 : 0 < m) (hm : m ≤ 1000) (ty : TypeId) (w : World) :
    ∃ c, m ≤ c ∧ (Builtin.append_ #[t, 3] ty #[.slice none 0 0, .int .i64 (m : Int)]).run Tryz.prog w = .ok (.slice (some ⟨w.heap.size, 0, none⟩) m c) (w.drew.alloc (.cells (zrow c) 121)) := by
  obtain ⟨i, hi, hz⟩ := Option.map_eq_some_iff.1 row121
  simp only [Prod.mk.injEq] at hz
  obtain ⟨hz, hs, hb⟩ := hz
  have hge := grownCap_ge w (0 + m) 0 121
  refine ⟨grownCap w (0 + m) 0 121, by omega, ?_⟩
  have hw : IntKind.i64.wrap (m : Int) = m := by rw [IntKind.wrap_i64]; omega
  have hneg : ¬ ((m : Int) < 0) := by omega
  have hbig : ¬ (281474976710656 < (m : Int) * (i.bytes : Int)) := by rw [hb]; omega
  have hn : ¬ (0 + m ≤ 0) := by omega
  have h63' : ¬ (9223372036854775807 < (m : Int)) := by omega
  have hfit := growslice_fits (bytes := i.bytes) (show 0 < 0 + m by omega) (by rw [hb]; omega)
  have h48' : ¬ (281474976710656 < Builtin.nextslicecap (0 + m) 0 * i.bytes) := by omega
  have hm0 : ¬ m = 0 := by omega
  simp only [Nat.zero_add] at *
  have hmz : ¬ (m * i.size = 0) := by rw [hs]; omega
  simp [Builtin.append_, run_underlying ht, run_underlying Tryz.underlying3, sizeOf, typeInfo, zeroValue, hi, hz, asInt, asIntOf, hw, hneg, hbig, h63', h48', Question.forced, newRow, grownCap, hmz, hm0, Builtin.firstCells]
  have hc : m ≤ (Question.appendCap m 0 121).cut (w.tape w.drawn (Question.appendCap m 0 121)) := hge
  have e : Builtin.zeroCells (Value.int IntKind.u64 0).cells m ++ Builtin.zeroCells (Value.int IntKind.u64 0).cells ((Question.appendCap m 0 121).cut (w.tape w.drawn (Question.appendCap m 0 121)) - m) = zrow ((Question.appendCap m 0 121).cut (w.tape w.drawn (Question.appendCap m 0 121))) := by
    generalize (Question.appendCap m 0 121).cut (w.tape w.drawn (Question.appendCap m 0 121)) = c at *
    rw [zeroCells_zrow, zeroCells_zrow, zrow_add, Nat.add_sub_cancel' hc]
  rw [e]


theorem wpList_append_nil {w : World} {ops : Array Oper} {rest : List Oper} {o : Oper} {a : Act} {Q : Exit → Act → World → Prop} (hgd : o.guard = none) (s x : Operand) (t : TypeId)
    (ho : o.op = .call { callee := .builtin .append, args := #[s, x], argTypes := #[t, 3] }) (ht : Tryz.prog.underlying t = some (.slice 121)) (m : Nat) (h0 : 0 < m) (hm : m ≤ 1000)
    (hs : a.eval s = .slice none 0 0) (hx : a.eval x = .int .i64 (m : Int))
    (h : ∀ c, m ≤ c → wpList Tryz.prog ops Q rest (a.put o.dst (.slice (some ⟨w.heap.size, 0, none⟩) m c)) (w.drew.alloc (.cells (zrow c) 121))) :
    wpList Tryz.prog ops Q (o :: rest) a w := by
  refine wpList_plain hgd fun K hK => ?_
  obtain ⟨c, hc, hr⟩ := run_append_nil t ht m h0 hm o.type w
  unfold Oper.wp execOp
  simp only [ho, resolve, invoke, builtin, Sem.run_bind, Sem.run_pure, Result.andThen_ok, List.map_toArray, List.map_cons, List.map_nil, hs, hx, hr]
  exact hK _ _ (h c hc)

/-- A new row of words. -/
def RowNew (w : World) (n : Nat) (e : Ending) (w' : World) : Prop :=
  ∃ (b : Nat) (l : List Nat), e = .returned (.slice (some ⟨b, 0, none⟩) n l.length) ∧ Blk w' b l ∧ n ≤ l.length ∧ w.heap.size ≤ b ∧ Fr (fun _ => False) w w'

def GrowEnd (w : World) (m : Nat) (e : Ending) (w' : World) : Prop :=
  ∃ (b : Nat) (l : List Nat), e = .returned (.slice (some ⟨b, 0, none⟩) 0 l.length) ∧ Blk w' b l ∧ m ≤ l.length ∧ w.heap.size ≤ b ∧ Fr (fun _ => False) w w'

set_option maxHeartbeats 1000000 in
set_option maxRecDepth 100000 in
theorem grow_nil (m : Nat) (h0 : 0 < m) (hm : m ≤ 1000) (w : World) : Calls Tryz.prog 147 #[.slice none 0 0, .int .i64 (m : Int)] w (GrowEnd w m) := by
  have e1 : ¬ (m : Int) < 0 := by omega
  have e2 : (0 : Int) < m := by omega
  go_enter Tryz.func147, Tryz.ntmps147
  go_wp2_with (refine wpList_append_nil rfl (.tmp 20) (.tmp 21) 68 rfl Tryz.underlying68 m h0 hm rfl rfl ?_; intro c hc; have hb := Lib.hid (Blk.made w.drew c))
  go_ret
  exact ⟨w.heap.size, List.replicate c 0, by simp, hb.out, by simp; exact hc, Nat.le_refl _, (Fr.drewN _ w 1).trans (Fr.alloc _ _ _) (fun _ _ h => h)⟩

set_option maxHeartbeats 1000000 in
theorem stackNat_any (a : Addr) (n : Nat) (h0 : 0 < n) (hn : n ≤ 4) (w : World) (hc : w.cell? a = some (.pointer none)) : Calls Tryz.prog 120 #[.pointer (some a), .int .i64 (n : Int)] w (RowNew w n) := by
  have H := Lib.hid (grow_nil n h0 (by omega) w)
  have e1 : (n : Int) ≤ 4 := by omega
  have e2 : (0 : Int) < n := by omega
  go_enter Tryz.func120, Tryz.ntmps120
  go_wp2_with fail
  refine H.out.mono ?_
  rintro e w' ⟨b, l, rfl, hb, hl, hlt, hf⟩
  have r3 := hb.free 0
  have r4 := hb.cell 0 (by omega)
  replace hb := Lib.hid hb
  replace hf := Lib.hid hf
  replace hlt := Lib.hid hlt
  go_wp2_with fail
  go_ret
  exact ⟨b, l.set 0 11259375, by simp, hb.out.set 0 _ (by decide), by simp; exact hl, hlt.out, hf.out.trans (Fr.setCell (S := fun k => k = b) _ _ _ (fun _ => rfl)) (fun i hi e => by have := hlt.out; omega)⟩

theorem stackSave_any (a : Addr) (w : World) (hc : w.cell? a = some (.pointer none)) : Calls Tryz.prog 119 #[.pointer (some a)] w fun e w' => e = .returned (.int .i64 0) ∧ w' = w := by
  go_enter Tryz.func119, Tryz.ntmps119
  go_wp2
  go_ret
  exact ⟨rfl, rfl⟩

theorem stackRestore_any (a : Addr) (n : Value) (u : FrameMode) (w : World) (hc : w.cell? a = some (.pointer none)) :
    CallsD Tryz.prog 118 #[.pointer (some a), n] u w fun e u' w' => u' = u ∧ (e = .returned (.tuple #[]) ∧ w' = w) := by
  go_enter_d Tryz.func118, Tryz.ntmps118
  go_wp2
  refine bodyPost_ret (results_none rfl _ _ _) rfl ?_
  exact ⟨rfl, rfl⟩
end Go.Proofs.YtcpjclakdpjjfaaGreatDoor


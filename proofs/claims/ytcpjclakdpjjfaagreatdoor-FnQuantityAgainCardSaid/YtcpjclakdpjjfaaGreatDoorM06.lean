/-
  A part of the proof of FnQuantityAgain (texts N2, N3, N4, Hd of mine, joined).
-/
import Derived.Test.YtcpjclakdpjjfaaGreatDoorM05
import Derived.Test.YtcpjclakdpjjfaaGreatDoorM04
import Derived.Test.YtcpjclakdpjjfaaGreatDoorM01
import Derived.OrdersHeld
import Derived.StillTailTactics
import Derived.BigQuiet
import Derived.Deep.RegionHeld3
namespace Go.Proofs.YtcpjclakdpjjfaaGreatDoor
open Go.RowKit

/-- What comes of an operation into the storage oz: the number n, there or in a new block (or nowhere, where nothing was). -/
def NatEnd (w : World) (oz : Option Nat) (n : Nat) (e : Ending) (w' : World) : Prop :=
  ∃ v ob, e = .returned v ∧ NatV w' v ob n ∧ Fr (fun k => oz = some k) w w' ∧ (ob = oz ∨ ∃ b, ob = some b ∧ w.heap.size ≤ b)

theorem Fr.none {w w' : World} {S : Nat → Prop} (h : Fr (fun _ => False) w w') : Fr S w w' := h.mono (fun _ _ h => h.elim)

theorem NatV.zero {w : World} {b : Nat} {l : List Nat} (h : Blk w b l) (h1 : 0 < l.length) (h2 : l.length ≤ 1000) : NatV w (.slice (some ⟨b, 0, none⟩) 0 l.length) (some b) 0 :=
  ⟨l, 0, rfl, h, Nat.zero_le _, h1, h2, rfl, Or.inl rfl⟩

/-- A store into a fresh or an old block, out of make's end. -/
theorem make_fr {w w' : World} {oz : Option Nat} {b : Nat} (hf : Fr (fun _ => False) w w') (ho : oz = some b ∨ w.heap.size ≤ b) {w'' : World} (h : Fr (fun k => k = b) w' w'') : Fr (fun k => oz = some k) w w'' :=
  (Fr.none hf).trans h (fun i hi e => by
    subst e
    rcases ho with ho | ho
    · exact ho
    · omega)
theorem make_new {w : World} {oz : Option Nat} {b : Nat} (ho : oz = some b ∨ w.heap.size ≤ b) : some b = oz ∨ ∃ c, some b = some c ∧ w.heap.size ≤ c := by
  rcases ho with ho | ho
  · exact Or.inl ho.symm
  · exact Or.inr ⟨b, rfl, ho⟩

set_option maxHeartbeats 1000000 in
theorem setWord_any (v : Value) (oz : Option Nat) (x : Nat) (w : World) (h : Sto w v oz) (hx : x < W64) :
    Calls Tryz.prog 122 #[v, .int .u64 (x : Int)] w (NatEnd w oz x) := by
  by_cases h0 : x = 0
  · subst h0
    cases oz with
    | none =>
      have h : v = .slice none 0 0 := h
      subst h
      go_enter Tryz.func122, Tryz.ntmps122
      go_wp2
      go_ret
      exact ⟨.slice none 0 0, none, rfl, ⟨rfl, rfl⟩, Fr.refl _ _, Or.inl rfl⟩
    | some b =>
      obtain ⟨l, len, rfl, hb, hlen, hp, hc⟩ := h
      replace hb := Lib.hid hb
      have q : ¬ l.length = 0 := by omega
      go_enter Tryz.func122, Tryz.ntmps122
      go_wp2
      go_ret
      exact ⟨_, some b, rfl, NatV.zero hb.out hp hc, Fr.refl _ _, Or.inl rfl⟩
  · have e0 : ((x : Int) == 0) = false := by simp; omega
    have H := Lib.hid (make_any v oz 1 w h (Nat.le_refl _) (by omega))
    replace hx := Lib.hid hx
    clear h
    go_enter Tryz.func122, Tryz.ntmps122
    go_wp2_with fail
    refine H.out.mono ?_
    rintro e w' ⟨b, l, rfl, hb, hl, hc, hf, ho, _⟩
    have r3 := hb.free 0
    have r4 := hb.cell 0 (by omega)
    replace hb := Lib.hid hb
    replace hf := Lib.hid hf
    replace ho := Lib.hid ho
    go_wp2_with fail
    go_ret
    have hb := hb.out
    refine ⟨_, some b, rfl, ⟨l.set 0 x, 1, by simp, hb.set 0 x hx.out, by simp; omega, by simp; omega, by simp; omega, ?_, Or.inr ?_⟩, make_fr hf.out ho.out (Fr.setCell (S := fun k => k = b) _ _ _ (fun _ => rfl)), make_new ho.out⟩
    · show gd _ 0 + W64 * 0 = x
      rw [gd_set _ _ _ _ (by omega), if_pos rfl]; omega
    · rw [gd_set _ _ _ _ (by omega)]; exact h0

set_option maxHeartbeats 1000000 in
theorem setUint64_any (v : Value) (oz : Option Nat) (x : Nat) (w : World) (h : Sto w v oz) (hx : x < W64) :
    Calls Tryz.prog 92 #[v, .int .u64 (x : Int)] w (NatEnd w oz x) := by
  have H := Lib.hid (setWord_any v oz x w h hx)
  clear h hx
  go_enter Tryz.func92, Tryz.ntmps92
  go_wp2_with fail
  refine H.out.mono ?_
  rintro e w' ⟨v', ob, rfl, h⟩
  go_wp2_with fail
  go_ret
  exact ⟨v', ob, rfl, h⟩

theorem vl_seg {l m : List Nat} {n : Nat} (h : ∀ j, j < n → gd l (0 + j) = gd m (0 + j)) : vl l 0 n = vl m 0 n := vl_congr h

/-- A storage cut to nothing. -/
def cut0 : Value → Value
  | .slice a _ c => .slice a 0 c
  | x => x
theorem Sto.cut {w : World} {v : Value} {oz : Option Nat} (h : Sto w v oz) : NatV w (cut0 v) oz 0 := by
  cases oz with
  | none =>
    have h : v = .slice none 0 0 := h
    subst h; exact ⟨rfl, rfl⟩
  | some b =>
    obtain ⟨l, len, rfl, hb, hlen, hp, hc⟩ := h
    exact NatV.zero hb hp hc

set_option maxHeartbeats 1000000 in
theorem make_zero (v : Value) (oz : Option Nat) (w : World) (h : Sto w v oz) :
    Calls Tryz.prog 86 #[v, .int .i64 0] w fun e w' => e = .returned (cut0 v) ∧ w = w' := by
  cases oz with
  | none =>
    have h : v = .slice none 0 0 := h
    subst h
    go_enter Tryz.func86, Tryz.ntmps86
    go_wp2
    go_ret
    exact ⟨rfl, rfl⟩
  | some b =>
    obtain ⟨l, len, rfl, hb, hlen, hp, hc⟩ := h
    clear hb
    go_enter Tryz.func86, Tryz.ntmps86
    go_wp2
    go_ret
    exact ⟨rfl, rfl⟩

theorem NatV.words {w : World} {v : Value} {b n : Nat} (h : NatV w v (some b) n) : ∃ (l : List Nat) (len : Nat), v = .slice (some ⟨b, 0, none⟩) len l.length ∧ Blk w b l ∧ len ≤ l.length ∧ 0 < l.length ∧ l.length ≤ 1000 ∧ vl l 0 len = n ∧ (len = 0 ∨ gd l (len - 1) ≠ 0) := h

def lenOf : Value → Nat
  | .slice _ n _ => n
  | _ => 0
theorem NatV.len_le {w : World} {v : Value} {ob : Option Nat} {n k : Nat} (h : NatV w v ob n) (hn : n < W64 ^ k) : lenOf v ≤ k := by
  cases ob with
  | none => rw [h.1]; exact Nat.zero_le _
  | some b =>
    obtain ⟨l, len, rfl, _, _, _, _, h1, h2⟩ := h
    show len ≤ k
    exact Proofs.YtcpjclakdpjjfaaGreatDoor.len_le h2 (by rw [h1]; exact hn)

set_option maxHeartbeats 1000000 in
theorem set_any (v x : Value) (oz ox : Option Nat) (n : Nat) (w : World) (h : Sto w v oz) (hx : NatV w x ox n) (hn : n < W64 ^ 100) :
    Calls Tryz.prog 85 #[v, x] w (NatEnd w oz n) := by
  have hlen := hx.len_le hn
  have small : ∀ a c, x = .slice a 0 c → n = 0 → Calls Tryz.prog 85 #[v, x] w (NatEnd w oz n) := by
    rintro a c rfl rfl
    have H := Lib.hid (make_zero v oz w h)
    have hc := Lib.hid h.cut
    have hz := Lib.hid h
    clear h hx hn hlen
    obtain ⟨va, vn, vc, hv⟩ : ∃ va vn vc, v = .slice va vn vc := by
      cases oz with
      | none => exact ⟨_, _, _, hz.out⟩
      | some b => obtain ⟨l, len, rfl, _⟩ := hz.out; exact ⟨_, _, _, rfl⟩
    subst hv
    go_enter Tryz.func85, Tryz.ntmps85
    go_wp2_with fail
    refine H.out.mono ?_
    rintro e w' ⟨rfl, rfl⟩
    unfold cut0
    go_wp2_with (refine wpList_copy_nothing rfl (.tmp 9) (.tmp 10) 68 68 rfl 121 Tryz.underlying68 info121 va a 0 vc 0 c rfl rfl rfl ?_)
    go_ret
    exact ⟨_, oz, rfl, hc.out, Fr.refl _ _, Or.inl rfl⟩
  cases ox with
  | none => exact small none 0 hx.1 hx.2
  | some bx =>
    obtain ⟨lx, len, rfl, hb, hl, hp, hc, hv, ht⟩ := hx
    by_cases h0 : len = 0
    · subst h0
      exact small _ _ rfl hv.symm
    · clear small
      have hlen : len ≤ 100 := hlen
      have H := Lib.hid (make_any v oz len w h (by omega) (by omega))
      replace hb := Lib.hid hb
      replace hv := Lib.hid hv
      replace ht := Lib.hid (ht.resolve_left h0)
      clear h hn
      go_enter Tryz.func85, Tryz.ntmps85
      go_wp2_with fail
      refine H.out.mono ?_
      rintro e w' ⟨b, l, rfl, hbl, hl2, hc2, hf, ho, _⟩
      have hb2 := Lib.hid (hb.out.frame hf (fun f => f))
      replace hbl := Lib.hid hbl
      replace hf := Lib.hid hf
      replace ho := Lib.hid ho
      go_wp2_with (refine wpList_copy_w rfl (.tmp 9) (.tmp 10) 68 68 rfl Tryz.underlying68 b 0 len l.length bx 0 len lx.length rfl rfl l lx hbl.out hb2.out len (by simp) (by omega) (by omega) ?_; intro W' l' hw hl'; replace hw := Lib.hid hw; replace hl' := Lib.hid hl')
      go_ret
      have hw := hw.out
      have hll := hw.len
      refine ⟨_, some b, rfl, ⟨l', len, by rw [hll]; rfl, hw.blk, by omega, by omega, by omega, ?_, Or.inr ?_⟩, make_fr hf.out ho.out hw.fr, make_new ho.out⟩
      · rw [← hv.out]; exact vl_congr hl'.out
      · have := hl'.out (len - 1) (by omega)
        rw [Nat.zero_add] at this
        rw [this]; exact ht.out
end Go.Proofs.YtcpjclakdpjjfaaGreatDoor

namespace Go.Proofs.YtcpjclakdpjjfaaGreatDoor
open Go.RowKit

/-- A number that is not 0: its words. -/
structure Wds (w : World) (v : Value) (b : Nat) (l : List Nat) (len n : Nat) : Prop where
  val : v = .slice (some ⟨b, 0, none⟩) len l.length
  blk : Blk w b l
  le : len ≤ l.length
  pos : 0 < len
  cap : l.length ≤ 1000
  eq : vl l 0 len = n
  top : gd l (len - 1) ≠ 0

theorem Wds.ge {w : World} {v : Value} {b : Nat} {l : List Nat} {len n : Nat} (h : Wds w v b l len n) : W64 ^ (len - 1) ≤ n := by
  have := vl_ge (l := l) (o := 0) h.pos (by rw [Nat.zero_add]; exact h.top)
  rw [h.eq] at this; exact this
theorem Wds.lt {w : World} {v : Value} {b : Nat} {l : List Nat} {len n : Nat} (h : Wds w v b l len n) : n < W64 ^ len := by
  rw [← h.eq]; exact vl_lt h.blk.ok _ _
theorem Wds.npos {w : World} {v : Value} {b : Nat} {l : List Nat} {len n : Nat} (h : Wds w v b l len n) : 0 < n :=
  Nat.lt_of_lt_of_le (Nat.pow_pos W64_pos) h.ge
theorem Wds.natv {w : World} {v : Value} {b : Nat} {l : List Nat} {len n : Nat} (h : Wds w v b l len n) : NatV w v (some b) n :=
  ⟨l, len, h.val, h.blk, h.le, Nat.lt_of_lt_of_le h.pos h.le, h.cap, h.eq, Or.inr h.top⟩
theorem Wds.len_le {w : World} {v : Value} {b : Nat} {l : List Nat} {len n k : Nat} (h : Wds w v b l len n) (hn : n < W64 ^ k) : len ≤ k :=
  Proofs.YtcpjclakdpjjfaaGreatDoor.len_le (Or.inr h.top) (by rw [h.eq]; exact hn)

theorem NatV.split {w : World} {v : Value} {ob : Option Nat} {n : Nat} (h : NatV w v ob n) :
    (n = 0 ∧ ∃ a c, v = .slice a 0 c) ∨ ∃ b l len, ob = some b ∧ Wds w v b l len n := by
  cases ob with
  | none => exact Or.inl ⟨h.2, none, 0, h.1⟩
  | some b =>
    obtain ⟨l, len, rfl, h2, h3, h4, h5, h6, h7⟩ := h
    by_cases h0 : len = 0
    · subst h0; exact Or.inl ⟨h6.symm, _, _, rfl⟩
    · exact Or.inr ⟨b, l, len, rfl, rfl, h2, h3, by omega, h5, h6, h7.resolve_left h0⟩

/-- How two numbers stand. -/
def cmpI (m n : Nat) : Int := if m < n then -1 else if m = n then 0 else 1
theorem cmpI_lt {m n : Nat} (h : m < n) : cmpI m n = -1 := by unfold cmpI; rw [if_pos h]
theorem cmpI_gt {m n : Nat} (h : n < m) : cmpI m n = 1 := by unfold cmpI; rw [if_neg (by omega), if_neg (by omega)]
theorem cmpI_eq {m n : Nat} (h : m = n) : cmpI m n = 0 := by unfold cmpI; rw [if_neg (by omega), if_pos h]

theorem vl_lt_of {l m : List Nat} (hl : ∀ x ∈ l, x < W64) (i k : Nat) (hik : i < k) (h : ∀ j, i < j → j < k → gd l j = gd m j) (hi : gd l i < gd m i) : vl l 0 k < vl m 0 k := by
  induction k with
  | zero => omega
  | succ k ih =>
    rw [vl_snoc, vl_snoc, Nat.zero_add]
    by_cases e : i = k
    · subst e
      have h1 := vl_lt hl 0 i
      have h2 : W64 ^ i * (gd l i + 1) ≤ W64 ^ i * gd m i := Nat.mul_le_mul_left _ hi
      rw [Nat.mul_add, Nat.mul_one] at h2
      omega
    · have h1 := ih (by omega) (fun j a b => h j a (by omega))
      rw [h k (by omega) (by omega)]
      omega
theorem vl_eq_of {l m : List Nat} (k : Nat) (h : ∀ j, j < k → gd l j = gd m j) : vl l 0 k = vl m 0 k := vl_congr (fun i hi => by rw [Nat.zero_add]; exact h i hi)

theorem cmp_far (x y : Value) (ax ay : Option Addr) (m n cx cy lx ly : Nat) (w : World) (hx : x = .slice ax lx cx) (hy : y = .slice ay ly cy)
    (h : (lx < ly ∧ m < n) ∨ (ly < lx ∧ n < m) ∨ (lx = 0 ∧ ly = 0 ∧ m = n)) :
    Calls Tryz.prog 93 #[x, y] w fun e w' => e = .returned (.int .i64 (cmpI m n)) ∧ Dr w w' := by
  subst hx hy
  rcases h with ⟨h1, h2⟩ | ⟨h1, h2⟩ | ⟨rfl, rfl, h2⟩
  · rw [cmpI_lt h2]
    have e1 : ((lx : Int) != (ly : Int)) = true := by simp; omega
    clear h2
    go_enter Tryz.func93, Tryz.ntmps93
    go_wp2
    go_ret
    exact ⟨rfl, Dr.refl _⟩
  · rw [cmpI_gt h2]
    have e1 : ((lx : Int) != (ly : Int)) = true := by simp; omega
    have e2 : ¬ (lx : Int) < ly := by omega
    clear h2
    go_enter Tryz.func93, Tryz.ntmps93
    go_wp2
    go_ret
    exact ⟨rfl, Dr.refl _⟩
  · rw [cmpI_eq h2]
    clear h2
    go_enter Tryz.func93, Tryz.ntmps93
    go_wp2
    go_ret
    exact ⟨rfl, Dr.refl _⟩

set_option maxHeartbeats 2000000 in
theorem cmp_near (x y : Value) (bx by_ m n len : Nat) (lx ly : List Nat) (w : World) (hx : Wds w x bx lx len m) (hy : Wds w y by_ ly len n) :
    Calls Tryz.prog 93 #[x, y] w fun e w' => e = .returned (.int .i64 (cmpI m n)) ∧ Dr w w' := by
  have hp := hx.pos
  have kx := hx.le
  have ky := hy.le
  have e0 : ((len : Int) == 0) = false := by simp; omega
  obtain rfl := hx.val
  obtain rfl := hy.val
  have hbx := Lib.hid hx.blk
  have hby := Lib.hid hy.blk
  have hcap := hx.cap
  have vx := Lib.hid hx.eq
  have vy := Lib.hid hy.eq
  replace hx := Lib.hid hx
  replace hy := Lib.hid hy
  have e1 : ((len : Int) != (len : Int)) = false := by simp
  go_enter Tryz.func93, Tryz.ntmps93
  go_wp2_with fail
  go_loopw [7] (fun i wr => ∃ k q : Nat, i = .int .i64 (k : Int) ∧ k < len ∧ wr = w.drewN q ∧ Hid (∀ j, k < j → j < len → gd lx j = gd ly j)) (fun i _ => (intOf i).toNat)
  case atStart => exact ⟨len - 1, 0, by congr 1; omega, by omega, rfl, fun j a b => by omega⟩
  case round =>
    obtain ⟨k, q, rfl, hk, rfl, hrel⟩ := hrel
    have r1 : w.cell? ⟨bx, k, none⟩ = some (.int .u64 ((gd lx k : Nat) : Int)) := hbx.out.cell k (by omega)
    have r2 : w.cell? ⟨by_, k, none⟩ = some (.int .u64 ((gd ly k : Nat) : Int)) := hby.out.cell k (by omega)
    have e6 : (k : Int) < len := by omega
    have oklx := Lib.hid hbx.out.ok
    have okly := Lib.hid hby.out.ok
    have fl : Hid (gd lx k < gd ly k → cmpI m n = -1) := fun h => by
      apply cmpI_lt; rw [← vx.out, ← vy.out]; exact vl_lt_of oklx.out k len hk hrel.out h
    have fg : Hid (gd ly k < gd lx k → cmpI m n = 1) := fun h => by
      apply cmpI_gt; rw [← vx.out, ← vy.out]; exact vl_lt_of okly.out k len hk (fun j a b => (hrel.out j a b).symm) h
    have fe : Hid (k = 0 → gd lx k = gd ly k → cmpI m n = 0) := fun h0 h => by
      subst h0
      apply cmpI_eq; rw [← vx.out, ← vy.out]; exact vl_eq_of len (fun j hj => by
        by_cases e : j = 0
        · subst e; exact h
        · exact hrel.out j (by omega) hj)
    have fs : Hid (gd lx k = gd ly k → ∀ j, k ≤ j → j < len → gd lx j = gd ly j) := fun h j a b => by
      by_cases e : j = k
      · subst e; exact h
      · exact hrel.out j (by omega) b
    obtain ⟨u, hu⟩ : ∃ u : Nat, u = gd lx k := ⟨_, rfl⟩
    obtain ⟨v, hv⟩ : ∃ v : Nat, v = gd ly k := ⟨_, rfl⟩
    rw [← hu] at r1 fl fg fe fs
    rw [← hv] at r2 fl fg fe fs
    clear hu hv
    by_cases h0 : k = 0
    · subst h0
      rcases Nat.lt_trichotomy u v with h | h | h
      · have e7 : (u : Int) < v := by omega
        replace fl := Lib.hid (fl.out h)
        go_wp2
        go_quiet (fail)
        go_wp2
        go_quiet (fail)
        go_wp2
        go_ret
        exact ⟨by rw [fl.out]; rfl, by simp only [World.drewN_drewN]; exact ⟨_, rfl⟩⟩
      · subst h
        replace fe := Lib.hid (fe.out rfl rfl)
        go_wp2
        go_quiet (fail)
        go_wp2
        go_quiet (fail)
        go_wp2
        go_quiet (fail)
        go_wp2
        go_ret
        exact ⟨by rw [fe.out]; rfl, by simp only [World.drewN_drewN]; exact ⟨_, rfl⟩⟩
      · have e7 : (v : Int) < u := by omega
        have e8 : ¬ (u : Int) < v := by omega
        replace fg := Lib.hid (fg.out h)
        go_wp2
        go_quiet (fail)
        go_wp2
        go_quiet (fail)
        go_wp2
        go_quiet (fail)
        go_wp2
        go_ret
        exact ⟨by rw [fg.out]; rfl, by simp only [World.drewN_drewN]; exact ⟨_, rfl⟩⟩
    · have e9 : (0 : Int) < k := by omega
      have e9' : 0 < k := by omega
      rcases Nat.lt_trichotomy u v with h | h | h
      · have e7 : (u : Int) < v := by omega
        have e8 : ((u : Int) == v) = false := by simp; omega
        replace fl := Lib.hid (fl.out h)
        go_wp2
        go_quiet (fail)
        go_wp2
        go_quiet (fail)
        go_wp2
        go_ret
        exact ⟨by rw [fl.out]; rfl, by simp only [World.drewN_drewN]; exact ⟨_, rfl⟩⟩
      · subst h
        replace fs := Lib.hid (fs.out rfl)
        obtain ⟨p, rfl⟩ : ∃ p, k = p + 1 := ⟨k - 1, by omega⟩
        have e5 : ((p + 1 : Nat) : Int) - 1 = (p : Int) := by omega
        go_wp2
        go_quiet (fail)
        go_wp2
        go_roundw
        case rel => exact ⟨p, _, by go_num, by omega, by first | rfl | (simp only [World.drewN_drewN]; rfl), fun j a b => fs.out j (by omega) b⟩
        case measure => simp [intOf]
      · have e7 : (v : Int) < u := by omega
        have e8 : ((u : Int) == v) = false := by simp; omega
        have e10 : ¬ (u : Int) < v := by omega
        replace fg := Lib.hid (fg.out h)
        go_wp2
        go_quiet (fail)
        go_wp2
        go_quiet (fail)
        go_wp2
        go_quiet (fail)
        go_wp2
        go_ret
        exact ⟨by rw [fg.out]; rfl, by simp only [World.drewN_drewN]; exact ⟨_, rfl⟩⟩

theorem cmp_any (x y : Value) (ox oy : Option Nat) (m n : Nat) (w : World) (hx : NatV w x ox m) (hy : NatV w y oy n) :
    Calls Tryz.prog 93 #[x, y] w fun e w' => e = .returned (.int .i64 (cmpI m n)) ∧ Dr w w' := by
  rcases hx.split with ⟨rfl, ax, cx, ex⟩ | ⟨bx, lx, nx, rfl, Hx⟩
  · rcases hy.split with ⟨rfl, ay, cy, ey⟩ | ⟨by_, ly, ny, rfl, Hy⟩
    · exact cmp_far x y ax ay 0 0 cx cy 0 0 w ex ey (Or.inr (Or.inr ⟨rfl, rfl, rfl⟩))
    · exact cmp_far x y ax _ 0 n cx _ 0 _ w ex Hy.val (Or.inl ⟨Hy.pos, Hy.npos⟩)
  · rcases hy.split with ⟨rfl, ay, cy, ey⟩ | ⟨by_, ly, ny, rfl, Hy⟩
    · exact cmp_far x y _ ay m 0 _ cy _ 0 w Hx.val ey (Or.inr (Or.inl ⟨Hx.pos, Hx.npos⟩))
    · rcases Nat.lt_trichotomy nx ny with h | h | h
      · refine cmp_far x y _ _ m n _ _ _ _ w Hx.val Hy.val (Or.inl ⟨h, ?_⟩)
        exact Nat.lt_of_lt_of_le Hx.lt (Nat.le_trans (Nat.pow_le_pow_right W64_pos (by omega)) Hy.ge)
      · subst h
        exact cmp_near x y bx by_ m n nx lx ly w Hx Hy
      · refine cmp_far x y _ _ m n _ _ _ _ w Hx.val Hy.val (Or.inr (Or.inl ⟨h, ?_⟩))
        exact Nat.lt_of_lt_of_le Hy.lt (Nat.le_trans (Nat.pow_le_pow_right W64_pos (by omega)) Hx.ge)
end Go.Proofs.YtcpjclakdpjjfaaGreatDoor

namespace Go.Proofs.YtcpjclakdpjjfaaGreatDoor
open Go.RowKit

theorem Vec.other {w w' : World} {b o n : Nat} {l l' : List Nat} (h : Vec w w' b o n l l') {bx : Nat} {lx : List Nat} (hx : Blk w bx lx) (hl : Blk w b l) :
    ∃ lx', Blk w' bx lx' ∧ lx'.length = lx.length ∧ (∀ i, i < o ∨ o + n ≤ i → gd lx' i = gd lx i) ∧ (bx = b → lx' = l') := by
  by_cases e : bx = b
  · subst e
    have := hx.same hl
    subst this
    exact ⟨l', h.blk, h.len, h.out, fun _ => rfl⟩
  · exact ⟨lx, hx.frame h.fr e, rfl, fun _ _ => rfl, fun f => (e f).elim⟩

theorem NatV.normed {w : World} {b n : Nat} {l : List Nat} (h : Blk w b l) (hn : n ≤ l.length) (h0 : 0 < l.length) (h1 : l.length ≤ 1000) :
    NatV w (.slice (some ⟨b, 0, none⟩) (trim l n) l.length) (some b) (vl l 0 n) :=
  ⟨l, trim l n, rfl, h, Nat.le_trans (trim_le l n) hn, h0, h1, trim_vl l n, trim_top l n⟩

theorem norm_cap (b n c : Nat) (l : List Nat) (w : World) (h : Blk w b l) (hc : l.length = c) (hn : n ≤ c) (hp : 0 < c) (hl : c ≤ 1000) :
    Calls Tryz.prog 88 #[.slice (some ⟨b, 0, none⟩) n c] w fun e w' => ∃ v, e = .returned v ∧ NatV w v (some b) (vl l 0 n) ∧ w = w' := by
  subst hc
  exact (norm_any b n l w h hn hl).mono fun e w' ⟨he, hw⟩ => ⟨_, he, NatV.normed h hn hp hl, hw⟩

theorem make_sub {w : World} {oz : Option Nat} {b : Nat} (ho : oz = some b ∨ w.heap.size ≤ b) : ∀ i, i < w.heap.size → i = b → oz = some i := by
  intro i hi e
  subst e
  rcases ho with ho | ho
  · exact ho
  · omega

theorem add_split {lx ly l' l3 : List Nat} {lx' : List Nat} {nx ny c c' m n : Nat} (h : ny ≤ nx) (e1 : vl l3 0 ny = vl l' 0 ny) (e2 : vl lx' ny (nx - ny) = vl lx ny (nx - ny))
    (hs : vl l' 0 ny + c * W64 ^ ny = vl lx 0 ny + vl ly 0 ny) (hs3 : vl l3 ny (nx - ny) + c' * W64 ^ (nx - ny) = vl lx' ny (nx - ny) + c) (hm : vl lx 0 nx = m) (hn : vl ly 0 ny = n) :
    vl l3 0 nx + W64 ^ nx * c' = m + n := by
  obtain ⟨d, rfl⟩ : ∃ d, nx = ny + d := ⟨nx - ny, by omega⟩
  rw [Nat.add_sub_cancel_left] at *
  rw [vl_add, Nat.zero_add, e1, Nat.pow_add, ← hm, vl_add, Nat.zero_add, ← hn]
  rw [e2] at hs3
  have h2 : W64 ^ ny * (vl l3 ny d + c' * W64 ^ d) = W64 ^ ny * (vl lx ny d + c) := by rw [hs3]
  rw [Nat.mul_add, Nat.mul_add] at h2
  have h3 : W64 ^ ny * (c' * W64 ^ d) = W64 ^ ny * W64 ^ d * c' := by rw [Nat.mul_comm c', Nat.mul_assoc]
  have h4 : W64 ^ ny * c = c * W64 ^ ny := Nat.mul_comm _ _
  omega

set_option maxHeartbeats 2000000 in
set_option maxRecDepth 100000 in
theorem add_main (z x y : Value) (oz : Option Nat) (bx by_ m n nx ny : Nat) (lx ly : List Nat) (w : World) (hz : Sto w z oz) (hx : Wds w x bx lx nx m) (hy : Wds w y by_ ly ny n)
    (hle : ny ≤ nx) (h1 : nx ≤ 100) : Calls Tryz.prog 95 #[z, x, y] w (NatEnd w oz (m + n)) := by
  have H := make_any z oz (nx + 1) w hz (by omega) (by omega)
  rw [show ((nx + 1 : Nat) : Int) = (nx : Int) + 1 by omega] at H
  replace H := Lib.hid H
  have p1 := hx.pos
  have p2 := hy.pos
  have q1 := hx.le
  have q2 := hy.le
  have r1 : ¬ (nx : Int) < ny := by omega
  have r2 : ((nx : Int) == 0) = false := by simp; omega
  have r3 : ((ny : Int) == 0) = false := by simp; omega
  have vx := Lib.hid hx.eq
  have vy := Lib.hid hy.eq
  have bx0 := Lib.hid hx.blk
  have by0 := Lib.hid hy.blk
  obtain rfl := hx.val
  obtain rfl := hy.val
  clear hz hx hy
  go_enter Tryz.func95, Tryz.ntmps95
  go_wp2_with fail
  refine H.out.mono ?_
  rintro e w' ⟨b, l, rfl, hb, hl, hc, hf, ho, hcap⟩
  have hcp : nx + 1 ≤ l.length := hl
  have bx1 := bx0.out.frame hf (fun f => f)
  have by1 := by0.out.frame hf (fun f => f)
  have H2 := addVV_any b 0 ny l.length bx 0 lx.length by_ 0 ly.length l lx ly w'.drew hb.drew bx1.drew by1.drew (by omega) (by omega) (by omega) (fun _ => rfl) (fun _ => rfl) (by omega)
  replace H2 := Lib.hid H2
  replace hb := Lib.hid hb
  replace hf := Lib.hid hf
  replace ho := Lib.hid ho
  replace bx1 := Lib.hid bx1
  clear hcap H by1
  have t1 : (ny : Int) ≤ nx := by omega
  have t2 : (ny : Int) ≤ l.length := by omega
  have t3 : (ny : Int) ≤ lx.length := by omega
  have t4 : (ny : Int) ≤ ly.length := by omega
  go_wp2_with fail
  go_still_tail 9, (by kernel_rfl)
  go_wp2_with fail
  refine H2.out.mono ?_
  rintro e w2 ⟨c, l', rfl, hv, hc1, hs⟩
  have hvo := hv.blk
  obtain ⟨lx', bx2, ex, gx, _⟩ := hv.other bx1.out.drew hb.out.drew
  have el := hv.len
  have hll : l'.length = l.length := el
  have fr2 : Fr (fun k => oz = some k) w w2 := make_fr hf.out ho.out ((Fr.drewN _ _ 1).trans hv.fr (fun _ _ => id))
  replace fr2 := Lib.hid fr2
  have fin : ∀ (w3 : World) (l'' : List Nat), Blk w3 b l'' → l''.length = l.length → Fr (fun k => oz = some k) w w3 → vl l'' 0 (nx + 1) = m + n →
      Calls Tryz.prog 88 #[.slice (some ⟨b, 0, none⟩) (nx + 1) l.length] w3 fun e w' => NatEnd w oz (m + n) e w' := by
    intro w3 l'' hb3 hl3 hf3 hv3
    refine (norm_cap b (nx + 1) l.length l'' w3 hb3 hl3 hcp (by omega) hc).mono ?_
    rintro e w' ⟨v, rfl, hn, rfl⟩
    rw [hv3] at hn
    exact ⟨v, some b, rfl, hn, hf3, make_new ho.out⟩
  replace fin := Lib.hid fin
  have t5 : (nx : Int) < (nx : Int) + 1 := by omega
  by_cases hlt : ny < nx
  · have g1 : ((nx : Int) > ny) := by omega
    have H3 := addVW_any b ny (nx - ny) (l.length - ny) bx ny (lx.length - ny) c l' lx' w2.drew hvo.drew bx2.drew (by omega) (by omega) (fun _ => rfl) (by omega) (by omega) (by omega) (by omega) hc1
    replace H3 := Lib.hid H3
    have u1 : (nx : Int) ≤ l.length := by omega
    have u2 : (nx : Int) ≤ lx.length := by omega
    have u3 : ¬ lx.length = ny := by omega
    have u4 : ¬ l.length = ny := by omega
    replace hv := Lib.hid hv
    replace hs := Lib.hid hs
    replace hvo := Lib.hid hvo
    replace bx2 := Lib.hid bx2
    replace gx := Lib.hid gx
    replace hll := Lib.hid hll
    clear ex el
    go_wp2_with fail
    go_still_tail 8, (by kernel_rfl)
    go_wp2_with fail
    refine H3.out.mono ?_
    rintro e w3 ⟨c', l3, rfl, hv3, hc3, hs3⟩
    have r4 := hv3.blk.free nx
    have r5 := hv3.blk.cell nx (by rw [hv3.len, hll.out]; omega)
    replace hv3 := Lib.hid hv3
    replace hs3 := Lib.hid hs3
    clear H3
    go_wp2_with fail
    have F := fin.out (w3.setCell ⟨b, nx, none⟩ (.int .u64 (c' : Int))) (l3.set nx c') (hv3.out.blk.set nx c' (by unfold W64; omega)) (by simp [hv3.out.len, hll.out])
      ((fr2.out.trans ((Fr.drewN _ w2 1).trans hv3.out.fr (fun _ _ => id)) (make_sub ho.out)).trans (Fr.setCell (S := fun k => k = b) _ _ _ (fun _ => rfl)) (make_sub ho.out)) (by
        rw [vl_snoc, Nat.zero_add, gd_set _ _ _ _ (by rw [hv3.out.len, hll.out]; omega), if_pos rfl]
        rw [vl_congr (m := l3) (p := 0) (fun i hi => by rw [gd_set _ _ _ _ (by rw [hv3.out.len, hll.out]; omega), if_neg (by omega)])]
        exact add_split (Nat.le_of_lt hlt) (vl_congr (fun i hi => by rw [hv3.out.out _ (by omega)])) (vl_congr (fun i hi => by rw [gx.out _ (by omega)])) hs.out hs3.out vx.out vy.out)
    replace F := Lib.hid F
    refine F.out.mono ?_
    rintro e w4 ⟨v, ob, rfl, h4⟩
    go_wp2_with fail
    go_ret
    exact ⟨v, ob, rfl, h4⟩
  · obtain rfl : ny = nx := by omega
    have g1 : ¬ ((ny : Int) > ny) := by omega
    have r4 := hvo.free ny
    have r5 := hvo.cell ny (by omega)
    have F := fin.out (w2.setCell ⟨b, ny, none⟩ (.int .u64 (c : Int))) (l'.set ny c) (hvo.set ny c (by unfold W64; omega)) (by simp [hll])
      (fr2.out.trans (Fr.setCell (S := fun k => k = b) _ _ _ (fun _ => rfl)) (make_sub ho.out)) (by
        rw [vl_snoc, Nat.zero_add, gd_set _ _ _ _ (by omega), if_pos rfl]
        rw [vl_congr (m := l') (p := 0) (fun i hi => by rw [gd_set _ _ _ _ (by omega), if_neg (by omega)])]
        rw [← vx.out, ← vy.out, ← hs, Nat.mul_comm])
    replace F := Lib.hid F
    replace hv := Lib.hid hv
    replace hs := Lib.hid hs
    replace hvo := Lib.hid hvo
    replace bx2 := Lib.hid bx2
    replace gx := Lib.hid gx
    replace hll := Lib.hid hll
    clear ex el
    go_wp2_with fail
    refine F.out.mono ?_
    rintro e w4 ⟨v, ob, rfl, h4⟩
    go_wp2_with fail
    go_ret
    exact ⟨v, ob, rfl, h4⟩

set_option maxHeartbeats 2000000 in
theorem add_zero (z x y : Value) (oz ox : Option Nat) (m cy : Nat) (ay : Option Addr) (w : World) (hz : Sto w z oz) (hx : NatV w x ox m) (hm : m < W64 ^ 100) (hy : y = .slice ay 0 cy) :
    Calls Tryz.prog 95 #[z, x, y] w (NatEnd w oz m) := by
  subst hy
  rcases hx.split with ⟨rfl, ax, cx, rfl⟩ | ⟨bx, lx, nx, rfl, Hx⟩
  · have hc := Lib.hid hz.cut
    obtain ⟨va, vn, vc, hv⟩ : ∃ va vn vc, z = .slice va vn vc := by
      cases oz with
      | none => exact ⟨_, _, _, hz⟩
      | some b => obtain ⟨l, len, rfl, _⟩ := hz; exact ⟨_, _, _, rfl⟩
    subst hv
    clear hx hz
    cases va with
    | none =>
      go_enter Tryz.func95, Tryz.ntmps95
      go_wp2_with fail
      go_ret
      exact ⟨_, oz, rfl, hc.out, Fr.refl _ _, Or.inl rfl⟩
    | some a =>
      go_enter Tryz.func95, Tryz.ntmps95
      go_wp2_with fail
      go_ret
      exact ⟨_, oz, rfl, hc.out, Fr.refl _ _, Or.inl rfl⟩
  · have H := Lib.hid (set_any z x oz (some bx) m w hz hx hm)
    have p1 := Hx.pos
    obtain rfl := Hx.val
    clear hx hz Hx hm
    have e0 : ((nx : Int) == 0) = false := by simp; omega
    have e1 : ¬ (nx : Int) < 0 := by omega
    go_enter Tryz.func95, Tryz.ntmps95
    go_wp2_with fail
    refine H.out.mono ?_
    rintro e w4 ⟨v, ob, rfl, h4⟩
    go_wp2_with fail
    go_ret
    exact ⟨v, ob, rfl, h4⟩

set_option maxHeartbeats 2000000 in
theorem add_swap (z : Value) (ax ay : Option Addr) (lx ly cx cy : Nat) (w : World) (h : lx < ly) (R : Ending → World → Prop)
    (H : Calls Tryz.prog 95 #[z, .slice ay ly cy, .slice ax lx cx] w R) (hR : ∀ e w', R e w' → ∃ v, e = .returned v) :
    Calls Tryz.prog 95 #[z, .slice ax lx cx, .slice ay ly cy] w R := by
  replace H := Lib.hid H
  replace hR := Lib.hid hR
  have e1 : (lx : Int) < ly := by omega
  go_enter Tryz.func95, Tryz.ntmps95
  go_wp2_with fail
  refine H.out.mono ?_
  intro e w4 h4
  obtain ⟨v, rfl⟩ := hR.out e w4 h4
  replace h4 := Lib.hid h4
  go_wp2_with fail
  exact h4.out

theorem add_any (z x y : Value) (oz ox oy : Option Nat) (m n : Nat) (w : World) (hz : Sto w z oz) (hx : NatV w x ox m) (hy : NatV w y oy n) (hm : m < W64 ^ 100) (hn : n < W64 ^ 100) :
    Calls Tryz.prog 95 #[z, x, y] w (NatEnd w oz (m + n)) := by
  rcases hy.split with ⟨rfl, ay, cy, ey⟩ | ⟨by_, ly, ny, rfl, Hy⟩
  · rw [Nat.add_zero]
    exact add_zero z x y oz ox m cy ay w hz hx hm ey
  · rcases hx.split with ⟨rfl, ax, cx, ex⟩ | ⟨bx, lx, nx, rfl, Hx⟩
    · have H := add_zero z y x oz (some by_) n cx ax w hz hy hn ex
      rw [Nat.zero_add]
      rw [ex] at H ⊢
      rw [Hy.val] at H ⊢
      exact add_swap z _ _ 0 ny cx _ w Hy.pos _ H (fun e w' ⟨v, _, h, _⟩ => ⟨v, h⟩)
    · by_cases h : ny ≤ nx
      · exact add_main z x y oz bx by_ m n nx ny lx ly w hz Hx Hy h (Hx.len_le hm)
      · have H := add_main z y x oz by_ bx n m ny nx ly lx w hz Hy Hx (by omega) (Hy.len_le hn)
        rw [Nat.add_comm n m] at H
        rw [Hx.val, Hy.val] at H ⊢
        exact add_swap z _ _ nx ny _ _ w (by omega) _ H (fun e w' ⟨v, _, h, _⟩ => ⟨v, h⟩)
end Go.Proofs.YtcpjclakdpjjfaaGreatDoor

namespace Go.Proofs.YtcpjclakdpjjfaaGreatDoor
open Go.RowKit

/-- Operations that end in a value, if they end. -/
def opVal : Op → Bool
  | .move _ => true
  | .assign _ => true
  | .binOp .. => true
  | .unOp .. => true
  | .slice .. => true
  | .indexAddr .. => true
  | .fieldAddr .. => true
  | .extract .. => true
  | .load .. => true
  | .call c => match c.callee with
    | .builtin .len => true
    | .builtin .cap => true
    | _ => false
  | _ => false

theorem val_run {P : Program} {s : Sem Value} {w w' : World} {n : Next} (h : (do pure (Next.value (← s)) : Sem Next).run P w = .ok n w') : ∃ u, n = .value u := by
  rw [Sem.run_bind] at h
  cases hs : s.run P w with
  | ok v w1 => rw [hs] at h; simp [Result.andThen] at h; exact ⟨v, h.1.symm⟩
  | halt x w1 => rw [hs] at h; simp [Result.andThen] at h

theorem val_and {r : Result Value} {w' : World} {n : Next} (h : r.andThen (fun a w => .ok (Next.value a) w) = .ok n w') : ∃ u, n = .value u := by
  cases r with
  | ok v w1 => simp [Result.andThen] at h; exact ⟨v, h.1.symm⟩
  | halt x w1 => simp [Result.andThen] at h

theorem val_of {P : Program} {ρ : Operand → Value} {o : Oper} {w w' : World} {n : Next} (ho : opVal o.op = true) (h : (execOp ρ o).run P w = .ok n w') : ∃ u, n = .value u := by
  unfold execOp at h
  cases e : o.op <;> rw [e] at ho h <;> simp only [opVal] at ho <;> first | (cases ho; done) | exact val_run h | skip
  case move x => simp at h; exact ⟨_, h.1.symm⟩
  case assign x => simp at h; exact ⟨_, h.1.symm⟩
  case call c =>
    split at ho
    · rename_i hc
      simp only [resolve, hc, invoke] at h
      rw [Sem.run_bind] at h
      simp [builtin] at h
      exact val_and h
    · rename_i hc
      simp only [resolve, hc, invoke] at h
      rw [Sem.run_bind] at h
      simp [builtin] at h
      exact val_and h
    · cases ho

section
variable {P : Program} {ops : Array Oper} {md : Region.Mode} {Q : Exit → Act → World → Prop}

theorem yields_of_quiet {o : Oper} {a : Act} {K : Act → Prop} (ho : opVal o.op = true) (hw : Region.wanted o (yielded ops a.tmps) = true) (h : o.quiet P a (fun _ => True) K) :
    ∃ v, YieldsIf P ops (fun _ => True) o v a ∧ K (a.put o.dst v) := by
  obtain ⟨v, h1, h2⟩ := h
  refine ⟨v, Or.inl ⟨hw, fun w _ => ?_⟩, h2⟩
  have h3 := h1 w trivial
  unfold Oper.quietAt at h3
  cases hr : (execOp a.eval o).run P w with
  | ok n w' =>
    obtain ⟨u, rfl⟩ := val_of ho hr
    rw [hr] at h3
    simp only [Oper.quietUpon] at h3
    rw [h3.1, h3.2]
  | halt x w' => rw [hr] at h3; simp only [Oper.quietUpon] at h3

theorem heads_go (hs : Region.noSelect ops = true) (hQ : ∀ c a a' w, Q (.panic c) a w → Q (.panic c) a' w) {g : Nat} {K : Act → Prop} {w : World} :
    ∀ (l : List Oper) (k : Nat) (listed : Array Bool) (a : Act), (∀ j, j < l.length → l[j]? = ops[k + j]?) → (l.all fun o => opVal o.op) = true →
      Region.lexHead md ops g l.length k listed = true → wpQuiet P ops (fun _ => True) K l a →
      (∀ listed a', Region.seqB md ops g (k + l.length) listed = true → K a' → wpAnyH P md ops Q (fun _ => True) g listed a' w) →
      wpAnyH P md ops Q (fun _ => True) (l.length + g) listed a w
  | [], k, listed, a, _, _, hB, h, hK => by
    rw [List.length_nil, Nat.zero_add]
    exact hK listed a hB h
  | o :: l, k, listed, a, hl, hv, hB, h, hK => by
    have h0 : ops[k]? = some o := by simpa using (hl 0 (by simp)).symm
    simp only [List.length_cons, Region.lexHead, Bool.and_eq_true] at hB
    simp only [List.all_cons, Bool.and_eq_true] at hv
    have nxt : ∀ v, YieldsIf P ops (fun _ => True) o v a → wpQuiet P ops (fun _ => True) K l (a.put o.dst v) → wpAnyH P md ops Q (fun _ => True) ((o :: l).length + g) listed a w := by
      intro v hy hq
      rw [List.length_cons, show l.length + 1 + g = (l.length + g) + 1 by omega]
      refine wpAnyH_take h0 hs hB.1.2 hB.1.1 (fun c a w hp => hQ c _ a w hp) hy trivial ?_
      refine heads_go hs hQ l (k + 1) _ _ (fun j hj => ?_) hv.2 hB.2 hq (fun listed a' hb hk => hK listed a' (by rw [List.length_cons, show k + (l.length + 1) = k + 1 + l.length by omega]; exact hb) hk)
      have := hl (j + 1) (by simp; omega)
      rw [show k + 1 + j = k + (j + 1) by omega, ← this]
      simp
    unfold wpQuiet at h
    by_cases hw : Region.wanted o (yielded ops a.tmps) = true
    · rw [if_pos hw] at h
      obtain ⟨v, hy, hk⟩ := yields_of_quiet hv.1 hw h
      exact nxt v hy hk
    · rw [if_neg hw] at h
      exact nxt undef (Or.inr ⟨by simpa using hw, rfl⟩) h

theorem held_of_any {S : World → Prop} (hS : ∀ w, S w) : ∀ (fuel : Nat) (listed : Array Bool) (a : Act) (w : World), wpAny P md ops Q fuel listed a w → wpAnyH P md ops Q S fuel listed a w
  | 0, _, _, _, h => h
  | fuel + 1, _, _, _, h => ⟨h.1, fun i hi => wpOp_mono (fun a' w' h' => ⟨hS w', held_of_any hS fuel _ a' w' h'⟩) (h.2 i hi)⟩

/-- The operations ahead of number n, which end in values whatever the world is, come first; then the others in their forced order. -/
def headsB (ops : Array Oper) (n : Nat) : Bool :=
  Region.noSelect ops && decide (n ≤ ops.size) && ((ops.toList.take n).all fun o => opVal o.op) && Region.lexHead .any ops (ops.size - n) n 0 (Array.replicate ops.size false)

theorem wp_region_heads {id : Nat} {Q : Exit → Act → World → Prop} {a : Act} {w : World} {l : List Oper} (n : Nat) (hm : P.follows .mixedOrders = true) (hB : headsB l.toArray n = true)
    (h : wpQuiet P l.toArray (fun _ => True) (fun a' => wpList P l.toArray (NoPanic Q) (l.drop n) a' w.drew) (l.take n) a) : (Code.region id l.toArray true).wp P Q a w := by
  simp only [headsB, Bool.and_eq_true, decide_eq_true_eq] at hB
  obtain ⟨⟨⟨hs, hn⟩, hv⟩, hlex⟩ := hB
  have hn' : n ≤ l.length := by simpa using hn
  have htl : (l.take n).length = n := by simp; omega
  have hdl : (l.drop n).length = l.toArray.size - n := by simp
  refine wp_region_noPanic (wp_region_held (S := fun _ => True) hm ?_)
  have H := heads_go (P := P) (md := .any) (Q := NoPanic Q) (g := l.toArray.size - n) (w := w.drew) hs (fun c a a' w hp => by unfold NoPanic at hp; simp at hp) (l.take n) 0 (Array.replicate l.toArray.size false) a (fun j hj => by
    have hj' : j < n := by rw [htl] at hj; exact hj
    simp [hj']) hv (by rw [htl]; exact hlex) h (fun listed a' hb hk => by
      have := wpAny_of_seq (md := .any) (Q' := NoPanic Q) (l.drop n) n listed a' w.drew (fun j => by simp [List.getElem?_drop]) (by rw [hdl]; rw [htl, Nat.zero_add] at hb; exact hb) hk
      rw [hdl] at this
      exact held_of_any (fun _ => trivial) _ _ _ _ this)
  rw [htl, show n + (l.toArray.size - n) = l.toArray.size by omega] at H
  exact H
end
end Go.Proofs.YtcpjclakdpjjfaaGreatDoor


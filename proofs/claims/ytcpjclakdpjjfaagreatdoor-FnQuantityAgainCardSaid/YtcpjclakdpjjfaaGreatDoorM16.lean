/-
  A part of the proof of FnQuantityAgain (texts Dl, Dm, I4 of mine, joined).
-/
import Derived.Test.YtcpjclakdpjjfaaGreatDoorM11
import Derived.Test.YtcpjclakdpjjfaaGreatDoorM04
import Derived.Test.YtcpjclakdpjjfaaGreatDoorM07
import Derived.Test.YtcpjclakdpjjfaaGreatDoorM12
namespace Go.Proofs.YtcpjclakdpjjfaaGreatDoor
open Go.RowKit

/-- A block that begins with something that is no word is no storage. -/
theorem Sto.ne_cell {w : World} {v u : Value} {ob : Option Nat} {p : Nat} (h : Sto w v ob) (c : w.cell? ⟨p, 0, none⟩ = some u) (hu : ∀ x, u ≠ .int .u64 x) : ob ≠ some p := by
  intro e
  subst e
  obtain ⟨l, len, _, hb, _, h0, _⟩ := h
  have := hb.cell 0 h0
  rw [c] at this
  exact hu _ (Option.some.inj this)

/-- What comes of a division: quotient and rest. -/
def DivEnd (w : World) (oq or_ : Option Nat) (q r : Nat) (e : Ending) (w' : World) : Prop :=
  ∃ v1 o1 v2 o2, e = .returned (.tuple #[v1, v2]) ∧ NatV w' v1 o1 q ∧ NatV w' v2 o2 r ∧ Fr (fun k => oq = some k ∨ or_ = some k) w w' ∧
    (o1 = oq ∨ ∃ b, o1 = some b ∧ w.heap.size ≤ b) ∧ (o2 = or_ ∨ ∃ b, o2 = some b ∧ w.heap.size ≤ b) ∧ (∀ b, o1 = some b → o2 ≠ some b)

/-- The divisor moved so far to the left that its top bit is set. -/
theorem div_norm {lv lv' : List Nat} {n V s c : Nat} (hn : 1 ≤ n) (h : ∀ x ∈ lv, x < W64) (h' : ∀ x ∈ lv', x < W64) (hV : vl lv 0 n = V) (hs : s = 64 - Lib.bitLen (gd lv (n - 1))) (ht : gd lv (n - 1) ≠ 0)
    (e : vl lv' 0 n + c * W64 ^ n = V * 2 ^ s) : c = 0 ∧ vl lv' 0 n = V * 2 ^ s ∧ 2 ^ 63 ≤ gd lv' (n - 1) := by
  obtain ⟨n1, n2, n3, n4⟩ := lz_norm (y := gd lv (n - 1)) (by omega) (gd_lt h _)
  rw [← hs] at n3 n4
  obtain ⟨m, rfl⟩ : ∃ m, n = m + 1 := ⟨n - 1, by omega⟩
  rw [Nat.add_sub_cancel] at *
  have e1 := vl_snoc lv 0 m
  rw [Nat.zero_add, hV] at e1
  have l1 := vl_lt h 0 m
  have e2 := vl_snoc lv' 0 m
  rw [Nat.zero_add] at e2
  have l2 := vl_lt h' 0 m
  have hT : (gd lv m + 1) * 2 ^ s ≤ W64 := by
    have hle : s ≤ 64 := by omega
    have e64 : W64 = 2 ^ (64 - s) * 2 ^ s := by rw [← Nat.pow_add, W64_eq]; congr 1; omega
    rw [e64] at n4
    have := Nat.lt_of_mul_lt_mul_right n4
    rw [e64]
    exact Nat.mul_le_mul_right _ this
  have hw : W64 ^ (m + 1) = W64 ^ m * W64 := Nat.pow_succ _ _
  rw [hw] at e
  have hA : 0 < W64 ^ m := Nat.pow_pos W64_pos
  generalize gd lv m = t at *
  generalize vl lv 0 m = L at *
  generalize vl lv' 0 m = L' at *
  generalize gd lv' m = t' at *
  generalize W64 ^ m = A at *
  have hp : 0 < 2 ^ s := Nat.pow_pos (by omega)
  generalize 2 ^ s = S at *
  rw [Nat.add_mul, Nat.one_mul] at hT
  have a1 : V * S = L * S + A * (t * S) := by rw [e1, Nat.add_mul, Nat.mul_assoc]
  have a2 : L * S < A * S := Nat.mul_lt_mul_of_pos_right l1 hp
  have a3 : A * (t * S) + A * S ≤ A * W64 := by rw [← Nat.mul_add]; exact Nat.mul_le_mul_left _ hT
  generalize t * S = T at *
  have hc : c = 0 := by
    cases c with
    | zero => rfl
    | succ c =>
      rw [Nat.add_mul, Nat.one_mul] at e
      omega
  subst hc
  rw [Nat.zero_mul, Nat.add_zero] at e
  refine ⟨rfl, e, ?_⟩
  have a4 : A * T < A * (t' + 1) := by rw [Nat.mul_add, Nat.mul_one]; omega
  have := Nat.lt_of_mul_lt_mul_left a4
  omega

set_option maxHeartbeats 4000000 in
set_option maxRecDepth 100000 in
theorem divLarge_any (x y : Value) (bx by_ sp d ny X Y : Nat) (lx ly : List Nat) (w : World) (hx : Wds w x bx lx (ny + d) X) (hy : Wds w y by_ ly ny Y) (n2 : 2 ≤ ny) (n3 : ny ≤ 3) (h1 : ny + d ≤ 50)
    (htop : gd ly (ny - 1) < 2 ^ 63) (hs : w.cell? ⟨sp, 0, none⟩ = some (.pointer none)) (hg : Gk w) (hsz : 17 ≤ w.heap.size) :
    Calls Tryz.prog 173 #[.slice none 0 0, .pointer (some ⟨sp, 0, none⟩), .slice none 0 0, x, y] w (DivEnd w none none (X / Y) (X % Y)) := by
  have t0 := gd_lt hy.blk.ok (ny - 1)
  obtain ⟨s, hse⟩ : ∃ s, s = 64 - Lib.bitLen (gd ly (ny - 1)) := ⟨_, rfl⟩
  have hs1 : 1 ≤ s ∧ s ≤ 63 := by
    obtain ⟨a1, a2, a3, a4⟩ := lz_norm (y := gd ly (ny - 1)) (by have := hy.top; omega) t0
    rw [← hse] at a3 a4
    constructor
    · by_cases h0 : s = 0
      · rw [h0] at a3; simp at a3; omega
      · omega
    · omega
  have Z1 := nlz_any (gd ly (ny - 1)) t0 w
  rw [← hse] at Z1
  have S1 := Lib.hid (stackSave_any ⟨sp, 0, none⟩ w hs)
  have S2 := Lib.hid (stackNat_any ⟨sp, 0, none⟩ ny (by omega) (by omega) w hs)
  have hsp : sp < w.heap.size := World.block_lt_of_cell? w _ hs
  have c1 : w.cell? ⟨by_, ny - 1, none⟩ = some (.int .u64 ((gd ly (ny - 1) : Nat) : Int)) := hy.blk.cell _ (by have := hy.le; omega)
  have e1 : ((ny + d : Nat) : Int) - (ny : Int) = (d : Int) := by omega
  have hXlt := Lib.hid hx.lt
  have hYge := Lib.hid hy.ge
  have e2 : (ny : Int) - 1 = ((ny - 1 : Nat) : Int) := by omega
  have e3 : ((ny - 1 : Nat) : Int) < ny := by omega
  have e4 : ((s : Int) == 0) = false := by simp; omega
  have e5 : ((s : Int) != 0) = true := by simp; omega
  have e6 : (ny : Int) < 40 := by omega
  have vx := Lib.hid hx.eq
  have vy := Lib.hid hy.eq
  have okx := hx.le
  have oky := hy.le
  have cx := hx.cap
  have bx0 := Lib.hid hx.blk
  have by0 := Lib.hid hy.blk
  have ty := Lib.hid hy.top
  obtain rfl := hx.val
  obtain rfl := hy.val
  obtain ⟨t, ht⟩ : ∃ t, t = gd ly (ny - 1) := ⟨_, rfl⟩
  rw [← ht] at Z1 c1
  replace ht := Lib.hid ht
  replace hse := Lib.hid hse
  replace htop := Lib.hid htop
  replace t0 := Lib.hid t0
  replace Z1 := Lib.hid Z1
  replace hg := Lib.hid hg
  replace hs := Lib.hid hs
  clear hx hy
  go_enter_defers Tryz.func173, Tryz.ntmps173
  go_wp2_with fail
  refine S1.out.mono ?_
  rintro e w1 ⟨rfl, rfl⟩
  go_wp2_with fail
  have t4 : (ny : Int) + (d : Int) - (ny : Int) = (d : Int) := by omega
  rw [t4]
  clear t4
  refine Z1.out.mono ?_
  rintro e w1 ⟨rfl, rfl⟩
  go_wp2_with fail
  refine S2.out.mono ?_
  rintro e w2 ⟨bv, lv, rfl, hbv, hlv, hnew, hf⟩
  have M1 := make_any (.slice none 0 0) none (ny + d + 1) w2 rfl (by omega) (by omega)
  rw [show ((ny + d + 1 : Nat) : Int) = ((ny + d : Nat) : Int) + 1 by omega] at M1
  replace M1 := Lib.hid M1
  replace hbv := Lib.hid hbv
  replace hnew := Lib.hid hnew
  replace hf := Lib.hid hf
  clear S1 S2 Z1
  go_wp2_with fail
  refine M1.out.mono ?_
  rintro e w3 ⟨bu, lu, rfl, hbu, hlu, hlu2, hf3, ho3, _⟩
  have bx3 := (bx0.out.frame hf.out (fun f => f)).frame hf3 (fun f => f)
  have by3 := (by0.out.frame hf.out (fun f => f)).frame hf3 (fun f => f)
  have hbv3 := hbv.out.frame hf3 (fun f => f)
  have dxv : bx ≠ bv := by have := bx0.out.lt; have := hnew.out; omega
  have dxu : bx ≠ bu := by
    have := bx0.out.lt; have := hf.out.size
    rcases ho3 with e | e
    · cases e
    · omega
  have dyv : by_ ≠ bv := by have := by0.out.lt; have := hnew.out; omega
  have dvu : bv ≠ bu := by
    have := hbv.out.lt
    rcases ho3 with e | e
    · cases e
    · omega
  have dsv : sp ≠ bv := by have := hnew.out; omega
  have hnu : w1.heap.size ≤ bu := by
    have := hf.out.size
    rcases ho3 with e | e
    · cases e
    · omega
  have L1 := Lib.hid (lshVU_any bv 0 ny lv.length by_ 0 ly.length s lv ly w3 hbv3 by3 (by omega) (by omega) (fun _ => rfl) (by omega) (by omega) hs1.1 hs1.2)
  have f03 : Fr (fun k => k = bv ∨ k = bu) w1 w3 := (hf.out.trans hf3 (fun _ _ h => h)).mono (fun _ _ h => h.elim)
  replace bx3 := Lib.hid bx3
  replace by3 := Lib.hid by3
  replace hbv3 := Lib.hid hbv3
  replace hbu := Lib.hid hbu
  replace f03 := Lib.hid f03
  replace hf3 := Lib.hid hf3
  replace ho3 := Lib.hid ho3
  replace hlu2 := Lib.hid hlu2
  clear M1
  go_wp2_with fail
  refine L1.out.mono ?_
  rintro e w4 ⟨c, lv4, rfl, hv4, hc4, hs4⟩
  rw [vy.out] at hs4
  obtain ⟨rfl, hV, hV63⟩ := div_norm (by omega) by3.out.ok hv4.blk.ok vy.out hse.out ty.out hs4
  have bx4 := bx3.out.frame hv4.fr dxv
  have bu4 := hbu.out.frame hv4.fr (fun e => dvu e.symm)
  have L2 := Lib.hid (lshVU_any bu 0 (ny + d) lu.length bx 0 lx.length s lu lx w4 bu4 bx4 (by omega) (by omega) (fun _ => rfl) (by omega) (by omega) hs1.1 hs1.2)
  have f04 : Fr (fun k => k = bv ∨ k = bu) w1 w4 := f03.out.trans (hv4.fr.mono (fun _ _ h => Or.inl h)) (fun _ _ h => h)
  replace hv4 := Lib.hid hv4
  replace hV := Lib.hid hV
  replace hV63 := Lib.hid hV63
  replace bx4 := Lib.hid bx4
  replace bu4 := Lib.hid bu4
  replace f04 := Lib.hid f04
  replace hs4 := Lib.hid hs4
  clear L1 hc4
  go_wp2_with fail
  refine L2.out.mono ?_
  rintro e w5 ⟨c, lu5, rfl, hu5, hc5, hs5⟩
  have r6 := hu5.blk.free (ny + d)
  have r7 := hu5.blk.cell (ny + d) (by rw [hu5.len]; omega)
  have hu6 := hu5.blk.set (ny + d) c hc5
  have l6 : (lu5.set (ny + d) c).length = lu.length := by simp [hu5.len]
  have hX6 : vl (lu5.set (ny + d) c) 0 (ny + d + 1) = X * 2 ^ s := by
    rw [vl_snoc, Nat.zero_add, gd_set _ _ _ _ (by rw [hu5.len]; omega), if_pos rfl, vl_congr (m := lu5) (p := 0) (fun i hi => by rw [gd_set _ _ _ _ (by rw [hu5.len]; omega), if_neg (by omega)])]
    rw [← vx.out, ← hs5, Nat.mul_comm c]
  have hv6 := (hv4.out.blk.frame hu5.fr (fun e => dvu e)).setOther (a := ⟨bu, ny + d, none⟩) (.int .u64 (c : Int)) dvu
  have f06 : Fr (fun k => k = bv ∨ k = bu) w1 (w5.setCell ⟨bu, ny + d, none⟩ (.int .u64 (c : Int))) :=
    (f04.out.trans (hu5.fr.mono (fun _ _ h => Or.inr h)) (fun _ _ h => h)).trans (Fr.setCell (S := fun k => k = bv ∨ k = bu) _ _ _ (fun _ => Or.inr rfl)) (fun _ _ h => h)
  obtain ⟨lu6, hlu6⟩ : ∃ l, l = lu5.set (ny + d) c := ⟨_, rfl⟩
  rw [← hlu6] at hu6 l6 hX6
  obtain ⟨w6, hw6⟩ : ∃ w6, w6 = w5.setCell ⟨bu, ny + d, none⟩ (.int .u64 (c : Int)) := ⟨_, rfl⟩
  rw [← hw6] at hu6 hv6 f06
  have A1 := alias_any (.slice none 0 0) (.slice (some ⟨bu, 0, none⟩) (ny + d + 1) lu.length) none (some bu) w6 rfl ⟨lu6, ny + d + 1, by rw [l6], hu6, by omega, by omega, by rw [l6]; exact hlu2.out⟩
  rw [show aliasB none (some bu) = false from rfl] at A1
  replace A1 := Lib.hid A1
  replace hu6 := Lib.hid hu6
  replace hv6 := Lib.hid hv6
  replace f06 := Lib.hid f06
  replace hX6 := Lib.hid hX6
  replace hlu6 := Lib.hid hlu6
  replace hu5 := Lib.hid hu5
  replace hs5 := Lib.hid hs5
  clear L2 hc5
  have b1 : ((ny + d : Nat) : Int) < ((ny + d + 1 : Nat) : Int) := by omega
  replace hw6 := Lib.hid hw6
  go_wp2_with fail
  rw [← hw6.out]
  clear r6 r7
  refine A1.out.mono ?_
  rintro e w7 ⟨rfl, k7, rfl⟩
  have M2 := make_any (.slice none 0 0) none (d + 1) (w6.drewN k7) rfl (by omega) (by omega)
  rw [show ((d + 1 : Nat) : Int) = (d : Int) + 1 by omega] at M2
  replace M2 := Lib.hid M2
  clear A1
  go_wp2_with fail
  refine M2.out.mono ?_
  rintro e w8 ⟨bq, lq, rfl, hbq, hlq, hlq2, hf8, ho8, _⟩
  have hvn : w1.heap.size ≤ bv := hnew.out
  have hnq : w6.heap.size ≤ bq := by
    rcases ho8 with e | e
    · cases e
    · exact e
  have dqu : bq ≠ bu := by have := hu6.out.lt; omega
  have dqv : bq ≠ bv := by have := hv6.out.lt; omega
  have h16 := f06.out.size
  have f08 : Fr (fun k => k = bv ∨ k = bu) w1 w8 := (f06.out.trans (Fr.drewN _ _ k7) (fun _ _ h => h)).trans (hf8.mono (fun _ _ h => h.elim)) (fun _ _ h => h)
  have bu8 : Blk w8 bu lu6 := (hu6.out.drewN k7).frame hf8 (fun f => f)
  have bv8 : Blk w8 bv lv4 := (hv6.out.drewN k7).frame hf8 (fun f => f)
  have g13 := (hg.out.frame f08 (fun k hk => by rcases hk with rfl | rfl <;> omega)).g13
  have sp8 := cell_frame hs.out f08 (fun e => by
    rcases e with e | e
    · exact dsv e
    · have e : sp = bu := e
      omega)
  have hVV := hV.out
  have hXX := hX6.out
  have hU8 : vl lu6 0 (ny + (d + 1)) < vl lv4 0 ny * W64 ^ (d + 1) := by
    show vl lu6 0 (ny + d + 1) < _
    rw [hXX, hVV, Nat.mul_right_comm]
    have h1 : X < Y * W64 ^ (d + 1) := by
      have := hXlt.out
      have h3 : W64 ^ (ny - 1) * W64 ^ (d + 1) ≤ Y * W64 ^ (d + 1) := Nat.mul_le_mul_right _ hYge.out
      rw [← Nat.pow_add, show ny - 1 + (d + 1) = ny + d by omega] at h3
      omega
    exact Nat.mul_lt_mul_of_pos_right h1 (Nat.pow_pos (by omega))
  have l4 : lv4.length = lv.length := hv4.out.len
  have dsq : sp ≠ bq := by omega
  have dsu : sp ≠ bu := by omega
  have D := divBasic_any bq bu bv sp (d + 1) ny lq.length lu.length lv.length lq lu6 lv4 w8 hbq bu8 bv8 sp8 n2 n3 (by omega) hlq (by omega) (by omega) rfl l6.symm l4.symm dqu dqv (fun e => dvu e.symm) dsq dsu hV63.out hU8
  rw [show ny + (d + 1) = ny + d + 1 from rfl, hXX, hVV] at D
  have hYp : 0 < Y := Nat.lt_of_lt_of_le (Nat.pow_pos W64_pos) hYge.out
  have h2p : 0 < 2 ^ s := Nat.pow_pos (by omega)
  replace D := Lib.hid D
  replace hVV := Lib.hid hVV
  replace hXX := Lib.hid hXX
  replace hU8 := Lib.hid hU8
  replace hbq := Lib.hid hbq
  replace hf8 := Lib.hid hf8
  replace ho8 := Lib.hid ho8
  replace f08 := Lib.hid f08
  replace bu8 := Lib.hid bu8
  replace bv8 := Lib.hid bv8
  replace sp8 := Lib.hid sp8
  replace hYp := Lib.hid hYp
  replace h2p := Lib.hid h2p
  replace hlq2 := Lib.hid hlq2
  replace h16 := Lib.hid h16
  clear M2
  go_wp2_with fail
  refine D.out.mono ?_
  rintro e w9 ⟨lq9, lu9, rfl, hq9, hu9, lq9l, lu9l, hQ, hR, hf9⟩
  have hQ' : vl lq9 0 (d + 1) = X / Y := by rw [hQ]; exact Nat.mul_div_mul_right X Y h2p.out
  have hR' : vl lu9 0 (ny + d + 1) = X % Y * 2 ^ s := by
    have : vl lu9 0 (ny + d + 1) = X * 2 ^ s % (Y * 2 ^ s) := hR
    rw [this]; exact Nat.mul_mod_mul_right (2 ^ s) X Y
  have N1 := norm_cap bq (d + 1) lq.length lq9 w9 hq9 lq9l hlq (by omega) hlq2.out
  rw [hQ'] at N1
  have bu9 : Blk w9 bu lu9 := hu9
  have L3 := rshVU_any bu 0 (ny + d + 1) lu.length bu 0 lu.length s lu9 lu9 w9 hu9 hu9 (by omega) (by omega) (fun _ => rfl) (by omega) (by omega) hs1.1 hs1.2
  have lu9u : lu9.length = lu.length := by rw [lu9l, l6]
  have f09 : Fr (fun k => k = bv ∨ k = bu ∨ k = bq) w1 w9 := (f08.out.mono (fun _ _ h => by rcases h with h | h; exact Or.inl h; exact Or.inr (Or.inl h))).trans (hf9.mono (fun _ _ h => by rcases h with h | h; exact Or.inr (Or.inr h); exact Or.inr (Or.inl h))) (fun _ _ h => h)
  have sp9 := cell_frame sp8.out hf9 (fun e => by rcases e with e | e; exact dsq e; exact dsu e)
  replace N1 := Lib.hid N1
  replace L3 := Lib.hid L3
  replace hQ := Lib.hid hQ
  replace hR := Lib.hid hR
  replace hQ' := Lib.hid hQ'
  replace hR' := Lib.hid hR'
  replace hq9 := Lib.hid hq9
  replace hu9 := Lib.hid hu9
  replace bu9 := Lib.hid bu9
  replace hf9 := Lib.hid hf9
  replace f09 := Lib.hid f09
  replace sp9 := Lib.hid sp9
  clear D g13
  go_wp2_with fail
  refine N1.out.mono ?_
  rintro e w10 ⟨vq, rfl, hvq, rfl⟩
  replace hvq := Lib.hid hvq
  clear N1
  go_wp2_with fail
  refine L3.out.mono ?_
  rintro e w10 ⟨c3, lu10, rfl, hu10, hR10⟩
  have N2 := norm_cap bu (ny + d + 1) lu.length lu10 w10 hu10.blk (by rw [hu10.len, lu9u]) hlu (by omega) hlu2.out
  have hR2 : vl lu10 0 (ny + d + 1) = X % Y := by
    rw [hR10, hR'.out]; exact Nat.mul_div_cancel _ h2p.out
  rw [hR2] at N2
  have q10 : NatV w10 vq (some bq) (X / Y) := hvq.out.frame hu10.fr (fun b hb e => by cases hb; exact dqu e)
  have f10 : Fr (fun k => k = bv ∨ k = bu ∨ k = bq) w1 w10 := f09.out.trans (hu10.fr.mono (fun _ _ h => Or.inr (Or.inl h))) (fun _ _ h => h)
  have sp10 := cell_frame sp9.out hu10.fr dsu
  replace N2 := Lib.hid N2
  replace q10 := Lib.hid q10
  replace f10 := Lib.hid f10
  replace sp10 := Lib.hid sp10
  clear L3 hR2
  replace hR10 := Lib.hid hR10
  replace hu10 := Lib.hid hu10
  go_wp2_with fail
  refine N2.out.mono ?_
  rintro e w11 ⟨vr, rfl, hvr, rfl⟩
  replace hvr := Lib.hid hvr
  clear N2
  go_wp2_with fail
  refine leaves_cons (f := 118) (args := #[.pointer (some ⟨sp, 0, none⟩), .int .i64 0]) (by simp) (by simp [go_sem]) ?_
  refine (stackRestore_any _ _ .returning _ sp10.out).mono ?_
  rintro e u' w'' ⟨rfl, rfl, rfl⟩
  have h16o := h16.out
  refine ⟨_, results_tmp2 rfl _ _ _, ?_⟩
  refine ⟨vq, some bq, vr, some bu, rfl, q10.out, hvr.out, f10.out.mono (fun i hi e => by rcases e with e | e | e <;> omega), Or.inr ⟨bq, rfl, by omega⟩, Or.inr ⟨bu, rfl, hnu⟩, ?_⟩
  intro b hb e
  cases hb
  cases e
  exact dqu rfl
end Go.Proofs.YtcpjclakdpjjfaaGreatDoor

namespace Go.Proofs.YtcpjclakdpjjfaaGreatDoor
open Go.RowKit

set_option maxHeartbeats 1000000 in
theorem divW_one (z x : Value) (oz ox : Option Nat) (m : Nat) (w : World) (hz : Sto w z oz) (hx : NatV w x ox m) (hm : m < W64 ^ 100) :
    Calls Tryz.prog 172 #[z, x, .int .u64 1] w (DivWEnd w oz m 0) := by
  have H := Lib.hid (set_any z x oz ox m w hz hx hm)
  have key : ∀ a n c, x = .slice a n c → Calls Tryz.prog 172 #[z, .slice a n c, .int .u64 1] w (DivWEnd w oz m 0) := by
    intro a n c e
    subst e
    clear hz hx hm
    go_enter Tryz.func172, Tryz.ntmps172
    go_wp2_with fail
    refine H.out.mono ?_
    rintro e w1 ⟨v, ob, rfl, h1, h2, h3⟩
    replace h1 := Lib.hid h1
    replace h2 := Lib.hid h2
    replace h3 := Lib.hid h3
    go_wp2_with fail
    go_ret2
    exact ⟨v, ob, rfl, h1.out, h2.out, h3.out⟩
  rcases hx.split with ⟨_, ax, cx, e⟩ | ⟨bx, lx, nx, _, Hx⟩
  · have := key _ _ _ e; rw [← e] at this; exact this
  · have := key _ _ _ Hx.val; rw [← Hx.val] at this; exact this

theorem divW_all (z x : Value) (oz ox : Option Nat) (m y : Nat) (w : World) (hz : Sto w z oz) (hx : NatV w x ox m) (hm : m < W64 ^ 100) (hy : y < W64) (h1 : 1 ≤ y) :
    Calls Tryz.prog 172 #[z, x, .int .u64 (y : Int)] w (DivWEnd w oz (m / y) (m % y)) := by
  by_cases h : y = 1
  · subst h
    rw [Nat.div_one, Nat.mod_one]
    exact divW_one z x oz ox m w hz hx hm
  · exact divW_any z x oz ox m y w hz hx hm hy (by omega)

set_option maxHeartbeats 1000000 in
/-- A division by a number of one word. -/
theorem div_word (z z2 x y : Value) (oz o2 ox : Option Nat) (by_ m n : Nat) (ly : List Nat) (w : World) (hz : Sto w z oz) (h2 : Sto w z2 o2) (hx : NatV w x ox m) (hy : Wds w y by_ ly 1 n) (hm : m < W64 ^ 100)
    (dis : ∀ b, oz = some b → o2 ≠ some b) : Calls Tryz.prog 155 #[z, .pointer none, z2, x, y] w (DivEnd w oz o2 (m / n) (m % n)) := by
  have hn1 := hy.npos
  have hn2 := hy.lt
  rw [Nat.pow_one] at hn2
  have c1 : w.cell? ⟨by_, 0, none⟩ = some (.int .u64 ((n : Nat) : Int)) := by
    have := hy.eq
    have e : vl ly 0 1 = gd ly 0 := vl_nat0 ly 0
    rw [e] at this
    rw [← this]
    exact hy.blk.cell 0 (by have := hy.le; omega)
  have D := Lib.hid (divW_all z x oz ox m n w hz hx hm hn2 hn1)
  have kz := Lib.hid hz
  have k2 := Lib.hid h2
  obtain rfl := hy.val
  have hsz : Hid (∀ b, o2 = some b → b < w.heap.size) := fun b e => by subst e; exact h2.lt
  replace hx := Lib.hid hx
  replace hm := Lib.hid hm
  replace dis := Lib.hid dis
  replace hn1 := Lib.hid hn1
  replace hn2 := Lib.hid hn2
  clear hz h2 hy
  go_enter_defers Tryz.func155, Tryz.ntmps155
  go_wp2_with fail
  refine D.out.mono ?_
  rintro e w1 ⟨v1, o1, rfl, h1, f1, e1⟩
  have d12 : ∀ b, o2 = some b → ¬ oz = some b := fun b e f => dis.out b f e
  have k2' := k2.out.frame f1 d12
  have S := Lib.hid (setWord_any z2 o2 (m % n) w1 k2' (Nat.lt_trans (Nat.mod_lt _ hn1.out) hn2.out))
  replace h1 := Lib.hid h1
  replace f1 := Lib.hid f1
  replace e1 := Lib.hid e1
  replace k2' := Lib.hid k2'
  replace d12 := Lib.hid d12
  clear D
  go_wp2_with fail
  refine S.out.mono ?_
  rintro e w2 ⟨v2, o2', rfl, h2, f2, e2⟩
  have dd : ∀ b, o1 = some b → ¬ o2 = some b := by
    intro b hb e
    rcases e1.out with h | ⟨b', h, hge⟩
    · exact d12.out b e (h ▸ hb)
    · rw [hb] at h; cases h
      have := hsz.out b e
      omega
  have h1' := h1.out.frame f2 dd
  replace h1' := Lib.hid h1'
  replace h2 := Lib.hid h2
  replace f2 := Lib.hid f2
  replace e2 := Lib.hid e2
  have hlt : Hid (∀ b, o1 = some b → b < w1.heap.size) := fun b e => by
    have := h1.out
    rw [e] at this
    exact this.lt
  replace dd := Lib.hid dd
  go_wp2_with fail
  refine ⟨_, results_tmp2 rfl _ _ _, ?_⟩
  refine ⟨v1, o1, v2, o2', rfl, h1'.out, h2.out, (f1.out.mono (fun _ _ h => Or.inl h)).trans (f2.out.mono (fun _ _ h => Or.inr h)) (fun _ _ h => h), e1.out, ?_, ?_⟩
  · rcases e2.out with h | ⟨b, h, hb⟩
    · exact Or.inl h
    · exact Or.inr ⟨b, h, Nat.le_trans f1.out.size hb⟩
  · intro b hb e
    rcases e2.out with h | ⟨b', h, hge⟩
    · exact dd.out b hb (h ▸ e)
    · rw [h] at e; cases e
      have := hlt.out b hb
      omega

set_option maxHeartbeats 1000000 in
/-- A division of a smaller number. -/
theorem div_less (x y : Value) (ox : Option Nat) (by_ m n ny : Nat) (ly : List Nat) (w : World) (hx : NatV w x ox m) (hy : Wds w y by_ ly ny n) (n2 : 2 ≤ ny) (hmn : m < n) (hm : m < W64 ^ 100) :
    Calls Tryz.prog 155 #[.slice none 0 0, .pointer none, .slice none 0 0, x, y] w (DivEnd w none none 0 m) := by
  have C := cmp_any x y ox (some by_) m n w hx hy.natv
  rw [cmpI_lt hmn] at C
  replace C := Lib.hid C
  have H : Hid (∀ k, Calls Tryz.prog 85 #[.slice none 0 0, x] (w.drewN k) (NatEnd (w.drewN k) none m)) := fun k => set_any (.slice none 0 0) x none ox m (w.drewN k) rfl (hx.frame (Fr.drewN (fun _ => False) w k) (fun _ _ f => f)) hm
  have e0 : ((ny : Int) == 0) = false := by simp; omega
  have e1 : ((ny : Int) == 1) = false := by simp; omega
  obtain rfl := hy.val
  clear hx hy hm
  go_enter_defers Tryz.func155, Tryz.ntmps155
  go_wp2_with fail
  refine C.out.mono ?_
  rintro e w1 ⟨rfl, k, rfl⟩
  clear C
  go_wp2_with fail
  refine (H.out k).mono ?_
  rintro e w2 ⟨v, ob, rfl, h1, h2, h3⟩
  replace h1 := Lib.hid h1
  replace h2 := Lib.hid h2
  replace h3 := Lib.hid h3
  go_wp2_with fail
  refine ⟨_, results_tmp2 rfl _ _ _, ?_⟩
  refine ⟨_, none, v, ob, rfl, ⟨rfl, rfl⟩, h1.out, ((Fr.drewN (fun _ => False) w k).mono (fun _ _ h => h.elim)).trans (h2.out.mono (fun _ _ h => Or.inl h)) (fun _ _ h => h), Or.inl rfl, ?_, by intro b e; cases e⟩
  rcases h3.out with h | ⟨b, h, hb⟩
  · exact Or.inl h
  · exact Or.inr ⟨b, h, hb⟩

set_option maxHeartbeats 1000000 in
theorem div_great (x y : Value) (bx by_ d m n ny : Nat) (lx ly : List Nat) (w : World) (hx : Wds w x bx lx (ny + d) m) (hy : Wds w y by_ ly ny n) (n2 : 2 ≤ ny) (n3 : ny ≤ 3) (h1 : ny + d ≤ 50) (hnm : n ≤ m)
    (htop : gd ly (ny - 1) < 2 ^ 63) (hg : Gk w) (hsz : 17 ≤ w.heap.size) :
    Calls Tryz.prog 155 #[.slice none 0 0, .pointer none, .slice none 0 0, x, y] w (DivEnd w none none (m / n) (m % n)) := by
  have C := cmp_any x y (some bx) (some by_) m n w hx.natv hy.natv
  have e2 : ¬ (cmpI m n < 0) := by unfold cmpI; split
                                   · omega
                                   · split <;> omega
  obtain ⟨cc, hcc⟩ : ∃ c, c = cmpI m n := ⟨_, rfl⟩
  rw [← hcc] at C e2
  clear hcc
  replace C := Lib.hid C
  have e0 : ((ny : Int) == 0) = false := by simp; omega
  have e1 : ((ny : Int) == 1) = false := by simp; omega
  have kx := Lib.hid hx
  have ky := Lib.hid hy
  have S := Lib.hid (fun k => getStack_any (w.drewN k))
  obtain rfl := hx.val
  obtain rfl := hy.val
  replace htop := Lib.hid htop
  replace hg := Lib.hid hg
  clear hx hy
  go_enter_defers Tryz.func155, Tryz.ntmps155
  go_wp2_with fail
  refine C.out.mono ?_
  rintro e w1 ⟨rfl, k, rfl⟩
  clear C
  go_wp2_with fail
  refine (S.out k).mono ?_
  rintro e w2 ⟨rfl, hc, hf, hs⟩
  have f2 : Fr (fun _ => False) w w2 := (Fr.drewN _ w k).trans hf (fun _ _ h => h)
  have L := divLarge_any _ _ bx by_ (w.drewN k).heap.size d ny m n lx ly w2 (⟨rfl, kx.out.blk.frame f2 (fun f => f), kx.out.le, kx.out.pos, kx.out.cap, kx.out.eq, kx.out.top⟩) (⟨rfl, ky.out.blk.frame f2 (fun f => f), ky.out.le, ky.out.pos, ky.out.cap, ky.out.eq, ky.out.top⟩) n2 n3 h1 htop.out hc (hg.out.frame f2 (fun _ h => h.elim)) (Nat.le_trans hsz f2.size)
  replace L := Lib.hid L
  replace hc := Lib.hid hc
  replace hf := Lib.hid hf
  replace f2 := Lib.hid f2
  clear S
  go_wp2_with fail
  refine L.out.mono ?_
  rintro e w3 ⟨v1, o1, v2, o2, rfl, q1, q2, f3, a1, a2, a3⟩
  have hc3 := cell_frame hc.out f3 (by intro e; rcases e with e | e <;> cases e)
  replace q1 := Lib.hid q1
  replace q2 := Lib.hid q2
  replace f3 := Lib.hid f3
  replace a1 := Lib.hid a1
  replace a2 := Lib.hid a2
  replace a3 := Lib.hid a3
  clear L
  go_wp2_with fail
  refine leaves_cons (f := 113) (args := #[.pointer (some ⟨(w.drewN k).heap.size, 0, none⟩)]) (by simp) (by simp [go_sem]) ?_
  refine (stackFree_any _ .returning _ hc3).mono ?_
  rintro e u' w'' ⟨rfl, rfl, rfl⟩
  refine ⟨_, results_tmp2 rfl _ _ _, ?_⟩
  refine ⟨v1, o1, v2, o2, rfl, q1.out, q2.out, (f2.out.mono (fun _ _ h => h.elim)).trans f3.out (fun _ _ h => h), ?_, ?_, a3.out⟩
  · rcases a1.out with h | ⟨b, h, hb⟩
    · exact Or.inl h
    · exact Or.inr ⟨b, h, Nat.le_trans f2.out.size hb⟩
  · rcases a2.out with h | ⟨b, h, hb⟩
    · exact Or.inl h
    · exact Or.inr ⟨b, h, Nat.le_trans f2.out.size hb⟩
end Go.Proofs.YtcpjclakdpjjfaaGreatDoor

namespace Go.Proofs.YtcpjclakdpjjfaaGreatDoor
open Go.RowKit

/-- A new big.Int. -/
def IntNew (w : World) (z : Int) (e : Ending) (w' : World) : Prop :=
  ∃ p ob, e = .returned (.pointer (some ⟨p, 0, none⟩)) ∧ IntAt w' p z ob ∧ Fr (fun _ => False) w w' ∧ w.heap.size ≤ p ∧ (∀ b, ob = some b → w.heap.size ≤ b)

theorem IntC.boxed (w : World) (g : Bool) (v : Value) (ob : Option Nat) (n : Nat) (T : TypeId) (h : NatV w v ob n) (can : g = true → n ≠ 0) :
    IntC (w.alloc (.cells #[.bool g, v] T)) w.heap.size g v ob n := by
  have hat : (w.alloc (.cells #[.bool g, v] T)).heap[w.heap.size]? = some (.cells #[.bool g, v] T (0, 0)) := by
    show (w.heap.push _)[w.heap.size]? = _
    rw [Array.getElem?_push_size]
  refine ⟨⟨_, _, hat⟩, ?_, ?_, h.frame (Fr.alloc (fun _ => False) w _) (fun _ _ f => f), can, ?_⟩
  · unfold World.cell?; rw [hat]; rfl
  · unfold World.cell?; rw [hat]; rfl
  · intro e
    subst e
    have := h.lt
    omega

theorem natv_one (w : World) (u : Nat) (h0 : u ≠ 0) (hu : u < W64) : NatV (w.alloc (.cells #[.int .u64 (u : Int)] 121)) (.slice (some ⟨w.heap.size, 0, none⟩) 1 1) (some w.heap.size) u := by
  have hat : (w.alloc (.cells #[.int .u64 (u : Int)] 121)).heap[w.heap.size]? = some (.cells #[.int .u64 (u : Int)] 121 (0, 0)) := by
    show (w.heap.push _)[w.heap.size]? = _
    rw [Array.getElem?_push_size]
  refine ⟨[u], 1, rfl, ⟨⟨121, by rw [hat]; rfl⟩, ?_⟩, by simp, by simp, by simp, ?_, Or.inr ?_⟩
  · intro x hx
    simp at hx
    subst hx
    exact hu
  · show gd [u] 0 + W64 * 0 = u
    simp [gd]
  · simpa [gd] using h0

set_option maxHeartbeats 1000000 in
theorem newInt_any (x : Int) (h1 : -9223372036854775808 ≤ x) (h2 : x ≤ 9223372036854775807) (w : World) : Calls Tryz.prog 26 #[.int .i64 x] w (IntNew w x) := by
  rcases (show x = 0 ∨ 0 < x ∨ x < 0 by omega) with h | h | h
  · subst h
    go_enter Tryz.func26, Tryz.ntmps26
    go_wp2
    go_ret
    exact ⟨w.heap.size, none, rfl, ⟨false, _, 0, IntC.boxed w false _ none 0 _ ⟨rfl, rfl⟩ (by simp), rfl⟩, Fr.alloc _ _ _, Nat.le_refl _, by intro b e; cases e⟩
  · obtain ⟨n, rfl⟩ : ∃ n : Nat, x = n := ⟨x.toNat, by omega⟩
    have e0 : ((n : Int) == 0) = false := by simp; omega
    have e1 : ¬ ((n : Int) < 0) := by omega
    have e2 : decide ((n : Int) < 0) = false := by simp
    have e3 : IntKind.u64.wrap (n : Int) = (n : Int) := wrapu n (by unfold W64; omega)
    have hn := Lib.hid (natv_one w n (by omega) (by unfold W64; omega))
    go_enter Tryz.func26, Tryz.ntmps26
    go_wp2
    go_ret
    refine ⟨(w.alloc (.cells #[.int .u64 (n : Int)] 121)).heap.size, some w.heap.size, ?_, ⟨false, _, n, IntC.boxed _ false _ _ n _ hn.out (by simp), rfl⟩, ?_, by simp, ?_⟩
    · simp
    · exact (Fr.alloc _ _ _).trans (Fr.alloc _ _ _) (fun _ _ h => h)
    · intro b e; cases e; exact Nat.le_refl _
  · obtain ⟨n, rfl⟩ : ∃ n : Nat, x = -(n : Int) := ⟨(-x).toNat, by omega⟩
    have e0 : ((-(n : Int)) == 0) = false := by simp; omega
    have e1 : (-(n : Int) < 0) := by omega
    have e2 : decide (-(n : Int) < 0) = true := by simp; omega
    have e3 : IntKind.u64.wrap (-IntKind.u64.wrap (-(n : Int))) = (n : Int) := by
      rw [IntKind.wrap_u64, IntKind.wrap_u64]; omega
    have hn := Lib.hid (natv_one w n (by omega) (by unfold W64; omega))
    go_enter Tryz.func26, Tryz.ntmps26
    go_wp2
    go_ret
    refine ⟨(w.alloc (.cells #[.int .u64 (n : Int)] 121)).heap.size, some w.heap.size, ?_, ⟨true, _, n, IntC.boxed _ true _ _ n _ hn.out (by omega), rfl⟩, ?_, by simp, ?_⟩
    · simp
    · exact (Fr.alloc _ _ _).trans (Fr.alloc _ _ _) (fun _ _ h => h)
    · intro b e; cases e; exact Nat.le_refl _
end Go.Proofs.YtcpjclakdpjjfaaGreatDoor


/-
  A part of the proof of FnQuantityAgain (texts N5, N6, N7 of mine, joined).
-/
import Derived.Test.YtcpjclakdpjjfaaGreatDoorM06
import Derived.Lib.SliceRun
import Derived.BigFrame
import Derived.Defers
namespace Go.Proofs.YtcpjclakdpjjfaaGreatDoor
open Go.RowKit

theorem zero121 (w : World) : (zeroValue 121).run Tryz.prog w = .ok (.int .u64 0) w := by kernel_rfl

/-- n words from o on are 0 now. -/
theorem zeros_vec (b : Nat) : ∀ (n o : Nat) (l : List Nat) (w : World), Blk w b l → o + n ≤ l.length →
    ∃ l', Vec w (w.setCells b o (List.replicate n (.int .u64 0))) b o n l l' ∧ ∀ i, o ≤ i → i < o + n → gd l' i = 0
  | 0, o, l, w, h, _ => ⟨l, Vec.refl h, fun i a c => by omega⟩
  | n + 1, o, l, w, h, hl => by
    have h1 : Blk (w.setCell ⟨b, o, none⟩ (.int .u64 0)) b (l.set o 0) := h.set o 0 W64_pos
    obtain ⟨l', hv, hz⟩ := zeros_vec b n (o + 1) (l.set o 0) (w.setCell ⟨b, o, none⟩ (.int .u64 0)) h1 (by simp; omega)
    refine ⟨l', ⟨hv.blk, by rw [hv.len]; simp, ?_, (Fr.setCell (S := fun k => k = b) _ _ _ (fun _ => rfl)).trans hv.fr (fun _ _ => id)⟩, ?_⟩
    · intro i hi
      rw [hv.out i (by omega), gd_set _ _ _ _ (by omega), if_neg (by omega)]
    · intro i h1 h2
      by_cases e : i = o
      · subst e
        rw [hv.out i (by omega), gd_set _ _ _ _ (by omega), if_pos rfl]
      · exact hz i (by omega) (by omega)

theorem clear_w {w : World} {b o n c : Nat} {l : List Nat} (h : Blk w b l) (hn : 0 < n) (hl : o + n ≤ l.length) (ty : TypeId) :
    (Builtin.clear_ #[68] ty #[.slice (some ⟨b, o, none⟩) n c]).run Tryz.prog w = .ok (.tuple #[]) (w.setCells b o (List.replicate n (.int .u64 0))) :=
  Lib.run_clear_slice w 68 121 ty (.int .u64 0) Tryz.underlying68 zero121 rfl rfl b o n c hn (fun j hj => by rw [h.cell (o + j) (by omega)]; rfl) (fun j _ => h.free (o + j))

theorem vl_nil (o n : Nat) : vl [] o n = 0 := by
  induction n generalizing o with
  | zero => rfl
  | succ n ih => show gd [] o + W64 * vl [] (o + 1) n = 0; rw [ih]; rfl

def BmEnd (w : World) (b n : Nat) (l : List Nat) (p : Nat) (e : Ending) (w' : World) : Prop :=
  ∃ l', e = .returned (.tuple #[]) ∧ Vec w w' b 0 n l l' ∧ vl l' 0 n = p

theorem bm_step {X Y L P c d i nx : Nat} {l2 l1 lx : List Nat} (h1 : vl l1 0 (nx + i) = X * Y) (hX : vl lx 0 nx = X) (ho : ∀ j, j < i → gd l2 j = gd l1 j)
    (hs : vl l2 i nx + c * W64 ^ nx = vl l1 i nx + vl lx 0 nx * d + 0) (hc : gd l2 (nx + i) = c) (hP : P = W64 ^ i) (hL : L = nx + (i + 1)) : vl l2 0 L = X * (Y + P * d) := by
  subst hL hP
  rw [show nx + (i + 1) = (i + nx) + 1 by omega, vl_snoc, Nat.zero_add, vl_add, Nat.zero_add, vl_congr (m := l1) (p := 0) (fun j hj => by rw [Nat.zero_add]; exact ho j hj)]
  rw [Nat.add_comm nx i] at h1 hc
  rw [vl_add, Nat.zero_add] at h1
  rw [hc, Nat.mul_add, ← h1, Nat.pow_add, ← hX]
  have h2 : W64 ^ i * (vl l2 i nx + c * W64 ^ nx) = W64 ^ i * (vl l1 i nx + vl lx 0 nx * d) := by rw [hs]; rfl
  rw [Nat.mul_add, Nat.mul_add] at h2
  have e1 : W64 ^ i * (c * W64 ^ nx) = W64 ^ i * W64 ^ nx * c := by rw [Nat.mul_comm c, Nat.mul_assoc]
  have e2 : vl lx 0 nx * (W64 ^ i * d) = W64 ^ i * (vl lx 0 nx * d) := by rw [← Nat.mul_assoc, Nat.mul_comm _ (W64 ^ i), Nat.mul_assoc]
  omega

set_option maxHeartbeats 4000000 in
set_option maxRecDepth 100000 in
theorem basicMul_any (b bx by_ nx ny cx cy : Nat) (l lx ly : List Nat) (w : World) (hb : Blk w b l) (hx : Blk w bx lx) (hy : Blk w by_ ly) (nbx : bx ≠ b) (nby : by_ ≠ b)
    (kx : nx ≤ lx.length) (ky : ny ≤ ly.length) (kz : nx + ny ≤ l.length) (h1 : 1 ≤ nx) (hn : nx + ny ≤ 1000) (ecx : cx = lx.length) (ecy : cy = ly.length) :
    Calls Tryz.prog 111 #[.slice (some ⟨b, 0, none⟩) (nx + ny) l.length, .slice (some ⟨bx, 0, none⟩) nx cx, .slice (some ⟨by_, 0, none⟩) ny cy] w
      (BmEnd w b (nx + ny) l (vl lx 0 nx * vl ly 0 ny)) := by
  subst ecx ecy
  have hcl := fun ty => clear_w (c := l.length) (o := 0) (n := nx + ny) hb (by omega) (by omega) ty
  obtain ⟨l0, hv0, hz0⟩ := zeros_vec b (nx + ny) 0 l w hb (by omega)
  obtain ⟨w0, hw0⟩ : ∃ w0, w0 = w.setCells b 0 (List.replicate (nx + ny) (.int .u64 0)) := ⟨_, rfl⟩
  rw [← hw0] at hcl hv0
  clear hw0
  replace hv0 := Lib.hid hv0
  replace hz0 := Lib.hid hz0
  have hx0 := Lib.hid hx
  have hy0 := Lib.hid hy
  clear hx hy
  replace hb := Lib.hid hb
  go_enter Tryz.func111, Tryz.ntmps111
  go_wp2_with (simp only [hcl])
  clear hcl
  go_loopw [17] (fun i wr => ∃ (k : Nat) (l' : List Nat), i = .int .i64 (k : Int) ∧ k ≤ ny ∧ Hid (Vec w wr b 0 (nx + ny) l l' ∧ vl l' 0 (nx + k) = vl lx 0 nx * vl ly 0 k ∧ ∀ j, nx + k ≤ j → j < nx + ny → gd l' j = 0)) (fun i _ => ny - (intOf i).toNat)
  case atStart =>
    refine ⟨0, l0, rfl, Nat.zero_le _, hv0.out, ?_, fun j a c => hz0.out j (by omega) (by omega)⟩
    rw [vl_zero, Nat.mul_zero, Nat.add_zero, vl_congr (m := []) (p := 0) (fun j hj => by rw [Nat.zero_add, hz0.out j (by omega) (by omega)]; rfl), vl_nil]
  case round =>
    obtain ⟨k, l', rfl, hk, hrel⟩ := hrel
    obtain ⟨g1, g2, g3⟩ := hrel.out
    have hL : l'.length = l.length := g1.len
    by_cases hlt : k < ny
    · have r1 : wr.cell? ⟨by_, k, none⟩ = some (.int .u64 ((gd ly k : Nat) : Int)) := (hy0.out.frame (g1.fr) nby).cell k (by omega)
      have e6 : (k : Int) < ny := by omega
      by_cases hd : gd ly k = 0
      · rw [hd] at r1
        clear g1 g2 g3
        go_wp2
        go_roundw
        case rel =>
          obtain ⟨g1, g2, g3⟩ := hrel.out
          refine ⟨k + 1, l', by congr 1, by omega, g1, ?_, fun j a c => g3 j (by omega) c⟩
          rw [← Nat.add_assoc, vl_snoc, vl_snoc, Nat.zero_add, Nat.zero_add, hd, g3 _ (by omega) (by omega), Nat.mul_zero, Nat.mul_zero, Nat.add_zero, Nat.add_zero, g2]
        case measure => simp [intOf]; omega
      · have e7 : (((gd ly k : Nat) : Int) != 0) = true := by simp; omega
        have hdl := gd_lt hy0.out.ok k
        obtain ⟨d, hdd⟩ : ∃ d : Nat, d = gd ly k := ⟨_, rfl⟩
        have H := addMulVVWW_any b k nx (l.length - k) b k (l.length - k) bx 0 lx.length d 0 l' l' lx wr.drew g1.blk.drew g1.blk.drew (hx0.out.frame g1.fr nbx).drew (by omega) (by omega) (by omega) (fun _ => rfl) (fun f => (nbx f).elim) (hdd ▸ hdl) W64_pos (by omega)
        replace H := Lib.hid H
        rw [← hdd] at r1 e7 hdl
        replace hdl := Lib.hid hdl
        replace hdd := Lib.hid hdd
        replace hL := Lib.hid hL
        clear hd g1 g2 g3
        have q1 : (k : Int) + nx ≤ l.length := by omega
        have q2 : (k : Int) ≤ (k : Int) + nx := by omega
        have q3 : (0 : Int) ≤ k := by omega
        have q4 : IntKind.i64.wrap ((k : Int) + nx) = (k : Int) + nx := IntWalk.i64_in _ (by omega)
        have q5 : IntKind.i64.wrap ((nx : Int) + k) = (nx : Int) + k := IntWalk.i64_in _ (by omega)
        go_wp2_with fail
        refine wp_region_heads 21 (by kernel_rfl) (by kernel_rfl) ?_
        simp only [List.take_succ_cons, List.take_zero, List.drop_succ_cons, List.drop_zero]
        repeat (go_big_quiet_step (fail))
        refine wpQuiet_nil ?_
        clear q4 q5
        go_wp2_with fail
        refine H.out.mono ?_
        rintro e w2 ⟨c, l2, rfl, hv2, hc2, hs2⟩
        have r6 := hv2.blk.free (nx + k)
        have r7 := hv2.blk.cell (nx + k) (by rw [hv2.len, hL.out]; omega)
        replace hv2 := Lib.hid hv2
        replace hs2 := Lib.hid hs2
        replace hc2 := Lib.hid hc2
        go_wp2_with fail
        refine NoPanic.normal ?_
        go_wp2_with fail
        go_roundw
        case rel =>
          obtain ⟨g1, g2, g3⟩ := hrel.out
          have hv2 := hv2.out
          have hV : Vec w (w2.setCell ⟨b, nx + k, none⟩ (.int .u64 (c : Int))) b 0 (nx + ny) l (l2.set (nx + k) c) := by
            refine ⟨hv2.blk.set _ _ hc2.out, by simp [hv2.len, hL.out], ?_, ?_⟩
            · intro i hi
              rw [gd_set _ _ _ _ (by rw [hv2.len, hL.out]; omega), if_neg (by omega), hv2.out _ (by omega), g1.out _ hi]
            · exact ((g1.fr.trans (Fr.drewN _ wr 1) (fun _ _ => id)).trans hv2.fr (fun _ _ => id)).trans (Fr.setCell (S := fun k => k = b) _ _ _ (fun _ => rfl)) (fun _ _ => id)
          refine ⟨k + 1, l2.set (nx + k) c, by congr 1, by omega, hV, ?_, ?_⟩
          · rw [vl_snoc, Nat.zero_add]
            refine bm_step (l1 := l') (lx := lx) (c := c) (P := W64 ^ k) (i := k) (nx := nx) g2 rfl ?_ ?_ ?_ rfl rfl
            · intro j hj
              rw [gd_set _ _ _ _ (by rw [hv2.len, hL.out]; omega), if_neg (by omega), hv2.out _ (by omega)]
            · rw [← hdd.out, ← hs2.out]
              congr 1
              refine vl_congr fun i hi => ?_
              rw [gd_set _ _ _ _ (by rw [hv2.len, hL.out]; omega), if_neg (by omega)]
            · rw [gd_set _ _ _ _ (by rw [hv2.len, hL.out]; omega), if_pos rfl]
          · intro j a c'
            rw [gd_set _ _ _ _ (by rw [hv2.len, hL.out]; omega), if_neg (by omega), hv2.out _ (by omega)]
            exact g3 j (by omega) c'
        case measure => simp [intOf]; omega
    · obtain rfl : k = ny := by omega
      clear g1 g2 g3
      go_wp2
      go_end0
      obtain ⟨g1, g2, g3⟩ := hrel.out
      exact ⟨l', rfl, g1, g2⟩
end Go.Proofs.YtcpjclakdpjjfaaGreatDoor

namespace Go.Proofs.YtcpjclakdpjjfaaGreatDoor
open Go.RowKit

/-- Whether two storages are one. -/
def aliasB : Option Nat → Option Nat → Bool
  | some a, some b => decide (a = b)
  | _, _ => false

set_option maxHeartbeats 1000000 in
theorem alias_any (z x : Value) (oz ox : Option Nat) (w : World) (hz : Sto w z oz) (hx : Sto w x ox) :
    Calls Tryz.prog 84 #[z, x] w fun e w' => e = .returned (.bool (aliasB oz ox)) ∧ Dr w w' := by
  cases oz with
  | none =>
    have hz : z = .slice none 0 0 := hz
    subst hz
    obtain ⟨va, vn, vc, hv⟩ : ∃ va vn vc, x = .slice va vn vc := by
      cases ox with
      | none => exact ⟨_, _, _, hx⟩
      | some b => obtain ⟨l, len, rfl, _⟩ := hx; exact ⟨_, _, _, rfl⟩
    subst hv
    clear hx
    show Calls _ _ _ _ fun e w' => e = .returned (.bool false) ∧ Dr w w'
    go_enter Tryz.func84, Tryz.ntmps84
    go_wp2_with fail
    go_quiet (fail)
    go_wp2_with fail
    go_ret
    exact ⟨rfl, _, rfl⟩
  | some b =>
    obtain ⟨l, len, rfl, hb, hlen, hp, hc⟩ := hz
    have e0 : (0 : Int) < l.length := by omega
    have e0' : (l.length : Int) - 1 = ((l.length - 1 : Nat) : Int) := by omega
    cases ox with
    | none =>
      have hx : x = .slice none 0 0 := hx
      subst hx
      show Calls _ _ _ _ fun e w' => e = .returned (.bool false) ∧ Dr w w'
      go_enter Tryz.func84, Tryz.ntmps84
      go_wp2_with fail
      go_quiet (fail)
      go_wp2_with fail
      go_ret
      exact ⟨rfl, _, rfl⟩
    | some c =>
      obtain ⟨m, len2, rfl, hb2, hlen2, hp2, hc2⟩ := hx
      have f0 : (0 : Int) < m.length := by omega
      by_cases e : b = c
      · subst e
        have := hb.same hb2
        subst this
        have P1 := fun w => ptr_eql_same (P := Tryz.prog) ⟨b, l.length - 1, none⟩ w Tryz.underlying208 info121
        replace hb := Lib.hid hb
        replace hb2 := Lib.hid hb2
        rw [show aliasB (some b) (some b) = true from decide_eq_true rfl]
        go_enter Tryz.func84, Tryz.ntmps84
        go_wp2_with fail
        go_quiet (fail)
        go_wp2_with fail
        go_ret
        exact ⟨rfl, _, rfl⟩
      · rw [show aliasB (some b) (some c) = false from decide_eq_false e]
        have P2 : ∀ k, (binOp .eql 208 (.pointer (some ⟨b, l.length - 1, none⟩)) (.pointer (some ⟨c, m.length - 1, none⟩))).run Tryz.prog (w.drewN k) = .ok (.bool false) (w.drewN k) := fun k =>
          ptr_eql_other _ Tryz.underlying208 info121 (by intro f; exact e (congrArg Addr.block f)) (hb.plain.drewN k) (hb2.plain.drewN k)
        replace hb := Lib.hid hb
        replace hb2 := Lib.hid hb2
        go_enter Tryz.func84, Tryz.ntmps84
        go_wp2_with fail
        go_quiet (fail)
        go_wp2_with fail
        go_ret
        exact ⟨rfl, _, rfl⟩

set_option maxHeartbeats 1000000 in
theorem mulAddWW_zero (z : Value) (oz : Option Nat) (ax : Option Addr) (nx cx y r : Nat) (w : World) (hz : Sto w z oz) (h : nx = 0 ∨ y = 0) (hr : r < W64) :
    Calls Tryz.prog 116 #[z, .slice ax nx cx, .int .u64 (y : Int), .int .u64 (r : Int)] w (NatEnd w oz r) := by
  have H := Lib.hid (setWord_any z oz r w hz hr)
  clear hz hr
  by_cases e : nx = 0
  · subst e
    clear h
    go_enter Tryz.func116, Tryz.ntmps116
    go_wp2_with fail
    refine H.out.mono ?_
    rintro e w' ⟨v', ob, rfl, h⟩
    go_wp2_with fail
    go_ret
    exact ⟨v', ob, rfl, h⟩
  · obtain rfl : y = 0 := h.resolve_left e
    have e0 : ((nx : Int) == 0) = false := by simp; omega
    go_enter Tryz.func116, Tryz.ntmps116
    go_wp2_with fail
    refine H.out.mono ?_
    rintro e w' ⟨v', ob, rfl, h⟩
    go_wp2_with fail
    go_ret
    exact ⟨v', ob, rfl, h⟩

set_option maxHeartbeats 1000000 in
theorem mulAddWW_any (z x : Value) (oz ox : Option Nat) (m y r : Nat) (w : World) (hz : Sto w z oz) (hx : NatV w x ox m) (hm : m < W64 ^ 100) (hy : y < W64) (hr : r < W64) :
    Calls Tryz.prog 116 #[z, x, .int .u64 (y : Int), .int .u64 (r : Int)] w (NatEnd w oz (m * y + r)) := by
  rcases hx.split with ⟨rfl, ax, cx, rfl⟩ | ⟨bx, lx, nx, rfl, Hx⟩
  · rw [Nat.zero_mul, Nat.zero_add]
    exact mulAddWW_zero z oz ax 0 cx y r w hz (Or.inl rfl) hr
  · by_cases h0 : y = 0
    · subst h0
      rw [Nat.mul_zero, Nat.zero_add, Hx.val]
      exact mulAddWW_zero z oz _ nx _ 0 r w hz (Or.inr rfl) hr
    · have p1 := Hx.pos
      have p2 := Hx.len_le hm
      have p3 := Hx.le
      have H := make_any z oz (nx + 1) w hz (by omega) (by omega)
      rw [show ((nx + 1 : Nat) : Int) = (nx : Int) + 1 by omega] at H
      replace H := Lib.hid H
      have e0 : ((nx : Int) == 0) = false := by simp; omega
      have e1 : ((y : Int) == 0) = false := by simp; omega
      have vx := Lib.hid Hx.eq
      have bx0 := Lib.hid Hx.blk
      obtain rfl := Hx.val
      replace hy := Lib.hid hy
      replace hr := Lib.hid hr
      clear hz hx Hx hm
      go_enter Tryz.func116, Tryz.ntmps116
      go_wp2_with fail
      refine H.out.mono ?_
      rintro e w' ⟨b, l, rfl, hb, hl, hc, hf, ho, hcap⟩
      have hcp : nx + 1 ≤ l.length := hl
      have bx1 := bx0.out.frame hf (fun f => f)
      have H2 := mulAddVWW_any b 0 nx l.length bx 0 lx.length y r l lx w' hb bx1 (by omega) (by omega) (fun _ => rfl) hy.out hr.out (by omega)
      replace H2 := Lib.hid H2
      replace hb := Lib.hid hb
      replace hf := Lib.hid hf
      replace ho := Lib.hid ho
      clear hcap H bx1
      go_wp2_with fail
      refine H2.out.mono ?_
      rintro e w2 ⟨c, l2, rfl, hv2, hc2, hs2⟩
      have r6 := hv2.blk.free nx
      have r7 := hv2.blk.cell nx (by rw [hv2.len]; omega)
      have F := norm_cap b (nx + 1) l.length (l2.set nx c) (w2.setCell ⟨b, nx, none⟩ (.int .u64 (c : Int))) (hv2.blk.set nx c hc2) (by simp [hv2.len]) hcp (by omega) hc
      have fr2 : Fr (fun k => oz = some k) w (w2.setCell ⟨b, nx, none⟩ (.int .u64 (c : Int))) := make_fr hf.out ho.out (hv2.fr.trans (Fr.setCell (S := fun k => k = b) _ _ _ (fun _ => rfl)) (fun _ _ => id))
      have ev : vl (l2.set nx c) 0 (nx + 1) = m * y + r := by
        rw [vl_snoc, Nat.zero_add, gd_set _ _ _ _ (by rw [hv2.len]; omega), if_pos rfl, vl_congr (m := l2) (p := 0) (fun i hi => by rw [gd_set _ _ _ _ (by rw [hv2.len]; omega), if_neg (by omega)])]
        rw [← vx.out, ← hs2, Nat.mul_comm c]
      rw [ev] at F
      replace F := Lib.hid F
      replace fr2 := Lib.hid fr2
      clear hv2 hc2 hs2 H2 ev
      go_wp2_with fail
      refine F.out.mono ?_
      rintro e w4 ⟨v, rfl, h4, rfl⟩
      replace h4 := Lib.hid h4
      go_wp2_with fail
      go_ret
      exact ⟨v, some b, rfl, h4.out, fr2.out, make_new ho.out⟩
end Go.Proofs.YtcpjclakdpjjfaaGreatDoor

namespace Go.Proofs.YtcpjclakdpjjfaaGreatDoor
open Go.RowKit

/-- The package's laid bounds. -/
structure Gk (w : World) : Prop where
  g6 : w.cell? ⟨6, 0, none⟩ = some (.int .i64 12)
  g7 : w.cell? ⟨7, 0, none⟩ = some (.int .i64 80)
  g8 : w.cell? ⟨8, 0, none⟩ = some (.int .i64 40)
  g13 : w.cell? ⟨13, 0, none⟩ = some (.int .i64 40)
  g16 : w.cell? ⟨16, 0, none⟩ = some (.int .i64 8)

theorem cell_frame {S : Nat → Prop} {w w' : World} {a : Addr} {v : Value} (h : w.cell? a = some v) (f : Fr S w w') (hn : ¬ S a.block) : w'.cell? a = some v := by
  rw [f.cell (World.block_lt_of_cell? w a h) hn]; exact h

theorem Gk.frame {S : Nat → Prop} {w w' : World} (h : Gk w) (f : Fr S w w') (hn : ∀ k, S k → 17 ≤ k) : Gk w' :=
  ⟨cell_frame h.g6 f (fun s => by have := hn _ s; simp at this), cell_frame h.g7 f (fun s => by have := hn _ s; simp at this), cell_frame h.g8 f (fun s => by have := hn _ s; simp at this), cell_frame h.g13 f (fun s => by have := hn _ s; simp at this), cell_frame h.g16 f (fun s => by have := hn _ s; simp at this)⟩

set_option maxHeartbeats 1000000 in
set_option maxRecDepth 100000 in
theorem mul_zero (z s : Value) (oz : Option Nat) (ax ay : Option Addr) (nx ny cx cy : Nat) (w : World) (hz : Sto w z oz) (h : ny = 0) :
    Calls Tryz.prog 90 #[z, s, .slice ax nx cx, .slice ay ny cy] w (NatEnd w oz 0) := by
  subst h
  have hc := Lib.hid hz.cut
  obtain ⟨va, vn, vc, hv⟩ : ∃ va vn vc, z = .slice va vn vc := by
    cases oz with
    | none => exact ⟨_, _, _, hz⟩
    | some b => obtain ⟨l, len, rfl, _⟩ := hz; exact ⟨_, _, _, rfl⟩
  subst hv
  clear hz
  have arm : ∀ nx : Nat, ¬ nx < 0 → (nx = 0 ∨ ((nx : Int) == 0) = false) → Calls Tryz.prog 90 #[.slice va vn vc, s, .slice ax nx cx, .slice ay 0 cy] w (NatEnd w oz 0) := by
    intro nx h1 h2
    rcases h2 with rfl | h2
    · cases va with
      | none =>
        go_enter_defers Tryz.func90, Tryz.ntmps90
        go_wp2_with fail
        refine ⟨_, results_tmp rfl _ _ _, ?_⟩
        exact ⟨_, oz, rfl, hc.out, Fr.refl _ _, Or.inl rfl⟩
      | some a =>
        go_enter_defers Tryz.func90, Tryz.ntmps90
        go_wp2_with fail
        refine ⟨_, results_tmp rfl _ _ _, ?_⟩
        exact ⟨_, oz, rfl, hc.out, Fr.refl _ _, Or.inl rfl⟩
    · have e1 : ¬ (nx : Int) < 0 := by omega
      cases va with
      | none =>
        go_enter_defers Tryz.func90, Tryz.ntmps90
        go_wp2_with fail
        refine ⟨_, results_tmp rfl _ _ _, ?_⟩
        exact ⟨_, oz, rfl, hc.out, Fr.refl _ _, Or.inl rfl⟩
      | some a =>
        go_enter_defers Tryz.func90, Tryz.ntmps90
        go_wp2_with fail
        refine ⟨_, results_tmp rfl _ _ _, ?_⟩
        exact ⟨_, oz, rfl, hc.out, Fr.refl _ _, Or.inl rfl⟩
  refine arm nx (Nat.not_lt_zero _) ?_
  by_cases e : nx = 0
  · exact Or.inl e
  · exact Or.inr (by simp; omega)

set_option maxHeartbeats 1000000 in
set_option maxRecDepth 100000 in
theorem mul_swap (z s : Value) (ax ay : Option Addr) (lx ly cx cy : Nat) (w : World) (h : lx < ly) (R : Ending → World → Prop)
    (H : Calls Tryz.prog 90 #[z, s, .slice ay ly cy, .slice ax lx cx] w R) (hR : ∀ e w', R e w' → ∃ v, e = .returned v) :
    Calls Tryz.prog 90 #[z, s, .slice ax lx cx, .slice ay ly cy] w R := by
  replace H := Lib.hid H
  replace hR := Lib.hid hR
  have e1 : (lx : Int) < ly := by omega
  go_enter_defers Tryz.func90, Tryz.ntmps90
  go_wp2_with fail
  refine H.out.mono ?_
  intro e w4 h4
  obtain ⟨v, rfl⟩ := hR.out e w4 h4
  replace h4 := Lib.hid h4
  go_wp2_with fail
  refine ⟨_, results_tmp rfl _ _ _, ?_⟩
  exact h4.out

set_option maxHeartbeats 1000000 in
set_option maxRecDepth 100000 in
theorem mul_one (z s x y : Value) (oz : Option Nat) (bx by_ m n nx : Nat) (lx ly : List Nat) (w : World) (hz : Sto w z oz) (hx : Wds w x bx lx nx m) (hy : Wds w y by_ ly 1 n) (hm : m < W64 ^ 100) :
    Calls Tryz.prog 90 #[z, s, x, y] w (NatEnd w oz (m * n)) := by
  have r1 : w.cell? ⟨by_, 0, none⟩ = some (.int .u64 ((gd ly 0 : Nat) : Int)) := hy.blk.cell 0 hy.le
  have hn : n = gd ly 0 := by rw [← hy.eq]; show gd ly 0 + W64 * 0 = _; omega
  have H := mulAddWW_any z x oz (some bx) m n 0 w hz hx.natv hm (by rw [hn]; exact gd_lt hy.blk.ok 0) W64_pos
  rw [← hn] at r1
  rw [Nat.add_zero] at H
  replace H := Lib.hid H
  have p1 := hx.pos
  have e0 : ((nx : Int) == 0) = false := by simp; omega
  have e1 : ¬ (nx : Int) < 1 := by omega
  obtain rfl := hx.val
  obtain rfl := hy.val
  clear hn hz hx hy hm
  go_enter_defers Tryz.func90, Tryz.ntmps90
  go_wp2_with fail
  refine H.out.mono ?_
  rintro e w4 ⟨v, ob, rfl, h4⟩
  go_wp2_with fail
  refine ⟨_, results_tmp rfl _ _ _, ?_⟩
  exact ⟨v, ob, rfl, h4⟩

/-- The storage that mul and sqr go on with. -/
def keepSto (b : Bool) (oz : Option Nat) : Option Nat := if b then none else oz
theorem Sto.keep {w : World} {z : Value} {oz : Option Nat} (h : Sto w z oz) (b : Bool) : Sto w (if b then .slice none 0 0 else z) (keepSto b oz) := by
  cases b with
  | true => exact rfl
  | false => exact h
theorem aliasB_ne {oz : Option Nat} {b : Nat} (h : aliasB oz (some b) = false) {c : Nat} (hc : oz = some c) : c ≠ b := by
  subst hc; exact of_decide_eq_false h

/-- Behind the choice of the storage: the product is laid there. -/
structure MulRest (w : World) (oz : Option Nat) (p : Nat) (z' : Value) (w1 : World) (k : Option Nat) : Prop where
  dr : Dr w w1
  sto : Sto w1 z' k
  ok : k = none ∨ k = oz

set_option maxHeartbeats 4000000 in
set_option maxRecDepth 100000 in
theorem mul_main (z s x y : Value) (oz : Option Nat) (bx by_ m n nx ny : Nat) (lx ly : List Nat) (w : World) (hz : Sto w z oz) (hx : Wds w x bx lx nx m) (hy : Wds w y by_ ly ny n)
    (hle : ny ≤ nx) (h2 : 2 ≤ ny) (h1 : nx ≤ 30) (hg : Gk w) : Calls Tryz.prog 90 #[z, s, x, y] w (NatEnd w oz (m * n)) := by
  have q1 := hx.le
  have q2 := hy.le
  have r1 : ¬ (nx : Int) < ny := by omega
  have r2 : ((nx : Int) == 0) = false := by simp; omega
  have r3 : ((ny : Int) == 0) = false := by simp; omega
  have r4 : ((ny : Int) == 1) = false := by simp; omega
  have r5 : (ny : Int) < 40 := by omega
  have vx := Lib.hid hx.eq
  have vy := Lib.hid hy.eq
  have bx0 := Lib.hid hx.blk
  have by0 := Lib.hid hy.blk
  have hg8 := Lib.hid hg.g8
  have A1 := Lib.hid (alias_any z x oz (some bx) w hz hx.natv.sto)
  have A2 : Hid (∀ w1, Dr w w1 → Calls Tryz.prog 84 #[z, y] w1 fun e w' => e = .returned (.bool (aliasB oz (some by_))) ∧ Dr w1 w') := fun w1 ⟨k, hk⟩ => by
    subst hk
    exact alias_any z y oz (some by_) _ (hz.frame (Fr.drewN (fun _ => False) w k) (fun _ _ f => f)) (hy.natv.sto.frame (Fr.drewN (fun _ => False) w k) (fun _ _ f => f))
  obtain rfl := hx.val
  obtain rfl := hy.val
  have hzs := Lib.hid hz
  clear hz hx hy hg
  -- what stands behind the choice
  have rest : ∀ (z' : Value) (k : Option Nat) (w1 : World), Dr w w1 → Sto w1 z' k → (k = none ∨ k = oz) → (∀ c, k = some c → c ≠ bx ∧ c ≠ by_) →
      Calls Tryz.prog 86 #[z', .int .i64 ((nx : Int) + (ny : Int))] w1 fun e w2 => ∃ (b : Nat) (l : List Nat), e = .returned (.slice (some ⟨b, 0, none⟩) (nx + ny) l.length) ∧ nx + ny ≤ l.length ∧ l.length ≤ 1000 ∧
        w2.cell? ⟨8, 0, none⟩ = some (.int .i64 40) ∧
        Hid (Calls Tryz.prog 111 #[.slice (some ⟨b, 0, none⟩) (nx + ny) l.length, .slice (some ⟨bx, 0, none⟩) nx lx.length, .slice (some ⟨by_, 0, none⟩) ny ly.length] w2 fun e w3 => e = .returned (.tuple #[]) ∧
          Hid (Calls Tryz.prog 88 #[.slice (some ⟨b, 0, none⟩) (nx + ny) l.length] w3 (NatEnd w oz (m * n)))) := by
    rintro z' k w1 ⟨d, rfl⟩ hs hk hne
    have H := make_any z' k (nx + ny) (w.drewN d) hs (by omega) (by omega)
    rw [show ((nx + ny : Nat) : Int) = (nx : Int) + (ny : Int) by omega] at H
    refine H.mono ?_
    rintro e w2 ⟨b, l, rfl, hb, hl, hc, hf, ho, _⟩
    have f0 : Fr (fun _ => False) w w2 := (Fr.drewN _ w d).trans hf (fun _ _ f => f)
    have ho' : oz = some b ∨ w.heap.size ≤ b := by
      rcases ho with ho | ho
      · rcases hk with hk | hk
        · rw [hk] at ho; cases ho
        · exact Or.inl (hk ▸ ho)
      · exact Or.inr ho
    have nbx : bx ≠ b := by
      rcases ho with ho | ho
      · exact fun e => (hne b ho).1 e.symm
      · have := bx0.out.lt
        have e : (w.drewN d).heap.size = w.heap.size := rfl
        omega
    have nby : by_ ≠ b := by
      rcases ho with ho | ho
      · exact fun e => (hne b ho).2 e.symm
      · have := by0.out.lt
        have e : (w.drewN d).heap.size = w.heap.size := rfl
        omega
    refine ⟨b, l, rfl, hl, hc, cell_frame hg8.out f0 (fun f => f), ?_⟩
    refine (basicMul_any b bx by_ nx ny lx.length ly.length l lx ly w2 hb (bx0.out.frame f0 (fun f => f)) (by0.out.frame f0 (fun f => f)) nbx nby q1 q2 hl (by omega) (by omega) rfl rfl).mono ?_
    rintro e w3 ⟨l', rfl, hv, hp⟩
    refine ⟨rfl, ?_⟩
    refine (norm_cap b (nx + ny) l.length l' w3 hv.blk hv.len hl (by omega) hc).mono ?_
    rintro e w4 ⟨v, rfl, hn, rfl⟩
    rw [hp, vx.out, vy.out] at hn
    exact ⟨v, some b, rfl, hn, make_fr f0 ho' hv.fr, make_new ho'⟩
  replace rest := Lib.hid rest
  go_enter_defers Tryz.func90, Tryz.ntmps90
  go_wp2_with fail
  refine A1.out.mono ?_
  rintro e w1 ⟨rfl, hd1⟩
  cases ha : aliasB oz (some bx) with
  | true =>
    have R := Lib.hid (rest.out (.slice none 0 0) none w1 hd1 rfl (Or.inl rfl) (fun c hc => by cases hc))
    go_wp2_with fail
    refine R.out.mono ?_
    rintro e w2 ⟨b, l, rfl, hl, hc, g8, H⟩
    go_wp2_with fail
    refine H.out.mono ?_
    rintro e w3 ⟨rfl, H3⟩
    go_wp2_with fail
    refine H3.out.mono ?_
    rintro e w4 ⟨v, ob, rfl, h4⟩
    replace h4 := Lib.hid h4
    go_wp2_with fail
    refine ⟨_, results_tmp rfl _ _ _, ?_⟩
    exact ⟨v, ob, rfl, h4.out⟩
  | false =>
    have A2' := Lib.hid (A2.out w1 hd1)
    replace hd1 := Lib.hid hd1
    go_wp2_with fail
    refine A2'.out.mono ?_
    rintro e w2 ⟨rfl, hd2⟩
    have hd : Dr w w2 := hd1.out.trans hd2
    cases hb : aliasB oz (some by_) with
    | true =>
      have R := Lib.hid (rest.out (.slice none 0 0) none w2 hd rfl (Or.inl rfl) (fun c hc => by cases hc))
      go_wp2_with fail
      refine R.out.mono ?_
      rintro e w2 ⟨b, l, rfl, hl, hc, g8, H⟩
      go_wp2_with fail
      refine H.out.mono ?_
      rintro e w3 ⟨rfl, H3⟩
      go_wp2_with fail
      refine H3.out.mono ?_
      rintro e w4 ⟨v, ob, rfl, h4⟩
      replace h4 := Lib.hid h4
      go_wp2_with fail
      refine ⟨_, results_tmp rfl _ _ _, ?_⟩
      exact ⟨v, ob, rfl, h4.out⟩
    | false =>
      have hs2 : Sto w2 z oz := by
        obtain ⟨k, rfl⟩ := hd
        exact hzs.out.frame (Fr.drewN (fun _ => False) w k) (fun _ _ f => f)
      have R := Lib.hid (rest.out z oz w2 hd hs2 (Or.inr rfl) (fun c hc => ⟨aliasB_ne ha hc, aliasB_ne hb hc⟩))
      go_wp2_with fail
      refine R.out.mono ?_
      rintro e w2 ⟨b, l, rfl, hl, hc, g8, H⟩
      go_wp2_with fail
      refine H.out.mono ?_
      rintro e w3 ⟨rfl, H3⟩
      go_wp2_with fail
      refine H3.out.mono ?_
      rintro e w4 ⟨v, ob, rfl, h4⟩
      replace h4 := Lib.hid h4
      go_wp2_with fail
      refine ⟨_, results_tmp rfl _ _ _, ?_⟩
      exact ⟨v, ob, rfl, h4.out⟩

theorem mul_any (z s x y : Value) (oz ox oy : Option Nat) (m n : Nat) (w : World) (hz : Sto w z oz) (hx : NatV w x ox m) (hy : NatV w y oy n) (hm : m < W64 ^ 30) (hn : n < W64 ^ 30) (hg : Gk w) :
    Calls Tryz.prog 90 #[z, s, x, y] w (NatEnd w oz (m * n)) := by
  have up : ∀ {k : Nat}, k < W64 ^ 30 → k < W64 ^ 100 := fun h => Nat.lt_of_lt_of_le h (Nat.pow_le_pow_right W64_pos (by omega))
  have ends : ∀ {p : Nat} e w', NatEnd w oz p e w' → ∃ v, e = .returned v := fun e w' ⟨v, _, h, _⟩ => ⟨v, h⟩
  rcases hy.split with ⟨rfl, ay, cy, ey⟩ | ⟨by_, ly, ny, rfl, Hy⟩
  · obtain ⟨ax, nx, cx, ex⟩ : ∃ ax nx cx, x = .slice ax nx cx := by
      rcases hx.split with ⟨_, ax, cx, ex⟩ | ⟨bx, lx, nx, _, Hx⟩
      · exact ⟨_, _, _, ex⟩
      · exact ⟨_, _, _, Hx.val⟩
    rw [ex, ey, Nat.mul_zero]
    exact mul_zero z s oz ax ay nx 0 cx cy w hz rfl
  · rcases hx.split with ⟨rfl, ax, cx, ex⟩ | ⟨bx, lx, nx, rfl, Hx⟩
    · rw [ex, Hy.val, Nat.zero_mul]
      exact mul_swap z s ax _ 0 ny cx _ w Hy.pos _ (mul_zero z s oz _ ax ny 0 _ cx w hz rfl) ends
    · have px := Hx.pos
      have py := Hy.pos
      have kx := Hx.len_le hm
      have ky := Hy.len_le hn
      have go1 : ∀ (x y : Value) (bx by_ m n nx ny : Nat) (lx ly : List Nat), Wds w x bx lx nx m → Wds w y by_ ly ny n → ny ≤ nx → nx ≤ 30 → m < W64 ^ 30 → Calls Tryz.prog 90 #[z, s, x, y] w (NatEnd w oz (m * n)) := by
        intro x y bx by_ m n nx ny lx ly Hx Hy hle h30 hm
        by_cases h : ny = 1
        · subst h
          exact mul_one z s x y oz bx by_ m n nx lx ly w hz Hx Hy (up hm)
        · have := Hy.pos
          exact mul_main z s x y oz bx by_ m n nx ny lx ly w hz Hx Hy hle (by omega) h30 hg
      by_cases h : ny ≤ nx
      · exact go1 x y bx by_ m n nx ny lx ly Hx Hy h kx hm
      · have H := go1 y x by_ bx n m ny nx ly lx Hy Hx (by omega) ky hn
        rw [Nat.mul_comm n m] at H
        rw [Hx.val, Hy.val] at H ⊢
        exact mul_swap z s _ _ nx ny _ _ w (by omega) _ H ends
end Go.Proofs.YtcpjclakdpjjfaaGreatDoor


/-
  A part of the proof of FnQuantityAgain (texts Vw, Dv, N1 of mine, joined).
-/
import Derived.Test.YtcpjclakdpjjfaaGreatDoorM04
import Derived.StillTailTactics
import Derived.Test.YtcpjclakdpjjfaaGreatDoorM03
namespace Go.Proofs.YtcpjclakdpjjfaaGreatDoor
open Go.RowKit

theorem info121 : (Tryz.prog.info? 121).map (·.size) = some 1 := by kernel_rfl

def VwEnd (w : World) (b o n : Nat) (l lx : List Nat) (ox c : Nat) (e : Ending) (w' : World) : Prop :=
  ∃ c' l', e = .returned (.int .u64 ((c' : Nat) : Int)) ∧ Vec w w' b o n l l' ∧ c' ≤ 1 ∧ vl l' o n + c' * W64 ^ n = vl lx ox n + c

theorem full_pow (m : Nat) : W64 ^ m * (W64 - 1) + W64 ^ m = W64 ^ (m + 1) := by
  rw [Nat.pow_succ, ← Nat.mul_succ]
  have : (W64 - 1).succ = W64 := by unfold W64; rfl
  rw [this]

/-- A carry that is taken up by word k: the words below are all full. -/
theorem vw_val {l l' : List Nat} {o p n k c : Nat} (hk : k < n) (h0 : ∀ j, j < k → gd l (o + j) = W64 - 1 ∧ gd l' (p + j) = 0) (hc : k = 0 ∨ c = 1) (h1 : gd l' (p + k) = gd l (o + k) + c)
    (h2 : ∀ j, k < j → j < n → gd l' (p + j) = gd l (o + j)) : vl l' p n = vl l o n + c := by
  have low : vl l' p k + (if k = 0 then 0 else W64 ^ k) = vl l o k + (if k = 0 then 0 else 1) := by
    clear h1 h2 hk hc
    induction k with
    | zero => rfl
    | succ k ih =>
      obtain ⟨a, b⟩ := h0 k (by omega)
      have ih := ih (fun j hj => h0 j (by omega))
      rw [vl_snoc, vl_snoc, a, b, if_neg (by omega), if_neg (by omega), Nat.pow_succ]
      have e := full_pow k
      rw [Nat.pow_succ] at e
      by_cases hk : k = 0
      · subst hk
        simp only [if_true] at ih
        rw [Nat.pow_zero] at *
        omega
      · rw [if_neg hk, if_neg hk] at ih
        omega
  obtain ⟨m, rfl⟩ : ∃ m, n = k + 1 + m := ⟨n - (k + 1), by omega⟩
  rw [vl_add l' p (k + 1), vl_add l o (k + 1), vl_snoc, vl_snoc, h1, vl_congr (l := l') (m := l) (o := p + (k + 1)) (p := o + (k + 1)) (n := m) (fun i hi => by
    rw [show p + (k + 1) + i = p + (k + 1 + i) by omega, show o + (k + 1) + i = o + (k + 1 + i) by omega]; exact h2 _ (by omega) (by omega)), Nat.mul_add]
  by_cases hk0 : k = 0
  · subst hk0
    simp only [if_true] at low
    rw [Nat.pow_zero] at *
    omega
  · rw [if_neg hk0, if_neg hk0] at low
    obtain rfl : c = 1 := by omega
    rw [Nat.mul_one]
    omega

theorem vw_full {l l' : List Nat} {o p n : Nat} (h1 : 1 ≤ n) (h0 : ∀ j, j < n → gd l (o + j) = W64 - 1 ∧ gd l' (p + j) = 0) : vl l' p n + 1 * W64 ^ n = vl l o n + 1 := by
  obtain ⟨k, rfl⟩ : ∃ k, n = k + 1 := ⟨n - 1, by omega⟩
  obtain ⟨a, b⟩ := h0 k (by omega)
  have hz : vl l' p (k + 1) = 0 := by
    have : ∀ m, m ≤ k + 1 → vl l' p m = 0 := by
      intro m
      induction m with
      | zero => intro _; rfl
      | succ m ih => intro hm; rw [vl_snoc, ih (by omega), (h0 m (by omega)).2]; omega
    exact this _ (Nat.le_refl _)
  have hf : ∀ m, m ≤ k + 1 → vl l o m + 1 = W64 ^ m := by
    intro m
    induction m with
    | zero => intro _; rfl
    | succ m ih =>
      intro hm
      have := ih (by omega)
      rw [vl_snoc, (h0 m (by omega)).1, Nat.pow_succ]
      have e := full_pow m
      rw [Nat.pow_succ] at e
      omega
  rw [hz, hf (k + 1) (Nat.le_refl _)]; omega

set_option maxHeartbeats 2000000 in
set_option maxRecDepth 100000 in
theorem addVW_A (bz oz n cz bx ox cx c : Nat) (lz lx : List Nat) (w : World) (hz : Blk w bz lz) (hx : Blk w bx lx)
    (kz : oz + n ≤ lz.length) (kx : ox + n ≤ lx.length) (ax : bx = bz → ox = oz) (hn : n ≤ 1000000) (h1 : 1 ≤ n) (hcz : n < cz) (hcx : n ≤ cx) (hov : gd lx ox + c < W64) :
    Calls Tryz.prog 125 #[.slice (some ⟨bz, oz, none⟩) n cz, .slice (some ⟨bx, ox, none⟩) n cx, .int .u64 (c : Int)] w (VwEnd w bz oz n lz lx ox c) := by
  have HX := Lib.hid ax
  clear ax
  have e1 : ((n : Int) == 0) = false := by simp; omega
  have e2 : 0 < n := by omega
  have r0 : w.cell? ⟨bx, ox, none⟩ = some (.int .u64 ((gd lx ox : Nat) : Int)) := hx.cell _ (by omega)
  have r3 := hz.free oz
  have r4 := hz.cell oz (by omega)
  have hA : addLo (gd lx ox) c 0 = gd lx ox + c := by unfold addLo; rw [Nat.add_zero, Nat.mod_eq_of_lt hov]
  have hB : addHi (gd lx ox) c 0 = 0 := by unfold addHi; rw [Nat.add_zero, Nat.div_eq_of_lt hov]
  have H := bits_Add (gd lx ox) c 0 w (by omega)
  rw [hA, hB] at H
  replace H := Lib.hid H
  obtain ⟨z0, hz0⟩ : ∃ z0 : Nat, z0 = gd lx ox + c := ⟨_, rfl⟩
  rw [← hz0] at H hov
  have hV := (Vec.refl hz (o := oz)).push hov (by omega)
  simp only [Nat.add_zero, Nat.zero_add] at hV
  replace hV := Lib.hid hV
  replace hz0 := Lib.hid hz0
  replace hov := Lib.hid hov
  clear hA hB
  by_cases hb : bx = bz
  · subst hb
    have hxz := hx.same hz
    subst hxz
    obtain rfl := HX.out rfl
    have P1 := fun w => ptr_neq_same (P := Tryz.prog) ⟨bx, ox, none⟩ w Tryz.underlying208 info121
    go_enter Tryz.func125, Tryz.ntmps125
    go_wp2_with fail
    refine H.out.mono ?_
    rintro e w' ⟨rfl, rfl⟩
    go_wp2_with fail
    go_quiet (fail)
    go_wp2_with fail
    go_ret
    refine ⟨0, lx.set ox z0, rfl, ?_, by omega, ?_⟩
    · have := hV.out.drewN nq
      refine ⟨this.blk, this.len, ?_, this.fr⟩
      intro i hi
      exact this.out i (by omega)
    · rw [Nat.zero_mul, Nat.add_zero]
      refine vw_val (k := 0) (by omega) (fun j hj => by omega) (Or.inl rfl) ?_ ?_
      · rw [Nat.add_zero, gd_set _ _ _ _ (by omega), if_pos rfl, hz0.out]
      · intro j h1 h2
        rw [gd_set _ _ _ _ (by omega), if_neg (by omega)]
  · have P2 : ∀ k, (binOp .neq 208 (.pointer (some ⟨bz, oz, none⟩)) (.pointer (some ⟨bx, ox, none⟩))).run Tryz.prog ((w.setCell ⟨bz, oz, none⟩ (.int .u64 (z0 : Int))).drewN k) = .ok (.bool true) ((w.setCell ⟨bz, oz, none⟩ (.int .u64 (z0 : Int))).drewN k) := fun k =>
      ptr_neq_other _ Tryz.underlying208 info121 (by intro e; exact hb (congrArg Addr.block e).symm) ((hz.plain.setCell _ _).drewN k) ((hx.plain.setCell _ _).drewN k)
    have hVo := hV.out
    have hxo : Blk (w.setCell ⟨bz, oz, none⟩ (.int .u64 (z0 : Int))) bx lx := hx.setOther _ hb
    replace hVo := Lib.hid hVo
    replace hxo := Lib.hid hxo
    go_enter Tryz.func125, Tryz.ntmps125
    go_wp2_with fail
    refine H.out.mono ?_
    rintro e w' ⟨rfl, rfl⟩
    go_wp2_with fail
    go_quiet (fail)
    clear P2
    go_wp2_with fail
    have fin : ∀ W' l', Vec ((w.setCell ⟨bz, oz, none⟩ (.int .u64 (z0 : Int))).drewN (nq + 1)) W' bz (oz + 1) (n - 1) (lz.set oz z0) l' → (∀ j, j < n - 1 → gd l' (oz + 1 + j) = gd lx (ox + 1 + j)) →
        VwEnd w bz oz n lz lx ox c (.returned (.int .u64 0)) W' := by
      intro W' l' hw hl
      refine ⟨0, l', rfl, ⟨hw.blk, ?_, ?_, ?_⟩, by omega, ?_⟩
      · rw [hw.len]; simp
      · intro i hi
        rw [hw.out i (by omega), gd_set _ _ _ _ (by omega), if_neg (by omega)]
      · exact (hVo.out.drewN (nq + 1)).fr.trans hw.fr (fun _ _ => id)
      · rw [Nat.zero_mul, Nat.add_zero]
        refine vw_val (k := 0) (by omega) (fun j hj => by omega) (Or.inl rfl) ?_ ?_
        · rw [Nat.add_zero, Nat.add_zero, hw.out _ (by omega), gd_set _ _ _ _ (by omega), if_pos rfl, hz0.out]
        · intro j h1 h2
          have := hl (j - 1) (by omega)
          rw [show oz + 1 + (j - 1) = oz + j by omega, show ox + 1 + (j - 1) = ox + j by omega] at this
          exact this
    replace fin := Lib.hid fin
    by_cases hc1 : cx = 1
    · obtain rfl : n = 1 := by omega
      subst hc1
      have q1 : ¬ cz = 1 := by omega
      have q3 : (1 : Int) ≤ (cz : Int) := by omega
      go_still_tail 4, (by kernel_rfl)
      change wpList _ _ _ _ _ ((w.setCell ⟨bz, oz, none⟩ (.int .u64 (z0 : Int))).drewN (nq + 1))
      refine wpList_copy_w rfl (.tmp 40) (.tmp 42) 67 67 rfl Tryz.underlying67 bz (oz + 1) 0 (cz - 1) bx ox 0 0 rfl rfl (lz.set oz z0) lx (hVo.out.blk.drewN _) (hxo.out.drewN _) 0 rfl (by simp; omega) (by omega) ?_
      intro W' l' hw hl
      replace fin := Lib.hid (fin.out W' l' hw (fun j hj => by omega))
      clear hw hl
      go_wp2
      go_ret
      exact fin.out
    · have q1 : ¬ cz = 1 := by omega
      have q2 : (1 : Int) ≤ (n : Int) := by omega
      have q3 : (1 : Int) ≤ (cz : Int) := by omega
      have q4 : (1 : Int) ≤ (cx : Int) := by omega
      go_still_tail 4, (by kernel_rfl)
      change wpList _ _ _ _ _ ((w.setCell ⟨bz, oz, none⟩ (.int .u64 (z0 : Int))).drewN (nq + 1))
      refine wpList_copy_w rfl (.tmp 40) (.tmp 42) 67 67 rfl Tryz.underlying67 bz (oz + 1) (n - 1) (cz - 1) bx (ox + 1) (n - 1) (cx - 1) rfl rfl (lz.set oz z0) lx (hVo.out.blk.drewN _) (hxo.out.drewN _) (n - 1) (by simp) (by simp; omega) (by omega) ?_
      intro W' l' hw hl
      replace fin := Lib.hid (fin.out W' l' hw hl)
      clear hw hl
      go_wp2
      go_ret
      exact fin.out
set_option maxHeartbeats 4000000 in
set_option maxRecDepth 100000 in
theorem addVW_B (bz oz n cz bx ox cx : Nat) (lz lx : List Nat) (w : World) (hz : Blk w bz lz) (hx : Blk w bx lx)
    (kz : oz + n ≤ lz.length) (kx : ox + n ≤ lx.length) (ax : bx = bz → ox = oz) (hn : n ≤ 1000000) (h1 : 1 ≤ n) (hcz : n < cz) (hcx : n ≤ cx) (hov : gd lx ox = W64 - 1) :
    Calls Tryz.prog 125 #[.slice (some ⟨bz, oz, none⟩) n cz, .slice (some ⟨bx, ox, none⟩) n cx, .int .u64 1] w (VwEnd w bz oz n lz lx ox 1) := by
  have HX := Lib.hid ax
  clear ax
  have e1 : ((n : Int) == 0) = false := by simp; omega
  have e2 : 0 < n := by omega
  have r0 : w.cell? ⟨bx, ox, none⟩ = some (.int .u64 ((gd lx ox : Nat) : Int)) := hx.cell _ (by omega)
  have r3 := hz.free oz
  have r4 := hz.cell oz (by omega)
  have hA : addLo (gd lx ox) 1 0 = 0 := by rw [hov]; rfl
  have hB : addHi (gd lx ox) 1 0 = 1 := by rw [hov]; rfl
  have H := bits_Add (gd lx ox) 1 0 w (by omega)
  rw [hA, hB] at H
  replace H := Lib.hid H
  have hV := (Vec.refl hz (o := oz)).push W64_pos (by omega)
  simp only [Nat.add_zero, Nat.zero_add] at hV
  have hV0 : Hid (Vec w (w.setCell ⟨bz, oz, none⟩ (.int .u64 0)) bz oz 1 lz (lz.set oz 0) ∧ ∀ j, j < 1 → gd lx (ox + j) = W64 - 1 ∧ gd (lz.set oz 0) (oz + j) = 0) := by
    refine ⟨hV, fun j hj => ?_⟩
    obtain rfl : j = 0 := by omega
    exact ⟨hov, by rw [Nat.add_zero, gd_set _ _ _ _ (by omega), if_pos rfl]⟩
  clear hA hB hV hov
  go_enter Tryz.func125, Tryz.ntmps125
  go_wp2_with fail
  refine H.out.mono ?_
  rintro e w' ⟨rfl, rfl⟩
  go_wp2_with fail
  clear H r0 r3 r4
  go_loopw [9] (fun i wr => ∃ (k : Nat) (l' : List Nat), i = .int .i64 (k : Int) ∧ 1 ≤ k ∧ k ≤ n ∧ Hid (Vec w wr bz oz k lz l' ∧ ∀ j, j < k → gd lx (ox + j) = W64 - 1 ∧ gd l' (oz + j) = 0)) (fun i _ => n - (intOf i).toNat)
  case atStart => exact ⟨1, lz.set oz 0, rfl, Nat.le_refl _, h1, hV0⟩
  case round =>
    obtain ⟨k, l', rfl, hk1, hk, hrel⟩ := hrel
    obtain ⟨hv, hf⟩ := hrel.out
    by_cases hlt : k < n
    · have r1 := hv.read hx hz HX.out (by omega)
      have r3 := hv.blk.free (oz + k)
      have r4 := hv.blk.cell (oz + k) (by rw [hv.len]; omega)
      have bX := gd_lt hx.ok (ox + k)
      by_cases hX : gd lx (ox + k) = W64 - 1
      · have hv1 := hv.push W64_pos (by omega)
        have hv1 : Hid (Vec w (wr.setCell ⟨bz, oz + k, none⟩ (.int .u64 0)) bz oz (k + 1) lz (l'.set (oz + k) 0) ∧ ∀ j, j < k + 1 → gd lx (ox + j) = W64 - 1 ∧ gd (l'.set (oz + k) 0) (oz + j) = 0) := by
          refine ⟨hv1, fun j hj => ?_⟩
          have := hv.len
          rw [gd_set _ _ _ _ (by omega)]
          by_cases e : j = k
          · subst e; exact ⟨hX, if_pos rfl⟩
          · rw [if_neg (by omega)]; exact hf j (by omega)
        rw [hX] at r1
        have r1' : wr.cell? ⟨bx, ox + k, none⟩ = some (.int .u64 18446744073709551615) := r1
        clear hv hf r1 bX hX
        rename_i hv1o
        clear hv1o
        go_wp2_with fail
        go_roundw
        case rel => exact ⟨k + 1, _, by go_num, by omega, by omega, hv1⟩
        case measure => simp [intOf]; omega
      · obtain ⟨X, eX⟩ : ∃ X : Nat, X = gd lx (ox + k) := ⟨_, rfl⟩
        rw [← eX] at r1 hX bX
        have bX1 : X + 1 < W64 := by omega
        have hX' : ¬ ((X : Int) = 18446744073709551615) := by unfold W64 at hX; omega
        have F1 : IntKind.u64.wrap ((X : Int) + 1) = ((X + 1 : Nat) : Int) := by rw [show (X : Int) + 1 = ((X + 1 : Nat) : Int) by omega]; exact wrapu _ bX1
        obtain ⟨Y, hY⟩ : ∃ Y : Nat, Hid (Y = X + 1) := ⟨_, rfl⟩
        rw [← hY.out] at F1 bX1
        have hv1 := hv.push bX1 (by omega)
        have hlen := hv.len
        have hold := hv.out
        replace hv1 := Lib.hid hv1
        replace hlen := Lib.hid hlen
        replace hold := Lib.hid hold
        replace eX := Lib.hid eX
        have val : ∀ l'' : List Nat, l''.length = lz.length → (∀ j, j < k → gd l'' (oz + j) = 0) → gd l'' (oz + k) = Y → (∀ j, k < j → j < n → gd l'' (oz + j) = gd lx (ox + j)) → vl l'' oz n + 0 * W64 ^ n = vl lx ox n + 1 := by
          intro l'' _ g0 g1 g2
          rw [Nat.zero_mul, Nat.add_zero]
          exact vw_val hlt (fun j hj => ⟨(hf j hj).1, g0 j hj⟩) (Or.inr rfl) (by rw [g1, hY.out, eX.out]) g2
        have hf0 : ∀ j, j < k → gd l' (oz + j) = 0 := fun j hj => (hf j hj).2
        replace val := Lib.hid val
        replace hf0 := Lib.hid hf0
        have hz' := Lib.hid hz
        by_cases hb : bx = bz
        · subst hb
          have hxz := hx.same hz
          subst hxz
          obtain rfl := HX.out rfl
          have P1 := fun w => ptr_neq_same (P := Tryz.prog) ⟨bx, ox, none⟩ w Tryz.underlying208 info121
          clear hv hf hX bX bX1
          go_wp2_with fail
          go_quiet (fail)
          go_wp2_with fail
          go_ret
          have hv1 := hv1.out.drewN nq
          have hlen := hlen.out
          refine ⟨0, l'.set (ox + k) Y, rfl, ⟨hv1.blk, hv1.len, fun i hi => hv1.out i (by omega), hv1.fr⟩, by omega, ?_⟩
          refine val.out _ hv1.len ?_ ?_ ?_
          · intro j hj; rw [gd_set _ _ _ _ (by omega), if_neg (by omega)]; exact hf0.out j hj
          · rw [gd_set _ _ _ _ (by omega), if_pos rfl]
          · intro j h1 h2; rw [gd_set _ _ _ _ (by omega), if_neg (by omega)]; exact hold.out _ (by omega)
        · have P2 : ∀ m, (binOp .neq 208 (.pointer (some ⟨bz, oz, none⟩)) (.pointer (some ⟨bx, ox, none⟩))).run Tryz.prog ((wr.setCell ⟨bz, oz + k, none⟩ (.int .u64 (Y : Int))).drewN m) = .ok (.bool true) ((wr.setCell ⟨bz, oz + k, none⟩ (.int .u64 (Y : Int))).drewN m) := fun m =>
            ptr_neq_other _ Tryz.underlying208 info121 (by intro e; exact hb (congrArg Addr.block e).symm) ((hv.blk.plain.setCell _ _).drewN m) ((((hx.frame hv.fr hb).plain).setCell _ _).drewN m)
          have hxo : Blk (wr.setCell ⟨bz, oz + k, none⟩ (.int .u64 (Y : Int))) bx lx := (hx.frame hv.fr hb).setOther _ hb
          replace hxo := Lib.hid hxo
          clear hv hf hX bX bX1
          go_wp2_with fail
          go_quiet (fail)
          clear P2
          go_wp2_with fail
          have fin : ∀ W' l'', Vec ((wr.setCell ⟨bz, oz + k, none⟩ (.int .u64 (Y : Int))).drewN (nq + 1)) W' bz (oz + (k + 1)) (n - (k + 1)) (l'.set (oz + k) Y) l'' → (∀ j, j < n - (k + 1) → gd l'' (oz + (k + 1) + j) = gd lx (ox + (k + 1) + j)) →
              VwEnd w bz oz n lz lx ox 1 (.returned (.int .u64 0)) W' := by
            intro W' l'' hw hl
            have hv1 := hv1.out.drewN (nq + 1)
            have hlen := hlen.out
            have hset : (l'.set (oz + k) Y).length = l'.length := by simp
            refine ⟨0, l'', rfl, ⟨hw.blk, by rw [hw.len]; exact hv1.len, ?_, hv1.fr.trans hw.fr (fun _ _ => id)⟩, by omega, ?_⟩
            · intro i hi
              rw [hw.out i (by omega)]; exact hv1.out i (by omega)
            · refine val.out _ (by rw [hw.len]; exact hv1.len) ?_ ?_ ?_
              · intro j hj
                rw [hw.out _ (by omega), gd_set _ _ _ _ (by omega), if_neg (by omega)]; exact hf0.out j hj
              · rw [hw.out _ (by omega), gd_set _ _ _ _ (by omega), if_pos rfl]
              · intro j h1 h2
                have := hl (j - (k + 1)) (by omega)
                rw [show oz + (k + 1) + (j - (k + 1)) = oz + j by omega, show ox + (k + 1) + (j - (k + 1)) = ox + j by omega] at this
                exact this
          replace fin := Lib.hid fin
          have g1 : IntKind.i64.wrap ((k : Int) + 1) = (k : Int) + 1 := IntWalk.i64_in _ (by omega)
          have g2 : (0 : Int) ≤ (k : Int) + 1 := by omega
          have g3 : ((k : Int) + 1).toNat = k + 1 := by omega
          have g4 : (k : Int) + 1 ≤ (n : Int) := by omega
          have q1 : ¬ cz = k + 1 := by omega
          by_cases hc1 : cx = k + 1
          · obtain rfl : n = k + 1 := by omega
            subst hc1
            go_still_tail 8, (by kernel_rfl)
            change wpList _ _ _ _ _ ((wr.setCell ⟨bz, oz + k, none⟩ (.int .u64 (Y : Int))).drewN (nq + 1))
            refine wpList_copy_w rfl (.tmp 69) (.tmp 73) 67 67 rfl Tryz.underlying67 bz (oz + (k + 1)) 0 (cz - (k + 1)) bx ox 0 0 rfl rfl (l'.set (oz + k) Y) lx (hv1.out.blk.drewN _) (hxo.out.drewN _) 0 rfl (by have := hlen.out; simp; omega) (by omega) ?_
            intro W' l'' hw hl
            replace fin := Lib.hid (fin.out W' l'' (by simpa using hw) (fun j hj => by omega))
            clear hw hl
            go_wp2
            go_ret
            exact fin.out
          · go_still_tail 8, (by kernel_rfl)
            change wpList _ _ _ _ _ ((wr.setCell ⟨bz, oz + k, none⟩ (.int .u64 (Y : Int))).drewN (nq + 1))
            refine wpList_copy_w rfl (.tmp 69) (.tmp 73) 67 67 rfl Tryz.underlying67 bz (oz + (k + 1)) (n - (k + 1)) (cz - (k + 1)) bx (ox + (k + 1)) (n - (k + 1)) (cx - (k + 1)) rfl rfl (l'.set (oz + k) Y) lx (hv1.out.blk.drewN _) (hxo.out.drewN _) (n - (k + 1)) (by simp) (by have := hlen.out; simp; omega) (by omega) ?_
            intro W' l'' hw hl
            replace fin := Lib.hid (fin.out W' l'' hw hl)
            clear hw hl
            go_wp2
            go_ret
            exact fin.out
    · obtain rfl : k = n := by omega
      clear hv hf
      go_wp2
      go_ret
      obtain ⟨hv, hf⟩ := hrel.out
      exact ⟨1, l', rfl, hv, Nat.le_refl _, vw_full h1 hf⟩

theorem addVW_any (bz oz n cz bx ox cx c : Nat) (lz lx : List Nat) (w : World) (hz : Blk w bz lz) (hx : Blk w bx lx)
    (kz : oz + n ≤ lz.length) (kx : ox + n ≤ lx.length) (ax : bx = bz → ox = oz) (hn : n ≤ 1000000) (h1 : 1 ≤ n) (hcz : n < cz) (hcx : n ≤ cx) (hc : c ≤ 1) :
    Calls Tryz.prog 125 #[.slice (some ⟨bz, oz, none⟩) n cz, .slice (some ⟨bx, ox, none⟩) n cx, .int .u64 (c : Int)] w (VwEnd w bz oz n lz lx ox c) := by
  by_cases h : gd lx ox + c < W64
  · exact addVW_A bz oz n cz bx ox cx c lz lx w hz hx kz kx ax hn h1 hcz hcx h
  · have := gd_lt hx.ok ox
    obtain rfl : c = 1 := by omega
    exact addVW_B bz oz n cz bx ox cx lz lx w hz hx kz kx ax hn h1 hcz hcx (by omega)
end Go.Proofs.YtcpjclakdpjjfaaGreatDoor

namespace Go.Proofs.YtcpjclakdpjjfaaGreatDoor
open Go.RowKit

def DvEnd (w : World) (b o n : Nat) (l lx : List Nat) (ox y : Nat) (e : Ending) (w' : World) : Prop :=
  ∃ r l', e = .returned (.int .u64 ((r : Nat) : Int)) ∧ Vec w w' b o n l l' ∧ r < y ∧ vl l' o n * y + r = vl lx ox n

theorem dv_eq (r x y : Nat) : dvQ r x y * y + dvR r x y = r * W64 + x := by
  unfold dvQ dvR; rw [Nat.mul_comm]; exact Nat.div_add_mod _ _
theorem dvR_lt {r x y : Nat} (h : 0 < y) : dvR r x y < y := Nat.mod_lt _ h
theorem dvQ_lt {r x y : Nat} (h : r < y) (hx : x < W64) : dvQ r x y < W64 := digit_lt h hx

set_option maxHeartbeats 2000000 in
theorem divWVW_any (bz oz n cz bx ox cx y : Nat) (lz lx : List Nat) (w : World) (hz : Blk w bz lz) (hx : Blk w bx lx)
    (kz : oz + n ≤ lz.length) (kx : ox + n ≤ lx.length) (ax : bx = bz → ox = oz) (hn : n ≤ 1000000) (h1 : 1 ≤ n) (hy : y < W64) (hy0 : 0 < y) :
    Calls Tryz.prog 188 #[.slice (some ⟨bz, oz, none⟩) n cz, .int .u64 0, .slice (some ⟨bx, ox, none⟩) n cx, .int .u64 (y : Int)] w (DvEnd w bz oz n lz lx ox y) := by
  have HX := Lib.hid ax
  clear ax
  have r0 : w.cell? ⟨bx, ox, none⟩ = some (.int .u64 ((gd lx ox : Nat) : Int)) := hx.cell _ (by omega)
  have r3 := hz.free oz
  have r4 := hz.cell oz (by omega)
  by_cases hn1 : n = 1
  · subst hn1
    have H := bitsDiv_any 0 (gd lx ox) y hy0 (gd_lt hx.ok _) hy w
    replace H := Lib.hid H
    have bq : dvQ 0 (gd lx ox) y < W64 := dvQ_lt hy0 (gd_lt hx.ok _)
    replace bq := Lib.hid bq
    have e2 : 0 < 1 := by omega
    replace hy := Lib.hid hy
    go_enter Tryz.func188, Tryz.ntmps188
    go_wp2_with fail
    refine H.out.mono ?_
    rintro e w' ⟨rfl, m, rfl⟩
    go_wp2_with fail
    go_ret
    have hv := ((Vec.refl hz (o := oz)).drewN m).push bq.out (by omega)
    simp only [Nat.add_zero, Nat.zero_add] at hv
    refine ⟨dvR 0 (gd lx ox) y, _, rfl, hv, dvR_lt hy0, ?_⟩
    show (gd (lz.set oz _) oz + W64 * 0) * y + _ = gd lx ox + W64 * 0
    rw [gd_set _ _ _ _ (by omega), if_pos rfl, Nat.mul_zero, Nat.add_zero, Nat.add_zero, dv_eq]; omega
  · have e1 : ((n : Int) == 1) = false := by simp; omega
    have H := reciprocalWord_any y hy0 hy w
    replace H := Lib.hid H
    replace hy := Lib.hid hy
    clear r0 r3 r4
    go_enter Tryz.func188, Tryz.ntmps188
    go_wp2_with fail
    refine H.out.mono ?_
    rintro e w' ⟨rfl, m, rfl⟩
    clear H
    go_wp2_with fail
    go_loopw [12, 8] (fun i r wr => ∃ (k rr : Nat) (l' : List Nat), i = .int .i64 ((k : Int) - 1) ∧ r = .int .u64 (rr : Int) ∧ k ≤ n ∧ Hid (Blk wr bz l' ∧ l'.length = lz.length ∧ Fr (fun k => k = bz) w wr ∧ (∀ t, t < oz + k ∨ oz + n ≤ t → gd l' t = gd lz t) ∧ rr < y ∧ vl l' (oz + k) (n - k) * y + rr = vl lx (ox + k) (n - k))) (fun i _ _ => (intOf i + 1).toNat)
    case atStart => exact ⟨n, 0, lz, rfl, rfl, Nat.le_refl _, hz.drewN m, rfl, Fr.drewN _ _ _, fun _ _ => rfl, hy0, by rw [Nat.sub_self]; simp [vl]⟩
    case round =>
      obtain ⟨k, rr, l', rfl, rfl, hk, hrel⟩ := hrel
      obtain ⟨g1, g2, g3, g4, g5, g6⟩ := hrel.out
      by_cases hlt : 0 < k
      · obtain ⟨p, rfl⟩ : ∃ p : Nat, k = p + 1 := ⟨k - 1, by omega⟩
        have e5 : ((p + 1 : Nat) : Int) - 1 = (p : Int) := by omega
        rw [e5]
        have r1 : wr.cell? ⟨bx, ox + p, none⟩ = some (.int .u64 ((gd lx (ox + p) : Nat) : Int)) := by
          by_cases e : bx = bz
          · subst e
            have := hx.same hz
            subst this
            rw [HX.out rfl, g1.cell _ (by omega)]
            show some (Value.int _ ((gd l' (oz + p) : Nat) : Int)) = _
            rw [g4 _ (by omega)]
          · exact (hx.frame g3 e).cell _ (by omega)
        have r3 := g1.free (oz + p)
        have r4 := g1.cell (oz + p) (by omega)
        have H := divWW_any rr (gd lx (ox + p)) y g5 (gd_lt hx.ok _) hy.out
        replace H := Lib.hid H
        have e6 : (p : Int) < n := by omega
        clear g1 g2 g3 g4 g5 g6 e5
        go_wp2_with (go_at_call 212; refine (H.out _).mono ?_; rintro e w' ⟨rfl, rfl⟩)
        go_roundw
        case rel =>
          obtain ⟨g1, g2, g3, g4, g5, g6⟩ := hrel.out
          refine ⟨p, dvR rr (gd lx (ox + p)) y, l'.set (oz + p) (dvQ rr (gd lx (ox + p)) y), rfl, rfl, by omega, g1.set _ _ (dvQ_lt g5 (gd_lt hx.ok _)), by simp [g2], g3.trans (Fr.setCell (S := fun k => k = bz) _ _ _ (fun _ => rfl)) (fun _ _ => id), ?_, dvR_lt hy0, ?_⟩
          · intro t ht
            rw [gd_set _ _ _ _ (by omega), if_neg (by omega)]; exact g4 _ (by omega)
          · obtain ⟨d, hd⟩ : ∃ d, n - p = d + 1 := ⟨n - p - 1, by omega⟩
            rw [show n - (p + 1) = d by omega] at g6
            rw [hd]
            show (gd _ (oz + p) + W64 * vl _ (oz + p + 1) d) * y + _ = gd lx (ox + p) + W64 * vl lx (ox + p + 1) d
            rw [gd_set _ _ _ _ (by omega), if_pos rfl, vl_congr (m := l') (p := oz + (p + 1)) (fun i hi => by rw [gd_set _ _ _ _ (by omega), if_neg (by omega), show oz + p + 1 + i = oz + (p + 1) + i by omega])]
            rw [show ox + p + 1 = ox + (p + 1) by omega, ← g6, Nat.add_mul, Nat.mul_add, Nat.mul_assoc]
            have := dv_eq rr (gd lx (ox + p)) y
            rw [Nat.mul_comm W64 rr]; omega
        case measure => simp [intOf]
      · obtain rfl : k = 0 := by omega
        clear g1 g2 g3 g4 g5 g6
        go_wp2
        go_ret
        obtain ⟨g1, g2, g3, g4, g5, g6⟩ := hrel.out
        rw [Nat.add_zero, Nat.add_zero, Nat.sub_zero] at g6
        exact ⟨rr, l', rfl, ⟨g1, g2, fun i hi => g4 i (by omega), g3⟩, g5, g6⟩
end Go.Proofs.YtcpjclakdpjjfaaGreatDoor

namespace Go.Proofs.YtcpjclakdpjjfaaGreatDoor
open Go.RowKit

/-- The storage of a number: nil, or a block of its own. -/
def Sto (w : World) (v : Value) : Option Nat → Prop
  | none => v = .slice none 0 0
  | some b => ∃ (l : List Nat) (len : Nat), v = .slice (some ⟨b, 0, none⟩) len l.length ∧ Blk w b l ∧ len ≤ l.length ∧ 0 < l.length ∧ l.length ≤ 1000

/-- A number: its words are the first of a block of its own, the last one not 0. -/
def NatV (w : World) (v : Value) (ob : Option Nat) (n : Nat) : Prop :=
  match ob with
  | none => v = .slice none 0 0 ∧ n = 0
  | some b => ∃ (l : List Nat) (len : Nat), v = .slice (some ⟨b, 0, none⟩) len l.length ∧ Blk w b l ∧ len ≤ l.length ∧ 0 < l.length ∧ l.length ≤ 1000 ∧ vl l 0 len = n ∧ (len = 0 ∨ gd l (len - 1) ≠ 0)

theorem NatV.sto {w : World} {v : Value} {ob : Option Nat} {n : Nat} (h : NatV w v ob n) : Sto w v ob := by
  cases ob with
  | none => exact h.1
  | some b => obtain ⟨l, len, h1, h2, h3, h4, h5, _⟩ := h; exact ⟨l, len, h1, h2, h3, h4, h5⟩
theorem Sto.frame {S : Nat → Prop} {w w' : World} {v : Value} {ob : Option Nat} (h : Sto w v ob) (f : Fr S w w') (hn : ∀ b, ob = some b → ¬ S b) : Sto w' v ob := by
  cases ob with
  | none => exact h
  | some b => obtain ⟨l, len, h1, h2, h3⟩ := h; exact ⟨l, len, h1, h2.frame f (hn b rfl), h3⟩
theorem NatV.frame {S : Nat → Prop} {w w' : World} {v : Value} {ob : Option Nat} {n : Nat} (h : NatV w v ob n) (f : Fr S w w') (hn : ∀ b, ob = some b → ¬ S b) : NatV w' v ob n := by
  cases ob with
  | none => exact h
  | some b => obtain ⟨l, len, h1, h2, h3⟩ := h; exact ⟨l, len, h1, h2.frame f (hn b rfl), h3⟩
theorem Sto.lt {w : World} {v : Value} {b : Nat} (h : Sto w v (some b)) : b < w.heap.size := by obtain ⟨l, len, _, h2, _⟩ := h; exact h2.lt
theorem NatV.lt {w : World} {v : Value} {b n : Nat} (h : NatV w v (some b) n) : b < w.heap.size := h.sto.lt

theorem vl_zero (l : List Nat) (o : Nat) : vl l o 0 = 0 := rfl
theorem vl_ge {l : List Nat} {o len : Nat} (h0 : 0 < len) (h : gd l (o + (len - 1)) ≠ 0) : W64 ^ (len - 1) ≤ vl l o len := by
  obtain ⟨m, rfl⟩ : ∃ m, len = m + 1 := ⟨len - 1, by omega⟩
  rw [vl_snoc]
  simp only [Nat.add_sub_cancel] at *
  have : W64 ^ m * 1 ≤ W64 ^ m * gd l (o + m) := Nat.mul_le_mul_left _ (by omega)
  omega
theorem len_le {l : List Nat} {len k : Nat} (h : len = 0 ∨ gd l (len - 1) ≠ 0) (hn : vl l 0 len < W64 ^ k) : len ≤ k := by
  rcases h with rfl | h
  · omega
  · by_cases h0 : len = 0
    · omega
    · have h1 := vl_ge (l := l) (o := 0) (len := len) (by omega) (by rw [Nat.zero_add]; exact h)
      have h2 : W64 ^ (len - 1) < W64 ^ k := Nat.lt_of_le_of_lt h1 hn
      have := (Nat.pow_lt_pow_iff_right (show 1 < W64 by unfold W64; omega)).1 h2
      omega

/-- How many words are left when those that are 0 are taken off at the end. -/
def trim (l : List Nat) : Nat → Nat
  | 0 => 0
  | n + 1 => if gd l n = 0 then trim l n else n + 1
theorem trim_le (l : List Nat) (n : Nat) : trim l n ≤ n := by
  induction n with
  | zero => exact Nat.le_refl _
  | succ n ih => unfold trim; split <;> omega
theorem trim_vl (l : List Nat) (n : Nat) : vl l 0 (trim l n) = vl l 0 n := by
  induction n with
  | zero => rfl
  | succ n ih =>
    unfold trim
    split
    · rename_i h; rw [ih, vl_snoc, Nat.zero_add, h]; omega
    · rfl
theorem trim_top (l : List Nat) (n : Nat) : trim l n = 0 ∨ gd l (trim l n - 1) ≠ 0 := by
  induction n with
  | zero => exact Or.inl rfl
  | succ n ih =>
    unfold trim
    split
    · exact ih
    · rename_i h; exact Or.inr h

set_option maxHeartbeats 1000000 in
theorem norm_any (b n : Nat) (l : List Nat) (w : World) (h : Blk w b l) (hn : n ≤ l.length) (hl : l.length ≤ 1000) :
    Calls Tryz.prog 88 #[.slice (some ⟨b, 0, none⟩) n l.length] w fun e w' => e = .returned (.slice (some ⟨b, 0, none⟩) (trim l n) l.length) ∧ w = w' := by
  have ht := trim_le l n
  go_enter Tryz.func88, Tryz.ntmps88
  go_wp2
  go_loop [3] (fun i => ∃ k : Nat, i = .int .i64 (k : Int) ∧ k ≤ n ∧ Hid (trim l k = trim l n)) (fun i => (intOf i).toNat)
  case atStart => exact ⟨n, rfl, Nat.le_refl _, rfl⟩
  case round =>
    obtain ⟨k, rfl, hk, hrel⟩ := hrel
    by_cases h0 : 0 < k
    · obtain ⟨p, rfl⟩ : ∃ p, k = p + 1 := ⟨k - 1, by omega⟩
      have hc : w.cell? ⟨b, p, none⟩ = some (.int .u64 ((gd l p : Nat) : Int)) := h.cell p (by omega)
      have e5 : ((p + 1 : Nat) : Int) - 1 = (p : Int) := by omega
      by_cases hz : gd l p = 0
      · have hr : trim l p = trim l n := by rw [← hrel.out]; show _ = (if gd l p = 0 then _ else _); rw [if_pos hz]
        replace hr := Lib.hid hr
        rw [hz] at hc
        clear hz
        go_wp2
        go_round
        case rel => exact ⟨p, by go_num, by omega, hr⟩
        case measure => simp [intOf]
      · have hr : p + 1 = trim l n := by rw [← hrel.out]; show _ = (if gd l p = 0 then _ else _); rw [if_neg hz]
        have hz' : ((gd l p : Nat) : Int) ≠ 0 := by omega
        have hz'' : (((gd l p : Nat) : Int) == 0) = false := by simp; omega
        replace hr := Lib.hid hr
        clear hz hz'
        go_wp2
        go_ret
        refine ⟨?_, rfl⟩
        rw [← hr.out]; rfl
    · obtain rfl : k = 0 := by omega
      go_wp2
      go_ret
      refine ⟨?_, rfl⟩
      rw [← hrel.out]; rfl
theorem row121 : (Tryz.prog.info? 121).map (fun i => (i.zero, i.size, i.bytes)) = some (some (.int .u64 0), 1, 8) := by kernel_rfl

def zrow (m : Nat) : Array Value := ((List.replicate m 0).map wrd).toArray

theorem run_make68 (n m : Nat) (h : n ≤ m) (hm : m ≤ 1000000) (w : World) :
    (Instr.makeSlice 68 (.int .i64 (n : Int)) (.int .i64 (m : Int))).run Tryz.prog w = .ok (.slice (some ⟨w.heap.size, 0, none⟩) n m) (w.alloc (.cells (zrow m) 121)) := by
  obtain ⟨i, hi, hz⟩ := Option.map_eq_some_iff.1 row121
  simp only [Prod.mk.injEq] at hz
  obtain ⟨hz, hs, hb⟩ := hz
  have hr := run_makeSlice (P := Tryz.prog) w 68 121 i _ Tryz.underlying68 hi hz .i64 .i64 (n : Int) (m : Int) (by omega) (by omega) (by rw [hs]; omega) (by rw [hb]; omega) (by omega)
  simp only [Int.toNat_natCast, hs, Nat.mul_one] at hr
  rw [hr]
  have e : madeCells (Value.cells (.int .u64 0)) m = zrow m := by
    unfold zrow
    apply Array.toList_inj.1
    have := toList_madeCells_one (.int .u64 0) m
    rw [show Value.cells (.int .u64 0) = #[.int .u64 0] from rfl, this, List.map_replicate]; rfl
  rw [e]

theorem Blk.made (w : World) (m : Nat) : Blk (w.alloc (.cells (zrow m) 121)) w.heap.size (List.replicate m 0) := by
  refine ⟨⟨121, ?_⟩, ?_⟩
  · show (w.heap.push _)[w.heap.size]? = _
    rw [Array.getElem?_push_size]; rfl
  · intro x hx
    rw [List.eq_of_mem_replicate hx]; exact W64_pos

/-- What make comes to: a block with room for n words: the old one, or a new one. -/
def MakeEnd (w : World) (ob : Option Nat) (n : Nat) (e : Ending) (w' : World) : Prop :=
  ∃ (b : Nat) (l : List Nat), e = .returned (.slice (some ⟨b, 0, none⟩) n l.length) ∧ Blk w' b l ∧ n ≤ l.length ∧ l.length ≤ 1000 ∧ Fr (fun _ => False) w w' ∧ (ob = some b ∨ w.heap.size ≤ b) ∧ ((n + 1 ≤ l.length) ∨ n = 1 ∨ ob = some b)

set_option maxHeartbeats 1000000 in
theorem make_any (v : Value) (ob : Option Nat) (n : Nat) (w : World) (h : Sto w v ob) (h1 : 1 ≤ n) (hn : n ≤ 900) :
    Calls Tryz.prog 86 #[v, .int .i64 (n : Int)] w (MakeEnd w ob n) := by
  have new : ∀ c : Nat, c < n → ∀ a l0, v = .slice a l0 c → Calls Tryz.prog 86 #[.slice a l0 c, .int .i64 (n : Int)] w (MakeEnd w ob n) := by
    intro c hc a l0 _
    by_cases e1 : n = 1
    · subst e1
      have hm : ∀ w : World, (Instr.makeSlice 68 (.int .i64 1) (.int .i64 1)).run Tryz.prog w = .ok (.slice (some ⟨w.heap.size, 0, none⟩) 1 1) (w.alloc (.cells (zrow 1) 121)) := run_make68 1 1 (Nat.le_refl _) (by omega)
      obtain rfl : c = 0 := by omega
      have hb := Lib.hid (Blk.made w 1)
      go_enter Tryz.func86, Tryz.ntmps86
      go_wp2
      go_ret
      exact ⟨w.heap.size, List.replicate 1 0, rfl, hb.out, by simp, by simp, Fr.alloc _ _ _, Or.inr (Nat.le_refl _), Or.inr (Or.inl rfl)⟩
    · have e2 : ((n : Int) == 1) = false := by simp; omega
      have hm := run_make68 n (n + 4) (by omega) (by omega)
      rw [show ((n + 4 : Nat) : Int) = (n : Int) + 4 by omega] at hm
      have hb := Lib.hid (Blk.made w (n + 4))
      go_enter Tryz.func86, Tryz.ntmps86
      go_wp2
      go_ret
      exact ⟨w.heap.size, List.replicate (n + 4) 0, (by simp), hb.out, (by simp), (by simp; omega), Fr.alloc _ _ _, Or.inr (Nat.le_refl _), Or.inl (by simp)⟩
  cases ob with
  | none =>
    have h : v = .slice none 0 0 := h
    subst h
    exact new 0 (by omega) _ _ rfl
  | some b =>
    obtain ⟨l, len, rfl, hb, hlen, hp, hc⟩ := h
    by_cases hcap : n ≤ l.length
    · have hb := Lib.hid hb
      go_enter Tryz.func86, Tryz.ntmps86
      go_wp2
      go_ret
      exact ⟨b, l, rfl, hb.out, hcap, hc, Fr.refl _ _, Or.inl rfl, Or.inr (Or.inr rfl)⟩
    · exact new l.length (by omega) _ _ rfl
end Go.Proofs.YtcpjclakdpjjfaaGreatDoor


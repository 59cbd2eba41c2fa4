/-
  A part of the proof of FnQuantityAgain (texts Db of mine, joined).
-/
import Derived.Test.YtcpjclakdpjjfaaGreatDoorM10
import Derived.Test.YtcpjclakdpjjfaaGreatDoorM09
import Derived.Deep.DeepCutAuto
namespace Go.Proofs.YtcpjclakdpjjfaaGreatDoor
open Go.RowKit

theorem dvX_top {n j h : Nat} {lu : List Nat} (n2 : 2 ≤ n) : dvX n lu j h = (h * W64 * W64 + gd lu (j + n - 1) * W64 + gd lu (j + n - 2)) * W64 ^ (n - 2) + vl lu j (n - 2) := by
  obtain ⟨m, rfl⟩ : ∃ m, n = m + 2 := ⟨n - 2, by omega⟩
  unfold dvX
  rw [show W64 ^ (m + 2) = W64 ^ m * W64 * W64 from by rw [Nat.pow_succ, Nat.pow_succ], vl_snoc, vl_snoc, show j + (m + 2) - 1 = j + (m + 1) by omega, show j + (m + 2) - 2 = j + m by omega, Nat.add_sub_cancel, Nat.pow_succ, Nat.add_mul, Nat.add_mul]
  have a1 : W64 ^ m * W64 * W64 * h = h * W64 * W64 * W64 ^ m := by rw [Nat.mul_comm _ h, Nat.mul_comm (W64 ^ m), Nat.mul_assoc W64, Nat.mul_comm (W64 ^ m), ← Nat.mul_assoc, ← Nat.mul_assoc]
  have a2 : W64 ^ m * W64 * gd lu (j + (m + 1)) = gd lu (j + (m + 1)) * W64 * W64 ^ m := by rw [Nat.mul_comm _ (gd lu _), Nat.mul_comm (W64 ^ m), ← Nat.mul_assoc]
  rw [a1, a2, Nat.mul_comm (W64 ^ m)]
  omega
theorem vl_top {n : Nat} {l : List Nat} (n2 : 2 ≤ n) : vl l 0 n = (gd l (n - 1) * W64 + gd l (n - 2)) * W64 ^ (n - 2) + vl l 0 (n - 2) := by
  obtain ⟨m, rfl⟩ : ∃ m, n = m + 2 := ⟨n - 2, by omega⟩
  rw [vl_snoc, vl_snoc, Nat.zero_add, Nat.zero_add, show m + 2 - 1 = m + 1 by omega, Nat.add_sub_cancel, Nat.pow_succ, Nat.add_mul]
  have a2 : W64 ^ m * W64 * gd l (m + 1) = gd l (m + 1) * W64 * W64 ^ m := by rw [Nat.mul_comm _ (gd l _), Nat.mul_comm (W64 ^ m), ← Nat.mul_assoc]
  rw [a2, Nat.mul_comm (W64 ^ m)]
  omega

theorem split_small {A L g r : Nat} (h : L + A * g = r) (hr : r < A) : g = 0 ∧ L = r := by
  cases g with
  | zero => rw [Nat.mul_zero, Nat.add_zero] at h; exact ⟨rfl, h⟩
  | succ g =>
    rw [Nat.mul_add, Nat.mul_one] at h
    omega

/-- The divisor added back. -/
theorem kd_back {L6 A t V r M L7 c Lx : Nat} (e1 : Lx = L6 + A * t) (e2 : Lx + V = r + M) (e3 : L7 + c * A = L6 + V) (hr : r < A) (h7 : L7 < A) (hM : M = A * W64) : L7 = r ∧ t + c = W64 := by
  subst hM
  have e : L7 + A * (t + c) = r + A * W64 := by rw [Nat.mul_add, Nat.mul_comm A c]; omega
  rcases Nat.lt_trichotomy (t + c) W64 with h | h | h
  · have : A * (t + c + 1) ≤ A * W64 := Nat.mul_le_mul_left _ h
    rw [Nat.mul_add, Nat.mul_one] at this
    omega
  · rw [h] at e; exact ⟨by omega, h⟩
  · have : A * (W64 + 1) ≤ A * (t + c) := Nat.mul_le_mul_left _ h
    rw [Nat.mul_add, Nat.mul_one] at this
    omega

/-- What the division leaves: the quotient in q's words, the rest in u's. -/
def DbEnd (w : World) (bq bu M n U V : Nat) (lq lu : List Nat) (e : Ending) (w' : World) : Prop :=
  ∃ lq' lu', e = .returned (.tuple #[]) ∧ Blk w' bq lq' ∧ Blk w' bu lu' ∧ lq'.length = lq.length ∧ lu'.length = lu.length ∧ vl lq' 0 M = U / V ∧ vl lu' 0 (n + M) = U % V ∧ Fr (fun k => k = bq ∨ k = bu) w w'

/-- The state of the loop, the world's part. -/
structure DbW (w0 wr : World) (bq bu bv bt : Nat) (lq lu lv lt lq' lu' lt' : List Nat) : Prop where
  q : Blk wr bq lq'
  u : Blk wr bu lu'
  v : Blk wr bv lv
  t : Blk wr bt lt'
  ql : lq'.length = lq.length
  ul : lu'.length = lu.length
  tl : lt'.length = lt.length
  fr : Fr (fun k => k = bq ∨ k = bu ∨ k = bt) w0 wr

set_option maxHeartbeats 8000000 in
set_option maxRecDepth 100000 in
theorem divBasic_any (bq bu bv sp M n cq cu cv : Nat) (lq lu lv : List Nat) (w : World) (hq : Blk w bq lq) (hu : Blk w bu lu) (hv : Blk w bv lv) (hs : w.cell? ⟨sp, 0, none⟩ = some (.pointer none))
    (n2 : 2 ≤ n) (n3 : n ≤ 3) (hM : M ≤ 100) (kq : M ≤ lq.length) (ku : n + M ≤ lu.length) (kv : n ≤ lv.length) (ecq : cq = lq.length) (ecu : cu = lu.length) (ecv : cv = lv.length)
    (dqu : bq ≠ bu) (dqv : bq ≠ bv) (duv : bu ≠ bv) (dsq : sp ≠ bq) (dsu : sp ≠ bu) (hnorm : 2 ^ 63 ≤ gd lv (n - 1)) (hU : vl lu 0 (n + M) < vl lv 0 n * W64 ^ M) :
    Calls Tryz.prog 190 #[.slice (some ⟨bq, 0, none⟩) M cq, .pointer (some ⟨sp, 0, none⟩), .slice (some ⟨bu, 0, none⟩) (n + M) cu, .slice (some ⟨bv, 0, none⟩) n cv] w
      (DbEnd w bq bu M n (vl lu 0 (n + M)) (vl lv 0 n) lq lu) := by
  subst ecq ecu ecv
  have S1 := Lib.hid (stackSave_any ⟨sp, 0, none⟩ w hs)
  have S2 := stackNat_any ⟨sp, 0, none⟩ (n + 1) (by omega) (by omega) w hs
  rw [show ((n + 1 : Nat) : Int) = (n : Int) + 1 by omega] at S2
  replace S2 := Lib.hid S2
  have hv1 := gd_lt hv.ok (n - 1)
  have R1 : Hid (∀ w', Calls Tryz.prog 211 #[.int .u64 ((gd lv (n - 1) : Nat) : Int)] w' fun e w'' => e = .returned (.int .u64 ((rcp (gd lv (n - 1)) : Nat) : Int)) ∧ Dr w' w'') := fun w' => reciprocalWord_any _ (by omega) hv1 w'
  obtain ⟨v1, e1⟩ : ∃ v1, v1 = gd lv (n - 1) := ⟨_, rfl⟩
  rw [← e1] at R1 hnorm hv1
  replace hnorm := Lib.hid hnorm
  replace hv1 := Lib.hid hv1
  replace hU := Lib.hid hU
  replace hq := Lib.hid hq
  replace hu := Lib.hid hu
  replace hv := Lib.hid hv
  replace hs := Lib.hid hs
  have t1 : ((n + M : Nat) : Int) - (n : Int) = (M : Int) := by omega
  go_enter_defers Tryz.func190, Tryz.ntmps190
  go_wp2_with fail
  refine S1.out.mono ?_
  rintro e w1 ⟨rfl, rfl⟩
  go_wp2_with fail
  refine S2.out.mono ?_
  rintro e w2 ⟨bt, lt, rfl, hbt, hlt, hnew, hf⟩
  have r1 : w2.cell? ⟨bv, n - 1, none⟩ = some (.int .u64 (v1 : Int)) := by
    rw [e1]; exact (hv.out.frame hf (fun f => f)).cell (n - 1) (by omega)
  have t2 : (n : Int) - 1 = ((n - 1 : Nat) : Int) := by omega
  have t3 : ((n - 1 : Nat) : Int) < n := by omega
  replace e1 := Lib.hid e1
  replace hbt := Lib.hid hbt
  have kt : n + 1 ≤ lt.length := hlt
  replace hnew := Lib.hid hnew
  replace hf := Lib.hid hf
  go_wp2_with fail
  refine (R1.out _).mono ?_
  rintro e w3 ⟨rfl, dn, rfl⟩
  go_wp2_with fail
  have t4 : (n : Int) + (M : Int) - (n : Int) = (M : Int) := by omega
  rw [t4]
  clear t4 t1 r1 S1 S2 R1 t2 t3
  have hW0 : DbW w1 (w2.drewN dn) bq bu bv bt lq lu lv lt lq lu lt :=
    ⟨(hq.out.frame hf.out (fun f => f)).drewN _, (hu.out.frame hf.out (fun f => f)).drewN _, (hv.out.frame hf.out (fun f => f)).drewN _, hbt.out.drewN _, rfl, rfl, rfl, (hf.out.mono (fun _ _ h => h.elim)).trans (Fr.drewN _ _ _) (fun _ _ h => h)⟩
  have hVp : 0 < vl lv 0 n := by
    have := vl_ge (l := lv) (o := 0) (len := n) (by omega) (by rw [Nat.zero_add, ← e1.out]; have := hnorm.out; omega)
    exact Nat.lt_of_lt_of_le (Nat.pow_pos W64_pos) this
  have hI0 : DvI n M (vl lu 0 (n + M)) (vl lv 0 n) lu lq (M + 1) 0 := by
    refine ⟨?_, ?_, fun h => by omega, fun _ => rfl, fun i h1 h2 => by omega⟩
    · rw [show M - (M + 1) = 0 by omega, vl_zero, Nat.mul_zero, Nat.mul_zero, Nat.mul_zero, Nat.zero_add, Nat.add_zero]
      congr 1; omega
    · rw [Nat.mul_zero, Nat.add_zero]
      have h1 := hU.out
      have h2 : vl lu 0 (n + M) = vl lu 0 (M + 1) + W64 ^ (M + 1) * vl lu (M + 1) (n - 1) := by
        rw [show n + M = (M + 1) + (n - 1) by omega, vl_add, Nat.zero_add]
      have h3 : W64 ^ M * vl lu (M + 1) (n - 1) ≤ W64 ^ (M + 1) * vl lu (M + 1) (n - 1) := Nat.mul_le_mul_right _ (Nat.pow_le_pow_right W64_pos (by omega))
      have h4 : W64 ^ M * vl lu (M + 1) (n - 1) < W64 ^ M * vl lv 0 n := by rw [Nat.mul_comm (W64 ^ M) (vl lv 0 n)]; omega
      exact Nat.lt_of_mul_lt_mul_left h4
  replace hW0 := Lib.hid hW0
  replace hI0 := Lib.hid hI0
  replace hVp := Lib.hid hVp
  obtain ⟨U, hUe⟩ : ∃ U, U = vl lu 0 (n + M) := ⟨_, rfl⟩
  obtain ⟨V, hVe⟩ : ∃ V, V = vl lv 0 n := ⟨_, rfl⟩
  rw [← hUe] at hU hI0
  rw [← hVe] at hU hI0 hVp
  rw [← hUe, ← hVe]
  replace hUe := Lib.hid hUe
  replace hVe := Lib.hid hVe
  go_loopw [13, 14] (fun c j wr => ∃ (k h : Nat) (lq' lu' lt' : List Nat), j = .int .i64 ((k : Int) - 1) ∧ c = .int .u64 (h : Int) ∧ k ≤ M + 1 ∧ Hid (DbW w1 wr bq bu bv bt lq lu lv lt lq' lu' lt') ∧ Hid (DvI n M U V lu' lq' k h)) (fun _ j _ => (intOf j + 1).toNat)
  case atStart => exact ⟨M + 1, 0, lq, lu, lt, by congr 1; omega, rfl, Nat.le_refl _, hW0, hI0⟩
  case round =>
    obtain ⟨k, h, lq', lu', lt', rfl, rfl, hk, hW, hI⟩ := hrel
    by_cases hk0 : k = 0
    · subst hk0
      have hst := Lib.hid (cell_frame hs.out hW.out.fr (fun e => by
        rcases e with e | e | e
        · exact dsq e
        · exact dsu e
        · have := hnew.out
          have h2 := World.block_lt_of_cell? w1 _ hs.out
          have e : sp = bt := e
          have h2 : sp < w1.heap.size := h2
          omega))
      go_wp2_with fail
      refine leaves_cons (f := 118) (args := #[.pointer (some ⟨sp, 0, none⟩), .int .i64 0]) (by simp) (by simp [go_sem]) ?_
      refine (stackRestore_any _ _ .returning _ hst.out).mono ?_
      rintro e u' w'' ⟨rfl, rfl, rfl⟩
      obtain ⟨g1, g2⟩ := hI.out.done (by omega) hVp.out
      refine ⟨_, results_none rfl _ _ _, ?_⟩
      exact ⟨lq', lu', rfl, hW.out.q, hW.out.u, hW.out.ql, hW.out.ul, g1, g2, hW.out.fr.mono (fun i hi e => by
        rcases e with e | e | e
        · exact Or.inl e
        · exact Or.inr e
        · have := hnew.out; omega)⟩
    · obtain ⟨j, rfl⟩ : ∃ j, k = j + 1 := ⟨k - 1, by omega⟩
      have e5 : ((j + 1 : Nat) : Int) - 1 = (j : Int) := by omega
      rw [e5]
      clear e5
      obtain ⟨X, hX⟩ : ∃ X, X = dvX n lu' j h := ⟨_, rfl⟩
      have okv := hW.out.v.ok
      have oku := hW.out.u.ok
      have hXV : X < V * W64 := by rw [hX]; exact hI.out.xlt (by omega) (gd_lt oku j)
      obtain ⟨u1, hu1⟩ : ∃ x, x = gd lu' (j + n - 1) := ⟨_, rfl⟩
      obtain ⟨u2, hu2⟩ : ∃ x, x = gd lu' (j + n - 2) := ⟨_, rfl⟩
      obtain ⟨v2, hv2⟩ : ∃ x, x = gd lv (n - 2) := ⟨_, rfl⟩
      have b1 : u1 < W64 := by rw [hu1]; exact gd_lt oku _
      have b2 : u2 < W64 := by rw [hu2]; exact gd_lt oku _
      have b3 : v2 < W64 := by rw [hv2]; exact gd_lt okv _
      obtain ⟨P, x0, v0, hP, hXe, hx0, hVe2, hv0⟩ : ∃ P x0 v0, 0 < P ∧ X = (h * W64 * W64 + u1 * W64 + u2) * P + x0 ∧ x0 < P ∧ V = (v1 * W64 + v2) * P + v0 ∧ v0 < P := by
        refine ⟨W64 ^ (n - 2), vl lu' j (n - 2), vl lv 0 (n - 2), Nat.pow_pos W64_pos, ?_, vl_lt oku _ _, ?_, vl_lt okv _ _⟩
        · rw [hX, hu1, hu2]; exact dvX_top n2
        · rw [hVe.out, e1.out, hv2]; exact vl_top n2
      have hhv : h ≤ v1 := kd_h hXe hVe2 b3 hv0 hXV
      replace hX := Lib.hid hX
      replace okv := Lib.hid okv
      replace oku := Lib.hid oku
      replace hXV := Lib.hid hXV
      replace hu1 := Lib.hid hu1
      replace hu2 := Lib.hid hu2
      replace hv2 := Lib.hid hv2
      replace b1 := Lib.hid b1
      replace b2 := Lib.hid b2
      replace b3 := Lib.hid b3
      replace hXe := Lib.hid hXe
      replace hx0 := Lib.hid hx0
      replace hVe2 := Lib.hid hVe2
      replace hv0 := Lib.hid hv0
      have f1 : (j : Int) + (n : Int) - 1 = ((j + n - 1 : Nat) : Int) := by omega
      have f2 : (j : Int) + (n : Int) - 2 = ((j + n - 2 : Nat) : Int) := by omega
      have f3 : (n : Int) - 2 = ((n - 2 : Nat) : Int) := by omega
      have f4 : ((j + n - 1 : Nat) : Int) < ((n + M : Nat) : Int) := by omega
      have f5 : ((j + n - 2 : Nat) : Int) < ((n + M : Nat) : Int) := by omega
      have f6 : ((n - 2 : Nat) : Int) < (n : Int) := by omega
      have f7 : (0 : Int) ≤ j := by omega
      have r1 : wr.cell? ⟨bu, j + n - 1, none⟩ = some (.int .u64 (u1 : Int)) := by rw [hu1.out]; exact hW.out.u.cell _ (by rw [hW.out.ul]; omega)
      have r2 : wr.cell? ⟨bu, j + n - 2, none⟩ = some (.int .u64 (u2 : Int)) := by rw [hu2.out]; exact hW.out.u.cell _ (by rw [hW.out.ul]; omega)
      have r3 : wr.cell? ⟨bv, n - 2, none⟩ = some (.int .u64 (v2 : Int)) := by rw [hv2.out]; exact hW.out.v.cell _ (by omega)
      go_upto_if 51 with fail
      go_cut [15, 16, 17, 18, 19, 20] from 45 to 200 (fun q _ _ _ _ _ wx => ∃ qh : Nat, q = .int .u64 (qh : Int) ∧ Hid (X / V ≤ qh ∧ qh ≤ X / V + 1 ∧ qh < W64) ∧ wr = wx)
      case first =>
        by_cases heq : h = v1
        · have e0 : ((h : Int) != v1) = false := by simp; omega
          go_wp2_with fail
          go_meet
          have hn1 := hnorm.out
          have hn2 : W64 ≤ 2 * v1 + 2 := by rw [W64_eq]; omega
          have hn3 : 2 ≤ W64 := by rw [W64_eq]; omega
          have hXe' := hXe.out
          rw [heq] at hXe'
          have := kd_top hVe2.out hv0.out b3.out hXe' hn2 hn3 (by omega)
          have h2 : X / V < W64 := Nat.div_lt_of_lt_mul hXV.out
          exact ⟨W64 - 1, congrArg (Value.int .u64) (by decide), ⟨by omega, this, by omega⟩, rfl⟩
        · have e0 : ((h : Int) != v1) = true := by simp; omega
          have hlt : h < v1 := by omega
          have D1 := Lib.hid (divWW_any h u1 v1 hlt b1.out hv1.out wr)
          go_wp2_with fail
          refine D1.out.mono ?_
          rintro e w4 ⟨rfl, rfl⟩
          obtain ⟨q0, hq0⟩ : ∃ x, x = dvQ h u1 v1 := ⟨_, rfl⟩
          obtain ⟨r0, hr0⟩ : ∃ x, x = dvR h u1 v1 := ⟨_, rfl⟩
          rw [← hq0, ← hr0]
          replace hq0 := Lib.hid hq0
          replace hr0 := Lib.hid hr0
          have M1 := Lib.hid (mulWW_any q0 v2 (by rw [hq0.out]; exact dvQ_lt hlt b1.out) b3.out wr)
          clear D1
          go_wp2_with fail
          refine M1.out.mono ?_
          rintro e w4 ⟨rfl, rfl⟩
          clear M1
          have g0 : Gs (X / V) h u1 v1 v2 q0 r0 (mulHi q0 v2) (mulLo q0 v2) := by
            refine ⟨?_, ?_, ?_, ?_, ?_, ?_, ?_⟩
            · rw [hq0.out, hr0.out]; exact dv_eq h u1 v1
            · unfold mulHi mulLo; rw [Nat.mul_comm]; exact Nat.div_add_mod _ _
            · rw [hq0.out]; exact kd_start hVe2.out hXe.out hx0.out b2.out (by omega)
            · rw [hq0.out]; exact dvQ_lt hlt b1.out
            · rw [hr0.out]; exact Nat.lt_trans (dvR_lt (by omega)) hv1.out
            · unfold mulHi; exact Nat.div_lt_of_lt_mul (Nat.mul_lt_mul'' (by rw [hq0.out]; exact dvQ_lt hlt b1.out) b3.out)
            · unfold mulLo; exact Nat.mod_lt _ W64_pos
          obtain ⟨y1, hy1⟩ : ∃ x, x = mulHi q0 v2 := ⟨_, rfl⟩
          obtain ⟨y2, hy2⟩ : ∃ x, x = mulLo q0 v2 := ⟨_, rfl⟩
          rw [← hy1, ← hy2] at g0
          rw [← hy1, ← hy2]
          clear hy1 hy2
          replace g0 := Lib.hid g0
          replace hq0 := Lib.hid hq0
          go_upto_block 2 with fail
          go_cut [15, 16, 17, 18, 19] from 45 to 200 (fun q _ _ _ _ wx => ∃ qh : Nat, q = .int .u64 (qh : Int) ∧ Hid (X / V ≤ qh ∧ qh ≤ X / V + 1 ∧ qh < W64) ∧ wr = wx)
          case first =>
            go_wp2_with fail
            go_loop [15, 16, 18, 19] (fun q r x y => ∃ q1 r1 x1 x2 : Nat, q = .int .u64 (q1 : Int) ∧ r = .int .u64 (r1 : Int) ∧ x = .int .u64 (x1 : Int) ∧ y = .int .u64 (x2 : Int) ∧ Hid (Gs (X / V) h u1 v1 v2 q1 r1 x1 x2)) (fun q _ _ _ => (intOf q).toNat)
            case atStart => exact ⟨q0, r0, y1, y2, rfl, rfl, rfl, rfl, g0⟩
            case round =>
              obtain ⟨q1, r1', x1, x2, rfl, rfl, rfl, rfl, hg⟩ := hrel
              have G1 := greaterThan_any x1 x2 r1' u2 wr
              have hcmp := hg.out.cmp b2.out
              by_cases hc : r1' < x1 ∨ (x1 = r1' ∧ u2 < x2)
              · rw [decide_eq_true hc] at G1
                replace G1 := Lib.hid G1
                have hd : X / V < q1 := kd_dec hVe2.out hXe.out hx0.out (kd_over hg.out.e1 (hcmp.1 hc))
                have hq1 : 1 ≤ q1 := Nat.lt_of_le_of_lt (Nat.zero_le _) hd
                have F1 : IntKind.u64.wrap ((q1 : Int) - 1) = ((q1 - 1 : Nat) : Int) := by
                  rw [show (q1 : Int) - 1 = ((q1 - 1 : Nat) : Int) by omega]; exact wrapu _ (by have := hg.out.qr; omega)
                by_cases ho : r1' + v1 < W64
                · obtain ⟨gn, gle⟩ := hg.out.next hd ho b3.out
                  have F2 : IntKind.u64.wrap ((r1' : Int) + v1) = ((r1' + v1 : Nat) : Int) := by
                    rw [← Int.natCast_add]; exact wrapu _ ho
                  have c1 : ¬ (((r1' + v1 : Nat) : Int) < v1) := by omega
                  obtain ⟨q2, hq2⟩ : ∃ x, x = q1 - 1 := ⟨_, rfl⟩
                  obtain ⟨r2', hr2'⟩ : ∃ x, x = r1' + v1 := ⟨_, rfl⟩
                  rw [← hq2] at F1 gn
                  rw [← hr2'] at F2 gn c1
                  have hmeas : q2 < q1 := by omega
                  replace ho := Lib.hid ho
                  replace hcmp := Lib.hid hcmp
                  replace hc := Lib.hid hc
                  replace hd := Lib.hid hd
                  replace hq2 := Lib.hid hq2
                  replace hr2' := Lib.hid hr2'
                  replace hmeas := Lib.hid hmeas
                  by_cases hb : x2 < v2
                  · rw [if_pos hb, if_pos hb] at gn
                    rw [if_pos hb] at gle
                    have c2 : (x2 : Int) < v2 := by omega
                    have F3 : IntKind.u64.wrap ((x1 : Int) - 1) = ((x1 - 1 : Nat) : Int) := by
                      rw [show (x1 : Int) - 1 = ((x1 - 1 : Nat) : Int) by omega]; exact wrapu _ (by have := hg.out.xl; omega)
                    have F4 : IntKind.u64.wrap ((x2 : Int) - v2) = ((x2 + W64 - v2 : Nat) : Int) := by
                      have := b3.out
                      rw [wrapu_mod, show ((x2 + W64 - v2 : Nat) : Int) = (x2 : Int) - v2 + (W64 : Nat) by omega, ← Int.add_emod_right]
                      exact Int.emod_eq_of_lt (by omega) (by omega)
                    obtain ⟨x3, hx3⟩ : ∃ x, x = x1 - 1 := ⟨_, rfl⟩
                    obtain ⟨x4, hx4⟩ : ∃ x, x = x2 + W64 - v2 := ⟨_, rfl⟩
                    rw [← hx3] at F3 gn
                    rw [← hx4] at F4 gn
                    replace gn := Lib.hid gn
                    replace gle := Lib.hid gle
                    replace hb := Lib.hid hb
                    replace hx3 := Lib.hid hx3
                    replace hx4 := Lib.hid hx4
                    go_wp2_with fail
                    refine G1.out.mono ?_
                    rintro e w4 ⟨rfl, rfl⟩
                    go_wp2_with fail
                    go_round
                    case rel => exact ⟨q2, r2', x3, x4, rfl, rfl, rfl, rfl, gn⟩
                    case measure => have := hmeas.out; simp [intOf]; omega
                  · rw [if_neg hb, if_neg hb] at gn
                    have c2 : ¬ ((x2 : Int) < v2) := by omega
                    have F4 : IntKind.u64.wrap ((x2 : Int) - v2) = ((x2 + 0 - v2 : Nat) : Int) := by
                      rw [show (x2 : Int) - v2 = ((x2 + 0 - v2 : Nat) : Int) by omega]; exact wrapu _ (by have := hg.out.xr; omega)
                    obtain ⟨x4, hx4⟩ : ∃ x, x = x2 + 0 - v2 := ⟨_, rfl⟩
                    rw [← hx4] at F4 gn
                    rw [Nat.sub_zero] at gn
                    replace gn := Lib.hid gn
                    replace gle := Lib.hid gle
                    replace hb := Lib.hid hb
                    replace hx4 := Lib.hid hx4
                    go_wp2_with fail
                    refine G1.out.mono ?_
                    rintro e w4 ⟨rfl, rfl⟩
                    go_wp2_with fail
                    go_round
                    case rel => exact ⟨q2, r2', x1, x4, rfl, rfl, rfl, rfl, gn⟩
                    case measure => have := hmeas.out; simp [intOf]; omega
                · have hr := hg.out.rr
                  have hv := hv1.out
                  have F2 : IntKind.u64.wrap ((r1' : Int) + v1) = ((r1' + v1 - W64 : Nat) : Int) := by
                    rw [wrapu_mod, show (r1' : Int) + v1 = ((r1' + v1 - W64 : Nat) : Int) + (W64 : Nat) by omega, Int.add_emod_right]
                    exact Int.emod_eq_of_lt (by omega) (by omega)
                  have c1 : (((r1' + v1 - W64 : Nat) : Int) < v1) := by omega
                  have fin : X / V ≤ q1 - 1 ∧ q1 - 1 ≤ X / V + 1 ∧ q1 - 1 < W64 := by
                    have hq := hg.out.qr
                    refine ⟨Nat.le_sub_one_of_lt hd, ?_, by omega⟩
                    have hA : W64 ≤ v1 * W64 + v2 := by
                      have : 1 * W64 ≤ v1 * W64 := Nat.mul_le_mul_right _ (by omega)
                      omega
                    have e1 := hg.out.e1
                    obtain ⟨p, hp⟩ : ∃ p, q1 = p + 1 := ⟨q1 - 1, by omega⟩
                    subst hp
                    rw [Nat.add_mul, Nat.one_mul] at e1
                    rw [Nat.add_sub_cancel]
                    refine kd_stop hVe2.out hv0.out hXe.out (kd_exit (r := r1' + v1) (by omega) ?_) (by omega) (Nat.lt_of_lt_of_le W64_pos hA) hP
                    have a1 : p * v2 ≤ W64 * W64 := Nat.mul_le_mul (by omega) (Nat.le_of_lt b3.out)
                    have a2 : W64 * W64 ≤ (r1' + v1) * W64 := Nat.mul_le_mul_right _ (by omega)
                    omega
                  obtain ⟨q2, hq2⟩ : ∃ x, x = q1 - 1 := ⟨_, rfl⟩
                  obtain ⟨r2', hr2'⟩ : ∃ x, x = r1' + v1 - W64 := ⟨_, rfl⟩
                  rw [← hq2] at F1 fin
                  rw [← hr2'] at F2 c1
                  replace ho := Lib.hid ho
                  replace hcmp := Lib.hid hcmp
                  replace hc := Lib.hid hc
                  replace hd := Lib.hid hd
                  replace hq2 := Lib.hid hq2
                  replace hr2' := Lib.hid hr2'
                  replace fin := Lib.hid fin
                  clear hr hv
                  go_wp2_with fail
                  refine G1.out.mono ?_
                  rintro e w4 ⟨rfl, rfl⟩
                  go_wp2_with fail
                  go_meet
                  exact ⟨q2, rfl, fin, rfl⟩
              · rw [decide_eq_false hc] at G1
                replace G1 := Lib.hid G1
                have hle := Nat.le_of_not_lt (fun h => hc (hcmp.2 h))
                replace hle := Lib.hid hle
                replace hcmp := Lib.hid hcmp
                replace hc := Lib.hid hc
                go_wp2_with fail
                refine G1.out.mono ?_
                rintro e w4 ⟨rfl, rfl⟩
                go_wp2_with fail
                go_meet
                have hA : W64 ≤ v1 * W64 + v2 := by
                  have : 1 * W64 ≤ v1 * W64 := Nat.mul_le_mul_right _ (by omega)
                  omega
                exact ⟨q1, rfl, ⟨hg.out.lo, kd_stop hVe2.out hv0.out hXe.out (kd_exit hg.out.e1 hle.out) (Nat.le_trans (Nat.le_of_lt hg.out.qr) hA) (Nat.lt_of_lt_of_le W64_pos hA) hP, hg.out.qr⟩, rfl⟩
          case rest =>
            obtain ⟨qh, rfl, hqh, rfl⟩ := hcut
            go_wp2_with fail
            go_meet
            exact ⟨qh, rfl, hqh, rfl⟩
      case rest =>
        obtain ⟨qh, rfl, hqh, rfl⟩ := hcut
        clear r1 r2 r3 f1 f2 f3 f4 f5 f6
        have hbt1 : bt ≠ bq := by have := hnew.out; have := hq.out.lt; omega
        have hbt2 : bt ≠ bu := by have := hnew.out; have := hu.out.lt; omega
        have hbt3 : bt ≠ bv := by have := hnew.out; have := hv.out.lt; omega
        have H1 := mulAddVWW_any bt 0 n lt.length bv 0 lv.length qh 0 lt' lv wr hW.out.t hW.out.v (by rw [hW.out.tl]; omega) (by omega) (fun e => (hbt3 e.symm).elim) hqh.out.2.2 W64_pos (by omega)
        replace H1 := Lib.hid H1
        go_wp2_with fail
        refine H1.out.mono ?_
        rintro e w4 ⟨c, l3, rfl, hv3, hc3, hs3⟩
        have r6 := hv3.blk.free n
        have r7 := hv3.blk.cell n (by rw [hv3.len, hW.out.tl]; omega)
        have hV4 := hv3.blk.set n c hc3
        have frt : Fr (fun k => k = bt) wr (w4.setCell ⟨bt, n, none⟩ (.int .u64 (c : Int))) := hv3.fr.trans (Fr.setCell (S := fun k => k = bt) _ _ _ (fun _ => rfl)) (fun _ _ => id)
        obtain ⟨w5, hw5⟩ : ∃ w5, w5 = w4.setCell ⟨bt, n, none⟩ (.int .u64 (c : Int)) := ⟨_, rfl⟩
        rw [← hw5] at hV4 frt
        have hu5 := hW.out.u.frame frt (fun e => hbt2 e.symm)
        have hprod : vl (l3.set n c) 0 (n + 1) = qh * V := by
          rw [vl_snoc, Nat.zero_add, gd_set _ _ _ _ (by rw [hv3.len, hW.out.tl]; omega), if_pos rfl, vl_congr (m := l3) (p := 0) (fun i hi => by rw [gd_set _ _ _ _ (by rw [hv3.len, hW.out.tl]; omega), if_neg (by omega)]), Nat.mul_comm (W64 ^ n), hs3, hVe.out, Nat.add_zero, Nat.mul_comm]
        have hl3 : (l3.set n c).length = lt.length := by simp [hv3.len, hW.out.tl]
        have c4 : w5.cell? ⟨bt, n, none⟩ = some (.int .u64 (c : Int)) := by
          have := hV4.cell n (by rw [hl3]; omega)
          rw [this]
          show some (Value.int _ ((gd (l3.set n c) n : Nat) : Int)) = _
          rw [gd_set _ _ _ _ (by rw [hv3.len, hW.out.tl]; omega), if_pos rfl]
        have hul : lu'.length = lu.length := hW.out.ul
        by_cases hjM : j = M
        · subst hjM
          have hXl : X < V := by rw [hX.out]; exact hI.out.first (by omega) hU.out
          have hX0 : X / V = 0 := Nat.div_eq_of_lt hXl
          have hVW : V < W64 ^ n := by rw [hVe.out]; exact vl_lt hv.out.ok 0 n
          have hq1 : qh ≤ 1 := by have := hqh.out.2.1; rw [hX0] at this; exact this
          have hqV : qh * V ≤ 1 * V := Nat.mul_le_mul_right _ hq1
          have hp2 := vl_snoc (l3.set n c) 0 n
          rw [hprod, Nat.zero_add, gd_set _ _ _ _ (by rw [hv3.len, hW.out.tl]; omega), if_pos rfl] at hp2
          obtain ⟨hc0, hpn⟩ := split_small hp2.symm (by omega)
          subst hc0
          have H2 := subVV_any bu j n (lu.length - j) bu j (lu.length - j) bt 0 lt.length lu' lu' (l3.set n 0) w5.drew hu5.drew hu5.drew hV4.drew (by omega) (by omega) (by rw [hl3]; omega) (fun _ => rfl) (fun e => (hbt2 e).elim) (by omega)
          replace H2 := Lib.hid H2
          have p1 : ((n : Int) + j < (j : Int) + ((n : Int) + 1)) := by omega
          have p2 : (j : Int) + (n : Int) ≤ lu.length := by omega
          have p3 : (j : Int) ≤ (j : Int) + (n : Int) := by omega
          have p4 : IntKind.i64.wrap ((j : Int) + (n : Int)) = (j : Int) + (n : Int) := IntWalk.i64_in _ (by omega)
          have p5 : ((j : Int) + (n : Int)).toNat = j + n := by omega
          have p6 : (n : Int) ≤ lt.length := by omega
          have p7 : (n : Int) + 1 - 1 = (n : Int) := by omega
          have p8 : (n : Int) < (n : Int) + 1 := by omega
          replace hv3 := Lib.hid hv3
          replace hs3 := Lib.hid hs3
          replace hc3 := Lib.hid hc3
          replace hV4 := Lib.hid hV4
          replace frt := Lib.hid frt
          replace hu5 := Lib.hid hu5
          replace hprod := Lib.hid hprod
          replace hl3 := Lib.hid hl3
          replace hul := Lib.hid hul
          replace hXl := Lib.hid hXl
          replace hX0 := Lib.hid hX0
          replace hVW := Lib.hid hVW
          replace hq1 := Lib.hid hq1
          replace hqV := Lib.hid hqV
          replace hp2 := Lib.hid hp2
          replace hpn := Lib.hid hpn
          subst hw5
          clear H1
          go_wp2_with fail
          refine wp_region_heads 15 (by kernel_rfl) (by kernel_rfl) ?_
          simp only [List.take_succ_cons, List.take_zero, List.drop_succ_cons, List.drop_zero]
          repeat (go_big_quiet_step (fail))
          refine wpQuiet_nil ?_
          clear p4
          go_wp2_with fail
          refine H2.out.mono ?_
          rintro e w6 ⟨cb, l6, rfl, hv6, hc6, hs6⟩
          clear H2
          have hcs : vl lu' j n = X := by
            have := hI.out.h0 rfl
            rw [hX.out, this]; unfold dvX; rw [Nat.mul_zero, Nat.add_zero]
          rw [hcs, hpn.out] at hs6
          obtain ⟨K0, K1⟩ := kd_sub hVp.out hqh.out.1 hqh.out.2.1 hs6 (vl_lt hv6.blk.ok j n) hc6
          have hl6 : l6.length = lu.length := by rw [hv6.len]; exact hul.out
          have hq6 : Blk w6 bq lq' := by
            have := hW.out.q.frame frt.out (fun e => hbt1 e.symm)
            exact (this.drew).frame hv6.fr dqu
          have hv6v : Blk w6 bv lv := by
            refine Blk.frame ?_ hv6.fr (fun e => duv e.symm)
            exact (hW.out.v.frame frt.out (fun e => hbt3 e.symm)).drew
          have hv6t : Blk w6 bt (l3.set n 0) := (hV4.out.drew).frame hv6.fr hbt2
          have fr6 : Fr (fun k => k = bq ∨ k = bu ∨ k = bt) w1 w6 := hW.out.fr.trans ((frt.out.mono (fun _ _ e => Or.inr (Or.inr e))).trans ((Fr.drewN _ _ 1).trans (hv6.fr.mono (fun _ _ e => Or.inr (Or.inl e))) (fun _ _ h => h)) (fun _ _ h => h)) (fun _ _ h => h)
          have kM := IntWalk.i64_in ((j : Int) + n) (by omega)
          have g5 : (j : Int) + (n : Int) - 1 = ((j + n - 1 : Nat) : Int) := by omega
          have g6 : ((j + n - 1 : Nat) : Int) < ((n + j : Nat) : Int) := by omega
          rcases (show cb = 0 ∨ cb = 1 by omega) with rfl | rfl
          · obtain ⟨k1, k2⟩ := K0 rfl
            have r8 : w6.cell? ⟨bu, j + n - 1, none⟩ = some (.int .u64 ((gd l6 (j + n - 1) : Nat) : Int)) := hv6.blk.cell _ (by rw [hl6]; omega)
            have fin : Hid (DbW w1 w6 bq bu bv bt lq lu lv lt lq' l6 (l3.set n 0)) := ⟨hq6, hv6.blk, hv6v, hv6t, hW.out.ql, hl6, hl3.out, fr6⟩
            have fin2 : Hid (DvI n j U V l6 lq' j (gd l6 (j + n - 1))) :=
              hI.out.step n2 hU.out (Nat.le_refl _) hVp.out (fun i hi => hv6.out i (by omega)) (by rw [← hX.out]; exact k2) (fun h => absurd h (Nat.lt_irrefl _)) (fun i hi => hv6.out i (by omega)) (fun h => absurd h (Nat.lt_irrefl _)) (fun _ => rfl)
            obtain rfl : qh = 0 := by rw [k1]; exact hX0.out
            replace hv6 := Lib.hid hv6
            replace K0 := Lib.hid K0
            replace K1 := Lib.hid K1
            replace hs6 := Lib.hid hs6
            replace hq6 := Lib.hid hq6
            replace fr6 := Lib.hid fr6
            replace hl6 := Lib.hid hl6
            replace hcs := Lib.hid hcs
            replace hv6v := Lib.hid hv6v
            replace hv6t := Lib.hid hv6t
            clear k1 k2
            obtain ⟨hn, hhn⟩ : ∃ x, x = gd l6 (j + n - 1) := ⟨_, rfl⟩
            rw [← hhn] at r8 fin2
            replace hhn := Lib.hid hhn
            go_wp2_with fail
            refine NoPanic.normal ?_
            go_wp2_with fail
            go_roundw
            case rel => exact ⟨j, hn, _, _, _, rfl, rfl, by omega, fin, fin2⟩
            case measure => simp [intOf]
          · obtain ⟨k1, k2⟩ := K1 rfl
            have H3 := addVV_any bu j n (lu.length - j) bu j (lu.length - j) bv 0 lv.length l6 l6 lv w6.drew hv6.blk.drew hv6.blk.drew hv6v.drew (by rw [hl6]; omega) (by rw [hl6]; omega) (by omega) (fun _ => rfl) (fun e => (duv e.symm).elim) (by omega)
            replace H3 := Lib.hid H3
            have p11 : (n : Int) ≤ lv.length := by omega
            obtain rfl : qh = 1 := by rw [k1, hX0.out]
            replace hv6 := Lib.hid hv6
            replace K0 := Lib.hid K0
            replace K1 := Lib.hid K1
            replace hs6 := Lib.hid hs6
            replace hq6 := Lib.hid hq6
            replace fr6 := Lib.hid fr6
            replace hl6 := Lib.hid hl6
            replace hcs := Lib.hid hcs
            replace k1 := Lib.hid k1
            replace k2 := Lib.hid k2
            replace hv6v := Lib.hid hv6v
            replace hv6t := Lib.hid hv6t
            go_wp2_with fail
            refine NoPanic.normal ?_
            go_wp2_with fail
            refine wp_region_heads 13 (by kernel_rfl) (by kernel_rfl) ?_
            simp only [List.take_succ_cons, List.take_zero, List.drop_succ_cons, List.drop_zero]
            repeat (go_big_quiet_step (fail))
            refine wpQuiet_nil ?_
            clear kM
            go_wp2_with fail
            refine H3.out.mono ?_
            rintro e w7 ⟨c7, l7, rfl, hv7, hc7, hs7⟩
            clear H3
            have hl7 : l7.length = lu.length := by rw [hv7.len, hl6.out]
            have a1 : vl l7 j n = X % V := by
              have h1 : vl l7 j n + c7 * W64 ^ n = X % V + W64 ^ n := by rw [← k2.out, hs7, hVe.out]
              have h2 := vl_lt hv7.blk.ok j n
              have h3 : X % V < W64 ^ n := Nat.lt_trans (Nat.mod_lt _ hVp.out) hVW.out
              rcases (show c7 = 0 ∨ c7 = 1 by omega) with rfl | rfl
              · rw [Nat.zero_mul] at h1; omega
              · rw [Nat.one_mul] at h1; omega
            have r8 : w7.cell? ⟨bu, j + n - 1, none⟩ = some (.int .u64 ((gd l7 (j + n - 1) : Nat) : Int)) := hv7.blk.cell _ (by rw [hl7]; omega)
            have fin : Hid (DbW w1 w7 bq bu bv bt lq lu lv lt lq' l7 (l3.set n 0)) :=
              ⟨hq6.out.drew.frame hv7.fr dqu, hv7.blk, hv6v.out.drew.frame hv7.fr (fun e => duv e.symm), hv6t.out.drew.frame hv7.fr hbt2, hW.out.ql, hl7, hl3.out,
                fr6.out.trans ((Fr.drewN _ w6 1).trans (hv7.fr.mono (fun _ _ e => Or.inr (Or.inl e))) (fun _ _ h => h)) (fun _ _ h => h)⟩
            have fin2 : Hid (DvI n j U V l7 lq' j (gd l7 (j + n - 1))) :=
              hI.out.step n2 hU.out (Nat.le_refl _) hVp.out (fun i hi => by rw [hv7.out i (by omega), hv6.out.out i (by omega)]) (by rw [← hX.out]; exact a1) (fun h => absurd h (Nat.lt_irrefl _)) (fun i hi => by rw [hv7.out i (by omega), hv6.out.out i (by omega)]) (fun h => absurd h (Nat.lt_irrefl _)) (fun _ => rfl)
            replace hv7 := Lib.hid hv7
            replace hs7 := Lib.hid hs7
            replace a1 := Lib.hid a1
            replace hl7 := Lib.hid hl7
            obtain ⟨hn, hhn⟩ : ∃ x, x = gd l7 (j + n - 1) := ⟨_, rfl⟩
            rw [← hhn] at r8 fin2
            replace hhn := Lib.hid hhn
            go_wp2_with fail
            refine NoPanic.normal ?_
            go_wp2_with fail
            go_roundw
            case rel => exact ⟨j, hn, _, _, _, rfl, rfl, by omega, fin, fin2⟩
            case measure => simp [intOf]
        · have hjl : j < M := by omega
          have H2 := subVV_any bu j (n + 1) (lu.length - j) bu j (lu.length - j) bt 0 lt.length lu' lu' (l3.set n c) w5.drew hu5.drew hu5.drew hV4.drew (by omega) (by omega) (by rw [hl3]; omega) (fun _ => rfl) (fun e => (hbt2 e).elim) (by omega)
          replace H2 := Lib.hid H2
          have p1 : ¬ ((n : Int) + M < (j : Int) + ((n : Int) + 1)) := by omega
          have p2 : (j : Int) + ((n : Int) + 1) ≤ lu.length := by omega
          have p3 : (j : Int) ≤ (j : Int) + ((n : Int) + 1) := by omega
          have p4 : IntKind.i64.wrap ((j : Int) + ((n : Int) + 1)) = (j : Int) + ((n : Int) + 1) := IntWalk.i64_in _ (by omega)
          have p5 : ((j : Int) + ((n : Int) + 1)).toNat = j + (n + 1) := by omega
          have p6 : (n : Int) + 1 ≤ lt.length := by omega
          replace hv3 := Lib.hid hv3
          replace hs3 := Lib.hid hs3
          replace hc3 := Lib.hid hc3
          replace hV4 := Lib.hid hV4
          replace frt := Lib.hid frt
          replace hu5 := Lib.hid hu5
          replace hprod := Lib.hid hprod
          replace hl3 := Lib.hid hl3
          replace c4 := Lib.hid c4
          replace hul := Lib.hid hul
          replace hw5 := Lib.hid hw5
          clear H1
          go_wp2_with fail
          rw [← hw5.out]
          refine wp_region_heads 15 (by kernel_rfl) (by kernel_rfl) ?_
          simp only [List.take_succ_cons, List.take_zero, List.drop_succ_cons, List.drop_zero]
          repeat (go_big_quiet_step (fail))
          refine wpQuiet_nil ?_
          clear p4
          go_wp2_with fail
          refine H2.out.mono ?_
          rintro e w6 ⟨cb, l6, rfl, hv6, hc6, hs6⟩
          clear H2
          have hcs : vl lu' j (n + 1) = X := by
            have := hI.out.h1 (by omega)
            rw [vl_snoc, hX.out, this, show j + 1 + n - 1 = j + n by omega]; rfl
          rw [hcs, hprod.out] at hs6
          obtain ⟨K0, K1⟩ := kd_sub hVp.out hqh.out.1 hqh.out.2.1 hs6 (vl_lt hv6.blk.ok j (n + 1)) hc6
          have hl6 : l6.length = lu.length := by rw [hv6.len]; exact hul.out
          have hq6 : Blk w6 bq lq' := by
            have := hW.out.q.frame frt.out (fun e => hbt1 e.symm)
            exact (this.drew).frame hv6.fr dqu
          have fr6 : Fr (fun k => k = bq ∨ k = bu ∨ k = bt) w1 w6 := hW.out.fr.trans ((frt.out.mono (fun _ _ e => Or.inr (Or.inr e))).trans ((Fr.drewN _ w5 1).trans (hv6.fr.mono (fun _ _ e => Or.inr (Or.inl e))) (fun _ _ h => h)) (fun _ _ h => h)) (fun _ _ h => h)
          have kM := IntWalk.i64_in ((j : Int) + n) (by omega)
          have g5 : (j : Int) + (n : Int) - 1 = ((j + n - 1 : Nat) : Int) := by omega
          have g6 : ((j + n - 1 : Nat) : Int) < ((n + M : Nat) : Int) := by omega
          have g7 : ((j : Int) == M) = false := by simp; omega
          have g8 : (j : Int) < M := by omega
          rcases (show cb = 0 ∨ cb = 1 by omega) with rfl | rfl
          · obtain ⟨k1, k2⟩ := K0 rfl
            have k3 := vl_snoc l6 j n
            have k4 : X % V < W64 ^ n := Nat.lt_of_lt_of_le (Nat.mod_lt _ hVp.out) (by rw [hVe.out]; exact Nat.le_of_lt (vl_lt hv.out.ok 0 n))
            obtain ⟨k5, k6⟩ := split_small (k3.symm.trans k2) k4
            have r8 : w6.cell? ⟨bu, j + n - 1, none⟩ = some (.int .u64 ((gd l6 (j + n - 1) : Nat) : Int)) := hv6.blk.cell _ (by rw [hl6]; omega)
            have r9 := hq6.free j
            have r10 := hq6.cell j (by rw [hW.out.ql]; omega)
            have fin : Hid (DbW w1 (w6.setCell ⟨bq, j, none⟩ (.int .u64 (qh : Int))) bq bu bv bt lq lu lv lt (lq'.set j qh) l6 (l3.set n c)) := by
              have hv6' : Blk w6 bv lv := by
                refine Blk.frame ?_ hv6.fr (fun e => duv e.symm)
                exact (hW.out.v.frame frt.out (fun e => hbt3 e.symm)).drew
              refine ⟨hq6.set j qh hqh.out.2.2, hv6.blk.setOther _ (fun e => dqu e.symm), hv6'.setOther _ (fun e => dqv e.symm), ?_, by simp [hW.out.ql], hl6, hl3.out, ?_⟩
              · refine Blk.setOther ?_ _ hbt1
                exact (hV4.out.drew).frame hv6.fr hbt2
              · exact fr6.trans (Fr.setCell (S := fun k => k = bq ∨ k = bu ∨ k = bt) _ _ _ (fun _ => Or.inl rfl)) (fun _ _ h => h)
            have fin2 : Hid (DvI n M U V l6 (lq'.set j qh) j (gd l6 (j + n - 1))) := by
              refine hI.out.step n2 hU.out (by omega) hVp.out (fun i hi => hv6.out i (by omega)) (by rw [← hX.out]; exact k6) (fun _ => k5) (fun i hi => hv6.out i (by omega)) (fun _ => ⟨?_, fun i hi => ?_⟩) (fun e => (hjM e).elim)
              · rw [gd_set _ _ _ _ (by rw [hW.out.ql]; omega), if_pos rfl, k1, hX.out]
              · rw [gd_set _ _ _ _ (by rw [hW.out.ql]; omega), if_neg (by omega)]
            replace hv6 := Lib.hid hv6
            replace K0 := Lib.hid K0
            replace K1 := Lib.hid K1
            replace hs6 := Lib.hid hs6
            replace hq6 := Lib.hid hq6
            replace fr6 := Lib.hid fr6
            replace hl6 := Lib.hid hl6
            replace hcs := Lib.hid hcs
            clear k1 k2 k3 k4 k5 k6
            obtain ⟨hn, hhn⟩ : ∃ x, x = gd l6 (j + n - 1) := ⟨_, rfl⟩
            rw [← hhn] at r8 fin2
            replace hhn := Lib.hid hhn
            go_wp2_with fail
            refine NoPanic.normal ?_
            go_wp2_with fail
            go_roundw
            case rel => exact ⟨j, hn, _, _, _, rfl, rfl, by omega, fin, fin2⟩
            case measure => simp [intOf]
          · obtain ⟨k1, k2⟩ := K1 rfl
            have hv6v : Blk w6 bv lv := by
              refine Blk.frame ?_ hv6.fr (fun e => duv e.symm)
              exact (hW.out.v.frame frt.out (fun e => hbt3 e.symm)).drew
            have hv6t : Blk w6 bt (l3.set n c) := (hV4.out.drew).frame hv6.fr hbt2
            have H3 := addVV_any bu j n (lu.length - j) bu j (lu.length - j) bv 0 lv.length l6 l6 lv w6.drew hv6.blk.drew hv6.blk.drew hv6v.drew (by rw [hl6]; omega) (by rw [hl6]; omega) (by omega) (fun _ => rfl) (fun e => (duv e.symm).elim) (by omega)
            replace H3 := Lib.hid H3
            have p7 : (j : Int) + (n : Int) ≤ lu.length := by omega
            have p8 : (j : Int) ≤ (j : Int) + (n : Int) := by omega
            have p10 : ((j : Int) + (n : Int)).toNat = j + n := by omega
            have p11 : (n : Int) ≤ lv.length := by omega
            replace hv6 := Lib.hid hv6
            replace K0 := Lib.hid K0
            replace K1 := Lib.hid K1
            replace hs6 := Lib.hid hs6
            replace hq6 := Lib.hid hq6
            replace fr6 := Lib.hid fr6
            replace hl6 := Lib.hid hl6
            replace hcs := Lib.hid hcs
            replace k1 := Lib.hid k1
            replace k2 := Lib.hid k2
            replace hv6v := Lib.hid hv6v
            replace hv6t := Lib.hid hv6t
            go_wp2_with fail
            refine NoPanic.normal ?_
            go_wp2_with fail
            refine wp_region_heads 13 (by kernel_rfl) (by kernel_rfl) ?_
            simp only [List.take_succ_cons, List.take_zero, List.drop_succ_cons, List.drop_zero]
            repeat (go_big_quiet_step (fail))
            refine wpQuiet_nil ?_
            clear kM
            go_wp2_with fail
            refine H3.out.mono ?_
            rintro e w7 ⟨c7, l7, rfl, hv7, hc7, hs7⟩
            clear H3
            have hl7 : l7.length = lu.length := by rw [hv7.len, hl6.out]
            have ht7 : gd l7 (j + n) = gd l6 (j + n) := hv7.out _ (by omega)
            have hVW : V < W64 ^ n := by rw [hVe.out]; exact vl_lt hv.out.ok 0 n
            obtain ⟨a1, a2⟩ := kd_back (vl_snoc l6 j n) k2.out (by rw [hVe.out]; exact hs7) (Nat.lt_trans (Nat.mod_lt _ hVp.out) hVW) (vl_lt hv7.blk.ok j n) rfl
            have r11 : w7.cell? ⟨bu, j + n, none⟩ = some (.int .u64 ((gd l6 (j + n) : Nat) : Int)) := by rw [← ht7]; exact hv7.blk.cell _ (by rw [hl7]; omega)
            have r12 := hv7.blk.free (j + n)
            have r13 : IntKind.u64.wrap (((gd l6 (j + n) : Nat) : Int) + (c7 : Int)) = 0 := by
              rw [wrapu_mod, ← Int.natCast_add, a2]; exact Int.emod_self
            have hb8 : Blk (w7.setCell ⟨bu, j + n, none⟩ (.int .u64 0)) bu (l7.set (j + n) 0) := hv7.blk.set (j + n) 0 W64_pos
            have fq7 := hq6.out.drew.frame hv7.fr dqu
            obtain ⟨w8, hw8⟩ : ∃ w8, w8 = w7.setCell ⟨bu, j + n, none⟩ (.int .u64 0) := ⟨_, rfl⟩
            rw [← hw8] at hb8
            have r8 : w8.cell? ⟨bu, j + n - 1, none⟩ = some (.int .u64 ((gd l7 (j + n - 1) : Nat) : Int)) := by
              have := hb8.cell (j + n - 1) (by simp [hl7]; omega)
              rw [this]
              show some (Value.int _ ((gd (l7.set (j + n) 0) (j + n - 1) : Nat) : Int)) = _
              rw [gd_set _ _ _ _ (by rw [hl7]; omega), if_neg (by omega)]
            have hq8 : Blk w8 bq lq' := by rw [hw8]; exact fq7.setOther _ dqu
            have hv8 : Blk w8 bv lv := by rw [hw8]; exact (hv6v.out.drew.frame hv7.fr (fun e => duv e.symm)).setOther _ (fun e => duv e.symm)
            have ht8 : Blk w8 bt (l3.set n c) := by rw [hw8]; exact (hv6t.out.drew.frame hv7.fr hbt2).setOther _ hbt2
            have fr8 : Fr (fun k => k = bq ∨ k = bu ∨ k = bt) w1 w8 := by
              rw [hw8]
              exact (fr6.out.trans ((Fr.drewN _ w6 1).trans (hv7.fr.mono (fun _ _ e => Or.inr (Or.inl e))) (fun _ _ h => h)) (fun _ _ h => h)).trans (Fr.setCell (S := fun k => k = bq ∨ k = bu ∨ k = bt) _ _ _ (fun _ => Or.inr (Or.inl rfl))) (fun _ _ h => h)
            have r9 := hq8.free j
            have r10 := hq8.cell j (by rw [hW.out.ql]; omega)
            obtain ⟨qd, hqd⟩ : ∃ x, x = X / V := ⟨_, rfl⟩
            have r14 : IntKind.u64.wrap ((qh : Int) - 1) = (qd : Int) := by
              rw [k1.out, ← hqd, show ((qd + 1 : Nat) : Int) - 1 = (qd : Int) by omega]
              exact wrapu _ (by have := hqh.out.2.2; rw [k1.out, ← hqd] at this; omega)
            have qdl : qd < W64 := by have := hqh.out.2.2; rw [k1.out, ← hqd] at this; omega
            have fin : Hid (DbW w1 (w8.setCell ⟨bq, j, none⟩ (.int .u64 (qd : Int))) bq bu bv bt lq lu lv lt (lq'.set j qd) (l7.set (j + n) 0) (l3.set n c)) :=
              ⟨hq8.set j qd qdl, hb8.setOther _ (fun e => dqu e.symm), hv8.setOther _ (fun e => dqv e.symm), ht8.setOther _ hbt1, by simp [hW.out.ql], by simp [hl7], hl3.out,
                fr8.trans (Fr.setCell (S := fun k => k = bq ∨ k = bu ∨ k = bt) _ _ _ (fun _ => Or.inl rfl)) (fun _ _ h => h)⟩
            have g2 : ∀ i, gd (l7.set (j + n) 0) i = if i = j + n then 0 else gd l7 i := fun i => gd_set _ _ _ _ (by rw [hl7]; omega)
            have fin2 : Hid (DvI n M U V (l7.set (j + n) 0) (lq'.set j qd) j (gd l7 (j + n - 1))) := by
              have e9 : gd (l7.set (j + n) 0) (j + n - 1) = gd l7 (j + n - 1) := by rw [g2, if_neg (by omega)]
              rw [← e9]
              refine hI.out.step n2 hU.out (by omega) hVp.out (fun i hi => ?_) ?_ (fun _ => by rw [g2, if_pos rfl]) (fun i hi => ?_) (fun _ => ⟨?_, fun i hi => ?_⟩) (fun e => (hjM e).elim)
              · rw [g2, if_neg (by omega), hv7.out i (by omega), hv6.out.out i (by omega)]
              · rw [← hX.out, ← a1]
                exact vl_congr (fun i hi => by rw [g2, if_neg (by omega)])
              · rw [g2, if_neg (by omega), hv7.out i (by omega), hv6.out.out i (by omega)]
              · rw [gd_set _ _ _ _ (by rw [hW.out.ql]; omega), if_pos rfl, hqd, hX.out]
              · rw [gd_set _ _ _ _ (by rw [hW.out.ql]; omega), if_neg (by omega)]
            replace hv7 := Lib.hid hv7
            replace hs7 := Lib.hid hs7
            replace hb8 := Lib.hid hb8
            replace fq7 := Lib.hid fq7
            replace hq8 := Lib.hid hq8
            replace hv8 := Lib.hid hv8
            replace ht8 := Lib.hid ht8
            replace fr8 := Lib.hid fr8
            replace g2 := Lib.hid g2
            replace qdl := Lib.hid qdl
            replace hqd := Lib.hid hqd
            replace hl7 := Lib.hid hl7
            replace ht7 := Lib.hid ht7
            replace hVW := Lib.hid hVW
            replace a1 := Lib.hid a1
            replace a2 := Lib.hid a2
            obtain ⟨hn, hhn⟩ : ∃ x, x = gd l7 (j + n - 1) := ⟨_, rfl⟩
            rw [← hhn] at r8 fin2
            replace hhn := Lib.hid hhn
            subst hw8
            obtain ⟨tn, htn⟩ : ∃ x, x = gd l6 (j + n) := ⟨_, rfl⟩
            rw [← htn] at r11 r13
            replace htn := Lib.hid htn
            go_wp2_with fail
            refine NoPanic.normal ?_
            go_wp2_with fail
            go_roundw
            case rel => exact ⟨j, hn, _, _, _, rfl, rfl, by omega, fin, fin2⟩
            case measure => simp [intOf]
end Go.Proofs.YtcpjclakdpjjfaaGreatDoor


/-
  A part of the proof of FnQuantityAgain (texts Rj of mine, joined).
-/
import Derived.Test.YtcpjclakdpjjfaaGreatDoorM34
import Derived.Test.YtcpjclakdpjjfaaGreatDoorM35
namespace Go.Proofs.YtcpjclakdpjjfaaGreatDoor
open Go.RowKit

theorem i64_and7 (n : Int) : bits .and .i64 n 7 = n % 8 := by
  show IntKind.i64.wrap ((BitVec.ofInt 64 n &&& BitVec.ofInt 64 7).toNat : Int) = n % 8
  have h7 : (BitVec.ofInt 64 7).toNat = 2 ^ 3 - 1 := by decide
  rw [BitVec.toNat_and, h7, Nat.and_two_pow_sub_one_eq_mod, BitVec.toNat_ofInt, IntKind.wrap_i64]
  omega
theorem field36 (p : Nat) (w : World) : (Instr.field 36 (.agg #[.pointer (some ⟨p, 0, none⟩)]) 0).run Tryz.prog w = .ok (.pointer (some ⟨p, 0, none⟩)) w := by kernel_rfl
theorem pow_facts {x : Int} (hx : x = 10 ∨ x = 20 ∨ x = 30 ∨ x = 40 ∨ x = 50 ∨ x = 60) : wrap64 ((2 : Int) ^ x.toNat) = ((2 ^ x.toNat : Nat) : Int) ∧ 1 ≤ 2 ^ x.toNat ∧ 2 ^ x.toNat < 2 ^ 63 ∧ Int.tmod x 10 = 0 := by
  rcases hx with rfl | rfl | rfl | rfl | rfl | rfl <;> exact ⟨by decide +kernel, by decide +kernel, by decide +kernel, by decide⟩

set_option maxRecDepth 100000 in
set_option maxHeartbeats 2000000 in
theorem parse_bin (s : ByteArray) (l : List UInt8) (p : Pq) (a0 a1 a2 : Addr) (pe ps pr : Value) (w : World) (hG : GW w a0 a1 a2 pe ps pr) (hl : s.data.toList = l) (hne : l ≠ []) (h48 : l ≠ [48]) (hlen : l.length ≤ 200) (hsl : p.suf.length ≤ 200)
    (hsp : splitQ l = some p) (x : Int) (hsf : sufQ p.suf = some (2, x, 1)) (hB : PB p 2 x) :
    Calls Tryz.prog 10 #[.string s] w (PqEnd w a0 a1 l) := by
  have hs : s.size = l.length := by rw [← hl]; simp
  have hsl0 := Lib.hid hl
  have b1 := str_ne48 hl h48
  have n1 := nil_neq_nil41
  have mi := method_interp
  have S := Lib.hid (fun w' (f : Fr (fun _ => False) w w') => splitString_any s l (.iface 204 (.pointer (some a0))) w' hl hne hlen (hG.frame f).c0)
  have N := Lib.hid newSuffixer_any
  have I := Lib.hid (fun q w' (hq : SufAt w' q) (f : Fr (fun _ => False) w w') => interp_any q (tx p.suf) p.suf w' hq (tx_list _) hsl (fun b' x' f' h => by rw [hsf] at h; cases h; exact hB.xlen) _ _ (hG.frame f).syn _ _ (hG.frame f).rng)
  have hGf := Lib.hid (fun w' (f : Fr (fun _ => False) w w') => hG.frame f)
  have fA : Hid (∀ o, Fr (fun _ => False) w (w.alloc o)) := fun o => Fr.alloc _ _ _
  have hpq : parseQ l = .ok (makeQ l p 2 x 1) := by unfold parseQ; rw [if_neg hne, if_neg h48, hsp]; simp only [hsf]
  obtain ⟨n, hn⟩ : ∃ n, n = l.length := ⟨_, rfl⟩
  rw [← hn] at hs
  have hn0 : 0 < n := by rw [hn]; cases l with | nil => exact absurd rfl hne | cons a t => simp
  have hnz : ((n : Int) == 0) = false := beq_eq_false_iff_ne.mpr (by omega)
  replace hn := Lib.hid hn
  replace hpq := Lib.hid hpq
  have hsz := hG.sz
  clear hl hne h48 hlen hG hsl
  go_enter Tryz.func10, Tryz.ntmps10
  go_wp2_with fail
  refine (S.out _ (fA.out _)).mono ?_
  rintro e w1 ⟨f1, hm⟩
  rw [hsp] at hm
  simp only at hm
  subst hm
  obtain ⟨g, hg⟩ : ∃ g, g = w.heap.size := ⟨_, rfl⟩
  have hat : w1.heap[g]? = some (.cells zeroQ 39 (0, 0)) := by rw [hg]; exact (f1.block _ (by simp) (fun f => f)).trans (heap_alloc_new _ _)
  have hF1 := Lib.hid ((fA.out zobj).trans f1 (fun _ _ h => h))
  have hgw : w.heap.size ≤ g := Nat.le_of_eq hg.symm
  rw [← hg]
  replace hg := Lib.hid hg
  replace f1 := Lib.hid f1
  obtain ⟨SUF, hSUF⟩ : ∃ S, S = tx p.suf := ⟨_, rfl⟩
  obtain ⟨NUM, hNUM⟩ : ∃ S, S = tx p.num := ⟨_, rfl⟩
  obtain ⟨DEN, hDEN⟩ : ∃ S, S = tx p.denom := ⟨_, rfl⟩
  obtain ⟨VAL, hVAL⟩ : ∃ S, S = tx p.value := ⟨_, rfl⟩
  rw [← hSUF] at I
  obtain ⟨POS, hPOS⟩ : ∃ P, P = p.pos := ⟨_, rfl⟩
  rw [← hSUF, ← hNUM, ← hDEN, ← hVAL, ← hPOS]
  replace hPOS := Lib.hid hPOS
  replace hSUF := Lib.hid hSUF
  replace hNUM := Lib.hid hNUM
  replace hDEN := Lib.hid hDEN
  replace hVAL := Lib.hid hVAL
  clear S
  go_wp2_with fail
  refine (N.out _).mono ?_
  rintro e w2 ⟨q, rfl, hq, f2⟩
  have hat2 : w2.heap[g]? = some (.cells zeroQ 39 (0, 0)) := (f2.block _ (Array.getElem?_eq_some_iff.1 hat).1 (fun f => f)).trans hat
  have hF2 := Lib.hid (hF1.out.trans f2 (fun _ _ h => h))
  have I2 := Lib.hid (I.out q w2 hq hF2.out)
  replace hq := Lib.hid hq
  replace f2 := Lib.hid f2
  clear hat N I
  go_wp2_with fail
  refine I2.out.mono ?_
  rintro e w3 ⟨f3, hm⟩
  rw [hsf] at hm
  simp only at hm
  subst hm
  have hat3 : w3.heap[g]? = some (.cells zeroQ 39 (0, 0)) := (f3.block _ (Array.getElem?_eq_some_iff.1 hat2).1 (fun f => f)).trans hat2
  have hF3 := Lib.hid (hF2.out.trans f3 (fun _ _ h => h))
  have hG3 := Lib.hid (hGf.out w3 hF3.out)
  replace f3 := Lib.hid f3
  clear hat2 I2 hGf
  have hx6 : x = 10 ∨ x = 20 ∨ x = 30 ∨ x = 40 ∨ x = 50 ∨ x = 60 := by
    rcases sufQ_cases hsf with ⟨e, _⟩ | ⟨_, _, e⟩ | ⟨e, _⟩
    · exact absurd e (by decide)
    · exact e
    · exact absurd e (by decide)
  obtain ⟨F, hF⟩ : ∃ F, F = fmtT 1 := ⟨_, rfl⟩
  have bB : (F.toList == [66, 105, 110, 97, 114, 121, 83, 73]) = true := by rw [hF, Lib.toList_data]; rfl
  have bE : (F.toList == [68, 101, 99, 105, 109, 97, 108, 69, 120, 112, 111, 110, 101, 110, 116]) = false := by rw [hF, Lib.toList_data]; rfl
  have bD : (F.toList == [68, 101, 99, 105, 109, 97, 108, 83, 73]) = false := by rw [hF, Lib.toList_data]; rfl
  rw [← hF]
  replace hF := Lib.hid hF
  replace hat3 := Lib.hid hat3
  replace hsp := Lib.hid hsp
  obtain ⟨nN, hnN⟩ : ∃ k, k = p.num.length := ⟨_, rfl⟩
  obtain ⟨nD, hnD⟩ : ∃ k, k = p.denom.length := ⟨_, rfl⟩
  have sN : NUM.size = nN := by rw [hNUM.out, hnN, tx_size]
  have sD : DEN.size = nD := by rw [hDEN.out, hnD, tx_size]
  have lN : nN ≤ 200 := by rw [hnN]; exact hB.nlen
  have lD : nD ≤ 100 := by rw [hnD]; exact hB.dlen
  have xl1 : 10 ≤ x := by omega
  have xl2 : x ≤ 60 := by omega
  obtain ⟨c1, c2, c3, k1, k2, k3, k4⟩ := f32_facts hx6
  obtain ⟨D, hD⟩ : ∃ D, D = x * 3 / 10 := ⟨_, rfl⟩
  have D1 : 3 ≤ D := by omega
  have D2 : D ≤ 18 := by omega
  rw [← hD] at k4
  obtain ⟨Mn, hMn⟩ : ∃ M : Nat, M = 2 ^ x.toNat := ⟨_, rfl⟩
  obtain ⟨hw2, hM1, hM2, hx10⟩ := pow_facts hx6
  rw [← hMn] at hw2 hM1 hM2
  replace hw2 := Lib.hid hw2
  replace hM1 := Lib.hid hM1
  replace hM2 := Lib.hid hM2
  replace hnN := Lib.hid hnN
  replace hnD := Lib.hid hnD
  replace hx6 := Lib.hid hx6
  replace hD := Lib.hid hD
  replace hMn := Lib.hid hMn
  replace hB := Lib.hid hB
  replace hsf := Lib.hid hsf
  go_upto_block 0 with fail
  go_cut [14, 15, 16] from 65 to 100 (fun pv sv mv wx => ∃ P M : Int, pv = .int .i32 P ∧ sv = .int .i32 0 ∧ mv = .int .i64 M ∧ Hid ((nD = 0 ∧ P = 15 - (nN : Int) - D - 1 ∧ M = (Mn : Int)) ∨ (nD ≠ 0 ∧ P = -1)) ∧ -300 ≤ P ∧ P ≤ 100 ∧ w3 = wx)
  case first =>
    cases hzb : ((nD : Int) == 0) with
    | true =>
      have hz : nD = 0 := by have := eq_of_beq hzb; omega
      replace hz := Lib.hid hz
      go_wp2_with fail
      go_meet
      exact ⟨15 - (nN : Int) - D - 1, (Mn : Int), rfl, rfl, by rw [hw2.out], Or.inl ⟨hz.out, rfl, rfl⟩, by omega, by omega, rfl⟩
    | false =>
      have hz : nD ≠ 0 := by have := ne_of_beq_false hzb; omega
      replace hz := Lib.hid hz
      go_wp2_with fail
      go_meet
      exact ⟨-1, 1, rfl, rfl, rfl, Or.inr ⟨hz.out, rfl⟩, by omega, by omega, rfl⟩
  case rest =>
    obtain ⟨P, M, rfl, rfl, rfl, hPM, P1, P2, rfl⟩ := hcut
    clear k1 k2 k3 k4 D1 D2
    go_upto_if 102 with fail
    go_cut [15, 17, 18, 19, 20, 21] from 102 to 173 (fun _ _ _ _ _ _ wx => Hid (¬ (nD = 0 ∧ 0 ≤ 15 - (nN : Int) - D - 1)) ∧ w3 = wx)
    case first =>
      by_cases hp : 0 ≤ P
      · have hPM' : nD = 0 ∧ P = 15 - (nN : Int) - D - 1 ∧ M = (Mn : Int) := by
          rcases hPM.out with h | ⟨_, h⟩
          · exact h
          · omega
        obtain ⟨hz, rfl, rfl⟩ := hPM'
        subst hz
        rw [decide_eq_true hp]
        have SF := split_fine hsp.out
        have hdig : ∀ c ∈ p.num ++ p.denom, isDg c = true := by
          intro c hc
          rcases List.mem_append.1 hc with h | h
          · exact SF.num c h
          · exact SF.den c h
        have hne2 : p.num ++ p.denom ≠ [] := fun e => SF.ne (List.append_eq_nil_iff.1 e).1
        have hden : p.denom = [] := List.eq_nil_of_length_eq_zero hnD.out.symm
        obtain ⟨dv, hdv⟩ : ∃ d, d = decV (p.num ++ p.denom) := ⟨_, rfl⟩
        have hll : (p.num ++ p.denom).length = nN := by rw [hden, List.append_nil]; exact hnN.out.symm
        have hdvn : dv < 10 ^ nN := by rw [hdv, ← hll]; exact decV_lt _ hdig
        have hpx : 0 ≤ (15 : Int) - nN - x * 3 / 10 - 1 := by rw [← hD.out]; exact hp
        have hfit : dv * Mn ≤ maxQ := by
          rw [hMn.out]
          have hxt : (x.toNat : Int) = x := by omega
          exact bin_fits hdvn (by rcases hx6.out with e | e | e | e | e | e <;> subst e <;> decide) (by rw [hxt]; exact hpx)
        have hdv1 : dv < 10 ^ 18 := Nat.lt_of_lt_of_le hdvn (Nat.pow_le_pow_right (by omega) (by omega))
        have hSl : (NUM ++ DEN).data.toList = p.num ++ p.denom := by
          rw [hNUM.out, hDEN.out]; simp [tx]
        have hSs : (NUM ++ DEN).size = nN + 0 := by
          rw [ByteArray.size_append, sN, sD]
        have P19 := Lib.hid (Tryz.strconv_ParseInt_10_at64_ok (NUM ++ DEN) (by omega) (dv : Int) (by rw [hSl, hdv]; exact parseI_dg _ hdig hne2 (by rw [← hdv]; omega)) w3)
        have hM2' := hM2.out
        have hM1' := hM1.out
        have M := Lib.hid (fun w' => mult_ok dv Mn (by unfold maxQ at hfit; omega) (by omega) (by omega) (by omega) w')
        clear hM2' hM1'
        obtain ⟨pr, hpr⟩ : ∃ r, r = dv * Mn := ⟨_, rfl⟩
        rw [← hpr] at M
        have hprb : pr ≤ 9223372036854775807 := by rw [hpr]; exact hfit
        replace hprb := Lib.hid hprb
        replace hpr := Lib.hid hpr
        obtain ⟨R, hR⟩ : ∃ R : Int, R = if POS then (pr : Int) else -(pr : Int) := ⟨_, rfl⟩
        obtain ⟨z, hz⟩ : ∃ z, z = (dv % 8 == 0) := ⟨_, rfl⟩
        have kand : bits .and .i64 (dv : Int) 7 = ((dv % 8 : Nat) : Int) := by rw [i64_and7]; omega
        obtain ⟨d8, hd8⟩ : ∃ d : Nat, d = dv % 8 := ⟨_, rfl⟩
        rw [← hd8] at kand hz
        replace hd8 := Lib.hid hd8
        replace hdv := Lib.hid hdv
        replace hSl := Lib.hid hSl
        replace hR := Lib.hid hR
        replace hdig := Lib.hid hdig
        replace hll := Lib.hid hll
        replace hdvn := Lib.hid hdvn
        replace hdv1 := Lib.hid hdv1
        replace hfit := Lib.hid hfit
        replace hden := Lib.hid hden
        replace hpx := Lib.hid hpx
        clear SF hne2
        go_wp2_with fail
        refine P19.out.mono ?_
        rintro e w4 ⟨rfl, hw4⟩
        have f4 : Fr (fun _ => False) w3 w4 := by
          rcases hw4 with rfl | ⟨t, rfl⟩
          · exact Fr.refl _ _
          · exact Fr.of_below (Lib.bytesWorld_below _ _ _)
        have F4 := Lib.hid (hF3.out.trans f4 (fun _ _ h => h))
        have hat4 : w4.heap[g]? = some (.cells zeroQ 39 (0, 0)) := (f4.block _ (Array.getElem?_eq_some_iff.1 hat3.out).1 (fun f => f)).trans hat3.out
        replace hat4 := Lib.hid hat4
        replace f4 := Lib.hid f4
        clear hw4 P19
        go_wp2_with fail
        refine (M.out _).mono ?_
        rintro e w5 ⟨rfl, nd, rfl⟩
        have F5 := Lib.hid (F4.out.trans (Fr.drewN (fun _ => False) w4 nd) (fun _ _ h => h))
        have hat5 : (w4.drewN nd).heap[g]? = some (.cells zeroQ 39 (0, 0)) := hat4.out
        obtain ⟨w5, hw5⟩ : ∃ w5, w5 = w4.drewN nd := ⟨_, rfl⟩
        rw [← hw5] at F5 hat5 ⊢
        replace hw5 := Lib.hid hw5
        go_upto_if 130 with fail
        go_cut [20] from 131 to 132 (fun rv wx => rv = .int .i64 R ∧ w5 = wx)
        case first =>
          have hprb' := hprb.out
          have hw0 : wrap64 (-(pr : Int)) = -(pr : Int) := by unfold wrap64; omega
          clear hprb'
          have kneg := neg64_run (w := w5) hw0
          replace hw0 := Lib.hid hw0
          cases POS with
          | true =>
            have hR1 : R = (pr : Int) := hR.out
            replace hR1 := Lib.hid hR1
            go_wp2_with fail
            go_meet
            exact ⟨by rw [hR1.out], rfl⟩
          | false =>
            have hR1 : R = -(pr : Int) := hR.out
            replace hR1 := Lib.hid hR1
            go_wp2_with fail
            go_meet
            exact ⟨by rw [hR1.out, hw0.out], rfl⟩
        case rest =>
          obtain ⟨rfl, rfl⟩ := hcut
          have hzq : ((d8 : Int) != 0) = !z := by rw [hz]; cases d8 <;> rfl
          have FIN : Hid (∀ w', Fr (fun _ => False) w w' → ∀ str, str = (if !z then s else { data := #[] }) → PqEnd w a0 a1 l (.returned (.tuple #[.agg #[.int .i64 R, .int .i32 0, .pointer none, .string str, .string F], .nilIface])) w') := by
            intro w' fr' str hstr
            refine ⟨fr', ?_⟩
            rw [hpq.out]
            refine ⟨_, rfl, Or.inl ?_⟩
            have hst : s = tx l := by rw [← hsl0.out, tx_of]
            have hx1 : decide (x % 10 = 0) = true := by rcases hx6.out with e | e | e | e | e | e <;> subst e <;> rfl
            rw [make_bin_fast l p x hden.out (by rw [← hnN.out]; exact hpx.out), hx1, ← hdv.out, ← hMn.out, ← hd8.out, ← hz, ← hpr.out, ← hPOS.out, ← hR.out]
            refine ⟨rfl, ?_⟩
            rw [hstr, hF.out]
            unfold qv
            congr 3
            rw [hst]
            cases z <;> rfl
          replace hz := Lib.hid hz
          cases z with
          | true =>
            go_wp2_with (first | (refine wpList_store5 w5 rfl _ _ rfl g rfl _ _ _ _ _ rfl _ hat5 rfl ?_; intro w6 hat6 f6) | fail)
            go_wp2_with fail
            refine bodyPost_ret (results_q _ _ g 39 _ (0, 0) rfl hat6 rfl) rfl ?_
            exact FIN.out w6 (F5.out.trans f6 (fun k hk e => by omega)) _ rfl
          | false =>
            go_wp2_with (first | (refine wpList_store5 w5 rfl _ _ rfl g rfl _ _ _ _ _ rfl _ hat5 rfl ?_; intro w6 hat6 f6) | fail)
            go_wp2_with fail
            refine bodyPost_ret (results_q _ _ g 39 _ (0, 0) rfl hat6 rfl) rfl ?_
            exact FIN.out w6 (F5.out.trans f6 (fun k hk e => by omega)) _ rfl
      · rw [decide_eq_false hp]
        go_wp2_with fail
        go_meet
        refine ⟨fun h => ?_, rfl⟩
        rcases hPM.out with ⟨_, e, _⟩ | ⟨e, _⟩
        · have := h.2; omega
        · exact e h.1
    case rest =>
      obtain ⟨hslow, rfl⟩ := hcut
      obtain ⟨ea, hea⟩ := hG3.out.eof
      have hgk := Lib.hid hG3.out.gk
      have hB1 := hB.out
      have hval : ∃ sg d1 dt, ValT p.value sg d1 dt p.denom ∧ decV (d1 ++ p.denom) = decV (p.num ++ p.denom) ∧ (decide (sg = [45]) = !p.pos) := by
        rcases split_val hsp.out hB1.dig with ⟨_, e2, e3, e4⟩ | h
        · exfalso
          have hs' := hsf.out
          rw [e4] at hs'
          have : sufQ [] = some (10, 0, 2) := by decide
          rw [this] at hs'
          simp at hs'
        · exact h
      obtain ⟨sg, d1, dt, V, hdV, hsgn⟩ := hval
      have h3s : 17 ≤ w3.heap.size := hG3.out.sz
      obtain ⟨pz, hpz⟩ : ∃ p, p = w3.heap.size := ⟨_, rfl⟩
      obtain ⟨wA, hwA⟩ : ∃ wA, wA = w3.alloc (.cells #[.bool false, .slice none 0 0, .int .i32 0] 73) := ⟨_, rfl⟩
      obtain ⟨dv0, hdv0⟩ : ∃ d, d = decV (p.num ++ p.denom) := ⟨_, rfl⟩
      obtain ⟨dv, hdv⟩ : ∃ d, d = dv0 * Mn := ⟨_, rfl⟩
      have hbx := IntC.boxed3 w3 73 (.int .i32 0)
      have fA3 : Fr (fun _ => False) w3 wA := by rw [hwA]; exact Fr.alloc _ _ _
      rw [← hwA, ← hpz] at hbx
      have S3 := am_set (w0 := w3) pz VAL p.value sg d1 dt p.denom ea wA (by rw [hVAL.out, tx_list]) V hB1.vlen hbx.1 hbx.2 ((fA3.cell (p := ⟨3, 0, none⟩) (by show 3 < _; omega) (fun f => f)).trans hea) fA3 (by omega) (by omega)
      rw [hdV, hsgn, ← hPOS.out, ← hdv0, ← hnD.out] at S3
      replace S3 := Lib.hid S3
      have hdvx : dv = decV (p.num ++ p.denom) * 2 ^ x.toNat := by rw [hdv, hdv0, hMn.out]
      obtain ⟨p3, p4, p5⟩ := pb_bin hB1 hnD.out hdvx
      have hM1' := hM1.out
      have b0 : dv0 < W64 ^ 30 := by
        have : dv0 ≤ dv0 * Mn := Nat.le_mul_of_pos_right _ (by omega)
        exact Nat.lt_of_le_of_lt this (by rw [← hdv]; exact Nat.lt_trans p3 TOP_W)
      have bM : Mn < W64 ^ 30 := Nat.lt_trans hM2.out (by unfold W64; decide +kernel)
      have hslow2 := Lib.hid (make_bin_slow l p x (by
        rintro ⟨e1, e2⟩
        refine hslow.out ⟨?_, ?_⟩
        · rw [hnD.out, e1]; rfl
        · rw [hnN.out, hD.out]; exact e2))
      have fd36 := field36
      have RU := Lib.hid (fun w => roundUp_any w)
      have IN9 := Lib.hid (fun w => infScale_any (-9) (by omega) (by omega) w)
      have MX := Lib.hid (fun w => maxAllowed_any w)
      have ND1 := Lib.hid (fun w => newDec_any 1 0 (by omega) (by omega) w)
      have ND0 := Lib.hid (fun w => newDec_any 0 0 (by omega) (by omega) w)
      have hgl : g < w3.heap.size := (Array.getElem?_eq_some_iff.1 hat3.out).1
      have FIN : Hid (∀ w' w'' z e fm G, Am w3 w' pz z e → Fr (fun k => k = g) w' w'' → slowQ POS dv (-(nD : Int)) 1 = ⟨true, z, -e, fm, []⟩ → G = fmtT fm →
          PqEnd w a0 a1 l (.returned (.tuple #[.agg #[.int .i64 0, .int .i32 0, .pointer (some ⟨pz, 0, none⟩), .string { data := #[] }, .string G], .nilIface])) w'') := by
        intro w' w'' z e fm G hA hf hq hGf
        have hs3 := hF3.out.size
        refine ⟨((hF3.out.trans hA.fr (fun _ _ h => h)).trans hf (fun k hk e => by omega)), ?_⟩
        rw [hpq.out, hslow2.out, ← hPOS.out, ← hdvx, ← hnD.out, hq]
        obtain ⟨ob, hd, _, hp, hb⟩ := hA
        refine ⟨_, rfl, Or.inr ⟨rfl, pz, ob, ?_, ?_, by omega, fun b e => by have := hb b e; omega⟩⟩
        · rw [hGf]; rfl
        · show DecAt w'' pz z (-(-e)) ob
          rw [Int.neg_neg]
          exact hd.frame hf (by omega) (fun b e => by have := hb b e; omega)
      have HT : Hid (∀ w' z e, Am w3 w' pz z e → w'.heap[g]? = some (.cells zeroQ 39 (0, 0))) := fun w' z e h => (h.fr.block g hgl (fun f => f)).trans hat3.out
      have hm1 : Hid (∀ w1 w2 z e q o, Am w3 w1 pz z e → Fr (fun _ => False) w1 w2 → DecAt w2 q 9223372036854775807 0 o → w1.heap.size ≤ q → 0 ≤ e → e ≤ 160 → z.natAbs < W64 ^ 30 →
          Calls Tryz.prog 36 #[.pointer (some ⟨pz, 0, none⟩), .pointer (some ⟨q, 0, none⟩)] w2 fun r w' => r = .returned (.int .i64 (cmpZ z (9223372036854775807 * ((10 ^ (e - 0).toNat : Nat) : Int)))) ∧ Fr (fun _ => False) w2 w') :=
        fun w1 w2 z e q o hA f hq hl h1 h2 hz => am_cmpNew hA hA.lt f hq hl (by omega) (by omega) h2 hz b_max (hgk.out.frame (hA.fr.trans f (fun _ _ h => h)) (fun _ h => h.elim))
      have hm2 : Hid (∀ w1 w2 z e q o y, y = 0 ∨ y = 1 → Am w3 w1 pz z e → Fr (fun _ => False) w1 w2 → DecAt w2 q y 0 o → w1.heap.size ≤ q → 0 ≤ e → e ≤ 160 → z.natAbs < W64 ^ 30 →
          Calls Tryz.prog 36 #[.pointer (some ⟨pz, 0, none⟩), .pointer (some ⟨q, 0, none⟩)] w2 fun r w' => r = .returned (.int .i64 (cmpZ z (y * ((10 ^ (e - 0).toNat : Nat) : Int)))) ∧ Fr (fun _ => False) w2 w') :=
        fun w1 w2 z e q o y hy hA f hq hl h1 h2 hz => am_cmpNew hA hA.lt f hq hl (by omega) (by omega) h2 hz (by rcases hy with rfl | rfl; exact b_nil; exact b_one) (hgk.out.frame (hA.fr.trans f (fun _ _ h => h)) (fun _ h => h.elim))
      replace hslow := Lib.hid hslow
      replace hdvx := Lib.hid hdvx
      replace hB1 := Lib.hid hB1
      replace hdv0 := Lib.hid hdv0
      replace b0 := Lib.hid b0
      replace bM := Lib.hid bM
      replace p3 := Lib.hid p3
      replace p4 := Lib.hid p4
      replace p5 := Lib.hid p5
      have hdv' := Lib.hid hdv
      clear V hbx hdV hsgn h3s hea fA3 hsz hM1' hdv hPM
      go_wp2_with fail
      rw [← hwA, ← hpz]
      replace hwA := Lib.hid hwA
      replace hpz := Lib.hid hpz
      refine S3.out.mono ?_
      rintro e w4 ⟨rfl, A1⟩
      have NI := Lib.hid (newInt_im (Fr.refl (fun _ => False) w4) 1 (by omega) (by omega))
      have A1f := A1.fr
      replace A1 := Lib.hid A1
      clear S3
      unfold ptr
      go_wp2_with fail
      refine NI.out.mono ?_
      rintro e w5 ⟨pA, rfl, i1, f5, l5⟩
      have NI2 := Lib.hid (newInt_im i1.fr 1 (by omega) (by omega))
      have i1l := i1.lt
      replace i1 := Lib.hid i1
      replace f5 := Lib.hid f5
      clear NI
      unfold ptr
      go_wp2_with fail
      refine NI2.out.mono ?_
      rintro e w6 ⟨pB, rfl, i2, f6, l6⟩
      have i1' := i1.out.frame f6
      have hxc : (x.toNat : Int) = x := by omega
      have LS := lsh_im i1' i2 (by omega) x.toNat (by omega) (by omega)
      rw [hxc, ← hMn.out] at LS
      replace LS := Lib.hid LS
      replace i2 := Lib.hid i2
      replace f6 := Lib.hid f6
      clear NI2 i1 i1' hxc
      unfold ptr
      go_wp2_with fail
      refine LS.out.mono ?_
      rintro e w7 ⟨rfl, i3⟩
      have A2 := A1.out.frame i3.fr
      have ML := am_mul A2 (Im.mono A1f i3) (by have := A2.lt; have := A1.out.lt; omega) (by rw [sgn_natAbs]; exact b0.out) (by rw [Int.natAbs_natCast]; exact bM.out) (hgk.out.frame A2.fr (fun _ h => h.elim))
      have hsm : sgn (!POS) dv0 * (Mn : Int) = sgn (!POS) dv := by
        rw [hdv'.out]; unfold sgn; split
        · rw [Int.neg_mul, Int.natCast_mul]
        · rw [Int.natCast_mul]
      rw [hsm] at ML
      have DB := Lib.hid (fun w => dBig_any pz w)
      have SB := Lib.hid (fun w => dSetBig_same pz w)
      replace ML := Lib.hid ML
      replace A2 := Lib.hid A2
      replace i3 := Lib.hid i3
      clear LS A1 i2 A1f hsm i1l l5 l6
      unfold ptr
      go_wp2_with fail
      refine (DB.out _).mono ?_
      rintro e w8 ⟨rfl, hw⟩
      subst hw
      unfold ptr
      go_wp2_with fail
      refine ML.out.mono ?_
      rintro e w9 ⟨rfl, A3⟩
      replace A3 := Lib.hid A3
      clear ML A2 i3
      unfold ptr
      go_wp2_with fail
      refine (SB.out _).mono ?_
      rintro e w10 ⟨rfl, hw⟩
      subst hw
      have C3 := Lib.hid (am_sign A3.out)
      clear SB DB
      go_wp2_with fail
      refine C3.out.mono ?_
      rintro e w11 ⟨rfl, hw⟩
      subst hw
      clear C3
      by_cases hd0 : dv = 0
      · have hsg : (sgn (!POS) dv).sign = 0 := by rw [hd0]; cases POS <;> rfl
        rw [hsg]
        have A4 := A3.out
        rw [hd0, sgn_zero] at A4
        have C4 := am_unscaled A4
        rw [show IntKind.i64.wrap 0 = 0 from rfl, show (cmpZ 0 0 == 0) = true from rfl] at C4
        replace C4 := Lib.hid C4
        replace A4 := Lib.hid A4
        rw [hd0] at FIN
        replace hd0 := Lib.hid hd0
        clear A3 hsg
        go_wp2_with fail
        refine C4.out.mono ?_
        rintro e w12 ⟨rfl, f9⟩
        have A5 := A4.out.frame f9
        replace A5 := Lib.hid A5
        replace f9 := Lib.hid f9
        clear A4 C4
        go_wp2_with fail
        refine (MX.out _).mono ?_
        rintro e wm ⟨pm, om, rfl, gm1, gm2, gm3, gm4⟩
        have CM := hm1.out _ _ _ _ _ _ A5.out gm2 gm1 gm3 (by omega) (by omega) b_nil
        rw [cz_neg _ (by omega)] at CM
        replace CM := Lib.hid CM
        have A6a := A5.out.frame gm2
        replace A6a := Lib.hid A6a
        replace gm1 := Lib.hid gm1
        replace gm2 := Lib.hid gm2
        replace gm3 := Lib.hid gm3
        replace gm4 := Lib.hid gm4
        try unfold ptr
        go_wp2_with fail
        refine CM.out.mono ?_
        rintro e wc ⟨rfl, fc⟩
        have A6 := A6a.out.frame fc
        replace A6 := Lib.hid A6
        replace fc := Lib.hid fc
        clear CM A6a
        go_wp2_with fail
        refine (ND1.out _).mono ?_
        rintro e wm ⟨pm, om, rfl, gm1, gm2, gm3, gm4⟩
        have CM := hm2.out _ _ _ _ _ _ 1 (Or.inr rfl) A6.out gm2 gm1 gm3 (by omega) (by omega) b_nil
        rw [cz_neg _ (by omega)] at CM
        replace CM := Lib.hid CM
        have A7a := A6.out.frame gm2
        replace A7a := Lib.hid A7a
        replace gm1 := Lib.hid gm1
        replace gm2 := Lib.hid gm2
        replace gm3 := Lib.hid gm3
        replace gm4 := Lib.hid gm4
        try unfold ptr
        go_wp2_with fail
        refine CM.out.mono ?_
        rintro e wc ⟨rfl, fc⟩
        have A7 := A7a.out.frame fc
        replace A7 := Lib.hid A7
        replace fc := Lib.hid fc
        clear CM A7a
        go_wp2_with fail
        refine (ND0.out _).mono ?_
        rintro e wm ⟨pm, om, rfl, gm1, gm2, gm3, gm4⟩
        have CM := hm2.out _ _ _ _ _ _ 0 (Or.inl rfl) A7.out gm2 gm1 gm3 (by omega) (by omega) b_nil
        rw [cz_nil] at CM
        replace CM := Lib.hid CM
        have A8a := A7.out.frame gm2
        replace A8a := Lib.hid A8a
        replace gm1 := Lib.hid gm1
        replace gm2 := Lib.hid gm2
        replace gm3 := Lib.hid gm3
        replace gm4 := Lib.hid gm4
        try unfold ptr
        go_wp2_with fail
        refine CM.out.mono ?_
        rintro e wc ⟨rfl, fc⟩
        have A8 := A8a.out.frame fc
        replace A8 := Lib.hid A8
        replace fc := Lib.hid fc
        clear CM A8a
        have hatE := HT.out _ _ _ A8.out
        try unfold ptr
        go_wp2_with (first | (refine wpList_store5 _ rfl _ _ rfl g rfl _ _ _ _ _ rfl _ hatE rfl ?_; intro w20 hat20 f20) | fail)
        go_wp2_with fail
        refine bodyPost_ret (results_q _ _ g 39 _ (0, 0) rfl hat20 rfl) rfl ?_
        exact FIN.out _ _ _ _ 1 _ A8.out f20 (by rw [slow_zero]) hF.out
      · cases POS with
        | true =>
          have hsg : (sgn (!true) dv).sign = 1 := by rw [sgn_sign, if_neg hd0]; rfl
          rw [hsg]
          have A4 := A3.out
          rw [show sgn (!true) dv = (dv : Int) from rfl] at A4
          clear hsg A3
          have C4 := am_unscaled A4
          have hun := unsc (z := (dv : Int)) (by omega)
          obtain ⟨V, hV⟩ : ∃ V, V = IntKind.i64.wrap (dv : Int) := ⟨_, rfl⟩
          obtain ⟨B, hBB⟩ : ∃ B, B = (cmpZ (IntKind.i64.wrap (dv : Int)) (dv : Int) == 0) := ⟨_, rfl⟩
          rw [← hBB, ← hV] at C4
          rw [← hBB, ← hV] at hun
          have hun2 : ((V != 0) = true) ∨ (V = 0 ∧ B = false) := by
            rcases hun with h | h
            · exact Or.inl (bne_iff_ne.mpr h)
            · exact Or.inr h
          replace hV := Lib.hid hV
          replace hBB := Lib.hid hBB
          replace C4 := Lib.hid C4
          replace A4 := Lib.hid A4
          clear hun
          go_wp2_with fail
          refine C4.out.mono ?_
          rintro e w12 ⟨rfl, f9⟩
          have A4b := A4.out.frame f9
          have C5 := am_round A4b (hgk.out.frame A4b.fr (fun _ h => h.elim)) (by omega) (by omega) p3.out p4.out p5.out
          have hsb := Lib.hid (slow_bin true dv (-(nD : Int)) hd0)
          have bn := Lib.hid (b_nano p3.out p4.out (by omega))
          have hnp := Lib.hid (nano_pos (u := dv) (by omega) (-(nD : Int)))
          obtain ⟨nn, hnn⟩ : ∃ m, m = nanoN dv (-(nD : Int)) := ⟨_, rfl⟩
          rw [← hnn] at C5 hsb bn hnp
          replace hnn := Lib.hid hnn
          replace C5 := Lib.hid C5
          replace A4b := Lib.hid A4b
          replace f9 := Lib.hid f9
          clear C4 A4
          go_upto_region 58 with fail
          go_cut [226] from 221 to 225 (fun bv wx => bv = .bool true ∧ w12 = wx)
          case first =>
            rcases hun2 with hb | ⟨rfl, rfl⟩
            all_goals
              go_wp2_with fail
              go_meet
              exact ⟨rfl, rfl⟩
          case rest =>
            obtain ⟨rfl, rfl⟩ := hcut
            clear hun2
            go_wp2_with fail
            refine (IN9.out _).mono ?_
            rintro e w10 ⟨rfl, hw⟩
            subst hw
            rw [show (-(-9) : Int) = 9 from rfl]
            go_wp2_with fail
            refine (RU.out _).mono ?_
            rintro e w11 ⟨rfl, hw⟩
            subst hw
            go_wp2_with fail
            refine C5.out.mono ?_
            rintro e w13 ⟨rfl, A5⟩
            replace A5 := Lib.hid A5
            clear C5
            by_cases hcap : maxQ * 10 ^ 9 < nn
            · have hcm := Lib.hid ((cz_max nn).1 hcap)
              have hsl := hsb.out.trans (if_pos hcap)
              replace hcap := Lib.hid hcap
              replace hsl := Lib.hid hsl
              go_wp2_with fail
              refine (MX.out _).mono ?_
              rintro e wm ⟨pm, om, rfl, gm1, gm2, gm3, gm4⟩
              have CM := hm1.out _ _ _ _ _ _ A5.out gm2 gm1 gm3 (by omega) (by omega) bn.out
              rw [hcm.out] at CM
              replace CM := Lib.hid CM
              have A6a := A5.out.frame gm2
              replace A6a := Lib.hid A6a
              replace gm1 := Lib.hid gm1
              replace gm2 := Lib.hid gm2
              replace gm3 := Lib.hid gm3
              replace gm4 := Lib.hid gm4
              try unfold ptr
              go_wp2_with fail
              refine CM.out.mono ?_
              rintro e wc ⟨rfl, fc⟩
              have A6 := A6a.out.frame fc
              replace A6 := Lib.hid A6
              replace fc := Lib.hid fc
              clear CM A6a
              clear hcm
              go_wp2_with fail
              refine (MX.out _).mono ?_
              rintro e wm ⟨pm, om, rfl, gm1, gm2, gm3, gm4⟩
              have CP := Lib.hid (am_cap A6.out gm2 gm1 gm3 gm4)
              replace gm1 := Lib.hid gm1
              replace gm2 := Lib.hid gm2
              replace gm3 := Lib.hid gm3
              replace gm4 := Lib.hid gm4
              try unfold ptr
              go_wp2_with fail
              refine CP.out.mono ?_
              rintro e wc ⟨rfl, A7⟩
              replace A7 := Lib.hid A7
              clear CP
              try unfold ptr
              go_wp2_with fail
              refine (ND1.out _).mono ?_
              rintro e wm ⟨pm, om, rfl, gm1, gm2, gm3, gm4⟩
              have CM := hm2.out _ _ _ _ _ _ 1 (Or.inr rfl) A7.out gm2 gm1 gm3 (by omega) (by omega) b_max
              rw [cz_cap ((0 : Int) - 0).toNat rfl] at CM
              replace CM := Lib.hid CM
              have A8a := A7.out.frame gm2
              replace A8a := Lib.hid A8a
              replace gm1 := Lib.hid gm1
              replace gm2 := Lib.hid gm2
              replace gm3 := Lib.hid gm3
              replace gm4 := Lib.hid gm4
              try unfold ptr
              go_wp2_with fail
              refine CM.out.mono ?_
              rintro e wc ⟨rfl, fc⟩
              have A8 := A8a.out.frame fc
              replace A8 := Lib.hid A8
              replace fc := Lib.hid fc
              clear CM A8a
              have hatE := HT.out _ _ _ A8.out
              try unfold ptr
              go_wp2_with (first | (refine wpList_store5 _ rfl _ _ rfl g rfl _ _ _ _ _ rfl _ hatE rfl ?_; intro w20 hat20 f20) | fail)
              go_wp2_with fail
              refine bodyPost_ret (results_q _ _ g 39 _ (0, 0) rfl hat20 rfl) rfl ?_
              exact FIN.out _ _ _ _ 1 _ A8.out f20 (by rw [hsl.out]; rfl) hF.out
            · obtain ⟨v, hve⟩ : ∃ v, v = cmpZ (nn : Int) (9223372036854775807 * ((10 ^ ((9 : Int) - 0).toNat : Nat) : Int)) := ⟨_, rfl⟩
              have hcm : v ≤ 0 := by rw [hve]; exact (cz_max nn).2 hcap
              replace hve := Lib.hid hve
              have hsl := hsb.out.trans (if_neg hcap)
              replace hcap := Lib.hid hcap
              go_wp2_with fail
              refine (MX.out _).mono ?_
              rintro e wm ⟨pm, om, rfl, gm1, gm2, gm3, gm4⟩
              have CM := hm1.out _ _ _ _ _ _ A5.out gm2 gm1 gm3 (by omega) (by omega) bn.out
              rw [← hve.out] at CM
              replace CM := Lib.hid CM
              have A6a := A5.out.frame gm2
              replace A6a := Lib.hid A6a
              replace gm1 := Lib.hid gm1
              replace gm2 := Lib.hid gm2
              replace gm3 := Lib.hid gm3
              replace gm4 := Lib.hid gm4
              try unfold ptr
              go_wp2_with fail
              refine CM.out.mono ?_
              rintro e wc ⟨rfl, fc⟩
              have A6 := A6a.out.frame fc
              replace A6 := Lib.hid A6
              replace fc := Lib.hid fc
              clear CM A6a
              by_cases hsm : nn < 10 ^ 9
              · obtain ⟨v2, hve2⟩ : ∃ v, v = cmpZ (nn : Int) (1 * ((10 ^ ((9 : Int) - 0).toNat : Nat) : Int)) := ⟨_, rfl⟩
                have hco : v2 = -1 := by rw [hve2]; exact (cz_one nn).1 hsm
                replace hve2 := Lib.hid hve2
                replace hco := Lib.hid hco
                rw [if_pos hsm] at hsl
                replace hsl := Lib.hid hsl
                replace hsm := Lib.hid hsm
                go_wp2_with fail
                refine (ND1.out _).mono ?_
                rintro e wm ⟨pm, om, rfl, gm1, gm2, gm3, gm4⟩
                have CM := hm2.out _ _ _ _ _ _ 1 (Or.inr rfl) A6.out gm2 gm1 gm3 (by omega) (by omega) bn.out
                rw [← hve2.out, hco.out] at CM
                replace CM := Lib.hid CM
                have A7a := A6.out.frame gm2
                replace A7a := Lib.hid A7a
                replace gm1 := Lib.hid gm1
                replace gm2 := Lib.hid gm2
                replace gm3 := Lib.hid gm3
                replace gm4 := Lib.hid gm4
                try unfold ptr
                go_wp2_with fail
                refine CM.out.mono ?_
                rintro e wc ⟨rfl, fc⟩
                have A7 := A7a.out.frame fc
                replace A7 := Lib.hid A7
                replace fc := Lib.hid fc
                clear CM A7a
                clear hco
                go_wp2_with fail
                refine (ND0.out _).mono ?_
                rintro e wm ⟨pm, om, rfl, gm1, gm2, gm3, gm4⟩
                have CM := hm2.out _ _ _ _ _ _ 0 (Or.inl rfl) A7.out gm2 gm1 gm3 (by omega) (by omega) bn.out
                rw [cz_zero nn hnp.out] at CM
                replace CM := Lib.hid CM
                have A8a := A7.out.frame gm2
                replace A8a := Lib.hid A8a
                replace gm1 := Lib.hid gm1
                replace gm2 := Lib.hid gm2
                replace gm3 := Lib.hid gm3
                replace gm4 := Lib.hid gm4
                try unfold ptr
                go_wp2_with fail
                refine CM.out.mono ?_
                rintro e wc ⟨rfl, fc⟩
                have A8 := A8a.out.frame fc
                replace A8 := Lib.hid A8
                replace fc := Lib.hid fc
                clear CM A8a
                have hatE := HT.out _ _ _ A8.out
                try unfold ptr
                go_wp2_with (first | (refine wpList_store5 _ rfl _ _ rfl g rfl _ _ _ _ _ rfl _ hatE rfl ?_; intro w20 hat20 f20) | fail)
                go_wp2_with fail
                refine bodyPost_ret (results_q _ _ g 39 _ (0, 0) rfl hat20 rfl) rfl ?_
                exact FIN.out _ _ _ _ 2 _ A8.out f20 (by rw [hsl.out]; rfl) rfl
              · obtain ⟨v2, hve2⟩ : ∃ v, v = cmpZ (nn : Int) (1 * ((10 ^ ((9 : Int) - 0).toNat : Nat) : Int)) := ⟨_, rfl⟩
                have hco : 0 ≤ v2 := by rw [hve2]; exact (cz_one nn).2 hsm
                replace hve2 := Lib.hid hve2
                rw [if_neg hsm] at hsl
                replace hsl := Lib.hid hsl
                replace hsm := Lib.hid hsm
                go_wp2_with fail
                refine (ND1.out _).mono ?_
                rintro e wm ⟨pm, om, rfl, gm1, gm2, gm3, gm4⟩
                have CM := hm2.out _ _ _ _ _ _ 1 (Or.inr rfl) A6.out gm2 gm1 gm3 (by omega) (by omega) bn.out
                rw [← hve2.out] at CM
                replace CM := Lib.hid CM
                have A7a := A6.out.frame gm2
                replace A7a := Lib.hid A7a
                replace gm1 := Lib.hid gm1
                replace gm2 := Lib.hid gm2
                replace gm3 := Lib.hid gm3
                replace gm4 := Lib.hid gm4
                try unfold ptr
                go_wp2_with fail
                refine CM.out.mono ?_
                rintro e wc ⟨rfl, fc⟩
                have A7 := A7a.out.frame fc
                replace A7 := Lib.hid A7
                replace fc := Lib.hid fc
                clear CM A7a
                have hatE := HT.out _ _ _ A7.out
                try unfold ptr
                go_wp2_with (first | (refine wpList_store5 _ rfl _ _ rfl g rfl _ _ _ _ _ rfl _ hatE rfl ?_; intro w20 hat20 f20) | fail)
                go_wp2_with fail
                refine bodyPost_ret (results_q _ _ g 39 _ (0, 0) rfl hat20 rfl) rfl ?_
                exact FIN.out _ _ _ _ 1 _ A7.out f20 (by rw [hsl.out]; rfl) hF.out
        | false =>
          have hsg : (sgn (!false) dv).sign = -1 := by rw [sgn_sign, if_neg hd0]; rfl
          rw [hsg]
          have C0 := Lib.hid (am_neg A3.out)
          clear hsg A3
          go_wp2_with fail
          refine C0.out.mono ?_
          rintro e w31 ⟨rfl, A4⟩
          rw [show -(sgn (!false) dv) = (dv : Int) from Int.neg_neg _] at A4
          clear C0
          unfold ptr
          have C4 := am_unscaled A4
          have hun := unsc (z := (dv : Int)) (by omega)
          obtain ⟨V, hV⟩ : ∃ V, V = IntKind.i64.wrap (dv : Int) := ⟨_, rfl⟩
          obtain ⟨B, hBB⟩ : ∃ B, B = (cmpZ (IntKind.i64.wrap (dv : Int)) (dv : Int) == 0) := ⟨_, rfl⟩
          rw [← hBB, ← hV] at C4
          rw [← hBB, ← hV] at hun
          have hun2 : ((V != 0) = true) ∨ (V = 0 ∧ B = false) := by
            rcases hun with h | h
            · exact Or.inl (bne_iff_ne.mpr h)
            · exact Or.inr h
          replace hV := Lib.hid hV
          replace hBB := Lib.hid hBB
          replace C4 := Lib.hid C4
          replace A4 := Lib.hid A4
          clear hun
          go_wp2_with fail
          refine C4.out.mono ?_
          rintro e w12 ⟨rfl, f9⟩
          have A4b := A4.out.frame f9
          have C5 := am_round A4b (hgk.out.frame A4b.fr (fun _ h => h.elim)) (by omega) (by omega) p3.out p4.out p5.out
          have hsb := Lib.hid (slow_bin false dv (-(nD : Int)) hd0)
          have bn := Lib.hid (b_nano p3.out p4.out (by omega))
          have hnp := Lib.hid (nano_pos (u := dv) (by omega) (-(nD : Int)))
          obtain ⟨nn, hnn⟩ : ∃ m, m = nanoN dv (-(nD : Int)) := ⟨_, rfl⟩
          rw [← hnn] at C5 hsb bn hnp
          replace hnn := Lib.hid hnn
          replace C5 := Lib.hid C5
          replace A4b := Lib.hid A4b
          replace f9 := Lib.hid f9
          clear C4 A4
          go_upto_region 58 with fail
          go_cut [226] from 221 to 225 (fun bv wx => bv = .bool true ∧ w12 = wx)
          case first =>
            rcases hun2 with hb | ⟨rfl, rfl⟩
            all_goals
              go_wp2_with fail
              go_meet
              exact ⟨rfl, rfl⟩
          case rest =>
            obtain ⟨rfl, rfl⟩ := hcut
            clear hun2
            go_wp2_with fail
            refine (IN9.out _).mono ?_
            rintro e w10 ⟨rfl, hw⟩
            subst hw
            rw [show (-(-9) : Int) = 9 from rfl]
            go_wp2_with fail
            refine (RU.out _).mono ?_
            rintro e w11 ⟨rfl, hw⟩
            subst hw
            go_wp2_with fail
            refine C5.out.mono ?_
            rintro e w13 ⟨rfl, A5⟩
            replace A5 := Lib.hid A5
            clear C5
            by_cases hcap : maxQ * 10 ^ 9 < nn
            · have hcm := Lib.hid ((cz_max nn).1 hcap)
              have hsl := hsb.out.trans (if_pos hcap)
              replace hcap := Lib.hid hcap
              replace hsl := Lib.hid hsl
              go_wp2_with fail
              refine (MX.out _).mono ?_
              rintro e wm ⟨pm, om, rfl, gm1, gm2, gm3, gm4⟩
              have CM := hm1.out _ _ _ _ _ _ A5.out gm2 gm1 gm3 (by omega) (by omega) bn.out
              rw [hcm.out] at CM
              replace CM := Lib.hid CM
              have A6a := A5.out.frame gm2
              replace A6a := Lib.hid A6a
              replace gm1 := Lib.hid gm1
              replace gm2 := Lib.hid gm2
              replace gm3 := Lib.hid gm3
              replace gm4 := Lib.hid gm4
              try unfold ptr
              go_wp2_with fail
              refine CM.out.mono ?_
              rintro e wc ⟨rfl, fc⟩
              have A6 := A6a.out.frame fc
              replace A6 := Lib.hid A6
              replace fc := Lib.hid fc
              clear CM A6a
              clear hcm
              go_wp2_with fail
              refine (MX.out _).mono ?_
              rintro e wm ⟨pm, om, rfl, gm1, gm2, gm3, gm4⟩
              have CP := Lib.hid (am_cap A6.out gm2 gm1 gm3 gm4)
              replace gm1 := Lib.hid gm1
              replace gm2 := Lib.hid gm2
              replace gm3 := Lib.hid gm3
              replace gm4 := Lib.hid gm4
              try unfold ptr
              go_wp2_with fail
              refine CP.out.mono ?_
              rintro e wc ⟨rfl, A7⟩
              replace A7 := Lib.hid A7
              clear CP
              try unfold ptr
              go_wp2_with fail
              refine (ND1.out _).mono ?_
              rintro e wm ⟨pm, om, rfl, gm1, gm2, gm3, gm4⟩
              have CM := hm2.out _ _ _ _ _ _ 1 (Or.inr rfl) A7.out gm2 gm1 gm3 (by omega) (by omega) b_max
              rw [cz_cap ((0 : Int) - 0).toNat rfl] at CM
              replace CM := Lib.hid CM
              have A8a := A7.out.frame gm2
              replace A8a := Lib.hid A8a
              replace gm1 := Lib.hid gm1
              replace gm2 := Lib.hid gm2
              replace gm3 := Lib.hid gm3
              replace gm4 := Lib.hid gm4
              try unfold ptr
              go_wp2_with fail
              refine CM.out.mono ?_
              rintro e wc ⟨rfl, fc⟩
              have A8 := A8a.out.frame fc
              replace A8 := Lib.hid A8
              replace fc := Lib.hid fc
              clear CM A8a
              have C6 := Lib.hid (am_neg A8.out)
              go_wp2_with fail
              refine C6.out.mono ?_
              rintro e w13 ⟨rfl, AN⟩
              replace AN := Lib.hid AN
              clear C6
              have hatE := HT.out _ _ _ AN.out
              try unfold ptr
              go_wp2_with (first | (refine wpList_store5 _ rfl _ _ rfl g rfl _ _ _ _ _ rfl _ hatE rfl ?_; intro w20 hat20 f20) | fail)
              go_wp2_with fail
              refine bodyPost_ret (results_q _ _ g 39 _ (0, 0) rfl hat20 rfl) rfl ?_
              exact FIN.out _ _ _ _ 1 _ AN.out f20 (by rw [hsl.out]; rfl) hF.out
            · obtain ⟨v, hve⟩ : ∃ v, v = cmpZ (nn : Int) (9223372036854775807 * ((10 ^ ((9 : Int) - 0).toNat : Nat) : Int)) := ⟨_, rfl⟩
              have hcm : v ≤ 0 := by rw [hve]; exact (cz_max nn).2 hcap
              replace hve := Lib.hid hve
              have hsl := hsb.out.trans (if_neg hcap)
              replace hcap := Lib.hid hcap
              go_wp2_with fail
              refine (MX.out _).mono ?_
              rintro e wm ⟨pm, om, rfl, gm1, gm2, gm3, gm4⟩
              have CM := hm1.out _ _ _ _ _ _ A5.out gm2 gm1 gm3 (by omega) (by omega) bn.out
              rw [← hve.out] at CM
              replace CM := Lib.hid CM
              have A6a := A5.out.frame gm2
              replace A6a := Lib.hid A6a
              replace gm1 := Lib.hid gm1
              replace gm2 := Lib.hid gm2
              replace gm3 := Lib.hid gm3
              replace gm4 := Lib.hid gm4
              try unfold ptr
              go_wp2_with fail
              refine CM.out.mono ?_
              rintro e wc ⟨rfl, fc⟩
              have A6 := A6a.out.frame fc
              replace A6 := Lib.hid A6
              replace fc := Lib.hid fc
              clear CM A6a
              by_cases hsm : nn < 10 ^ 9
              · obtain ⟨v2, hve2⟩ : ∃ v, v = cmpZ (nn : Int) (1 * ((10 ^ ((9 : Int) - 0).toNat : Nat) : Int)) := ⟨_, rfl⟩
                have hco : v2 = -1 := by rw [hve2]; exact (cz_one nn).1 hsm
                replace hve2 := Lib.hid hve2
                replace hco := Lib.hid hco
                rw [if_pos hsm] at hsl
                replace hsl := Lib.hid hsl
                replace hsm := Lib.hid hsm
                go_wp2_with fail
                refine (ND1.out _).mono ?_
                rintro e wm ⟨pm, om, rfl, gm1, gm2, gm3, gm4⟩
                have CM := hm2.out _ _ _ _ _ _ 1 (Or.inr rfl) A6.out gm2 gm1 gm3 (by omega) (by omega) bn.out
                rw [← hve2.out, hco.out] at CM
                replace CM := Lib.hid CM
                have A7a := A6.out.frame gm2
                replace A7a := Lib.hid A7a
                replace gm1 := Lib.hid gm1
                replace gm2 := Lib.hid gm2
                replace gm3 := Lib.hid gm3
                replace gm4 := Lib.hid gm4
                try unfold ptr
                go_wp2_with fail
                refine CM.out.mono ?_
                rintro e wc ⟨rfl, fc⟩
                have A7 := A7a.out.frame fc
                replace A7 := Lib.hid A7
                replace fc := Lib.hid fc
                clear CM A7a
                clear hco
                go_wp2_with fail
                refine (ND0.out _).mono ?_
                rintro e wm ⟨pm, om, rfl, gm1, gm2, gm3, gm4⟩
                have CM := hm2.out _ _ _ _ _ _ 0 (Or.inl rfl) A7.out gm2 gm1 gm3 (by omega) (by omega) bn.out
                rw [cz_zero nn hnp.out] at CM
                replace CM := Lib.hid CM
                have A8a := A7.out.frame gm2
                replace A8a := Lib.hid A8a
                replace gm1 := Lib.hid gm1
                replace gm2 := Lib.hid gm2
                replace gm3 := Lib.hid gm3
                replace gm4 := Lib.hid gm4
                try unfold ptr
                go_wp2_with fail
                refine CM.out.mono ?_
                rintro e wc ⟨rfl, fc⟩
                have A8 := A8a.out.frame fc
                replace A8 := Lib.hid A8
                replace fc := Lib.hid fc
                clear CM A8a
                have C6 := Lib.hid (am_neg A8.out)
                go_wp2_with fail
                refine C6.out.mono ?_
                rintro e w13 ⟨rfl, AN⟩
                replace AN := Lib.hid AN
                clear C6
                have hatE := HT.out _ _ _ AN.out
                try unfold ptr
                go_wp2_with (first | (refine wpList_store5 _ rfl _ _ rfl g rfl _ _ _ _ _ rfl _ hatE rfl ?_; intro w20 hat20 f20) | fail)
                go_wp2_with fail
                refine bodyPost_ret (results_q _ _ g 39 _ (0, 0) rfl hat20 rfl) rfl ?_
                exact FIN.out _ _ _ _ 2 _ AN.out f20 (by rw [hsl.out]; rfl) rfl
              · obtain ⟨v2, hve2⟩ : ∃ v, v = cmpZ (nn : Int) (1 * ((10 ^ ((9 : Int) - 0).toNat : Nat) : Int)) := ⟨_, rfl⟩
                have hco : 0 ≤ v2 := by rw [hve2]; exact (cz_one nn).2 hsm
                replace hve2 := Lib.hid hve2
                rw [if_neg hsm] at hsl
                replace hsl := Lib.hid hsl
                replace hsm := Lib.hid hsm
                go_wp2_with fail
                refine (ND1.out _).mono ?_
                rintro e wm ⟨pm, om, rfl, gm1, gm2, gm3, gm4⟩
                have CM := hm2.out _ _ _ _ _ _ 1 (Or.inr rfl) A6.out gm2 gm1 gm3 (by omega) (by omega) bn.out
                rw [← hve2.out] at CM
                replace CM := Lib.hid CM
                have A7a := A6.out.frame gm2
                replace A7a := Lib.hid A7a
                replace gm1 := Lib.hid gm1
                replace gm2 := Lib.hid gm2
                replace gm3 := Lib.hid gm3
                replace gm4 := Lib.hid gm4
                try unfold ptr
                go_wp2_with fail
                refine CM.out.mono ?_
                rintro e wc ⟨rfl, fc⟩
                have A7 := A7a.out.frame fc
                replace A7 := Lib.hid A7
                replace fc := Lib.hid fc
                clear CM A7a
                have C6 := Lib.hid (am_neg A7.out)
                go_wp2_with fail
                refine C6.out.mono ?_
                rintro e w13 ⟨rfl, AN⟩
                replace AN := Lib.hid AN
                clear C6
                have hatE := HT.out _ _ _ AN.out
                try unfold ptr
                go_wp2_with (first | (refine wpList_store5 _ rfl _ _ rfl g rfl _ _ _ _ _ rfl _ hatE rfl ?_; intro w20 hat20 f20) | fail)
                go_wp2_with fail
                refine bodyPost_ret (results_q _ _ g 39 _ (0, 0) rfl hat20 rfl) rfl ?_
                exact FIN.out _ _ _ _ 1 _ AN.out f20 (by rw [hsl.out]; rfl) hF.out
end Go.Proofs.YtcpjclakdpjjfaaGreatDoor


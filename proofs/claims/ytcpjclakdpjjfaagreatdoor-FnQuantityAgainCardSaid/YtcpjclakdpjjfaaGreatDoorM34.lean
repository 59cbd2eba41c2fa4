/-
  A part of the proof of FnQuantityAgain (texts Rf, Rh of mine, joined).
-/
import Derived.Test.YtcpjclakdpjjfaaGreatDoorM33
import Derived.Test.YtcpjclakdpjjfaaGreatDoorM28
import Derived.Deep.CutRange
import Derived.Deep.CutBlock
namespace Go.Proofs.YtcpjclakdpjjfaaGreatDoor
open Go.RowKit

theorem tx_size (l : List UInt8) : (tx l).size = l.length := by show l.toArray.size = _; simp
theorem w32 {z : Int} (h1 : -1000000 ≤ z) (h2 : z ≤ 1000000) : wrap32 z = z := by unfold wrap32; omega
theorem w64 {z : Int} (h1 : -1000000 ≤ z) (h2 : z ≤ 1000000) : wrap64 z = z := by unfold wrap64; omega

theorem wr64 (x : Int) : IntKind.i64.wrap x = wrap64 x := by rw [IntKind.wrap_i64]; unfold wrap64; omega
theorem wr32 (x : Int) : IntKind.i32.wrap x = wrap32 x := by rw [IntKind.wrap_i32]; unfold wrap32; omega
theorem add64_run {a b c : Int} {w : World} (h : wrap64 (a + b) = c) : (binOp .add 3 (.int .i64 a) (.int .i64 b)).run Tryz.prog w = .ok (.int .i64 c) w := by
  subst h; go_simp; rw [wr64]
theorem conv32_run {a b : Int} {w : World} (h : wrap32 a = b) : (convert 3 21 (.int .i64 a)).run Tryz.prog w = .ok (.int .i32 b) w := by
  subst h; go_simp; rw [wr32]
theorem sub32_run {a b c : Int} {w : World} (h : wrap32 (a - b) = c) : (binOp .sub 21 (.int .i32 a) (.int .i32 b)).run Tryz.prog w = .ok (.int .i32 c) w := by
  subst h; go_simp; rw [wr32]

theorem neg64_run {a b : Int} {w : World} (h : wrap64 (-a) = b) : (Op.unary .neg (.int .i64 a)).run Tryz.prog w = .ok (.int .i64 b) w := by
  subst h; go_simp; try rw [wr64]
theorem cat_run {a b : ByteArray} {w : World} (h : a.size + b.size ≤ 1000000) : (binOp .add 9 (.string a) (.string b)).run Tryz.prog w = .ok (.string (a ++ b)) w := by
  have h1 : ¬ (9223372036854775807 < a.size + b.size) := by omega
  have h2 : ¬ (((a.size + b.size : Nat) : Int) > IntKind.i64.max) := by have : IntKind.i64.max = 9223372036854775807 := rfl; omega
  simp only [binOp, Op.stringOp, if_neg h2]; rfl
theorem rem32_run {a b : Int} {w : World} (hb : b ≠ 0) : (binOp .rem 21 (.int .i32 a) (.int .i32 b)).run Tryz.prog w = .ok (.int .i32 (a.tmod b)) w := by
  go_simp
theorem lk0 {s : ByteArray} {c : UInt8} {r : List UInt8} (h : s.data.toList = c :: r) : ∃ hi : 0 < s.size, s[0] = c := str_head h

theorem unsc {z : Int} (h : z ≠ 0) : IntKind.i64.wrap z ≠ 0 ∨ (IntKind.i64.wrap z = 0 ∧ (cmpZ (IntKind.i64.wrap z) z == 0) = false) := by
  by_cases h0 : IntKind.i64.wrap z = 0
  · refine Or.inr ⟨h0, ?_⟩
    rw [h0]
    unfold cmpZ
    split
    · rfl
    · rw [if_neg (fun e => h e.symm)]; rfl
  · exact Or.inl h0
theorem info73' : (Tryz.prog.info? 73).map (·.size) = some 3 := by kernel_rfl

set_option maxRecDepth 100000 in
set_option maxHeartbeats 2000000 in
theorem parse_dec (s : ByteArray) (l : List UInt8) (p : Pq) (a0 a1 a2 : Addr) (pe ps pr : Value) (w : World) (hG : GW w a0 a1 a2 pe ps pr) (hl : s.data.toList = l) (hne : l ≠ []) (h48 : l ≠ [48]) (hlen : l.length ≤ 200) (hsl : p.suf.length ≤ 200)
    (hsp : splitQ l = some p) (x : Int) (f : Nat) (hsf : sufQ p.suf = some (10, x, f)) (hB : PB p 10 x) :
    Calls Tryz.prog 10 #[.string s] w (PqEnd w a0 a1 l) := by
  have hs : s.size = l.length := by rw [← hl]; simp
  have hsl0 := Lib.hid hl
  have b1 := str_ne48 hl h48
  have n1 := nil_neq_nil41
  have mi := method_interp
  have S := Lib.hid (fun w' (f : Fr (fun _ => False) w w') => splitString_any s l (.iface 204 (.pointer (some a0))) w' hl hne hlen (hG.frame f).c0)
  have N := Lib.hid newSuffixer_any
  have I := Lib.hid (fun q w' (hq : SufAt w' q) (f : Fr (fun _ => False) w w') => interp_any q (tx p.suf) p.suf w' hq (tx_list _) hsl (fun b' x' f' h => by rw [hsf] at h; cases h; exact hB.xlen) _ _ (hG.frame f).syn _ _ (hG.frame f).rng)
  have hGf := Lib.hid (fun w' (f : Fr (fun _ => False) w w') => hG.frame f)
  have fA : Hid (∀ o, Fr (fun _ => False) w (w.alloc o)) := fun o => Fr.alloc _ _ _
  have hpq : parseQ l = .ok (makeQ l p 10 x f) := by unfold parseQ; rw [if_neg hne, if_neg h48, hsp]; simp only [hsf]
  obtain ⟨n, hn⟩ : ∃ n, n = l.length := ⟨_, rfl⟩
  rw [← hn] at hs
  have hn0 : 0 < n := by rw [hn]; cases l with | nil => exact absurd rfl hne | cons a t => simp
  have hnz : ((n : Int) == 0) = false := beq_eq_false_iff_ne.mpr (by omega)
  replace hn := Lib.hid hn
  replace hpq := Lib.hid hpq
  have hsz := hG.sz
  clear hl hne h48 hlen hG hsl
  go_enter Tryz.func10, Tryz.ntmps10
  go_wp2_with fail
  refine (S.out _ (fA.out _)).mono ?_
  rintro e w1 ⟨f1, hm⟩
  rw [hsp] at hm
  simp only at hm
  subst hm
  obtain ⟨g, hg⟩ : ∃ g, g = w.heap.size := ⟨_, rfl⟩
  have hat : w1.heap[g]? = some (.cells zeroQ 39 (0, 0)) := by rw [hg]; exact (f1.block _ (by simp) (fun f => f)).trans (heap_alloc_new _ _)
  have hF1 := Lib.hid ((fA.out zobj).trans f1 (fun _ _ h => h))
  have hgw : w.heap.size ≤ g := Nat.le_of_eq hg.symm
  rw [← hg]
  replace hg := Lib.hid hg
  replace f1 := Lib.hid f1
  obtain ⟨SUF, hSUF⟩ : ∃ S, S = tx p.suf := ⟨_, rfl⟩
  obtain ⟨NUM, hNUM⟩ : ∃ S, S = tx p.num := ⟨_, rfl⟩
  obtain ⟨DEN, hDEN⟩ : ∃ S, S = tx p.denom := ⟨_, rfl⟩
  obtain ⟨VAL, hVAL⟩ : ∃ S, S = tx p.value := ⟨_, rfl⟩
  rw [← hSUF] at I
  obtain ⟨POS, hPOS⟩ : ∃ P, P = p.pos := ⟨_, rfl⟩
  rw [← hSUF, ← hNUM, ← hDEN, ← hVAL, ← hPOS]
  replace hPOS := Lib.hid hPOS
  replace hSUF := Lib.hid hSUF
  replace hNUM := Lib.hid hNUM
  replace hDEN := Lib.hid hDEN
  replace hVAL := Lib.hid hVAL
  clear S
  go_wp2_with fail
  refine (N.out _).mono ?_
  rintro e w2 ⟨q, rfl, hq, f2⟩
  have hat2 : w2.heap[g]? = some (.cells zeroQ 39 (0, 0)) := (f2.block _ (Array.getElem?_eq_some_iff.1 hat).1 (fun f => f)).trans hat
  have hF2 := Lib.hid (hF1.out.trans f2 (fun _ _ h => h))
  have I2 := Lib.hid (I.out q w2 hq hF2.out)
  replace hq := Lib.hid hq
  replace f2 := Lib.hid f2
  clear hat N I
  go_wp2_with fail
  refine I2.out.mono ?_
  rintro e w3 ⟨f3, hm⟩
  rw [hsf] at hm
  simp only at hm
  subst hm
  have hat3 : w3.heap[g]? = some (.cells zeroQ 39 (0, 0)) := (f3.block _ (Array.getElem?_eq_some_iff.1 hat2).1 (fun f => f)).trans hat2
  have hF3 := Lib.hid (hF2.out.trans f3 (fun _ _ h => h))
  have hG3 := Lib.hid (hGf.out w3 hF3.out)
  replace f3 := Lib.hid f3
  clear hat2 I2 hGf
  have hff : f = 0 ∨ f = 2 := by
    rcases sufQ_cases hsf with ⟨_, e, _⟩ | ⟨e, _⟩ | ⟨_, e, _⟩
    · exact Or.inr e
    · exact absurd e (by decide)
    · exact Or.inl e
  obtain ⟨F, hF⟩ : ∃ F, F = fmtT f := ⟨_, rfl⟩
  have bB : (F.toList == [66, 105, 110, 97, 114, 121, 83, 73]) = false := by
    rw [hF, Lib.toList_data]; rcases hff with rfl | rfl <;> rfl
  have bE : ((F.toList == [68, 101, 99, 105, 109, 97, 108, 69, 120, 112, 111, 110, 101, 110, 116]) = true) ∨ ((F.toList == [68, 101, 99, 105, 109, 97, 108, 69, 120, 112, 111, 110, 101, 110, 116]) = false ∧ (F.toList == [68, 101, 99, 105, 109, 97, 108, 83, 73]) = true) := by
    rw [hF, Lib.toList_data]; rcases hff with rfl | rfl
    · left; rfl
    · right; exact ⟨rfl, rfl⟩
  rw [← hF]
  replace hF := Lib.hid hF
  replace bE := Lib.hid bE
  replace hat3 := Lib.hid hat3
  replace hsp := Lib.hid hsp
  replace hsf := Lib.hid hsf
  replace hff := Lib.hid hff
  obtain ⟨nN, hnN⟩ : ∃ k, k = p.num.length := ⟨_, rfl⟩
  obtain ⟨nD, hnD⟩ : ∃ k, k = p.denom.length := ⟨_, rfl⟩
  have sN : NUM.size = nN := by rw [hNUM.out, hnN, tx_size]
  have sD : DEN.size = nD := by rw [hDEN.out, hnD, tx_size]
  have lN : nN ≤ 200 := by rw [hnN]; exact hB.nlen
  have lD : nD ≤ 100 := by rw [hnD]; exact hB.dlen
  have lx := hB.xlen
  have xl1 : -150 ≤ x := by omega
  have xl2 : x ≤ 150 := by omega
  clear lx
  replace hnN := Lib.hid hnN
  replace hnD := Lib.hid hnD
  replace hB := Lib.hid hB
  go_upto_if 65 with fail
  go_cut [65, 66] from 67 to 67 (fun tv _ wx => tv = .bool true ∧ w3 = wx)
  case first =>
    rcases bE.out with e | ⟨e1, e2⟩
    · rw [e]
      go_wp2_with fail
      go_meet
      exact ⟨rfl, rfl⟩
    · rw [e1]
      go_wp2_with fail
      go_meet
      exact ⟨rfl, rfl⟩
  case rest =>
    obtain ⟨rfl, rfl⟩ := hcut
    go_upto_if 102 with fail
    go_cut [15, 17, 18, 19, 20, 21] from 102 to 173 (fun _ _ _ _ _ _ wx => Hid (¬ ((nN : Int) + (nD : Int) ≤ 18 ∧ -9 ≤ x - (nD : Int))) ∧ w3 = wx)
    case first =>
      by_cases hp : (nN : Int) + (nD : Int) ≤ 18
      · rw [decide_eq_true hp]
        by_cases hs9 : -9 ≤ x - (nD : Int)
        · have hs9' : decide (-9 ≤ x - (nD : Int)) = true := decide_eq_true hs9
          have SF := split_fine hsp.out
          have hdig : ∀ c ∈ p.num ++ p.denom, isDg c = true := by
            intro c hc
            rcases List.mem_append.1 hc with h | h
            · exact SF.num c h
            · exact SF.den c h
          have hne2 : p.num ++ p.denom ≠ [] := fun e => SF.ne (List.append_eq_nil_iff.1 e).1
          have hll : (p.num ++ p.denom).length ≤ 18 := by
            have a3 := hnN.out
            have a4 := hnD.out
            rw [List.length_append]
            omega
          obtain ⟨dv, hdv⟩ : ∃ d, d = decV (p.num ++ p.denom) := ⟨_, rfl⟩
          have hdv1 : dv < 10 ^ 18 := by rw [hdv]; exact Nat.lt_of_lt_of_le (decV_lt _ hdig) (Nat.pow_le_pow_right (by omega) hll)
          have hSl : (NUM ++ DEN).data.toList = p.num ++ p.denom := by
            rw [hNUM.out, hDEN.out]; simp [tx]
          have hSs : (NUM ++ DEN).size = nN + nD := by
            rw [ByteArray.size_append, sN, sD]
          obtain ⟨c0, r0, hcr⟩ : ∃ c r, p.num ++ p.denom = c :: r := by
            cases hh : p.num ++ p.denom with
            | nil => exact absurd hh hne2
            | cons c r => exact ⟨c, r, rfl⟩
          obtain ⟨hS0, hSc⟩ := lk0 (hSl.trans hcr)
          have P19 := Lib.hid (Tryz.strconv_ParseInt_10_at64_ok (NUM ++ DEN) (by omega) (dv : Int) (by rw [hSl, hdv]; exact parseI_dg _ hdig hne2 (by rw [← hdv]; omega)) w3)
          have M := Lib.hid (fun w' => mult_ok dv 1 (by omega) (by omega) (by omega) (by omega) w')
          rw [Nat.mul_one] at M
          obtain ⟨hs, hhs⟩ : ∃ b, b = Lib.hasSuffix (NUM ++ DEN).data.toList [48, 48, 48] := ⟨_, rfl⟩
          have H := Lib.hid (fun w' => Tryz.strings_HasSuffix (NUM ++ DEN) { data := #[48, 48, 48] } w' (by omega))
          rw [← hhs] at H
          obtain ⟨R, hR⟩ : ∃ R : Int, R = if POS then (dv : Int) else -(dv : Int) := ⟨_, rfl⟩
          obtain ⟨m0, hm0⟩ : ∃ m, m = (Int.tmod (x - (nD : Int)) 3 == 0) := ⟨_, rfl⟩
          obtain ⟨z, hz⟩ : ∃ z, z = ((c0.toNat : Int) == 48) := ⟨_, rfl⟩
          have FIN : Hid (∀ w', Fr (fun _ => False) w w' → ∀ str, str = (if m0 && !hs && !z then s else { data := #[] }) → PqEnd w a0 a1 l (.returned (.tuple #[.agg #[.int .i64 R, .int .i32 (x - (nD : Int)), .pointer none, .string str, .string F], .nilIface])) w') := by
            intro w' fr' str hstr
            refine ⟨fr', ?_⟩
            rw [hpq.out]
            refine ⟨_, rfl, Or.inl ?_⟩
            have e1 : (p.num.length : Int) + (p.denom.length : Int) ≤ 18 := by rw [← hnN.out, ← hnD.out]; exact hp
            have e2 : -9 ≤ x - (p.denom.length : Int) := by rw [← hnD.out]; exact hs9
            have hst : s = tx l := by rw [← hsl0.out, tx_of]
            rw [make_dec_fast l p x f e1 e2 c0 r0 hcr, ← hSl, ← hhs, ← hz, ← hnD.out, ← hm0]
            refine ⟨rfl, ?_⟩
            rw [hstr, hR, hPOS.out, hF.out, hdv, ← hSl]
            unfold qv
            congr 3
            rw [hst]
            split <;> rfl
          replace hdv := Lib.hid hdv
          replace hSl := Lib.hid hSl
          replace hcr := Lib.hid hcr
          replace hhs := Lib.hid hhs
          replace hR := Lib.hid hR
          replace hm0 := Lib.hid hm0
          replace hz := Lib.hid hz
          replace hdig := Lib.hid hdig
          replace hll := Lib.hid hll
          clear SF hne2
          go_wp2_with fail
          refine P19.out.mono ?_
          rintro e w4 ⟨rfl, hw4⟩
          have f4 : Fr (fun _ => False) w3 w4 := by
            rcases hw4 with rfl | ⟨t, rfl⟩
            · exact Fr.refl _ _
            · exact Fr.of_below (Lib.bytesWorld_below _ _ _)
          have F4 := Lib.hid (hF3.out.trans f4 (fun _ _ h => h))
          have hat4 : w4.heap[g]? = some (.cells zeroQ 39 (0, 0)) := (f4.block _ (Array.getElem?_eq_some_iff.1 hat3.out).1 (fun f => f)).trans hat3.out
          replace hat4 := Lib.hid hat4
          replace f4 := Lib.hid f4
          clear hw4 P19
          go_wp2_with fail
          refine (M.out _).mono ?_
          rintro e w5 ⟨rfl, nd, rfl⟩
          have F5 := Lib.hid (F4.out.trans (Fr.drewN (fun _ => False) w4 nd) (fun _ _ h => h))
          have hat5 : (w4.drewN nd).heap[g]? = some (.cells zeroQ 39 (0, 0)) := hat4.out
          obtain ⟨w5, hw5⟩ : ∃ w5, w5 = w4.drewN nd := ⟨_, rfl⟩
          rw [← hw5] at F5 hat5 ⊢
          replace hw5 := Lib.hid hw5
          go_upto_if 130 with fail
          go_cut [20] from 131 to 132 (fun rv wx => rv = .int .i64 R ∧ w5 = wx)
          case first =>
            have hw0 : wrap64 (-(dv : Int)) = -(dv : Int) := by unfold wrap64; omega
            have kneg := neg64_run (w := w5) hw0
            replace hw0 := Lib.hid hw0
            replace hdv1 := Lib.hid hdv1
            cases POS with
            | true =>
              have hR1 : R = (dv : Int) := hR.out
              replace hR1 := Lib.hid hR1
              go_wp2_with fail
              go_meet
              exact ⟨by rw [hR1.out], rfl⟩
            | false =>
              have hR1 : R = -(dv : Int) := hR.out
              replace hR1 := Lib.hid hR1
              go_wp2_with fail
              go_meet
              exact ⟨by rw [hR1.out, hw0.out], rfl⟩
          case rest =>
            obtain ⟨rfl, rfl⟩ := hcut
            replace hdv1 := Lib.hid hdv1
            cases m0 with
            | false =>
              have hm := hm0.out.symm
              go_wp2_with (first | (refine wpList_store5 w5 rfl _ _ rfl g rfl _ _ _ _ _ rfl _ hat5 rfl ?_; intro w6 hat6 f6) | fail)
              go_wp2_with fail
              refine bodyPost_ret (results_q _ _ g 39 _ (0, 0) rfl hat6 rfl) rfl ?_
              exact FIN.out w6 (F5.out.trans f6 (fun k hk e => by omega)) _ rfl
            | true =>
              have hm := hm0.out.symm
              go_wp2_with fail
              refine (H.out _).mono ?_
              rintro e w' ⟨rfl, hw'⟩
              have hw'' := hw'.symm
              subst hw''
              cases hs with
              | true =>
                go_wp2_with (first | (refine wpList_store5 w5 rfl _ _ rfl g rfl _ _ _ _ _ rfl _ hat5 rfl ?_; intro w6 hat6 f6) | fail)
                go_wp2_with fail
                refine bodyPost_ret (results_q _ _ g 39 _ (0, 0) rfl hat6 rfl) rfl ?_
                exact FIN.out w6 (F5.out.trans f6 (fun k hk e => by omega)) _ rfl
              | false =>
                have hzz := hz.out.symm
                have hzb : ((c0.toNat : Int) != 48) = !z := by rw [← hzz]; rfl
                cases z with
                | true =>
                  go_wp2_with (first | (refine wpList_store5 w5 rfl _ _ rfl g rfl _ _ _ _ _ rfl _ hat5 rfl ?_; intro w6 hat6 f6) | fail)
                  go_wp2_with fail
                  refine bodyPost_ret (results_q _ _ g 39 _ (0, 0) rfl hat6 rfl) rfl ?_
                  exact FIN.out w6 (F5.out.trans f6 (fun k hk e => by omega)) _ rfl
                | false =>
                  go_wp2_with (first | (refine wpList_store5 w5 rfl _ _ rfl g rfl _ _ _ _ _ rfl _ hat5 rfl ?_; intro w6 hat6 f6) | fail)
                  go_wp2_with fail
                  refine bodyPost_ret (results_q _ _ g 39 _ (0, 0) rfl hat6 rfl) rfl ?_
                  exact FIN.out w6 (F5.out.trans f6 (fun k hk e => by omega)) _ rfl
        · have hs9' : decide (-9 ≤ x - (nD : Int)) = false := decide_eq_false hs9
          go_wp2_with fail
          go_meet
          exact ⟨fun h => by have := h.2; omega, rfl⟩
      · rw [decide_eq_false hp]
        go_wp2_with fail
        go_meet
        exact ⟨fun h => by have := h.1; omega, rfl⟩
    case rest =>
      obtain ⟨hslow, rfl⟩ := hcut
      obtain ⟨ea, hea⟩ := hG3.out.eof
      have hgk := Lib.hid hG3.out.gk
      have hB1 := hB.out
      have hval := split_val hsp.out hB1.dig
      have hval : ∃ sg d1 dt, ValT p.value sg d1 dt p.denom ∧ decV (d1 ++ p.denom) = decV (p.num ++ p.denom) ∧ (decide (sg = [45]) = !p.pos) := by
        rcases hval with ⟨_, e2, e3, e4⟩ | h
        · exfalso
          have hs' := hsf.out
          rw [e4] at hs'
          have : sufQ [] = some (10, 0, 2) := by decide
          rw [this] at hs'
          simp only [Option.some.injEq, Prod.mk.injEq] at hs'
          refine hslow.out ?_
          rw [hnN.out, hnD.out, e2, e3, ← hs'.2.1]
          simp
        · exact h
      obtain ⟨sg, d1, dt, V, hdV, hsgn⟩ := hval
      have h3s : 17 ≤ w3.heap.size := hG3.out.sz
      obtain ⟨pz, hpz⟩ : ∃ p, p = w3.heap.size := ⟨_, rfl⟩
      obtain ⟨wA, hwA⟩ : ∃ wA, wA = w3.alloc (.cells #[.bool false, .slice none 0 0, .int .i32 0] 73) := ⟨_, rfl⟩
      obtain ⟨dv, hdv⟩ : ∃ d, d = decV (p.num ++ p.denom) := ⟨_, rfl⟩
      have hbx := IntC.boxed3 w3 73 (.int .i32 0)
      have fA3 : Fr (fun _ => False) w3 wA := by rw [hwA]; exact Fr.alloc _ _ _
      rw [← hwA, ← hpz] at hbx
      have S3 := am_set (w0 := w3) pz VAL p.value sg d1 dt p.denom ea wA (by rw [hVAL.out, tx_list]) V hB1.vlen hbx.1 hbx.2 ((fA3.cell (p := ⟨3, 0, none⟩) (by show 3 < _; omega) (fun f => f)).trans hea) fA3 (by omega) (by omega)
      rw [hdV, hsgn, ← hPOS.out, ← hdv, ← hnD.out] at S3
      replace S3 := Lib.hid S3
      have IS := Lib.hid (fun w => infScale_any x (by omega) (by omega) w)
      have RU := Lib.hid (fun w => roundUp_any w)
      have IN := Lib.hid (fun w => infScale_any (-9) (by omega) (by omega) w)
      have U := Lib.hid hB1.u
      have HI := Lib.hid hB1.hi
      have LO := Lib.hid hB1.lo
      replace hslow := Lib.hid (make_dec_slow l p x f (by rw [← hnN.out, ← hnD.out]; exact hslow.out))
      replace hB1 := Lib.hid hB1
      replace hdv := Lib.hid hdv
      clear V hbx hdV hsgn h3s hea fA3 hsz
      go_wp2_with fail
      rw [← hwA, ← hpz]
      replace hwA := Lib.hid hwA
      replace hpz := Lib.hid hpz
      refine S3.out.mono ?_
      rintro e w4 ⟨rfl, A1⟩
      have C1 := Lib.hid (am_scale A1)
      replace A1 := Lib.hid A1
      clear S3
      unfold ptr
      go_wp2_with fail
      refine C1.out.mono ?_
      rintro e w5 ⟨rfl, hw⟩
      subst hw
      go_wp2_with fail
      refine (IS.out _).mono ?_
      rintro e w6 ⟨rfl, hw⟩
      subst hw
      have C2 := Lib.hid (am_setScale A1.out ((nD : Int) + -x))
      clear C1 IS
      go_wp2_with fail
      refine C2.out.mono ?_
      rintro e w7 ⟨rfl, A2⟩
      have C3 := Lib.hid (am_sign A2)
      replace A2 := Lib.hid A2
      clear C2 A1
      unfold ptr
      go_wp2_with fail
      refine C3.out.mono ?_
      rintro e w8 ⟨rfl, hw⟩
      subst hw
      clear C3
      obtain ⟨p1, p2, p3, p4, p5⟩ := pb_dec hB.out hnD.out hdv.out (rfl : (nD : Int) + -x = (nD : Int) + -x)
      have hgl : g < w3.heap.size := (Array.getElem?_eq_some_iff.1 hat3.out).1
      have FIN : Hid (∀ w' w'' z e, Am w3 w' pz z e → Fr (fun k => k = g) w' w'' → slowQ POS dv (x - (nD : Int)) f = ⟨true, z, -e, f, []⟩ →
          PqEnd w a0 a1 l (.returned (.tuple #[.agg #[.int .i64 0, .int .i32 0, .pointer (some ⟨pz, 0, none⟩), .string { data := #[] }, .string F], .nilIface])) w'') := by
        intro w' w'' z e hA hf hq
        have hs3 := hF3.out.size
        have hpz' := hpz.out
        refine ⟨((hF3.out.trans hA.fr (fun _ _ h => h)).trans hf (fun k hk e => by omega)), ?_⟩
        rw [hpq.out, hslow.out, ← hPOS.out, ← hdv.out, ← hnD.out, hq]
        obtain ⟨ob, hd, _, hp, hb⟩ := hA
        refine ⟨_, rfl, Or.inr ⟨rfl, pz, ob, ?_, ?_, by omega, fun b e => by have := hb b e; omega⟩⟩
        · rw [hF.out]; rfl
        · show DecAt w'' pz z (-(-e)) ob
          rw [Int.neg_neg]
          exact hd.frame hf (by omega) (fun b e => by have := hb b e; omega)
      have HT : Hid (∀ w' z e, Am w3 w' pz z e → w'.heap[g]? = some (.cells zeroQ 39 (0, 0))) := fun w' z e h => (h.fr.block g hgl (fun f => f)).trans hat3.out
      have hne : x - (nD : Int) = -((nD : Int) + -x) := by omega
      have hf1 : f ≠ 1 := by rcases hff.out with e | e <;> omega
      replace hne := Lib.hid hne
      replace p4 := Lib.hid p4
      replace p5 := Lib.hid p5
      replace p3 := Lib.hid p3
      by_cases hd0 : dv = 0
      · subst hd0
        have hsg : (sgn (!POS) 0).sign = 0 := by cases POS <;> rfl
        rw [hsg]
        have A3 := A2.out
        rw [sgn_zero] at A3
        have C4 := am_unscaled A3
        rw [show IntKind.i64.wrap 0 = 0 from rfl, show (cmpZ 0 0 == 0) = true from rfl] at C4
        replace C4 := Lib.hid C4
        replace A3 := Lib.hid A3
        clear A2 hsg
        go_wp2_with fail
        refine C4.out.mono ?_
        rintro e w9 ⟨rfl, f9⟩
        have A4 := A3.out.frame f9
        have hatE := HT.out _ _ _ A4
        replace A4 := Lib.hid A4
        replace f9 := Lib.hid f9
        go_wp2_with (first | (refine wpList_store5 _ rfl _ _ rfl g rfl _ _ _ _ _ rfl _ hatE rfl ?_; intro w20 hat20 f20) | fail)
        go_wp2_with fail
        refine bodyPost_ret (results_q _ _ g 39 _ (0, 0) rfl hat20 rfl) rfl ?_
        exact FIN.out _ _ _ _ A4.out f20 (by rw [slow_zero, hne.out])
      · cases POS with
        | true =>
          have hsg : (sgn (!true) dv).sign = 1 := by rw [sgn_sign, if_neg hd0]; rfl
          rw [hsg]
          have A3 := A2.out
          rw [show sgn (!true) dv = (dv : Int) from rfl] at A3
          clear hsg
          have C4 := am_unscaled A3
          have hun := unsc (z := (dv : Int)) (by omega)
          obtain ⟨V, hV⟩ : ∃ V, V = IntKind.i64.wrap (dv : Int) := ⟨_, rfl⟩
          obtain ⟨B, hBB⟩ : ∃ B, B = (cmpZ (IntKind.i64.wrap (dv : Int)) (dv : Int) == 0) := ⟨_, rfl⟩
          rw [← hBB, ← hV] at C4
          rw [← hBB, ← hV] at hun
          have hun2 : ((V != 0) = true) ∨ (V = 0 ∧ B = false) := by
            rcases hun with h | h
            · exact Or.inl (bne_iff_ne.mpr h)
            · exact Or.inr h
          replace hV := Lib.hid hV
          replace hBB := Lib.hid hBB
          replace C4 := Lib.hid C4
          replace A3 := Lib.hid A3
          clear A2 hun
          go_wp2_with fail
          refine C4.out.mono ?_
          rintro e w9 ⟨rfl, f9⟩
          have A4 := A3.out.frame f9
          have C5 := Lib.hid (am_round A4 (hgk.out.frame A4.fr (fun _ h => h.elim)) p1 p2 p3.out p4.out p5.out)
          replace A4 := Lib.hid A4
          replace f9 := Lib.hid f9
          clear C4 A3
          have IN9 := Lib.hid (fun w => (infScale_any (-9) (by omega) (by omega) w))
          rcases hun2 with hb | ⟨rfl, rfl⟩
          all_goals
            go_wp2_with fail
            refine (IN9.out _).mono ?_
            rintro e w10 ⟨rfl, hw⟩
            subst hw
            rw [show (-(-9) : Int) = 9 from rfl]
            go_wp2_with fail
            refine (RU.out _).mono ?_
            rintro e w11 ⟨rfl, hw⟩
            subst hw
            go_wp2_with fail
            refine C5.out.mono ?_
            rintro e w12 ⟨rfl, A5⟩
            have hatE := HT.out _ _ _ A5
            replace A5 := Lib.hid A5
            clear C5 IN9
            try unfold ptr
            go_wp2_with (first | (refine wpList_store5 _ rfl _ _ rfl g rfl _ _ _ _ _ rfl _ hatE rfl ?_; intro w20 hat20 f20) | fail)
            go_wp2_with fail
            refine bodyPost_ret (results_q _ _ g 39 _ (0, 0) rfl hat20 rfl) rfl ?_
            exact FIN.out _ _ _ _ A5.out f20 (by rw [slow_up _ _ _ _ hd0 hf1, hne.out]; rfl)
        | false =>
          have hsg : (sgn (!false) dv).sign = -1 := by rw [sgn_sign, if_neg hd0]; rfl
          rw [hsg]
          have C0 := Lib.hid (am_neg A2.out)
          clear hsg A2
          go_wp2_with fail
          refine C0.out.mono ?_
          rintro e w31 ⟨rfl, A3⟩
          rw [show -(sgn (!false) dv) = (dv : Int) from Int.neg_neg _] at A3
          clear C0
          unfold ptr
          have C4 := am_unscaled A3
          have hun := unsc (z := (dv : Int)) (by omega)
          obtain ⟨V, hV⟩ : ∃ V, V = IntKind.i64.wrap (dv : Int) := ⟨_, rfl⟩
          obtain ⟨B, hBB⟩ : ∃ B, B = (cmpZ (IntKind.i64.wrap (dv : Int)) (dv : Int) == 0) := ⟨_, rfl⟩
          rw [← hBB, ← hV] at C4
          rw [← hBB, ← hV] at hun
          have hun2 : ((V != 0) = true) ∨ (V = 0 ∧ B = false) := by
            rcases hun with h | h
            · exact Or.inl (bne_iff_ne.mpr h)
            · exact Or.inr h
          replace hV := Lib.hid hV
          replace hBB := Lib.hid hBB
          replace C4 := Lib.hid C4
          replace A3 := Lib.hid A3
          clear hun
          go_wp2_with fail
          refine C4.out.mono ?_
          rintro e w9 ⟨rfl, f9⟩
          have A4 := A3.out.frame f9
          have C5 := Lib.hid (am_round A4 (hgk.out.frame A4.fr (fun _ h => h.elim)) p1 p2 p3.out p4.out p5.out)
          replace A4 := Lib.hid A4
          replace f9 := Lib.hid f9
          clear C4 A3
          have IN9 := Lib.hid (fun w => (infScale_any (-9) (by omega) (by omega) w))
          rcases hun2 with hb | ⟨rfl, rfl⟩
          all_goals
            go_wp2_with fail
            refine (IN9.out _).mono ?_
            rintro e w10 ⟨rfl, hw⟩
            subst hw
            rw [show (-(-9) : Int) = 9 from rfl]
            go_wp2_with fail
            refine (RU.out _).mono ?_
            rintro e w11 ⟨rfl, hw⟩
            subst hw
            go_wp2_with fail
            refine C5.out.mono ?_
            rintro e w12 ⟨rfl, A5⟩
            have C6 := Lib.hid (am_neg A5)
            replace A5 := Lib.hid A5
            clear C5 IN9
            try unfold ptr
            go_wp2_with fail
            refine C6.out.mono ?_
            rintro e w13 ⟨rfl, A6⟩
            have hatE := HT.out _ _ _ A6
            replace A6 := Lib.hid A6
            clear C6
            try unfold ptr
            go_wp2_with (first | (refine wpList_store5 _ rfl _ _ rfl g rfl _ _ _ _ _ rfl _ hatE rfl ?_; intro w20 hat20 f20) | fail)
            go_wp2_with fail
            refine bodyPost_ret (results_q _ _ g 39 _ (0, 0) rfl hat20 rfl) rfl ?_
            exact FIN.out _ _ _ _ A6.out f20 (by rw [slow_up _ _ _ _ hd0 hf1, hne.out]; rfl)
end Go.Proofs.YtcpjclakdpjjfaaGreatDoor

namespace Go.Proofs.YtcpjclakdpjjfaaGreatDoor
open Go.RowKit

/-- A big.Int of the call's own. -/
def Im (w0 w : World) (p : Nat) (z : Int) : Prop := ∃ ob, IntAt w p z ob ∧ Fr (fun _ => False) w0 w ∧ w0.heap.size ≤ p ∧ ∀ b, ob = some b → w0.heap.size ≤ b
theorem Im.frame {w0 w w' : World} {p : Nat} {z : Int} (h : Im w0 w p z) (f : Fr (fun _ => False) w w') : Im w0 w' p z := by
  obtain ⟨ob, hd, g, hp, hb⟩ := h
  exact ⟨ob, hd.frame f (fun f => f) (fun _ _ f => f), g.trans f (fun _ _ h => h), hp, hb⟩

theorem am_cmp {w0 w : World} {p q : Nat} {z e y ey : Int} {oq : Option Nat} (h : Am w0 w p z e) (hq : DecAt w q y ey oq) (npq : p ≠ q) (h1 : 0 ≤ ey) (h2 : ey ≤ e) (h3 : e ≤ 160) (bz : z.natAbs < W64 ^ 30) (by_ : y.natAbs < W64 ^ 30) (hg : Gk w) :
    Calls Tryz.prog 36 #[ptr p, ptr q] w fun r w' => r = .returned (.int .i64 (cmpZ z (y * ((10 ^ (e - ey).toNat : Nat) : Int)))) ∧ Fr (fun _ => False) w w' := by
  obtain ⟨ob, hd, g, hp, hb⟩ := h
  have := dCmp_any p q z y e ey 0 (e - ey).toNat ob oq w hd hq npq (by omega) (Or.inl rfl) (by omega) (by omega) (by omega) (by omega) (by omega) (by omega) bz by_ hg
  rwa [zero_pow10] at this

theorem newInt_im {w0 w : World} (f : Fr (fun _ => False) w0 w) (x : Int) (h1 : -9223372036854775808 ≤ x) (h2 : x ≤ 9223372036854775807) : Calls Tryz.prog 26 #[.int .i64 x] w fun e w' => ∃ p, e = .returned (ptr p) ∧ Im w0 w' p x ∧ Fr (fun _ => False) w w' ∧ w.heap.size ≤ p := by
  refine (newInt_any x h1 h2 w).mono ?_
  rintro e w' ⟨p, ob, rfl, hi, g, hp, hb⟩
  have := f.size
  exact ⟨p, rfl, ⟨ob, hi, f.trans g (fun _ _ h => h), by omega, fun b hb' => by have := hb b hb'; omega⟩, g, hp⟩

theorem lsh_im {w0 w : World} {p q : Nat} (hp : Im w0 w p 1) (hq : Im w0 w q 1) (npq : p ≠ q) (s : Nat) (h1 : 1 ≤ s) (h2 : s ≤ 63) :
    Calls Tryz.prog 27 #[ptr p, ptr q, .int .u64 (s : Int)] w fun E w' => E = .returned (ptr p) ∧ Im w0 w' p ((2 ^ s : Nat) : Int) := by
  obtain ⟨op, hip, g, hpl, hpb⟩ := hp
  obtain ⟨oq, hiq, _, hql, hqb⟩ := hq
  obtain ⟨vp, hcp⟩ := hip.get
  have hiq' : IntAt w q ((1 : Nat) : Int) oq := hiq
  obtain ⟨vq, hcq⟩ := hiq'.nat
  rcases hcq.nat.split with ⟨h0, _⟩ | ⟨bx, lx, nx, ho, Hx⟩
  · exact absurd h0 (by decide)
  · have Hx1 : nx = 1 := by
      have a := Hx.len_le (k := 1) (by unfold W64; decide)
      have b := Hx.lt
      cases nx with
      | zero => rw [Nat.pow_zero] at b; exact absurd b (by decide)
      | succ k => omega
    subst Hx1
    subst ho
    refine (iLsh_any p q _ vp vq op bx _ 1 s lx w hcp hcq Hx npq h1 h2).mono ?_
    rintro E w' ⟨ob, rfl, hi, f, ho, _⟩
    have hs := g.size
    rw [Nat.one_mul] at hi
    refine ⟨rfl, ob, hi, g.trans f ?_, hpl, ?_⟩
    · rintro i hi' (e | e)
      · omega
      · have := hpb i e; omega
    · intro b hb
      rcases ho with e | ⟨c, e, hc⟩
      · exact hpb b (e ▸ hb)
      · rw [hb] at e; have : b = c := Option.some.inj e; omega

theorem am_mul {w0 w : World} {p q : Nat} {z e m : Int} (h : Am w0 w p z e) (hq : Im w0 w q m) (npq : p ≠ q) (bz : z.natAbs < W64 ^ 30) (bm : m.natAbs < W64 ^ 30) (hg : Gk w) :
    Calls Tryz.prog 30 #[ptr p, ptr p, ptr q] w fun E w' => E = .returned (ptr p) ∧ Am w0 w' p (z * m) e := by
  obtain ⟨op, hd, g, hpl, hpb⟩ := h
  obtain ⟨oq, hiq, _, hql, hqb⟩ := hq
  obtain ⟨vp, hcp⟩ := hd.int.get
  obtain ⟨vq, hcq⟩ := hiq.get
  refine (iMul_any p p q _ _ _ vp vp vq op op oq _ _ _ w hcp hcp hcq npq npq bz bm hg).mono ?_
  rintro E w' ⟨ob, rfl, hi, f, ho, hH⟩
  rw [sgn_get, sgn_get] at hi
  have hs := g.size
  refine ⟨rfl, ob, ⟨hi, Eq.trans hH hd.c2⟩, g.trans f ?_, hpl, ?_⟩
  · rintro i hi' (e | e)
    · omega
    · have := hpb i e; omega
  · intro b hb
    rcases ho with e | ⟨c, e, hc⟩
    · exact hpb b (e ▸ hb)
    · rw [hb] at e; have : b = c := Option.some.inj e; omega

theorem am_setBig {w0 w : World} {p : Nat} {z e : Int} (_h : Am w0 w p z e) : Calls Tryz.prog 29 #[ptr p, ptr p] w fun E w' => E = .returned (ptr p) ∧ w = w' := dSetBig_same p w

/-- A new decimal, compared with one of the call's own. -/
theorem am_cmpNew {w0 w1 w : World} {p q : Nat} {z e y ey : Int} {oq : Option Nat} (h : Am w0 w1 p z e) (hp : p < w1.heap.size) (f : Fr (fun _ => False) w1 w) (hq : DecAt w q y ey oq) (hql : w1.heap.size ≤ q) (h1 : 0 ≤ ey) (h2 : ey ≤ e) (h3 : e ≤ 160) (bz : z.natAbs < W64 ^ 30) (by_ : y.natAbs < W64 ^ 30) (hg : Gk w) :
    Calls Tryz.prog 36 #[ptr p, ptr q] w fun r w' => r = .returned (.int .i64 (cmpZ z (y * ((10 ^ (e - ey).toNat : Nat) : Int)))) ∧ Fr (fun _ => False) w w' :=
  am_cmp (h.frame f) hq (by omega) h1 h2 h3 bz by_ hg
theorem Am.lt {w0 w : World} {p : Nat} {z e : Int} (h : Am w0 w p z e) : p < w.heap.size := by
  obtain ⟨ob, hd, _⟩ := h
  exact hd.int.lt
/-- The cap. -/
theorem am_cap {w0 w1 w : World} {p q : Nat} {z e : Int} {oq : Option Nat} (h : Am w0 w1 p z e) (f : Fr (fun _ => False) w1 w) (hq : DecAt w q 9223372036854775807 0 oq) (hql : w1.heap.size ≤ q) (hqb : ∀ b, oq = some b → w1.heap.size ≤ b) :
    Calls Tryz.prog 38 #[ptr p, ptr q] w fun E w' => E = .returned (ptr p) ∧ Am w0 w' p 9223372036854775807 0 := by
  have hl := h.lt
  have hob : ∀ ob, DecAt w1 p z e ob → ∀ b, ob = some b → b < w1.heap.size := fun ob hd b e => by subst e; exact hd.int.ob_lt
  have h' : ∃ ob, DecAt w1 p z e ob ∧ Fr (fun _ => False) w0 w1 ∧ w0.heap.size ≤ p ∧ ∀ b, ob = some b → w0.heap.size ≤ b := h
  obtain ⟨ob, hd, g, hpl, hpb⟩ := h'
  have hA : Am w0 w p z e := h.frame f
  have hdw := hd.frame f (fun f => f) (fun _ _ f => f)
  have hbl := hob ob hd
  refine (dSet_any p q z 9223372036854775807 e 0 ob oq w hdw hq (by omega) ?_ ?_ ?_ (by unfold W64; decide +kernel)).mono ?_
  · intro e; have := hbl q e; omega
  · intro b e1 e2; have := hqb b e1; have := hbl b e2; omega
  · intro e; have := hqb p e; omega
  · rintro E w' ⟨ob', rfl, hd', f', ho⟩
    have hs := (g.trans f (fun _ _ h => h)).size
    refine ⟨rfl, ob', hd', (g.trans f (fun _ _ h => h)).trans f' ?_, hpl, ?_⟩
    · rintro i hi (e | e)
      · omega
      · have := hpb i e; omega
    · intro b hb'
      rcases ho with e | ⟨c, e, hc⟩
      · exact hpb b (e ▸ hb')
      · rw [hb'] at e; have : b = c := Option.some.inj e; omega
end Go.Proofs.YtcpjclakdpjjfaaGreatDoor


/-
  A part of the proof of FnQuantityAgain (texts R4 of mine, joined).
-/
import Derived.Test.YtcpjclakdpjjfaaGreatDoorM28
import Derived.WalkMore
import Derived.Deep.CutRange
import Derived.Deep.CutBlock
namespace Go.Proofs.YtcpjclakdpjjfaaGreatDoor
open Go.RowKit

theorem dgB {c : UInt8} (h : isDg c = true) : 48 ≤ c.toNat ∧ c.toNat ≤ 57 := by unfold isDg at h; simpa using h
theorem dgN {c : UInt8} (h : isDg c = false) : c.toNat < 48 ∨ 57 < c.toNat := by unfold isDg at h; simp at h; omega

/-- A byte of the text, told by its number. -/
theorem byte_at {s : ByteArray} {l : List UInt8} (hat : ∀ i (h : i < s.size), l[i]? = some (s[i]'h)) {i : Nat} (h : i < s.size) (k : Nat) (hk : k < 256) : l[i]? = some (UInt8.ofNat k) ↔ (s[i]'h).toNat = k := by
  rw [hat i h]
  constructor
  · intro e
    rw [Option.some.inj e, UInt8.toNat_ofNat']; omega
  · intro e; rw [← e, UInt8.ofNat_toNat]

theorem results_tmp6 {fn : Func} {a b c d e f : Tmp} (h : fn.results = #[.tmp a, .tmp b, .tmp c, .tmp d, .tmp e, .tmp f]) (tmps : Array Value) (P : Program) (w : World) :
    (results fn tmps).run P w = .ok (.tuple #[tmps.getD a undef, tmps.getD b undef, tmps.getD c undef, tmps.getD d undef, tmps.getD e undef, tmps.getD f undef]) w := by
  simp [results, h]

/-- What parseQuantityString comes to. -/
def SplitEnd (w : World) (EV : Value) (l : List UInt8) (e : Ending) (w' : World) : Prop :=
  Fr (fun _ => False) w w' ∧ match splitQ l with
  | some p => e = .returned (.tuple #[.bool p.pos, .string (tx p.value), .string (tx p.num), .string (tx p.denom), .string (tx p.suf), .nilIface])
  | none => ∃ a b c d f, e = .returned (.tuple #[a, b, c, d, f, EV])

set_option maxRecDepth 100000 in
set_option maxHeartbeats 4000000 in
theorem splitString_any (s : ByteArray) (l : List UInt8) (EV : Value) (w : World) (hl : s.data.toList = l) (hne : l ≠ []) (hlen : l.length ≤ 200) (hE : w.cell? ⟨0, 0, none⟩ = some EV) :
    Calls Tryz.prog 17 #[.string s] w (SplitEnd w EV l) := by
  have hsz : s.size = l.length := by rw [← hl]; simp
  have hat : Hid (∀ i (h : i < s.size), l[i]? = some (s[i]'h)) := by
    intro i h
    rw [← hl]
    rw [List.getElem?_eq_getElem (by simpa using h)]; rfl
  obtain ⟨n, hn⟩ : ∃ n, n = l.length := ⟨_, rfl⟩
  rw [← hn] at hsz hlen
  have hn0 : 0 < n := by rw [hn]; cases l with | nil => exact absurd rfl hne | cons a t => simp
  have hwn : IntKind.i64.wrap (n : Int) = n := by rw [IntKind.wrap_i64]; omega
  replace hl := Lib.hid hl
  replace hn := Lib.hid hn
  replace hE := Lib.hid hE
  clear hne
  obtain ⟨P, hP⟩ : ∃ P, P = decide (l.head? ≠ some 45) := ⟨_, rfl⟩
  obtain ⟨o, ho⟩ : ∃ o, o = sgnAt l 0 := ⟨_, rfl⟩
  have hh0 : l.head? = l[0]? := by cases l <;> rfl
  have hos : 0 < s.size := by omega
  have ho2 : o ≤ n := by rw [ho, hn.out]; exact sgnAt_le l 0 (Nat.zero_le _)
  have b45 : l[0]? = some 45 ↔ s[0].toNat = 45 := byte_at hat.out hos 45 (by omega)
  have b43 : l[0]? = some 43 ↔ s[0].toNat = 43 := byte_at hat.out hos 43 (by omega)
  have hPo : Hid ((s[0].toNat = 45 ∧ P = false ∧ o = 1) ∨ (s[0].toNat = 43 ∧ P = true ∧ o = 1) ∨ (s[0].toNat ≠ 45 ∧ s[0].toNat ≠ 43 ∧ P = true ∧ o = 0)) := by
    show _ ∨ _ ∨ _
    unfold sgnAt at ho
    rw [hh0] at hP
    by_cases h1 : s[0].toNat = 45
    · left
      have := b45.mpr h1
      refine ⟨h1, by rw [hP, this]; rfl, by rw [ho, if_pos (Or.inl this)]⟩
    · have n1 : ¬ (l[0]? = some 45) := fun e => h1 (b45.mp e)
      by_cases h2 : s[0].toNat = 43
      · right; left
        have := b43.mpr h2
        refine ⟨h2, by rw [hP]; exact decide_eq_true n1, by rw [ho, if_pos (Or.inr this)]⟩
      · right; right
        have n2 : ¬ (l[0]? = some 43) := fun e => h2 (b43.mp e)
        refine ⟨h1, h2, by rw [hP]; exact decide_eq_true n1, by rw [ho, if_neg (by rintro (e | e); exact n1 e; exact n2 e)]⟩
  replace hP := Lib.hid hP
  replace ho := Lib.hid ho
  clear b45 b43 hh0
  go_enter Tryz.func17, Tryz.ntmps17
  go_wp2_with fail
  go_step3
  go_upto_if 20 with fail
  go_cut [2, 8] (fun pv iv wx => pv = .bool P ∧ iv = .int .i64 (o : Int) ∧ w = wx)
  case first =>
    rcases hPo.out with ⟨h1, rfl, rfl⟩ | ⟨h1, rfl, rfl⟩ | ⟨h1, h2, rfl, rfl⟩
    · have e1 : ((s[0].toNat : Int) == 45) = true := by rw [h1]; rfl
      replace h1 := Lib.hid h1
      go_wp2_with fail
      go_meet
      exact ⟨rfl, rfl, rfl⟩
    · have e1 : ((s[0].toNat : Int) == 45) = false := by rw [h1]; rfl
      have e2 : ((s[0].toNat : Int) == 43) = true := by rw [h1]; rfl
      replace h1 := Lib.hid h1
      go_wp2_with fail
      go_meet
      exact ⟨rfl, rfl, rfl⟩
    · have e1 : ((s[0].toNat : Int) == 45) = false := beq_eq_false_iff_ne.mpr (by omega)
      have e2 : ((s[0].toNat : Int) == 43) = false := beq_eq_false_iff_ne.mpr (by omega)
      replace h1 := Lib.hid h1
      replace h2 := Lib.hid h2
      go_wp2_with fail
      go_meet
      exact ⟨rfl, rfl, rfl⟩
  case rest =>
    obtain ⟨rfl, rfl, rfl⟩ := hcut
    go_wp2_with fail
    go_step3
    go_wp2_with fail
    obtain ⟨z, hz⟩ : ∃ z, z = runEnd zeroP l o := ⟨_, rfl⟩
    have hzn : z ≤ n := by rw [hz, hn.out]; exact runEnd_le _ _ _ (by rw [← hn.out]; exact ho2)
    have hoz : o ≤ z := by rw [hz]; exact runEnd_ge _ _ _
    replace hz := Lib.hid hz
    go_loop [8, 10] (fun p i => ∃ j : Nat, p = .int .i64 (j : Int) ∧ i = .int .i64 (j : Int) ∧ o ≤ j ∧ j ≤ z) (fun p _ => n - (intOf p).toNat)
    case atStart => exact ⟨o, rfl, rfl, Nat.le_refl _, hoz⟩
    case round =>
      obtain ⟨j, rfl, rfl, hj1, hj2⟩ := hrel
      by_cases hjn : j = n
      · subst hjn
        have hzj : z = j := by omega
        have FIN : SplitEnd w EV l (.returned (.tuple #[.bool P, .string { data := #[48] }, .string { data := #[48] }, .string { data := #[] }, .string { data := #[] }, .nilIface])) w := by
          refine ⟨Fr.refl _ _, ?_⟩
          rw [split_run, if_pos (by rw [← ho.out, ← hz.out, hzj, hn.out]), ← hP.out]
          rfl
        replace FIN := Lib.hid FIN
        go_wp2_with fail
        try rw [Exit.noGoto_ret]
        refine bodyPost_ret (results_tmp6 rfl _ _ _) rfl ?_
        exact FIN.out
      · have hjs : j < s.size := by omega
        have hjn2 : j < n := by omega
        have hat2 := hat.out j hjs
        by_cases hlt : j < z
        · have e1 : s[j].toNat = 48 := by
            have := runEnd_in (p := zeroP) (l := l) (a := o) hj1 (by rw [← hz.out]; exact hlt) hat2
            unfold zeroP at this
            have := eq_of_beq this
            rw [this]; rfl
          have e2 : ((s[j].toNat : Int) == 48) = true := by rw [e1]; rfl
          replace e1 := Lib.hid e1
          replace hat2 := Lib.hid hat2
          go_wp2_with fail
          go_round
          case rel => exact ⟨j + 1, rfl, rfl, by omega, by omega⟩
          case measure => simp [intOf]; omega
        · obtain rfl : j = z := by omega
          have e1 : s[j].toNat ≠ 48 := by
            intro e
            have h0 := runEnd_out (p := zeroP) (l := l) (a := o) (c := s[j]) (by rw [← hz.out]; exact hat2)
            unfold zeroP at h0
            have : s[j] = 48 := UInt8.toNat_inj.mp e
            rw [this] at h0
            exact absurd h0 (by decide)
          have e2 : ((s[j].toNat : Int) == 48) = false := beq_eq_false_iff_ne.mpr (by omega)
          replace e1 := Lib.hid e1
          replace hat2 := Lib.hid hat2
          go_wp2_with fail
          go_step3
          go_wp2_with fail
          obtain ⟨d, hd⟩ : ∃ d, d = runEnd isDg l j := ⟨_, rfl⟩
          have hdn : d ≤ n := by rw [hd, hn.out]; exact runEnd_le _ _ _ (by rw [← hn.out]; exact hzn)
          have hjd : j ≤ d := by rw [hd]; exact runEnd_ge _ _ _
          replace hd := Lib.hid hd
          clear hj2 hlt e2 hzn
          go_loop [8, 11] (fun p i => ∃ k : Nat, p = .int .i64 (j : Int) ∧ i = .int .i64 (k : Int) ∧ j ≤ k ∧ k ≤ d) (fun _ i => n - (intOf i).toNat)
          case atStart => exact ⟨j, rfl, rfl, Nat.le_refl _, hjd⟩
          case round =>
            obtain ⟨k, rfl, rfl, hk1, hk2⟩ := hrel
            by_cases hkn : k = n
            · obtain rfl : d = k := by omega
              have hdl : d = l.length := by rw [hkn]; exact hn.out
              have hpe : pntEnd l d = d := by
                unfold pntEnd
                rw [if_neg]
                rw [List.getElem?_eq_none (by omega)]; simp
              have hde : denOf l d = [] := by
                unfold denOf
                rw [if_neg]
                rw [List.getElem?_eq_none (by omega)]; simp
              have hnum : num0 l j ≠ [] := by
                unfold num0
                rw [← hd.out]
                intro e
                have := congrArg List.length e
                rw [List.length_take, List.length_drop] at this
                simp at this; omega
              have FIN : SplitEnd w EV l (.returned (.tuple #[.bool P, .string (s.extract 0 n), .string (s.extract j n), .string { data := #[] }, .string { data := #[] }, .nilIface])) w := by
                refine ⟨Fr.refl _ _, ?_⟩
                rw [split_some (z := j) (d := d) (p := d) (by rw [hz.out, ho.out]) (by rw [← hn.out]; exact hjn) hd.out hpe.symm (by rw [hdl]; exact sufEnd_len l), if_neg hnum, hde, ← hP.out]
                show _ = Ending.returned (.tuple #[.bool P, .string (tx (l.take d)), .string (tx (num0 l j)), .string (tx []), .string (tx (l.drop d)), .nilIface])
                rw [extract_full s n hsz.symm, extract_tx s j n, hl.out]
                unfold num0
                rw [← hd.out, ← hkn, hdl, List.drop_length, List.take_length]
                rfl
              replace FIN := Lib.hid FIN
              clear hnum hde hpe
              replace hdl := Lib.hid hdl
              subst hkn
              go_wp2_with fail
              try rw [Exit.noGoto_ret]
              refine bodyPost_ret (results_tmp6 rfl _ _ _) rfl ?_
              exact FIN.out
            · have hks : k < s.size := by omega
              have hkn2 : k < n := by omega
              have hat3 := hat.out k hks
              by_cases hlt : k < d
              · have e1 : 48 ≤ s[k].toNat ∧ s[k].toNat ≤ 57 := dgB (runEnd_in (p := isDg) (l := l) (a := j) hk1 (by rw [← hd.out]; exact hlt) hat3)
                have e2 : s[k].toNat = 48 ∨ s[k].toNat = 49 ∨ s[k].toNat = 50 ∨ s[k].toNat = 51 ∨ s[k].toNat = 52 ∨ s[k].toNat = 53 ∨ s[k].toNat = 54 ∨ s[k].toNat = 55 ∨ s[k].toNat = 56 ∨ s[k].toNat = 57 := by omega
                clear e1
                replace hat3 := Lib.hid hat3
                rcases e2 with e2 | e2 | e2 | e2 | e2 | e2 | e2 | e2 | e2 | e2
                all_goals
                  go_wp2_with fail
                  go_round
                  case rel => exact ⟨k + 1, rfl, rfl, by omega, by omega⟩
                  case measure => simp [intOf]; omega
              · obtain rfl : k = d := by omega
                have e1 := dgN (runEnd_out (p := isDg) (l := l) (a := j) (c := s[k]) (by rw [← hd.out]; exact hat3))
                have f0 : ((s[k].toNat : Int) == 48) = false := beq_eq_false_iff_ne.mpr (by omega)
                have f1 : ((s[k].toNat : Int) == 49) = false := beq_eq_false_iff_ne.mpr (by omega)
                have f2 : ((s[k].toNat : Int) == 50) = false := beq_eq_false_iff_ne.mpr (by omega)
                have f3 : ((s[k].toNat : Int) == 51) = false := beq_eq_false_iff_ne.mpr (by omega)
                have f4 : ((s[k].toNat : Int) == 52) = false := beq_eq_false_iff_ne.mpr (by omega)
                have f5 : ((s[k].toNat : Int) == 53) = false := beq_eq_false_iff_ne.mpr (by omega)
                have f6 : ((s[k].toNat : Int) == 54) = false := beq_eq_false_iff_ne.mpr (by omega)
                have f7 : ((s[k].toNat : Int) == 55) = false := beq_eq_false_iff_ne.mpr (by omega)
                have f8 : ((s[k].toNat : Int) == 56) = false := beq_eq_false_iff_ne.mpr (by omega)
                have f9 : ((s[k].toNat : Int) == 57) = false := beq_eq_false_iff_ne.mpr (by omega)
                have hxs := extract_size s j k (by omega)
                replace e1 := Lib.hid e1
                replace hat3 := Lib.hid hat3
                obtain ⟨NUM, hNUM⟩ : ∃ NUM, NUM = tx (if num0 l j = [] then [48] else num0 l j) := ⟨_, rfl⟩
                have hNl : (num0 l j).length = k - j := by
                  unfold num0
                  rw [← hd.out, List.length_take, List.length_drop]; have := hn.out; omega
                have hNx : s.extract j k = tx (num0 l j) := by
                  rw [extract_tx, hl.out]; unfold num0; rw [← hd.out]
                replace hNUM := Lib.hid hNUM
                replace hNl := Lib.hid hNl
                replace hNx := Lib.hid hNx
                go_upto_if 79 with fail
                go_cut [4] (fun nv wx => nv = .string NUM ∧ w = wx)
                case first =>
                  by_cases hkj : k - j = 0
                  · have hN0 : NUM = { data := #[48] } := by
                      rw [hNUM.out, if_pos (List.eq_nil_of_length_eq_zero (by rw [hNl.out, hkj]))]; rfl
                    rw [hkj] at hxs
                    go_wp2_with fail
                    go_meet
                    exact ⟨by rw [hN0], rfl⟩
                  · have hN0 : NUM = s.extract j k := by
                      rw [hNUM.out, if_neg, hNx.out]
                      intro e
                      have := hNl.out
                      rw [e] at this; simp at this; omega
                    have g0 : (((k - j : Nat) : Int) == 0) = false := beq_eq_false_iff_ne.mpr (by omega)
                    go_wp2_with fail
                    go_meet
                    exact ⟨by rw [hN0], rfl⟩
                case rest =>
                  obtain ⟨rfl, rfl⟩ := hcut
                  clear f0 f1 f2 f3 f4 f5 f6 f7 f8 f9
                  have b46 : l[k]? = some 46 ↔ s[k].toNat = 46 := byte_at hat.out hks 46 (by omega)
                  obtain ⟨DEN, hDEN⟩ : ∃ D, D = tx (denOf l k) := ⟨_, rfl⟩
                  obtain ⟨p0, hp0⟩ : ∃ p, p = pntEnd l k := ⟨_, rfl⟩
                  replace hDEN := Lib.hid hDEN
                  replace hp0 := Lib.hid hp0
                  replace b46 := Lib.hid b46
                  go_upto_if 88 with fail
                  go_cut [5, 8, 12] from 84 to 122 (fun dv pv _ wx => dv = .string DEN ∧ pv = .int .i64 (p0 : Int) ∧ w = wx)
                  case first =>
                    by_cases h46 : s[k].toNat = 46
                    · have hl46 := b46.out.mpr h46
                      have e46 : ((s[k].toNat : Int) == 46) = true := by rw [h46]; rfl
                      replace h46 := Lib.hid h46
                      have hk1 : k + 1 ≤ n := by omega
                      obtain ⟨f, hf⟩ : ∃ f, f = runEnd isDg l (k + 1) := ⟨_, rfl⟩
                      have hfn : f ≤ n := by rw [hf, hn.out]; exact runEnd_le _ _ _ (by rw [← hn.out]; exact hk1)
                      have hkf : k + 1 ≤ f := by rw [hf]; exact runEnd_ge _ _ _
                      have hp0f : p0 = f := by rw [hp0.out, hf]; unfold pntEnd; rw [if_pos hl46]
                      have hDENf : DEN = s.extract (k + 1) f := by
                        rw [hDEN.out, extract_tx, hl.out, hf]; unfold denOf; rw [if_pos hl46]
                      subst hp0f
                      subst hDENf
                      replace hf := Lib.hid hf
                      replace hl46 := Lib.hid hl46
                      go_wp2_with fail
                      go_step3
                      go_wp2_with fail
                      go_step3
                      go_wp2_with fail
                      go_loop [5, 8, 12] (fun _ p i => ∃ m : Nat, p = .int .i64 ((k : Int) + 1) ∧ i = .int .i64 (m : Int) ∧ k + 1 ≤ m ∧ m ≤ p0) (fun _ _ i => n - (intOf i).toNat)
                      case atStart => exact ⟨k + 1, rfl, rfl, Nat.le_refl _, hkf⟩
                      case round =>
                        obtain ⟨m, rfl, rfl, hm1, hm2⟩ := hrel
                        by_cases hmn : m = n
                        · obtain rfl : p0 = m := by omega
                          have hdl : p0 = l.length := by rw [hmn]; exact hn.out
                          have FIN : SplitEnd w EV l (.returned (.tuple #[.bool P, .string (s.extract 0 n), .string NUM, .string (s.extract (k + 1) n), .string { data := #[] }, .nilIface])) w := by
                            refine ⟨Fr.refl _ _, ?_⟩
                            rw [split_some (z := j) (d := k) (p := p0) (by rw [hz.out, ho.out]) (by rw [← hn.out]; exact hjn) hd.out hp0.out (by rw [hdl]; exact sufEnd_len l), ← hP.out]
                            show _ = Ending.returned (.tuple #[.bool P, .string (tx (l.take p0)), .string (tx (if num0 l j = [] then [48] else num0 l j)), .string (tx (denOf l k)), .string (tx (l.drop p0)), .nilIface])
                            rw [extract_full s n hsz.symm, hl.out, ← hNUM.out, ← hDEN.out, hmn, hn.out, List.drop_length, List.take_length]
                            rfl
                          replace FIN := Lib.hid FIN
                          replace hdl := Lib.hid hdl
                          subst hmn
                          go_wp2_with fail
                          try rw [Exit.noGoto_ret]
                          try rw [Exit.noGoto_ret]
                          refine bodyPost_ret (results_tmp6 rfl _ _ _) rfl ?_
                          exact FIN.out
                        · have hms : m < s.size := by omega
                          have hmn2 : m < n := by omega
                          have hat4 := hat.out m hms
                          by_cases hlt3 : m < p0
                          · have e1 : 48 ≤ s[m].toNat ∧ s[m].toNat ≤ 57 := dgB (runEnd_in (p := isDg) (l := l) (a := k + 1) hm1 (by rw [← hf.out]; exact hlt3) hat4)
                            have e2 : s[m].toNat = 48 ∨ s[m].toNat = 49 ∨ s[m].toNat = 50 ∨ s[m].toNat = 51 ∨ s[m].toNat = 52 ∨ s[m].toNat = 53 ∨ s[m].toNat = 54 ∨ s[m].toNat = 55 ∨ s[m].toNat = 56 ∨ s[m].toNat = 57 := by omega
                            clear e1
                            replace hat4 := Lib.hid hat4
                            rcases e2 with e2 | e2 | e2 | e2 | e2 | e2 | e2 | e2 | e2 | e2
                            all_goals
                              go_wp2_with fail
                              go_round
                              case rel => exact ⟨m + 1, rfl, rfl, by omega, by omega⟩
                              case measure => simp [intOf]; omega
                          · obtain rfl : m = p0 := by omega
                            have e1 := dgN (runEnd_out (p := isDg) (l := l) (a := k + 1) (c := s[m]) (by rw [← hf.out]; exact hat4))
                            have f0 : ((s[m].toNat : Int) == 48) = false := beq_eq_false_iff_ne.mpr (by omega)
                            have f1 : ((s[m].toNat : Int) == 49) = false := beq_eq_false_iff_ne.mpr (by omega)
                            have f2 : ((s[m].toNat : Int) == 50) = false := beq_eq_false_iff_ne.mpr (by omega)
                            have f3 : ((s[m].toNat : Int) == 51) = false := beq_eq_false_iff_ne.mpr (by omega)
                            have f4 : ((s[m].toNat : Int) == 52) = false := beq_eq_false_iff_ne.mpr (by omega)
                            have f5 : ((s[m].toNat : Int) == 53) = false := beq_eq_false_iff_ne.mpr (by omega)
                            have f6 : ((s[m].toNat : Int) == 54) = false := beq_eq_false_iff_ne.mpr (by omega)
                            have f7 : ((s[m].toNat : Int) == 55) = false := beq_eq_false_iff_ne.mpr (by omega)
                            have f8 : ((s[m].toNat : Int) == 56) = false := beq_eq_false_iff_ne.mpr (by omega)
                            have f9 : ((s[m].toNat : Int) == 57) = false := beq_eq_false_iff_ne.mpr (by omega)
                            replace e1 := Lib.hid e1
                            replace hat4 := Lib.hid hat4
                            go_wp2_with fail
                            go_meet
                            exact ⟨rfl, rfl, rfl⟩
                    · have hDENf : DEN = { data := #[] } := by
                        rw [hDEN.out]; unfold denOf; rw [if_neg (fun e => h46 (b46.out.mp e))]; rfl
                      have hp0f : p0 = k := by rw [hp0.out]; unfold pntEnd; rw [if_neg (fun e => h46 (b46.out.mp e))]
                      have e46 : ((s[k].toNat : Int) == 46) = false := beq_eq_false_iff_ne.mpr (by omega)
                      go_wp2_with fail
                      go_meet
                      exact ⟨by rw [hDENf], by rw [hp0f], rfl⟩
                  case rest =>
                    obtain ⟨rfl, rfl, rfl⟩ := hcut
                    clear hxs hat3
                    have hp0n : p0 ≤ n := by rw [hp0.out, hn.out]; exact pntEnd_le _ _ (by rw [← hn.out]; exact hdn)
                    have FIN : Hid (sufEnd l p0 = n → ∀ w', Fr (fun _ => False) w w' → SplitEnd w EV l (.returned (.tuple #[.bool P, .string (s.extract 0 p0), .string NUM, .string DEN, .string (s.extract p0 n), .nilIface])) w') := by
                      intro he w' hf
                      refine ⟨hf, ?_⟩
                      rw [split_some (z := j) (d := k) (p := p0) (by rw [hz.out, ho.out]) (by rw [← hn.out]; exact hjn) hd.out hp0.out (by rw [he]; exact hn.out), ← hP.out]
                      show _ = Ending.returned (.tuple #[.bool P, .string (tx (l.take p0)), .string (tx (if num0 l j = [] then [48] else num0 l j)), .string (tx (denOf l k)), .string (tx (l.drop p0)), .nilIface])
                      rw [extract_tx, extract_tx, hl.out, ← hNUM.out, ← hDEN.out, List.drop_zero, Nat.sub_zero]
                      rw [List.take_of_length_le (l := l.drop p0) (by rw [List.length_drop, ← hn.out]; exact Nat.le_refl _)]
                    have BAD : Hid (sufEnd l p0 ≠ n → ∀ a b c d f w', Fr (fun _ => False) w w' → SplitEnd w EV l (.returned (.tuple #[a, b, c, d, f, EV])) w') := by
                      intro he a b c d f w' hf
                      refine ⟨hf, ?_⟩
                      rw [split_none (z := j) (d := k) (p := p0) (by rw [hz.out, ho.out]) (by rw [← hn.out]; exact hjn) hd.out hp0.out (by rw [← hn.out]; exact he)]
                      exact ⟨a, b, c, d, f, rfl⟩
                    obtain ⟨q, hq⟩ : ∃ q, q = runEnd isSuf l p0 := ⟨_, rfl⟩
                    have hqn : q ≤ n := by rw [hq, hn.out]; exact runEnd_le _ _ _ (by rw [← hn.out]; exact hp0n)
                    have hpq : p0 ≤ q := by rw [hq]; exact runEnd_ge _ _ _
                    obtain ⟨g, hg⟩ : ∃ g, g = sgnAt l q := ⟨_, rfl⟩
                    have hgn : g ≤ n := by rw [hg, hn.out]; exact sgnAt_le _ _ (by rw [← hn.out]; exact hqn)
                    have hsE : sufEnd l p0 = runEnd isDg l g := by unfold sufEnd; rw [hg, hq]
                    replace hsE := Lib.hid hsE
                    replace hq := Lib.hid hq
                    replace hg := Lib.hid hg
                    clear b46
                    go_wp2_with fail
                    go_loopw [8, 14] (fun p i wr => ∃ m : Nat, p = .int .i64 (p0 : Int) ∧ i = .int .i64 (m : Int) ∧ p0 ≤ m ∧ m ≤ q ∧ Hid (Fr (fun _ => False) w wr)) (fun _ i _ => n - (intOf i).toNat)
                    case atStart => exact ⟨p0, rfl, rfl, Nat.le_refl _, hpq, Fr.refl _ _⟩
                    case round =>
                      obtain ⟨m, rfl, rfl, hm1, hm2, hf⟩ := hrel
                      by_cases hmn : m = n
                      · have hqm : q = m := by omega
                        have FF := Lib.hid (FIN.out (by rw [hsE.out, hg.out, hqm, hmn, hn.out, sgnAt_len, runEnd_len]) _ hf.out)
                        subst hmn
                        go_wp2_with fail
                        try rw [Exit.noGoto_ret]
                        try rw [Exit.noGoto_ret]
                        refine bodyPost_ret (results_tmp6 rfl _ _ _) rfl ?_
                        exact FF.out
                      · have hms : m < s.size := by omega
                        have hmn2 : m < n := by omega
                        have hat4 := hat.out m hms
                        have hx1 : s.extract m (m + 1) = tx [s[m]] := by
                          rw [extract_tx, hl.out, show m + 1 - m = 1 by omega]
                          congr 1
                          obtain ⟨hm', e'⟩ := List.getElem?_eq_some_iff.mp hat4
                          rw [List.drop_eq_getElem_cons hm', e']; rfl
                        have C := containsAny_byte s[m] wr
                        rw [← hx1] at C
                        have hwm : IntKind.i64.wrap ((m : Int) + 1) = (m : Int) + 1 := by rw [IntKind.wrap_i64]; omega
                        by_cases hlt : m < q
                        · have e1 : isSuf s[m] = true := runEnd_in (p := isSuf) (l := l) (a := p0) hm1 (by rw [← hq.out]; exact hlt) hat4
                          rw [e1] at C
                          replace C := Lib.hid C
                          replace hx1 := Lib.hid hx1
                          replace e1 := Lib.hid e1
                          replace hat4 := Lib.hid hat4
                          go_wp2_with fail
                          refine C.out.mono ?_
                          rintro e w1 ⟨rfl, f1⟩
                          have f2 := Lib.hid (hf.out.trans f1 (fun _ _ h => h))
                          replace f1 := Lib.hid f1
                          go_wp2_with fail
                          go_roundw
                          case rel => exact ⟨m + 1, rfl, rfl, by omega, by omega, f2⟩
                          case measure => simp [intOf]; omega
                        · obtain rfl : q = m := by omega
                          have e1 : isSuf s[q] = false := runEnd_out (p := isSuf) (l := l) (a := p0) (c := s[q]) (by rw [← hq.out]; exact hat4)
                          rw [e1] at C
                          replace C := Lib.hid C
                          replace hx1 := Lib.hid hx1
                          replace e1 := Lib.hid e1
                          replace hat4 := Lib.hid hat4
                          go_wp2_with fail
                          refine C.out.mono ?_
                          rintro e w1 ⟨rfl, f1⟩
                          have f2 := Lib.hid (hf.out.trans f1 (fun _ _ h => h))
                          replace f1 := Lib.hid f1
                          clear C hf
                          go_upto_if 147 with fail
                          go_cut [8] (fun pv wx => pv = .int .i64 (g : Int) ∧ w1 = wx)
                          case first =>
                            have hqs : q < s.size := by omega
                            have b45 : l[q]? = some 45 ↔ s[q].toNat = 45 := byte_at hat.out hqs 45 (by omega)
                            have b43 : l[q]? = some 43 ↔ s[q].toNat = 43 := byte_at hat.out hqs 43 (by omega)
                            by_cases h1 : s[q].toNat = 45
                            · have hgq : g = q + 1 := by rw [hg.out]; unfold sgnAt; rw [if_pos (Or.inl (b45.mpr h1))]
                              have e2 : ((s[q].toNat : Int) == 45) = true := by rw [h1]; rfl
                              replace h1 := Lib.hid h1
                              clear b45 b43
                              go_wp2_with fail
                              go_meet
                              exact ⟨by rw [hgq]; rfl, rfl⟩
                            · by_cases h2 : s[q].toNat = 43
                              · have hgq : g = q + 1 := by rw [hg.out]; unfold sgnAt; rw [if_pos (Or.inr (b43.mpr h2))]
                                have e2 : ((s[q].toNat : Int) == 45) = false := by rw [h2]; rfl
                                have e3 : ((s[q].toNat : Int) == 43) = true := by rw [h2]; rfl
                                replace h1 := Lib.hid h1
                                replace h2 := Lib.hid h2
                                clear b45 b43
                                go_wp2_with fail
                                go_meet
                                exact ⟨by rw [hgq]; rfl, rfl⟩
                              · have hgq : g = q := by
                                  rw [hg.out]; unfold sgnAt
                                  rw [if_neg]
                                  rintro (e | e)
                                  · exact h1 (b45.mp e)
                                  · exact h2 (b43.mp e)
                                have e2 : ((s[q].toNat : Int) == 45) = false := beq_eq_false_iff_ne.mpr (by omega)
                                have e3 : ((s[q].toNat : Int) == 43) = false := beq_eq_false_iff_ne.mpr (by omega)
                                replace h1 := Lib.hid h1
                                replace h2 := Lib.hid h2
                                clear b45 b43
                                go_wp2_with fail
                                go_meet
                                exact ⟨by rw [hgq], rfl⟩
                          case rest =>
                            obtain ⟨rfl, rfl⟩ := hcut
                            have hfx := f2
                            obtain ⟨f, hf'⟩ : ∃ f, f = runEnd isDg l g := ⟨_, rfl⟩
                            have hfn : f ≤ n := by rw [hf', hn.out]; exact runEnd_le _ _ _ (by rw [← hn.out]; exact hgn)
                            have hgf : g ≤ f := by rw [hf']; exact runEnd_ge _ _ _
                            have hEx : w1.cell? ⟨0, 0, none⟩ = some EV := (hfx.out.cell (p := ⟨0, 0, none⟩) (World.block_lt_of_cell? w _ hE.out) (fun f => f)).trans hE.out
                            replace hf' := Lib.hid hf'
                            go_wp2_with fail
                            go_step3
                            go_wp2_with fail
                            go_loop [15] (fun i => ∃ m : Nat, i = .int .i64 (m : Int) ∧ g ≤ m ∧ m ≤ f) (fun i => n - (intOf i).toNat)
                            case atStart => exact ⟨g, rfl, Nat.le_refl _, hgf⟩
                            case round =>
                              obtain ⟨m, rfl, hm3, hm4⟩ := hrel
                              by_cases hmn3 : m = n
                              · have hfm : f = m := by omega
                                have FF := Lib.hid (FIN.out (by rw [hsE.out, ← hf'.out]; omega) _ hfx.out)
                                subst hmn3
                                go_wp2_with fail
                                try rw [Exit.noGoto_ret]
                                try rw [Exit.noGoto_ret]
                                refine bodyPost_ret (results_tmp6 rfl _ _ _) rfl ?_
                                exact FF.out
                              · have hms3 : m < s.size := by omega
                                have hmn4 : m < n := by omega
                                have hat5 := hat.out m hms3
                                by_cases hlt3 : m < f
                                · have e1 : 48 ≤ s[m].toNat ∧ s[m].toNat ≤ 57 := dgB (runEnd_in (p := isDg) (l := l) (a := g) hm3 (by rw [← hf'.out]; exact hlt3) hat5)
                                  have e2 : s[m].toNat = 48 ∨ s[m].toNat = 49 ∨ s[m].toNat = 50 ∨ s[m].toNat = 51 ∨ s[m].toNat = 52 ∨ s[m].toNat = 53 ∨ s[m].toNat = 54 ∨ s[m].toNat = 55 ∨ s[m].toNat = 56 ∨ s[m].toNat = 57 := by omega
                                  clear e1
                                  replace hat5 := Lib.hid hat5
                                  rcases e2 with e2 | e2 | e2 | e2 | e2 | e2 | e2 | e2 | e2 | e2
                                  all_goals
                                    go_wp2_with fail
                                    go_round
                                    case rel => exact ⟨m + 1, rfl, by omega, by omega⟩
                                    case measure => simp [intOf]; omega
                                · obtain rfl : f = m := by omega
                                  have e1 := dgN (runEnd_out (p := isDg) (l := l) (a := g) (c := s[f]) (by rw [← hf'.out]; exact hat5))
                                  have f0 : ((s[f].toNat : Int) == 48) = false := beq_eq_false_iff_ne.mpr (by omega)
                                  have f1 : ((s[f].toNat : Int) == 49) = false := beq_eq_false_iff_ne.mpr (by omega)
                                  have f2 : ((s[f].toNat : Int) == 50) = false := beq_eq_false_iff_ne.mpr (by omega)
                                  have f3 : ((s[f].toNat : Int) == 51) = false := beq_eq_false_iff_ne.mpr (by omega)
                                  have f4 : ((s[f].toNat : Int) == 52) = false := beq_eq_false_iff_ne.mpr (by omega)
                                  have f5 : ((s[f].toNat : Int) == 53) = false := beq_eq_false_iff_ne.mpr (by omega)
                                  have f6 : ((s[f].toNat : Int) == 54) = false := beq_eq_false_iff_ne.mpr (by omega)
                                  have f7 : ((s[f].toNat : Int) == 55) = false := beq_eq_false_iff_ne.mpr (by omega)
                                  have f8 : ((s[f].toNat : Int) == 56) = false := beq_eq_false_iff_ne.mpr (by omega)
                                  have f9 : ((s[f].toNat : Int) == 57) = false := beq_eq_false_iff_ne.mpr (by omega)
                                  replace e1 := Lib.hid e1
                                  replace hat5 := Lib.hid hat5
                                  have BB := Lib.hid (fun a b c d f' => BAD.out (by rw [hsE.out, ← hf'.out]; exact hmn3) a b c d f' _ hfx.out)
                                  go_wp2_with fail
                                  try rw [Exit.noGoto_ret]
                                  try rw [Exit.noGoto_ret]
                                  refine bodyPost_ret (results_tmp6 rfl _ _ _) rfl ?_
                                  exact BB.out _ _ _ _ _
end Go.Proofs.YtcpjclakdpjjfaaGreatDoor


/-
  A part of the proof of FnQuantityAgain (texts W9, X3, X4, X5 of mine, joined).
-/
import Derived.Test.YtcpjclakdpjjfaaGreatDoorM45
import Derived.Test.YtcpjclakdpjjfaaGreatDoorM42
import Derived.Test.YtcpjclakdpjjfaaGreatDoorM29
namespace Go.Proofs.YtcpjclakdpjjfaaGreatDoor
open Go.RowKit Go.Joins

theorem qcmp_any (b : Nat) (q y : MQ) (d1 d2 o1 o2 : Option Nat) (w : World) (h : CmpPair q y) (hq : QR w q o1 d1) (hy : QR w y o2 d2) (hb : w.heap[b]? = some (.cells (qrep q d1) 39 (0, 0))) (sep : ∀ p1, d1 = some p1 → ∀ p2, d2 = some p2 → p1 ≠ p2) (s2 : ∀ p, d2 = some p → p ≠ b ∧ o2 ≠ some b) (hb2 : 17 ≤ b) (hg : Gk w) (hsz : 17 ≤ w.heap.size) :
    Calls Tryz.prog 15 #[ptr b, .agg (qrep y d2)] w fun e w' => e = .returned (.int .i64 (cmpQ q y)) ∧ Fr (fun k => k = b) w w' := by
  by_cases hd : d1 = none ∧ d2 = none
  · obtain ⟨rfl, rfl⟩ := hd
    refine (qcmp_nn b q y o1 o2 w h hq hy hb hg hsz).mono ?_
    rintro e w' ⟨he, f⟩
    exact ⟨he, f.none⟩
  · exact qcmp_dd b q y d1 d2 o1 o2 w h hq hy hb hd sep s2 hb2 hg hsz

set_option maxRecDepth 100000 in
set_option maxHeartbeats 4000000 in
theorem qcmp_ok (s1 s2 : ByteArray) (l1 l2 : List UInt8) (a0 a1 a2 : Addr) (pe ps pr : Value) (w : World) (hG : GW w a0 a1 a2 pe ps pr) (hl1 : s1.data.toList = l1) (hl2 : s2.data.toList = l2) (hP1 : PBs l1) (hP2 : PBs l2) (x y : MQ) (hx : parseQ l1 = .ok x) (hy : parseQ l2 = .ok y) (hC : CmpPair x y) :
    Calls Tryz.prog 8 #[.string s1, .string s2] w fun e w' => e = .returned (.tuple #[.int .i64 (cmpQ x y), .int .i64 0]) ∧ Fr (fun _ => False) w w' := by
  have A := Lib.hid (two_ok s1 s2 l1 l2 a0 a1 a2 pe ps pr w hG hl1 hl2 hP1 hP2 x y hx hy)
  have CM : ∀ wx g d1 d2 o1 o2, Fr (fun _ => False) w wx → QR wx x o1 d1 → QR wx y o2 d2 → wx.heap[g]? = some (.cells (qrep x d1) 39 (0, 0)) → (∀ p1, d1 = some p1 → ∀ p2, d2 = some p2 → p1 ≠ p2) → (∀ p, d2 = some p → p ≠ g ∧ o2 ≠ some g) → w.heap.size ≤ g →
      Calls Tryz.prog 15 #[.pointer (some ⟨g, 0, none⟩), .agg (qrep y d2)] wx fun e w' => e = .returned (.int .i64 (cmpQ x y)) ∧ Fr (fun k => k = g) wx w' := fun wx g d1 d2 o1 o2 fx h1 h2 hb sep s2 hgw =>
    qcmp_any g x y d1 d2 o1 o2 wx hC h1 h2 hb sep s2 (Nat.le_trans hG.sz hgw) (hG.frame fx).gk (hG.frame fx).sz
  obtain ⟨C, hCe⟩ : ∃ C, C = cmpQ x y := ⟨_, rfl⟩
  rw [← hCe]
  simp only [← hCe] at CM
  clear hG hl1 hl2 hP1 hP2 hx hy hC hCe
  replace CM := Lib.hid CM
  go_enter Tryz.func8, Tryz.ntmps8
  go_wp2_with fail
  refine A.out.mono ?_
  rintro e w1 ⟨d1, o1, d2, o2, rfl, hR1, hR2, f1, sp1, sp2⟩
  obtain ⟨U1, E1, D1, S1, hf1⟩ := qrep_form x d1
  obtain ⟨U2, E2, D2, S2, hf2⟩ := qrep_form y d2
  obtain ⟨T1, hT1⟩ : ∃ T, T = fmtT x.fmt := ⟨_, rfl⟩
  obtain ⟨T2, hT2⟩ : ∃ T, T = fmtT y.fmt := ⟨_, rfl⟩
  rw [← hT1] at hf1
  rw [← hT2] at hf2
  rw [hf1, hf2]
  obtain ⟨N, hN⟩ : ∃ N, N = w1.heap.size := ⟨_, rfl⟩
  obtain ⟨wA, hwA⟩ : ∃ wA, wA = (w1.alloc (.cells #[.int .i64 0, .int .i32 0, .pointer none, .string { data := #[] }, .string { data := #[] }] 39)).alloc (.cells #[.int .i64 0, .int .i32 0, .pointer none, .string { data := #[] }, .string { data := #[] }] 39) := ⟨_, rfl⟩
  have fA : Fr (fun _ => False) w1 wA := by rw [hwA]; exact (Fr.alloc (fun _ => False) _ _).trans (Fr.alloc _ _ _) (fun _ _ h => h)
  have hA1 : wA.heap[N]? = some (.cells #[.int .i64 0, .int .i32 0, .pointer none, .string { data := #[] }, .string { data := #[] }] 39 (0, 0)) := by
    rw [hwA, hN, Below.heap_alloc _ _ _ (by simp)]; exact heap_alloc_new _ _
  have hA2 : wA.heap[N + 1]? = some (.cells #[.int .i64 0, .int .i32 0, .pointer none, .string { data := #[] }, .string { data := #[] }] 39 (0, 0)) := by
    rw [hwA, hN, ← show (w1.alloc (.cells #[.int .i64 0, .int .i32 0, .pointer none, .string { data := #[] }, .string { data := #[] }] 39)).heap.size = w1.heap.size + 1 by simp]; exact heap_alloc_new _ _
  have sA : wA.heap.size = N + 2 := by rw [hwA, hN]; simp
  have z1 := f1.size
  replace hwA := Lib.hid hwA
  replace hN := Lib.hid hN
  replace hA1 := Lib.hid hA1
  replace hA2 := Lib.hid hA2
  replace fA := Lib.hid fA
  replace hR1 := Lib.hid hR1
  replace hR2 := Lib.hid hR2
  replace f1 := Lib.hid f1
  replace sp1 := Lib.hid sp1
  replace sp2 := Lib.hid sp2
  replace hf1 := Lib.hid hf1
  replace hf2 := Lib.hid hf2
  replace hT1 := Lib.hid hT1
  replace hT2 := Lib.hid hT2
  go_wp2_with (first | (rw [← hwA.out, ← hN.out]) | (refine wpList_store5 wA rfl _ _ rfl N rfl _ _ _ _ _ rfl _ hA1.out rfl ?_; intro w2 hb1 g2; have hb2 := Lib.hid ((g2.block (N + 1) (by omega) (by omega)).trans hA2.out); have z2 := g2.size; replace g2 := Lib.hid g2; replace hb1 := Lib.hid hb1; clear hA1) | (refine wpList_store5 w2 rfl _ _ rfl (N + 1) rfl _ _ _ _ _ rfl _ hb2.out rfl ?_; intro w3 hc2 g3; have hc1 := (g3.block N (by omega) (by omega)).trans hb1.out; obtain ⟨p0, p1, p2, p3, p4, _⟩ := five w3 (N + 1) _ _ _ _ _ hc2; clear hb2) | fail)
  have f3 : Fr (fun _ => False) w1 w3 := by
    have h := ((fA.out.none.trans g2.out (fun _ _ h => h) (S := fun k => k = N)).mono (fun _ _ h => Or.inl h) (T := fun k => k = N ∨ k = N + 1)).trans g3 (fun _ _ h => Or.inr h)
    exact ⟨h.os, h.tape, h.output, h.size, fun k hk _ => h.block k hk (by have := hN.out; omega)⟩
  have z3 := g3.size
  have C := CM.out w3 N d1 d2 o1 o2 (f1.out.trans f3 (fun _ _ h => h)) (hR1.out.frame f3 (fun _ _ h => h) (fun _ _ _ h => h)) (hR2.out.frame f3 (fun _ _ h => h) (fun _ _ _ h => h)) (by rw [hf1.out]; exact hc1) (fun q1 h1 q2 h2 => (sp1.out q1 h1).2 q2 h2) (fun q h => by
    have := hN.out
    have h1 := sp2.out q h
    exact ⟨by omega, fun ho => by have := h1.2 N ho; omega⟩) (by have := hN.out; omega)
  rw [hf2.out] at C
  refine C.mono ?_
  rintro e w4 ⟨rfl, g4⟩
  have f4 : Fr (fun _ => False) w w4 := by
    have h := (f1.out.trans f3 (fun _ _ h => h)).none.trans g4 (fun _ _ h => h) (S := fun k => k = N)
    exact ⟨h.os, h.tape, h.output, h.size, fun k hk _ => h.block k hk (by have := hN.out; omega)⟩
  clear C p0 p1 p2 p3 p4 hc1 hc2
  replace f4 := Lib.hid f4
  replace g3 := Lib.hid g3
  replace g4 := Lib.hid g4
  replace f3 := Lib.hid f3
  go_wp2_with fail
  go_ret2
  exact ⟨rfl, f4.out⟩
end Go.Proofs.YtcpjclakdpjjfaaGreatDoor

namespace Go.Proofs.YtcpjclakdpjjfaaGreatDoor
open Go.RowKit Go.Joins

set_option maxRecDepth 100000 in
set_option maxHeartbeats 2000000 in
theorem awake_any (a0 a1 a2 : Addr) (pe ps pr : Value) (w : World) (hG : GW w a0 a1 a2 pe ps pr) :
    Calls Tryz.prog 7 #[] w fun e w' => e = .returned (.bool true) ∧ Fr (fun _ => False) w w' := by
  have A : Calls Tryz.prog 5 #[.string { data := #[49, 46, 53, 71, 105] }] w fun e w' => e = .returned (.tuple #[.string { data := #[49, 53, 51, 54, 77, 105] }, .int .i64 1, .int .i64 0]) ∧ Fr (fun _ => False) w w' := by
    refine (qtext_any { data := #[49, 46, 53, 71, 105] } giL a0 a1 a2 pe ps pr w hG rfl pbs_gi).mono ?_
    rintro e w' ⟨f, h⟩
    rw [parse_gi] at h
    simp only at h
    rw [canon_gi] at h
    exact ⟨h, f⟩
  clear hG
  replace A := Lib.hid A
  go_enter Tryz.func7, Tryz.ntmps7
  go_wp2_with fail
  refine A.out.mono ?_
  rintro e w1 ⟨rfl, f1⟩
  replace f1 := Lib.hid f1
  go_wp2_with fail
  go_ret
  exact ⟨rfl, f1.out⟩
end Go.Proofs.YtcpjclakdpjjfaaGreatDoor

namespace Go.Proofs.YtcpjclakdpjjfaaGreatDoor
open Go.RowKit

/-- One byte of fairGo, by its number. -/
theorem fair_step (c : UInt8) (r : List UInt8) (d b : Bool) (p C : Nat) (hC : C = c.toNat) :
    fairGo (c :: r) d p b = if 48 ≤ C ∧ C ≤ 57 then fairGo r true (if b then min 1000 (10 * p + (C - 48)) else p) b
      else if C ≠ 43 ∧ C ≠ 45 ∧ C ≠ 46 ∧ d = false then none
      else if C = 101 ∨ C = 69 then fairGo r d 0 true else fairGo r d p b := by
  subst hC
  have e : ∀ k : Nat, k < 256 → (c = UInt8.ofNat k ↔ c.toNat = k) := fun k hk => by
    constructor
    · intro h; rw [h, UInt8.toNat_ofNat']; omega
    · intro h; rw [← h, UInt8.ofNat_toNat]
  have e43 := e 43 (by omega)
  have e45 := e 45 (by omega)
  have e46 := e 46 (by omega)
  have e101 := e 101 (by omega)
  have e69 := e 69 (by omega)
  conv => lhs; unfold fairGo
  simp only [isDg, decide_eq_true_eq, ne_eq, show (43 : UInt8) = UInt8.ofNat 43 from rfl, show (45 : UInt8) = UInt8.ofNat 45 from rfl, show (46 : UInt8) = UInt8.ofNat 46 from rfl, show (101 : UInt8) = UInt8.ofNat 101 from rfl, show (69 : UInt8) = UInt8.ofNat 69 from rfl, e43, e45, e46, e101, e69]

set_option maxRecDepth 100000 in
set_option maxHeartbeats 8000000 in
theorem fair_any (s : ByteArray) (l : List UInt8) (w : World) (hl : s.data.toList = l) (hlen : l.length ≤ 2147483647) : Calls Tryz.prog 4 #[.string s] w fun e w' => e = .returned (.bool (fairQ l)) ∧ w = w' := by
  have hsz : s.size = l.length := by rw [← hl]; simp
  have hat : Hid (∀ i (h : i < s.size), l.drop i = (s[i]'h) :: l.drop (i + 1)) := by
    intro i h
    rw [List.drop_eq_getElem_cons (by omega : i < l.length)]
    congr 1
    subst hl
    rfl
  obtain ⟨n, hn⟩ : ∃ n, n = l.length := ⟨_, rfl⟩
  rw [← hn] at hsz hlen
  have hR : fairQ l = match fairGo l false 0 false with | none => false | some (d, p) => d && decide (n ≤ 60) && decide (p ≤ 60) := by rw [hn]; rfl
  obtain ⟨R, hRe⟩ : ∃ R, R = fairGo l false 0 false := ⟨_, rfl⟩
  rw [← hRe] at hR
  obtain ⟨Q, hQ⟩ : ∃ Q, Q = fairQ l := ⟨_, rfl⟩
  rw [← hQ] at hR ⊢
  replace hR := Lib.hid hR
  replace hRe := Lib.hid hRe
  replace hn := Lib.hid hn
  clear hQ hl
  go_enter Tryz.func4, Tryz.ntmps4
  go_wp2_with fail
  go_loopw [3, 4, 5, 6] (fun t3 t4 t5 t6 wr => ∃ (i p : Nat) (d b : Bool), t3 = .bool d ∧ t4 = .int .i64 (p : Int) ∧ t5 = .bool b ∧ t6 = .int .i64 (i : Int) ∧ i ≤ n ∧ p ≤ 1000 ∧ wr = w ∧ Hid (fairGo (l.drop i) d p b = R)) (fun _ _ _ t6 _ => ((n : Int) - intOf t6).toNat)
  case atStart => exact ⟨0, 0, false, false, rfl, rfl, rfl, rfl, by omega, by omega, rfl, hRe.out.symm⟩
  case round =>
    obtain ⟨i, p, d, b, rfl, rfl, rfl, rfl, hi, hp, rfl, hg⟩ := hrel
    by_cases hlt : i < n
    · have hb : i < s.size := by omega
      obtain ⟨C, hC⟩ : ∃ C, C = (s[i]'hb).toNat := ⟨_, rfl⟩
      have hC8 : C < 256 := by rw [hC]; exact UInt8.toNat_lt _
      have st := fair_step (s[i]'hb) (l.drop (i + 1)) d b p C hC
      rw [← hat.out i hb, hg.out] at st
      replace st := Lib.hid st
      replace hC := Lib.hid hC
      have c0 : (0 : Int) ≤ (C : Int) := by omega
      have c8 : (C : Int) < 256 := by omega
      have ii : (i : Int) ≤ 2147483647 := by omega
      have pp : (p : Int) ≤ 1000 := by omega
      have si : (i : Int) < (n : Int) := by omega
      have hR0 := hR
      clear hR hRe hat
      by_cases D : 48 ≤ C ∧ C ≤ 57
      · have d1 : (48 : Int) ≤ (C : Int) := by omega
        have d2 : (C : Int) ≤ 57 := by omega
        cases b
        · go_wp2_with (first | rw [← hC.out] | fail)
          refine ⟨⟨i + 1, p, true, false, rfl, rfl, rfl, by simp, by omega, hp, trivial, ?_⟩, by simp [intOf]; omega⟩
          show fairGo _ _ _ _ = _
          rw [st.out, if_pos D]
          rfl
        · go_wp2_with (first | rw [← hC.out] | fail)
          refine ⟨⟨i + 1, min 1000 (10 * p + (C - 48)), true, true, rfl, by congr 1; omega, rfl, by simp, by omega, by omega, trivial, ?_⟩, by simp [intOf]; omega⟩
          show fairGo _ _ _ _ = _
          rw [st.out, if_pos D]
          rfl
      by_cases C43 : C = 43
      · replace D := Lib.hid D
        subst C43
        go_wp2_with (first | rw [← hC.out] | fail)
        refine ⟨⟨i + 1, p, d, b, rfl, rfl, rfl, by simp, by omega, hp, trivial, ?_⟩, by simp [intOf]; omega⟩
        show fairGo _ _ _ _ = _
        rw [st.out, if_neg D.out, if_neg (by omega), if_neg (by omega)]
      by_cases C45 : C = 45
      · replace D := Lib.hid D
        subst C45
        go_wp2_with (first | rw [← hC.out] | fail)
        refine ⟨⟨i + 1, p, d, b, rfl, rfl, rfl, by simp, by omega, hp, trivial, ?_⟩, by simp [intOf]; omega⟩
        show fairGo _ _ _ _ = _
        rw [st.out, if_neg D.out, if_neg (by omega), if_neg (by omega)]
      by_cases C46 : C = 46
      · replace D := Lib.hid D
        subst C46
        go_wp2_with (first | rw [← hC.out] | fail)
        refine ⟨⟨i + 1, p, d, b, rfl, rfl, rfl, by simp, by omega, hp, trivial, ?_⟩, by simp [intOf]; omega⟩
        show fairGo _ _ _ _ = _
        rw [st.out, if_neg D.out, if_neg (by omega), if_neg (by omega)]
      have q43 : ((C : Int) == 43) = false := beq_eq_false_iff_ne.mpr (by omega)
      have q45 : ((C : Int) == 45) = false := beq_eq_false_iff_ne.mpr (by omega)
      have q46 : ((C : Int) == 46) = false := beq_eq_false_iff_ne.mpr (by omega)
      have n43 : ((C : Int) != 43) = true := by rw [bne, q43]; rfl
      have n45 : ((C : Int) != 45) = true := by rw [bne, q45]; rfl
      have n46 : ((C : Int) != 46) = true := by rw [bne, q46]; rfl
      rcases (show (C : Int) < 48 ∨ 57 < (C : Int) by omega) with lo | hi2
      · cases d
        · have hr : R = none := by rw [st.out, if_neg D, if_pos ⟨C43, C45, C46, rfl⟩]
          rw [hr] at hR0
          have hQ : Q = false := hR0.out
          subst hQ
          replace D := Lib.hid D
          go_wp2_with (first | rw [← hC.out] | fail)
          go_ret
          exact ⟨rfl, rfl⟩
        · replace D := Lib.hid D
          have q101 : ((C : Int) == 101) = false := beq_eq_false_iff_ne.mpr (by omega)
          have q69 : ((C : Int) == 69) = false := beq_eq_false_iff_ne.mpr (by omega)
          go_wp2_with (first | rw [← hC.out] | fail)
          refine ⟨⟨i + 1, p, true, b, rfl, rfl, rfl, by simp, by omega, hp, trivial, ?_⟩, by simp [intOf]; omega⟩
          show fairGo _ _ _ _ = _
          rw [st.out, if_neg D.out, if_neg (by simp), if_neg (by omega)]
      · cases d
        · have hr : R = none := by rw [st.out, if_neg D, if_pos ⟨C43, C45, C46, rfl⟩]
          rw [hr] at hR0
          have hQ : Q = false := hR0.out
          subst hQ
          replace D := Lib.hid D
          go_wp2_with (first | rw [← hC.out] | fail)
          go_ret
          exact ⟨rfl, rfl⟩
        · replace D := Lib.hid D
          by_cases C101 : C = 101
          · subst C101
            go_wp2_with (first | rw [← hC.out] | fail)
            refine ⟨⟨i + 1, 0, true, true, rfl, rfl, rfl, by simp, by omega, by omega, trivial, ?_⟩, by simp [intOf]; omega⟩
            show fairGo _ _ _ _ = _
            rw [st.out, if_neg D.out, if_neg (by simp), if_pos (by omega)]
          by_cases C69 : C = 69
          · subst C69
            go_wp2_with (first | rw [← hC.out] | fail)
            refine ⟨⟨i + 1, 0, true, true, rfl, rfl, rfl, by simp, by omega, by omega, trivial, ?_⟩, by simp [intOf]; omega⟩
            show fairGo _ _ _ _ = _
            rw [st.out, if_neg D.out, if_neg (by simp), if_pos (by omega)]
          have q101 : ((C : Int) == 101) = false := beq_eq_false_iff_ne.mpr (by omega)
          have q69 : ((C : Int) == 69) = false := beq_eq_false_iff_ne.mpr (by omega)
          go_wp2_with (first | rw [← hC.out] | fail)
          refine ⟨⟨i + 1, p, true, b, rfl, rfl, rfl, by simp, by omega, hp, trivial, ?_⟩, by simp [intOf]; omega⟩
          show fairGo _ _ _ _ = _
          rw [st.out, if_neg D.out, if_neg (by simp), if_neg (by omega)]
    · obtain rfl : i = n := by omega
      have hd : R = some (d, p) := by
        rw [← hg.out, List.drop_eq_nil_of_le (by rw [← hn.out]; omega)]; rfl
      rw [hd] at hR
      have hQ : Q = (d && decide (i ≤ 60) && decide (p ≤ 60)) := hR.out
      clear hg hd hat hR
      cases d
      · have hQ' : Q = false := by rw [hQ]; rfl
        subst hQ'
        clear hQ
        go_wp2_with fail
        go_ret
        exact ⟨rfl, rfl⟩
      · by_cases h60 : i ≤ 60
        · by_cases p60 : p ≤ 60
          · have hQ' : Q = true := by rw [hQ]; simp [h60, p60]
            subst hQ'
            clear hQ
            go_wp2_with fail
            go_ret
            exact ⟨congrArg (fun x => Ending.returned (.bool x)) (decide_eq_true (by omega)), rfl⟩
          · have hQ' : Q = false := by rw [hQ]; simp [p60]
            subst hQ'
            clear hQ
            go_wp2_with fail
            go_ret
            exact ⟨congrArg (fun x => Ending.returned (.bool x)) (decide_eq_false (by omega)), rfl⟩
        · have hQ' : Q = false := by rw [hQ]; simp [h60]
          subst hQ'
          clear hQ
          go_wp2_with fail
          go_ret
          exact ⟨rfl, rfl⟩
end Go.Proofs.YtcpjclakdpjjfaaGreatDoor

namespace Go.Proofs.YtcpjclakdpjjfaaGreatDoor
open Go.RowKit

/-- A call that gives a value and writes no old block, in whatever world behind w. -/
def Gives (w : World) (n : Nat) (args : Array Value) (v : Value) : Prop := ∀ wx, Fr (fun _ => False) w wx → Calls Tryz.prog n args wx fun e w' => e = .returned v ∧ Fr (fun _ => False) wx w'

def hiS : ByteArray := { data := #[57, 50, 50, 51, 51, 55, 50, 48, 51, 54, 56, 53, 52, 55, 55, 53, 56, 48, 55] }
def loS : ByteArray := { data := #[45, 57, 50, 50, 51, 51, 55, 50, 48, 51, 54, 56, 53, 52, 55, 55, 53, 56, 48, 55] }
/-- What the law comes to. -/
def LawEnd (w : World) (e : Ending) (w' : World) : Prop := e = .returned (.bool true) ∧ Fr (fun _ => False) w w'

set_option maxRecDepth 100000 in
set_option maxHeartbeats 8000000 in
theorem law_long (s : ByteArray) (w : World) (hlen : 2147483647 < s.size) (hmax : s.size ≤ 9223372036854775807) :
    Calls Tryz.prog 3 #[.string s] w (LawEnd w) := by
  have h : (2147483647 : Int) < (s.size : Int) := by omega
  have h2 : (s.size : Int) ≤ 9223372036854775807 := by omega
  go_enter Tryz.func3, Tryz.ntmps3
  go_wp2_with fail
  go_ret
  exact ⟨rfl, Fr.refl _ _⟩

set_option maxRecDepth 100000 in
set_option maxHeartbeats 8000000 in
theorem law_unfair (s : ByteArray) (w : World) (hlen : s.size ≤ 2147483647) (F4 : Calls Tryz.prog 4 #[.string s] w fun e w' => e = .returned (.bool false) ∧ w = w') :
    Calls Tryz.prog 3 #[.string s] w (LawEnd w) := by
  replace F4 := Lib.hid F4
  go_enter Tryz.func3, Tryz.ntmps3
  go_wp2_with fail
  refine F4.out.mono ?_
  rintro e w0 ⟨rfl, hw⟩
  subst hw
  go_wp2_with fail
  go_ret
  exact ⟨rfl, Fr.refl _ _⟩

set_option maxRecDepth 100000 in
set_option maxHeartbeats 8000000 in
theorem law_err (s : ByteArray) (w : World) (hlen : s.size ≤ 2147483647) (F4 : Calls Tryz.prog 4 #[.string s] w fun e w' => e = .returned (.bool true) ∧ w = w') (K : Int) (hK : (K == 0) = false) (T0 : Gives w 5 #[.string s] (.tuple #[.string { data := #[] }, .int .i64 0, .int .i64 K])) (K0 : Gives w 6 #[.string s] (.int .i64 K)) (W7 : Gives w 7 #[] (.bool true)) :
    Calls Tryz.prog 3 #[.string s] w (LawEnd w) := by
  have hK2 : (K != 0) = true := by rw [bne, hK]; rfl
  replace F4 := Lib.hid F4
  replace T0 := Lib.hid T0
  replace K0 := Lib.hid K0
  replace W7 := Lib.hid W7
  go_enter Tryz.func3, Tryz.ntmps3
  go_wp2_with fail
  refine F4.out.mono ?_
  rintro e w0 ⟨rfl, hw⟩
  subst hw
  go_wp2_with fail
  refine (T0.out w (Fr.refl _ w)).mono ?_
  rintro e w1 ⟨rfl, g1⟩
  have f1 := Lib.hid ((Fr.refl _ w).trans g1 (fun _ _ h => h))
  clear g1
  go_wp2_with fail
  refine (K0.out w1 f1.out).mono ?_
  rintro e w2 ⟨rfl, g2⟩
  have f2 := Lib.hid (f1.out.trans g2 (fun _ _ h => h))
  clear g2
  go_wp2_with fail
  refine (W7.out w2 f2.out).mono ?_
  rintro e w3 ⟨rfl, g3⟩
  have f3 := Lib.hid (f2.out.trans g3 (fun _ _ h => h))
  clear g3
  go_wp2_with fail
  go_ret
  exact ⟨rfl, f3.out⟩

set_option maxRecDepth 100000 in
set_option maxHeartbeats 8000000 in
theorem law_above (s : ByteArray) (w : World) (hlen : s.size ≤ 2147483647) (F4 : Calls Tryz.prog 4 #[.string s] w fun e w' => e = .returned (.bool true) ∧ w = w') (G : ByteArray) (f c1 c2 : Int) (T0 : Gives w 5 #[.string s] (.tuple #[.string G, .int .i64 f, .int .i64 0])) (H : Gives w 8 #[.string s, .string hiS] (.tuple #[.int .i64 c1, .int .i64 0])) (L : Gives w 8 #[.string s, .string loS] (.tuple #[.int .i64 c2, .int .i64 0])) (hf : (f == 0) = false) (h1 : 0 < c1) :
    Calls Tryz.prog 3 #[.string s] w (LawEnd w) := by
  have hf2 : (f != 0) = true := by rw [bne, hf]; rfl
  unfold hiS at H
  unfold loS at L
  replace F4 := Lib.hid F4
  replace T0 := Lib.hid T0
  replace H := Lib.hid H
  replace L := Lib.hid L
  go_enter Tryz.func3, Tryz.ntmps3
  go_wp2_with fail
  refine F4.out.mono ?_
  rintro e w0 ⟨rfl, hw⟩
  subst hw
  go_wp2_with fail
  refine (T0.out w (Fr.refl _ w)).mono ?_
  rintro e w1 ⟨rfl, g1⟩
  have f1 := Lib.hid ((Fr.refl _ w).trans g1 (fun _ _ h => h))
  clear g1
  go_wp2_with fail
  refine (H.out w1 f1.out).mono ?_
  rintro e w2 ⟨rfl, g2⟩
  have f2 := Lib.hid (f1.out.trans g2 (fun _ _ h => h))
  clear g2
  go_wp2_with fail
  refine (L.out w2 f2.out).mono ?_
  rintro e w3 ⟨rfl, g3⟩
  have f3 := Lib.hid (f2.out.trans g3 (fun _ _ h => h))
  clear g3
  go_wp2_with fail
  go_ret
  exact ⟨rfl, f3.out⟩

set_option maxRecDepth 100000 in
set_option maxHeartbeats 8000000 in
theorem law_below (s : ByteArray) (w : World) (hlen : s.size ≤ 2147483647) (F4 : Calls Tryz.prog 4 #[.string s] w fun e w' => e = .returned (.bool true) ∧ w = w') (G : ByteArray) (f c1 c2 : Int) (T0 : Gives w 5 #[.string s] (.tuple #[.string G, .int .i64 f, .int .i64 0])) (H : Gives w 8 #[.string s, .string hiS] (.tuple #[.int .i64 c1, .int .i64 0])) (L : Gives w 8 #[.string s, .string loS] (.tuple #[.int .i64 c2, .int .i64 0])) (hf : (f == 0) = false) (h1 : c1 ≤ 0) (h2 : c2 < 0) :
    Calls Tryz.prog 3 #[.string s] w (LawEnd w) := by
  have hf2 : (f != 0) = true := by rw [bne, hf]; rfl
  unfold hiS at H
  unfold loS at L
  replace F4 := Lib.hid F4
  replace T0 := Lib.hid T0
  replace H := Lib.hid H
  replace L := Lib.hid L
  go_enter Tryz.func3, Tryz.ntmps3
  go_wp2_with fail
  refine F4.out.mono ?_
  rintro e w0 ⟨rfl, hw⟩
  subst hw
  go_wp2_with fail
  refine (T0.out w (Fr.refl _ w)).mono ?_
  rintro e w1 ⟨rfl, g1⟩
  have f1 := Lib.hid ((Fr.refl _ w).trans g1 (fun _ _ h => h))
  clear g1
  go_wp2_with fail
  refine (H.out w1 f1.out).mono ?_
  rintro e w2 ⟨rfl, g2⟩
  have f2 := Lib.hid (f1.out.trans g2 (fun _ _ h => h))
  clear g2
  go_wp2_with fail
  refine (L.out w2 f2.out).mono ?_
  rintro e w3 ⟨rfl, g3⟩
  have f3 := Lib.hid (f2.out.trans g3 (fun _ _ h => h))
  clear g3
  go_wp2_with fail
  go_ret
  exact ⟨rfl, f3.out⟩

set_option maxRecDepth 100000 in
set_option maxHeartbeats 8000000 in
theorem law_bin (s : ByteArray) (w : World) (hlen : s.size ≤ 2147483647) (F4 : Calls Tryz.prog 4 #[.string s] w fun e w' => e = .returned (.bool true) ∧ w = w') (G : ByteArray) (c1 c2 : Int) (T0 : Gives w 5 #[.string s] (.tuple #[.string G, .int .i64 1, .int .i64 0])) (H : Gives w 8 #[.string s, .string hiS] (.tuple #[.int .i64 c1, .int .i64 0])) (L : Gives w 8 #[.string s, .string loS] (.tuple #[.int .i64 c2, .int .i64 0])) (h1 : c1 ≤ 0) (h2 : 0 ≤ c2) (A T M : ByteArray) (f1 f2 : Int) (T1 : Gives w 5 #[.string G] (.tuple #[.string A, .int .i64 f1, .int .i64 0])) (C1 : Gives w 8 #[.string s, .string G] (.tuple #[.int .i64 0, .int .i64 0])) (P1 : Gives w 9 #[.string s] (.tuple #[.string T, .int .i64 0])) (T2 : Gives w 5 #[.string T] (.tuple #[.string M, .int .i64 f2, .int .i64 0])) (W7 : Gives w 7 #[] (.bool true)) (C2 : Gives w 8 #[.string A, .string G] (.tuple #[.int .i64 0, .int .i64 0])) (C3 : Gives w 8 #[.string M, .string G] (.tuple #[.int .i64 0, .int .i64 0])) :
    Calls Tryz.prog 3 #[.string s] w (LawEnd w) := by
  unfold hiS at H
  unfold loS at L
  replace F4 := Lib.hid F4
  replace T0 := Lib.hid T0
  replace H := Lib.hid H
  replace L := Lib.hid L
  replace T1 := Lib.hid T1
  replace C1 := Lib.hid C1
  replace P1 := Lib.hid P1
  replace T2 := Lib.hid T2
  replace C2 := Lib.hid C2
  replace C3 := Lib.hid C3
  replace W7 := Lib.hid W7
  go_enter Tryz.func3, Tryz.ntmps3
  go_wp2_with fail
  refine F4.out.mono ?_
  rintro e w0 ⟨rfl, hw⟩
  subst hw
  go_wp2_with fail
  refine (T0.out w (Fr.refl _ w)).mono ?_
  rintro e w1 ⟨rfl, g1⟩
  have f1 := Lib.hid ((Fr.refl _ w).trans g1 (fun _ _ h => h))
  clear g1
  go_wp2_with fail
  refine (H.out w1 f1.out).mono ?_
  rintro e w2 ⟨rfl, g2⟩
  have f2 := Lib.hid (f1.out.trans g2 (fun _ _ h => h))
  clear g2
  go_wp2_with fail
  refine (L.out w2 f2.out).mono ?_
  rintro e w3 ⟨rfl, g3⟩
  have f3 := Lib.hid (f2.out.trans g3 (fun _ _ h => h))
  clear g3
  go_wp2_with fail
  refine (T1.out w3 f3.out).mono ?_
  rintro e w4 ⟨rfl, g4⟩
  have f4 := Lib.hid (f3.out.trans g4 (fun _ _ h => h))
  clear g4
  go_wp2_with fail
  refine (C1.out w4 f4.out).mono ?_
  rintro e w5 ⟨rfl, g5⟩
  have f5 := Lib.hid (f4.out.trans g5 (fun _ _ h => h))
  clear g5
  go_wp2_with fail
  refine (P1.out w5 f5.out).mono ?_
  rintro e w6 ⟨rfl, g6⟩
  have f6 := Lib.hid (f5.out.trans g6 (fun _ _ h => h))
  clear g6
  go_wp2_with fail
  refine (T2.out w6 f6.out).mono ?_
  rintro e w7 ⟨rfl, g7⟩
  have f7 := Lib.hid (f6.out.trans g7 (fun _ _ h => h))
  clear g7
  go_wp2_with fail
  refine (C2.out w7 f7.out).mono ?_
  rintro e w8 ⟨rfl, g8⟩
  have f8 := Lib.hid (f7.out.trans g8 (fun _ _ h => h))
  clear g8
  go_wp2_with fail
  refine (C3.out w8 f8.out).mono ?_
  rintro e w9 ⟨rfl, g9⟩
  have f9 := Lib.hid (f8.out.trans g9 (fun _ _ h => h))
  clear g9
  go_wp2_with fail
  refine (W7.out w9 f9.out).mono ?_
  rintro e w10 ⟨rfl, g10⟩
  have f10 := Lib.hid (f9.out.trans g10 (fun _ _ h => h))
  clear g10
  go_wp2_with fail
  go_ret
  exact ⟨rfl, f10.out⟩

set_option maxRecDepth 100000 in
set_option maxHeartbeats 8000000 in
theorem law_dec (s : ByteArray) (w : World) (hlen : s.size ≤ 2147483647) (F4 : Calls Tryz.prog 4 #[.string s] w fun e w' => e = .returned (.bool true) ∧ w = w') (G : ByteArray) (c1 c2 : Int) (T0 : Gives w 5 #[.string s] (.tuple #[.string G, .int .i64 2, .int .i64 0])) (H : Gives w 8 #[.string s, .string hiS] (.tuple #[.int .i64 c1, .int .i64 0])) (L : Gives w 8 #[.string s, .string loS] (.tuple #[.int .i64 c2, .int .i64 0])) (h1 : c1 ≤ 0) (h2 : 0 ≤ c2) (T : ByteArray) (f1 f2 : Int) (T1 : Gives w 5 #[.string G] (.tuple #[.string G, .int .i64 f1, .int .i64 0])) (C1 : Gives w 8 #[.string s, .string G] (.tuple #[.int .i64 0, .int .i64 0])) (P1 : Gives w 9 #[.string s] (.tuple #[.string T, .int .i64 0])) (T2 : Gives w 5 #[.string T] (.tuple #[.string G, .int .i64 f2, .int .i64 0])) (W7 : Gives w 7 #[] (.bool true)) :
    Calls Tryz.prog 3 #[.string s] w (LawEnd w) := by
  unfold hiS at H
  unfold loS at L
  replace F4 := Lib.hid F4
  replace T0 := Lib.hid T0
  replace H := Lib.hid H
  replace L := Lib.hid L
  replace T1 := Lib.hid T1
  replace C1 := Lib.hid C1
  replace P1 := Lib.hid P1
  replace T2 := Lib.hid T2
  replace W7 := Lib.hid W7
  go_enter Tryz.func3, Tryz.ntmps3
  go_wp2_with fail
  refine F4.out.mono ?_
  rintro e w0 ⟨rfl, hw⟩
  subst hw
  go_wp2_with fail
  refine (T0.out w (Fr.refl _ w)).mono ?_
  rintro e w1 ⟨rfl, g1⟩
  have f1 := Lib.hid ((Fr.refl _ w).trans g1 (fun _ _ h => h))
  clear g1
  go_wp2_with fail
  refine (H.out w1 f1.out).mono ?_
  rintro e w2 ⟨rfl, g2⟩
  have f2 := Lib.hid (f1.out.trans g2 (fun _ _ h => h))
  clear g2
  go_wp2_with fail
  refine (L.out w2 f2.out).mono ?_
  rintro e w3 ⟨rfl, g3⟩
  have f3 := Lib.hid (f2.out.trans g3 (fun _ _ h => h))
  clear g3
  go_wp2_with fail
  refine (T1.out w3 f3.out).mono ?_
  rintro e w4 ⟨rfl, g4⟩
  have f4 := Lib.hid (f3.out.trans g4 (fun _ _ h => h))
  clear g4
  go_wp2_with fail
  refine (C1.out w4 f4.out).mono ?_
  rintro e w5 ⟨rfl, g5⟩
  have f5 := Lib.hid (f4.out.trans g5 (fun _ _ h => h))
  clear g5
  go_wp2_with fail
  refine (P1.out w5 f5.out).mono ?_
  rintro e w6 ⟨rfl, g6⟩
  have f6 := Lib.hid (f5.out.trans g6 (fun _ _ h => h))
  clear g6
  go_wp2_with fail
  refine (T2.out w6 f6.out).mono ?_
  rintro e w7 ⟨rfl, g7⟩
  have f7 := Lib.hid (f6.out.trans g7 (fun _ _ h => h))
  clear g7
  go_wp2_with fail
  refine (W7.out w7 f7.out).mono ?_
  rintro e w8 ⟨rfl, g8⟩
  have f8 := Lib.hid (f7.out.trans g8 (fun _ _ h => h))
  clear g8
  go_wp2_with fail
  go_ret
  exact ⟨rfl, f8.out⟩

set_option maxRecDepth 100000 in
set_option maxHeartbeats 8000000 in
theorem law_exp (s : ByteArray) (w : World) (hlen : s.size ≤ 2147483647) (F4 : Calls Tryz.prog 4 #[.string s] w fun e w' => e = .returned (.bool true) ∧ w = w') (G : ByteArray) (c1 c2 : Int) (T0 : Gives w 5 #[.string s] (.tuple #[.string G, .int .i64 0, .int .i64 0])) (H : Gives w 8 #[.string s, .string hiS] (.tuple #[.int .i64 c1, .int .i64 0])) (L : Gives w 8 #[.string s, .string loS] (.tuple #[.int .i64 c2, .int .i64 0])) (T : ByteArray) (f1 f2 : Int) (T1 : Gives w 5 #[.string G] (.tuple #[.string G, .int .i64 f1, .int .i64 0])) (C1 : Gives w 8 #[.string s, .string G] (.tuple #[.int .i64 0, .int .i64 0])) (P1 : Gives w 9 #[.string s] (.tuple #[.string T, .int .i64 0])) (T2 : Gives w 5 #[.string T] (.tuple #[.string G, .int .i64 f2, .int .i64 0])) (W7 : Gives w 7 #[] (.bool true)) :
    Calls Tryz.prog 3 #[.string s] w (LawEnd w) := by
  unfold hiS at H
  unfold loS at L
  replace F4 := Lib.hid F4
  replace T0 := Lib.hid T0
  replace H := Lib.hid H
  replace L := Lib.hid L
  replace T1 := Lib.hid T1
  replace C1 := Lib.hid C1
  replace P1 := Lib.hid P1
  replace T2 := Lib.hid T2
  replace W7 := Lib.hid W7
  go_enter Tryz.func3, Tryz.ntmps3
  go_wp2_with fail
  refine F4.out.mono ?_
  rintro e w0 ⟨rfl, hw⟩
  subst hw
  go_wp2_with fail
  refine (T0.out w (Fr.refl _ w)).mono ?_
  rintro e w1 ⟨rfl, g1⟩
  have f1 := Lib.hid ((Fr.refl _ w).trans g1 (fun _ _ h => h))
  clear g1
  go_wp2_with fail
  refine (H.out w1 f1.out).mono ?_
  rintro e w2 ⟨rfl, g2⟩
  have f2 := Lib.hid (f1.out.trans g2 (fun _ _ h => h))
  clear g2
  go_wp2_with fail
  refine (L.out w2 f2.out).mono ?_
  rintro e w3 ⟨rfl, g3⟩
  have f3 := Lib.hid (f2.out.trans g3 (fun _ _ h => h))
  clear g3
  go_wp2_with fail
  refine (T1.out w3 f3.out).mono ?_
  rintro e w4 ⟨rfl, g4⟩
  have f4 := Lib.hid (f3.out.trans g4 (fun _ _ h => h))
  clear g4
  go_wp2_with fail
  refine (C1.out w4 f4.out).mono ?_
  rintro e w5 ⟨rfl, g5⟩
  have f5 := Lib.hid (f4.out.trans g5 (fun _ _ h => h))
  clear g5
  go_wp2_with fail
  refine (P1.out w5 f5.out).mono ?_
  rintro e w6 ⟨rfl, g6⟩
  have f6 := Lib.hid (f5.out.trans g6 (fun _ _ h => h))
  clear g6
  go_wp2_with fail
  refine (T2.out w6 f6.out).mono ?_
  rintro e w7 ⟨rfl, g7⟩
  have f7 := Lib.hid (f6.out.trans g7 (fun _ _ h => h))
  clear g7
  go_wp2_with fail
  refine (W7.out w7 f7.out).mono ?_
  rintro e w8 ⟨rfl, g8⟩
  have f8 := Lib.hid (f7.out.trans g8 (fun _ _ h => h))
  clear g8
  go_wp2_with fail
  go_ret
  exact ⟨rfl, f8.out⟩

end Go.Proofs.YtcpjclakdpjjfaaGreatDoor


/-
  A part of the proof of FnQuantityAgain (texts Sd, Se, De of mine, joined).
-/
import Derived.Test.YtcpjclakdpjjfaaGreatDoorM22
import Derived.Test.YtcpjclakdpjjfaaGreatDoorM13
import Derived.Test.YtcpjclakdpjjfaaGreatDoorM19
namespace Go.Proofs.YtcpjclakdpjjfaaGreatDoor
open Go.RowKit

/-- What the reader shows behind its j-th byte of a rest: a byte, or the end. -/
def chv (ds : List UInt8) (j : Nat) : Nat := if j < ds.length then (ds.getD j 0).toNat else 0
def erv (EV : Value) (ds : List UInt8) (j : Nat) : Value := if j < ds.length then .nilIface else EV
def kv (i : Nat) (ds : List UInt8) (j : Nat) : Nat := if j < ds.length then i + j + 1 else i + ds.length

theorem readNext (p i : Nat) (s : ByteArray) (ds : List UInt8) (EV : Value) (j : Nat) (r : Int) (w : World) (hj : j ≤ ds.length) (hd : s.data.toList.drop i = ds) (hi : i ≤ s.size) (h : RdAt w p s (i + j) r) (hE : w.cell? ⟨3, 0, none⟩ = some EV) (hp : p ≠ 3) (hs : s.size ≤ 1000000) :
    Calls Tryz.prog 287 #[.pointer (some ⟨p, 0, none⟩)] w fun e w' => e = .returned (.tuple #[.int .u8 (chv ds j : Int), erv EV ds j]) ∧ RdAt w' p s (kv i ds j) (-1) ∧ Fr (fun k => k = p) w w' := by
  have hlen : ds.length = s.size - i := by rw [← hd]; simp
  unfold chv erv kv
  by_cases hlt : j < ds.length
  · rw [if_pos hlt, if_pos hlt, if_pos hlt]
    refine readByte_ok p (i + j) s r (ds.getD j 0) w h ?_ hs
    have : s.data.toList[i + j]? = ds[j]? := by rw [← hd, List.getElem?_drop]
    rw [this, List.getD_eq_getElem?_getD, List.getElem?_eq_getElem hlt]; rfl
  · rw [if_neg hlt, if_neg hlt, if_neg hlt]
    have e : i + j = s.size := by omega
    rw [e] at h
    rw [show i + ds.length = s.size by omega]
    exact readByte_end p s r EV w h hE hp hs

theorem results_tmp4 {fn : Func} {t u v x : Tmp} (h : fn.results = #[.tmp t, .tmp u, .tmp v, .tmp x]) (tmps : Array Value) (P : Program) (w : World) :
    (results fn tmps).run P w = .ok (.tuple #[tmps.getD t undef, tmps.getD u undef, tmps.getD v undef, tmps.getD x undef]) w := by
  simp [results, h]

theorem decV_take (ds : List UInt8) (j : Nat) (hj : j < ds.length) : decV (ds.take (j + 1)) = 10 * decV (ds.take j) + ((ds.getD j 0).toNat - 48) := by
  rw [List.take_succ_eq_append_getElem hj, decV_snoc, List.getD_eq_getElem?_getD, List.getElem?_eq_getElem hj]; rfl

/-- The end of nat.scan. -/
def ScanEnd (w : World) (w0 p : Nat) (s : ByteArray) (n V : Nat) (e : Ending) (w' : World) : Prop :=
  ∃ v ob, e = .returned (.tuple #[v, .int .i64 10, .int .i64 (n : Int), .nilIface]) ∧ NatV w' v ob V ∧ (∀ b, ob = some b → w0 ≤ b) ∧ RdAt w' p s s.size (-1) ∧ Fr (fun k => k = p) w w'

set_option maxRecDepth 100000 in
set_option maxHeartbeats 4000000 in
theorem scan_any (p i : Nat) (s : ByteArray) (r : Int) (ds : List UInt8) (ea : Addr) (w : World) (h : RdAt w p s i r) (hd : s.data.toList.drop i = ds) (hne : ds ≠ []) (hdig : ∀ c ∈ ds, isDg c = true) (hlen : ds.length ≤ 150)
    (hE : w.cell? ⟨3, 0, none⟩ = some (.iface 204 (.pointer (some ea)))) (hp : p ≠ 3) (hs : s.size ≤ 1000000) :
    Calls Tryz.prog 161 #[.slice none 0 0, rdI p, .int .i64 10, .bool false] w (ScanEnd w w.heap.size p s ds.length (decV ds)) := by
  have hn : 0 < ds.length := by cases ds with | nil => exact absurd rfl hne | cons a l => simp
  have hi : i ≤ s.size := h.le
  have hnl : i + ds.length = s.size := by rw [← hd]; simp; omega
  have R0 := Lib.hid (readNext p i s ds (.iface 204 (.pointer (some ea))) 0 r w (Nat.zero_le _) hd hi h hE hp hs)
  have R := Lib.hid (fun (j : Nat) (w' : World) (hj : j ≤ ds.length) (h' : RdAt w' p s (i + j) (-1)) (f : Fr (fun k => k = p) w w') =>
    readNext p i s ds (.iface 204 (.pointer (some ea))) j (-1) w' hj hd hi h' (by rw [f.cell (World.block_lt_of_cell? w _ hE) (by intro e; exact hp e.symm)]; exact hE) hp hs)
  have hE2 := Lib.hid (fun (w' : World) (f : Fr (fun k => k = p) w w') => (show w'.cell? ⟨3, 0, none⟩ = some (.iface 204 (.pointer (some ea))) by rw [f.cell (World.block_lt_of_cell? w _ hE) (by intro e; exact hp e.symm)]; exact hE))
  have q1 := fun w' => ierr_eql_same ea w'
  have hMP := Lib.hid maxPow_ten
  have m1 := method_rb
  have hpl := Lib.hid h.plain.lt
  have hkn : Hid (kv i ds ds.length = s.size) := by show _ = _; unfold kv; rw [if_neg (by omega)]; exact hnl
  have hev : Hid (erv (.iface 204 (.pointer (some ea))) ds ds.length = .iface 204 (.pointer (some ea))) := by show _ = _; unfold erv; rw [if_neg (by omega)]
  replace hnl := Lib.hid hnl
  replace hdig := Lib.hid hdig
  replace hd := Lib.hid hd
  have hsz : Hid (NatV w (.slice none 0 0) none 0) := ⟨rfl, rfl⟩
  obtain ⟨EV, hEV⟩ : ∃ EV, EV = Value.iface 204 (.pointer (some ea)) := ⟨_, rfl⟩
  rw [← hEV] at R0 R hev
  replace hEV := Lib.hid hEV
  obtain ⟨w0, hw0⟩ : ∃ w0 : Nat, w0 = w.heap.size := ⟨_, rfl⟩
  rw [← hw0]
  replace hw0 := Lib.hid hw0
  obtain ⟨V, hV⟩ : ∃ V, V = decV ds := ⟨_, rfl⟩
  rw [← hV]
  replace hV := Lib.hid hV
  clear hE h hne
  unfold rdI
  go_enter Tryz.func161, Tryz.ntmps161
  go_wp2_with fail
  refine R0.out.mono ?_
  rintro e w1 ⟨rfl, h1, f1⟩
  replace h1 := Lib.hid h1
  replace f1 := Lib.hid f1
  go_wp2_with fail
  refine (hMP.out _).mono ?_
  rintro e w2 ⟨rfl, rfl⟩
  go_wp2_with fail
  go_loopw [0, 3, 10, 11, 13, 14, 15, 20, 21, 22] (fun z fo cnt er pv iv ch dw di dpt wr => ∃ (j m dv : Nat) (ob : Option Nat) (pc : Int), fo = .bool false ∧ iv = .bool false ∧ dpt = .int .i64 (-1) ∧ cnt = .int .i64 (j : Int) ∧ j ≤ ds.length ∧ er = erv EV ds j ∧ ch = .int .u8 (chv ds j : Int) ∧ pv = .int .i32 pc ∧ (pc = 46 ∨ pc = 48) ∧ dw = .int .u64 (dv : Int) ∧ di = .int .i64 ((j % 19 : Nat) : Int) ∧
    Hid (NatV wr z ob m ∧ (∀ b, ob = some b → w0 ≤ b) ∧ RdAt wr p s (kv i ds j) (-1) ∧ Fr (fun k => k = p) w wr ∧ decV (ds.take j) = m * 10 ^ (j % 19) + dv ∧ dv < 10 ^ (j % 19))) (fun _ _ cnt _ _ _ _ _ _ _ _ => ds.length - (intOf cnt).toNat)
  case atStart =>
    exact ⟨0, 0, 0, none, 46, rfl, rfl, rfl, rfl, Nat.zero_le _, rfl, rfl, rfl, Or.inl rfl, rfl, rfl, ⟨rfl, rfl⟩, (fun b hb => by cases hb), h1.out, f1.out, rfl, by simp⟩
  case round =>
    obtain ⟨j, m, dv, ob, pc, rfl, rfl, rfl, rfl, hj, rfl, rfl, rfl, hpc, rfl, rfl, hrel⟩ := hrel
    obtain ⟨g1, g2, g3, g4, g5, g6⟩ := hrel.out
    by_cases hlt : j < ds.length
    · have hdj : isDg (ds.getD j 0) = true := by
        rw [List.getD_eq_getElem?_getD, List.getElem?_eq_getElem hlt]; exact hdig.out _ (List.getElem_mem hlt)
      have hT := decV_take ds j hlt
      have hec : erv EV ds j = .nilIface := by unfold erv; rw [if_pos hlt]
      have hcc : chv ds j = (ds.getD j 0).toNat := by unfold chv; rw [if_pos hlt]
      have hkc : kv i ds j = i + (j + 1) := by unfold kv; rw [if_pos hlt]; omega
      rw [hec, hcc]
      rw [hkc] at g3
      unfold isDg at hdj
      simp only [decide_eq_true_eq] at hdj
      obtain ⟨c, hc⟩ : ∃ c, c = (ds.getD j 0).toNat := ⟨_, rfl⟩
      rw [← hc] at hdj hT ⊢
      obtain ⟨x, hx⟩ : ∃ x, x = c - 48 := ⟨_, rfl⟩
      rw [← hx, g5] at hT
      have hx9 : x ≤ 9 := by omega
      obtain ⟨dg, hdg⟩ : ∃ dg, dg = j % 19 := ⟨_, rfl⟩
      rw [← hdg] at g5 g6 hT ⊢
      have hdg19 : dg < 19 := by rw [hdg]; exact Nat.mod_lt _ (by decide)
      have hp18 : 10 ^ dg ≤ 10 ^ 18 := Nat.pow_le_pow_right (by omega) (by omega)
      have hdv : dv < 1000000000000000000 := Nat.lt_of_lt_of_le g6 hp18
      have F1 : IntKind.u8.wrap ((c : Int) - 48) = (x : Int) := by rw [IntKind.wrap_u8]; omega
      have F2 : IntKind.u64.wrap ((dv : Int) * 10) = ((dv * 10 : Nat) : Int) := by
        rw [show (dv : Int) * 10 = ((dv * 10 : Nat) : Int) by omega]; exact wrapu _ (by unfold W64; omega)
      obtain ⟨d10, hd10⟩ : ∃ d, d = dv * 10 := ⟨_, rfl⟩
      rw [← hd10] at F2
      obtain ⟨dv2, hdv2⟩ : ∃ d, d = d10 + x := ⟨_, rfl⟩
      have F3 : IntKind.u64.wrap ((d10 : Int) + (x : Int)) = (dv2 : Int) := by
        rw [show (d10 : Int) + (x : Int) = (dv2 : Int) by omega]; exact wrapu _ (by unfold W64; omega)
      have F0 : IntKind.u64.wrap (x : Int) = (x : Int) := wrapu _ (by unfold W64; omega)
      have b46 : ((c : Int) = 46) = False := by simp; omega
      have b95 : ((c : Int) = 95) = False := by simp; omega
      have b48 : (48 : Int) ≤ (c : Int) := by omega
      have b57 : (c : Int) ≤ 57 := by omega
      have bx : (x : Int) < 10 := by omega
      obtain ⟨za, zm, zc, rfl⟩ := NatV.slice g1
      have hdw : decV (ds.take (j + 1)) = m * 10 ^ (dg + 1) + dv2 := by
        rw [hT, hdv2, hd10, Nat.pow_succ, Nat.mul_add, ← Nat.mul_assoc]
        have : 10 * (m * 10 ^ dg) = m * 10 ^ dg * 10 := Nat.mul_comm _ _
        rw [← Nat.mul_assoc] at this
        have e2 : 10 * m * 10 ^ dg = m * (10 ^ dg * 10) := by rw [this, Nat.mul_assoc]
        rw [e2]; omega
      have hdw2 : dv2 < 10 ^ (dg + 1) := by rw [Nat.pow_succ]; omega
      have hm : m < W64 ^ 100 := by
        have hdl := decV_lt (ds.take j) (fun c hc => hdig.out c (List.mem_of_mem_take hc))
        have h0 : 1 ≤ 10 ^ dg := Nat.pow_pos (by decide)
        have h1 : m * 1 ≤ m * 10 ^ dg := Nat.mul_le_mul_left _ h0
        have h2 : 10 ^ (ds.take j).length ≤ 10 ^ 150 := Nat.pow_le_pow_right (by decide) (by simp; omega)
        have h3 : (10 : Nat) ^ 150 < W64 ^ 100 := by unfold W64; decide +kernel
        omega
      have hW19 : (10000000000000000000 : Nat) < W64 := by decide
      have hdv2' : dv2 < W64 := Nat.lt_of_lt_of_le hdw2 (Nat.le_trans (Nat.pow_le_pow_right (by omega) (show dg + 1 ≤ 19 by omega)) (by decide))
      have hM := Lib.hid (mulAddWW_any (.slice za zm zc) (.slice za zm zc) ob ob m 10000000000000000000 dv2 wr (NatV.sto g1) g1 hm hW19 hdv2')
      replace hdv2' := Lib.hid hdv2'
      replace hdw := Lib.hid hdw
      replace hdw2 := Lib.hid hdw2
      replace hdv2 := Lib.hid hdv2
      replace hd10 := Lib.hid hd10
      replace hx := Lib.hid hx
      replace hc := Lib.hid hc
      replace hdg := Lib.hid hdg
      replace g6 := Lib.hid g6
      replace g5 := Lib.hid g5
      replace g4 := Lib.hid g4
      replace g3 := Lib.hid g3
      replace g2 := Lib.hid g2
      replace g1 := Lib.hid g1
      replace hm := Lib.hid hm
      clear hrel hT hec hcc hkc hp18 hW19 hdv hx9 hdj
      by_cases hdg0 : dg = 18
      · subst hdg0
        go_wp2_with fail
        refine hM.out.mono ?_
        rintro e w3 ⟨v', ob', rfl, k1, k2, k3⟩
        have hf3 : Fr (fun k => k = p) w w3 := g4.out.trans k2 (fun k hk e => by have := g2.out _ e; have := hw0.out; omega)
        have hr3 := g3.out.frame k2 (fun e => by have := g2.out _ e; have := hw0.out; have := hpl.out; omega)
        have hRR := Lib.hid (R.out (j + 1) w3 (by omega) hr3 hf3)
        replace k1 := Lib.hid k1
        replace k2 := Lib.hid k2
        replace k3 := Lib.hid k3
        replace hf3 := Lib.hid hf3
        clear hr3 hM
        go_wp2_with fail
        refine hRR.out.mono ?_
        rintro e w4 ⟨rfl, h4, f4⟩
        replace h4 := Lib.hid h4
        replace f4 := Lib.hid f4
        go_wp2_with fail
        go_round
        case rel =>
          have hwr := g4.out.size
          have em : (j + 1) % 19 = 0 := by have := hdg.out; omega
          refine ⟨j + 1, m * 10000000000000000000 + dv2, 0, ob', 48, rfl, rfl, rfl, by simp, by omega, rfl, rfl, rfl, Or.inr rfl, rfl, by rw [em]; rfl, ?_⟩
          refine ⟨NatV.frame k1.out f4.out ?_, ?_, h4.out, hf3.out.trans f4.out (fun _ _ h => h), ?_, ?_⟩
          · intro b hb e
            subst e
            rcases k3.out with e | ⟨b', hb', hl'⟩
            · have := g2.out b (by rw [← e]; exact hb); have := hw0.out; have := hpl.out; omega
            · rw [hb] at hb'; cases hb'; have := hpl.out; omega
          · intro b hb
            rcases k3.out with e | ⟨b', hb', hl'⟩
            · exact g2.out b (by rw [← e]; exact hb)
            · rw [hb] at hb'; cases hb'; have := hw0.out; omega
          · have e19 : (10 : Nat) ^ (18 + 1) = 10000000000000000000 := by decide
            rw [em, hdw.out, e19, Nat.pow_zero]; omega
          · rw [em]; decide
        case measure => simp [intOf]; omega
      · have hdp : ((dg : Int) + 1 = 19) = False := by simp; omega
        have hRR := Lib.hid (R.out (j + 1) wr (by omega) g3.out g4.out)
        clear hM
        go_wp2_with fail
        refine hRR.out.mono ?_
        rintro e w4 ⟨rfl, h4, f4⟩
        replace h4 := Lib.hid h4
        replace f4 := Lib.hid f4
        go_wp2_with fail
        go_round
        case rel =>
          have hwr := g4.out.size
          have em : (j + 1) % 19 = dg + 1 := by have := hdg.out; omega
          refine ⟨j + 1, m, dv2, ob, 48, rfl, rfl, rfl, by simp, by omega, rfl, rfl, rfl, Or.inr rfl, rfl, by rw [em]; simp, ?_⟩
          refine ⟨NatV.frame g1.out f4.out ?_, g2.out, h4.out, g4.out.trans f4.out (fun _ _ h => h), ?_, ?_⟩
          · intro b hb e
            subst e
            have := g2.out b hb; have := hw0.out; have := hpl.out; omega
          · rw [em, hdw.out]
          · rw [em]; exact hdw2.out
        case measure => simp [intOf]; omega
    · obtain rfl : j = ds.length := by omega
      rw [hev.out, hEV.out]
      rw [hkn.out] at g3
      have hcE := hE2.out wr g4
      have hb1 : ((pc : Int) = 95) = False := by simp; omega
      obtain ⟨dg, hdg⟩ : ∃ dg, dg = ds.length % 19 := ⟨_, rfl⟩
      obtain ⟨n, hn'⟩ : ∃ n, n = ds.length := ⟨_, rfl⟩
      rw [← hdg] at g5 g6 ⊢
      rw [← hn'] at hn ⊢
      have hdg19 : dg < 19 := by rw [hdg]; exact Nat.mod_lt _ (by decide)
      have hdV : decV ds = m * 10 ^ dg + dv := by rw [← g5, List.take_length]
      have hm : m < W64 ^ 100 := by
        have hdl := decV_lt ds hdig.out
        have h0 : 1 ≤ 10 ^ dg := Nat.pow_pos (by decide)
        have h1 : m * 1 ≤ m * 10 ^ dg := Nat.mul_le_mul_left _ h0
        have h2 : 10 ^ ds.length ≤ 10 ^ 150 := Nat.pow_le_pow_right (by decide) hlen
        have h3 : (10 : Nat) ^ 150 < W64 ^ 100 := by unfold W64; decide +kernel
        omega
      have hpd : 10 ^ dg < W64 := Nat.lt_of_le_of_lt (Nat.pow_le_pow_right (by omega) (show dg ≤ 18 by omega)) (by decide)
      obtain ⟨za, zm, zc, rfl⟩ := NatV.slice g1
      have hP := Lib.hid (pow_ten dg (by omega))
      obtain ⟨T, hT⟩ : ∃ T, T = 10 ^ dg := ⟨_, rfl⟩
      rw [← hT] at hP hpd hdV g6
      have hM := Lib.hid (mulAddWW_any (.slice za zm zc) (.slice za zm zc) ob ob m T dv wr (NatV.sto g1) g1 hm hpd (Nat.lt_trans g6 hpd))
      rw [← hdV] at hM
      rw [← hV.out] at hM hdV
      have hV0 : dg = 0 → V = m := by
        intro e
        rw [e, Nat.pow_zero] at hT
        rw [hdV, hT]; rw [hT] at g6; omega
      replace hT := Lib.hid hT
      replace hdV := Lib.hid hdV
      replace hpd := Lib.hid hpd
      replace g6 := Lib.hid g6
      replace g5 := Lib.hid g5
      replace g4 := Lib.hid g4
      replace g3 := Lib.hid g3
      replace g2 := Lib.hid g2
      replace g1 := Lib.hid g1
      replace hm := Lib.hid hm
      replace hdg := Lib.hid hdg
      replace hn' := Lib.hid hn'
      have hn0 : ((n : Int) = 0) = False := by simp; omega
      clear hrel hj hlt hlen
      by_cases hdg0 : dg = 0
      · subst hdg0
        obtain rfl := hV0 rfl
        go_wp2_with fail
        refine bodyPost_ret (results_tmp4 rfl _ _ _) rfl ?_
        rw [← hn'.out]
        refine ⟨_, ob, rfl, g1.out, ?_, g3.out, g4.out⟩
        exact g2.out
      · have hdp : (0 : Int) < (dg : Int) := by omega
        go_wp2_with fail
        refine (hP.out _).mono ?_
        rintro e w3 ⟨rfl, hw3⟩
        subst hw3
        go_wp2_with fail
        refine hM.out.mono ?_
        rintro e w4 ⟨v', ob', rfl, k1, k2, k3⟩
        replace k1 := Lib.hid k1
        replace k2 := Lib.hid k2
        replace k3 := Lib.hid k3
        go_wp2_with fail
        refine bodyPost_ret (results_tmp4 rfl _ _ _) rfl ?_
        rw [← hn'.out]
        have hwr := g4.out.size
        have hpl' := hpl.out
        refine ⟨_, ob', rfl, k1.out, ?_, g3.out.frame k2.out ?_, g4.out.trans k2.out ?_⟩
        · intro b hb
          rcases k3.out with e | ⟨b', hb', hl'⟩
          · exact g2.out b (by rw [← e]; exact hb)
          · rw [hb] at hb'; cases hb'; have := hw0.out; omega
        · intro e
          have := g2.out _ e
          have := hw0.out; omega
        · intro k hk e
          have := g2.out _ e
          have := hw0.out; omega
end Go.Proofs.YtcpjclakdpjjfaaGreatDoor

namespace Go.Proofs.YtcpjclakdpjjfaaGreatDoor
open Go.RowKit

/-- What a scan into the fresh big.Int pz comes to. -/
def IScan (w : World) (pz p : Nat) (s : ByteArray) (r : Value) (g : Bool) (V : Nat) (e : Ending) (w' : World) : Prop :=
  ∃ v ob, e = .returned r ∧ IntC w' pz g v ob V ∧ (∀ b, ob = some b → w.heap.size ≤ b) ∧ RdAt w' p s s.size (-1) ∧ Fr (fun k => k = p ∨ k = pz) w w' ∧ Hi pz w w'

/-- Where the digits begin. -/
def sgo (b : UInt8) : Nat := if b.toNat = 45 ∨ b.toNat = 43 then 1 else 0

set_option maxRecDepth 100000 in
set_option maxHeartbeats 4000000 in
theorem iscan_any (pz p : Nat) (s : ByteArray) (b : UInt8) (l ds : List UInt8) (ea : Addr) (w : World) (hz : IntC w pz false (.slice none 0 0) none 0) (h : RdAt w p s 0 (-1)) (hl : s.data.toList = b :: l) (hd : s.data.toList.drop (sgo b) = ds) (hne : ds ≠ []) (hdig : ∀ c ∈ ds, isDg c = true) (hlen : ds.length ≤ 150)
    (hE : w.cell? ⟨3, 0, none⟩ = some (.iface 204 (.pointer (some ea)))) (hp : p ≠ 3) (_hpz : pz ≠ 3) (hpp : pz ≠ p) (hs : s.size ≤ 1000000) :
    Calls Tryz.prog 139 #[ptr pz, rdI p, .int .i64 10] w (IScan w pz p s (.tuple #[ptr pz, .int .i64 10, .nilIface]) (b.toNat == 45 && decide (decV ds ≠ 0)) (decV ds)) := by
  have S1 := Lib.hid (scanSign_any p s (-1) b l w h hl hs)
  have hE3 := World.block_lt_of_cell? w _ hE
  have S2 := Lib.hid (fun w' (h' : RdAt w' p s (sgo b) (-1)) (f : Fr (fun k => k = p) w w') => scan_any p (sgo b) s (-1) ds ea w' h' hd hne hdig hlen (by rw [f.cell hE3 (by intro e; exact hp e.symm)]; exact hE) hp hs)
  have hpl := hz.plain.lt
  have hpl2 := h.plain.lt
  replace hz := Lib.hid hz
  obtain ⟨V, hV⟩ : ∃ V, V = decV ds := ⟨_, rfl⟩
  rw [← hV] at S2 ⊢
  obtain ⟨n, hn⟩ : ∃ n, n = ds.length := ⟨_, rfl⟩
  rw [← hn] at S2
  obtain ⟨g, hg⟩ : ∃ g, g = (b.toNat == 45) := ⟨_, rfl⟩
  rw [← hg] at S1 ⊢
  replace hpl := Lib.hid hpl
  replace hpl2 := Lib.hid hpl2
  obtain ⟨G, hG⟩ : ∃ G, G = (g && decide (V ≠ 0)) := ⟨_, rfl⟩
  rw [← hG]
  replace hG := Lib.hid hG
  clear h hl hd hne hdig hlen hE hV hE3 hn hg
  unfold rdI ptr
  go_enter Tryz.func139, Tryz.ntmps139
  go_wp2_with fail
  refine S1.out.mono ?_
  rintro e w1 ⟨rfl, h1, f1⟩
  have hz1 := hz.out.frame f1 (by intro e; exact hpp e) (by intro b hb; cases hb)
  have z1 := hz1.c1
  have T := Lib.hid (S2.out w1 h1 f1)
  replace f1 := Lib.hid f1
  replace hz1 := Lib.hid hz1
  clear S1 S2 h1
  go_wp2_with fail
  refine T.out.mono ?_
  rintro e w2 ⟨v, ob, rfl, hv, ho, hr, f2⟩
  have hz2 := hz1.out.frame f2 (by intro e; exact hpp e) (by intro b hb; cases hb)
  have hw1 := f1.out.size
  have hfar : ob ≠ some pz := by
    intro e
    have := ho _ e
    have := hpl.out; omega
  obtain ⟨va, vm, vc, hvv, hvm⟩ : ∃ va vm vc, v = .slice va vm vc ∧ ((vm = 0 ∧ V = 0) ∨ (0 < vm ∧ V ≠ 0)) := by
    rcases NatV.split hv with ⟨h0, a, c, e⟩ | ⟨b', l', n', _, Hx⟩
    · exact ⟨_, _, _, e, Or.inl ⟨rfl, h0⟩⟩
    · exact ⟨_, _, _, Hx.val, Or.inr ⟨Hx.pos, fun e => by have := Hx.ge; have : 0 < W64 ^ (n' - 1) := Nat.pow_pos W64_pos; omega⟩⟩
  subst hvv
  have B := IntC.made hz2.plain hz2.c0 hz2.c1 hv hfar G (by intro e; rw [hG.out] at e; simp at e; exact e.2) 0
  have k0 := World.cell?_setCell_same w2 ⟨pz, 1, none⟩ (.slice va vm vc) hz2.c1
  have k1 : (w2.setCell ⟨pz, 1, none⟩ (.slice va vm vc)).cell? ⟨pz, 0, none⟩ = some (.bool false) := by
    rw [World.cell?_setCell_other _ _ _ _ (by intro e; cases e)]; exact hz2.c0
  have fz := (hz2.plain.setCell ⟨pz, 1, none⟩ (.slice va vm vc)).free 0
  have fz1 := hz2.plain.free 1
  have z1' := hz2.c1
  have hfin : IScan w pz p s (.tuple #[.pointer (some ⟨pz, 0, none⟩), .int .i64 10, .nilIface]) G V (.returned (.tuple #[.pointer (some ⟨pz, 0, none⟩), .int .i64 10, .nilIface])) ((w2.setCell ⟨pz, 1, none⟩ (.slice va vm vc)).setCell ⟨pz, 0, none⟩ (.bool G)) := by
    refine ⟨_, ob, rfl, B.1, ?_, hr.frame B.2 (fun e => hpp e.symm), ?_, (Hi.fr (f1.out.trans f2 (fun _ _ h => h)) hpl.out hpp).trans (Hi.sets pz w2 (.slice va vm vc) (.bool G) 0)⟩
    · intro b hb; have := ho b hb; omega
    · exact ((f1.out.trans f2 (fun _ _ h => h)).mono (fun _ _ h => Or.inl h)).trans B.2 (fun _ _ h => Or.inr h)
  replace hfin := Lib.hid hfin
  clear B hr f2 hz2 hfar hv ho hz1 f1 T z1 hz hpl hpl2
  rcases hvm with ⟨rfl, rfl⟩ | ⟨hm, hV0⟩
  · have hG2 : G = false := by rw [hG.out]; simp
    subst hG2
    clear hG
    go_wp2_with fail
    go_ret3
    exact hfin.out
  · have hG2 : G = g := by rw [hG.out]; simp [hV0]
    subst hG2
    have hm2 : (0 : Int) < (vm : Int) := by omega
    clear hG
    go_wp2_with fail
    go_ret3
    exact hfin.out

set_option maxRecDepth 100000 in
set_option maxHeartbeats 4000000 in
theorem setFrom_any (pz p : Nat) (s : ByteArray) (b : UInt8) (l ds : List UInt8) (ea : Addr) (w : World) (hz : IntC w pz false (.slice none 0 0) none 0) (h : RdAt w p s 0 (-1)) (hl : s.data.toList = b :: l) (hd : s.data.toList.drop (sgo b) = ds) (hne : ds ≠ []) (hdig : ∀ c ∈ ds, isDg c = true) (hlen : ds.length ≤ 150)
    (hE : w.cell? ⟨3, 0, none⟩ = some (.iface 204 (.pointer (some ea)))) (hp : p ≠ 3) (hpz : pz ≠ 3) (hpp : pz ≠ p) (hs : s.size ≤ 1000000) :
    Calls Tryz.prog 107 #[ptr pz, rdI p, .int .i64 10] w (IScan w pz p s (.tuple #[ptr pz, .bool true]) (b.toNat == 45 && decide (decV ds ≠ 0)) (decV ds)) := by
  have S1 := Lib.hid (iscan_any pz p s b l ds ea w hz h hl hd hne hdig hlen hE hp hpz hpp hs)
  have hE3 := World.block_lt_of_cell? w _ hE
  have hcE := Lib.hid (fun (w' : World) (f : Fr (fun k => k = p ∨ k = pz) w w') => (show w'.cell? ⟨3, 0, none⟩ = some (.iface 204 (.pointer (some ea))) by
    rw [f.cell hE3 (by intro e; rcases e with e | e; exact hp e.symm; exact hpz e.symm)]; exact hE))
  have q1 := fun w' => ierr_neq_same ea w'
  have hpl := Lib.hid h.plain.lt
  have hzl := Lib.hid hz.plain.lt
  have m1 := method_rb
  obtain ⟨V, hV⟩ : ∃ V, V = decV ds := ⟨_, rfl⟩
  rw [← hV] at S1 ⊢
  obtain ⟨G, hG⟩ : ∃ G, G = (b.toNat == 45 && decide (V ≠ 0)) := ⟨_, rfl⟩
  rw [← hG] at S1 ⊢
  clear h hl hd hne hdig hlen hV hE3 hG hE
  unfold rdI ptr at *
  go_enter Tryz.func107, Tryz.ntmps107
  go_wp2_with fail
  refine S1.out.mono ?_
  rintro e w1 ⟨v, ob, rfl, hv, ho, hr, f1, hi1⟩
  replace hi1 := Lib.hid hi1
  have R := Lib.hid (readByte_end p s (-1) _ w1 hr (hcE.out w1 f1) hp hs)
  have f1' := Lib.hid f1
  replace f1 := Lib.hid f1
  replace hv := Lib.hid hv
  replace ho := Lib.hid ho
  clear hr S1
  go_wp2_with fail
  refine R.out.mono ?_
  rintro e w2 ⟨rfl, hr, f2⟩
  have cE := hcE.out w2 (f1.out.trans f2 (fun _ _ h => Or.inl h))
  replace f2 := Lib.hid f2
  replace hr := Lib.hid hr
  clear R hcE
  go_wp2_with fail
  go_ret2
  have := f1.out.size
  refine ⟨_, ob, rfl, hv.out.frame f2.out (fun e => hpp e) ?_, ho.out, hr.out, f1.out.trans f2.out (fun _ _ h => Or.inl h), hi1.out.trans (Hi.fr f2.out (by have := hzl.out; omega) hpp)⟩
  intro b hb e
  have := ho.out b hb; have := hpl.out; omega

/-- What Int.SetString into the fresh big.Int pz comes to. -/
def ISet (w : World) (pz : Nat) (r : Value) (z : Int) (e : Ending) (w' : World) : Prop :=
  ∃ ob, e = .returned r ∧ IntAt w' pz z ob ∧ (∀ b, ob = some b → w.heap.size ≤ b) ∧ Fr (fun k => k = pz) w w' ∧ Hi pz w w'

theorem sgn_and (g : Bool) (n : Nat) : sgn (g && decide (n ≠ 0)) n = sgn g n := by
  unfold sgn; cases g <;> by_cases h : n = 0 <;> simp [h]

set_option maxRecDepth 100000 in
set_option maxHeartbeats 4000000 in
theorem iSetString_any (pz : Nat) (s : ByteArray) (b : UInt8) (l ds : List UInt8) (ea : Addr) (w : World) (hz : IntC w pz false (.slice none 0 0) none 0) (hl : s.data.toList = b :: l) (hd : s.data.toList.drop (sgo b) = ds) (hne : ds ≠ []) (hdig : ∀ c ∈ ds, isDg c = true) (hlen : ds.length ≤ 150)
    (hE : w.cell? ⟨3, 0, none⟩ = some (.iface 204 (.pointer (some ea)))) (hpz : pz ≠ 3) (hs : s.size ≤ 1000000) :
    Calls Tryz.prog 81 #[ptr pz, .string s, .int .i64 10] w (ISet w pz (.tuple #[ptr pz, .bool true]) (sgn (b.toNat == 45) (decV ds))) := by
  have N := Lib.hid (newReader_any s w)
  have hE3 := World.block_lt_of_cell? w _ hE
  have hzl := hz.plain.lt
  have S := Lib.hid (fun w1 (h : RdAt w1 w.heap.size s 0 (-1)) (f : Fr (fun _ => False) w w1) => setFrom_any pz w.heap.size s b l ds ea w1 (hz.frame f (fun e => e) (fun _ _ e => e)) h hl hd hne hdig hlen
    (by rw [f.cell hE3 (fun e => e)]; exact hE) (Nat.ne_of_gt hE3) hpz (Nat.ne_of_lt hzl) hs)
  rw [← sgn_and]
  obtain ⟨V, hV⟩ : ∃ V, V = decV ds := ⟨_, rfl⟩
  rw [← hV] at S ⊢
  obtain ⟨G, hG⟩ : ∃ G, G = (b.toNat == 45 && decide (V ≠ 0)) := ⟨_, rfl⟩
  rw [← hG] at S ⊢
  obtain ⟨p, hp⟩ : ∃ p, p = w.heap.size := ⟨_, rfl⟩
  rw [← hp] at S N
  replace hp := Lib.hid hp
  replace hzl := Lib.hid hzl
  clear hz hl hd hne hdig hlen hV hE3 hG hE
  unfold rdI ptr at *
  go_enter Tryz.func81, Tryz.ntmps81
  go_wp2_with fail
  refine N.out.mono ?_
  rintro e w1 ⟨rfl, h1, f1⟩
  have T := Lib.hid (S.out w1 h1 f1)
  replace f1 := Lib.hid f1
  clear h1 S N
  go_wp2_with fail
  refine T.out.mono ?_
  rintro e w2 ⟨v, ob, rfl, hv, ho, hr, f2, hi2⟩
  replace hi2 := Lib.hid hi2
  replace f2 := Lib.hid f2
  replace hr := Lib.hid hr
  replace ho := Lib.hid ho
  replace hv := Lib.hid hv
  go_wp2_with fail
  go_ret2
  have := f1.out.size
  have := hp.out
  refine ⟨ob, rfl, hv.out.at, ?_, f1.out.none.trans f2.out ?_, (Hi.fr f1.out hzl.out (fun e => e)).trans hi2.out⟩
  · intro b hb; have := ho.out b hb; omega
  · intro k hk e; rcases e with e | e; omega; exact e
end Go.Proofs.YtcpjclakdpjjfaaGreatDoor

namespace Go.Proofs.YtcpjclakdpjjfaaGreatDoor
open Go.RowKit

/-- An inf.Dec at block p: z units of 10^-e. -/
structure DecAt (w : World) (p : Nat) (z : Int) (e : Int) (ob : Option Nat) : Prop where
  int : IntAt w p z ob
  c2 : w.cell? ⟨p, 2, none⟩ = some (.int .i32 e)

theorem IntAt.plain {w : World} {p : Nat} {z : Int} {ob : Option Nat} (h : IntAt w p z ob) : Plain w p := by
  obtain ⟨g, v, n, h, _⟩ := h; exact h.plain
theorem IntAt.lt {w : World} {p : Nat} {z : Int} {ob : Option Nat} (h : IntAt w p z ob) : p < w.heap.size := h.plain.lt
theorem IntAt.far {w : World} {p : Nat} {z : Int} {ob : Option Nat} (h : IntAt w p z ob) : ob ≠ some p := by
  obtain ⟨g, v, n, h, _⟩ := h; exact h.far
theorem IntAt.ob_lt {w : World} {p b : Nat} {z : Int} (h : IntAt w p z (some b)) : b < w.heap.size := by
  obtain ⟨g, v, n, h, _⟩ := h; exact h.nat.lt
theorem DecAt.frame {S : Nat → Prop} {w w' : World} {p : Nat} {z e : Int} {ob : Option Nat} (h : DecAt w p z e ob) (f : Fr S w w') (hp : ¬ S p) (hb : ∀ b, ob = some b → ¬ S b) : DecAt w' p z e ob :=
  ⟨h.int.frame f hp hb, cell_frame h.c2 f hp⟩

/-- A store into the scale. -/
theorem IntAt.set2 {w : World} {p : Nat} {z : Int} {ob : Option Nat} (h : IntAt w p z ob) (v : Value) : IntAt (w.setCell ⟨p, 2, none⟩ v) p z ob ∧ Fr (fun k => k = p) w (w.setCell ⟨p, 2, none⟩ v) := by
  obtain ⟨g, v', n, h, e⟩ := h
  have f : Fr (fun k => k = p) w (w.setCell ⟨p, 2, none⟩ v) := Fr.setCell (S := fun k => k = p) _ _ _ (fun _ => rfl)
  refine ⟨⟨g, v', n, ⟨h.plain.setCell _ _, ?_, ?_, h.nat.frame f (fun b hb e => h.far (e ▸ hb)), h.can, h.far⟩, e⟩, f⟩
  · rw [World.cell?_setCell_other _ _ _ _ (by intro e; cases e)]; exact h.c0
  · rw [World.cell?_setCell_other _ _ _ _ (by intro e; cases e)]; exact h.c1

theorem dScale_any (p : Nat) (e : Int) (w : World) (h : w.cell? ⟨p, 2, none⟩ = some (.int .i32 e)) :
    Calls Tryz.prog 24 #[ptr p] w fun r w' => r = .returned (.int .i32 e) ∧ w = w' := by
  unfold ptr
  go_enter Tryz.func24, Tryz.ntmps24
  go_wp2_with fail
  go_ret
  exact ⟨rfl, rfl⟩

theorem dSetScale_any (p : Nat) (e : Int) (u : Value) (w : World) (h : w.cell? ⟨p, 2, none⟩ = some u) (hp : Plain w p) :
    Calls Tryz.prog 23 #[ptr p, .int .i32 e] w fun r w' => r = .returned (ptr p) ∧ w' = w.setCell ⟨p, 2, none⟩ (.int .i32 e) := by
  have f := hp.free 2
  clear hp
  unfold ptr
  go_enter Tryz.func23, Tryz.ntmps23
  go_wp2_with fail
  go_ret
  exact ⟨rfl, rfl⟩

theorem dBig_any (p : Nat) (w : World) : Calls Tryz.prog 28 #[ptr p] w fun r w' => r = .returned (ptr p) ∧ w = w' := by
  unfold ptr
  go_enter Tryz.func28, Tryz.ntmps28
  go_wp2_with fail
  go_ret
  exact ⟨rfl, rfl⟩

theorem dSign_any (p : Nat) (z : Int) (ob : Option Nat) (w : World) (h : IntAt w p z ob) :
    Calls Tryz.prog 31 #[ptr p] w fun r w' => r = .returned (.int .i64 z.sign) ∧ w = w' := by
  obtain ⟨g, v, n, h, rfl⟩ := h
  have B := Lib.hid (dBig_any p w)
  have S := Lib.hid (sign_any p g v ob n w h)
  obtain ⟨N, hN⟩ : ∃ N, N = (sgn g n).sign := ⟨_, rfl⟩
  rw [← hN] at S ⊢
  clear h hN
  unfold ptr at *
  go_enter Tryz.func31, Tryz.ntmps31
  go_wp2_with fail
  refine B.out.mono ?_
  rintro e w1 ⟨rfl, rfl⟩
  go_wp2_with fail
  refine S.out.mono ?_
  rintro e w1 ⟨rfl, rfl⟩
  go_wp2_with fail
  go_ret
  exact ⟨rfl, rfl⟩

end Go.Proofs.YtcpjclakdpjjfaaGreatDoor


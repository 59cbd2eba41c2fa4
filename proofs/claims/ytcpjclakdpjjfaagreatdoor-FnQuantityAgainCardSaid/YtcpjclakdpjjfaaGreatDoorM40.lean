/-
  A part of the proof of FnQuantityAgain (texts T5, T6, T7 of mine, joined).
-/
import Derived.Test.YtcpjclakdpjjfaaGreatDoorM39
import Derived.Test.YtcpjclakdpjjfaaGreatDoorM38
namespace Go.Proofs.YtcpjclakdpjjfaaGreatDoor
open Go.RowKit

theorem info5 : (Tryz.prog.info? 5).map (fun i => (i.size, i.bytes, i.zero)) = some (1, 1, some (.int .u8 0)) := by kernel_rfl

/-- What a text of a number onto a row of bytes comes to. -/
def RowEnd (w : World) (B n : Nat) (xs : List Value) (l : List UInt8) (x : Int) (e : Ending) (w' : World) : Prop :=
  ∃ v, e = .returned (.tuple #[v, .int .i32 x]) ∧ w'.ownsRow B 5 1 v (n + l.length) (xs ++ Lib.byteCells l) ∧ Below B w w'

theorem below_of_fr {S : Nat → Prop} {B : Nat} {w w' : World} (f : Fr S w w') (hS : ∀ k, S k → B ≤ k) (hB : B ≤ w.heap.size) : Below B w w' :=
  ⟨f.os, f.tape, f.output, f.size, fun k hk => f.block k (by omega) (fun s => by have := hS k s; omega)⟩

theorem ownsRow_fr {w w' : World} {B n : Nat} {v : Value} {xs : List Value} (h : w.ownsRow B 5 1 v n xs) (f : Fr (fun _ => False) w w') : w'.ownsRow B 5 1 v n xs := by
  refine ⟨h.1, ?_⟩
  rcases h.2 with h | ⟨g, cap, cur, h1, h2, h3, h4⟩
  · exact Or.inl h
  · exact Or.inr ⟨g, cap, cur, h1, h2, (f.block g (Array.getElem?_eq_some_iff.1 h3).1 (fun f => f)).trans h3, h4⟩

set_option maxRecDepth 100000 in
set_option maxHeartbeats 4000000 in
theorem decBytes_any (p : Nat) (u e : Int) (o : Option Nat) (w : World) (hD : DecAt w p u (-e) o) (hu : u ≠ 0) (hb : u.natAbs < TOP) (e1 : -150 ≤ e) (e2 : e ≤ 150) (hg : Gk w) (hsz : 17 ≤ w.heap.size)
    (B n : Nat) (v : Value) (xs : List Value) (hown : w.ownsRow B 5 1 v n xs) (hB : B ≤ w.heap.size) (hn : n ≤ 1000) :
    Calls Tryz.prog 100 #[.agg #[ptr p], v] w (RowEnd w B n xs (Lib.itoa (canD u e).1) (canD u e).2) := by
  have F0 : ∀ o, Fr (fun _ => False) w (w.alloc o) := fun o => Fr.alloc _ _ _
  obtain ⟨w1, hw1⟩ : ∃ w1, w1 = w.alloc (.cells #[ptr p] 36) := ⟨_, rfl⟩
  have f1 : Fr (fun _ => False) w w1 := by rw [hw1]; exact Fr.alloc _ _ _
  have r1 : w1.heap[w.heap.size]? = some (.cells #[ptr p] 36 (0, 0)) := by rw [hw1]; exact heap_alloc_new _ _
  have c1 : w1.cell? ⟨w.heap.size, 0, none⟩ = some (ptr p) := cell_of_row w1 w.heap.size 0 _ _ _ r1
  have hD1 := Lib.hid (hD.frame f1 (fun f => f) (fun _ _ f => f))
  have DB := Lib.hid (dBig_any p w1)
  have DS := Lib.hid (dScale_any p (-e) w1 hD1.out.c2)
  have NI := Lib.hid (newInt_any 0 (by omega) (by omega))
  have NT := Lib.hid (newInt_any 10 (by omega) (by omega))
  have ew : wrap32 (- -e) = e := by rw [Int.neg_neg]; unfold wrap32; omega
  replace hw1 := Lib.hid hw1
  replace f1 := Lib.hid f1
  replace ew := Lib.hid ew
  have hD := Lib.hid hD
  have hu := Lib.hid hu
  have hb := Lib.hid hb
  have hg := Lib.hid hg
  have hsz := Lib.hid hsz
  have hown := Lib.hid hown
  have hB := Lib.hid hB
  have hn := Lib.hid hn
  clear F0 r1
  unfold ptr at *
  go_enter Tryz.func100, Tryz.ntmps100
  go_wp2_with (rw [← hw1.out])
  refine DB.out.mono ?_
  rintro r w2 ⟨rfl, hw⟩
  subst hw
  go_wp2_with fail
  refine DS.out.mono ?_
  rintro r w2 ⟨rfl, hw⟩
  subst hw
  obtain ⟨T, hT⟩ : ∃ T, T = (strip 10 u.natAbs).2 := ⟨_, rfl⟩
  obtain ⟨Y, hY⟩ : ∃ Y, Y = signed u (strip 10 u.natAbs).1 := ⟨_, rfl⟩
  obtain ⟨hYT, hT2⟩ : Y.natAbs * 10 ^ T = u.natAbs ∧ 0 < Y.natAbs := by
    obtain ⟨s1, s2, s3⟩ := strip_spec 10 u.natAbs (by omega) (by have := hu.out; omega)
    rw [hY, natAbs_signed, hT]
    exact ⟨s1.symm, s3⟩
  have hT1 : T ≤ 136 := by
    rcases Nat.lt_or_ge 136 T with h | h
    · have h2 : 10 ^ 137 ≤ 10 ^ T := Nat.pow_le_pow_right (by omega) h
      have h3 : 10 ^ T ≤ Y.natAbs * 10 ^ T := Nat.le_mul_of_pos_left _ hT2
      have h4 := hb.out
      have h5 : TOP ≤ 10 ^ 137 := by unfold TOP; decide +kernel
      omega
    · exact h
  replace hYT := Lib.hid hYT
  replace hT2 := Lib.hid hT2
  go_wp2_with fail
  refine (NI.out w1).mono ?_
  rintro r w2 ⟨a, oa, rfl, i1, i2, i3, i4⟩
  have hap : a ≠ p := by have := hD1.out.int.lt; omega
  have ST := Lib.hid (im_set (w0 := w1) ⟨oa, i1, i2, i3, i4⟩ (hD1.out.frame i2 (fun f => f) (fun _ _ f => f)).int hap (by
    have h2 := hb.out
    have h3 : TOP ≤ W64 ^ 30 := by unfold TOP W64; decide +kernel
    omega))
  clear i1 i2 i3 i4 hap
  unfold ptr at *
  go_wp2_with fail
  refine ST.out.mono ?_
  rintro r w3 ⟨rfl, hA⟩
  replace hA := Lib.hid hA
  clear ST
  go_wp2_with fail
  refine (NT.out w3).mono ?_
  rintro r w4 ⟨q, oq, rfl, i1, i2, i3, i4⟩
  have RM := Lib.hid (rmb_any w1 w4 a q u 10 (im_two hA.out i1 i2 i3 i4) hu.out hb.out (by omega) (by unfold W64; omega))
  clear i1 i2 i3 i4 hA
  unfold ptr at *
  go_wp2_with fail
  refine RM.out.mono ?_
  rintro r w5 ⟨r, rfl, hR⟩
  rw [← hT]
  rw [← hY] at hR
  replace hR := Lib.hid hR
  replace hT := Lib.hid hT
  replace hY := Lib.hid hY
  clear RM DB DS
  unfold ptr at *
  have hes := ew.out
  replace hes : wrap32 (- -e) = e := hes
  go_wp2_with fail
  have tb : Y.natAbs * 1000 < W64 ^ 8 := by
    have h2 := hb.out
    have h3 : TOP * 1000 ≤ W64 ^ 8 := by unfold TOP W64; decide +kernel
    have h4 : Y.natAbs ≤ Y.natAbs * 10 ^ T := Nat.le_mul_of_pos_right _ (Nat.pow_pos (by omega))
    have h5 := hYT.out
    omega
  replace tb := Lib.hid tb
  go_loopw [5] (fun t5 wr => ∃ (k : Nat), t5 = .int .i32 (e + (T : Int) - (k : Int)) ∧ (k : Int) ≤ (e + (T : Int)) % 3 ∧ Hid (Im w1 wr r (Y * ((10 ^ k : Nat) : Int)))) (fun t5 _ => (intOf t5 + 1000).toNat)
  case atStart =>
    refine ⟨0, ?_, ?_, ?_⟩
    · show Value.int IntKind.i32 (e + (T : Int)) = _
      congr 1; omega
    · show (0 : Int) ≤ _; omega
    · rw [Nat.pow_zero]; show Im w1 w5 r (Y * 1); rw [Int.mul_one]; exact hR.out
  case round =>
    obtain ⟨k, rfl, hk, hI⟩ := hrel
    obtain ⟨x, hx⟩ : ∃ x, x = e + (T : Int) - (k : Int) := ⟨_, rfl⟩
    rw [← hx]
    have hx1 : -160 ≤ x := by omega
    have hx2 : x ≤ 300 := by omega
    have hk2 : k ≤ 2 := by omega
    have pk : 10 ^ k ≤ 1000 := Nat.le_trans (Nat.pow_le_pow_right (by omega) hk2) (by decide)
    have tbk : (Y * ((10 ^ k : Nat) : Int)).natAbs < W64 ^ 8 := by
      rw [Int.natAbs_mul, Int.natAbs_natCast]
      exact Nat.lt_of_le_of_lt (Nat.mul_le_mul_left _ pk) tb.out
    have hgr : Gk wr := (hg.out.frame f1.out (fun _ h => h.elim)).frame hI.out.fr (fun _ h => h.elim)
    by_cases hz : x % 3 = 0
    · have q0 : (x.tmod 3 != 0) = false := by rw [bne_eq_false_iff_eq]; exact (tmod3 x).1.2 hz
      have hkk : (k : Int) = (e + (T : Int)) % 3 := by omega
      have hcan : canD u e = (Y * ((10 ^ k : Nat) : Int), x) := by
        have e1 : ((e + (T : Int)) % 3).toNat = k := by omega
        unfold canD
        simp only [← hT.out, e1, signed_mul, ← hY.out]
        rw [hx, ← hkk]
      have SG := Lib.hid (im_string hI.out (by
        have h1 := hT2.out
        have h2 := Nat.pow_pos (n := k) (show 0 < 10 by omega)
        intro e
        rcases Int.mul_eq_zero.mp e with e | e
        · omega
        · omega) tbk hgr)
      have hlen : (Lib.itoa (Y * ((10 ^ k : Nat) : Int))).length ≤ 161 := itoa_len (k := 160) (Nat.lt_trans tbk (by unfold W64; decide +kernel)) (by omega)
      have hIf := hI.out.fr
      obtain ⟨Z, hZ⟩ : ∃ Z, Z = Y * ((10 ^ k : Nat) : Int) := ⟨_, rfl⟩
      rw [← hZ] at SG hlen
      replace hIf := Lib.hid hIf
      replace hZ := Lib.hid hZ
      replace hlen := Lib.hid hlen
      replace hcan := Lib.hid hcan
      replace hx := Lib.hid hx
      replace hkk := Lib.hid hkk
      replace tbk := Lib.hid tbk
      clear hz
      unfold ptr at *
      go_wp2_with fail
      refine SG.out.mono ?_
      rintro r w6 ⟨rfl, f6⟩
      have F6 : Fr (fun _ => False) w w6 := (f1.out.trans hIf.out (fun _ _ h => h)).trans f6 (fun _ _ h => h)
      have hown6 := ownsRow_fr hown.out F6
      have hsz6 : (tx (Lib.itoa Z)).size ≤ 161 := by rw [tx_size]; exact hlen.out
      obtain ⟨i0, hi, hz0, hz1, hz2⟩ : ∃ i0, Tryz.prog.info? 5 = some i0 ∧ i0.zero = some (.int .u8 0) ∧ i0.size = 1 ∧ i0.bytes = 1 := by
        have := info5
        cases h : Tryz.prog.info? 5 with
        | none => rw [h] at this; cases this
        | some i0 =>
          rw [h] at this
          have := Option.some.inj this
          exact ⟨i0, rfl, congrArg (fun p => p.2.2) this, congrArg (fun p => p.1) this, congrArg (fun p => p.2.1) this⟩
      have hn' := hn.out
      have hB6 : B ≤ w6.heap.size := Nat.le_trans hB.out F6.size
      replace F6 := Lib.hid F6
      clear f6 SG
      go_wp2_with (at_builtin; refine Lib.wpList_append_own_string _ rfl _ _ 96 9 rfl B 5 i0 Tryz.underlying96 Tryz.underlying9 hi hz0 hz1 hz2 _ _ _ rfl hown6 _ rfl (by unfold maxLen; omega) (by omega) hB6 ?_; rintro v2 w7 hrow hgw _; replace hrow := Lib.hid hrow; replace hgw := Lib.hid hgw)
      go_ret2
      rw [hcan.out, ← hZ.out]
      refine ⟨v2, rfl, ?_, ?_⟩
      · have := hrow.out
        rw [tx_size] at this
        exact this
      · have g := hgw.out
        have hS : ∀ k, v.ownBlock = some k → B ≤ k := by
          intro k e
          rcases hown.out.2 with ⟨rfl, _⟩ | ⟨g, cap, cur, rfl, h2, _⟩
          · cases e
          · cases e; exact h2
        have F := F6.out
        exact ⟨g.os.trans F.os, g.tape.trans F.tape, g.output.trans F.output, Nat.le_trans F.size g.size, fun k hk => (g.block k (by have := hB.out; have := F.size; omega) (fun e => by have := hS k e.symm; omega)).trans (F.block k (by have := hB.out; omega) (fun f => f))⟩
    · have q0 : (x.tmod 3 != 0) = true := by rw [bne_iff_ne]; exact fun e => hz ((tmod3 x).1.1 e)
      have hkk : ((k + 1 : Nat) : Int) ≤ (e + (T : Int)) % 3 := by omega
      replace hx := Lib.hid hx
      replace hz := Lib.hid hz
      go_wp2_with fail
      refine (NT.out wr).mono ?_
      rintro e' w6 ⟨q2, oq2, rfl, i1, i2, i3, i4⟩
      have ML := Lib.hid (im_mul (hI.out.frame i2) (⟨oq2, i1, hI.out.fr.trans i2 (fun _ _ h => h), Nat.le_trans hI.out.fr.size i3, fun b hb => Nat.le_trans hI.out.fr.size (i4 b hb)⟩ : Im w1 w6 q2 10) (by have := hI.out.lt; omega) (Nat.lt_trans tbk (by unfold W64; decide +kernel)) (by unfold W64; decide +kernel) (hgr.frame i2 (fun _ h => h.elim)))
      clear i1 i2 i3 i4 hgr tbk
      unfold ptr at *
      go_wp2_with fail
      refine ML.out.mono ?_
      rintro e' w7 ⟨rfl, hI2⟩
      have hI2 : Hid (Im w1 w7 r (Y * ((10 ^ (k + 1) : Nat) : Int))) := by
        have e3 : Y * ((10 ^ (k + 1) : Nat) : Int) = Y * ((10 ^ k : Nat) : Int) * 10 := by rw [Nat.pow_succ, Int.natCast_mul, Int.mul_assoc]; rfl
        rw [e3]; exact hI2
      clear ML
      go_wp2_with fail
      go_round
      case rel => exact ⟨k + 1, by have := hx.out; congr 1; omega, hkk, hI2⟩
      case measure =>
        show ((x - 1) + 1000).toNat < (x + 1000).toNat
        omega
end Go.Proofs.YtcpjclakdpjjfaaGreatDoor

namespace Go.Proofs.YtcpjclakdpjjfaaGreatDoor
open Go.RowKit

theorem rmf_ten (u : Int) (hu : u ≠ 0) (v1 : -9223372036854775807 ≤ u) (v2 : u ≤ 9223372036854775807) (w : World) :
    Calls Tryz.prog 134 #[.int .i64 u, .int .i64 10] w fun e w' => e = .returned (.tuple #[.int .i64 (signed u (strip 10 u.natAbs).1), .int .i32 ((strip 10 u.natAbs).2 : Int)]) ∧ w = w' := by
  rcases (show 0 < u ∨ u < 0 by omega) with h | h
  · obtain ⟨N, rfl⟩ : ∃ N : Nat, u = N := ⟨u.toNat, by omega⟩
    have := rmf_ten_pos N (by omega) (by omega) w
    unfold signed
    rw [if_neg (by omega), Int.natAbs_natCast]
    exact this
  · obtain ⟨N, rfl⟩ : ∃ N : Nat, u = -(N : Int) := ⟨(-u).toNat, by omega⟩
    have := rmf_ten_neg N (by omega) (by omega) w
    unfold signed
    rw [if_pos h, Int.natAbs_neg, Int.natAbs_natCast]
    exact this

/-- A cell row that the walk boxed. -/
theorem amt_box (w w1 : World) (u e : Int) (hw1 : w1 = w.alloc (.cells #[.int .i64 u, .int .i32 e] 33)) : w1.cell? ⟨w.heap.size, 0, none⟩ = some (.int .i64 u) ∧ w1.cell? ⟨w.heap.size, 1, none⟩ = some (.int .i32 e) ∧ Fr (fun _ => False) w w1 := by
  have r1 : w1.heap[w.heap.size]? = some (.cells #[.int .i64 u, .int .i32 e] 33 (0, 0)) := by rw [hw1]; exact heap_alloc_new _ _
  exact ⟨cell_of_row w1 w.heap.size 0 _ _ _ r1, cell_of_row w1 w.heap.size 1 _ _ _ r1, by rw [hw1]; exact Fr.alloc _ _ _⟩

theorem RowEnd.from {w w1 : World} {B n : Nat} {xs : List Value} {l : List UInt8} {x : Int} {e : Ending} {w' : World} (f : Fr (fun _ => False) w w1) (hB : B ≤ w.heap.size) (h : RowEnd w1 B n xs l x e w') : RowEnd w B n xs l x e w' := by
  obtain ⟨v, rfl, h1, h2⟩ := h
  exact ⟨v, rfl, h1, (below_of_fr f (fun _ h => h.elim) hB).trans h2⟩

set_option maxRecDepth 100000 in
set_option maxHeartbeats 4000000 in
theorem amtBytes_any (u e : Int) (w : World) (hu : u ≠ 0) (v1 : -9223372036854775807 ≤ u) (v2 : u ≤ 9223372036854775807) (e1 : -9 ≤ e) (e2 : e ≤ 150) (hg : Gk w) (hsz : 17 ≤ w.heap.size)
    (B n : Nat) (v : Value) (xs : List Value) (hown : w.ownsRow B 5 1 v n xs) (hB : B ≤ w.heap.size) (hn : n ≤ 1000) (htab : Lib.TabBelow Tryz.prog B w "internal/strconv.uint64pow10" .u64 Lib.pow10Tab) :
    Calls Tryz.prog 101 #[.agg #[.int .i64 u, .int .i32 e], v] w (RowEnd w B n xs (Lib.itoa (canD u e).1) (canD u e).2) := by
  obtain ⟨w1, hw1⟩ : ∃ w1, w1 = w.alloc (.cells #[.int .i64 u, .int .i32 e] 33) := ⟨_, rfl⟩
  obtain ⟨c0, c1, f1⟩ := amt_box w w1 u e hw1
  have hB1 := below_of_fr f1 (fun _ h => h.elim) hB
  have RM := Lib.hid (rmf_ten u hu v1 v2 w1)
  obtain ⟨T, hT⟩ : ∃ T, T = (strip 10 u.natAbs).2 := ⟨_, rfl⟩
  obtain ⟨Y, hY⟩ : ∃ Y, Y = signed u (strip 10 u.natAbs).1 := ⟨_, rfl⟩
  rw [← hT, ← hY] at RM
  obtain ⟨hYT, hT2⟩ : Y.natAbs * 10 ^ T = u.natAbs ∧ 0 < Y.natAbs := by
    obtain ⟨s1, s2, s3⟩ := strip_spec 10 u.natAbs (by omega) (by omega)
    rw [hY, natAbs_signed, hT]
    exact ⟨s1.symm, s3⟩
  have hT1 : T ≤ 19 := by
    rcases Nat.lt_or_ge 19 T with h | h
    · have h2 : 10 ^ 20 ≤ 10 ^ T := Nat.pow_le_pow_right (by omega) h
      have h3 : 10 ^ T ≤ Y.natAbs * 10 ^ T := Nat.le_mul_of_pos_left _ hT2
      omega
    · exact h
  have hYb : Y.natAbs ≤ 9223372036854775807 := by
    have h4 : Y.natAbs ≤ Y.natAbs * 10 ^ T := Nat.le_mul_of_pos_right _ (Nat.pow_pos (by omega))
    omega
  obtain ⟨x, hx⟩ : ∃ x, x = e + (T : Int) := ⟨_, rfl⟩
  have hx1 : -9 ≤ x := by omega
  have hx2 : x ≤ 170 := by omega
  have hcan : canD u e = (Y * ((10 ^ (x % 3).toNat : Nat) : Int), x - x % 3) := by
    unfold canD
    simp only [← hT, signed_mul, ← hY, ← hx]
  have AD := Lib.hid (asDec_any u e (by omega) (by omega) (by omega) (by omega) w1)
  have AI := Lib.hid (fun (i : Int) h0 h1 w' (b : Below B w1 w') (ho : w'.ownsRow B 5 1 v n xs) (hb : B ≤ w'.heap.size) => Tryz.strconv_AppendInt_10 B n i h0 h1 v xs w' ho hb (by omega) (htab.on (hB1.trans b)))
  have DB := Lib.hid (fun p o w2 (hD : DecAt w2 p u (-e) o) (f : Fr (fun _ => False) w1 w2) => decBytes_any p u e o w2 hD hu (by
    have : 9223372036854775807 < TOP := by unfold TOP; decide +kernel
    omega) (by omega) (by omega) (hg.frame (f1.trans f (fun _ _ h => h)) (fun _ h => h.elim)) (Nat.le_trans hsz (f1.trans f (fun _ _ h => h)).size) B n v xs (ownsRow_fr hown (f1.trans f (fun _ _ h => h))) (Nat.le_trans hB (f1.trans f (fun _ _ h => h)).size) hn)
  have hown1 := Lib.hid (ownsRow_fr hown f1)
  have hsz1 := Lib.hid (Nat.le_trans hB f1.size)
  have tm := tmod3 x
  replace hx := hx.symm
  have hxh := Lib.hid hx
  replace hcan := Lib.hid hcan
  replace f1 := Lib.hid f1
  replace hw1 := Lib.hid hw1
  replace hB1 := Lib.hid hB1
  replace hB := Lib.hid hB
  replace hYT := Lib.hid hYT
  replace hT := Lib.hid hT
  replace hY := Lib.hid hY
  have hY0 : Y ≠ 0 := by omega
  replace hY0 := Lib.hid hY0
  clear hown htab hg hsz hT2 hn
  have hw : wrap32 x = x := by unfold wrap32; omega
  replace hw := Lib.hid hw
  obtain ⟨M, hM⟩ : ∃ M, M = x.tmod 3 := ⟨_, rfl⟩
  have hM5 : M = 0 ∨ M = 1 ∨ M = -2 ∨ M = 2 ∨ M = -1 := by
    have b1 := Int.tmod_lt_of_pos x (show (0 : Int) < 3 by omega)
    have b2 := Int.lt_tmod_of_pos x (show (0 : Int) < 3 by omega)
    omega
  rw [← hM] at tm
  go_enter Tryz.func101, Tryz.ntmps101
  go_wp2_with (rw [← hw1.out])
  refine RM.out.mono ?_
  rintro r w2 ⟨rfl, hw'⟩
  subst hw'
  clear RM
  rw [eq_comm] at hM
  rcases hM5 with rfl | rfl | rfl | rfl | rfl
  · have hm3 : x % 3 = 0 := tm.1.1 rfl
    replace tm := Lib.hid tm
    replace hm3 := Lib.hid hm3
    go_wp2_with fail
    refine (AI.out Y (by omega) (by omega) w1 (Below.refl _ _) hown1.out hsz1.out).mono ?_
    rintro r w3 ⟨v2, rfl, hrow, hbel, _⟩
    replace hrow := Lib.hid hrow
    replace hbel := Lib.hid hbel
    go_wp2_with fail
    go_ret2
    rw [hcan.out, hm3.out]
    have e0 : Y * ((10 ^ (0 : Int).toNat : Nat) : Int) = Y := by show Y * 1 = Y; rw [Int.mul_one]
    rw [e0]
    exact ⟨v2, by rw [Int.sub_zero]; rfl, hrow.out, hB1.out.trans hbel.out⟩
  · have hm3 : x % 3 = 1 := tm.2.1.1 (Or.inl rfl)
    replace tm := Lib.hid tm
    replace hm3 := Lib.hid hm3
    by_cases hfit : -9223372036854775807 ≤ Y * 10 ∧ Y * 10 ≤ 9223372036854775807
    · have ML := Lib.hid (mul10_fit Y hY0.out hfit.1 hfit.2 w1)
      obtain ⟨Z, hZ⟩ : ∃ Z, Z = Y * 10 := ⟨_, rfl⟩
      rw [← hZ] at ML hfit
      replace hZ := Lib.hid hZ
      go_wp2_with fail
      refine ML.out.mono ?_
      rintro r w2 ⟨rfl, hw'⟩
      subst hw'
      go_wp2_with fail
      refine (AI.out Z (by omega) (by omega) w1 (Below.refl _ _) hown1.out hsz1.out).mono ?_
      rintro r w3 ⟨v2, rfl, hrow, hbel, _⟩
      replace hrow := Lib.hid hrow
      replace hbel := Lib.hid hbel
      go_wp2_with fail
      go_ret2
      rw [hcan.out, hm3.out]
      have e0 : Y * ((10 ^ (1 : Int).toNat : Nat) : Int) = Z := hZ.out.symm
      rw [e0]
      exact ⟨v2, rfl, hrow.out, hB1.out.trans hbel.out⟩
    · have ML := Lib.hid (mul10_over Y (by omega) (by omega) (by omega) w1)
      replace hfit := Lib.hid hfit
      go_wp2_with fail
      refine ML.out.mono ?_
      rintro r w2 ⟨⟨cc, rfl⟩, hw'⟩
      subst hw'
      go_wp2_with fail
      refine AD.out.mono ?_
      rintro r w2 ⟨p, o, rfl, g1, g2, g3, g4⟩
      have D := Lib.hid (DB.out p o w2 g1 g2)
      replace g2 := Lib.hid g2
      clear g1 g3 g4
      unfold ptr at *
      go_wp2_with fail
      refine D.out.mono ?_
      intro r w3 hE
      have hE := RowEnd.from (f1.out.trans g2.out (fun _ _ h => h)) hB.out hE
      obtain ⟨v2, rfl, hrow, hbel⟩ := hE
      replace hrow := Lib.hid hrow
      replace hbel := Lib.hid hbel
      go_wp2_with fail
      go_ret2
      exact ⟨v2, rfl, hrow.out, hbel.out⟩
  · have hm3 : x % 3 = 1 := tm.2.1.1 (Or.inr rfl)
    replace tm := Lib.hid tm
    replace hm3 := Lib.hid hm3
    by_cases hfit : -9223372036854775807 ≤ Y * 10 ∧ Y * 10 ≤ 9223372036854775807
    · have ML := Lib.hid (mul10_fit Y hY0.out hfit.1 hfit.2 w1)
      obtain ⟨Z, hZ⟩ : ∃ Z, Z = Y * 10 := ⟨_, rfl⟩
      rw [← hZ] at ML hfit
      replace hZ := Lib.hid hZ
      go_wp2_with fail
      refine ML.out.mono ?_
      rintro r w2 ⟨rfl, hw'⟩
      subst hw'
      go_wp2_with fail
      refine (AI.out Z (by omega) (by omega) w1 (Below.refl _ _) hown1.out hsz1.out).mono ?_
      rintro r w3 ⟨v2, rfl, hrow, hbel, _⟩
      replace hrow := Lib.hid hrow
      replace hbel := Lib.hid hbel
      go_wp2_with fail
      go_ret2
      rw [hcan.out, hm3.out]
      have e0 : Y * ((10 ^ (1 : Int).toNat : Nat) : Int) = Z := hZ.out.symm
      rw [e0]
      exact ⟨v2, rfl, hrow.out, hB1.out.trans hbel.out⟩
    · have ML := Lib.hid (mul10_over Y (by omega) (by omega) (by omega) w1)
      replace hfit := Lib.hid hfit
      go_wp2_with fail
      refine ML.out.mono ?_
      rintro r w2 ⟨⟨cc, rfl⟩, hw'⟩
      subst hw'
      go_wp2_with fail
      refine AD.out.mono ?_
      rintro r w2 ⟨p, o, rfl, g1, g2, g3, g4⟩
      have D := Lib.hid (DB.out p o w2 g1 g2)
      replace g2 := Lib.hid g2
      clear g1 g3 g4
      unfold ptr at *
      go_wp2_with fail
      refine D.out.mono ?_
      intro r w3 hE
      have hE := RowEnd.from (f1.out.trans g2.out (fun _ _ h => h)) hB.out hE
      obtain ⟨v2, rfl, hrow, hbel⟩ := hE
      replace hrow := Lib.hid hrow
      replace hbel := Lib.hid hbel
      go_wp2_with fail
      go_ret2
      exact ⟨v2, rfl, hrow.out, hbel.out⟩
  · have hm3 : x % 3 = 2 := tm.2.2.1 (Or.inl rfl)
    replace tm := Lib.hid tm
    replace hm3 := Lib.hid hm3
    by_cases hfit : -9223372036854775807 ≤ Y * 100 ∧ Y * 100 ≤ 9223372036854775807
    · have ML := Lib.hid (mul100_fit Y hY0.out hfit.1 hfit.2 w1)
      obtain ⟨Z, hZ⟩ : ∃ Z, Z = Y * 100 := ⟨_, rfl⟩
      rw [← hZ] at ML hfit
      replace hZ := Lib.hid hZ
      go_wp2_with fail
      refine ML.out.mono ?_
      rintro r w2 ⟨rfl, hw'⟩
      subst hw'
      go_wp2_with fail
      refine (AI.out Z (by omega) (by omega) w1 (Below.refl _ _) hown1.out hsz1.out).mono ?_
      rintro r w3 ⟨v2, rfl, hrow, hbel, _⟩
      replace hrow := Lib.hid hrow
      replace hbel := Lib.hid hbel
      go_wp2_with fail
      go_ret2
      rw [hcan.out, hm3.out]
      have e0 : Y * ((10 ^ (2 : Int).toNat : Nat) : Int) = Z := hZ.out.symm
      rw [e0]
      exact ⟨v2, rfl, hrow.out, hB1.out.trans hbel.out⟩
    · have ML := Lib.hid (mul100_over Y (by omega) (by omega) (by omega) w1)
      replace hfit := Lib.hid hfit
      go_wp2_with fail
      refine ML.out.mono ?_
      rintro r w2 ⟨⟨cc, rfl⟩, hw'⟩
      subst hw'
      go_wp2_with fail
      refine AD.out.mono ?_
      rintro r w2 ⟨p, o, rfl, g1, g2, g3, g4⟩
      have D := Lib.hid (DB.out p o w2 g1 g2)
      replace g2 := Lib.hid g2
      clear g1 g3 g4
      unfold ptr at *
      go_wp2_with fail
      refine D.out.mono ?_
      intro r w3 hE
      have hE := RowEnd.from (f1.out.trans g2.out (fun _ _ h => h)) hB.out hE
      obtain ⟨v2, rfl, hrow, hbel⟩ := hE
      replace hrow := Lib.hid hrow
      replace hbel := Lib.hid hbel
      go_wp2_with fail
      go_ret2
      exact ⟨v2, rfl, hrow.out, hbel.out⟩
  · have hm3 : x % 3 = 2 := tm.2.2.1 (Or.inr rfl)
    replace tm := Lib.hid tm
    replace hm3 := Lib.hid hm3
    by_cases hfit : -9223372036854775807 ≤ Y * 100 ∧ Y * 100 ≤ 9223372036854775807
    · have ML := Lib.hid (mul100_fit Y hY0.out hfit.1 hfit.2 w1)
      obtain ⟨Z, hZ⟩ : ∃ Z, Z = Y * 100 := ⟨_, rfl⟩
      rw [← hZ] at ML hfit
      replace hZ := Lib.hid hZ
      go_wp2_with fail
      refine ML.out.mono ?_
      rintro r w2 ⟨rfl, hw'⟩
      subst hw'
      go_wp2_with fail
      refine (AI.out Z (by omega) (by omega) w1 (Below.refl _ _) hown1.out hsz1.out).mono ?_
      rintro r w3 ⟨v2, rfl, hrow, hbel, _⟩
      replace hrow := Lib.hid hrow
      replace hbel := Lib.hid hbel
      go_wp2_with fail
      go_ret2
      rw [hcan.out, hm3.out]
      have e0 : Y * ((10 ^ (2 : Int).toNat : Nat) : Int) = Z := hZ.out.symm
      rw [e0]
      exact ⟨v2, rfl, hrow.out, hB1.out.trans hbel.out⟩
    · have ML := Lib.hid (mul100_over Y (by omega) (by omega) (by omega) w1)
      replace hfit := Lib.hid hfit
      go_wp2_with fail
      refine ML.out.mono ?_
      rintro r w2 ⟨⟨cc, rfl⟩, hw'⟩
      subst hw'
      go_wp2_with fail
      refine AD.out.mono ?_
      rintro r w2 ⟨p, o, rfl, g1, g2, g3, g4⟩
      have D := Lib.hid (DB.out p o w2 g1 g2)
      replace g2 := Lib.hid g2
      clear g1 g3 g4
      unfold ptr at *
      go_wp2_with fail
      refine D.out.mono ?_
      intro r w3 hE
      have hE := RowEnd.from (f1.out.trans g2.out (fun _ _ h => h)) hB.out hE
      obtain ⟨v2, rfl, hrow, hbel⟩ := hE
      replace hrow := Lib.hid hrow
      replace hbel := Lib.hid hbel
      go_wp2_with fail
      go_ret2
      exact ⟨v2, rfl, hrow.out, hbel.out⟩
end Go.Proofs.YtcpjclakdpjjfaaGreatDoor

namespace Go.Proofs.YtcpjclakdpjjfaaGreatDoor
open Go.RowKit

set_option maxRecDepth 100000 in
set_option maxHeartbeats 2000000 in
theorem canBytes_nb (b : Nat) (q : MQ) (o : Option Nat) (w : World) (hq : QR w q o none) (he : -9 ≤ q.e) (h : w.heap[b]? = some (.cells (qrep q none) 39 (0, 0))) (hu : q.u ≠ 0) (hg : Gk w) (hsz : 17 ≤ w.heap.size)
    (B n : Nat) (v : Value) (xs : List Value) (hown : w.ownsRow B 5 1 v n xs) (hB : B ≤ w.heap.size) (hn : n ≤ 1000) (htab : Lib.TabBelow Tryz.prog B w "internal/strconv.uint64pow10" .u64 Lib.pow10Tab) :
    Calls Tryz.prog 71 #[ptr b, v] w (RowEnd w B n xs (Lib.itoa (canD q.u q.e).1) (canD q.u q.e).2) := by
  have c0 : w.cell? ⟨b, 0, none⟩ = some (.int .i64 q.u) := cell_of_row w b 0 _ _ _ h
  have c1 : w.cell? ⟨b, 1, none⟩ = some (.int .i32 q.e) := cell_of_row w b 1 _ _ _ h
  have c2 : w.cell? ⟨b, 2, none⟩ = some (.pointer none) := cell_of_row w b 2 _ _ _ h
  obtain ⟨_, q1, q2, q3, q4⟩ := hq
  have A := Lib.hid (amtBytes_any q.u q.e w hu q3 q4 he q2 hg hsz B n v xs hown hB hn htab)
  clear h hu hg hsz hown hB hn htab q1 q2 q3 q4 he
  unfold ptr at *
  go_enter Tryz.func71, Tryz.ntmps71
  go_wp2_with fail
  refine A.out.mono ?_
  rintro r w1 ⟨v2, rfl, h1, h2⟩
  replace h1 := Lib.hid h1
  replace h2 := Lib.hid h2
  go_wp2_with fail
  go_ret2
  exact ⟨v2, rfl, h1.out, h2.out⟩

set_option maxRecDepth 100000 in
set_option maxHeartbeats 2000000 in
theorem canBytes_big (b p : Nat) (q : MQ) (o : Option Nat) (w : World) (hq : QR w q o (some p)) (h : w.heap[b]? = some (.cells (qrep q (some p)) 39 (0, 0))) (hu : q.u ≠ 0) (hb : q.u.natAbs < TOP) (e1 : -150 ≤ q.e) (e2 : q.e ≤ 150) (hg : Gk w) (hsz : 17 ≤ w.heap.size)
    (B n : Nat) (v : Value) (xs : List Value) (hown : w.ownsRow B 5 1 v n xs) (hB : B ≤ w.heap.size) (hn : n ≤ 1000) :
    Calls Tryz.prog 71 #[ptr b, v] w (RowEnd w B n xs (Lib.itoa (canD q.u q.e).1) (canD q.u q.e).2) := by
  have c2 : w.cell? ⟨b, 2, none⟩ = some (ptr p) := cell_of_row w b 2 _ _ _ h
  have A := Lib.hid (decBytes_any p q.u q.e o w hq.2 hu hb e1 e2 hg hsz B n v xs hown hB hn)
  clear h hu hg hsz hown hB hn hb e1 e2 hq
  unfold ptr at *
  go_enter Tryz.func71, Tryz.ntmps71
  go_wp2_with fail
  refine A.out.mono ?_
  rintro r w1 ⟨v2, rfl, h1, h2⟩
  replace h1 := Lib.hid h1
  replace h2 := Lib.hid h2
  go_wp2_with fail
  go_ret2
  exact ⟨v2, rfl, h1.out, h2.out⟩

theorem canBytes_any (b : Nat) (q : MQ) (d o : Option Nat) (w : World) (hq : QR w q o d) (he : q.big = false → -9 ≤ q.e) (h : w.heap[b]? = some (.cells (qrep q d) 39 (0, 0))) (hu : q.u ≠ 0) (hb : q.u.natAbs < TOP) (e1 : -150 ≤ q.e) (e2 : q.e ≤ 150) (hg : Gk w) (hsz : 17 ≤ w.heap.size)
    (B n : Nat) (v : Value) (xs : List Value) (hown : w.ownsRow B 5 1 v n xs) (hB : B ≤ w.heap.size) (hn : n ≤ 1000) (htab : Lib.TabBelow Tryz.prog B w "internal/strconv.uint64pow10" .u64 Lib.pow10Tab) :
    Calls Tryz.prog 71 #[ptr b, v] w (RowEnd w B n xs (Lib.itoa (canD q.u q.e).1) (canD q.u q.e).2) := by
  cases d with
  | none => exact canBytes_nb b q o w hq (he hq.1) h hu hg hsz B n v xs hown hB hn htab
  | some p => exact canBytes_big b p q o w hq h hu hb e1 e2 hg hsz B n v xs hown hB hn
end Go.Proofs.YtcpjclakdpjjfaaGreatDoor


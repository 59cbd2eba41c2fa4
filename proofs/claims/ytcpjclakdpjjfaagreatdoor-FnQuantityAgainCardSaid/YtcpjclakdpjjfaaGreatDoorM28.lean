/-
  A part of the proof of FnQuantityAgain (texts R1, R2, R3 of mine, joined).
-/
import Derived.Test.YtcpjclakdpjjfaaGreatDoorM26
import Derived.Test.YtcpjclakdpjjfaaGreatDoorM13
import Derived.Test.YtcpjclakdpjjfaaGreatDoorM22
import Derived.Laws.RangeAny
import Derived.Lib.OthersKept
namespace Go.Proofs.YtcpjclakdpjjfaaGreatDoor
open Go.RowKit

set_option maxHeartbeats 1000000 in
theorem mult_ok (a b : Nat) (h : a * b < 2 ^ 63) (ha : a < 2 ^ 63) (hb : 1 ≤ b) (hb2 : b < 2 ^ 63) (w : World) :
    Calls Tryz.prog 20 #[.int .i64 (a : Int), .int .i64 (b : Int)] w fun e w' => e = .returned (.tuple #[.int .i64 ((a * b : Nat) : Int), .bool true]) ∧ Dr w w' := by
  have F : IntKind.i64.wrap ((a : Int) * (b : Int)) = ((a * b : Nat) : Int) := by rw [IntKind.wrap_i64]; rw [← Int.natCast_mul]; omega
  have F' : wrap64 ((a : Int) * (b : Int)) = ((a * b : Nat) : Int) := by unfold wrap64; rw [← Int.natCast_mul]; omega
  have D : Int.tdiv ((a * b : Nat) : Int) (b : Int) = (a : Int) := by
    rw [Int.tdiv_eq_ediv_of_nonneg (by omega), ← Int.natCast_ediv, Nat.mul_div_cancel _ (by omega)]
  have b0 : ((b : Int) == 0) = false := beq_eq_false_iff_ne.mpr (by omega)
  have b0' : ((b : Int) = 0) = False := eq_false (by omega)
  have am : ((a : Int) == -9223372036854775808) = false := beq_eq_false_iff_ne.mpr (by omega)
  have bm : ((b : Int) == -9223372036854775808) = false := beq_eq_false_iff_ne.mpr (by omega)
  by_cases h0 : a = 0
  · subst h0
    have h2 : (0 : Nat) * b = 0 := Nat.zero_mul b
    rw [h2]
    clear F F' D h
    go_enter Tryz.func20, Tryz.ntmps20
    go_wp2_with fail
    go_ret2
    exact ⟨rfl, 0, rfl⟩
  · by_cases h1 : a = 1
    · subst h1
      rw [Nat.one_mul]
      clear F F' D h
      have F : IntKind.i64.wrap ((b : Int)) = (b : Int) := by rw [IntKind.wrap_i64]; omega
      go_enter Tryz.func20, Tryz.ntmps20
      go_wp2_with fail
      go_ret2
      exact ⟨rfl, 0, rfl⟩
    · by_cases hb1 : b = 1
      · subst hb1
        rw [Nat.mul_one]
        clear F F' D h
        have a0 : ((a : Int) == 0) = false := beq_eq_false_iff_ne.mpr (by omega)
        have a1 : ((a : Int) == 1) = false := beq_eq_false_iff_ne.mpr (by omega)
        have F : IntKind.i64.wrap ((a : Int)) = (a : Int) := by rw [IntKind.wrap_i64]; omega
        go_enter Tryz.func20, Tryz.ntmps20
        go_wp2_with fail
        go_ret2
        exact ⟨rfl, 0, rfl⟩
      · have a0 : ((a : Int) == 0) = false := beq_eq_false_iff_ne.mpr (by omega)
        have a1 : ((a : Int) == 1) = false := beq_eq_false_iff_ne.mpr (by omega)
        have b1 : ((b : Int) == 1) = false := beq_eq_false_iff_ne.mpr (by omega)
        obtain ⟨P, hP⟩ : ∃ P, P = a * b := ⟨_, rfl⟩
        rw [← hP] at F F' D h ⊢
        replace hP := Lib.hid hP
        have bz : ¬ ((b : Int) = 0) := by omega
        go_enter Tryz.func20, Tryz.ntmps20
        go_wp2_with fail
        go_quiet (fail)
        go_wp2_with fail
        go_ret2
        exact ⟨rfl, _, rfl⟩
theorem infScale_any (s : Int) (h1 : -1000 ≤ s) (h2 : s ≤ 1000) (w : World) : Calls Tryz.prog 25 #[.int .i32 s] w fun e w' => e = .returned (.int .i32 (-s)) ∧ w = w' := by
  have F : wrap32 (-s) = -s := by unfold wrap32; omega
  have F' : IntKind.i32.wrap (-s) = -s := by rw [IntKind.wrap_i32]; omega
  go_enter Tryz.func25, Tryz.ntmps25
  go_wp2_with fail
  go_ret
  exact ⟨rfl, rfl⟩
/-- A new infDecAmount. -/
def AmtNew (w : World) (z e : Int) (r : Ending) (w' : World) : Prop :=
  ∃ p ob, r = .returned (.agg #[ptr p]) ∧ DecAt w' p z e ob ∧ Fr (fun _ => False) w w' ∧ w.heap.size ≤ p ∧ (∀ b, ob = some b → w.heap.size ≤ b)

theorem maxAllowed_any (w : World) : Calls Tryz.prog 37 #[] w (AmtNew w 9223372036854775807 0) := by
  have N := Lib.hid (newDec_any 9223372036854775807 0 (by omega) (by omega))
  go_enter Tryz.func37, Tryz.ntmps37
  go_wp2_with fail
  refine (N.out _).mono ?_
  rintro r w1 ⟨p, ob, rfl, g1, g2, g3, g4⟩
  have hs : (w.alloc (.cells #[.pointer none] 36)).heap.size = w.heap.size + 1 := by simp
  have hat : w1.heap[w.heap.size]? = some (.cells #[.pointer none] 36 (0, 0)) := (g2.block _ (by omega) (fun f => f)).trans (heap_alloc_new _ _)
  have cc : w1.cell? ⟨w.heap.size, 0, none⟩ = some (.pointer none) := by unfold World.cell?; rw [hat]; rfl
  have ff : w1.frozen? ⟨w.heap.size, 0, none⟩ = false := by simp [World.frozen?, hat]
  have hat2 : (w1.setCell ⟨w.heap.size, 0, none⟩ (ptr p)).heap[w.heap.size]? = some (.cells #[ptr p] 36 (0, 0)) := heap_setCell_same w1 w.heap.size 0 #[.pointer none] 36 (ptr p) hat
  have f2 : Fr (fun k => k = w.heap.size) w1 (w1.setCell ⟨w.heap.size, 0, none⟩ (ptr p)) := Fr.setCell (S := fun k => k = w.heap.size) _ _ _ (fun _ => rfl)
  have g1' := g1.frame f2 (by omega) (fun b hb e => by have := g4 b hb; omega)
  have FIN : AmtNew w 9223372036854775807 0 (.returned (.agg #[ptr p])) (w1.setCell ⟨w.heap.size, 0, none⟩ (ptr p)) :=
    ⟨p, ob, rfl, g1', ((Fr.alloc (fun _ => False) w _).trans g2 (fun _ _ h => h)).trans f2 (fun i hi e => by omega), by omega, fun b hb => by have := g4 b hb; omega⟩
  replace FIN := Lib.hid FIN
  replace hat := Lib.hid hat
  replace hat2 := Lib.hid hat2
  replace g1 := Lib.hid g1
  replace g2 := Lib.hid g2
  replace g3 := Lib.hid g3
  replace g4 := Lib.hid g4
  replace f2 := Lib.hid f2
  replace g1' := Lib.hid g1'
  clear hs
  unfold ptr at *
  go_wp2_with fail
  refine bodyPost_ret (results_cell_row rfl _ _ _ _ _ _ _ rfl hat2.out Tryz.underlying36 rfl (by kernel_rfl)) rfl ?_
  exact FIN.out
end Go.Proofs.YtcpjclakdpjjfaaGreatDoor

namespace Go.Proofs.YtcpjclakdpjjfaaGreatDoor
open Go.RowKit

theorem dec_one : ∀ c : Fin 256, Utf8.decode ⟨#[UInt8.ofNat c.val]⟩ 0 = (if c.val < 128 then c.val else 65533, 1) := by decide +kernel
theorem dec_byte (c : UInt8) : Utf8.decode (tx [c]) 0 = (if c.toNat < 128 then c.toNat else 65533, 1) := by
  have := dec_one ⟨c.toNat, c.toNat_lt⟩
  simpa [tx] using this

def SUFB : List UInt8 := [101, 69, 105, 110, 117, 109, 107, 75, 77, 71, 84, 80]

set_option maxRecDepth 100000 in
set_option maxHeartbeats 2000000 in
theorem indexAny_byte (c : UInt8) (w : World) : Calls Tryz.prog 74 #[.string (tx [c]), .string { data := #[101, 69, 105, 110, 117, 109, 107, 75, 77, 71, 84, 80] }] w fun e w' => e = .returned (.int .i64 (if isSuf c then 0 else -1)) ∧ Fr (fun _ => False) w w' := by
  obtain ⟨S, hS⟩ : ∃ S : ByteArray, S = { data := #[101, 69, 105, 110, 117, 109, 107, 75, 77, 71, 84, 80] } := ⟨_, rfl⟩
  rw [← hS]
  have hSs : S.size = 12 := by rw [hS]; rfl
  obtain ⟨T, hT⟩ : ∃ T, T = tx [c] := ⟨_, rfl⟩
  have hTs : T.size = 1 := by rw [hT]; rfl
  have hdec := dec_byte c
  rw [← hT] at hdec ⊢
  obtain ⟨r, hr⟩ : ∃ r : Nat, r = (if c.toNat < 128 then c.toNat else 65533) := ⟨_, rfl⟩
  rw [← hr] at hdec
  have hSd : ∀ i, (h : i < S.size) → (S[i]'h) = SUFB.getD i 0 := by
    subst hS
    intro i h
    have : ∀ i : Fin 12, (({ data := #[101, 69, 105, 110, 117, 109, 107, 75, 77, 71, 84, 80] } : ByteArray)[i.val]'i.isLt) = SUFB.getD i.val 0 := by decide
    exact this ⟨i, h⟩
  have hasc : ∀ i : Fin 12, (SUFB.getD i.val 0).toNat < 128 := by decide
  have hall : isSuf c = true ↔ ∃ i, i < 12 ∧ (SUFB.getD i 0).toNat = r := by
    have hk : ∀ x : Fin 256, isSuf (UInt8.ofNat x.val) = true ↔ ∃ i : Fin 12, (SUFB.getD i.val 0).toNat = (if x.val < 128 then x.val else 65533) := by decide +kernel
    have := hk ⟨c.toNat, c.toNat_lt⟩
    simp only [UInt8.ofNat_toNat] at this
    rw [this, ← hr]
    exact ⟨fun ⟨i, h⟩ => ⟨i.val, i.isLt, h⟩, fun ⟨i, hi, h⟩ => ⟨⟨i, hi⟩, h⟩⟩
  have R1 := run_range_string (P := Tryz.prog) w 9 T Tryz.underlying9
  have N1 : ∀ ty, (Instr.next (.pointer (some ⟨w.heap.size, 0, none⟩)) true ty).run Tryz.prog (w.iter T 0) = .ok (.tuple #[.bool true, .int .i64 0, .int .i32 (r : Int)]) (w.iter T 1) := by
    intro ty
    have := run_next_any (P := Tryz.prog) w T 0 ty (by omega)
    rw [hdec] at this
    exact this
  obtain ⟨G, hG⟩ : ∃ G : Int, G = (if isSuf c then 0 else -1) := ⟨_, rfl⟩
  rw [← hG]
  replace hG := Lib.hid hG
  clear hS hT
  go_enter Tryz.func74, Tryz.ntmps74
  go_wp2_with fail
  have hiS : ∀ i, ((w.iter T 1).iter S i).heap[w.heap.size]? = some (.stringIter T 1) := by
    intro i
    have h1 : w.heap.size < (w.iter T 1).heap.size := by show _ < (w.alloc _).heap.size; simp
    exact (Below.heap_alloc (w.iter T 1) (.stringIter S i) w.heap.size h1).trans (World.iter_heap w T 1)
  have hsz : (w.iter T 1).heap.size = w.heap.size + 1 := by show (w.alloc _).heap.size = _; simp
  have hfr : ∀ i, Fr (fun _ => False) w ((w.iter T 1).iter S i) := fun i => (Fr.alloc (fun _ => False) w (.stringIter T 1)).trans (Fr.alloc (fun _ => False) _ _) (fun _ _ h => h)
  replace hfr := Lib.hid hfr
  replace hr := Lib.hid hr
  replace hall := Lib.hid hall
  replace hasc := Lib.hid hasc
  replace hSd := Lib.hid hSd
  replace hiS := Lib.hid hiS
  replace hdec := Lib.hid hdec
  go_loopw [5] (fun _ wr => wr = w.iter T 0 ∨ (wr = (w.iter T 1).iter S 12 ∧ Hid (∀ i, i < 12 → (SUFB.getD i 0).toNat ≠ r))) (fun _ wr => 1 - wr.iterPos w.heap.size)
  case atStart => exact Or.inl rfl
  case round =>
    rcases hrel with rfl | ⟨rfl, hno⟩
    · have R2 := run_range_string (P := Tryz.prog) (w.iter T 1) 9 S Tryz.underlying9
      rw [hsz] at R2
      go_wp2_with fail
      clear N1 R1
      go_loopw [8] (fun _ wr => ∃ i, i ≤ 12 ∧ wr = (w.iter T 1).iter S i ∧ Hid (∀ j, j < i → (SUFB.getD j 0).toNat ≠ r)) (fun _ wr => 12 - wr.iterPos (w.heap.size + 1))
      case atStart => exact ⟨0, by omega, rfl, fun j hj => absurd hj (Nat.not_lt_zero _)⟩
      case round =>
        obtain ⟨i, hi, rfl, hno⟩ := hrel
        have hpos : ((w.iter T 1).iter S i).iterPos (w.heap.size + 1) = i := by rw [← hsz]; exact World.iterPos_iter _ _ _
        rw [hpos]
        by_cases hlt : i < 12
        · have hb : i < S.size := by omega
          have ha := hasc.out ⟨i, hlt⟩
          have N3 : ∀ ty, (Instr.next (.pointer (some ⟨w.heap.size + 1, 0, none⟩)) true ty).run Tryz.prog ((w.iter T 1).iter S i) = .ok (.tuple #[.bool true, .int .i64 (i : Int), .int .i32 (((SUFB.getD i 0).toNat : Nat) : Int)]) ((w.iter T 1).iter S (i + 1)) := by
            intro ty
            have := run_next_ascii (P := Tryz.prog) (w.iter T 1) S i ty hb (by rw [hSd.out i hb]; exact ha)
            rw [hsz, hSd.out i hb] at this
            exact this
          obtain ⟨x, hx⟩ : ∃ x, x = (SUFB.getD i 0).toNat := ⟨_, rfl⟩
          rw [← hx] at N3
          have hpos2 : ((w.iter T 1).iter S (i + 1)).iterPos (w.heap.size + 1) = i + 1 := by rw [← hsz]; exact World.iterPos_iter _ _ _
          clear ha R2
          by_cases he : r = x
          · have hc : G = 0 := by rw [hG.out, if_pos (hall.out.mpr ⟨i, hlt, by rw [← hx]; exact he.symm⟩)]
            subst hc
            subst he
            replace hx := Lib.hid hx
            replace hpos2 := Lib.hid hpos2
            go_wp2_with fail
            go_ret
            exact ⟨rfl, hfr.out _⟩
          · have e1 : ((r : Int) == (x : Int)) = false := beq_eq_false_iff_ne.mpr (by omega)
            replace hx := Lib.hid hx
            replace he := Lib.hid he
            replace hpos2 := Lib.hid hpos2
            go_wp2_with fail
            refine ⟨⟨i + 1, by omega, rfl, ?_⟩, by rw [hpos2.out]; omega⟩
            intro j hj
            by_cases hji : j = i
            · rw [hji, ← hx.out]; exact fun e => he.out e.symm
            · exact hno.out j (by omega)
        · obtain rfl : i = 12 := by omega
          have N3 : ∀ ty, (Instr.next (.pointer (some ⟨w.heap.size + 1, 0, none⟩)) true ty).run Tryz.prog ((w.iter T 1).iter S 12) = .ok (.tuple #[.bool false]) ((w.iter T 1).iter S 12) := by
            intro ty
            have := run_next_end (P := Tryz.prog) (w.iter T 1) S 12 ty (by omega)
            rwa [hsz] at this
          have hpo : ((w.iter T 1).iter S 12).iterPos w.heap.size = 1 := by unfold World.iterPos; rw [hiS.out 12]
          have hpo1 : (w.iter T 0).iterPos w.heap.size = 0 := World.iterPos_iter _ _ _
          replace hpo := Lib.hid hpo
          replace hpo1 := Lib.hid hpo1
          clear R2
          go_wp2_with fail
          exact ⟨Or.inr ⟨trivial, hno⟩, by rw [hpo.out, hpo1.out]; omega⟩
    · have N2 : ∀ ty, (Instr.next (.pointer (some ⟨w.heap.size, 0, none⟩)) true ty).run Tryz.prog ((w.iter T 1).iter S 12) = .ok (.tuple #[.bool false]) ((w.iter T 1).iter S 12) := fun ty =>
        Lib.run_next_end_at _ w.heap.size T 1 ty (hiS.out 12) (by omega)
      have hc : G = -1 := by
        rw [hG.out, if_neg]
        intro h
        obtain ⟨i, hi, he⟩ := hall.out.mp h
        exact absurd he (hno.out i hi)
      subst hc
      clear N1 R1
      go_wp2_with fail
      go_ret
      exact ⟨rfl, hfr.out _⟩

theorem containsAny_byte (c : UInt8) (w : World) : Calls Tryz.prog 44 #[.string (tx [c]), .string { data := #[101, 69, 105, 110, 117, 109, 107, 75, 77, 71, 84, 80] }] w fun e w' => e = .returned (.bool (isSuf c)) ∧ Fr (fun _ => False) w w' := by
  have I := Lib.hid (indexAny_byte c w)
  obtain ⟨T, hT⟩ : ∃ T, T = tx [c] := ⟨_, rfl⟩
  rw [← hT] at I ⊢
  clear hT
  obtain ⟨b, hb⟩ : ∃ b, b = isSuf c := ⟨_, rfl⟩
  rw [← hb] at I ⊢
  clear hb
  cases b
  all_goals
    simp only [if_true, Bool.false_eq_true, if_false] at I
    go_enter Tryz.func44, Tryz.ntmps44
    go_wp2_with fail
    refine I.out.mono ?_
    rintro e w1 ⟨rfl, f⟩
    replace f := Lib.hid f
    go_wp2_with fail
    go_ret
    exact ⟨rfl, f.out⟩
end Go.Proofs.YtcpjclakdpjjfaaGreatDoor

namespace Go.Proofs.YtcpjclakdpjjfaaGreatDoor
open Go.RowKit

/-- Where a run of p that begins at a ends. -/
def runEnd (p : UInt8 → Bool) (l : List UInt8) (a : Nat) : Nat := a + ((l.drop a).takeWhile p).length

theorem tw_take (p : UInt8 → Bool) (l : List UInt8) : l.takeWhile p = l.take (l.takeWhile p).length := by
  induction l with
  | nil => rfl
  | cons c t ih =>
    by_cases h : p c
    · rw [List.takeWhile_cons, if_pos h, List.length_cons, List.take_succ_cons, ← ih]
    · rw [List.takeWhile_cons, if_neg h]; rfl
theorem dw_drop (p : UInt8 → Bool) (l : List UInt8) : l.dropWhile p = l.drop (l.takeWhile p).length := by
  induction l with
  | nil => rfl
  | cons c t ih =>
    by_cases h : p c
    · rw [List.dropWhile_cons, if_pos h, List.takeWhile_cons, if_pos h, List.length_cons, List.drop_succ_cons, ← ih]
    · rw [List.dropWhile_cons, if_neg h, List.takeWhile_cons, if_neg h]; rfl
theorem runEnd_take (p : UInt8 → Bool) (l : List UInt8) (a : Nat) : (l.drop a).takeWhile p = (l.drop a).take (runEnd p l a - a) := by
  rw [tw_take]; unfold runEnd; rw [Nat.add_sub_cancel_left]
theorem runEnd_drop (p : UInt8 → Bool) (l : List UInt8) (a : Nat) : (l.drop a).dropWhile p = l.drop (runEnd p l a) := by
  rw [dw_drop, List.drop_drop]; rfl
theorem runEnd_ge (p : UInt8 → Bool) (l : List UInt8) (a : Nat) : a ≤ runEnd p l a := Nat.le_add_right _ _
theorem runEnd_le (p : UInt8 → Bool) (l : List UInt8) (a : Nat) (h : a ≤ l.length) : runEnd p l a ≤ l.length := by
  unfold runEnd
  have := (List.takeWhile_prefix (p := p) (l := l.drop a)).length_le
  rw [List.length_drop] at this; omega
theorem runEnd_in {p : UInt8 → Bool} {l : List UInt8} {a j : Nat} {c : UInt8} (h1 : a ≤ j) (h2 : j < runEnd p l a) (hc : l[j]? = some c) : p c = true := by
  have h3 : (l.drop a)[j - a]? = some c := by rw [List.getElem?_drop, show a + (j - a) = j by omega]; exact hc
  have h4 : ((l.drop a).takeWhile p)[j - a]? = some c := by
    rw [tw_take, List.getElem?_take, if_pos (by unfold runEnd at h2; omega)]; exact h3
  have h5 := List.mem_of_getElem? h4
  exact (List.all_eq_true.mp (List.all_takeWhile (p := p) (l := l.drop a))) c h5
theorem runEnd_out {p : UInt8 → Bool} {l : List UInt8} {a : Nat} {c : UInt8} (hc : l[runEnd p l a]? = some c) : p c = false := by
  have h1 : (l.drop (runEnd p l a)).head? = some c := by rw [List.head?_drop]; exact hc
  rw [← runEnd_drop] at h1
  cases h : p c with
  | false => rfl
  | true =>
    have := List.head?_dropWhile_not p (l.drop a)
    rw [h1] at this
    simp [h] at this

theorem extract_tx (s : ByteArray) (a b : Nat) : s.extract a b = tx ((s.data.toList.drop a).take (b - a)) := by
  have h : (s.extract a b).data.toList = (s.data.toList.drop a).take (b - a) := by
    rw [ByteArray.data_extract, Array.toList_extract, List.extract_eq_take_drop]
  rw [← h, tx_of]

def sgnAt (l : List UInt8) (a : Nat) : Nat := if l[a]? = some 45 ∨ l[a]? = some 43 then a + 1 else a
theorem unsign_at (l : List UInt8) (a : Nat) : unsign (l.drop a) = l.drop (sgnAt l a) := by
  unfold unsign sgnAt
  rw [List.head?_drop]
  split
  · rw [List.tail_drop]
  · rfl
theorem sgnAt_le (l : List UInt8) (a : Nat) (h : a ≤ l.length) : sgnAt l a ≤ l.length := by
  unfold sgnAt
  split
  · rename_i h1
    have : a < l.length := by
      rcases h1 with h1 | h1
      · exact (List.getElem?_eq_some_iff.mp h1).1
      · exact (List.getElem?_eq_some_iff.mp h1).1
    omega
  · exact h

/-- Where the digits behind the point end (or where those ahead of it do). -/
def pntEnd (l : List UInt8) (d : Nat) : Nat := if l[d]? = some 46 then runEnd isDg l (d + 1) else d
def denOf (l : List UInt8) (d : Nat) : List UInt8 := if l[d]? = some 46 then (l.drop (d + 1)).take (runEnd isDg l (d + 1) - (d + 1)) else []
def sufEnd (l : List UInt8) (p : Nat) : Nat := runEnd isDg l (sgnAt l (runEnd isSuf l p))
def num0 (l : List UInt8) (z : Nat) : List UInt8 := (l.drop z).take (runEnd isDg l z - z)

theorem pntEnd_le (l : List UInt8) (d : Nat) (h : d ≤ l.length) : pntEnd l d ≤ l.length := by
  unfold pntEnd
  split
  · rename_i h1
    have : d < l.length := (List.getElem?_eq_some_iff.mp h1).1
    exact runEnd_le _ _ _ (by omega)
  · exact h

theorem split_run (l : List UInt8) : splitQ l =
    if runEnd zeroP l (sgnAt l 0) = l.length then some ⟨decide (l.head? ≠ some 45), [48], [48], [], []⟩
    else if sufEnd l (pntEnd l (runEnd isDg l (runEnd zeroP l (sgnAt l 0)))) = l.length then
      some ⟨decide (l.head? ≠ some 45), l.take (pntEnd l (runEnd isDg l (runEnd zeroP l (sgnAt l 0)))), if num0 l (runEnd zeroP l (sgnAt l 0)) = [] then [48] else num0 l (runEnd zeroP l (sgnAt l 0)), denOf l (runEnd isDg l (runEnd zeroP l (sgnAt l 0))), l.drop (pntEnd l (runEnd isDg l (runEnd zeroP l (sgnAt l 0))))⟩
    else none := by
  have hu : unsign l = l.drop (sgnAt l 0) := by have := unsign_at l 0; rwa [List.drop_zero] at this
  have ho := sgnAt_le l 0 (Nat.zero_le _)
  unfold splitQ
  simp only []
  rw [hu, runEnd_drop]
  have hz := runEnd_le zeroP l _ ho
  generalize runEnd zeroP l (sgnAt l 0) = z at hz ⊢
  have hd := runEnd_le isDg l z hz
  have hzd := runEnd_ge isDg l z
  rw [runEnd_take, runEnd_drop]
  unfold num0
  generalize runEnd isDg l z = d at hd hzd ⊢
  by_cases hzl : z = l.length
  · rw [if_pos hzl, if_pos (by rw [hzl]; exact List.drop_length)]
  · rw [if_neg hzl, if_neg (by intro e; have := congrArg List.length e; rw [List.length_drop] at this; simp at this; omega)]
    have hf : fracQ (l.drop d) = (denOf l d, l.drop (pntEnd l d)) := by
      unfold fracQ denOf pntEnd
      rw [List.head?_drop]
      split
      · rw [List.tail_drop, runEnd_take, runEnd_drop]
      · rfl
    rw [hf]
    have hp := pntEnd_le l d hd
    generalize pntEnd l d = p at hp ⊢
    have hs : sufOk (l.drop p) = decide (sufEnd l p = l.length) := by
      unfold sufOk sufEnd
      have h1 := runEnd_le isSuf l p hp
      rw [runEnd_drop, unsign_at, runEnd_drop]
      have h2 := sgnAt_le l _ h1
      have h3 := runEnd_le isDg l _ h2
      generalize runEnd isDg l (sgnAt l (runEnd isSuf l p)) = t at h3 ⊢
      by_cases h : t = l.length
      · rw [h, List.drop_length]; simp
      · rw [show decide (t = l.length) = false from decide_eq_false h]
        cases hh : l.drop t with
        | nil => have := congrArg List.length hh; rw [List.length_drop] at this; simp at this; omega
        | cons a b => rfl
    simp only []
    rw [hs, List.length_drop, show l.length - (l.length - p) = p by omega]
    by_cases h : sufEnd l p = l.length
    · rw [if_pos (decide_eq_true h), if_pos h]
    · rw [if_neg (by simpa using h), if_neg h]

theorem runEnd_len (p : UInt8 → Bool) (l : List UInt8) : runEnd p l l.length = l.length := by unfold runEnd; rw [List.drop_length]; rfl
theorem sgnAt_len (l : List UInt8) : sgnAt l l.length = l.length := by
  unfold sgnAt
  rw [if_neg]
  rw [List.getElem?_eq_none (Nat.le_refl _)]; simp
theorem sufEnd_len (l : List UInt8) : sufEnd l l.length = l.length := by unfold sufEnd; rw [runEnd_len, sgnAt_len, runEnd_len]
theorem split_some {l : List UInt8} {z d p : Nat} (hz : z = runEnd zeroP l (sgnAt l 0)) (hzn : z ≠ l.length) (hd : d = runEnd isDg l z) (hp : p = pntEnd l d) (hs : sufEnd l p = l.length) :
    splitQ l = some ⟨decide (l.head? ≠ some 45), l.take p, if num0 l z = [] then [48] else num0 l z, denOf l d, l.drop p⟩ := by
  rw [split_run]
  subst hp
  subst hd
  subst hz
  rw [if_neg hzn, if_pos hs]
theorem split_none {l : List UInt8} {z d p : Nat} (hz : z = runEnd zeroP l (sgnAt l 0)) (hzn : z ≠ l.length) (hd : d = runEnd isDg l z) (hp : p = pntEnd l d) (hs : sufEnd l p ≠ l.length) : splitQ l = none := by
  rw [split_run]
  subst hp
  subst hd
  subst hz
  rw [if_neg hzn, if_neg hs]
theorem extract_full (s : ByteArray) (n : Nat) (h : n = s.size) : s.extract 0 n = tx s.data.toList := by
  rw [extract_tx, List.drop_zero, Nat.sub_zero, h, List.take_of_length_le (by simp)]
theorem extract_size (s : ByteArray) (a b : Nat) (h : b ≤ s.size) : (s.extract a b).size = b - a := by rw [ByteArray.size_extract]; omega
end Go.Proofs.YtcpjclakdpjjfaaGreatDoor


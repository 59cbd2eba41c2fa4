/-
  A part of the proof of FnQuantityAgain (texts J2, Rd, Sc of mine, joined).
-/
import Derived.Test.YtcpjclakdpjjfaaGreatDoorM21
import Derived.Test.YtcpjclakdpjjfaaGreatDoorM18
import Derived.Test.YtcpjclakdpjjfaaGreatDoorM17
import Derived.Deep.RegionWith
import Derived.Test.YtcpjclakdpjjfaaGreatDoorM20
namespace Go.Proofs.YtcpjclakdpjjfaaGreatDoor
open Go.RowKit

/-- A text by its bytes. -/
def tx (l : List UInt8) : ByteArray := ⟨l.toArray⟩
theorem tx_list (l : List UInt8) : (tx l).data.toList = l := by simp [tx]
theorem tx_of (s : ByteArray) : tx s.data.toList = s := by simp [tx]
theorem strOf_tx (m : List Nat) : strOf m = tx (m.map UInt8.ofNat) := rfl

theorem itoa_sgn {g : Bool} {n : Nat} (h : n ≠ 0) : (if g then 45 :: Lib.decDigits n else Lib.decDigits n) = Lib.itoa (sgn g n) := by
  cases g with
  | false => show Lib.decDigits n = Lib.itoa (n : Int); rw [Lib.itoa, if_neg (by omega)]; simp
  | true => show 45 :: Lib.decDigits n = Lib.itoa (-(n : Int)); rw [Lib.itoa, if_pos (by omega)]; simp

set_option maxHeartbeats 2000000 in
set_option maxRecDepth 100000 in
theorem text_any (p : Nat) (g : Bool) (v : Value) (ob : Option Nat) (n : Nat) (w : World) (h : IntC w p g v ob n) (hn0 : n ≠ 0) (hn : n < W64 ^ 8) (hg : Gk w) :
    Calls Tryz.prog 157 #[.pointer (some ⟨p, 0, none⟩), .int .i64 10] w fun e w' => e = .returned (.string (tx (Lib.itoa (sgn g n)))) ∧ Fr (fun _ => False) w w' := by
  have fd : ∀ k, Fr (fun _ => False) w (w.drewN k) := fun k => Fr.drewN _ w k
  rcases h.nat.split with ⟨e, _⟩ | ⟨bx, lx, len, _, Hx⟩
  · exact (hn0 e).elim
  have I : Hid (∀ k, Calls Tryz.prog 175 #[v, .bool g, .int .i64 10] (w.drewN k) fun e w' => ∃ v, e = .returned v ∧ Spells (w.drewN k) w' (Lib.itoa (sgn g n)) v ∧ Fr (fun _ => False) (w.drewN k) w') := fun k => by
    rw [← itoa_sgn hn0]
    exact itoa_main v bx n len lx g (w.drewN k) ⟨Hx.val, Hx.blk.drewN k, Hx.le, Hx.pos, Hx.cap, Hx.eq, Hx.top⟩ hn (hg.frame (fd k) (fun _ h => h.elim))
  have c0 := h.c0
  have c1 := h.c1
  obtain ⟨T, hT⟩ : ∃ T, T = Lib.itoa (sgn g n) := ⟨_, rfl⟩
  rw [← hT] at I ⊢
  clear h Hx hn hg fd hT hn0
  go_enter Tryz.func157, Tryz.ntmps157
  go_wp2_with fail
  refine wp_region_mid 0 9 (by kernel_rfl) (by kernel_rfl) (by kernel_rfl) ?_
  simp only [List.take_succ_cons, List.take_zero, List.drop_succ_cons, List.drop_zero]
  refine wpQuiet_nil ?_
  repeat (go_big_quiet_step (fail))
  refine wpQuiet_nil ?_
  go_wp2_with fail
  refine (I.out _).mono ?_
  rintro e w1 ⟨v1, rfl, ⟨b, off, l1, cap, l, rfl, hB, hl, hsp, hnew⟩, hf⟩
  have R := run_string w1 b off l1 cap l hB hl
  rw [strOf_tx, hsp] at R
  have hf2 : Hid (Fr (fun _ => False) w w1) := (Fr.drewN _ w _).trans hf (fun _ _ h => h)
  replace hB := Lib.hid hB
  replace hsp := Lib.hid hsp
  replace hnew := Lib.hid hnew
  replace hf := Lib.hid hf
  clear I
  go_wp2_with fail
  refine NoPanic.normal ?_
  go_wp2_with fail
  go_ret
  exact ⟨rfl, hf2.out⟩

set_option maxHeartbeats 1000000 in
theorem string_any (p : Nat) (g : Bool) (v : Value) (ob : Option Nat) (n : Nat) (w : World) (h : IntC w p g v ob n) (hn0 : n ≠ 0) (hn : n < W64 ^ 8) (hg : Gk w) :
    Calls Tryz.prog 133 #[.pointer (some ⟨p, 0, none⟩)] w fun e w' => e = .returned (.string (tx (Lib.itoa (sgn g n)))) ∧ Fr (fun _ => False) w w' := by
  have T := Lib.hid (text_any p g v ob n w h hn0 hn hg)
  obtain ⟨t, ht⟩ : ∃ T, T = tx (Lib.itoa (sgn g n)) := ⟨_, rfl⟩
  rw [← ht] at T ⊢
  clear h hn0 hn hg ht
  go_enter Tryz.func133, Tryz.ntmps133
  go_wp2_with fail
  refine T.out.mono ?_
  rintro e w1 ⟨rfl, hf⟩
  replace hf := Lib.hid hf
  go_wp2_with fail
  go_ret
  exact ⟨rfl, hf.out⟩
end Go.Proofs.YtcpjclakdpjjfaaGreatDoor

namespace Go.Proofs.YtcpjclakdpjjfaaGreatDoor
open Go.RowKit

theorem info204 : (Tryz.prog.info? 204).map (·.comparable) = some true := by kernel_rfl
theorem info206 : (Tryz.prog.info? 206).map (·.size) = some 1 := by kernel_rfl

theorem ierr_eql_same (a : Addr) (w : World) : (binOp .eql 41 (.iface 204 (.pointer (some a))) (.iface 204 (.pointer (some a)))).run Tryz.prog w = .ok (.bool true) w := by
  obtain ⟨j, hj, _⟩ := info_of info206
  cases hi : Tryz.prog.info? 204 with
  | none => have := info204; rw [hi] at this; cases this
  | some i =>
    have hcc : i.comparable = true := by have := info204; rw [hi] at this; simpa using this
    have h : ∀ d : Nat, (Op.equalIn (d + 2) 41 (.iface 204 (.pointer (some a))) (.iface 204 (.pointer (some a)))).run Tryz.prog w = .ok true w := fun d => by
      simp [Op.equalIn, run_underlying Tryz.underlying41, run_underlying Tryz.underlying204, typeInfo, hi, hcc, sizeOf, hj, run_sameAddr_same]
    simp only [binOp]
    simp [Op.equal, Op.maxDepth, h 9998]
theorem ierr_neq_same (a : Addr) (w : World) : (binOp .neq 41 (.iface 204 (.pointer (some a))) (.iface 204 (.pointer (some a)))).run Tryz.prog w = .ok (.bool false) w := by
  obtain ⟨j, hj, _⟩ := info_of info206
  cases hi : Tryz.prog.info? 204 with
  | none => have := info204; rw [hi] at this; cases this
  | some i =>
    have hcc : i.comparable = true := by have := info204; rw [hi] at this; simpa using this
    have h : ∀ d : Nat, (Op.equalIn (d + 2) 41 (.iface 204 (.pointer (some a))) (.iface 204 (.pointer (some a)))).run Tryz.prog w = .ok true w := fun d => by
      simp [Op.equalIn, run_underlying Tryz.underlying41, run_underlying Tryz.underlying204, typeInfo, hi, hcc, sizeOf, hj, run_sameAddr_same]
    simp only [binOp]
    simp [Op.equal, Op.maxDepth, h 9998]
theorem ierr_eql_other {a b : Addr} (w : World) (hne : a ≠ b) (ha : Plain w a.block) (hb : Plain w b.block) : (binOp .eql 41 (.iface 204 (.pointer (some a))) (.iface 204 (.pointer (some b)))).run Tryz.prog w = .ok (.bool false) w := by
  obtain ⟨j, hj, hs⟩ := info_of info206
  obtain ⟨_, _, ha⟩ := ha
  obtain ⟨_, _, hb⟩ := hb
  cases hi : Tryz.prog.info? 204 with
  | none => have := info204; rw [hi] at this; cases this
  | some i =>
    have hcc : i.comparable = true := by have := info204; rw [hi] at this; simpa using this
    have h : ∀ d : Nat, (Op.equalIn (d + 2) 41 (.iface 204 (.pointer (some a))) (.iface 204 (.pointer (some b)))).run Tryz.prog w = .ok false w := fun d => by
      simp [Op.equalIn, run_underlying Tryz.underlying41, run_underlying Tryz.underlying204, typeInfo, hi, hcc, sizeOf, hj, hs, run_sameAddr_other w hne ha hb]
    simp only [binOp]
    simp [Op.equal, Op.maxDepth, h 9998]

/-- A strings.Reader at block p: its text, how far it has read. -/
structure RdAt (w : World) (p : Nat) (s : ByteArray) (i : Nat) (r : Int) : Prop where
  plain : Plain w p
  c0 : w.cell? ⟨p, 0, none⟩ = some (.string s)
  c1 : w.cell? ⟨p, 1, none⟩ = some (.int .i64 (i : Int))
  c2 : w.cell? ⟨p, 2, none⟩ = some (.int .i64 r)
  le : i ≤ s.size

theorem RdAt.frame {S : Nat → Prop} {w w' : World} {p : Nat} {s : ByteArray} {i : Nat} {r : Int} (h : RdAt w p s i r) (f : Fr S w w') (hp : ¬ S p) : RdAt w' p s i r :=
  ⟨h.plain.frame f hp, cell_frame h.c0 f hp, cell_frame h.c1 f hp, cell_frame h.c2 f hp, h.le⟩

/-- The stores of a reader: prevRune, then the place. -/
theorem RdAt.set2 {w : World} {p : Nat} {s : ByteArray} {i : Nat} {r : Int} (h : RdAt w p s i r) (r' : Int) : RdAt (w.setCell ⟨p, 2, none⟩ (.int .i64 r')) p s i r' := by
  refine ⟨h.plain.setCell _ _, ?_, ?_, World.cell?_setCell_same _ _ _ h.c2, h.le⟩
  · rw [World.cell?_setCell_other _ _ _ _ (by intro e; cases e)]; exact h.c0
  · rw [World.cell?_setCell_other _ _ _ _ (by intro e; cases e)]; exact h.c1
theorem RdAt.set1 {w : World} {p : Nat} {s : ByteArray} {i : Nat} {r : Int} (h : RdAt w p s i r) (i' : Nat) (hi : i' ≤ s.size) : RdAt (w.setCell ⟨p, 1, none⟩ (.int .i64 (i' : Int))) p s i' r := by
  refine ⟨h.plain.setCell _ _, ?_, World.cell?_setCell_same _ _ _ h.c1, ?_, hi⟩
  · rw [World.cell?_setCell_other _ _ _ _ (by intro e; cases e)]; exact h.c0
  · rw [World.cell?_setCell_other _ _ _ _ (by intro e; cases e)]; exact h.c2
theorem RdAt.drewN {w : World} {p : Nat} {s : ByteArray} {i : Nat} {r : Int} (h : RdAt w p s i r) (k : Nat) : RdAt (w.drewN k) p s i r := h.frame (Fr.drewN (fun _ => False) w k) (fun f => f)

set_option maxHeartbeats 1000000 in
theorem newReader_any (s : ByteArray) (w : World) : Calls Tryz.prog 49 #[.string s] w fun e w' => e = .returned (ptr w.heap.size) ∧ RdAt w' w.heap.size s 0 (-1) ∧ Fr (fun _ => False) w w' := by
  have hat : ∀ T, (w.alloc (.cells #[.string s, .int .i64 0, .int .i64 (-1)] T)).heap[w.heap.size]? = some (.cells #[.string s, .int .i64 0, .int .i64 (-1)] T (0, 0)) := fun T => by
    show (w.heap.push _)[w.heap.size]? = _
    rw [Array.getElem?_push_size]
  replace hat := Lib.hid hat
  go_enter Tryz.func49, Tryz.ntmps49
  go_wp2
  go_ret
  refine ⟨rfl, ⟨⟨_, _, hat.out _⟩, ?_, ?_, ?_, Nat.zero_le _⟩, Fr.alloc _ _ _⟩
  · unfold World.cell?; rw [hat.out]; rfl
  · unfold World.cell?; rw [hat.out]; rfl
  · unfold World.cell?; rw [hat.out]; rfl

set_option maxHeartbeats 2000000 in
theorem readByte_end (p : Nat) (s : ByteArray) (r : Int) (EV : Value) (w : World) (h : RdAt w p s s.size r) (hE : w.cell? ⟨3, 0, none⟩ = some EV) (hp : p ≠ 3) (hs : s.size ≤ 1000000) :
    Calls Tryz.prog 287 #[.pointer (some ⟨p, 0, none⟩)] w fun e w' => e = .returned (.tuple #[.int .u8 0, EV]) ∧ RdAt w' p s s.size (-1) ∧ Fr (fun k => k = p) w w' := by
  have f2 := h.plain.free 2
  have c2 := h.c2
  have H := h.set2 (-1)
  have c0 := H.c0
  have c1 := H.c1
  have cE : (w.setCell ⟨p, 2, none⟩ (.int .i64 (-1))).cell? ⟨3, 0, none⟩ = some EV := by
    rw [World.cell?_setCell_other _ _ _ _ (by intro e; exact hp (congrArg Addr.block e))]; exact hE
  have hw : IntKind.i64.wrap (s.size : Int) = s.size := by rw [IntKind.wrap_i64]; omega
  obtain ⟨w2, hw2⟩ : ∃ w2, w2 = w.setCell ⟨p, 2, none⟩ (.int .i64 (-1)) := ⟨_, rfl⟩
  rw [← hw2] at H c0 c1 cE
  have fr : Hid (Fr (fun k => k = p) w w2) := by show Fr _ _ _; rw [hw2]; exact Fr.setCell (S := fun k => k = p) _ _ _ (fun _ => rfl)
  replace H := Lib.hid H
  replace hw2 := Lib.hid hw2
  clear h hE
  go_enter Tryz.func287, Tryz.ntmps287
  go_wp2_with fail
  rw [← hw2.out]
  clear f2 c2
  go_quiet (fail)
  go_wp2_with fail
  go_quiet (fail)
  go_wp2_with fail
  go_ret2
  refine ⟨rfl, (H.out.drewN _).drewN _, (fr.out.trans (Fr.drewN _ _ _) (fun _ _ h => h)).trans (Fr.drewN _ _ _) (fun _ _ h => h)⟩

set_option maxRecDepth 100000 in
set_option maxHeartbeats 2000000 in
theorem readByte_ok (p i : Nat) (s : ByteArray) (r : Int) (b : UInt8) (w : World) (h : RdAt w p s i r) (hb : s.data.toList[i]? = some b) (hs : s.size ≤ 1000000) :
    Calls Tryz.prog 287 #[.pointer (some ⟨p, 0, none⟩)] w fun e w' => e = .returned (.tuple #[.int .u8 (b.toNat : Int), .nilIface]) ∧ RdAt w' p s (i + 1) (-1) ∧ Fr (fun k => k = p) w w' := by
  have f2 := h.plain.free 2
  have hi : i < s.size := by obtain ⟨q, _⟩ := List.getElem?_eq_some_iff.mp hb; simpa using q
  replace hb : s[i] = b := by obtain ⟨_, q⟩ := List.getElem?_eq_some_iff.mp hb; rw [← q]; rfl
  replace hb := Lib.hid hb
  have c2 := h.c2
  have H := h.set2 (-1)
  have c0 := H.c0
  have c1 := H.c1
  have f1 := H.plain.free 1
  have hw : IntKind.i64.wrap (s.size : Int) = s.size := by rw [IntKind.wrap_i64]; omega
  have b1 : ¬ ((s.size : Int) ≤ (i : Int)) := by omega
  have H2 : ∀ k, RdAt (((w.setCell ⟨p, 2, none⟩ (.int .i64 (-1))).drewN k).setCell ⟨p, 1, none⟩ (.int .i64 ((i + 1 : Nat) : Int))) p s (i + 1) (-1) := fun k => (H.drewN k).set1 (i + 1) hi
  have fr : ∀ k, Fr (fun k => k = p) w (((w.setCell ⟨p, 2, none⟩ (.int .i64 (-1))).drewN k).setCell ⟨p, 1, none⟩ (.int .i64 ((i + 1 : Nat) : Int))) := fun k =>
    ((Fr.setCell (S := fun k => k = p) _ _ _ (fun _ => rfl)).trans (Fr.drewN _ _ _) (fun _ _ h => h)).trans (Fr.setCell (S := fun k => k = p) _ _ _ (fun _ => rfl)) (fun _ _ h => h)
  obtain ⟨w2, hw2⟩ : ∃ w2, w2 = (w.setCell ⟨p, 2, none⟩ (.int .i64 (-1))) := ⟨_, rfl⟩
  rw [← hw2] at H c0 c1 f1 H2 fr
  replace H := Lib.hid H
  replace H2 := Lib.hid H2
  replace fr := Lib.hid fr
  replace hw2 := Lib.hid hw2
  have e1 : wrap64 ((i : Int) + 1) = ((i + 1 : Nat) : Int) := by unfold wrap64; omega
  have e2 : IntKind.i64.wrap ((i : Int) + 1) = ((i + 1 : Nat) : Int) := by rw [IntKind.wrap_i64]; omega
  clear h
  go_enter Tryz.func287, Tryz.ntmps287
  go_wp2_with fail
  rw [← hw2.out]
  clear f2 c2
  go_quiet (fail)
  go_wp2_with fail
  go_quiet (fail)
  go_wp2_with fail
  go_ret2
  refine ⟨?_, H2.out _, fr.out _⟩
  rw [← hb.out]; rfl

/-- UnreadByte: one byte back. -/
theorem unreadByte_ok (p i : Nat) (s : ByteArray) (r : Int) (w : World) (h : RdAt w p s (i + 1) r) (hs : s.size ≤ 1000000) :
    Calls Tryz.prog 288 #[.pointer (some ⟨p, 0, none⟩)] w fun e w' => e = .returned .nilIface ∧ RdAt w' p s i (-1) ∧ Fr (fun k => k = p) w w' := by
  have f2 := h.plain.free 2
  have hi : i < s.size := h.le
  have c1' := h.c1
  have c2 := h.c2
  have H := h.set2 (-1)
  have c1 := H.c1
  have f1 := H.plain.free 1
  have b1 : ¬ (((i + 1 : Nat) : Int) ≤ 0) := by omega
  have H2 : RdAt ((w.setCell ⟨p, 2, none⟩ (.int .i64 (-1))).setCell ⟨p, 1, none⟩ (.int .i64 (i : Int))) p s i (-1) := H.set1 i (by omega)
  have fr : Fr (fun k => k = p) w ((w.setCell ⟨p, 2, none⟩ (.int .i64 (-1))).setCell ⟨p, 1, none⟩ (.int .i64 (i : Int))) :=
    (Fr.setCell (S := fun k => k = p) _ _ _ (fun _ => rfl)).trans (Fr.setCell (S := fun k => k = p) _ _ _ (fun _ => rfl)) (fun _ _ h => h)
  replace H := Lib.hid H
  replace H2 := Lib.hid H2
  replace fr := Lib.hid fr
  have e1 : wrap64 (((i + 1 : Nat) : Int) - 1) = (i : Int) := by unfold wrap64; omega
  have e2 : IntKind.i64.wrap (((i + 1 : Nat) : Int) - 1) = (i : Int) := by rw [IntKind.wrap_i64]; omega
  obtain ⟨k, hk⟩ : ∃ k : Int, k = ((i + 1 : Nat) : Int) := ⟨_, rfl⟩
  rw [← hk] at c1 c1' b1 e1 e2
  clear h
  clear hk
  go_enter Tryz.func288, Tryz.ntmps288
  go_wp2_with fail
  go_ret
  exact ⟨rfl, H2.out, fr.out⟩

theorem str_head {s : ByteArray} {b : UInt8} {l : List UInt8} (h : s.data.toList = b :: l) : ∃ hi : 0 < s.size, s[0] = b := by
  have hi : 0 < s.size := by
    have : s.data.toList.length = s.size := by simp
    rw [h] at this; simp at this; omega
  refine ⟨hi, ?_⟩
  have : s[0] = s.data.toList[0]'(by simpa using hi) := rfl
  rw [this]; simp [h]

set_option maxRecDepth 100000 in
/-- utf8.DecodeRuneInString of a text that begins in ASCII. -/
theorem decodeRune_ascii (s : ByteArray) (b : UInt8) (l : List UInt8) (h : s.data.toList = b :: l) (hb : b.toNat < 128) (w : World) :
    Calls Tryz.prog 82 #[.string s] w fun e w' => e = .returned (.tuple #[.int .i32 (b.toNat : Int), .int .i64 1]) ∧ w' = w := by
  obtain ⟨hi, h0⟩ := str_head h
  have hl : s.toList = b :: l := by rw [Lib.toList_data]; exact h
  have hne : ¬ (s.toList = []) := by rw [hl]; simp
  have hE : s.toList.isEmpty = false := by rw [hl]; rfl
  clear hl
  have hb2 : ((b.toNat : Nat) : Int) < 128 := by omega
  have hw : IntKind.i32.wrap (b.toNat : Int) = b.toNat := by rw [IntKind.wrap_i32]; omega
  go_enter Tryz.func82, Tryz.ntmps82
  go_wp2_with fail
  go_ret2
  exact ⟨rfl, rfl⟩

set_option maxRecDepth 100000 in
set_option maxHeartbeats 2000000 in
/-- ReadRune at an ASCII byte. -/
theorem readRune_ok (p i : Nat) (s : ByteArray) (r : Int) (b : UInt8) (w : World) (h : RdAt w p s i r) (hb : s.data.toList[i]? = some b) (hb2 : b.toNat < 128) (hs : s.size ≤ 1000000) :
    Calls Tryz.prog 51 #[.pointer (some ⟨p, 0, none⟩)] w fun e w' => e = .returned (.tuple #[.int .i32 (b.toNat : Int), .int .i64 1, .nilIface]) ∧ RdAt w' p s (i + 1) (i : Int) ∧ Fr (fun k => k = p) w w' := by
  have f2 := h.plain.free 2
  obtain ⟨hi, hbb⟩ : ∃ hi : i < s.size, s.data.toList.drop i = b :: s.data.toList.drop (i + 1) := by
    obtain ⟨q, q2⟩ := List.getElem?_eq_some_iff.mp hb
    refine ⟨by simpa using q, ?_⟩
    rw [← q2]; exact List.drop_eq_getElem_cons q
  have hD := fun w' => decodeRune_ascii (s.extract i s.size) b _ (by rw [Lib.extract_to_end]; exact hbb) hb2 w'
  replace hD := Lib.hid hD
  have c2 := h.c2
  have c0' := h.c0
  have c1' := h.c1
  have F : ∀ k, RdAt ((w.drewN k).setCell ⟨p, 2, none⟩ (.int .i64 (i : Int))) p s i (i : Int) ∧ Fr (fun k => k = p) w ((w.drewN k).setCell ⟨p, 2, none⟩ (.int .i64 (i : Int))) := fun k => ⟨(h.drewN k).set2 _, (Fr.drewN _ _ _).trans (Fr.setCell (S := fun k => k = p) _ _ _ (fun _ => rfl)) (fun _ _ h => h)⟩
  replace F := Lib.hid F
  have hw : IntKind.i64.wrap (s.size : Int) = s.size := by rw [IntKind.wrap_i64]; omega
  have b1 : ¬ ((s.size : Int) ≤ (i : Int)) := by omega
  clear hb hbb
  clear h
  go_enter Tryz.func51, Tryz.ntmps51
  go_wp2_with fail
  go_quiet (fail)
  go_wp2_with fail
  obtain ⟨H, fr⟩ := F.out nq
  generalize (w.drewN nq).setCell ⟨p, 2, none⟩ (.int .i64 (i : Int)) = w2 at H fr ⊢
  clear f2 c2 c0' c1' F
  have c0 := H.c0
  have c1 := H.c1
  have f1 := H.plain.free 1
  have H2 := (H.set1 (i + 1) hi).frame (Fr.drew (fun _ => False) _) (fun f => f)
  replace fr := Lib.hid ((fr.trans (Fr.setCell (S := fun k => k = p) w2 ⟨p, 1, none⟩ (.int .i64 ((i + 1 : Nat) : Int)) (fun _ => rfl)) (fun _ _ h => h)).trans (Fr.drew _ _) (fun _ _ h => h))
  replace H2 := Lib.hid H2
  rw [show ((i + 1 : Nat) : Int) = (i : Int) + 1 by omega] at H2 fr
  have e1 : wrap64 ((i : Int) + 1) = ((i + 1 : Nat) : Int) := by unfold wrap64; omega
  have e2 : IntKind.i64.wrap ((i : Int) + 1) = ((i + 1 : Nat) : Int) := by rw [IntKind.wrap_i64]; omega
  clear H
  go_region_with (go_at_call 82; refine (hD.out _).mono ?_; rintro _ _ ⟨rfl, rfl⟩)
  all_goals go_wp2_with fail
  all_goals go_ret3
  all_goals exact ⟨rfl, H2.out, fr.out⟩

set_option maxRecDepth 100000 in
set_option maxHeartbeats 2000000 in
theorem readRune_end (p : Nat) (s : ByteArray) (r : Int) (EV : Value) (w : World) (h : RdAt w p s s.size r) (hE : w.cell? ⟨3, 0, none⟩ = some EV) (hp : p ≠ 3) (hs : s.size ≤ 1000000) :
    Calls Tryz.prog 51 #[.pointer (some ⟨p, 0, none⟩)] w fun e w' => e = .returned (.tuple #[.int .i32 0, .int .i64 0, EV]) ∧ RdAt w' p s s.size (-1) ∧ Fr (fun k => k = p) w w' := by
  have f2 := h.plain.free 2
  have c2 := h.c2
  have c0 := h.c0
  have c1 := h.c1
  have F : ∀ k, RdAt ((w.drewN k).setCell ⟨p, 2, none⟩ (.int .i64 (-1))) p s s.size (-1) ∧ ((w.drewN k).setCell ⟨p, 2, none⟩ (.int .i64 (-1))).cell? ⟨3, 0, none⟩ = some EV ∧ Fr (fun k => k = p) w ((w.drewN k).setCell ⟨p, 2, none⟩ (.int .i64 (-1))) := fun k =>
    ⟨(h.drewN k).set2 _, by rw [World.cell?_setCell_other _ _ _ _ (by intro e; exact hp (congrArg Addr.block e))]; exact hE, (Fr.drewN _ _ _).trans (Fr.setCell (S := fun k => k = p) _ _ _ (fun _ => rfl)) (fun _ _ h => h)⟩
  replace F := Lib.hid F
  have hw : IntKind.i64.wrap (s.size : Int) = s.size := by rw [IntKind.wrap_i64]; omega
  clear h hE
  go_enter Tryz.func51, Tryz.ntmps51
  go_wp2_with fail
  go_quiet (fail)
  go_wp2_with fail
  obtain ⟨H, cE, fr⟩ := F.out nq
  generalize (w.drewN nq).setCell ⟨p, 2, none⟩ (.int .i64 (-1)) = w2 at H fr cE ⊢
  clear F
  replace H := Lib.hid H
  replace fr := Lib.hid fr
  go_quiet (fail)
  go_wp2_with fail
  go_ret3
  exact ⟨rfl, H.out.drewN _, fr.out.trans (Fr.drewN _ _ _) (fun _ _ h => h)⟩
end Go.Proofs.YtcpjclakdpjjfaaGreatDoor

namespace Go.Proofs.YtcpjclakdpjjfaaGreatDoor
open Go.RowKit

/-- The reader at block p as an interface value. -/
def rdI (p : Nat) : Value := .iface 115 (.pointer (some ⟨p, 0, none⟩))

theorem method_rb (a : Addr) (w : World) : (method 477 115 (.pointer (some a)) "ReadByte").run Tryz.prog w = .ok (287, .pointer (some a)) w := by kernel_rfl
theorem method_ub (a : Addr) (w : World) : (method 477 115 (.pointer (some a)) "UnreadByte").run Tryz.prog w = .ok (288, .pointer (some a)) w := by kernel_rfl
theorem method_rr (a : Addr) (w : World) : (method 477 115 (.pointer (some a)) "ReadRune").run Tryz.prog w = .ok (51, .pointer (some a)) w := by kernel_rfl

set_option maxRecDepth 100000 in
set_option maxHeartbeats 2000000 in
theorem scanSign_any (p : Nat) (s : ByteArray) (r : Int) (b : UInt8) (l : List UInt8) (w : World) (h : RdAt w p s 0 r) (hl : s.data.toList = b :: l) (hs : s.size ≤ 1000000) :
    Calls Tryz.prog 160 #[rdI p] w fun e w' => e = .returned (.tuple #[.bool (b.toNat == 45), .nilIface]) ∧ RdAt w' p s (if b.toNat = 45 ∨ b.toNat = 43 then 1 else 0) (-1) ∧ Fr (fun k => k = p) w w' := by
  have H1 := Lib.hid (readByte_ok p 0 s r b w h (by rw [hl]; rfl) hs)
  have H2 := Lib.hid (fun w' (h : RdAt w' p s (0 + 1) (-1)) => unreadByte_ok p 0 s (-1) w' h hs)
  have m1 := method_rb
  have m2 := method_ub
  clear h hl
  unfold rdI
  obtain ⟨c, hc⟩ : ∃ c, c = b.toNat := ⟨_, rfl⟩
  rw [← hc] at H1 ⊢
  clear hc
  by_cases e45 : c = 45
  · subst e45
    go_enter Tryz.func160, Tryz.ntmps160
    go_wp2_with fail
    refine H1.out.mono ?_
    rintro e w1 ⟨rfl, h1, f1⟩
    replace h1 := Lib.hid h1
    replace f1 := Lib.hid f1
    go_wp2_with fail
    go_ret2
    exact ⟨rfl, h1.out, f1.out⟩
  · by_cases e43 : c = 43
    · subst e43
      go_enter Tryz.func160, Tryz.ntmps160
      go_wp2_with fail
      refine H1.out.mono ?_
      rintro e w1 ⟨rfl, h1, f1⟩
      replace h1 := Lib.hid h1
      replace f1 := Lib.hid f1
      go_wp2_with fail
      go_ret2
      exact ⟨rfl, h1.out, f1.out⟩
    · rw [if_neg (by omega), show (c == 45) = false by simpa using e45]
      have b1 : ¬ ((c : Int) = 45) := by omega
      have b2 : ¬ ((c : Int) = 43) := by omega
      go_enter Tryz.func160, Tryz.ntmps160
      go_wp2_with fail
      refine H1.out.mono ?_
      rintro e w1 ⟨rfl, h1, f1⟩
      replace f1 := Lib.hid f1
      have H3 := Lib.hid (H2.out w1 h1)
      clear h1 H2 H1
      go_wp2_with fail
      refine H3.out.mono ?_
      rintro e w2 ⟨rfl, h2, f2⟩
      replace h2 := Lib.hid h2
      replace f2 := Lib.hid f2
      go_wp2_with fail
      go_ret2
      exact ⟨rfl, h2.out, f1.out.trans f2.out (fun _ _ h => h)⟩
end Go.Proofs.YtcpjclakdpjjfaaGreatDoor


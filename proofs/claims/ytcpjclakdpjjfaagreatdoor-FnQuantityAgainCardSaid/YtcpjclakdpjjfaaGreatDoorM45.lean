/-
  A part of the proof of FnQuantityAgain (texts W2, W4, W5, W6, W7, W8 of mine, joined).
-/
import Derived.Test.YtcpjclakdpjjfaaGreatDoorM44
import Derived.Test.YtcpjclakdpjjfaaGreatDoorM42
import Derived.Test.YtcpjclakdpjjfaaGreatDoorM37
namespace Go.Proofs.YtcpjclakdpjjfaaGreatDoor
open Go.RowKit Go.Lib Go.Joins

set_option maxRecDepth 100000 in
set_option maxHeartbeats 2000000 in
theorem string_kept (b : Nat) (l : List UInt8) (w : World) (h : w.cell? ⟨b, 3, none⟩ = some (.string (tx l))) (hl : l ≠ []) : Calls Tryz.prog 16 #[ptr b] w fun e w' => e = .returned (.string (tx l)) ∧ w = w' := by
  have hz : (binOp .eql 46 (.pointer (some ⟨b, 0, none⟩)) (.pointer none)).run Tryz.prog w = .ok (.bool false) w := by kernel_rfl
  have hs := tx_size l
  have hp := List.length_pos_iff.2 hl
  obtain ⟨S, hS⟩ : ∃ S, S = tx l := ⟨_, rfl⟩
  rw [← hS] at h hs ⊢
  have h0 : ((S.size : Int) == 0) = false := by rw [hs]; simp; omega
  clear hS hs hp hl
  unfold ptr
  go_enter Tryz.func16, Tryz.ntmps16
  go_wp2_with fail
  go_ret
  exact ⟨rfl, rfl⟩

/-- What String comes to where it tells the canonical form. -/
def StrEnd (b : Nat) (m : List UInt8) (w : World) (e : Ending) (w' : World) : Prop := e = .returned (.string (tx m)) ∧ Fr (fun k => k = b) w w'

set_option maxRecDepth 100000 in
set_option maxHeartbeats 4000000 in
theorem string_made (b : Nat) (q : MQ) (d o : Option Nat) (w : World) (hq : QR w q o d) (h : w.heap[b]? = some (.cells (qrep q d) 39 (0, 0))) (hF : PQF q) (hQ : QB q) (hg : Gk w) (hsz : 17 ≤ w.heap.size) (hs : q.str = [])
    (htab : Lib.TabIs Tryz.prog w "internal/strconv.uint64pow10" .u64 Lib.pow10Tab) : Calls Tryz.prog 16 #[ptr b] w (StrEnd b (canon q) w) := by
  have hz : (binOp .eql 46 (.pointer (some ⟨b, 0, none⟩)) (.pointer none)).run Tryz.prog w = .ok (.bool false) w := by kernel_rfl
  have hlt : b < w.heap.size := (Array.getElem?_eq_some_iff.1 h).1
  have c3 : w.cell? ⟨b, 3, none⟩ = some (.string { data := #[] }) := by
    rw [cell_of_block h]
    cases d with
    | none => show some (Value.string (tx q.str)) = _; rw [hs]; rfl
    | some p => rfl
  obtain ⟨N, hN⟩ : ∃ N, N = w.heap.size := ⟨_, rfl⟩
  obtain ⟨w1, hw1⟩ : ∃ w1, w1 = w.alloc (.cells (brow 18) 5) := ⟨_, rfl⟩
  have M : (Instr.makeSlice 96 (.int .i64 0) (.int .i64 18)).run Tryz.prog w = .ok (.slice (some ⟨N, 0, none⟩) 0 18) w1 := by rw [hw1, hN]; exact run_make96 0 18 (by omega) (by omega) w
  have f1 : Fr (fun _ => False) w w1 := by rw [hw1]; exact Fr.alloc _ _ _
  have h1 : w1.heap[N]? = some (.cells (brow 18) 5 (0, 0)) := by rw [hw1, hN]; exact heap_alloc_new _ _
  have hown : w1.ownsRow N 5 1 (.slice (some ⟨N, 0, none⟩) 0 18) 0 [] := ⟨rfl, Or.inr ⟨N, 18, _, rfl, Nat.le_refl _, h1, by omega, by unfold maxLen; omega, rfl, rfl⟩⟩
  have hb1 := (f1.block b hlt (fun f => f)).trans h
  have TB : Lib.TabBelow Tryz.prog N w1 "internal/strconv.uint64pow10" .u64 Lib.pow10Tab := by rw [hN]; exact tabBelow_alloc htab f1 (fun _ h => h.elim)
  have C := Lib.hid (can_any b q d o w1 (hq.frame f1 (fun _ _ h => h) (fun _ _ _ h => h)) hb1 hF hQ (hg.frame f1 (fun _ h => h.elim)) (Nat.le_trans hsz f1.size) N _ hown (by rw [hN]; exact f1.size) TB)
  obtain ⟨i0, hi, hz0, hz1, hz2⟩ := info5'
  have hlen := canon_len hF hQ
  obtain ⟨m, hm⟩ : ∃ m, m = canon q := ⟨_, rfl⟩
  rw [← hm] at C hlen ⊢
  have hbN : b < N := by omega
  have PST : Hid (∀ w8, Below N w1 w8 → w8.cell? ⟨b, 3, none⟩ = some (.string { data := #[] }) ∧ w8.frozen? ⟨b, 3, none⟩ = false ∧ ∀ v, Fr (fun k => k = b) w (w8.setCell ⟨b, 3, none⟩ v)) := Lib.hid (fun w8 hb => by
    have hb8 := (hb.block b hbN).trans hb1
    refine ⟨?_, unfrozen_of_block hb8 3, fun v => ?_⟩
    · rw [cell_of_block hb8, ← cell_of_block h]; exact c3
    · have f8 : Fr (fun k => k = b) w w8 := ⟨hb.os.trans f1.os, hb.tape.trans f1.tape, hb.output.trans f1.output, Nat.le_trans f1.size hb.size, fun k hk _ => (hb.block k (by omega)).trans (f1.block k hk (fun f => f))⟩
      exact f8.trans (Fr.setCell (S := fun k => k = b) _ _ _ (fun _ => rfl)) (fun _ _ h => h))
  clear hq h hF hQ hg hsz htab hm TB hown h1 hb1 f1 hs
  replace hw1 := Lib.hid hw1
  replace hN := Lib.hid hN
  unfold ptr at *
  go_enter Tryz.func16, Tryz.ntmps16
  go_wp2_with fail
  refine C.out.mono ?_
  rintro e w4 ⟨l1, l2, v, sv, rfl, hm, hb, s1, s2, hor⟩
  have FORM : (sv = .slice none 0 0 ∧ ∃ base c, v = .slice base l1.length c ∧ l1.length ≤ c) ∨ (w4.ownsRow N 5 1 v l1.length (byteCells l1) ∧ ∃ g2 c2, sv = .slice (some ⟨g2, 0, none⟩) l2.length c2 ∧ ∀ j v', (byteCells l2)[j]? = some v' → w4.cell? ((⟨g2, 0, none⟩ : Addr).add j) = some v') := by
    rcases hor with ⟨hsv, g, c, hv, hc⟩ | hown
    · exact Or.inl ⟨hsv, some ⟨g, 0, none⟩, c, hv, hc⟩
    · rcases s2 with ⟨hsv, _⟩ | ⟨g2, c2, cs, hsv, ⟨fr, hg2⟩, hcs⟩
      · refine Or.inl ⟨hsv, ?_⟩
        rcases hown.2 with ⟨hv, hn⟩ | ⟨g, cap, _, hv, _, _, hc, _⟩
        · exact ⟨none, 0, by rw [hn]; exact hv, by omega⟩
        · exact ⟨_, cap, hv, hc⟩
      · refine Or.inr ⟨hown, g2, c2, hsv, fun j v' hj => ?_⟩
        have hjl : j < l2.length := by
          have h5 := (List.getElem?_eq_some_iff.1 hj).1
          rwa [Lib.byteCells_length] at h5
        rw [Lib.add_plain, cell_of_block hg2, Nat.zero_add, hcs j hjl, ← hj]
        simp [byteCells, hjl]
  have hbs : N ≤ w4.heap.size := Nat.le_trans (by have := hN.out; have := hw1.out; subst this; simp; omega) hb.size
  rcases FORM with ⟨hsv, base, c, hv, hc⟩ | ⟨hown, g2, c2, hsv, hcells⟩
  · have hl2 : l2 = [] := by
      rcases s2 with ⟨_, h⟩ | ⟨_, _, _, h, _⟩
      · exact h
      · rw [hsv] at h; cases h
    subst hl2
    rw [List.append_nil] at hm
    subst hm
    have A1 := sfx_string w4 v m s1
    obtain ⟨p1, p2, p3⟩ := PST.out w4 hb
    replace p3 := Lib.hid p3
    subst hsv
    subst hv
    clear hor s1 s2 hb
    obtain ⟨n, hn⟩ : ∃ n, n = m.length := ⟨_, rfl⟩
    rw [← hn] at A1 hc ⊢
    replace hn := Lib.hid hn
    go_wp2_with (at_builtin; refine wpList_append_none _ rfl _ _ 96 rfl 5 i0 Tryz.underlying96 hi hz1 base n c rfl rfl hc ?_)
    go_wp2_with fail
    go_ret
    exact ⟨rfl, p3.out _⟩
  · subst hsv
    have HB := Lib.hid hb
    have HM := Lib.hid hm
    clear hor s1 s2 hb hm
    replace hown := Lib.hid hown
    replace hcells := Lib.hid hcells
    have hll : l1.length + l2.length ≤ 600 := by rw [← List.length_append, ← HM.out]; exact hlen
    go_wp2_with (at_builtin; refine wpList_append_own _ rfl _ _ 96 rfl N 5 i0 (.int .u8 0) 1 1 Tryz.underlying96 hi hz0 hz1 hz2 rfl (by decide) _ _ _ rfl hown.out ⟨g2, 0, none⟩ l2.length c2 (byteCells l2) rfl ?c0 hcells.out ?c2 ?c3 ?c4 ?c5 ?_)
    case c0 => rw [byteCells_length, Nat.mul_one]
    case c2 => intro u' hu'; simp only [byteCells, List.mem_map] at hu'; obtain ⟨b', _, rfl⟩ := hu'; rfl
    case c3 => unfold maxLen; omega
    case c4 => omega
    case c5 => exact hbs
    intro v2 w8 hown8 hgrow _
    have hb8 : Below N w1 w8 := HB.out.grown hgrow hbs (fun k hk => (hown.out.lt k hk).1)
    have s8 : SfxAt w8 v2 (l1 ++ l2) := sfx_row (B := N) (by
      have e : byteCells (l1 ++ l2) = byteCells l1 ++ byteCells l2 := by simp [byteCells]
      rw [e, List.length_append]; exact hown8)
    rw [← HM.out] at s8
    have A1 := sfx_string w8 v2 m s8
    obtain ⟨p1, p2, p3⟩ := PST.out w8 hb8
    replace p3 := Lib.hid p3
    replace hgrow := Lib.hid hgrow
    replace hown8 := Lib.hid hown8
    replace hb8 := Lib.hid hb8
    clear s8
    go_wp2_with fail
    go_ret
    exact ⟨rfl, p3.out _⟩
end Go.Proofs.YtcpjclakdpjjfaaGreatDoor

namespace Go.Proofs.YtcpjclakdpjjfaaGreatDoor
open Go.RowKit Go.Joins

set_option maxRecDepth 100000 in
set_option maxHeartbeats 2000000 in
theorem format_any (f : Nat) (hf : f ≤ 2) (w : World) : Calls Tryz.prog 13 #[.string (fmtT f)] w fun e w' => e = .returned (.int .i64 (f : Int)) ∧ w = w' := by
  rcases (show f = 0 ∨ f = 1 ∨ f = 2 by omega) with rfl | rfl | rfl <;> unfold fmtT
  · go_enter Tryz.func13, Tryz.ntmps13
    go_wp2_with fail
    go_ret
    exact ⟨rfl, rfl⟩
  · go_enter Tryz.func13, Tryz.ntmps13
    go_wp2_with fail
    go_ret
    exact ⟨rfl, rfl⟩
  · go_enter Tryz.func13, Tryz.ntmps13
    go_wp2_with fail
    go_ret
    exact ⟨rfl, rfl⟩

theorem fault_kind (k : Nat) (a0 a1 a2 : Addr) (pe ps pr : Value) (w : World) (hG : GW w a0 a1 a2 pe ps pr) : Calls Tryz.prog 11 #[.iface 204 (.pointer (some (if k = 1 then a0 else a1)))] w fun e w' => e = .returned (.int .i64 (kindQ k : Int)) ∧ w = w' := by
  unfold kindQ
  by_cases h : k = 1
  · rw [if_pos h, if_pos h]; exact fault_one a0 a1 a2 pe ps pr w hG
  · rw [if_neg h, if_neg h]; exact fault_three a0 a1 a2 pe ps pr w hG

theorem qrep_form (q : MQ) (d : Option Nat) : ∃ U E D S, qrep q d = #[.int .i64 U, .int .i32 E, .pointer D, .string S, .string (fmtT q.fmt)] := by
  cases d with
  | none => exact ⟨q.u, q.e, none, tx q.str, rfl⟩
  | some p => exact ⟨0, 0, some ⟨p, 0, none⟩, tx [], rfl⟩

/-- What was read, as cells. -/
theorem QtyV.rep {w0 w : World} {q : MQ} {v : Value} (h : QtyV w0 w q v) (F : PQF q) (Q : QB q) : ∃ d o, v = .agg (qrep q d) ∧ QR w q o d ∧ ∀ p, d = some p → w0.heap.size ≤ p ∧ ∀ c, o = some c → w0.heap.size ≤ c := by
  have h1 := Q.lo
  have h2 := Q.hi
  rcases h with ⟨hb, hv⟩ | ⟨hb, p, ob, hv, hD, hp, ho⟩
  · obtain ⟨f1, f2, f3⟩ := F.nb hb
    exact ⟨none, none, hv, ⟨hb, by omega, by omega, f2, f3⟩, fun p h => by cases h⟩
  · exact ⟨some p, ob, hv, ⟨hb, hD⟩, fun p' h => by cases h; exact ⟨hp, ho⟩⟩

theorem Fr.boxed {w w2 : World} {o : Obj} (f : Fr (fun k => k = w.heap.size) (w.alloc o) w2) : Fr (fun _ => False) w w2 :=
  ⟨f.os, f.tape, f.output, Nat.le_trans (by simp) f.size, fun k hk _ => (f.block k (by simp; omega) (by omega)).trans (Below.heap_alloc _ _ _ hk)⟩

/-- What a Quantity in a block of one's own is good for. -/
structure QBox (w : World) (g : Nat) (q : MQ) (d o : Option Nat) : Prop where
  row : w.heap[g]? = some (.cells (qrep q d) 39 (0, 0))
  rep : QR w q o d
  f : PQF q
  b : QB q

theorem QBox.frame {w w' : World} {g : Nat} {q : MQ} {d o : Option Nat} (h : QBox w g q d o) (f : Fr (fun _ => False) w w') : QBox w' g q d o :=
  ⟨(f.block g (Array.getElem?_eq_some_iff.1 h.row).1 (fun f => f)).trans h.row, h.rep.frame f (fun _ _ h => h) (fun _ _ _ h => h), h.f, h.b⟩

theorem QBox.canonical {w : World} {g : Nat} {q : MQ} {d o : Option Nat} (h : QBox w g q d o) {a0 a1 a2 : Addr} {pe ps pr : Value} (hG : GW w a0 a1 a2 pe ps pr) : Calls Tryz.prog 12 #[ptr g] w fun e w' => e = .returned (.string (tx (canon q))) ∧ Fr (fun _ => False) w w' :=
  canonical_any g q d o w h.rep h.row h.f h.b hG.gk hG.sz hG.tab

theorem QBox.string {w : World} {g : Nat} {q : MQ} {d o : Option Nat} (h : QBox w g q d o) {a0 a1 a2 : Addr} {pe ps pr : Value} (hG : GW w a0 a1 a2 pe ps pr) : Calls Tryz.prog 16 #[ptr g] w (StrEnd g (tellQ q) w) := by
  unfold tellQ
  by_cases hs : q.str = []
  · rw [if_pos hs]
    exact string_made g q d o w h.rep h.row h.f h.b hG.gk hG.sz hs hG.tab
  · rw [if_neg hs]
    have c3 : w.cell? ⟨g, 3, none⟩ = some (.string (tx q.str)) := by
      rw [cell_of_block h.row]
      cases d with
      | none => rfl
      | some p => exact absurd (h.f.bstr h.rep.1) hs
    refine (string_kept g q.str w c3 hs).mono ?_
    rintro e w' ⟨he, hw⟩
    subst hw
    exact ⟨he, Fr.refl _ _⟩
end Go.Proofs.YtcpjclakdpjjfaaGreatDoor

namespace Go.Proofs.YtcpjclakdpjjfaaGreatDoor
open Go.RowKit Go.Joins

/-- What QuantityText comes to. -/
def TextEnd (w : World) (l : List UInt8) (e : Ending) (w' : World) : Prop := Fr (fun _ => False) w w' ∧ match parseQ l with
  | .err k => e = .returned (.tuple #[.string { data := #[] }, .int .i64 0, .int .i64 (kindQ k : Int)])
  | .ok q => e = .returned (.tuple #[.string (tx (canon q)), .int .i64 (q.fmt : Int), .int .i64 0])

set_option maxRecDepth 100000 in
set_option maxHeartbeats 2000000 in
theorem text_err (s : ByteArray) (l : List UInt8) (a0 a1 a2 : Addr) (pe ps pr : Value) (w : World) (hG : GW w a0 a1 a2 pe ps pr) (hl : s.data.toList = l) (hP : PBs l) (k : Nat) (hk : parseQ l = .err k) : Calls Tryz.prog 5 #[.string s] w (TextEnd w l) := by
  have A := parse_any s l a0 a1 a2 pe ps pr w hG hl hP
  have FK := fun wx (fx : Fr (fun _ => False) w wx) => fault_kind k a0 a1 a2 pe ps pr wx (hG.frame fx)
  have n1 := fun v w' => neq_nil41 v w'
  unfold PqEnd at A
  rw [hk] at A
  simp only at A
  obtain ⟨a, ha⟩ : ∃ a, a = if k = 1 then a0 else a1 := ⟨_, rfl⟩
  rw [← ha] at A FK
  obtain ⟨K, hK⟩ : ∃ K : Int, K = (kindQ k : Int) := ⟨_, rfl⟩
  rw [← hK] at FK
  have FIN : ∀ w', Fr (fun _ => False) w w' → TextEnd w l (.returned (.tuple #[.string { data := #[] }, .int .i64 0, .int .i64 K])) w' := fun w' f => ⟨f, by rw [hk, hK]⟩
  clear hG hl hP hk ha hK
  replace A := Lib.hid A
  replace FK := Lib.hid FK
  replace FIN := Lib.hid FIN
  unfold zeroQ at A
  go_enter Tryz.func5, Tryz.ntmps5
  go_wp2_with fail
  refine A.out.mono ?_
  rintro e w1 ⟨f1, rfl⟩
  replace f1 := Lib.hid f1
  go_wp2_with (first | (refine wpList_store5 _ rfl _ _ rfl w1.heap.size rfl _ _ _ _ _ rfl _ (heap_alloc_new _ _) rfl ?_; intro w2 hat2 f2) | fail)
  have f12 := f1.out.trans f2.boxed (fun _ _ h => h)
  have FK2 := Lib.hid (FK.out w2 f12)
  replace f12 := Lib.hid f12
  replace f2 := Lib.hid f2
  replace hat2 := Lib.hid hat2
  go_wp2_with fail
  refine FK2.out.mono ?_
  rintro e w3 ⟨rfl, hw⟩
  subst hw
  go_wp2_with fail
  refine bodyPost_ret (results_tmp3 rfl _ _ _) rfl ?_
  exact FIN.out _ f12.out

set_option maxRecDepth 100000 in
set_option maxHeartbeats 2000000 in
theorem text_ok (s : ByteArray) (l : List UInt8) (a0 a1 a2 : Addr) (pe ps pr : Value) (w : World) (hG : GW w a0 a1 a2 pe ps pr) (hl : s.data.toList = l) (hP : PBs l) (q : MQ) (hq : parseQ l = .ok q) : Calls Tryz.prog 5 #[.string s] w (TextEnd w l) := by
  have A := parse_any s l a0 a1 a2 pe ps pr w hG hl hP
  have F := parse_facts hq
  have Q := parse_qb hP hq
  have n2 := fun w' => nil_neq_nil41 w'
  unfold PqEnd at A
  rw [hq] at A
  simp only at A
  have FIN : ∀ w', Fr (fun _ => False) w w' → TextEnd w l (.returned (.tuple #[.string (tx (canon q)), .int .i64 (q.fmt : Int), .int .i64 0])) w' := fun w' f => ⟨f, by rw [hq]⟩
  have C12 : ∀ wx g d o, Fr (fun _ => False) w wx → QBox wx g q d o → Calls Tryz.prog 12 #[.pointer (some ⟨g, 0, none⟩)] wx fun e w' => e = .returned (.string (tx (canon q))) ∧ Fr (fun _ => False) wx w' := fun wx g d o fx hx => hx.canonical (hG.frame fx)
  have C13 := fun wx => format_any q.fmt F.f2 wx
  obtain ⟨M, hM⟩ : ∃ M, M = tx (canon q) := ⟨_, rfl⟩
  rw [← hM] at FIN
  simp only [← hM] at C12
  clear hG hl hP hq hM
  replace A := Lib.hid A
  replace FIN := Lib.hid FIN
  replace C12 := Lib.hid C12
  replace C13 := Lib.hid C13
  go_enter Tryz.func5, Tryz.ntmps5
  go_wp2_with fail
  refine A.out.mono ?_
  rintro e w1 ⟨f1, v, rfl, hV⟩
  obtain ⟨d, o, rfl, hR, _⟩ := hV.rep F Q
  obtain ⟨U, E, D, S, hform⟩ := qrep_form q d
  rw [hform]
  clear hV
  replace f1 := Lib.hid f1
  replace hR := Lib.hid hR
  replace hform := Lib.hid hform
  replace F := Lib.hid F
  replace Q := Lib.hid Q
  obtain ⟨T, hT⟩ : ∃ T, T = fmtT q.fmt := ⟨_, rfl⟩
  rw [← hT] at C13 hform ⊢
  replace hT := Lib.hid hT
  go_wp2_with (first | (refine wpList_store5 _ rfl _ _ rfl w1.heap.size rfl _ _ _ _ _ rfl _ (heap_alloc_new _ _) rfl ?_; intro w2 hat2 f2) | fail)
  have f12 := f1.out.trans f2.boxed (fun _ _ h => h)
  obtain ⟨g, hg⟩ : ∃ g, g = w1.heap.size := ⟨_, rfl⟩
  rw [← hg] at hat2 ⊢
  have c4 : ∀ wx, Fr (fun _ => False) w2 wx → wx.cell? ⟨g, 4, none⟩ = some (.string T) := fun wx fx => by
    rw [cell_of_block ((fx.block g (Array.getElem?_eq_some_iff.1 hat2).1 (fun f => f)).trans hat2)]; rfl
  have BX : ∀ wx, Fr (fun _ => False) w2 wx → QBox wx g q d o := fun wx fx => by
    refine QBox.frame ⟨?_, ?_, F.out, Q.out⟩ fx
    · rw [hat2, hform.out]
    · exact hR.out.frame f2.boxed (fun _ _ h => h) (fun _ _ _ h => h)
  have c40 := c4 w2 (Fr.refl _ _)
  have c41 := c4 w2.drew (Fr.drew _ _)
  have C12a := Lib.hid (C12.out w2.drew g d o (f12.trans (Fr.drew _ _) (fun _ _ h => h)) (BX _ (Fr.drew _ _)))
  replace c4 := Lib.hid c4
  replace BX := Lib.hid BX
  replace f12 := Lib.hid f12
  replace f2 := Lib.hid f2
  replace hat2 := Lib.hid hat2
  replace hg := Lib.hid hg
  go_wp2_with fail
  go_region_with (first
    | (go_at_call 12; refine C12a.out.mono ?_; rintro r w5 ⟨rfl, g5⟩; have c45 := c4.out w5 ((Fr.drew (fun _ => False) _).trans g5 (fun _ _ h => h)); replace g5 := Lib.hid g5)
    | (go_at_call 13; refine (C13.out _).mono ?_; rintro r w6 ⟨rfl, rfl⟩))
  all_goals (try go_wp2_with fail)
  all_goals refine bodyPost_ret (results_tmp3 rfl _ _ _) rfl ?_
  all_goals
    have f25 := f12.out.trans ((Fr.drew (fun _ => False) _).trans g5.out (fun _ _ h => h)) (fun _ _ h => h)
    first
      | exact FIN.out _ f25
      | exact FIN.out _ (f25.trans (Fr.drewN _ _ _) (fun _ _ h => h))

theorem qtext_any (s : ByteArray) (l : List UInt8) (a0 a1 a2 : Addr) (pe ps pr : Value) (w : World) (hG : GW w a0 a1 a2 pe ps pr) (hl : s.data.toList = l) (hP : PBs l) : Calls Tryz.prog 5 #[.string s] w (TextEnd w l) := by
  cases h : parseQ l with
  | err k => exact text_err s l a0 a1 a2 pe ps pr w hG hl hP k h
  | ok q => exact text_ok s l a0 a1 a2 pe ps pr w hG hl hP q h
end Go.Proofs.YtcpjclakdpjjfaaGreatDoor

namespace Go.Proofs.YtcpjclakdpjjfaaGreatDoor
open Go.RowKit Go.Joins

set_option maxRecDepth 100000 in
set_option maxHeartbeats 2000000 in
theorem qkind_err (s : ByteArray) (l : List UInt8) (a0 a1 a2 : Addr) (pe ps pr : Value) (w : World) (hG : GW w a0 a1 a2 pe ps pr) (hl : s.data.toList = l) (hP : PBs l) (k : Nat) (hk : parseQ l = .err k) :
    Calls Tryz.prog 6 #[.string s] w fun e w' => e = .returned (.int .i64 (kindQ k : Int)) ∧ Fr (fun _ => False) w w' := by
  have A := parse_any s l a0 a1 a2 pe ps pr w hG hl hP
  have FK := fun wx (fx : Fr (fun _ => False) w wx) => fault_kind k a0 a1 a2 pe ps pr wx (hG.frame fx)
  unfold PqEnd at A
  rw [hk] at A
  simp only at A
  obtain ⟨a, ha⟩ : ∃ a, a = if k = 1 then a0 else a1 := ⟨_, rfl⟩
  rw [← ha] at A FK
  obtain ⟨K, hK⟩ : ∃ K : Int, K = (kindQ k : Int) := ⟨_, rfl⟩
  rw [← hK] at FK ⊢
  clear hG hl hP hk ha hK
  replace A := Lib.hid A
  replace FK := Lib.hid FK
  unfold zeroQ at A
  go_enter Tryz.func6, Tryz.ntmps6
  go_wp2_with fail
  refine A.out.mono ?_
  rintro e w1 ⟨f1, rfl⟩
  replace f1 := Lib.hid f1
  go_wp2_with (first | (refine wpList_store5 _ rfl _ _ rfl w1.heap.size rfl _ _ _ _ _ rfl _ (heap_alloc_new _ _) rfl ?_; intro w2 hat2 f2) | fail)
  have f12 := f1.out.trans f2.boxed (fun _ _ h => h)
  have FK2 := Lib.hid (FK.out w2 f12)
  replace f12 := Lib.hid f12
  replace f2 := Lib.hid f2
  replace hat2 := Lib.hid hat2
  go_wp2_with fail
  refine FK2.out.mono ?_
  rintro e w3 ⟨rfl, hw⟩
  subst hw
  go_wp2_with fail
  go_ret
  exact ⟨rfl, f12.out⟩

set_option maxRecDepth 100000 in
set_option maxHeartbeats 2000000 in
theorem qprint_ok (s : ByteArray) (l : List UInt8) (a0 a1 a2 : Addr) (pe ps pr : Value) (w : World) (hG : GW w a0 a1 a2 pe ps pr) (hl : s.data.toList = l) (hP : PBs l) (q : MQ) (hq : parseQ l = .ok q) :
    Calls Tryz.prog 9 #[.string s] w fun e w' => e = .returned (.tuple #[.string (tx (tellQ q)), .int .i64 0]) ∧ Fr (fun _ => False) w w' := by
  have A := parse_any s l a0 a1 a2 pe ps pr w hG hl hP
  have F := parse_facts hq
  have Q := parse_qb hP hq
  have n2 := fun w' => nil_neq_nil41 w'
  unfold PqEnd at A
  rw [hq] at A
  simp only at A
  have C16 : ∀ wx g d o, Fr (fun _ => False) w wx → QBox wx g q d o → Calls Tryz.prog 16 #[.pointer (some ⟨g, 0, none⟩)] wx (StrEnd g (tellQ q) wx) := fun wx g d o fx hx => hx.string (hG.frame fx)
  obtain ⟨M, hM⟩ : ∃ M, M = tellQ q := ⟨_, rfl⟩
  rw [← hM]
  simp only [← hM] at C16
  clear hG hl hP hq hM
  replace A := Lib.hid A
  replace C16 := Lib.hid C16
  go_enter Tryz.func9, Tryz.ntmps9
  go_wp2_with fail
  refine A.out.mono ?_
  rintro e w1 ⟨f1, v, rfl, hV⟩
  obtain ⟨d, o, rfl, hR, _⟩ := hV.rep F Q
  obtain ⟨U, E, D, S, hform⟩ := qrep_form q d
  rw [hform]
  clear hV
  replace f1 := Lib.hid f1
  replace hR := Lib.hid hR
  replace hform := Lib.hid hform
  replace F := Lib.hid F
  replace Q := Lib.hid Q
  obtain ⟨T, hT⟩ : ∃ T, T = fmtT q.fmt := ⟨_, rfl⟩
  rw [← hT] at hform ⊢
  replace hT := Lib.hid hT
  go_wp2_with (first | (refine wpList_store5 _ rfl _ _ rfl w1.heap.size rfl _ _ _ _ _ rfl _ (heap_alloc_new _ _) rfl ?_; intro w2 hat2 f2) | fail)
  have f12 := f1.out.trans f2.boxed (fun _ _ h => h)
  obtain ⟨g, hg⟩ : ∃ g, g = w1.heap.size := ⟨_, rfl⟩
  rw [← hg] at hat2 ⊢
  have BX : QBox w2 g q d o := by
    refine ⟨?_, ?_, F.out, Q.out⟩
    · rw [hat2, hform.out]
    · exact hR.out.frame f2.boxed (fun _ _ h => h) (fun _ _ _ h => h)
  have C := Lib.hid (C16.out w2 g d o f12 BX)
  have hgw : w.heap.size ≤ g := by rw [hg]; exact f1.out.size
  clear BX
  replace f12 := Lib.hid f12
  replace f2 := Lib.hid f2
  replace hat2 := Lib.hid hat2
  replace hg := Lib.hid hg
  go_wp2_with fail
  refine C.out.mono ?_
  rintro e w3 ⟨rfl, f3⟩
  replace f3 := Lib.hid f3
  go_wp2_with fail
  go_ret2
  exact ⟨rfl, f12.out.trans f3.out (fun i hi h => by omega)⟩
end Go.Proofs.YtcpjclakdpjjfaaGreatDoor

namespace Go.Proofs.YtcpjclakdpjjfaaGreatDoor
open Go.RowKit Go.Joins

theorem setCell_self (w : World) (g i : Nat) (cs : Array Value) (t : TypeId) (fr : Nat × Nat) (v : Value) (hg : w.heap[g]? = some (.cells cs t fr)) (hv : cs[i]? = some v) : w.setCell ⟨g, i, none⟩ v = w := by
  rw [setCell_eq_setRow w g i cs t fr v hg]
  have : cs.setIfInBounds i v = cs := by
    obtain ⟨hi, he⟩ := Array.getElem?_eq_some_iff.1 hv
    apply Array.ext
    · simp
    · intro j h1 h2
      rw [Array.getElem_setIfInBounds]
      split
      · rename_i h; subst h; exact he.symm
      · rfl
  rw [this, setRow_self w g cs t fr hg]

/-- What a walk asks of a Quantity in a block: its cells, that they may be written, and that the same again changes nothing. -/
structure Five (w : World) (g : Nat) (U E : Int) (D : Option Addr) (S T : ByteArray) : Prop where
  c0 : w.cell? ⟨g, 0, none⟩ = some (.int .i64 U)
  c1 : w.cell? ⟨g, 1, none⟩ = some (.int .i32 E)
  c2 : w.cell? ⟨g, 2, none⟩ = some (.pointer D)
  c3 : w.cell? ⟨g, 3, none⟩ = some (.string S)
  c4 : w.cell? ⟨g, 4, none⟩ = some (.string T)
  f0 : w.frozen? ⟨g, 0, none⟩ = false
  f1 : w.frozen? ⟨g, 1, none⟩ = false
  f2 : w.frozen? ⟨g, 2, none⟩ = false
  f3 : w.frozen? ⟨g, 3, none⟩ = false
  f4 : w.frozen? ⟨g, 4, none⟩ = false
  s0 : w.setCell ⟨g, 0, none⟩ (.int .i64 U) = w
  s1 : w.setCell ⟨g, 1, none⟩ (.int .i32 E) = w
  s2 : w.setCell ⟨g, 2, none⟩ (.pointer D) = w
  s3 : w.setCell ⟨g, 3, none⟩ (.string S) = w
  s4 : w.setCell ⟨g, 4, none⟩ (.string T) = w

theorem five (w : World) (g : Nat) (U E : Int) (D : Option Addr) (S T : ByteArray) (hg : w.heap[g]? = some (.cells #[.int .i64 U, .int .i32 E, .pointer D, .string S, .string T] 39 (0, 0))) : Five w g U E D S T where
  c0 := by rw [cell_of_block hg]; rfl
  c1 := by rw [cell_of_block hg]; rfl
  c2 := by rw [cell_of_block hg]; rfl
  c3 := by rw [cell_of_block hg]; rfl
  c4 := by rw [cell_of_block hg]; rfl
  f0 := unfrozen_of_block hg 0
  f1 := unfrozen_of_block hg 1
  f2 := unfrozen_of_block hg 2
  f3 := unfrozen_of_block hg 3
  f4 := unfrozen_of_block hg 4
  s0 := setCell_self w g 0 _ _ _ _ hg rfl
  s1 := setCell_self w g 1 _ _ _ _ hg rfl
  s2 := setCell_self w g 2 _ _ _ _ hg rfl
  s3 := setCell_self w g 3 _ _ _ _ hg rfl
  s4 := setCell_self w g 4 _ _ _ _ hg rfl

theorem results_14 (tmps : Array Value) (w : World) (g1 g2 : Nat) (t : TypeId) (c1 c2 : Array Value) (fr1 fr2 : Nat × Nat) (h1 : tmps.getD 4 undef = .pointer (some ⟨g1, 0, none⟩)) (h2 : tmps.getD 5 undef = .pointer (some ⟨g2, 0, none⟩))
    (k1 : w.heap[g1]? = some (.cells c1 t fr1)) (k2 : w.heap[g2]? = some (.cells c2 t fr2)) (s1 : c1.size = 5) (s2 : c2.size = 5) :
    (results Tryz.f14 tmps).run Tryz.prog w = .ok (.tuple #[.agg c1, .agg c2, tmps.getD 6 undef]) w := by
  have h1' : tmps[4]?.getD undef = .pointer (some ⟨g1, 0, none⟩) := by simpa using h1
  have h2' : tmps[5]?.getD undef = .pointer (some ⟨g2, 0, none⟩) := by simpa using h2
  have l1 := run_loadVar_row w g1 t 39 c1 fr1 _ k1 Tryz.underlying39 rfl (by rw [s1]; kernel_rfl)
  have l2 := run_loadVar_row w g2 t 39 c2 fr2 _ k2 Tryz.underlying39 rfl (by rw [s2]; kernel_rfl)
  simp [results, h1', h2', asAddr, l1, l2]

/-- What two comes to. -/
def TwoEnd (w : World) (x y : MQ) (e : Ending) (w' : World) : Prop := ∃ d1 o1 d2 o2, e = .returned (.tuple #[.agg (qrep x d1), .agg (qrep y d2), .int .i64 0]) ∧ QR w' x o1 d1 ∧ QR w' y o2 d2 ∧ Fr (fun _ => False) w w' ∧
  (∀ p1, d1 = some p1 → p1 < w'.heap.size ∧ ∀ p2, d2 = some p2 → p1 ≠ p2) ∧ (∀ p2, d2 = some p2 → p2 < w'.heap.size ∧ ∀ c, o2 = some c → c < w'.heap.size)
end Go.Proofs.YtcpjclakdpjjfaaGreatDoor

namespace Go.Proofs.YtcpjclakdpjjfaaGreatDoor
open Go.RowKit Go.Joins

set_option maxRecDepth 100000 in
set_option maxHeartbeats 4000000 in
theorem two_ok (s1 s2 : ByteArray) (l1 l2 : List UInt8) (a0 a1 a2 : Addr) (pe ps pr : Value) (w : World) (hG : GW w a0 a1 a2 pe ps pr) (hl1 : s1.data.toList = l1) (hl2 : s2.data.toList = l2) (hP1 : PBs l1) (hP2 : PBs l2) (x y : MQ) (hx : parseQ l1 = .ok x) (hy : parseQ l2 = .ok y) :
    Calls Tryz.prog 14 #[.string s1, .string s2] w (TwoEnd w x y) := by
  have A : ∀ wx, Fr (fun _ => False) w wx → Calls Tryz.prog 10 #[.string s1] wx fun e w' => Fr (fun _ => False) wx w' ∧ ∃ v, e = .returned (.tuple #[v, .nilIface]) ∧ QtyV wx w' x v := fun wx fx => by
    have A := parse_any s1 l1 a0 a1 a2 pe ps pr wx (hG.frame fx) hl1 hP1
    unfold PqEnd at A
    rwa [hx] at A
  have B : ∀ wx, Fr (fun _ => False) w wx → Calls Tryz.prog 10 #[.string s2] wx fun e w' => Fr (fun _ => False) wx w' ∧ ∃ v, e = .returned (.tuple #[v, .nilIface]) ∧ QtyV wx w' y v := fun wx fx => by
    have A := parse_any s2 l2 a0 a1 a2 pe ps pr wx (hG.frame fx) hl2 hP2
    unfold PqEnd at A
    rwa [hy] at A
  have F1 := parse_facts hx
  have Q1 := parse_qb hP1 hx
  have F2 := parse_facts hy
  have Q2 := parse_qb hP2 hy
  have n2 := fun w' => nil_neq_nil41 w'
  clear hG hl1 hl2 hP1 hP2 hx hy
  replace A := Lib.hid A
  replace B := Lib.hid B
  replace F1 := Lib.hid F1
  replace F2 := Lib.hid F2
  replace Q1 := Lib.hid Q1
  replace Q2 := Lib.hid Q2
  obtain ⟨N, hN⟩ : ∃ N, N = w.heap.size := ⟨_, rfl⟩
  obtain ⟨wA, hwA⟩ : ∃ wA, wA = (w.alloc (.cells #[.int .i64 0, .int .i32 0, .pointer none, .string { data := #[] }, .string { data := #[] }] 39)).alloc (.cells #[.int .i64 0, .int .i32 0, .pointer none, .string { data := #[] }, .string { data := #[] }] 39) := ⟨_, rfl⟩
  have fA : Fr (fun _ => False) w wA := by rw [hwA]; exact (Fr.alloc (fun _ => False) _ _).trans (Fr.alloc _ _ _) (fun _ _ h => h)
  have hA1 : wA.heap[N]? = some (.cells #[.int .i64 0, .int .i32 0, .pointer none, .string { data := #[] }, .string { data := #[] }] 39 (0, 0)) := by
    rw [hwA, hN, Below.heap_alloc _ _ _ (by simp)]; exact heap_alloc_new _ _
  have hA2 : wA.heap[N + 1]? = some (.cells #[.int .i64 0, .int .i32 0, .pointer none, .string { data := #[] }, .string { data := #[] }] 39 (0, 0)) := by
    rw [hwA, hN, ← show (w.alloc (.cells #[.int .i64 0, .int .i32 0, .pointer none, .string { data := #[] }, .string { data := #[] }] 39)).heap.size = w.heap.size + 1 by simp]; exact heap_alloc_new _ _
  have sA : wA.heap.size = N + 2 := by rw [hwA, hN]; simp
  replace hwA := Lib.hid hwA
  replace hN := Lib.hid hN
  replace hA1 := Lib.hid hA1
  replace hA2 := Lib.hid hA2
  replace fA := Lib.hid fA
  go_enter Tryz.func14, Tryz.ntmps14
  go_wp2_with fail
  rw [← hwA.out, ← hN.out]
  refine (A.out _ fA.out).mono ?_
  rintro e w1 ⟨f1, v1, rfl, hV1⟩
  obtain ⟨d1, o1, rfl, hR1, p1⟩ := hV1.rep F1.out Q1.out
  obtain ⟨U1, E1, D1, S1, hf1⟩ := qrep_form x d1
  rw [hf1]
  clear hV1
  have hat1 := (f1.block N (by omega) (fun f => f)).trans hA1.out
  have hat2 := (f1.block (N + 1) (by omega) (fun f => f)).trans hA2.out
  have z1 := f1.size
  replace f1 := Lib.hid f1
  replace hR1 := Lib.hid hR1
  replace hf1 := Lib.hid hf1
  replace p1 := Lib.hid p1
  replace hat1 := Lib.hid hat1
  replace hat2 := Lib.hid hat2
  obtain ⟨T1, hT1⟩ : ∃ T, T = fmtT x.fmt := ⟨_, rfl⟩
  rw [← hT1] at hf1 ⊢
  replace hT1 := Lib.hid hT1
  go_wp2_with (first | (refine wpList_store5 w1 rfl _ _ rfl N rfl _ _ _ _ _ rfl _ hat1.out rfl ?_; intro w2 hb1 g2) | fail)
  have fw2 : Fr (fun _ => False) w w2 := by
    have h := (fA.out.trans f1.out (fun _ _ h => h)).none.trans g2 (fun _ _ h => h) (S := fun k => k = N)
    exact ⟨h.os, h.tape, h.output, h.size, fun k hk _ => h.block k hk (by have := hN.out; omega)⟩
  have hb2 := (g2.block (N + 1) (by omega) (by omega)).trans hat2.out
  have z2 := g2.size
  have hR2 := hR1.out.frame g2 (fun p hp => by have := (p1.out p hp).1; omega) (fun hd c hc => by
    cases d1 with
    | none => exact absurd rfl hd
    | some p => have := (p1.out p rfl).2 c hc; omega)
  replace g2 := Lib.hid g2
  replace hb1 := Lib.hid hb1
  replace hb2 := Lib.hid hb2
  replace hR2 := Lib.hid hR2
  replace fw2 := Lib.hid fw2
  go_wp2_with fail
  refine (B.out _ fw2.out).mono ?_
  rintro e w3 ⟨f3, v3, rfl, hV3⟩
  obtain ⟨d2, o2, rfl, hR3, p3⟩ := hV3.rep F2.out Q2.out
  obtain ⟨U2, E2, D2, S2, hf2⟩ := qrep_form y d2
  rw [hf2]
  clear hV3
  have hc1 := (f3.block N (by omega) (fun f => f)).trans hb1.out
  have hc2 := (f3.block (N + 1) (by omega) (fun f => f)).trans hb2.out
  have z3 := f3.size
  have hR13 := hR2.out.frame f3 (fun _ _ h => h) (fun _ _ _ h => h)
  replace f3 := Lib.hid f3
  replace hR3 := Lib.hid hR3
  replace hf2 := Lib.hid hf2
  replace p3 := Lib.hid p3
  replace hc1 := Lib.hid hc1
  replace hc2 := Lib.hid hc2
  replace hR13 := Lib.hid hR13
  obtain ⟨T2, hT2⟩ : ∃ T, T = fmtT y.fmt := ⟨_, rfl⟩
  rw [← hT2] at hf2 ⊢
  replace hT2 := Lib.hid hT2
  go_wp2_with (first | (refine wpList_store5 w3 rfl _ _ rfl (N + 1) rfl _ _ _ _ _ rfl _ hc2.out rfl ?_; intro w4 hd2 g4) | fail)
  have hd1 := (g4.block N (by omega) (by omega)).trans hc1.out
  have FIN : TwoEnd w x y (.returned (.tuple #[.agg #[.int .i64 U1, .int .i32 E1, .pointer D1, .string S1, .string T1], .agg #[.int .i64 U2, .int .i32 E2, .pointer D2, .string S2, .string T2], .int .i64 0])) w4.drew := by
    have z4 := g4.size
    have f4 : Fr (fun _ => False) w w4 := by
      have h := (fw2.out.trans f3.out (fun _ _ h => h)).none.trans g4 (fun _ _ h => h) (S := fun k => k = N + 1)
      exact ⟨h.os, h.tape, h.output, h.size, fun k hk _ => h.block k hk (by have := hN.out; omega)⟩
    have hX : QR w4.drew x o1 d1 := (hR13.out.frame g4 (fun p hp => by have := (p1.out p hp).1; omega) (fun hd c hc => by
      cases d1 with
      | none => exact absurd rfl hd
      | some p => have := (p1.out p rfl).2 c hc; omega)).frame (Fr.drew (fun _ => False) _) (fun _ _ h => h) (fun _ _ _ h => h)
    have hY : QR w4.drew y o2 d2 := (hR3.out.frame g4 (fun p hp => by have := (p3.out p hp).1; omega) (fun hd c hc => by
      cases d2 with
      | none => exact absurd rfl hd
      | some p => have := (p3.out p rfl).2 c hc; omega)).frame (Fr.drew (fun _ => False) _) (fun _ _ h => h) (fun _ _ _ h => h)
    refine ⟨d1, o1, d2, o2, ?_, hX, hY, f4.trans (Fr.drew _ _) (fun _ _ h => h), fun q1 h1 => ⟨?_, fun q2 h2 => ?_⟩, fun q2 h2 => ⟨?_, fun c hc => ?_⟩⟩
    · rw [hf1.out, hf2.out]
    · subst h1; exact hX.2.int.lt
    · subst h1
      have h3 := (p3.out q2 h2).1
      have h4 := hR2.out.2.int.lt
      omega
    · subst h2; exact hY.2.int.lt
    · subst h2; subst hc; exact hY.2.int.ob_lt
  replace FIN := Lib.hid FIN
  obtain ⟨m0, m1, m2, m3, m4, e0, e1, e2, e3, e4, k0, k1, k2, k3, k4⟩ := five w4.drew N _ _ _ _ _ hd1
  obtain ⟨p0, p1', p2, p3', p4, q0, q1, q2, q3, q4, r0, r1, r2, r3, r4⟩ := five w4.drew (N + 1) _ _ _ _ _ hd2
  have FN := Lib.hid (fun w => fault_nil w)
  replace hd1 := Lib.hid hd1
  replace hd2 := Lib.hid hd2
  replace g4 := Lib.hid g4
  go_wp2_with fail
  go_region_with (go_at_call 11; refine (FN.out _).mono ?_; rintro r w6 ⟨rfl, rfl⟩)
  all_goals clear m0 m1 m2 m3 m4 e0 e1 e2 e3 e4 k0 k1 k2 k3 k4 p0 p1' p2 p3' p4 q0 q1 q2 q3 q4 r0 r1 r2 r3 r4 A B
  all_goals go_wp2_with fail
  all_goals refine bodyPost_ret (results_14 _ _ N (N + 1) 39 _ _ (0, 0) (0, 0) rfl rfl hd1.out hd2.out rfl rfl) rfl ?_
  all_goals exact FIN.out
end Go.Proofs.YtcpjclakdpjjfaaGreatDoor


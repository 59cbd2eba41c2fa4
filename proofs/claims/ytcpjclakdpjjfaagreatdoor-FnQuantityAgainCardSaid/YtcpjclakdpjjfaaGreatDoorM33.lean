/-
  A part of the proof of FnQuantityAgain (texts Rb, Rc, Pc, Rg of mine, joined).
-/
import Derived.Test.YtcpjclakdpjjfaaGreatDoorM32
import Derived.Test.YtcpjclakdpjjfaaGreatDoorM29
import Derived.Test.YtcpjclakdpjjfaaGreatDoorM27
import Derived.Test.YtcpjclakdpjjfaaGreatDoorM28
namespace Go.Proofs.YtcpjclakdpjjfaaGreatDoor
open Go.RowKit

theorem results_q (tmps : Array Value) (w : World) (g : Nat) (t : TypeId) (cs : Array Value) (fr : Nat × Nat) (hp : tmps.getD 2 undef = .pointer (some ⟨g, 0, none⟩)) (hg : w.heap[g]? = some (.cells cs t fr)) (hs : cs.size = 5) :
    (results Tryz.f10 tmps).run Tryz.prog w = .ok (.tuple #[.agg cs, tmps.getD 3 undef]) w := by
  have hp' : tmps[2]?.getD undef = .pointer (some ⟨g, 0, none⟩) := by simpa using hp
  have hl := run_loadVar_row w g t 39 cs fr _ hg Tryz.underlying39 rfl (by rw [hs]; kernel_rfl)
  simp [results, hp', asAddr, hl]

/-- The package's variables, as they are laid. -/
structure GW (w : World) (a0 a1 a2 : Addr) (pe ps pr : Value) : Prop where
  gk : Gk w
  c0 : w.cell? ⟨0, 0, none⟩ = some (.iface 204 (.pointer (some a0)))
  c1 : w.cell? ⟨1, 0, none⟩ = some (.iface 204 (.pointer (some a1)))
  c2 : w.cell? ⟨2, 0, none⟩ = some (.iface 204 (.pointer (some a2)))
  p0 : Plain w a0.block
  p1 : Plain w a1.block
  p2 : Plain w a2.block
  n01 : a0 ≠ a1
  n02 : a0 ≠ a2
  n12 : a1 ≠ a2
  eof : ∃ ea, w.cell? ⟨3, 0, none⟩ = some (.iface 204 (.pointer (some ea)))
  syn : w.var? Tryz.prog "strconv.ErrSyntax" = some #[.iface 204 ps]
  rng : w.var? Tryz.prog "strconv.ErrRange" = some #[.iface 204 pr]
  tab : Lib.TabIs Tryz.prog w "internal/strconv.uint64pow10" .u64 Lib.pow10Tab
  sz : 17 ≤ w.heap.size

def qv (u e : Int) (d : Value) (s : ByteArray) (f : Nat) : Array Value := #[.int .i64 u, .int .i32 e, d, .string s, .string (fmtT f)]
def zeroQ : Array Value := #[.int .i64 0, .int .i32 0, .pointer none, .string { data := #[] }, .string { data := #[] }]
/-- A Quantity, by value. -/
def QtyV (w0 w : World) (q : MQ) (v : Value) : Prop :=
  (q.big = false ∧ v = .agg (qv q.u q.e (.pointer none) (tx q.str) q.fmt)) ∨
  (q.big = true ∧ ∃ p ob, v = .agg (qv 0 0 (ptr p) (tx []) q.fmt) ∧ DecAt w p q.u (-q.e) ob ∧ w0.heap.size ≤ p ∧ ∀ b, ob = some b → w0.heap.size ≤ b)
/-- What ParseQuantity comes to. -/
def PqEnd (w : World) (a0 a1 : Addr) (l : List UInt8) (e : Ending) (w' : World) : Prop := Fr (fun _ => False) w w' ∧ match parseQ l with
  | .err k => e = .returned (.tuple #[.agg zeroQ, .iface 204 (.pointer (some (if k = 1 then a0 else a1)))])
  | .ok q => ∃ v, e = .returned (.tuple #[v, .nilIface]) ∧ QtyV w w' q v

set_option maxRecDepth 100000 in
set_option maxHeartbeats 2000000 in
theorem parse_zero (s : ByteArray) (a0 a1 : Addr) (w : World) (hl : s.data.toList = [48]) :
    Calls Tryz.prog 10 #[.string s] w (PqEnd w a0 a1 [48]) := by
  have hT : s.toList = [48] := (Lib.toList_data s).trans hl
  have b1 : (s.toList == [48]) = true := by rw [hT]; rfl
  have hs : s.size = 1 := by have := congrArg List.length hl; simpa using this
  replace hT := Lib.hid hT
  replace hl := Lib.hid hl
  go_enter Tryz.func10, Tryz.ntmps10
  go_wp2_with fail
  refine bodyPost_ret (results_q _ _ w.heap.size 39 _ (0, 0) rfl (heap_alloc_new _ _) rfl) rfl ?_
  refine ⟨Fr.alloc _ _ _, _, rfl, Or.inl ⟨rfl, ?_⟩⟩
  have hs : s = tx [48] := by rw [← hl.out, tx_of]
  rw [hs]; rfl

set_option maxRecDepth 100000 in
set_option maxHeartbeats 2000000 in
theorem parse_empty (s : ByteArray) (a0 a1 : Addr) (w : World) (hl : s.data.toList = []) (h0 : w.cell? ⟨0, 0, none⟩ = some (.iface 204 (.pointer (some a0)))) :
    Calls Tryz.prog 10 #[.string s] w (PqEnd w a0 a1 []) := by
  have hs : s.size = 0 := by have := congrArg List.length hl; simpa using this
  have hlt := World.block_lt_of_cell? w _ h0
  simp only at hlt
  go_enter Tryz.func10, Tryz.ntmps10
  go_wp2_with fail
  go_region
  all_goals
    go_wp2_with fail
    refine bodyPost_ret (results_q _ _ w.heap.size 39 _ (0, 0) rfl (heap_alloc_new _ _) rfl) rfl ?_
    exact ⟨(Fr.alloc (fun _ => False) w _).trans (Fr.drew (fun _ => False) _) (fun _ _ h => h), rfl⟩

theorem neq_nil41 (v : Value) (w : World) : (binOp .neq 41 (.iface 204 v) .nilIface).run Tryz.prog w = .ok (.bool true) w := by
  have h : ∀ d : Nat, (Op.equalIn (d + 2) 41 (.iface 204 v) .nilIface).run Tryz.prog w = .ok false w := fun d => by
    simp [Op.equalIn, run_underlying Tryz.underlying41]
  simp only [binOp]
  simp [Op.equal, Op.maxDepth, h 9998]
theorem nil_neq_nil41 (w : World) : (binOp .neq 41 .nilIface .nilIface).run Tryz.prog w = .ok (.bool false) w := by kernel_rfl

theorem str_ne48 {s : ByteArray} {l : List UInt8} (hl : s.data.toList = l) (h : l ≠ [48]) : (s.toList == [48]) = false := by
  rw [(Lib.toList_data s).trans hl]
  exact beq_eq_false_iff_ne.mpr h

theorem arr5 {cs : Array Value} (h : cs.size = 5) : ∃ u0 u1 u2 u3 u4, cs = #[u0, u1, u2, u3, u4] := by
  obtain ⟨l⟩ := cs
  match l, h with
  | [a, b, c, d, e], _ => exact ⟨a, b, c, d, e, rfl⟩

theorem wpList_store5 (w : World) {ops : Array Oper} {rest : List Oper} {o : Oper} {a : Act} {Q : Exit → Act → World → Prop}
    (hgd : o.guard = none) (x y : Operand) (ho : o.op = .store 39 x y) (g : Nat) (hx : a.eval x = .pointer (some ⟨g, 0, none⟩)) (U E : Int) (D : Option Addr) (S T : ByteArray) (hy : a.eval y = .agg #[.int .i64 U, .int .i32 E, .pointer D, .string S, .string T])
    (cs : Array Value) (hg : w.heap[g]? = some (.cells cs 39 (0, 0))) (hs : cs.size = 5)
    (hK : ∀ w', w'.heap[g]? = some (.cells #[.int .i64 U, .int .i32 E, .pointer D, .string S, .string T] 39 (0, 0)) → Fr (fun k => k = g) w w' → wpList Tryz.prog ops Q rest (a.put o.dst undef) w') :
    wpList Tryz.prog ops Q (o :: rest) a w := by
  refine wpList_plain hgd fun K hK' => ?_
  obtain ⟨u0, u1, u2, u3, u4, rfl⟩ := arr5 hs
  have c0 : w.cell? ⟨g, 0, none⟩ = some u0 := by rw [cell_of_row w g 0 _ _ _ hg]; rfl
  have c1 : w.cell? ⟨g, 1, none⟩ = some u1 := by rw [cell_of_row w g 1 _ _ _ hg]; rfl
  have c2 : w.cell? ⟨g, 2, none⟩ = some u2 := by rw [cell_of_row w g 2 _ _ _ hg]; rfl
  have c3 : w.cell? ⟨g, 3, none⟩ = some u3 := by rw [cell_of_row w g 3 _ _ _ hg]; rfl
  have c4 : w.cell? ⟨g, 4, none⟩ = some u4 := by rw [cell_of_row w g 4 _ _ _ hg]; rfl
  have f0 := frozen_of_row w g 0 _ _ hg
  have f1 := frozen_of_row w g 1 _ _ hg
  have f2 := frozen_of_row w g 2 _ _ hg
  have f3 := frozen_of_row w g 3 _ _ hg
  have f4 := frozen_of_row w g 4 _ _ hg
  have h0 := heap_setCell_same w g 0 _ 39 (.int .i64 U) hg
  have h1 := heap_setCell_same _ g 1 _ 39 (.int .i32 E) h0
  have h2 := heap_setCell_same _ g 2 _ 39 (.pointer D) h1
  have h3 := heap_setCell_same _ g 3 _ 39 (.string S) h2
  have h4 := heap_setCell_same _ g 4 _ 39 (.string T) h3
  have F : ∀ (w : World) i v, Fr (fun k => k = g) w (w.setCell ⟨g, i, none⟩ v) := fun w i v => Fr.setCell (S := fun k => k = g) w ⟨g, i, none⟩ v (fun _ => rfl)
  have t : ∀ {a b c : World}, Fr (fun k => k = g) a b → Fr (fun k => k = g) b c → Fr (fun k => k = g) a c := fun h1 h2 => h1.trans h2 (fun _ _ h => h)
  have FF := hK _ h4 (t (F w 0 (.int .i64 U)) (t (F _ 1 (.int .i32 E)) (t (F _ 2 (.pointer D)) (t (F _ 3 (.string S)) (F _ 4 (.string T))))))
  have GG := hK' _ _ FF
  clear hK hK' FF h0 h1 h2 h3 h4 F t hg
  unfold Oper.wp execOp
  simp only [ho, hx, hy]
  go_simp
  exact GG
/-- The zero Quantity in a new block. -/
def zobj : Obj := .cells zeroQ 39

set_option maxRecDepth 100000 in
set_option maxHeartbeats 2000000 in
theorem parse_split_none (s : ByteArray) (l : List UInt8) (a0 a1 : Addr) (w : World) (hl : s.data.toList = l) (hne : l ≠ []) (h48 : l ≠ [48]) (hlen : l.length ≤ 200) (hsp : splitQ l = none) (h0 : w.cell? ⟨0, 0, none⟩ = some (.iface 204 (.pointer (some a0)))) :
    Calls Tryz.prog 10 #[.string s] w (PqEnd w a0 a1 l) := by
  have hs : s.size = l.length := by rw [← hl]; simp
  have b1 := str_ne48 hl h48
  have hlt := World.block_lt_of_cell? w _ h0
  simp only at hlt
  have n1 := fun v w' => neq_nil41 v w'
  have S := Lib.hid (fun w' (f : Fr (fun _ => False) w w') => splitString_any s l (.iface 204 (.pointer (some a0))) w' hl hne hlen ((f.cell (p := ⟨0, 0, none⟩) hlt (fun f => f)).trans h0))
  have fA : Hid (∀ o, Fr (fun _ => False) w (w.alloc o)) := fun o => Fr.alloc _ _ _
  have hpq : parseQ l = .err 1 := by unfold parseQ; rw [if_neg hne, if_neg h48, hsp]
  obtain ⟨n, hn⟩ : ∃ n, n = l.length := ⟨_, rfl⟩
  rw [← hn] at hs
  have hn0 : 0 < n := by rw [hn]; cases l with | nil => exact absurd rfl hne | cons a t => simp
  have hnz : ((n : Int) == 0) = false := beq_eq_false_iff_ne.mpr (by omega)
  replace hn := Lib.hid hn
  replace h0 := Lib.hid h0
  replace hpq := Lib.hid hpq
  clear hl hne h48 hlen
  go_enter Tryz.func10, Tryz.ntmps10
  go_wp2_with fail
  refine (S.out _ (fA.out _)).mono ?_
  rintro e w1 ⟨f1, hm⟩
  rw [hsp] at hm
  obtain ⟨x1, x2, x3, x4, x5, rfl⟩ := hm
  obtain ⟨g, hg⟩ : ∃ g, g = w.heap.size := ⟨_, rfl⟩
  have hat : w1.heap[g]? = some (.cells zeroQ 39 (0, 0)) := by rw [hg]; exact (f1.block _ (by simp) (fun f => f)).trans (heap_alloc_new _ _)
  have hF := Lib.hid ((fA.out zobj).trans f1 (fun _ _ h => h))
  rw [← hg]
  have hgw : w.heap.size ≤ g := Nat.le_of_eq hg.symm
  replace hg := Lib.hid hg
  replace f1 := Lib.hid f1
  go_wp2_with (first | (refine wpList_store5 w1 rfl _ _ rfl g rfl _ _ _ _ _ rfl _ hat rfl ?_; intro w2 hat2 f2) | fail)
  go_wp2_with fail
  refine bodyPost_ret (results_q _ _ g 39 _ (0, 0) rfl hat2 rfl) rfl ?_
  refine ⟨hF.out.trans f2 (fun k hk e => by omega), ?_⟩
  rw [hpq.out]
  rfl
end Go.Proofs.YtcpjclakdpjjfaaGreatDoor

namespace Go.Proofs.YtcpjclakdpjjfaaGreatDoor
open Go.RowKit

theorem method_interp (v : Value) (w : World) : (method 477 113 (.agg #[v]) "pub-stockroom/pub/apimachinery/pkg/api/resource.interpret").run Tryz.prog w = .ok (285, .agg #[v]) w := by kernel_rfl

theorem GW.frame {w w' : World} {a0 a1 a2 : Addr} {pe ps pr : Value} (h : GW w a0 a1 a2 pe ps pr) (f : Fr (fun _ => False) w w') : GW w' a0 a1 a2 pe ps pr where
  gk := h.gk.frame f (fun _ h => h.elim)
  c0 := (f.cell (p := ⟨0, 0, none⟩) (World.block_lt_of_cell? w _ h.c0) (fun f => f)).trans h.c0
  c1 := (f.cell (p := ⟨1, 0, none⟩) (World.block_lt_of_cell? w _ h.c1) (fun f => f)).trans h.c1
  c2 := (f.cell (p := ⟨2, 0, none⟩) (World.block_lt_of_cell? w _ h.c2) (fun f => f)).trans h.c2
  p0 := h.p0.frame f (fun f => f)
  p1 := h.p1.frame f (fun f => f)
  p2 := h.p2.frame f (fun f => f)
  n01 := h.n01
  n02 := h.n02
  n12 := h.n12
  eof := by
    obtain ⟨ea, he⟩ := h.eof
    exact ⟨ea, (f.cell (p := ⟨3, 0, none⟩) (World.block_lt_of_cell? w _ he) (fun f => f)).trans he⟩
  syn := var_frame h.syn f
  rng := var_frame h.rng f
  tab := var_frame h.tab f
  sz := Nat.le_trans h.sz f.size

/-- Five cells of a Quantity's block stored one by one. -/
theorem set5 {w : World} {g : Nat} {cs : Array Value} (hg : w.heap[g]? = some (.cells cs 39 (0, 0))) (hs : cs.size = 5) (v0 v1 v2 v3 v4 : Value) :
    (((((w.setCell ⟨g, 0, none⟩ v0).setCell ⟨g, 1, none⟩ v1).setCell ⟨g, 2, none⟩ v2).setCell ⟨g, 3, none⟩ v3).setCell ⟨g, 4, none⟩ v4).heap[g]? = some (.cells #[v0, v1, v2, v3, v4] 39 (0, 0)) ∧
    Fr (fun k => k = g) w (((((w.setCell ⟨g, 0, none⟩ v0).setCell ⟨g, 1, none⟩ v1).setCell ⟨g, 2, none⟩ v2).setCell ⟨g, 3, none⟩ v3).setCell ⟨g, 4, none⟩ v4) := by
  obtain ⟨u0, u1, u2, u3, u4, rfl⟩ := arr5 hs
  have h0 := heap_setCell_same w g 0 _ 39 v0 hg
  have h1 := heap_setCell_same _ g 1 _ 39 v1 h0
  have h2 := heap_setCell_same _ g 2 _ 39 v2 h1
  have h3 := heap_setCell_same _ g 3 _ 39 v3 h2
  have h4 := heap_setCell_same _ g 4 _ 39 v4 h3
  have F : ∀ (w : World) i v, Fr (fun k => k = g) w (w.setCell ⟨g, i, none⟩ v) := fun w i v => Fr.setCell (S := fun k => k = g) w ⟨g, i, none⟩ v (fun _ => rfl)
  have t : ∀ {a b c : World}, Fr (fun k => k = g) a b → Fr (fun k => k = g) b c → Fr (fun k => k = g) a c := fun h1 h2 => h1.trans h2 (fun _ _ h => h)
  exact ⟨h4, t (F w 0 v0) (t (F _ 1 v1) (t (F _ 2 v2) (t (F _ 3 v3) (F _ 4 v4))))⟩

set_option maxRecDepth 100000 in
set_option maxHeartbeats 2000000 in
theorem parse_suf_none (s : ByteArray) (l : List UInt8) (p : Pq) (a0 a1 a2 : Addr) (pe ps pr : Value) (w : World) (hG : GW w a0 a1 a2 pe ps pr) (hl : s.data.toList = l) (hne : l ≠ []) (h48 : l ≠ [48]) (hlen : l.length ≤ 200) (hsl : p.suf.length ≤ 200)
    (hsp : splitQ l = some p) (hsf : sufQ p.suf = none) :
    Calls Tryz.prog 10 #[.string s] w (PqEnd w a0 a1 l) := by
  have hs : s.size = l.length := by rw [← hl]; simp
  have b1 := str_ne48 hl h48
  have n1 := nil_neq_nil41
  have mi := method_interp
  have S := Lib.hid (fun w' (f : Fr (fun _ => False) w w') => splitString_any s l (.iface 204 (.pointer (some a0))) w' hl hne hlen (hG.frame f).c0)
  have N := Lib.hid newSuffixer_any
  have I := Lib.hid (fun q w' (hq : SufAt w' q) (f : Fr (fun _ => False) w w') => interp_any q (tx p.suf) p.suf w' hq (tx_list _) hsl (fun b x f h => by rw [hsf] at h; cases h) _ _ (hG.frame f).syn _ _ (hG.frame f).rng)
  have hc1 := Lib.hid (fun w' (f : Fr (fun _ => False) w w') => (hG.frame f).c1)
  have fA : Hid (∀ o, Fr (fun _ => False) w (w.alloc o)) := fun o => Fr.alloc _ _ _
  have hpq : parseQ l = .err 3 := by unfold parseQ; rw [if_neg hne, if_neg h48, hsp]; simp only [hsf]
  obtain ⟨n, hn⟩ : ∃ n, n = l.length := ⟨_, rfl⟩
  rw [← hn] at hs
  have hn0 : 0 < n := by rw [hn]; cases l with | nil => exact absurd rfl hne | cons a t => simp
  have hnz : ((n : Int) == 0) = false := beq_eq_false_iff_ne.mpr (by omega)
  replace hn := Lib.hid hn
  replace hpq := Lib.hid hpq
  have hsz := hG.sz
  clear hl hne h48 hlen hG hsl
  go_enter Tryz.func10, Tryz.ntmps10
  go_wp2_with fail
  refine (S.out _ (fA.out _)).mono ?_
  rintro e w1 ⟨f1, hm⟩
  rw [hsp] at hm
  simp only at hm
  subst hm
  obtain ⟨g, hg⟩ : ∃ g, g = w.heap.size := ⟨_, rfl⟩
  have hat : w1.heap[g]? = some (.cells zeroQ 39 (0, 0)) := by rw [hg]; exact (f1.block _ (by simp) (fun f => f)).trans (heap_alloc_new _ _)
  have hF1 := Lib.hid ((fA.out zobj).trans f1 (fun _ _ h => h))
  have hgw : w.heap.size ≤ g := Nat.le_of_eq hg.symm
  rw [← hg]
  have g1 : g ≠ 1 := by omega
  have g1' : 1 ≠ g := by omega
  replace hg := Lib.hid hg
  replace f1 := Lib.hid f1
  obtain ⟨SUF, hSUF⟩ : ∃ S, S = tx p.suf := ⟨_, rfl⟩
  obtain ⟨NUM, hNUM⟩ : ∃ S, S = tx p.num := ⟨_, rfl⟩
  obtain ⟨DEN, hDEN⟩ : ∃ S, S = tx p.denom := ⟨_, rfl⟩
  obtain ⟨VAL, hVAL⟩ : ∃ S, S = tx p.value := ⟨_, rfl⟩
  rw [← hSUF] at I
  rw [← hSUF, ← hNUM, ← hDEN, ← hVAL]
  replace hSUF := Lib.hid hSUF
  replace hNUM := Lib.hid hNUM
  replace hDEN := Lib.hid hDEN
  replace hVAL := Lib.hid hVAL
  clear S
  go_wp2_with fail
  refine (N.out _).mono ?_
  rintro e w2 ⟨q, rfl, hq, f2⟩
  have hat2 : w2.heap[g]? = some (.cells zeroQ 39 (0, 0)) := (f2.block _ (Array.getElem?_eq_some_iff.1 hat).1 (fun f => f)).trans hat
  have hF2 := Lib.hid (hF1.out.trans f2 (fun _ _ h => h))
  have I2 := Lib.hid (I.out q w2 hq hF2.out)
  replace hq := Lib.hid hq
  replace f2 := Lib.hid f2
  clear hat N I
  go_wp2_with fail
  refine I2.out.mono ?_
  rintro e w3 ⟨f3, hm⟩
  rw [hsf] at hm
  obtain ⟨y1, y2, y3, rfl⟩ := hm
  have hat3 : w3.heap[g]? = some (.cells zeroQ 39 (0, 0)) := (f3.block _ (Array.getElem?_eq_some_iff.1 hat2).1 (fun f => f)).trans hat2
  have hF3 := Lib.hid (hF2.out.trans f3 (fun _ _ h => h))
  have hk1 := hc1.out w3 hF3.out
  replace f3 := Lib.hid f3
  clear hat2 I2 hc1
  have k0 := cell_of_row w3 g 0 _ _ _ hat3
  have k1 := cell_of_row w3 g 1 _ _ _ hat3
  have k2 := cell_of_row w3 g 2 _ _ _ hat3
  have k3 := cell_of_row w3 g 3 _ _ _ hat3
  have k4 := cell_of_row w3 g 4 _ _ _ hat3
  have z0 := frozen_of_row w3 g 0 _ _ hat3
  have z1 := frozen_of_row w3 g 1 _ _ hat3
  have z2 := frozen_of_row w3 g 2 _ _ hat3
  have z3 := frozen_of_row w3 g 3 _ _ hat3
  have z4 := frozen_of_row w3 g 4 _ _ hat3
  unfold zeroQ at k0 k1 k2 k3 k4
  simp only [List.getElem?_toArray, List.getElem?_cons_zero, List.getElem?_cons_succ] at k0 k1 k2 k3 k4
  go_wp2_with fail
  go_region
  all_goals
    go_wp2_with fail
    obtain ⟨r1, r2⟩ := set5 hat3 rfl (.int .i64 0) (.int .i32 0) (.pointer none) (.string { data := #[] }) (.string { data := #[] })
    refine bodyPost_ret (results_q _ _ g 39 _ (0, 0) rfl r1 rfl) rfl ?_
    refine ⟨(hF3.out.trans r2 (fun k hk e => by omega)).trans (Fr.drew (fun _ => False) _) (fun _ _ h => h), ?_⟩
    rw [hpq.out]
    rfl
end Go.Proofs.YtcpjclakdpjjfaaGreatDoor

/-
  PLAIN LEMMAS for ParseQuantity's ways out: what makeQ is on each.
-/
namespace Go.Proofs.YtcpjclakdpjjfaaGreatDoor
open Go

theorem keep_dec (sc : Int) (num denom : List UInt8) (x : Int) (c : UInt8) (r : List UInt8) (hcr : num ++ denom = c :: r) :
    keepQ 10 x sc num denom = ((Int.tmod sc 3 == 0) && !(Lib.hasSuffix (num ++ denom) [48, 48, 48]) && !((c.toNat : Int) == 48)) := by
  have h3 := (tmod3 sc).1
  have hs : Lib.hasSuffix (num ++ denom) [48, 48, 48] = true ↔ [48, 48, 48] <:+ (num ++ denom) := List.isSuffixOf_iff_suffix
  have hc : (((c.toNat : Int) == 48) = true) ↔ (num ++ denom).head? = some 48 := by
    rw [hcr, List.head?_cons, beq_iff_eq]
    constructor
    · intro h; congr 1; exact UInt8.toNat_inj.mp (by show c.toNat = 48; omega)
    · intro h; rw [Option.some.inj h]; rfl
  unfold keepQ
  rw [if_pos rfl, Bool.eq_iff_iff, decide_eq_true_iff]
  simp only [Bool.and_eq_true, Bool.not_eq_true', beq_iff_eq]
  constructor
  · rintro ⟨a, b, d⟩
    refine ⟨⟨h3.mpr a, ?_⟩, ?_⟩
    · cases hh : Lib.hasSuffix (num ++ denom) [48, 48, 48] with
      | false => rfl
      | true => exact absurd (hs.mp hh) b
    · cases hh : ((c.toNat : Int) == 48) with
      | false => rfl
      | true => exact absurd (hc.mp hh) d
  · rintro ⟨⟨a, b⟩, d⟩
    refine ⟨h3.mp a, ?_, ?_⟩
    · intro h; rw [hs.mpr h] at b; cases b
    · intro h; rw [hc.mpr h] at d; cases d

theorem make_dec_fast (l : List UInt8) (p : Pq) (x : Int) (f : Nat) (h1 : (p.num.length : Int) + (p.denom.length : Int) ≤ 18) (h2 : -9 ≤ x - (p.denom.length : Int)) (c : UInt8) (r : List UInt8) (hcr : p.num ++ p.denom = c :: r) :
    makeQ l p 10 x f = ⟨false, if p.pos then (decV (p.num ++ p.denom) : Int) else -(decV (p.num ++ p.denom) : Int), x - (p.denom.length : Int), f,
      if ((Int.tmod (x - (p.denom.length : Int)) 3 == 0) && !(Lib.hasSuffix (p.num ++ p.denom) [48, 48, 48]) && !((c.toNat : Int) == 48)) then l else []⟩ := by
  rw [makeQ_eq, if_pos, keep_dec _ _ _ _ c r hcr]
  · simp only [if_true, Nat.mul_one]
  · unfold precQ
    rw [if_pos rfl, if_pos rfl]
    exact ⟨by omega, h2⟩
theorem make_dec_slow (l : List UInt8) (p : Pq) (x : Int) (f : Nat) (h : ¬ ((p.num.length : Int) + (p.denom.length : Int) ≤ 18 ∧ -9 ≤ x - (p.denom.length : Int))) :
    makeQ l p 10 x f = slowQ p.pos (decV (p.num ++ p.denom)) (x - (p.denom.length : Int)) f := by
  rw [makeQ_eq, if_neg]
  · simp only [if_true, Nat.mul_one]
  · unfold precQ
    rw [if_pos rfl, if_pos rfl]
    rintro ⟨a, b⟩
    exact h ⟨by omega, b⟩
theorem slow_zero (pos : Bool) (e : Int) (f : Nat) : slowQ pos 0 e f = ⟨true, 0, e, f, []⟩ := rfl
theorem slow_up (pos : Bool) (u : Nat) (e : Int) (f : Nat) (hu : u ≠ 0) (hf : f ≠ 1) : slowQ pos u e f = ⟨true, if pos then (nanoN u e : Int) else -(nanoN u e : Int), -9, f, []⟩ := by
  unfold slowQ
  rw [if_neg hu]
  simp only []
  rw [if_neg (fun h => hf h.1), if_neg (show ¬ (f = 1 ∧ nanoN u e < 10 ^ 9) from fun h => hf h.1)]
theorem pb_dec {p : Pq} {x e : Int} {nD dv : Nat} (h : PB p 10 x) (hD : nD = p.denom.length) (hv : dv = decV (p.num ++ p.denom)) (he : e = (nD : Int) + -x) :
    -150 ≤ e ∧ e ≤ 130 ∧ dv < TOP ∧ (-9 ≤ -e → dv * 10 ^ (-e + 9).toNat < TOP) ∧ (-e < -9 → -9 - -e ≤ 57 ∨ dv < 10 ^ (-9 - -e).toNat) := by
  have h1 := h.elo
  have h2 := h.u
  have h3 := h.hi
  have h4 := h.lo
  have h5 := h.xlen
  have ee : -e = x - (p.denom.length : Int) := by omega
  simp only [if_true, Nat.mul_one] at h1 h2 h3 h4
  rw [← hv] at h2 h3 h4
  rw [ee]
  exact ⟨by omega, by omega, h2, h3, h4⟩
end Go.Proofs.YtcpjclakdpjjfaaGreatDoor

namespace Go.Proofs.YtcpjclakdpjjfaaGreatDoor
open Go.RowKit

/-- A decimal of the call's own (laid since w0) at block p. -/
def Am (w0 w : World) (p : Nat) (z e : Int) : Prop := ∃ ob, DecAt w p z e ob ∧ Fr (fun _ => False) w0 w ∧ w0.heap.size ≤ p ∧ ∀ b, ob = some b → w0.heap.size ≤ b
theorem Am.frame {w0 w w' : World} {p : Nat} {z e : Int} (h : Am w0 w p z e) (f : Fr (fun _ => False) w w') : Am w0 w' p z e := by
  obtain ⟨ob, hd, g, hp, hb⟩ := h
  exact ⟨ob, hd.frame f (fun f => f) (fun _ _ f => f), g.trans f (fun _ _ h => h), hp, hb⟩
theorem Am.fr {w0 w : World} {p : Nat} {z e : Int} (h : Am w0 w p z e) : Fr (fun _ => False) w0 w := by
  obtain ⟨ob, hd, g, hp, hb⟩ := h
  exact g
theorem Am.op {w0 w : World} {p : Nat} {z e : Int} (h : Am w0 w p z e) {f : FuncId} {args : Array Value} {r : Value} {z' e' : Int} (H : ∀ ob, DecAt w p z e ob → Calls Tryz.prog f args w (DecOp w p ob r z' e')) :
    Calls Tryz.prog f args w fun E w' => E = .returned r ∧ Am w0 w' p z' e' := by
  obtain ⟨ob, hd, g, hp, hb⟩ := h
  refine (H ob hd).mono ?_
  rintro E w' ⟨ob', rfl, hd', f', ho⟩
  have hs := g.size
  refine ⟨rfl, ob', hd', g.trans f' ?_, hp, ?_⟩
  · rintro i hi (e | e)
    · omega
    · have := hb i e; omega
  · intro b hb'
    rcases ho with e | ⟨c, e, hc⟩
    · exact hb b (e ▸ hb')
    · rw [hb'] at e
      have : b = c := Option.some.inj e
      omega
theorem am_neg {w0 w : World} {p : Nat} {z e : Int} (h : Am w0 w p z e) : Calls Tryz.prog 32 #[ptr p, ptr p] w fun E w' => E = .returned (ptr p) ∧ Am w0 w' p (-z) e :=
  h.op (fun ob hd => dNeg_same p z e ob w hd)
theorem am_sign {w0 w : World} {p : Nat} {z e : Int} (h : Am w0 w p z e) : Calls Tryz.prog 31 #[ptr p] w fun E w' => E = .returned (.int .i64 z.sign) ∧ w = w' := by
  obtain ⟨ob, hd, g, hp, hb⟩ := h
  exact dSign_any p z ob w hd.int
theorem am_unscaled {w0 w : World} {p : Nat} {z e : Int} (h : Am w0 w p z e) : Calls Tryz.prog 33 #[ptr p] w fun E w' => E = .returned (.tuple #[.int .i64 (IntKind.i64.wrap z), .bool (cmpZ (IntKind.i64.wrap z) z == 0)]) ∧ Fr (fun _ => False) w w' := by
  obtain ⟨ob, hd, g, hp, hb⟩ := h
  exact dUnscaled_any p z ob w hd.int
theorem am_scale {w0 w : World} {p : Nat} {z e : Int} (h : Am w0 w p z e) : Calls Tryz.prog 24 #[ptr p] w fun r w' => r = .returned (.int .i32 e) ∧ w = w' := by
  obtain ⟨ob, hd, g, hp, hb⟩ := h
  exact dScale_any p e w hd.c2
theorem am_setScale {w0 w : World} {p : Nat} {z e : Int} (h : Am w0 w p z e) (e' : Int) : Calls Tryz.prog 23 #[ptr p, .int .i32 e'] w fun r w' => r = .returned (ptr p) ∧ Am w0 w' p z e' := by
  obtain ⟨ob, hd, g, hp, hb⟩ := h
  refine (dSetScale_any p e' _ w hd.c2 hd.int.plain).mono ?_
  rintro r w' ⟨rfl, rfl⟩
  obtain ⟨y1, y2⟩ := hd.int.set2 (.int .i32 e')
  exact ⟨rfl, ob, ⟨y1, World.cell?_setCell_same w ⟨p, 2, none⟩ (.int .i32 e') hd.c2⟩, g.trans y2 (fun i hi e => by omega), hp, hb⟩
theorem am_set {w0 : World} (pz : Nat) (s : ByteArray) (l sg d1 dt d2 : List UInt8) (ea : Addr) (w : World) (hl : s.data.toList = l) (V : ValT l sg d1 dt d2) (hlen : l.length ≤ 150)
    (hz : IntC w pz false (.slice none 0 0) none 0) (cz : w.cell? ⟨pz, 2, none⟩ = some (.int .i32 0)) (hE : w.cell? ⟨3, 0, none⟩ = some (.iface 204 (.pointer (some ea)))) (f : Fr (fun _ => False) w0 w) (hpz : w0.heap.size ≤ pz) (h3 : 3 < w0.heap.size) :
    Calls Tryz.prog 22 #[ptr pz, .string s] w fun E w' => E = .returned (.tuple #[ptr pz, .bool true]) ∧ Am w0 w' pz (sgn (decide (sg = [45])) (decV (d1 ++ d2))) (d2.length : Int) := by
  have hd : (d1 ++ d2).length ≤ 150 := by
    have := congrArg List.length V.eq
    simp only [List.length_append] at this ⊢
    omega
  refine (dSetString_any pz s l sg d1 dt d2 ea w hl V (by omega) hd hz cz hE (by omega)).mono ?_
  rintro E w' ⟨ob, rfl, g1, g2, g3⟩
  have := f.size
  exact ⟨rfl, ob, g1, f.trans g2 (fun i hi e => by omega), hpz, fun b hb => by have := g3 b hb; omega⟩

theorem TOP_W : TOP < W64 ^ 30 := by unfold TOP W64; decide +kernel
theorem am_round {w0 w : World} {p : Nat} {u : Nat} {e : Int} (h : Am w0 w p (u : Int) e) (hg : Gk w) (e1 : -150 ≤ e) (e2 : e ≤ 130) (hu : u < TOP) (hhi : -9 ≤ -e → u * 10 ^ (-e + 9).toNat < TOP) (hlo : -e < -9 → -9 - -e ≤ 57 ∨ u < 10 ^ (-9 - -e).toNat) :
    Calls Tryz.prog 34 #[ptr p, ptr p, .int .i32 9, .iface 131 RUP] w fun E w' => E = .returned (ptr p) ∧ Am w0 w' p ((nanoN u (-e) : Nat) : Int) 9 := by
  refine h.op (fun ob hd => ?_)
  have hd' : DecAt w p (sgn false u) e ob := hd
  by_cases h9 : e ≤ 9
  · have hX := hhi (by omega)
    have en : (-e + 9).toNat = (9 - e).toNat := by congr 1; omega
    rw [en] at hX
    have R := dRound_any p p u false 9 _ e e (9 - e).toNat 0 ob ob w hd hd' (by omega) (by omega) (by omega) (Or.inr rfl) (by omega) (by omega) (Nat.lt_trans hX TOP_W) (Or.inl (by omega)) hg
    have hn : nanoN u (-e) = u * 10 ^ (9 - e).toNat / 10 ^ 0 + (if u * 10 ^ (9 - e).toNat % 10 ^ 0 = 0 then 0 else 1) := by
      unfold nanoN
      rw [if_pos (by omega), Nat.pow_zero, Nat.div_one, Nat.mod_one, if_pos rfl, en]; rfl
    rw [hn]
    exact R
  · have hl := hlo (by omega)
    have en : (-9 - -e).toNat = (e - 9).toNat := by congr 1; omega
    rw [en] at hl
    have R := dRound_any p p u false 9 _ e e 0 (e - 9).toNat ob ob w hd hd' (by omega) (by omega) (by omega) (Or.inl rfl) (by omega) (by omega) (by rw [Nat.pow_zero, Nat.mul_one]; exact Nat.lt_trans hu TOP_W) (by rcases hl with h | h; left; omega; right; exact h) hg
    have hn : nanoN u (-e) = u * 10 ^ 0 / 10 ^ (e - 9).toNat + (if u * 10 ^ 0 % 10 ^ (e - 9).toNat = 0 then 0 else 1) := by
      unfold nanoN ceilDiv
      rw [if_neg (by omega), Nat.pow_zero, Nat.mul_one, en]
    rw [hn]
    exact R
end Go.Proofs.YtcpjclakdpjjfaaGreatDoor


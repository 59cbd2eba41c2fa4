/-
  A part of the proof of FnQuantityAgain (texts V4, V5, V6, V7, V8 of mine, joined).
-/
import Derived.Test.YtcpjclakdpjjfaaGreatDoorM42
import Derived.Lib.SmallJoins
import Derived.Deep.QuietTactic
import Derived.BigQuiet
import Derived.Test.YtcpjclakdpjjfaaGreatDoorM39
namespace Go.Proofs.YtcpjclakdpjjfaaGreatDoor
open Go.RowKit Go.Lib Go.Sort

theorem splice_two (L : List Value) (k : Nat) (a b : List Value) (h : k + a.length + b.length ≤ L.length) :
    (L.take k ++ a ++ L.drop (k + a.length)).take (k + a.length) ++ b ++ (L.take k ++ a ++ L.drop (k + a.length)).drop (k + a.length + b.length) = L.take k ++ (a ++ b) ++ L.drop (k + (a ++ b).length) := by
  have e : (L.take k ++ a).length = k + a.length := by rw [List.length_append, List.length_take]; omega
  rw [List.take_append_of_le_length (by omega), ← e, List.take_length, List.drop_append, List.drop_eq_nil_of_le (by omega), List.nil_append, List.drop_drop, e]
  simp only [List.append_assoc, List.length_append]
  congr 4
  omega

theorem Fr.setRow (w : World) (g : Nat) (cs : Array Value) : Fr (fun k => k = g) w (w.setRow g cs) :=
  ⟨rfl, rfl, rfl, by simp, fun _ _ hk => setRow_other w g _ cs hk⟩

/-- What an append of bytes onto a row with room comes to. -/
def AppEnd (w : World) (g o n cap : Nat) (cur : Array Value) (l : List UInt8) (e : Ending) (w' : World) : Prop :=
  e = .returned (.slice (some ⟨g, o, none⟩) (n + l.length) cap) ∧ w'.heap[g]? = some (.cells (cur.toList.take (o + n) ++ byteCells l ++ cur.toList.drop (o + n + l.length)).toArray 5 (0, 0)) ∧ Fr (fun k => k = g) w w'

theorem app_small (m g off n cap : Nat) (hm : m < 100) (cur : Array Value) (w : World) (hg : w.heap[g]? = some (.cells cur 5 (0, 0))) (hroom : n + (decDigits m).length ≤ cap) (hfit : off + n + (decDigits m).length ≤ cur.size) :
    Calls Tryz.prog 176 #[.slice (some ⟨g, off, none⟩) n cap, .int .u64 (m : Int), .int .i64 10] w (AppEnd w g off n cap cur (decDigits m)) := by
  refine (appUint_small m g off n cap hm cur w hg hroom hfit).mono ?_
  rintro e w' ⟨he, hw⟩
  subst hw
  exact ⟨he, setRow_heap _ _ _ _ _ _ hg, Fr.setRow _ _ _⟩

set_option maxRecDepth 100000 in
set_option maxHeartbeats 2000000 in
theorem app_big (u g off n cap : Nat) (hu : 100 ≤ u) (hu64 : u < 18446744073709551616) (cur : Array Value) (w : World) (hg : w.heap[g]? = some (.cells cur 5 (0, 0))) (hroom : n + (decDigits u).length ≤ cap) (hfit : off + n + (decDigits u).length ≤ cur.size)
    (htab : Lib.TabIs Tryz.prog w "internal/strconv.uint64pow10" .u64 Lib.pow10Tab) :
    Calls Tryz.prog 176 #[.slice (some ⟨g, off, none⟩) n cap, .int .u64 (u : Int), .int .i64 10] w (AppEnd w g off n cap cur (decDigits u)) := by
  have hu1 : 1 ≤ u := by omega
  have hnd20 : Lib.nDigits u ≤ 20 := by have := Lib.numDigits_eq u hu1 hu64; split at this <;> omega
  have hgl : g < w.heap.size := (Array.getElem?_eq_some_iff.1 hg).1
  obtain ⟨i0, hi, hz0, hz1, hz2⟩ := info5'
  have hal : Tryz.prog.arrayLen 280 = 24 := by simp [Program.arrayLen, Tryz.underlying280]
  have hsl : ∀ W, (Instr.sliceAt 280 (.pointer (some ⟨w.heap.size, 0, none⟩)) none (some (.int .i64 (Lib.nDigits u : Int))) none).run Tryz.prog W = .ok (.slice (some ⟨w.heap.size, 0, none⟩) (Lib.nDigits u) 24) W := fun W => by
    rw [run_sliceAt_array_h W 280 ⟨w.heap.size, 0, none⟩ (by simp [Program.arrayLen, Program.elem, Tryz.underlying280]) .i64 (Lib.nDigits u : Int) (by omega) (by rw [hal]; omega)]
    go_simp
  have hH0 := Lib.holds_zero0 w 280 (Lib.nDigits u) (by omega)
  have hfmt : Calls Tryz.prog 179 #[.slice (some ⟨w.heap.size, 0, none⟩) (Array.replicate (Lib.nDigits u) (0 : UInt8)).size 24, .int .u64 u] (w.alloc (.cells Lib.zeros24 280)) _ := Any.internal_strconv_formatBase10 { Tryz.laysM176 with } w.heap.size 0 24 u (Array.replicate (Lib.nDigits u) 0) (w.alloc (.cells Lib.zeros24 280)) hH0 (by rw [Array.size_replicate]; exact Lib.lt_pow_nDigits u) hu64 (by rw [Array.size_replicate]; omega)
  rw [Array.size_replicate] at hfmt
  have hND : Calls Tryz.prog 178 #[.int .u64 u] (w.alloc (.cells Lib.zeros24 280)) _ := Any.internal_strconv_numDigits { Tryz.laysM176 with } u hu1 hu64 _ (Lib.tabIs_alloc htab _)
  have HH0 := Lib.hid hH0
  have iu : (100 : Int) ≤ (u : Int) := by omega
  clear hH0 hal
  replace hfmt := Lib.hid hfmt
  replace hND := Lib.hid hND
  replace hg := Lib.hid hg
  replace htab := Lib.hid htab
  rw [Lib.decDigits_length] at hroom hfit
  go_enter Tryz.func176, Tryz.ntmps176
  go_wp2_with fail
  refine hND.out.mono ?_
  rintro e w' ⟨rfl, rfl⟩
  go_wp2_with fail
  refine hfmt.out.mono ?_
  rintro e w' ⟨rfl, k, v', dk, rfl, hF⟩
  have hcells : ∀ j u', (Lib.byteCells (Lib.decDigits u))[j]? = some u' → ((putRow (fun (b : UInt8) => Value.int .u8 (b.toNat : Int)) (w.alloc (.cells Lib.zeros24 280)) w.heap.size 0 dk).drewN k).cell? ((⟨w.heap.size, 0, none⟩ : Addr).add j) = some u' := by
    intro j u' hj
    have hjl : j < (Lib.decDigits u).length := by
      have h5 := (List.getElem?_eq_some_iff.1 hj).1
      rwa [Lib.byteCells_length] at h5
    have e5 : (Lib.byteCells (Lib.decDigits u))[j]? = some (Value.int .u8 ((Lib.decDigits u)[j].toNat : Int)) := by simp [Lib.byteCells, hjl]
    rw [e5] at hj
    cases hj
    rw [Lib.row_is_numeral hF j hjl, Lib.add_plain, World.cell?_drewN]
    exact cell?_putRow (fun (b : UInt8) => Value.int .u8 (b.toNat : Int)) _ w.heap.size 0 _ dk HH0.out (by rw [hF.size, Array.size_replicate]) j (by rw [hF.size]; rw [Lib.decDigits_length] at hjl; exact hjl)
  obtain ⟨os, eo⟩ := Lib.fin_at w (.cells Lib.zeros24 280) dk k 0
  have hnx2 : Below w.heap.size w ((putRow (fun (b : UInt8) => Value.int .u8 (b.toNat : Int)) (w.alloc (.cells Lib.zeros24 280)) w.heap.size 0 dk).drewN k) := by rw [eo]; exact Lib.below_grow _ w (Nat.le_refl _) k os
  generalize (putRow (fun (b : UInt8) => Value.int .u8 (b.toNat : Int)) (w.alloc (.cells Lib.zeros24 280)) w.heap.size 0 dk).drewN k = W2 at hcells hnx2 ⊢
  clear eo HH0 hfmt
  have f2 : Fr (fun _ => False) w W2 := Fr.of_below hnx2
  have hg2 := (f2.block g hgl (fun f => f)).trans hg.out
  replace hcells := Lib.hid hcells
  replace hg2 := Lib.hid hg2
  replace f2 := Lib.hid f2
  replace hnx2 := Lib.hid hnx2
  go_wp2_with (at_builtin; refine wpList_append_cells_off _ rfl _ _ 96 rfl 5 i0 Tryz.underlying96 hi hz1 g off n cap cur rfl hg2.out ⟨w.heap.size, 0, none⟩ (Lib.nDigits u) 24 rfl (Lib.byteCells (Lib.decDigits u)) ?c0 hcells.out ?c2 hroom hfit ?_)
  case c0 => rw [Lib.byteCells_length, Lib.decDigits_length]
  case c2 => intro u' hu'; simp only [Lib.byteCells, List.mem_map] at hu'; obtain ⟨b, _, rfl⟩ := hu'; rfl
  go_wp2_with fail
  go_ret
  refine ⟨by rw [Lib.decDigits_length]; rfl, ?_, f2.out.none.trans (Fr.setRow _ _ _) (fun _ _ h => h)⟩
  rw [Lib.decDigits_length, List.append_assoc]
  exact setRow_heap _ _ _ _ _ _ hg2.out
end Go.Proofs.YtcpjclakdpjjfaaGreatDoor

namespace Go.Proofs.YtcpjclakdpjjfaaGreatDoor
open Go.RowKit Go.Lib Go.Sort Go.Joins

theorem app_any (u g off n cap : Nat) (hu64 : u < 18446744073709551616) (cur : Array Value) (w : World) (hg : w.heap[g]? = some (.cells cur 5 (0, 0))) (hroom : n + (decDigits u).length ≤ cap) (hfit : off + n + (decDigits u).length ≤ cur.size)
    (htab : Lib.TabIs Tryz.prog w "internal/strconv.uint64pow10" .u64 Lib.pow10Tab) :
    Calls Tryz.prog 176 #[.slice (some ⟨g, off, none⟩) n cap, .int .u64 (u : Int), .int .i64 10] w (AppEnd w g off n cap cur (decDigits u)) := by
  by_cases h : u < 100
  · exact app_small u g off n cap h cur w hg hroom hfit
  · exact app_big u g off n cap (by omega) hu64 cur w hg hroom hfit htab

set_option maxRecDepth 100000 in
set_option maxHeartbeats 2000000 in
theorem appInt_neg (u g off n cap : Nat) (hu1 : 1 ≤ u) (hu : u < 1000000) (cur : Array Value) (w : World) (hg : w.heap[g]? = some (.cells cur 5 (0, 0))) (hroom : n + (1 + (decDigits u).length) ≤ cap) (hfit : off + n + (1 + (decDigits u).length) ≤ cur.size)
    (htab : Lib.TabBelow Tryz.prog g w "internal/strconv.uint64pow10" .u64 Lib.pow10Tab) :
    Calls Tryz.prog 158 #[.slice (some ⟨g, off, none⟩) n cap, .int .i64 (-(u : Int)), .int .i64 10] w (AppEnd w g off n cap cur (45 :: decDigits u)) := by
  have hwr : IntKind.u64.wrap (-IntKind.u64.wrap (-(u : Int))) = (u : Int) := by rw [IntKind.wrap_u64, IntKind.wrap_u64]; omega
  have hneg : -(u : Int) < 0 := by omega
  have hgl : g < w.heap.size := (Array.getElem?_eq_some_iff.1 hg).1
  obtain ⟨i0, hi, hz0, hz1, hz2⟩ := info5'
  have hsp := splice_two cur.toList (off + n) [Value.int .u8 45] (byteCells (decDigits u)) (by have hcl : cur.toList.length = cur.size := Array.length_toList; rw [byteCells_length, hcl]; show off + n + 1 + _ ≤ _; omega)
  have hR := Lib.hid hroom
  have hF := Lib.hid hfit
  rw [List.length_singleton] at hsp
  replace htab := Lib.hid htab
  replace hg := Lib.hid hg
  have r1 : n + 1 ≤ cap := by omega
  have r2 : off + n + 1 ≤ cur.size := by omega
  clear hroom hfit
  go_enter Tryz.func158, Tryz.ntmps158
  go_wp2_with (at_builtin; refine wpList_append_cells_off _ rfl _ _ 96 rfl 5 i0 Tryz.underlying96 hi hz1 g off n cap cur rfl ?hg ⟨w.heap.size, 0, none⟩ 1 1 rfl [Value.int .u8 45] rfl ?hc ?ho r1 r2 ?_)
  case hg => exact ((Fr.alloc (fun _ => False) w _).block g hgl (fun f => f)).trans hg.out
  case hc =>
    intro j v hj
    match j, hj with
    | 0, hj =>
      simp only [List.getElem?_cons_zero, Option.some.injEq] at hj
      subst hj
      rw [Lib.add_plain]
      exact cell_alloc_mark_at w _ _ _ _ 0 rfl
  case ho => intro u' hu'; simp only [List.mem_singleton] at hu'; subst hu'; rfl
  obtain ⟨C1, hC1⟩ : ∃ C, C = (cur.toList.take (off + n) ++ Value.int .u8 45 :: cur.toList.drop (off + n + 1)).toArray := ⟨_, rfl⟩
  have hg1 := setRow_heap (w.alloc (.cells #[.int .u8 45] 5)) g cur C1 5 (0, 0) (((Fr.alloc (fun _ => False) w _).block g hgl (fun f => f)).trans hg.out)
  have f1 : Fr (fun k => k = g) w ((w.alloc (.cells #[.int .u8 45] 5)).setRow g C1) := (Fr.alloc (fun k => k = g) w _).trans (Fr.setRow _ _ _) (fun _ _ h => h)
  rw [← hC1]
  generalize (w.alloc (.cells #[.int .u8 45] 5)).setRow g C1 = w1 at hg1 f1 ⊢
  have hCL : C1.toList = cur.toList.take (off + n) ++ [Value.int .u8 45] ++ cur.toList.drop (off + n + 1) := by rw [hC1]; simp
  have hCS : C1.size = off + n + 1 + (cur.size - (off + n + 1)) := by
    rw [← Array.length_toList, hCL, List.length_append, List.length_append, List.length_take, List.length_drop, Array.length_toList]
    show min (off + n) cur.size + 1 + _ = _
    omega
  rw [← hCL] at hsp
  have A := Lib.hid (app_any u g off (n + 1) cap (by omega) _ w1 hg1 (by have := hR.out; omega) (by
    have := hF.out
    rw [hCS]
    omega) (htab.out w1 ⟨f1.os, f1.tape, f1.output, f1.size, fun k hk => f1.block k (by omega) (by omega)⟩))
  replace hg1 := Lib.hid hg1
  replace f1 := Lib.hid f1
  replace hsp := Lib.hid hsp
  replace hCL := Lib.hid hCL
  clear hC1 hCS
  go_wp2_with fail
  refine A.out.mono ?_
  rintro e w2 ⟨rfl, hg2, f2⟩
  replace hg2 := Lib.hid hg2
  replace f2 := Lib.hid f2
  go_wp2_with fail
  go_ret
  refine ⟨?_, ?_, f1.out.trans f2.out (fun _ _ h => h)⟩
  · rw [List.length_cons, show n + ((decDigits u).length + 1) = n + 1 + (decDigits u).length from by omega]
    rfl
  · rw [hg2.out]
    have := hsp.out
    have e1 : off + (n + 1) = off + n + 1 := by omega
    rw [e1]
    have e2 : byteCells (45 :: decDigits u) = [Value.int .u8 45] ++ byteCells (decDigits u) := by simp [byteCells]
    rw [e2, ← byteCells_length (decDigits u), ← byteCells_length (45 :: decDigits u), e2, ← this]

set_option maxRecDepth 100000 in
set_option maxHeartbeats 2000000 in
theorem appInt_pos (u g off n cap : Nat) (hu : u < 1000000) (cur : Array Value) (w : World) (hg : w.heap[g]? = some (.cells cur 5 (0, 0))) (hroom : n + (decDigits u).length ≤ cap) (hfit : off + n + (decDigits u).length ≤ cur.size)
    (htab : Lib.TabBelow Tryz.prog g w "internal/strconv.uint64pow10" .u64 Lib.pow10Tab) :
    Calls Tryz.prog 158 #[.slice (some ⟨g, off, none⟩) n cap, .int .i64 (u : Int), .int .i64 10] w (AppEnd w g off n cap cur (decDigits u)) := by
  have A := Lib.hid (app_any u g off n cap (by omega) cur w hg hroom hfit htab.here)
  have hpos : ¬ (u : Int) < 0 := by omega
  have hu2 : (u : Int) < 1000000 := by omega
  clear hg hroom hfit htab
  go_enter Tryz.func158, Tryz.ntmps158
  go_wp2_with fail
  refine A.out.mono ?_
  rintro e w2 ⟨rfl, hg2, f2⟩
  replace hg2 := Lib.hid hg2
  replace f2 := Lib.hid f2
  go_wp2_with fail
  go_ret
  exact ⟨rfl, hg2.out, f2.out⟩

theorem appInt_any (x : Int) (g off n cap : Nat) (h : x.natAbs < 1000000) (cur : Array Value) (w : World) (hg : w.heap[g]? = some (.cells cur 5 (0, 0))) (hroom : n + (itoa x).length ≤ cap) (hfit : off + n + (itoa x).length ≤ cur.size)
    (htab : Lib.TabBelow Tryz.prog g w "internal/strconv.uint64pow10" .u64 Lib.pow10Tab) :
    Calls Tryz.prog 158 #[.slice (some ⟨g, off, none⟩) n cap, .int .i64 x, .int .i64 10] w (AppEnd w g off n cap cur (itoa x)) := by
  by_cases hneg : x < 0
  · obtain ⟨u, rfl⟩ : ∃ u : Nat, x = -(u : Int) := ⟨x.natAbs, by omega⟩
    have hu1 : 1 ≤ u := by omega
    rw [Lib.itoa_neg u hu1] at hroom hfit ⊢
    rw [List.length_cons] at hroom hfit
    exact appInt_neg u g off n cap hu1 (by omega) cur w hg (by omega) (by omega) htab
  · obtain ⟨u, rfl⟩ : ∃ u : Nat, x = u := ⟨x.toNat, by omega⟩
    rw [Lib.itoa_nonneg] at hroom hfit ⊢
    exact appInt_pos u g off n cap (by omega) cur w hg hroom hfit htab

set_option maxRecDepth 100000 in
set_option maxHeartbeats 2000000 in
theorem appInt137 (x : Int) (g off n cap : Nat) (h : x.natAbs < 1000000) (cur : Array Value) (w : World) (hg : w.heap[g]? = some (.cells cur 5 (0, 0))) (hroom : n + (itoa x).length ≤ cap) (hfit : off + n + (itoa x).length ≤ cur.size)
    (htab : Lib.TabBelow Tryz.prog g w "internal/strconv.uint64pow10" .u64 Lib.pow10Tab) :
    Calls Tryz.prog 137 #[.slice (some ⟨g, off, none⟩) n cap, .int .i64 x, .int .i64 10] w (AppEnd w g off n cap cur (itoa x)) := by
  have A := Lib.hid (appInt_any x g off n cap h cur w hg hroom hfit htab)
  clear hg hroom hfit htab h
  go_enter Tryz.func137, Tryz.ntmps137
  go_wp2_with fail
  refine A.out.mono ?_
  rintro e w2 ⟨rfl, hg2, f2⟩
  replace hg2 := Lib.hid hg2
  replace f2 := Lib.hid f2
  go_wp2_with fail
  go_ret
  exact ⟨rfl, hg2.out, f2.out⟩
end Go.Proofs.YtcpjclakdpjjfaaGreatDoor

namespace Go.Proofs.YtcpjclakdpjjfaaGreatDoor
open Go.RowKit Go.Lib Go.Joins

theorem info5s : (Tryz.prog.info? 5).map (·.size) = some 1 := by kernel_rfl

theorem tabBelow_alloc {w : World} {n : String} {k : IntKind} {zs : List Int} (h : Lib.TabIs Tryz.prog w n k zs) {S : Nat → Prop} {w' : World} (f : Fr S w w') (hS : ∀ i, S i → w.heap.size ≤ i) : Lib.TabBelow Tryz.prog w.heap.size w' n k zs := fun w'' hb =>
  Lib.tabBelow_of_tabIs h w'' ((below_of_fr f hS (Nat.le_refl _)).trans hb)

set_option maxRecDepth 100000 in
set_option maxHeartbeats 2000000 in
theorem scons_exp (p : Nat) (x : Int) (hx0 : x ≠ 0) (hx1 : -1000 ≤ x) (hx2 : x ≤ 1000) (w : World) (htab : Lib.TabIs Tryz.prog w "internal/strconv.uint64pow10" .u64 Lib.pow10Tab) :
    Calls Tryz.prog 281 #[.pointer (some ⟨p, 0, none⟩), .int .i32 10, .int .i32 x, .string (fmtT 0)] w (ConsEnd w (dsuf 0 x)) := by
  have hd : dsuf 0 x = 101 :: Lib.itoa x := by unfold dsuf; rw [if_neg (by decide), if_neg hx0]
  rw [hd]
  obtain ⟨m, hm⟩ : ∃ m, m = (Lib.itoa x).length := ⟨_, rfl⟩
  have hm4 : m ≤ 5 := by rw [hm]; exact itoa_len (k := 4) (by omega) (by omega)
  have hm1 : 1 ≤ m := by
    obtain ⟨c, hc, _⟩ := itoa_dg x
    rw [hm]; exact List.length_pos_of_mem hc
  obtain ⟨N, hN⟩ : ∃ N, N = w.heap.size := ⟨_, rfl⟩
  obtain ⟨w1, hw1⟩ : ∃ w1, w1 = w.alloc (.cells (brow 8) 5) := ⟨_, rfl⟩
  have M : (Instr.makeSlice 96 (.int .i64 8) (.int .i64 8)).run Tryz.prog w = .ok (.slice (some ⟨N, 0, none⟩) 8 8) w1 := by rw [hw1, hN]; exact run_make96 8 8 (by omega) (by omega) w
  have h1 : w1.heap[N]? = some (.cells (brow 8) 5 (0, 0)) := by rw [hw1, hN]; exact heap_alloc_new _ _
  have c0 : w1.cell? ⟨N, 0, none⟩ = some (.int .u8 0) := by rw [cell_of_block h1]; rfl
  have z0 : w1.frozen? ⟨N, 0, none⟩ = false := unfrozen_of_block h1 0
  obtain ⟨w2, hw2⟩ : ∃ w2, w2 = w1.setCell ⟨N, 0, none⟩ (.int .u8 101) := ⟨_, rfl⟩
  have h2 : w2.heap[N]? = some (.cells ((brow 8).setIfInBounds 0 (.int .u8 101)) 5 (0, 0)) := by rw [hw2]; exact block_setCell h1 _
  have f2 : Fr (fun k => k = N) w w2 := by
    rw [hw2, hw1]
    exact (Fr.alloc (fun k => k = N) w _).trans (Fr.setCell (S := fun k => k = N) _ _ _ (fun _ => rfl)) (fun _ _ h => h)
  have TB : Lib.TabBelow Tryz.prog N w2 "internal/strconv.uint64pow10" .u64 Lib.pow10Tab := by
    rw [hN]
    exact tabBelow_alloc htab f2 (fun i h => by omega)
  have A := Lib.hid (appInt137 x N 1 0 7 (by omega) _ w2 h2 (by rw [← hm]; omega) (by rw [← hm, Array.size_setIfInBounds]; show 1 + 0 + m ≤ 8; omega) TB)
  have PE := fun w => ptr_eql_same (P := Tryz.prog) ⟨N, 1, none⟩ w Tryz.underlying235 info5s
  have hm0 : (0 : Int) < (m : Int) := by omega
  have hml : (m : Int) ≤ 5 := by omega
  replace hw1 := Lib.hid hw1
  replace hw2 := Lib.hid hw2
  replace h1 := Lib.hid h1
  replace h2 := Lib.hid h2
  replace f2 := Lib.hid f2
  replace hN := Lib.hid hN
  replace hm := Lib.hid hm
  clear TB htab
  unfold fmtT
  go_enter Tryz.func281, Tryz.ntmps281
  go_wp2_with (rw [← hw2.out])
  refine A.out.mono ?_
  rintro e w3 ⟨he, h3, f3⟩
  rw [Nat.zero_add, ← hm.out] at he
  subst he
  replace h3 := Lib.hid h3
  replace f3 := Lib.hid f3
  go_wp2_with fail
  go_quiet (fail)
  go_wp2_with fail
  go_ret2
  have ht : List.take (1 + 0) ((brow 8).setIfInBounds 0 (Value.int IntKind.u8 101)).toList = [Value.int .u8 101] := rfl
  refine ⟨.slice (some ⟨N, 0, none⟩) (1 + m) 8, true, rfl, Or.inr ⟨N, 8, _, ?_, ⟨_, h3.out⟩, ?_⟩, ?_⟩
  · rw [List.length_cons, ← hm.out, Nat.add_comm]
  · intro i hi
    rw [ht, List.getElem?_toArray]
    match i, hi with
    | 0, _ => rfl
    | i + 1, hi =>
      have hi' : i < (itoa x).length := by simpa using hi
      rw [List.singleton_append, List.cons_append, List.getElem?_cons_succ, List.getElem?_append_left (by rw [byteCells_length]; exact hi')]
      simp [byteCells, hi']
  · have f23 : Fr (fun k => k = N) w w3 := f2.out.trans f3.out (fun _ _ h => h)
    have f23' : Fr (fun _ => False) w w3 := ⟨f23.os, f23.tape, f23.output, f23.size, fun k hk _ => f23.block k hk (by have := hN.out; omega)⟩
    exact f23'.trans (Fr.drewN (fun _ => False) _ _) (fun _ _ h => h)
end Go.Proofs.YtcpjclakdpjjfaaGreatDoor

namespace Go.Proofs.YtcpjclakdpjjfaaGreatDoor
open Go.RowKit Go.Joins

/-- What CanonicalizeBytes comes to. -/
def CanEnd (w : World) (B : Nat) (m : List UInt8) (e : Ending) (w' : World) : Prop := ∃ l1 l2 v sv, e = .returned (.tuple #[v, sv]) ∧ m = l1 ++ l2 ∧ Below B w w' ∧ SfxAt w' v l1 ∧ SfxAt w' sv l2 ∧
  ((sv = .slice none 0 0 ∧ ∃ g c, v = .slice (some ⟨g, 0, none⟩) l1.length c ∧ l1.length ≤ c) ∨ w'.ownsRow B 5 1 v l1.length (Lib.byteCells l1))

theorem canD_bound {q : MQ} (hu : q.u ≠ 0) (hlo : -9 ≤ q.e) (hq : QB q) : -1000 ≤ (canD q.u q.e).2 ∧ (canD q.u q.e).2 ≤ 1000 := by
  obtain ⟨c1, c2, c3, c4⟩ := canD_spec q.u q.e hu (by omega)
  have hx9 : -12 ≤ (canD q.u q.e).2 := by omega
  have hn := hq.n hlo
  have hx9' : -9 ≤ (canD q.u q.e).2 := by have := c1.three; omega
  have hv : (canD q.u q.e).1.natAbs * 10 ^ ((canD q.u q.e).2 + 9).toNat = q.u.natAbs * 10 ^ (q.e + 9).toNat := by
    have e := congrArg Int.natAbs c2
    rw [sv_abs, sv_abs] at e
    have e1 : (200 + (canD q.u q.e).2).toNat = ((canD q.u q.e).2 + 9).toNat + 191 := by omega
    have e2 : (200 + q.e).toNat = (q.e + 9).toNat + 191 := by omega
    rw [e1, e2, Nat.pow_add, Nat.pow_add, ← Nat.mul_assoc, ← Nat.mul_assoc] at e
    exact Nat.eq_of_mul_eq_mul_right (Nat.pow_pos (by omega)) e
  rw [← hv] at hn
  have hx : (canD q.u q.e).2 < (136 : Nat) := by
    have h1 : 1 * 10 ^ ((canD q.u q.e).2 + 9).toNat ≤ (canD q.u q.e).1.natAbs * 10 ^ ((canD q.u q.e).2 + 9).toNat := Nat.mul_le_mul_right _ (by have := c1.m0; omega)
    rw [Nat.one_mul] at h1
    have h2 := (Nat.pow_lt_pow_iff_right (show 1 < 10 by decide)).1 (Nat.lt_of_le_of_lt h1 hn)
    omega
  omega

theorem cons_dec (f : Nat) (x : Int) (hx : f = 2 ∨ (f = 0 ∧ -1000 ≤ x ∧ x ≤ 1000)) (p : Nat) (w : World) (h : SufAt w p) (htab : Lib.TabIs Tryz.prog w "internal/strconv.uint64pow10" .u64 Lib.pow10Tab) :
    Calls Tryz.prog 281 #[.pointer (some ⟨p, 0, none⟩), .int .i32 10, .int .i32 x, .string (fmtT f)] w (ConsEnd w (dsuf f x)) := by
  rcases hx with rfl | ⟨rfl, h1, h2⟩
  · exact cons_dec2 p x w h
  · by_cases h0 : x = 0
    · subst h0
      refine (scons_exp0 p w).mono ?_
      rintro e w' ⟨rfl, hw⟩
      subst hw
      exact ⟨_, true, rfl, Or.inl ⟨rfl, rfl⟩, Fr.refl _ _⟩
    · exact scons_exp p x h0 h1 h2 w htab

theorem method_cons (v : Value) (w : World) : (method 477 113 (.agg #[v]) "pub-stockroom/pub/apimachinery/pkg/api/resource.constructBytes").run Tryz.prog w = .ok (281, v) w := by kernel_rfl

theorem strip_lt {n : Nat} (h0 : 0 < n) (h : n < TOP) : (strip 1024 n).2 ≤ 100 := by
  obtain ⟨e, _, hp⟩ := strip_spec 1024 n (by omega) h0
  have h1 : 1024 ^ (strip 1024 n).2 < 1024 ^ 100 := by
    refine Nat.lt_of_le_of_lt ?_ (Nat.lt_trans h (show TOP < 1024 ^ 100 by unfold TOP; decide +kernel))
    conv => rhs; rw [e]
    exact Nat.le_mul_of_pos_left _ hp
  exact Nat.le_of_lt ((Nat.pow_lt_pow_iff_right (show 1 < 1024 by decide)).1 h1)

/-- Quantity cells and the contracts that CanonicalizeBytes calls, next to the row that it appends to. -/
structure CanH (b : Nat) (q : MQ) (w : World) (B : Nat) (v : Value) : Prop where
  z : Calls Tryz.prog 68 #[ptr b] w fun r w' => r = .returned (.bool (q.u == 0)) ∧ w = w'
  c4 : w.cell? ⟨b, 4, none⟩ = some (.string (fmtT q.fmt))
  can : q.u ≠ 0 → ∀ wx, Fr (fun _ => False) w wx → Calls Tryz.prog 71 #[ptr b, v] wx (RowEnd wx B 0 [] (Lib.itoa (canD q.u q.e).1) (canD q.u q.e).2)
  cmp : ∀ n wx, -9223372036854775807 ≤ n → n ≤ 9223372036854775807 → Fr (fun _ => False) w wx → Calls Tryz.prog 69 #[ptr b, .int .i64 n] wx fun r w' => r = .returned (.int .i64 (cmpZ (sv q.u q.e) (sv n 0))) ∧ Fr (fun _ => False) wx w'
  tab : ∀ wx, Below B w wx → Lib.TabIs Tryz.prog wx "internal/strconv.uint64pow10" .u64 Lib.pow10Tab
  hB : B ≤ w.heap.size
  own : w.ownsRow B 5 1 v 0 []
  nz : q.u ≠ 0 → -9 ≤ q.e
  qb : QB q

theorem CanH.made (b : Nat) (q : MQ) (d o : Option Nat) (w : World) (hq : QR w q o d) (h : w.heap[b]? = some (.cells (qrep q d) 39 (0, 0))) (hF : PQF q) (hQ : QB q) (hg : Gk w) (hsz : 17 ≤ w.heap.size) (B : Nat) (v : Value) (hown : w.ownsRow B 5 1 v 0 []) (hB : B ≤ w.heap.size)
    (htab : Lib.TabBelow Tryz.prog B w "internal/strconv.uint64pow10" .u64 Lib.pow10Tab) : CanH b q w B v where
  z := isZero_any b q d o w hq h
  c4 := by
    rw [cell_of_block h]
    cases d <;> rfl
  can := fun hu wx fx => by
    have hlo := hF.lo hu
    have := hQ.hi
    exact canBytes_any b q d o wx (hq.frame fx (fun _ _ h => h) (fun _ _ _ h => h)) (fun h => (hF.nb h).1) ((fx.block b (Array.getElem?_eq_some_iff.1 h).1 (fun h => h)).trans h) hu hQ.u (by omega) (by omega) (hg.frame fx (fun _ h => h.elim)) (Nat.le_trans hsz fx.size) B 0 v [] (ownsRow_fr hown fx) (Nat.le_trans hB fx.size) (by omega)
      (fun w' hb => htab w' ((below_of_fr fx (fun _ h => h.elim) hB).trans hb))
  cmp := fun n wx h1 h2 fx => by
    have := hQ.hi
    have := hQ.lo
    exact cmpi_any b q d n o wx (hq.frame fx (fun _ _ h => h) (fun _ _ _ h => h)) (fun h => (hF.nb h).1) (by omega) (by omega) (Nat.lt_trans hQ.u TOP_W) h1 h2 ((fx.block b (Array.getElem?_eq_some_iff.1 h).1 (fun h => h)).trans h) (hg.frame fx (fun _ h => h.elim)) (Nat.le_trans hsz fx.size)
  tab := htab
  hB := hB
  own := hown
  nz := hF.lo
  qb := hQ

theorem CanH.tabs {b : Nat} {q : MQ} {w wx w4 w5 : World} {B : Nat} {v : Value} (H : CanH b q w B v) (fx : Fr (fun _ => False) w wx) (b4 : Below B wx w4) (f5 : Fr (fun _ => False) w4 w5) : Lib.TabIs Tryz.prog w5 "internal/strconv.uint64pow10" .u64 Lib.pow10Tab := by
  have bx := (below_of_fr fx (fun _ h => h.elim) H.hB).trans b4
  exact H.tab w5 (bx.trans (below_of_fr f5 (fun _ h => h.elim) (Nat.le_trans H.hB bx.size)))

/-- The end of a road that told a number by ten. -/
theorem can_fin {w wx w4 w5 w6 : World} {B : Nat} {v4 sv : Value} {l1 l2 m : List UInt8} (hm : m = l1 ++ l2) (hB : B ≤ w.heap.size) (fx : Fr (fun _ => False) w wx) (o4 : w4.ownsRow B 5 1 v4 l1.length (Lib.byteCells l1)) (b4 : Below B wx w4) (f5 : Fr (fun _ => False) w4 w5) (s6 : SfxAt w6 sv l2) (f6 : Fr (fun _ => False) w5 w6) :
    CanEnd w B m (.returned (.tuple #[v4, sv])) w6 := by
  have bx := below_of_fr fx (fun _ h => h.elim) hB
  have b5 := (bx.trans b4)
  have f46 := f5.trans f6 (fun _ _ h => h)
  have o6 := ownsRow_fr o4 f46
  exact ⟨l1, l2, v4, sv, rfl, hm, b5.trans (below_of_fr f46 (fun _ h => h.elim) (Nat.le_trans hB b5.size)), sfx_row o6, s6, Or.inr o6⟩
end Go.Proofs.YtcpjclakdpjjfaaGreatDoor

namespace Go.Proofs.YtcpjclakdpjjfaaGreatDoor
open Go.RowKit

set_option maxRecDepth 100000 in
set_option maxHeartbeats 4000000 in
theorem can_dec2 (b : Nat) (q : MQ) (w : World) (B : Nat) (v : Value) (H : CanH b q w B v) (hu : q.u ≠ 0) (hf : q.fmt = 2) (hb : isBin q = false) :
    Calls Tryz.prog 41 #[ptr b, v] w (CanEnd w B (canon q)) := by
  have Z : Hid (Calls Tryz.prog 68 #[ptr b] w fun r w' => r = .returned (.bool false) ∧ w = w') := Lib.hid (by have := H.z; rwa [show (q.u == 0) = false from by simp [hu]] at this)
  have c4 : w.cell? ⟨b, 4, none⟩ = some (.string { data := #[68, 101, 99, 105, 109, 97, 108, 83, 73] }) := by have := H.c4; rwa [hf] at this
  have xb := canD_bound hu (H.nz hu) H.qb
  obtain ⟨L1, hL1⟩ : ∃ L, L = Lib.itoa (canD q.u q.e).1 := ⟨_, rfl⟩
  obtain ⟨X, hX⟩ : ∃ X, X = (canD q.u q.e).2 := ⟨_, rfl⟩
  obtain ⟨L2, hL2⟩ : ∃ L, L = dsuf 2 X := ⟨_, rfl⟩
  have CN := H.can hu
  rw [← hX] at xb CN
  rw [← hL1] at CN
  have CD : ∀ p w5, SufAt w5 p → Lib.TabIs Tryz.prog w5 "internal/strconv.uint64pow10" .u64 Lib.pow10Tab → Calls Tryz.prog 281 #[.pointer (some ⟨p, 0, none⟩), .int .i32 10, .int .i32 X, .string { data := #[68, 101, 99, 105, 109, 97, 108, 83, 73] }] w5 (ConsEnd w5 L2) := fun p w5 h1 h2 => by
    rw [hL2]
    exact cons_dec 2 X (Or.inl rfl) p w5 h1 h2
  have hm : canon q = L1 ++ L2 := by
    rw [hL1, hL2, hX]
    unfold canon
    rw [if_neg hu, if_neg (by rw [hb]; simp), hf]
    rfl
  replace CN := Lib.hid CN
  replace CD := Lib.hid CD
  replace hm := Lib.hid hm
  clear hL1 hX hL2 xb
  unfold ptr at *
  go_enter Tryz.func41, Tryz.ntmps41
  go_wp2_with fail
  refine Z.out.mono ?_
  rintro r w1 ⟨rfl, hw⟩
  subst hw
  go_wp2_with fail
  refine (CN.out w (Fr.refl _ w)).mono ?_
  rintro e w4 ⟨v4, rfl, o4, b4⟩
  simp only [Nat.zero_add, List.nil_append] at o4
  replace o4 := Lib.hid o4
  replace b4 := Lib.hid b4
  go_wp2_with fail
  refine (newSuffixer_any w4).mono ?_
  rintro e w5 ⟨p5, rfl, s5, f5⟩
  have K := Lib.hid (CD.out p5 w5 s5 (H.tabs (Fr.refl _ w) b4.out f5))
  replace f5 := Lib.hid f5
  clear s5
  have MC := fun w => method_cons (.pointer (some ⟨p5, 0, none⟩)) w
  go_wp2_with fail
  refine K.out.mono ?_
  rintro e w6 ⟨sv, ok, rfl, s6, f6⟩
  replace s6 := Lib.hid s6
  replace f6 := Lib.hid f6
  go_wp2_with fail
  go_ret2
  exact can_fin hm.out H.hB (Fr.refl _ w) o4.out b4.out f5.out s6.out f6.out

set_option maxRecDepth 100000 in
set_option maxHeartbeats 4000000 in
theorem can_dec0 (b : Nat) (q : MQ) (w : World) (B : Nat) (v : Value) (H : CanH b q w B v) (hu : q.u ≠ 0) (hf : q.fmt = 0) (hb : isBin q = false) :
    Calls Tryz.prog 41 #[ptr b, v] w (CanEnd w B (canon q)) := by
  have Z : Hid (Calls Tryz.prog 68 #[ptr b] w fun r w' => r = .returned (.bool false) ∧ w = w') := Lib.hid (by have := H.z; rwa [show (q.u == 0) = false from by simp [hu]] at this)
  have c4 : w.cell? ⟨b, 4, none⟩ = some (.string { data := #[68, 101, 99, 105, 109, 97, 108, 69, 120, 112, 111, 110, 101, 110, 116] }) := by have := H.c4; rwa [hf] at this
  have xb := canD_bound hu (H.nz hu) H.qb
  obtain ⟨L1, hL1⟩ : ∃ L, L = Lib.itoa (canD q.u q.e).1 := ⟨_, rfl⟩
  obtain ⟨X, hX⟩ : ∃ X, X = (canD q.u q.e).2 := ⟨_, rfl⟩
  obtain ⟨L2, hL2⟩ : ∃ L, L = dsuf 0 X := ⟨_, rfl⟩
  have CN := H.can hu
  rw [← hX] at xb CN
  rw [← hL1] at CN
  have CD : ∀ p w5, SufAt w5 p → Lib.TabIs Tryz.prog w5 "internal/strconv.uint64pow10" .u64 Lib.pow10Tab → Calls Tryz.prog 281 #[.pointer (some ⟨p, 0, none⟩), .int .i32 10, .int .i32 X, .string { data := #[68, 101, 99, 105, 109, 97, 108, 69, 120, 112, 111, 110, 101, 110, 116] }] w5 (ConsEnd w5 L2) := fun p w5 h1 h2 => by
    rw [hL2]
    exact cons_dec 0 X (Or.inr ⟨rfl, xb.1, xb.2⟩) p w5 h1 h2
  have hm : canon q = L1 ++ L2 := by
    rw [hL1, hL2, hX]
    unfold canon
    rw [if_neg hu, if_neg (by rw [hb]; simp), hf]
    rfl
  replace CN := Lib.hid CN
  replace CD := Lib.hid CD
  replace hm := Lib.hid hm
  clear hL1 hX hL2 xb
  unfold ptr at *
  go_enter Tryz.func41, Tryz.ntmps41
  go_wp2_with fail
  refine Z.out.mono ?_
  rintro r w1 ⟨rfl, hw⟩
  subst hw
  go_wp2_with fail
  refine (CN.out w (Fr.refl _ w)).mono ?_
  rintro e w4 ⟨v4, rfl, o4, b4⟩
  simp only [Nat.zero_add, List.nil_append] at o4
  replace o4 := Lib.hid o4
  replace b4 := Lib.hid b4
  go_wp2_with fail
  refine (newSuffixer_any w4).mono ?_
  rintro e w5 ⟨p5, rfl, s5, f5⟩
  have K := Lib.hid (CD.out p5 w5 s5 (H.tabs (Fr.refl _ w) b4.out f5))
  replace f5 := Lib.hid f5
  clear s5
  have MC := fun w => method_cons (.pointer (some ⟨p5, 0, none⟩)) w
  go_wp2_with fail
  refine K.out.mono ?_
  rintro e w6 ⟨sv, ok, rfl, s6, f6⟩
  replace s6 := Lib.hid s6
  replace f6 := Lib.hid f6
  go_wp2_with fail
  go_ret2
  exact can_fin hm.out H.hB (Fr.refl _ w) o4.out b4.out f5.out s6.out f6.out

set_option maxRecDepth 100000 in
set_option maxHeartbeats 4000000 in
theorem can_small (b : Nat) (q : MQ) (w : World) (B : Nat) (v : Value) (H : CanH b q w B v) (hu : q.u ≠ 0) (hf : q.fmt = 1) (hb : isBin q = false) (h1 : cmpZ (sv q.u q.e) (sv (-1024) 0) = 1) (h2 : cmpZ (sv q.u q.e) (sv 1024 0) = -1) :
    Calls Tryz.prog 41 #[ptr b, v] w (CanEnd w B (canon q)) := by
  have Z : Hid (Calls Tryz.prog 68 #[ptr b] w fun r w' => r = .returned (.bool false) ∧ w = w') := Lib.hid (by have := H.z; rwa [show (q.u == 0) = false from by simp [hu]] at this)
  have c4 : w.cell? ⟨b, 4, none⟩ = some (.string { data := #[66, 105, 110, 97, 114, 121, 83, 73] }) := by have := H.c4; rwa [hf] at this
  have xb := canD_bound hu (H.nz hu) H.qb
  obtain ⟨L1, hL1⟩ : ∃ L, L = Lib.itoa (canD q.u q.e).1 := ⟨_, rfl⟩
  obtain ⟨X, hX⟩ : ∃ X, X = (canD q.u q.e).2 := ⟨_, rfl⟩
  obtain ⟨L2, hL2⟩ : ∃ L, L = dsuf 2 X := ⟨_, rfl⟩
  have CN := H.can hu
  rw [← hX] at xb CN
  rw [← hL1] at CN
  have CD : ∀ p w5, SufAt w5 p → Lib.TabIs Tryz.prog w5 "internal/strconv.uint64pow10" .u64 Lib.pow10Tab → Calls Tryz.prog 281 #[.pointer (some ⟨p, 0, none⟩), .int .i32 10, .int .i32 X, .string { data := #[68, 101, 99, 105, 109, 97, 108, 83, 73] }] w5 (ConsEnd w5 L2) := fun p w5 h1 h2 => by
    rw [hL2]
    exact cons_dec 2 X (Or.inl rfl) p w5 h1 h2
  have hm : canon q = L1 ++ L2 := by
    rw [hL1, hL2, hX]
    unfold canon
    rw [if_neg hu, if_neg (by rw [hb]; simp), hf]
    rfl
  replace CN := Lib.hid CN
  replace CD := Lib.hid CD
  replace hm := Lib.hid hm
  clear hL1 hX hL2 xb
  have C1 := H.cmp (-1024) w (by omega) (by omega) (Fr.refl _ _)
  have C2 := fun w2 f2 => H.cmp 1024 w2 (by omega) (by omega) f2
  rw [h1] at C1
  rw [h2] at C2
  replace C1 := Lib.hid C1
  replace C2 := Lib.hid C2
  unfold ptr at *
  go_enter Tryz.func41, Tryz.ntmps41
  go_wp2_with fail
  refine Z.out.mono ?_
  rintro r w1 ⟨rfl, hw⟩
  subst hw
  go_wp2_with fail
  refine C1.out.mono ?_
  rintro r w2 ⟨rfl, f2⟩
  have C3 := Lib.hid (C2.out w2 f2)
  replace f2 := Lib.hid f2
  go_wp2_with fail
  refine C3.out.mono ?_
  rintro r w3 ⟨rfl, f3⟩
  have f13 := Lib.hid (f2.out.trans f3 (fun _ _ h => h))
  replace f3 := Lib.hid f3
  go_wp2_with fail
  refine (CN.out w3 f13.out).mono ?_
  rintro e w4 ⟨v4, rfl, o4, b4⟩
  simp only [Nat.zero_add, List.nil_append] at o4
  replace o4 := Lib.hid o4
  replace b4 := Lib.hid b4
  go_wp2_with fail
  refine (newSuffixer_any w4).mono ?_
  rintro e w5 ⟨p5, rfl, s5, f5⟩
  have K := Lib.hid (CD.out p5 w5 s5 (H.tabs f13.out b4.out f5))
  replace f5 := Lib.hid f5
  clear s5
  have MC := fun w => method_cons (.pointer (some ⟨p5, 0, none⟩)) w
  go_wp2_with fail
  refine K.out.mono ?_
  rintro e w6 ⟨sv, ok, rfl, s6, f6⟩
  replace s6 := Lib.hid s6
  replace f6 := Lib.hid f6
  go_wp2_with fail
  go_ret2
  exact can_fin hm.out H.hB f13.out o4.out b4.out f5.out s6.out f6.out

end Go.Proofs.YtcpjclakdpjjfaaGreatDoor


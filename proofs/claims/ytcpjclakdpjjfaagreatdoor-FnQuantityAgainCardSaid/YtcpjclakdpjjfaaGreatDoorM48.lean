/-
  A part of the proof of FnQuantityAgain (texts X7 of mine, joined).
-/
import Derived.Test.YtcpjclakdpjjfaaGreatDoorM47
import Derived.Test.YtcpjclakdpjjfaaGreatDoorRows
import Derived.Stop.LaidTwo
import Derived.Lib.LaidTab
import Derived.Lib.LaidU8
namespace Go.Proofs.YtcpjclakdpjjfaaGreatDoor
open Go.RowKit

theorem cells206 : Tryz.prog.cellsOf 206 = 1 := by kernel_rfl
theorem cells9 : Tryz.prog.cellsOf 9 = 1 := by kernel_rfl
theorem starES : "*" ++ "errors.errorString" = "*errors.errorString" := by decide
theorem row204 (u : TypeId) (h : Tryz.prog.typeName? 3 u = some "*errors.errorString") : u = 204 :=
  typeName_ptr_named (nm := "errors.errorString") (by rw [starES]; kernel_rfl) (by kernel_rfl) (by decide) u (by rw [starES]; exact h)
theorem gn0 : Tryz.prog.globalNamed "pub-stockroom/pub/apimachinery/pkg/api/resource.ErrFormatWrong" = some 0 := by kernel_rfl
theorem gn1 : Tryz.prog.globalNamed "pub-stockroom/pub/apimachinery/pkg/api/resource.ErrSuffix" = some 1 := by kernel_rfl
theorem gn2 : Tryz.prog.globalNamed "pub-stockroom/pub/apimachinery/pkg/api/resource.ErrNumeric" = some 2 := by kernel_rfl
theorem gn3 : Tryz.prog.globalNamed "io.EOF" = some 3 := by kernel_rfl
theorem gn4 : Tryz.prog.globalNamed "strconv.ErrSyntax" = some 4 := by kernel_rfl
theorem gn5 : Tryz.prog.globalNamed "strconv.ErrRange" = some 5 := by kernel_rfl
theorem gt0 : (Tryz.prog.globals[0]?).map (·.type) = some 41 := by kernel_rfl
theorem gt1 : (Tryz.prog.globals[1]?).map (·.type) = some 41 := by kernel_rfl
theorem gt2 : (Tryz.prog.globals[2]?).map (·.type) = some 41 := by kernel_rfl
theorem gt3 : (Tryz.prog.globals[3]?).map (·.type) = some 41 := by kernel_rfl
theorem gt4 : (Tryz.prog.globals[4]?).map (·.type) = some 41 := by kernel_rfl
theorem gt5 : (Tryz.prog.globals[5]?).map (·.type) = some 41 := by kernel_rfl

/-- A listed integer. -/
theorem int_cell {W : World} {n : String} {g : Nat} {z : Int} (h : Lib.VarReads Tryz.prog W n (.lit (.int .i64 z))) (hg : Tryz.prog.globalNamed n = some g) (ht : (Tryz.prog.globals[g]?).map (·.type) = some 3) : W.cell? ⟨g, 0, none⟩ = some (.int .i64 z) := by
  obtain ⟨g', t, cs, fuel, p, hg', ht', hv, hd⟩ := h
  obtain rfl := Option.some.inj (hg.symm.trans hg')
  obtain rfl := Option.some.inj (ht.symm.trans ht')
  obtain ⟨k, e1, e2, _⟩ := DataW.trod_int Tryz.underlying3 hd
  have hk : k = z := by simpa using (congrArg Prod.fst e2).symm
  subst hk
  have := World.var?_cell hg hv 0
  rw [this, ← Array.getElem?_toList, e1]
  rfl

theorem laidMet_skip {P : Program} {x y : String × DataW Unit} {r : List (String × DataW Unit)} {w : World} (h : laidMet P (x :: y :: r) w) : laidMet P (x :: r) w := by
  obtain ⟨ps, hv, hnd, hrows⟩ := h
  obtain ⟨n, d⟩ := x
  obtain ⟨n2, d2⟩ := y
  obtain ⟨g, t, cs, fuel, p, q, a1, a2, a3, a4, ⟨g2, t2, cs2, fuel2, p2, q2, b1, b2, b3, b4, hq, rfl⟩, rfl⟩ := hv
  have sub : (MemPlace.row ⟨g, 0, none⟩ cs.size ++ p ++ q2).Sublist (MemPlace.row ⟨g, 0, none⟩ cs.size ++ p ++ (MemPlace.row ⟨g2, 0, none⟩ cs2.size ++ p2 ++ q2)) :=
    List.Sublist.append (List.Sublist.refl _) (List.sublist_append_right _ _)
  exact ⟨_, ⟨g, t, cs, fuel, p, q2, a1, a2, a3, a4, hq, rfl⟩, List.Nodup.sublist sub hnd, fun b off hm => hrows b off (sub.subset hm)⟩

set_option maxRecDepth 100000 in
/-- What the row's condition gives the walk. -/
theorem gw_of_laid {W : World} (h : laidMet Tryz.prog Rows.fnQuantityAgainRow.laid W) : ∃ a0 a1 a2 pe ps pr, GW W a0 a1 a2 pe ps pr := by
  have cell := fun {n : String} {g : Nat} {z : Int} (hm : (n, DataW.lit (.int .i64 z)) ∈ Rows.fnQuantityAgainRow.laid) hg ht => int_cell (W := W) (n := n) (g := g) (z := z) (Lib.laidMet.reads h hm) hg ht
  have k6 : W.cell? ⟨6, 0, none⟩ = some (.int .i64 12) := cell (n := "pub-stockroom/pub/bigall.basicSqrThreshold") (by simp [Rows.fnQuantityAgainRow, Rows.laid_pub_stockroom_pub_bigall_basicSqrThreshold]) (by kernel_rfl) (by kernel_rfl)
  have k7 : W.cell? ⟨7, 0, none⟩ = some (.int .i64 80) := cell (n := "pub-stockroom/pub/bigall.karatsubaSqrThreshold") (by simp [Rows.fnQuantityAgainRow, Rows.laid_pub_stockroom_pub_bigall_karatsubaSqrThreshold]) (by kernel_rfl) (by kernel_rfl)
  have k8 : W.cell? ⟨8, 0, none⟩ = some (.int .i64 40) := cell (n := "pub-stockroom/pub/bigall.karatsubaThreshold") (by simp [Rows.fnQuantityAgainRow, Rows.laid_pub_stockroom_pub_bigall_karatsubaThreshold]) (by kernel_rfl) (by kernel_rfl)
  have k13 : W.cell? ⟨13, 0, none⟩ = some (.int .i64 40) := cell (n := "pub-stockroom/pub/bigall.divRecursiveThreshold") (by simp [Rows.fnQuantityAgainRow, Rows.laid_pub_stockroom_pub_bigall_divRecursiveThreshold]) (by kernel_rfl) (by kernel_rfl)
  have k16 : W.cell? ⟨16, 0, none⟩ = some (.int .i64 8) := cell (n := "pub-stockroom/pub/bigall.leafSize") (by simp [Rows.fnQuantityAgainRow, Rows.laid_pub_stockroom_pub_bigall_leafSize]) (by kernel_rfl) (by kernel_rfl)
  clear cell
  have t2 := h.tail.tail
  have tab : Lib.TabIs Tryz.prog W "internal/strconv.uint64pow10" .u64 Lib.pow10Tab := Lib.tabIs_of_head (g := 14) (t := 301) (e := 60) (n := 20) (by kernel_rfl) (by kernel_rfl) Tryz.underlying301 Tryz.underlying60 (by kernel_rfl) (by kernel_rfl) t2
  have t4 := t2.tail.tail
  obtain ⟨ar, sr, vr, _⟩ := laid_sentinel t4 gn5 gt5 Tryz.underlying41 row204 Tryz.underlying204 Tryz.underlying206 rfl rfl Tryz.underlying9 cells206 cells9
  obtain ⟨ay, ss, vs, _⟩ := laid_sentinel t4.tail gn4 gt4 Tryz.underlying41 row204 Tryz.underlying204 Tryz.underlying206 rfl rfl Tryz.underlying9 cells206 cells9
  obtain ⟨ae, se, ve, _⟩ := laid_sentinel t4.tail.tail gn3 gt3 Tryz.underlying41 row204 Tryz.underlying204 Tryz.underlying206 rfl rfl Tryz.underlying9 cells206 cells9
  have t14 := t4.tail.tail.tail.tail.tail.tail.tail.tail.tail.tail
  obtain ⟨a0, a2, _, _, c0, c2, b0, b2, v0, v2, _, _, _, _, _, _, n02, p0, p2⟩ := laid_sentinels2 t14 gn0 gt0 gn2 gt2 Tryz.underlying41 row204 Tryz.underlying204 Tryz.underlying206 rfl rfl Tryz.underlying9 cells206 cells9
  obtain ⟨a2', a1, _, _, _, c1, _, b1, v2', v1, _, _, _, _, _, _, n21, _, p1⟩ := laid_sentinels2 t14.tail gn2 gt2 gn1 gt1 Tryz.underlying41 row204 Tryz.underlying204 Tryz.underlying206 rfl rfl Tryz.underlying9 cells206 cells9
  obtain ⟨a0', a1', _, _, _, _, _, _, v0', v1', _, _, _, _, _, _, n01, _, _⟩ := laid_sentinels2 (laidMet_skip t14) gn0 gt0 gn1 gt1 Tryz.underlying41 row204 Tryz.underlying204 Tryz.underlying206 rfl rfl Tryz.underlying9 cells206 cells9
  have e2 : a2' = a2 := by rw [v2] at v2'; simpa using v2'.symm
  have e0 : a0' = a0 := by rw [v0] at v0'; simpa using v0'.symm
  have e1 : a1' = a1 := by rw [v1] at v1'; simpa using v1'.symm
  subst e2 e0 e1
  have q0 := World.var?_cell gn0 v0 0
  have q1 := World.var?_cell gn1 v1 0
  have q2 := World.var?_cell gn2 v2 0
  have q3 := World.var?_cell gn3 ve 0
  refine ⟨_, _, _, .pointer (some ae), _, _, ⟨k6, k7, k8, k13, k16⟩, q0, q1, q2, ⟨c0, b0, p0⟩, ⟨c1, b1, p1⟩, ⟨c2, b2, p2⟩, n01, n02, fun e => n21 e.symm, ⟨ae, q3⟩, vs, vr, tab, ?_⟩
  have := World.block_lt_of_cell? W _ k16
  simp only at this
  omega
end Go.Proofs.YtcpjclakdpjjfaaGreatDoor


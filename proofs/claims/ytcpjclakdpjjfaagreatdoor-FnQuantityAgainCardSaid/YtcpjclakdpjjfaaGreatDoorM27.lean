/-
  A part of the proof of FnQuantityAgain (texts E5, E6 of mine, joined).
-/
import Derived.Test.YtcpjclakdpjjfaaGreatDoorM26
import Derived.Test.YtcpjclakdpjjfaaGreatDoorM23
import Derived.Test.YtcpjclakdpjjfaaGreatDoorM22
import Derived.OwnWalk
import Derived.WalkMore
namespace Go.Proofs.YtcpjclakdpjjfaaGreatDoor
open Go.RowKit

def u8c (c : UInt8) : Value := .int .u8 (c.toNat : Int)
/-- A growing row of bytes at block g, room for 256. -/
def Buf (w : World) (g : Nat) (l : List UInt8) : Prop := w.ownsRow 0 5 1 (.slice (some ⟨g, 0, none⟩) l.length 256) l.length (l.map u8c)

theorem Buf.frame {S : Nat → Prop} {w w' : World} {g : Nat} {l : List UInt8} (h : Buf w g l) (f : Fr S w w') (hn : ¬ S g) : Buf w' g l := by
  have hg := (World.ownsRow.lt h g rfl).2
  refine ⟨h.1, ?_⟩
  rcases h.2 with ⟨h', _⟩ | ⟨g', cap, cur, hv, hb, hgg, rest⟩
  · cases h'
  · have e : g' = g := by simp only [Value.slice.injEq, Option.some.injEq, Addr.mk.injEq] at hv; exact hv.1.1.symm
    subst e
    refine Or.inr ⟨g', cap, cur, hv, hb, ?_, rest⟩
    rw [f.block g' hg hn]; exact hgg
theorem Buf.lt {w : World} {g : Nat} {l : List UInt8} (h : Buf w g l) : g < w.heap.size := (World.ownsRow.lt h g rfl).2
theorem brow_size (m : Nat) : (brow m).size = m := by unfold brow; simp
theorem Buf.made (w : World) : Buf (w.alloc (.cells (brow 256) 5)) w.heap.size [] := World.ownsRow_made w _ 256 (Nat.zero_le _) (by decide) (brow_size 256)
theorem Fr.grown {w w' : World} {g : Nat} (h : w.grownBy w' (some g)) : Fr (fun k => k = g) w w' := ⟨h.os, h.tape, h.output, h.size, fun k hk hn => h.block k hk (fun e => hn (by simpa using e))⟩

theorem run_string_buf (w : World) (g : Nat) (l : List UInt8) (h : Buf w g l) : (convert 96 9 (.slice (some ⟨g, 0, none⟩) l.length 256)).run Tryz.prog w = .ok (.string (tx l)) w := by
  have hr := run_convert_bytes_arg (P := Tryz.prog) w 96 5 Tryz.underlying96 Tryz.underlying5 g 0 l.length 256 (l.map fun c => (c.toNat : Int)) (by simp) (fun i hi => by
    rw [Nat.zero_add, World.ownsRow.cellAt h i (by omega)]
    rw [List.getElem?_map, List.getD_eq_getElem?_getD, List.getElem?_map, List.getElem?_eq_getElem hi]; rfl) 9 Tryz.underlying9
  have e : ∀ m : List UInt8, strOfNums (m.map fun c => (c.toNat : Int)) = tx m := by
    intro m
    unfold strOfNums tx
    have e2 : ((m.map fun c => (c.toNat : Int)).map fun n => UInt8.ofNat n.toNat) = m := by
      induction m with
      | nil => rfl
      | cons a t ih => rw [List.map_cons, List.map_cons, ih, Int.toNat_natCast, UInt8.ofNat_toNat]
    rw [e2]
  rw [hr, e]

/-- The texts that inf.Dec's SetString takes here. -/
structure ValT (l sg d1 dt d2 : List UInt8) : Prop where
  eq : l = sg ++ d1 ++ dt ++ d2
  sg : sg = [] ∨ sg = [45] ∨ sg = [43]
  g1 : ∀ c ∈ d1, isDg c = true
  g2 : ∀ c ∈ d2, isDg c = true
  dt : dt = [46] ∨ (dt = [] ∧ d2 = [])
  ne : d1 ++ d2 ≠ []

/-- The row behind the first j bytes of a text. -/
def nodot (l : List UInt8) : List UInt8 := l.filter fun c => c != 46

theorem dg_bounds {c : UInt8} (h : isDg c = true) : 48 ≤ c.toNat ∧ c.toNat ≤ 57 := by unfold isDg at h; simpa using h
theorem nodot_dg {l : List UInt8} (h : ∀ c ∈ l, isDg c = true) : nodot l = l := by
  unfold nodot
  rw [List.filter_eq_self]
  intro c hc
  have := dg_bounds (h c hc)
  simp only [bne_iff_ne, ne_eq]
  intro e; subst e; simp at this
theorem nodot_sg {sg : List UInt8} (h : sg = [] ∨ sg = [45] ∨ sg = [43]) : nodot sg = sg := by rcases h with rfl | rfl | rfl <;> rfl
theorem nodot_app (a b : List UInt8) : nodot (a ++ b) = nodot a ++ nodot b := by unfold nodot; rw [List.filter_append]
theorem ValT.nd {l sg d1 dt d2 : List UInt8} (V : ValT l sg d1 dt d2) : nodot l = sg ++ d1 ++ d2 := by
  rw [V.eq, nodot_app, nodot_app, nodot_app, nodot_sg V.sg, nodot_dg V.g1, nodot_dg V.g2]
  rcases V.dt with e | ⟨e, _⟩
  · rw [e, show nodot [46] = [] from rfl, List.append_nil]
  · rw [e, show nodot [] = [] from rfl, List.append_nil]
theorem ValT.pre {l sg d1 dt d2 : List UInt8} (V : ValT l sg d1 dt d2) : nodot (l.take (sg.length + d1.length)) = sg ++ d1 := by
  have : l.take (sg.length + d1.length) = sg ++ d1 := by
    rw [V.eq, List.append_assoc (sg ++ d1), List.take_append_of_le_length (by simp)]
    rw [show sg.length + d1.length = (sg ++ d1).length by simp, List.take_length]
  rw [this, nodot_app, nodot_sg V.sg, nodot_dg V.g1]
/-- What the j-th byte of such a text is. -/
theorem ValT.get {l sg d1 dt d2 : List UInt8} (V : ValT l sg d1 dt d2) {j : Nat} {c : UInt8} (h : l[j]? = some c) :
    (j = 0 ∧ sg.length = 1 ∧ (c.toNat = 45 ∨ c.toNat = 43)) ∨ (isDg c = true ∧ j ≠ sg.length + d1.length) ∨ (j = sg.length + d1.length ∧ c.toNat = 46) := by
  rw [V.eq, List.append_assoc, List.append_assoc] at h
  by_cases h1 : j < sg.length
  · rw [List.getElem?_append_left h1] at h
    left
    rcases V.sg with e | e | e
    · rw [e] at h1; simp at h1
    · rw [e] at h1 h
      simp at h1; subst h1; simp at h; subst h; exact ⟨rfl, by rw [e]; rfl, Or.inl rfl⟩
    · rw [e] at h1 h
      simp at h1; subst h1; simp at h; subst h; exact ⟨rfl, by rw [e]; rfl, Or.inr rfl⟩
  · rw [List.getElem?_append_right (by omega)] at h
    by_cases h2 : j - sg.length < d1.length
    · rw [List.getElem?_append_left h2] at h
      exact Or.inr (Or.inl ⟨V.g1 c (List.mem_of_getElem? h), by omega⟩)
    · rw [List.getElem?_append_right (by omega)] at h
      rcases V.dt with e | ⟨e, e2⟩
      · rw [e] at h
        by_cases h3 : j - sg.length - d1.length = 0
        · rw [h3] at h; simp at h; subst h
          exact Or.inr (Or.inr ⟨by omega, rfl⟩)
        · rw [List.getElem?_append_right (by simp; omega)] at h
          exact Or.inr (Or.inl ⟨V.g2 c (List.mem_of_getElem? h), by omega⟩)
      · rw [e, e2] at h; simp at h
theorem ValT.has {l sg d1 dt d2 : List UInt8} (V : ValT l sg d1 dt d2) : ∃ c ∈ l, isDg c = true := by
  cases h : d1 ++ d2 with
  | nil => exact absurd h V.ne
  | cons c t =>
    have hc : c ∈ d1 ++ d2 := by rw [h]; simp
    refine ⟨c, ?_, ?_⟩
    · rw [V.eq]; rcases List.mem_append.1 hc with h | h <;> simp [h]
    · rcases List.mem_append.1 hc with h | h
      · exact V.g1 c h
      · exact V.g2 c h
theorem take_snoc {l : List UInt8} {j : Nat} {c : UInt8} (h : l[j]? = some c) : l.take (j + 1) = l.take j ++ [c] := by
  obtain ⟨hj, e⟩ := List.getElem?_eq_some_iff.mp h
  rw [List.take_succ_eq_append_getElem hj, e]

theorem nil_eql_ierr (v : Value) (w : World) : (binOp .eql 41 .nilIface (.iface 204 v)).run Tryz.prog w = .ok (.bool false) w := by
  have h : ∀ d : Nat, (Op.equalIn (d + 2) 41 .nilIface (.iface 204 v)).run Tryz.prog w = .ok false w := fun d => by
    simp [Op.equalIn, run_underlying Tryz.underlying41]
  simp only [binOp]
  simp [Op.equal, Op.maxDepth, h 9998]

theorem run_append_buf (w : World) (ty : TypeId) (g : Nat) (l : List UInt8) (c : UInt8) (ad : Addr) (cc : Nat) (h : Buf w g l) (hl : l.length < 256) (hc : w.cell? ad = some (u8c c)) :
    ∃ w', (Builtin.append_ #[96, 96] ty #[.slice (some ⟨g, 0, none⟩) l.length 256, .slice (some ad) 1 cc]).run Tryz.prog w = .ok (.slice (some ⟨g, 0, none⟩) (l.length + 1) 256) w' ∧ Buf w' g (l ++ [c]) ∧ Fr (fun k => k = g) w w' := by
  obtain ⟨i, hi, hz⟩ := Option.map_eq_some_iff.1 row5
  simp only [Prod.mk.injEq] at hz
  obtain ⟨hz, hs, hb⟩ := hz
  obtain ⟨w', h1, h2, h3⟩ := run_append_fits (P := Tryz.prog) (w := w) 0 96 ty 5 i 1 Tryz.underlying96 hi hs g l.length 256 (l.map u8c) h ad 1 cc [u8c c] (by simp) (fun j u hu => by
    cases j with
    | zero => simp at hu; subst hu; rw [show ad.add 0 = ad by cases ad; rfl]; exact hc
    | succ j => simp at hu) (by intro u hu; simp at hu; subst hu; rfl) (by omega)
  refine ⟨w', h1, ?_, Fr.grown h3⟩
  unfold Buf
  rw [List.length_append, List.map_append]
  exact h2

theorem wpList_append_buf (w : World) {ops : Array Oper} {rest : List Oper} {o : Oper} {a : Act} {Q : Exit → Act → World → Prop}
    (hg : o.guard = none) (s x : Operand) (hop : o.op = Op.call { callee := Callee.builtin Builtin.append, args := #[s, x], argTypes := #[96, 96] })
    (g : Nat) (l : List UInt8) (L : Nat) (c : UInt8) (ad : Addr) (cc : Nat) (hL : L = l.length) (hs : a.eval s = .slice (some ⟨g, 0, none⟩) L 256) (hx : a.eval x = .slice (some ad) 1 cc) (h : Buf w g l) (hl : l.length < 256) (hc : w.cell? ad = some (u8c c))
    (hK : ∀ w', Buf w' g (l ++ [c]) → Fr (fun k => k = g) w w' → wpList Tryz.prog ops Q rest (a.put o.dst (.slice (some ⟨g, 0, none⟩) (L + 1) 256)) w') :
    wpList Tryz.prog ops Q (o :: rest) a w := by
  subst hL
  refine wpList_plain hg fun K hK' => ?_
  obtain ⟨w', hrun, r1, r2⟩ := run_append_buf w o.type g l c ad cc h hl hc
  unfold Oper.wp
  simp [execOp, hop, resolve, invoke, builtin, hs, hx, hrun, Result.andThen]
  exact hK' _ _ (hK w' r1 r2)

/-- What holds ahead of the j-th byte. -/
def ScR (w : World) (p g K : Nat) (s : ByteArray) (l : List UInt8) (wr : World) (j : Nat) (dpi dgi : Int) : Prop :=
  Buf wr g (nodot (l.take j)) ∧ (∃ r, RdAt wr p s j r) ∧ Fr (fun k => k = p) w wr ∧ ((dpi = -1 ∧ j ≤ K) ∨ (dpi = (K : Int) ∧ K < j)) ∧ ((dgi = -1 ∧ ∀ c ∈ l.take j, isDg c = false) ∨ 0 ≤ dgi)

theorem sc_measure {wr : World} {p j n : Nat} {s : ByteArray} {r : Int} (h : RdAt wr p s (j + 1) r) (hj : j < n) : (match wr.cell? ⟨p, 1, none⟩ with | some v => n - (intOf v).toNat | none => 0) < n - j := by
  rw [h.c1]; simp [intOf]; omega
theorem nodot_snoc {l : List UInt8} {j : Nat} {c : UInt8} (h : l[j]? = some c) (hc : c.toNat ≠ 46) : nodot (l.take (j + 1)) = nodot (l.take j) ++ [c] := by
  have hcc : c ≠ 46 := by intro e; subst e; exact hc rfl
  rw [take_snoc h, nodot_app]
  congr 1
  unfold nodot
  simp [hcc]
theorem nodot_dot {l : List UInt8} {j : Nat} {c : UInt8} (h : l[j]? = some c) (hc : c.toNat = 46) : nodot (l.take (j + 1)) = nodot (l.take j) := by
  have hcc : c = 46 := UInt8.toNat_inj.mp hc
  rw [take_snoc h, nodot_app, hcc]
  show _ ++ [] = _
  rw [List.append_nil]

theorem ValT.head {l sg d1 dt d2 : List UInt8} (V : ValT l sg d1 dt d2) : ∃ b t, sg ++ d1 ++ d2 = b :: t ∧ (sg ++ d1 ++ d2).drop (sgo b) = d1 ++ d2 ∧ (b.toNat == 45) = decide (sg = [45]) := by
  rcases V.sg with e | e | e
  · rw [e]
    cases h : d1 ++ d2 with
    | nil => exact absurd h V.ne
    | cons b t =>
      have hb : isDg b = true := by
        have hm : b ∈ d1 ++ d2 := by rw [h]; simp
        rcases List.mem_append.1 hm with h | h
        · exact V.g1 b h
        · exact V.g2 b h
      have hbd := dg_bounds hb
      refine ⟨b, t, by rw [List.nil_append, h], ?_, ?_⟩
      · unfold sgo; rw [if_neg (by omega), List.nil_append, List.drop_zero, h]
      · rw [show (b.toNat == 45) = false by simp; omega]; simp
  · rw [e]; exact ⟨45, d1 ++ d2, by simp, rfl, rfl⟩
  · rw [e]; exact ⟨43, d1 ++ d2, by simp, rfl, rfl⟩

/-- What Dec.scan comes to. -/
def DsEnd (w : World) (pz p : Nat) (s : ByteArray) (v : Value) (z : Int) (n : Nat) (e : Ending) (w' : World) : Prop :=
  ∃ ob r, e = .returned v ∧ DecAt w' pz z (n : Int) ob ∧ RdAt w' p s s.size r ∧ Fr (fun k => k = pz ∨ k = p) w w' ∧ (∀ b, ob = some b → w.heap.size ≤ b)

set_option maxRecDepth 100000 in
set_option maxHeartbeats 4000000 in
theorem dScan_any (pz p : Nat) (s : ByteArray) (l sg d1 dt d2 : List UInt8) (ea : Addr) (w : World) (hl : s.data.toList = l) (V : ValT l sg d1 dt d2) (hlen : l.length ≤ 200) (hd : (d1 ++ d2).length ≤ 150)
    (hz : IntC w pz false (.slice none 0 0) none 0) (cz : w.cell? ⟨pz, 2, none⟩ = some (.int .i32 0)) (h : RdAt w p s 0 (-1))
    (hE : w.cell? ⟨3, 0, none⟩ = some (.iface 204 (.pointer (some ea)))) (hp : p ≠ 3) (hpz : pz ≠ 3) (hpp : pz ≠ p) :
    Calls Tryz.prog 50 #[ptr pz, rdI p] w (DsEnd w pz p s (.tuple #[ptr pz, .nilIface]) (sgn (decide (sg = [45])) (decV (d1 ++ d2))) d2.length) := by
  have hs : s.size = l.length := by rw [← hl]; simp
  have q1 := fun w' => ierr_eql_same ea w'
  have q2 := fun w' => nil_eql_ierr (.pointer (some ea)) w'
  have m1 := method_rr
  have hMk : (Instr.makeSlice 96 (.int .i64 0) (.int .i64 256)).run Tryz.prog w = .ok (.slice (some ⟨w.heap.size, 0, none⟩) 0 256) (w.alloc (.cells (brow 256) 5)) := run_make96 0 256 (by omega) (by omega) w
  obtain ⟨g, hg⟩ : ∃ g, g = w.heap.size := ⟨_, rfl⟩
  obtain ⟨w0, hw0⟩ : ∃ w0, w0 = w.alloc (.cells (brow 256) 5) := ⟨_, rfl⟩
  have hB := Buf.made w
  have f0 : Fr (fun _ => False) w w0 := by rw [hw0]; exact Fr.alloc _ _ _
  rw [← hw0, ← hg] at hB
  rw [← hw0, ← hg] at hMk
  obtain ⟨N, hN⟩ : ∃ N, N = sgn (decide (sg = [45])) (decV (d1 ++ d2)) := ⟨_, rfl⟩
  obtain ⟨n2, hn2⟩ : ∃ n, n = d2.length := ⟨_, rfl⟩
  rw [← hN, ← hn2]
  replace hN := Lib.hid hN
  replace hn2 := Lib.hid hn2
  replace hg := Lib.hid hg
  replace hw0 := Lib.hid hw0
  replace hB := Lib.hid hB
  replace f0 := Lib.hid f0
  replace hz := Lib.hid hz
  replace cz := Lib.hid cz
  replace h := Lib.hid h
  replace hE := Lib.hid hE
  replace hl := Lib.hid hl
  replace V := Lib.hid V
  replace hd := Lib.hid hd
  unfold ptr rdI
  go_enter Tryz.func50, Tryz.ntmps50
  go_wp2_with fail
  go_step3
  go_wp2_with fail
  go_step3
  go_wp2_with fail
  obtain ⟨K, hK⟩ : ∃ K, K = sg.length + d1.length := ⟨_, rfl⟩
  replace hK := Lib.hid hK
  have hgp : Hid (p ≠ g) := by show _ ≠ _; have := h.out.plain.lt; have := hg.out; omega
  go_loopw [6, 7, 8] (fun bf dp dg wr => ∃ (j : Nat) (dpi dgi : Int), bf = .slice (some ⟨g, 0, none⟩) (nodot (l.take j)).length 256 ∧ j ≤ l.length ∧ dp = .int .i64 dpi ∧ dg = .int .i64 dgi ∧ Hid (ScR w p g K s l wr j dpi dgi))
    (fun _ _ _ wr => match wr.cell? ⟨p, 1, none⟩ with | some v => l.length - (intOf v).toNat | none => 0)
  case atStart =>
    exact ⟨0, -1, -1, rfl, Nat.zero_le _, rfl, rfl, hB.out, ⟨_, h.out.frame f0.out (fun f => f)⟩, f0.out.none, Or.inl ⟨rfl, Nat.zero_le _⟩, Or.inl ⟨rfl, by simp⟩⟩
  case round =>
    obtain ⟨j, dpi, dgi, rfl, hj, rfl, rfl, hrel⟩ := hrel
    obtain ⟨b1, ⟨r, b2⟩, b3, b4, b5⟩ := hrel.out
    by_cases hlt : j < l.length
    · obtain ⟨c, hc⟩ : ∃ c, l[j]? = some c := ⟨l[j], List.getElem?_eq_getElem hlt⟩
      have hcase := V.out.get hc
      have hasc : c.toNat < 128 := by
        rcases hcase with ⟨_, _, h⟩ | ⟨h, _⟩ | ⟨_, h⟩
        · omega
        · have := dg_bounds h; omega
        · omega
      have hK2 := hK.out
      have hlb : (nodot (l.take j)).length ≤ j := by
        have := List.length_filter_le (fun c : UInt8 => c != 46) (l.take j)
        unfold nodot
        simp at this ⊢; omega
      have R := Lib.hid (readRune_ok p j s r c wr b2 (by rw [hl.out]; exact hc) hasc (by omega))
      have hcE : wr.cell? ⟨3, 0, none⟩ = some (.iface 204 (.pointer (some ea))) := cell_frame hE.out b3 (fun e => hp e.symm)
      have hme : (match wr.cell? ⟨p, 1, none⟩ with | some v => l.length - (intOf v).toNat | none => 0) = l.length - j := by rw [b2.c1]; simp [intOf]
      rw [hme]
      replace hme := Lib.hid hme
      have hgl := Lib.hid b1.lt
      replace b1 := Lib.hid b1
      replace b2 := Lib.hid b2
      replace b3 := Lib.hid b3
      replace b4 := Lib.hid b4
      replace b5 := Lib.hid b5
      replace hrel := Lib.hid hrel
      replace hK2 := Lib.hid hK2
      replace hcase := Lib.hid hcase
      obtain ⟨cn, hcn⟩ : ∃ n, n = c.toNat := ⟨_, rfl⟩
      rw [← hcn] at R
      replace hcn := Lib.hid hcn
      replace hc := Lib.hid hc
      obtain ⟨L, hL⟩ : ∃ L, L = (nodot (l.take j)).length := ⟨_, rfl⟩
      rw [← hL] at hlb ⊢
      replace hL := Lib.hid hL
      replace hasc := Lib.hid hasc
      go_wp2_with fail
      refine R.out.mono ?_
      rintro e w1 ⟨rfl, r1, r2⟩
      have cE1 := cell_frame hcE r2 (fun e => hp e.symm)
      have fa : Fr (fun _ => False) w1 (w1.alloc (.cells #[.int .u8 (cn : Int)] 5)) := Fr.alloc _ _ _
      have hB0 := Lib.hid (b1.out.frame r2 (by intro e; exact hgp.out e.symm))
      have hB1 := Lib.hid (hB0.out.frame fa (fun f => f))
      have hl256 : Hid ((nodot (l.take j)).length < 256) := by show _ < _; rw [← hL.out]; omega
      have hcell : Hid ((w1.alloc (.cells #[.int .u8 (cn : Int)] 5)).cell? ⟨w1.heap.size, 0, none⟩ = some (u8c c)) := by
        have hat : (w1.alloc (.cells #[.int .u8 (cn : Int)] 5)).heap[w1.heap.size]? = some (.cells #[.int .u8 (cn : Int)] 5 (0, 0)) := by
          show (w1.heap.push _)[w1.heap.size]? = _
          rw [Array.getElem?_push_size]
        show _ = _
        unfold World.cell?; rw [hat, hcn.out]; rfl
      have FIN : Hid (∀ w2 dpi' dgi', Buf w2 g (nodot (l.take j) ++ [c]) → Fr (fun k => k = g) (w1.alloc (.cells #[.int .u8 (cn : Int)] 5)) w2 → c.toNat ≠ 46 → ((dpi' = -1 ∧ j + 1 ≤ K) ∨ (dpi' = (K : Int) ∧ K < j + 1)) → ((dgi' = -1 ∧ ∀ c ∈ l.take (j + 1), isDg c = false) ∨ 0 ≤ dgi') →
          (∃ (j' : Nat) (dpi'' dgi'' : Int), Value.slice (some ⟨g, 0, none⟩) (L + 1) 256 = .slice (some ⟨g, 0, none⟩) (nodot (l.take j')).length 256 ∧ j' ≤ l.length ∧ Value.int .i64 dpi' = .int .i64 dpi'' ∧ Value.int .i64 dgi' = .int .i64 dgi'' ∧ Hid (ScR w p g K s l w2 j' dpi'' dgi'')) ∧
          (match w2.cell? ⟨p, 1, none⟩ with | some v => l.length - (intOf v).toNat | none => 0) < l.length - j) := by
        intro w2 dpi' dgi' hb hf hne h1 h2
        have hn := nodot_snoc hc.out hne
        have hr2 := (r1.frame fa (fun f => f)).frame hf hgp.out
        refine ⟨⟨j + 1, dpi', dgi', ?_, by omega, rfl, rfl, ?_, ⟨_, hr2⟩, ?_, h1, h2⟩, sc_measure hr2 hlt⟩
        · rw [hn, List.length_append, ← hL.out]; rfl
        · rw [hn]; exact hb
        · refine ((b3.out.trans r2 (fun _ _ h => h)).trans fa (fun _ _ h => h.elim)).trans hf ?_
          intro k hk e
          have := hg.out; omega
      have FIN2 : Hid (∀ dpi', c.toNat = 46 → ((dpi' = -1 ∧ j + 1 ≤ K) ∨ (dpi' = (K : Int) ∧ K < j + 1)) →
          (∃ (j' : Nat) (dpi'' dgi'' : Int), Value.slice (some ⟨g, 0, none⟩) L 256 = .slice (some ⟨g, 0, none⟩) (nodot (l.take j')).length 256 ∧ j' ≤ l.length ∧ Value.int .i64 dpi' = .int .i64 dpi'' ∧ Value.int .i64 dgi = .int .i64 dgi'' ∧ Hid (ScR w p g K s l w1 j' dpi'' dgi'')) ∧
          (match w1.cell? ⟨p, 1, none⟩ with | some v => l.length - (intOf v).toNat | none => 0) < l.length - j) := by
        intro dpi' hne h1
        have hn := nodot_dot hc.out hne
        refine ⟨⟨j + 1, dpi', dgi, ?_, by omega, rfl, rfl, ?_, ⟨_, r1⟩, b3.out.trans r2 (fun _ _ h => h), h1, ?_⟩, sc_measure r1 hlt⟩
        · rw [hn, ← hL.out]
        · rw [hn]; exact hB0.out
        · rcases b5.out with ⟨e, hall⟩ | e
          · left
            refine ⟨e, ?_⟩
            intro x hx
            rw [take_snoc hc.out] at hx
            rcases List.mem_append.1 hx with hx | hx
            · exact hall x hx
            · simp at hx; subst hx
              cases hd : isDg x
              · rfl
              · have := dg_bounds hd; omega
          · exact Or.inr e
      replace r1 := Lib.hid r1
      replace r2 := Lib.hid r2
      replace fa := Lib.hid fa
      clear R hcE
      rcases hcase.out with ⟨hj0, hsl, hsg⟩ | ⟨hdg, hjk⟩ | ⟨hjK, hdot⟩
      · have ejj : dpi = -1 := by
          rcases b4.out with ⟨e, _⟩ | ⟨_, e⟩
          · exact e
          · omega
        obtain rfl : L = 0 := by omega
        obtain rfl := ejj
        have hne : Hid (c.toNat ≠ 46) := by show _ ≠ _; omega
        have h1 : Hid (j + 1 ≤ K) := by show _ ≤ _; have := hK2.out; omega
        have h2 : Hid ((dgi = -1 ∧ ∀ c ∈ l.take (j + 1), isDg c = false) ∨ 0 ≤ dgi) := by
          rcases b5.out with ⟨e, hall⟩ | e
          · left
            refine ⟨e, ?_⟩
            intro x hx
            rw [take_snoc hc.out] at hx
            rcases List.mem_append.1 hx with hx | hx
            · exact hall x hx
            · simp at hx; subst hx
              cases hd : isDg x
              · rfl
              · have := dg_bounds hd; omega
          · exact Or.inr e
        rw [← hcn.out] at hsg
        have c10 : 0 < (cn : Int) := by omega
        have F8 : IntKind.u8.wrap (cn : Int) = (cn : Int) := by rw [IntKind.wrap_u8]; omega
        rcases hsg with hsg | hsg
        · have e1 : ((cn : Int) == 43) = false := by simp; omega
          have e2 : ((cn : Int) == 45) = true := by simp; omega
          replace hsg := Lib.hid hsg
          go_wp2_with (at_builtin; refine wpList_append_buf _ rfl _ _ rfl g (nodot (l.take j)) 0 c _ _ hL.out rfl rfl hB1.out hl256.out hcell.out ?_; intro w2 hb2 hf2; replace hb2 := Lib.hid hb2; replace hf2 := Lib.hid hf2)
          exact FIN.out w2 _ _ hb2.out hf2.out hne.out (Or.inl ⟨rfl, h1.out⟩) h2.out
        · have e1 : ((cn : Int) == 43) = true := by simp; omega
          replace hsg := Lib.hid hsg
          go_wp2_with (at_builtin; refine wpList_append_buf _ rfl _ _ rfl g (nodot (l.take j)) 0 c _ _ hL.out rfl rfl hB1.out hl256.out hcell.out ?_; intro w2 hb2 hf2; replace hb2 := Lib.hid hb2; replace hf2 := Lib.hid hf2)
          exact FIN.out w2 _ _ hb2.out hf2.out hne.out (Or.inl ⟨rfl, h1.out⟩) h2.out
      · have hbd := dg_bounds hdg
        have hne : Hid (c.toNat ≠ 46) := by show _ ≠ _; omega
        rw [← hcn.out] at hbd
        have h1 : Hid ((dpi = -1 ∧ j + 1 ≤ K) ∨ (dpi = (K : Int) ∧ K < j + 1)) := by
          have := hK2.out
          rcases b4.out with ⟨e, e'⟩ | ⟨e, e'⟩
          · exact Or.inl ⟨e, by omega⟩
          · exact Or.inr ⟨e, by omega⟩
        have e1 : ((cn : Int) == 43) = false := by simp; omega
        have e2 : ((cn : Int) == 45) = false := by simp; omega
        have e3 : ((cn : Int) == 46) = false := by simp; omega
        have e4 : 48 ≤ (cn : Int) := by omega
        have e5 : (cn : Int) ≤ 57 := by omega
        have F8 : IntKind.u8.wrap (cn : Int) = (cn : Int) := by rw [IntKind.wrap_u8]; omega
        replace hbd := Lib.hid hbd
        rcases b5.out with ⟨e, hall⟩ | e
        · subst e
          replace hall := Lib.hid hall
          go_wp2_with (at_builtin; refine wpList_append_buf _ rfl _ _ rfl g (nodot (l.take j)) L c _ _ hL.out rfl rfl hB1.out hl256.out hcell.out ?_; intro w2 hb2 hf2; replace hb2 := Lib.hid hb2; replace hf2 := Lib.hid hf2)
          exact FIN.out w2 _ _ hb2.out hf2.out hne.out h1.out (Or.inr (by omega))
        · have e6 : (dgi == -1) = false := by simp; omega
          go_wp2_with (at_builtin; refine wpList_append_buf _ rfl _ _ rfl g (nodot (l.take j)) L c _ _ hL.out rfl rfl hB1.out hl256.out hcell.out ?_; intro w2 hb2 hf2; replace hb2 := Lib.hid hb2; replace hf2 := Lib.hid hf2)
          exact FIN.out w2 _ _ hb2.out hf2.out hne.out h1.out (Or.inr e)
      · have ejj : dpi = -1 := by
          have := hK2.out
          rcases b4.out with ⟨e, _⟩ | ⟨_, e⟩
          · exact e
          · omega
        obtain rfl := ejj
        have e46 : cn = 46 := by rw [hcn.out]; exact hdot
        replace hdot := Lib.hid hdot
        have hLK : Hid (L = K) := by
          show _ = _
          rw [hL.out, hjK, V.out.pre, hK.out, List.length_append]
        have e1 : ((cn : Int) == 43) = false := by simp; omega
        have e2 : ((cn : Int) == 45) = false := by simp; omega
        have e3 : ((cn : Int) == 46) = true := by simp; omega
        replace e46 := Lib.hid e46
        replace hjK := Lib.hid hjK
        go_wp2_with fail
        exact FIN2.out _ hdot.out (Or.inr ⟨by rw [hLK.out], by rw [hK.out]; have := hjK.out; omega⟩)
    · obtain rfl : j = l.length := by omega
      rw [List.take_length, V.out.nd] at b1
      rw [List.take_length, V.out.nd]
      rw [List.take_length] at b5
      rw [← hs] at b2
      have hcE : wr.cell? ⟨3, 0, none⟩ = some (.iface 204 (.pointer (some ea))) := cell_frame hE.out b3 (fun e => hp e.symm)
      have R := Lib.hid (readRune_end p s r _ wr b2 hcE hp (by omega))
      have hdg : 0 ≤ dgi := by
        rcases b5 with ⟨_, hall⟩ | e
        · obtain ⟨c, hc, hd⟩ := V.out.has
          have := hall c hc
          rw [hd] at this; cases this
        · exact e
      have e6 : (dgi == -1) = false := by simp; omega
      have hll : l.length = sg.length + d1.length + dt.length + d2.length := by rw [V.out.eq]; simp; omega
      have hfl : (sg ++ d1 ++ d2).length = sg.length + d1.length + d2.length := by simp; omega
      have hK2 := hK.out
      have hsz : Hid ((tx (sg ++ d1 ++ d2)).size ≤ 1000000) := by
        have : (tx (sg ++ d1 ++ d2)).size = (sg ++ d1 ++ d2).length := rfl
        show _ ≤ _
        omega
      obtain ⟨L, hL⟩ : ∃ L, L = (sg ++ d1 ++ d2).length := ⟨_, rfl⟩
      rw [← hL] at hfl ⊢
      replace hL := Lib.hid hL
      have Db := Lib.hid dBig_any
      have hn2' := hn2.out
      replace b1 := Lib.hid b1
      replace b2 := Lib.hid b2
      replace b3 := Lib.hid b3
      replace b5 := Lib.hid b5
      rcases V.out.dt with hdt | ⟨hdt, hd2⟩
      · have hdl : dt.length = 1 := by rw [hdt]; rfl
        obtain rfl : dpi = (K : Int) := by
          rcases b4 with ⟨_, e⟩ | ⟨e, _⟩
          · omega
          · exact e
        have u1 : wrap64 ((L : Int) - (K : Int)) = (n2 : Int) := by unfold wrap64; omega
        have u2 : IntKind.i64.wrap ((L : Int) - (K : Int)) = (n2 : Int) := by rw [IntKind.wrap_i64]; omega
        have u3 : IntKind.i32.wrap (n2 : Int) = (n2 : Int) := by rw [IntKind.wrap_i32]; omega
        have u4 : wrap32 (n2 : Int) = (n2 : Int) := by unfold wrap32; omega
        replace hll := Lib.hid hll
        replace hfl := Lib.hid hfl
        replace hdt := Lib.hid hdt
        replace hdl := Lib.hid hdl
        replace hK2 := Lib.hid hK2
        replace hn2' := Lib.hid hn2'
        replace b4 := Lib.hid b4
        replace hrel := Lib.hid hrel
        go_wp2_with fail
        refine R.out.mono ?_
        rintro e w1 ⟨rfl, r1, r2⟩
        have cE1 := cell_frame hcE r2 (fun e => hp e.symm)
        have F1 := b3.out.trans r2 (fun _ _ h => h)
        have z1 := hz.out.frame F1 hpp (fun _ h => by cases h)
        have c1 := cell_frame cz.out F1 hpp
        have SS := Lib.hid (dSetScale_any pz (n2 : Int) _ w1 c1 z1.plain)
        obtain ⟨y1, y2⟩ := z1.set2 (.int .i32 (n2 : Int))
        have ws2 := World.cell?_setCell_same w1 ⟨pz, 2, none⟩ (.int .i32 (n2 : Int)) c1
        have B1 := b1.out.frame r2 (by intro e; exact hgp.out e.symm)
        have hgz : g ≠ pz := by have := hz.out.lt; have := hg.out; omega
        have B2 := B1.frame y2 hgz
        have E2 := cell_frame cE1 y2 (fun e => hpz e.symm)
        have rr2 := r1.frame y2 (fun e => hpp e.symm)
        obtain ⟨w2, hw2⟩ : ∃ w2, w2 = w1.setCell ⟨pz, 2, none⟩ (.int .i32 (n2 : Int)) := ⟨_, rfl⟩
        rw [← hw2] at SS y1 y2 ws2 B2 E2 rr2
        have hstr := run_string_buf w2.drew g (sg ++ d1 ++ d2) (B2.frame (Fr.drew (fun _ => False) w2) (fun f => f))
        rw [← hL.out] at hstr
        obtain ⟨b, t, hb1, hb2, hb3⟩ := V.out.head
        have T := iSetString_any pz (tx (sg ++ d1 ++ d2)) b t (d1 ++ d2) ea w2.drew (y1.frame (Fr.drew (fun _ => False) w2) (fun f => f) (fun _ _ f => f)) (by rw [tx_list]; exact hb1) (by rw [tx_list]; exact hb2) V.out.ne
          (by intro c hc; rcases List.mem_append.1 hc with h | h; exact V.out.g1 c h; exact V.out.g2 c h) hd.out (cell_frame E2 (Fr.drew (fun _ => False) w2) (fun f => f)) hpz hsz.out
        rw [hb3, ← hN.out] at T
        replace T := Lib.hid T
        obtain ⟨X, hX⟩ : ∃ X, X = tx (sg ++ d1 ++ d2) := ⟨_, rfl⟩
        rw [← hX] at T hstr
        replace hX := Lib.hid hX
        replace r1 := Lib.hid r1
        replace r2 := Lib.hid r2
        replace F1 := Lib.hid F1
        replace z1 := Lib.hid z1
        replace y1 := Lib.hid y1
        replace y2 := Lib.hid y2
        replace ws2 := Lib.hid ws2
        replace B1 := Lib.hid B1
        replace B2 := Lib.hid B2
        replace E2 := Lib.hid E2
        replace rr2 := Lib.hid rr2
        replace hb1 := Lib.hid hb1
        replace hb2 := Lib.hid hb2
        replace hb3 := Lib.hid hb3
        replace hw2 := Lib.hid hw2
        replace hgz := Lib.hid hgz
        clear c1 R hcE
        try unfold ptr at *
        go_wp2_with fail
        refine SS.out.mono ?_
        rintro e wS ⟨rfl, rfl⟩
        go_wp2_with fail
        go_region_with (first
          | (go_at_call 28; refine (Db.out _ _).mono ?_; rintro e w9 ⟨rfl, rfl⟩)
          | (go_at_call 81; refine T.out.mono ?_; rintro e w3 ⟨ob, rfl, i1, i2, i3, i4⟩))
        all_goals
          replace i1 := Lib.hid i1
          replace i2 := Lib.hid i2
          replace i3 := Lib.hid i3
          replace i4 := Lib.hid i4
          go_wp2_with fail
          try rw [Exit.noGoto_ret]
          go_ret2
          refine ⟨ob, -1, rfl, ⟨i1.out, Eq.trans i4.out ws2.out⟩, (rr2.out.frame (Fr.drew (fun _ => False) wS) (fun f => f)).frame i3.out (fun e => hpp e.symm), ?_, ?_⟩
          · exact (((F1.out.mono (fun _ _ h => Or.inr h)).trans y2.out (fun _ _ h => Or.inl h)).trans (Fr.drew (fun _ => False) wS) (fun _ _ h => h.elim)).trans i3.out (fun _ _ h => Or.inl h)
          · intro b hb
            have h1 := i2.out b hb
            have h2 := F1.out.size
            have h3 := y2.out.size
            have h4 : wS.drew.heap.size = wS.heap.size := rfl
            omega
      · have hdl : dt.length = 0 := by rw [hdt]; rfl
        have hd2l : d2.length = 0 := by rw [hd2]; rfl
        obtain rfl : dpi = -1 := by
          rcases b4 with ⟨e, _⟩ | ⟨_, e⟩
          · exact e
          · omega
        obtain rfl : n2 = 0 := by omega
        replace hll := Lib.hid hll
        replace hfl := Lib.hid hfl
        replace hdt := Lib.hid hdt
        replace hdl := Lib.hid hdl
        replace hd2 := Lib.hid hd2
        replace hd2l := Lib.hid hd2l
        replace hK2 := Lib.hid hK2
        replace hn2' := Lib.hid hn2'
        replace b4 := Lib.hid b4
        replace hrel := Lib.hid hrel
        go_wp2_with fail
        refine R.out.mono ?_
        rintro e w1 ⟨rfl, r1, r2⟩
        have cE1 := cell_frame hcE r2 (fun e => hp e.symm)
        have F1 := b3.out.trans r2 (fun _ _ h => h)
        have z1 := hz.out.frame F1 hpp (fun _ h => by cases h)
        have c1 := cell_frame cz.out F1 hpp
        have SS := Lib.hid (dSetScale_any pz 0 _ w1 c1 z1.plain)
        obtain ⟨y1, y2⟩ := z1.set2 (.int .i32 0)
        have ws2 := World.cell?_setCell_same w1 ⟨pz, 2, none⟩ (.int .i32 0) c1
        have B1 := b1.out.frame r2 (by intro e; exact hgp.out e.symm)
        have hgz : g ≠ pz := by have := hz.out.lt; have := hg.out; omega
        have B2 := B1.frame y2 hgz
        have E2 := cell_frame cE1 y2 (fun e => hpz e.symm)
        have rr2 := r1.frame y2 (fun e => hpp e.symm)
        obtain ⟨w2, hw2⟩ : ∃ w2, w2 = w1.setCell ⟨pz, 2, none⟩ (.int .i32 0) := ⟨_, rfl⟩
        rw [← hw2] at SS y1 y2 ws2 B2 E2 rr2
        have hstr := run_string_buf w2.drew g (sg ++ d1 ++ d2) (B2.frame (Fr.drew (fun _ => False) w2) (fun f => f))
        rw [← hL.out] at hstr
        obtain ⟨b, t, hb1, hb2, hb3⟩ := V.out.head
        have T := iSetString_any pz (tx (sg ++ d1 ++ d2)) b t (d1 ++ d2) ea w2.drew (y1.frame (Fr.drew (fun _ => False) w2) (fun f => f) (fun _ _ f => f)) (by rw [tx_list]; exact hb1) (by rw [tx_list]; exact hb2) V.out.ne
          (by intro c hc; rcases List.mem_append.1 hc with h | h; exact V.out.g1 c h; exact V.out.g2 c h) hd.out (cell_frame E2 (Fr.drew (fun _ => False) w2) (fun f => f)) hpz hsz.out
        rw [hb3, ← hN.out] at T
        replace T := Lib.hid T
        obtain ⟨X, hX⟩ : ∃ X, X = tx (sg ++ d1 ++ d2) := ⟨_, rfl⟩
        rw [← hX] at T hstr
        replace hX := Lib.hid hX
        replace r1 := Lib.hid r1
        replace r2 := Lib.hid r2
        replace F1 := Lib.hid F1
        replace z1 := Lib.hid z1
        replace y1 := Lib.hid y1
        replace y2 := Lib.hid y2
        replace ws2 := Lib.hid ws2
        replace B1 := Lib.hid B1
        replace B2 := Lib.hid B2
        replace E2 := Lib.hid E2
        replace rr2 := Lib.hid rr2
        replace hb1 := Lib.hid hb1
        replace hb2 := Lib.hid hb2
        replace hb3 := Lib.hid hb3
        replace hw2 := Lib.hid hw2
        replace hgz := Lib.hid hgz
        clear c1 R hcE
        try unfold ptr at *
        go_wp2_with fail
        refine SS.out.mono ?_
        rintro e wS ⟨rfl, rfl⟩
        go_wp2_with fail
        go_region_with (first
          | (go_at_call 28; refine (Db.out _ _).mono ?_; rintro e w9 ⟨rfl, rfl⟩)
          | (go_at_call 81; refine T.out.mono ?_; rintro e w3 ⟨ob, rfl, i1, i2, i3, i4⟩))
        all_goals
          replace i1 := Lib.hid i1
          replace i2 := Lib.hid i2
          replace i3 := Lib.hid i3
          replace i4 := Lib.hid i4
          go_wp2_with fail
          try rw [Exit.noGoto_ret]
          go_ret2
          refine ⟨ob, -1, rfl, ⟨i1.out, Eq.trans i4.out ws2.out⟩, (rr2.out.frame (Fr.drew (fun _ => False) wS) (fun f => f)).frame i3.out (fun e => hpp e.symm), ?_, ?_⟩
          · exact (((F1.out.mono (fun _ _ h => Or.inr h)).trans y2.out (fun _ _ h => Or.inl h)).trans (Fr.drew (fun _ => False) wS) (fun _ _ h => h.elim)).trans i3.out (fun _ _ h => Or.inl h)
          · intro b hb
            have h1 := i2.out b hb
            have h2 := F1.out.size
            have h3 := y2.out.size
            have h4 : wS.drew.heap.size = wS.heap.size := rfl
            omega
end Go.Proofs.YtcpjclakdpjjfaaGreatDoor

namespace Go.Proofs.YtcpjclakdpjjfaaGreatDoor
open Go.RowKit

/-- What Dec.SetString comes to. -/
def DssEnd (w : World) (pz : Nat) (v : Value) (z : Int) (n : Nat) (e : Ending) (w' : World) : Prop :=
  ∃ ob, e = .returned v ∧ DecAt w' pz z (n : Int) ob ∧ Fr (fun k => k = pz) w w' ∧ (∀ b, ob = some b → w.heap.size ≤ b)

set_option maxHeartbeats 1000000 in
theorem dSetString_any (pz : Nat) (s : ByteArray) (l sg d1 dt d2 : List UInt8) (ea : Addr) (w : World) (hl : s.data.toList = l) (V : ValT l sg d1 dt d2) (hlen : l.length ≤ 200) (hd : (d1 ++ d2).length ≤ 150)
    (hz : IntC w pz false (.slice none 0 0) none 0) (cz : w.cell? ⟨pz, 2, none⟩ = some (.int .i32 0))
    (hE : w.cell? ⟨3, 0, none⟩ = some (.iface 204 (.pointer (some ea)))) (hpz : pz ≠ 3) :
    Calls Tryz.prog 22 #[ptr pz, .string s] w (DssEnd w pz (.tuple #[ptr pz, .bool true]) (sgn (decide (sg = [45])) (decV (d1 ++ d2))) d2.length) := by
  have N := Lib.hid (newReader_any s w)
  have hE3 := World.block_lt_of_cell? w _ hE
  have hzl := hz.plain.lt
  have hs : s.size ≤ 1000000 := by
    have : s.size = l.length := by rw [← hl]; simp
    omega
  have q1 := fun w' => ierr_neq_same ea w'
  obtain ⟨p, hp⟩ : ∃ p, p = w.heap.size := ⟨_, rfl⟩
  rw [← hp] at N
  have hp3 : p ≠ 3 := by rw [hp]; exact Nat.ne_of_gt hE3
  have hzp : pz ≠ p := by omega
  have S := Lib.hid (fun w1 (h : RdAt w1 p s 0 (-1)) (f : Fr (fun _ => False) w w1) => dScan_any pz p s l sg d1 dt d2 ea w1 hl V hlen hd (hz.frame f (fun e => e) (fun _ _ e => e)) (cell_frame cz f (fun e => e)) h
    (cell_frame hE f (fun e => e)) hp3 hpz hzp)
  obtain ⟨Z, hZ⟩ : ∃ Z, Z = sgn (decide (sg = [45])) (decV (d1 ++ d2)) := ⟨_, rfl⟩
  obtain ⟨n, hn⟩ : ∃ n, n = d2.length := ⟨_, rfl⟩
  rw [← hZ, ← hn] at S ⊢
  replace hp := Lib.hid hp
  replace hE := Lib.hid hE
  clear hl V hlen hd hz cz hZ hn
  unfold rdI ptr at *
  go_enter Tryz.func22, Tryz.ntmps22
  go_wp2_with fail
  refine N.out.mono ?_
  rintro e w1 ⟨rfl, h1, f1⟩
  have T := Lib.hid (S.out w1 h1 f1)
  have hpl := Lib.hid h1.plain.lt
  replace f1 := Lib.hid f1
  clear h1 S N
  try unfold ptr at *
  go_wp2_with fail
  refine T.out.mono ?_
  rintro e w2 ⟨ob, r, rfl, g1, g2, g3, g4⟩
  have E2 := cell_frame (cell_frame hE.out f1.out (fun e => e)) g3 (by intro e; rcases e with e | e; exact hpz e.symm; exact hp3 e.symm)
  have R := Lib.hid (readRune_end p s r _ w2 g2 E2 hp3 hs)
  replace g1 := Lib.hid g1
  replace g2 := Lib.hid g2
  replace g3 := Lib.hid g3
  replace g4 := Lib.hid g4
  clear T
  try unfold ptr at *
  go_wp2_with fail
  refine R.out.mono ?_
  rintro e w3 ⟨rfl, r1, r2⟩
  have E3 := cell_frame E2 r2 (by intro e; exact hp3 e.symm)
  replace r1 := Lib.hid r1
  replace r2 := Lib.hid r2
  clear R E2
  go_wp2_with fail
  go_ret2
  have s1 := f1.out.size
  have s2 := g3.out.size
  have a1 := hp.out
  refine ⟨ob, rfl, g1.out.frame r2.out hzp (fun b hb e => ?_), (f1.out.none.trans g3.out ?_).trans r2.out ?_, ?_⟩
  · have := g4.out b hb
    have := g2.out.plain.lt
    have h5 := hpl.out
    omega
  · intro k hk e; rcases e with e | e; exact e; omega
  · intro k hk e; omega
  · intro b hb; have := g4.out b hb; omega
end Go.Proofs.YtcpjclakdpjjfaaGreatDoor


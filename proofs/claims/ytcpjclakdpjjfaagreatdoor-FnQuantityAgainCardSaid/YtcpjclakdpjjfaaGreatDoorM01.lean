/-
  A part of the proof of FnQuantityAgain (texts Mem, Shelf, Wrd of mine, joined).
-/
import Derived.WalkKit
import Derived.Deep.Draws
import Derived.Shelf.Small.Bits
import Derived.Shelf.Strconv.Itoa0
import Derived.Shelf.Strconv.Itoa1
import Derived.Shelf.LaysM
import Derived.Shelf.Strconv.Itoa2
import Derived.Shelf.Strconv.ParseIntEmpty
import Derived.Shelf.Strconv.Clone
import Derived.Shelf.Strconv.SyntaxError
import Derived.Shelf.LaysC
import Derived.Shelf.Strconv.ToError
import Derived.Shelf.Strconv.Lower
import Derived.Shelf.Strconv.ParseUint10
import Derived.Shelf.Strconv.ParseUint10Empty
import Derived.Shelf.Strconv.ParseUint10Any
import Derived.Shelf.Strconv.ParseInt10
import Derived.Shelf.Strconv.RangeError
import Derived.Shelf.Strconv.ToErrorRange
import Derived.Shelf.Strconv.ParseUintEmpty
import Derived.Shelf.Strconv.ParseUint10b64
import Derived.Shelf.Strconv.ParseUint10b32
import Derived.Shelf.Strconv.ParseUint10b16
import Derived.Shelf.Strconv.ParseUint10b8
import Derived.Shelf.Strconv.ParseUint10At
import Derived.Shelf.Strconv.ParseInt10At64
import Derived.Shelf.Strconv.ParseInt10At32
import Derived.Shelf.Strconv.ParseInt10At16
import Derived.Shelf.Strconv.ParseInt10At8
import Derived.Shelf.Strconv.ParseInt10All
import Derived.Shelf.Strconv.ParseIntPublic10
import Derived.Shelf.Strconv.ErrVarParseInt
import Derived.Shelf.Strconv.AppendUint10
import Derived.Shelf.Strconv.AppendInt10
import Derived.Shelf.Strconv.AppendIntPublic10
import Derived.Shelf.Strings.Prefix
import Derived.Shelf.Bits.Mul64
import Derived.Shelf.Unicode.DecodeSlow
import Derived.Test.YtcpjclakdpjjfaaGreatDoorProg
import Derived.WalkSpells
import Derived.WalkLawsBesides
namespace Go.Proofs.YtcpjclakdpjjfaaGreatDoor
open Go.RowKit

def W64 : Nat := 18446744073709551616

/-- The number of a row of words, the least first. -/
def val : List Nat → Nat
  | [] => 0
  | x :: l => x + W64 * val l

def wrd (x : Nat) : Value := .int .u64 (x : Int)

structure Blk (w : World) (b : Nat) (l : List Nat) : Prop where
  at_ : ∃ T, w.heap[b]? = some (.cells (l.map wrd).toArray T (0, 0))
  ok : ∀ x ∈ l, x < W64

structure Fr (S : Nat → Prop) (w w' : World) : Prop where
  os : w'.os = w.os
  tape : w'.tape = w.tape
  output : w'.output = w.output
  size : w.heap.size ≤ w'.heap.size
  block : ∀ k, k < w.heap.size → ¬ S k → w'.heap[k]? = w.heap[k]?

theorem Fr.refl (S : Nat → Prop) (w : World) : Fr S w w := ⟨rfl, rfl, rfl, Nat.le_refl _, fun _ _ _ => rfl⟩

theorem Fr.trans {S T : Nat → Prop} {a b c : World} (h : Fr S a b) (k : Fr T b c) (hT : ∀ i, i < a.heap.size → T i → S i) : Fr S a c :=
  ⟨k.os.trans h.os, k.tape.trans h.tape, k.output.trans h.output, Nat.le_trans h.size k.size,
   fun i hi hn => (k.block i (Nat.lt_of_lt_of_le hi h.size) (fun ht => hn (hT i hi ht))).trans (h.block i hi hn)⟩

theorem Fr.mono {S T : Nat → Prop} {a b : World} (h : Fr S a b) (hT : ∀ i, i < a.heap.size → S i → T i) : Fr T a b :=
  ⟨h.os, h.tape, h.output, h.size, fun i hi hn => h.block i hi (fun hs => hn (hT i hi hs))⟩

theorem Fr.drew (S : Nat → Prop) (w : World) : Fr S w w.drew := ⟨rfl, rfl, rfl, Nat.le_refl _, fun _ _ _ => rfl⟩
theorem Fr.drewN (S : Nat → Prop) (w : World) (n : Nat) : Fr S w (w.drewN n) := ⟨rfl, rfl, rfl, Nat.le_refl _, fun _ _ _ => rfl⟩
theorem Fr.alloc (S : Nat → Prop) (w : World) (o : Obj) : Fr S w (w.alloc o) :=
  ⟨rfl, rfl, rfl, by simp, fun k hk _ => Below.heap_alloc _ _ _ hk⟩
theorem Fr.setCell {S : Nat → Prop} (w : World) (a : Addr) (v : Value) (h : a.block < w.heap.size → S a.block) : Fr S w (w.setCell a v) :=
  ⟨rfl, rfl, rfl, by simp, fun k hk hn => Below.heap_setCell _ _ _ _ (fun e => hn (e ▸ h (e ▸ hk)))⟩
theorem Fr.below {w w' : World} (h : Fr (fun _ => False) w w') : Below w.heap.size w w' :=
  ⟨h.os, h.tape, h.output, h.size, fun k hk => h.block k hk (fun f => f)⟩
theorem Fr.of_below {S : Nat → Prop} {w w' : World} (h : Below w.heap.size w w') : Fr S w w' :=
  ⟨h.os, h.tape, h.output, h.size, fun k hk _ => h.block k hk⟩

theorem Fr.cell {S : Nat → Prop} {w w' : World} (h : Fr S w w') {p : Addr} (hp : p.block < w.heap.size) (hn : ¬ S p.block) : w'.cell? p = w.cell? p :=
  World.cell?_of_block (w := w) (h.block p.block hp hn)
theorem Fr.frozen {S : Nat → Prop} {w w' : World} (h : Fr S w w') {p : Addr} (hp : p.block < w.heap.size) (hn : ¬ S p.block) : w'.frozen? p = w.frozen? p :=
  World.frozen?_of_block (w := w) (h.block p.block hp hn)

/-! Blocks of words. -/
theorem Blk.lt {w : World} {b : Nat} {l : List Nat} (h : Blk w b l) : b < w.heap.size := by
  obtain ⟨T, hT⟩ := h.at_
  exact (Array.getElem?_eq_some_iff.1 hT).1

theorem Blk.cell {w : World} {b : Nat} {l : List Nat} (h : Blk w b l) (i : Nat) (hi : i < l.length) : w.cell? ⟨b, i, none⟩ = some (.int .u64 ((l[i]?.getD 0 : Nat) : Int)) := by
  obtain ⟨T, hT⟩ := h.at_
  simp [World.cell?, hT, wrd, hi]

theorem Blk.free {w : World} {b : Nat} {l : List Nat} (h : Blk w b l) (i : Nat) : w.frozen? ⟨b, i, none⟩ = false := by
  obtain ⟨T, hT⟩ := h.at_
  simp [World.frozen?, hT]

theorem Blk.word {w : World} {b : Nat} {l : List Nat} (h : Blk w b l) (i : Nat) : l[i]?.getD 0 < W64 := by
  by_cases hi : i < l.length
  · rw [List.getElem?_eq_getElem hi]; exact h.ok _ (List.getElem_mem hi)
  · rw [List.getElem?_eq_none (by omega)]; show 0 < W64; unfold W64; omega

theorem Blk.set {w : World} {b : Nat} {l : List Nat} (h : Blk w b l) (i x : Nat) (hx : x < W64) : Blk (w.setCell ⟨b, i, none⟩ (.int .u64 (x : Int))) b (l.set i x) := by
  obtain ⟨T, hT⟩ := h.at_
  refine ⟨⟨T, ?_⟩, ?_⟩
  · simp [World.setCell, Array.getElem?_modify, hT, wrd, List.map_set]
  · intro y hy
    rcases List.mem_or_eq_of_mem_set hy with hy | rfl
    · exact h.ok _ hy
    · exact hx

theorem Blk.of_eq {w w' : World} {b : Nat} {l : List Nat} (h : Blk w b l) (e : w'.heap[b]? = w.heap[b]?) : Blk w' b l :=
  ⟨by rw [e]; exact h.at_, h.ok⟩
theorem Blk.frame {S : Nat → Prop} {w w' : World} {b : Nat} {l : List Nat} (h : Blk w b l) (f : Fr S w w') (hn : ¬ S b) : Blk w' b l :=
  h.of_eq (f.block b h.lt hn)
theorem Blk.drew {w : World} {b : Nat} {l : List Nat} (h : Blk w b l) : Blk w.drew b l := h.of_eq rfl
theorem Blk.drewN {w : World} {b : Nat} {l : List Nat} (h : Blk w b l) (n : Nat) : Blk (w.drewN n) b l := h.of_eq rfl
theorem Blk.alloc {w : World} {b : Nat} {l : List Nat} (h : Blk w b l) (o : Obj) : Blk (w.alloc o) b l := h.of_eq (Below.heap_alloc _ _ _ h.lt)
theorem Blk.setOther {w : World} {b : Nat} {l : List Nat} (h : Blk w b l) {a : Addr} (v : Value) (hn : b ≠ a.block) : Blk (w.setCell a v) b l :=
  h.of_eq (Below.heap_setCell _ _ _ _ hn)

/-- A block that two readings name is one list. -/
theorem Blk.same {w : World} {b : Nat} {l m : List Nat} (h : Blk w b l) (k : Blk w b m) : l = m := by
  obtain ⟨T, hT⟩ := h.at_
  obtain ⟨U, hU⟩ := k.at_
  rw [hT] at hU
  simp only [Option.some.injEq, Obj.cells.injEq] at hU
  have e : l.map wrd = m.map wrd := by simpa using hU.1
  have inj : ∀ x y, wrd x = wrd y → x = y := by intro x y hxy; simp only [wrd, Value.int.injEq, true_and] at hxy; exact Int.ofNat.inj hxy
  clear h k hT hU
  induction l generalizing m with
  | nil => cases m with | nil => rfl | cons y m => simp at e
  | cons x l ih =>
    cases m with
    | nil => simp at e
    | cons y m => simp only [List.map_cons, List.cons.injEq] at e; rw [inj x y e.1, ih e.2]


/-! The ends of walks. -/
theorem ret_int {k : IntKind} {a b : Int} (h : a = b) : Ending.returned (.int k a) = Ending.returned (.int k b) := by rw [h]
theorem ret_tup2 {k k' : IntKind} {a b c d : Int} (h : a = c) (g : b = d) : Ending.returned (.tuple #[.int k a, .int k' b]) = Ending.returned (.tuple #[.int k c, .int k' d]) := by rw [h, g]
theorem W64_pos : 0 < W64 := by unfold W64; omega
theorem wrapu (n : Nat) (h : n < W64) : IntKind.u64.wrap (n : Int) = (n : Int) := by
  unfold W64 at h
  rw [IntKind.wrap_u64]; omega
theorem wrapuz {z : Int} (h0 : 0 ≤ z) (h : z < (W64 : Nat)) : IntKind.u64.wrap z = z := by
  unfold W64 at h
  rw [IntKind.wrap_u64]; omega
theorem wrapu_mod (z : Int) : IntKind.u64.wrap z = z % ((W64 : Nat) : Int) := by
  rw [IntKind.wrap_u64]; rfl

end Go.Proofs.YtcpjclakdpjjfaaGreatDoor

namespace Go.Proofs
open Go.Shelf
def Tryz.lays125_ren : Go.Shelf.Ren := ⟨fun | 125 => 217 | 128 => 231 | 129 => 200 | n => n, fun | 46 => 81 | 3 => 3 | 51 => 267 | 53 => 60 | 4 => 4 | 5 => 5 | 9 => 9 | n => n, fun | n => n⟩
theorem Tryz.lays125 : Go.Proofs.Lays.n125 Tryz.prog Tryz.lays125_ren := {
  mixed := by kernel_rfl
  f125 := Tryz.func217.trans (congrArg some (by kernel_rfl))
  f128 := Tryz.func231.trans (congrArg some (by kernel_rfl))
  f129 := Tryz.func200.trans (congrArg some (by kernel_rfl))
  t3 := Tryz.underlying3
  a3 := Tryz.isAgg3
  z3 := Tryz.sizeOf3
  v3 := Tryz.zeroValue3
  t4 := Tryz.underlying4
  a4 := Tryz.isAgg4
  z4 := Tryz.sizeOf4
  v4 := Tryz.zeroValue4
  t5 := Tryz.underlying5
  a5 := Tryz.isAgg5
  z5 := Tryz.sizeOf5
  v5 := Tryz.zeroValue5
  t9 := Tryz.underlying9
  a9 := Tryz.isAgg9
  z9 := Tryz.sizeOf9
  v9 := Tryz.zeroValue9
  t46 := Tryz.underlying81
  a46 := Tryz.isAgg81
  z46 := Tryz.sizeOf81
  v46 := Tryz.zeroValue81
  t51 := Tryz.underlying267
  a51 := Tryz.isAgg267
  z51 := Tryz.sizeOf267
  v51 := Tryz.zeroValue267
  t53 := Tryz.underlying60
  a53 := Tryz.isAgg60
  z53 := Tryz.sizeOf60
  v53 := Tryz.zeroValue60 }
theorem Tryz.bits_Len (x : Int) (w : World) (h0 : 0 ≤ x) (h1 : x ≤ 18446744073709551615) :
    Calls Tryz.prog 217 #[.int .u64 x] w fun e w' => e = .returned (.int .i64 (Lib.bitLen x.toNat)) ∧ w' = w := Any.bits_Len Tryz.lays125 x w h0 h1
def Tryz.lays134_ren : Go.Shelf.Ren := ⟨fun | 134 => 240 | 129 => 200 | n => n, fun | 53 => 60 | 3 => 3 | 4 => 4 | 46 => 81 | 5 => 5 | 9 => 9 | n => n, fun | n => n⟩
theorem Tryz.lays134 : Go.Proofs.Lays.n134 Tryz.prog Tryz.lays134_ren := {
  mixed := by kernel_rfl
  f129 := Tryz.func200.trans (congrArg some (by kernel_rfl))
  f134 := Tryz.func240.trans (congrArg some (by kernel_rfl))
  t3 := Tryz.underlying3
  a3 := Tryz.isAgg3
  z3 := Tryz.sizeOf3
  v3 := Tryz.zeroValue3
  t4 := Tryz.underlying4
  a4 := Tryz.isAgg4
  z4 := Tryz.sizeOf4
  v4 := Tryz.zeroValue4
  t5 := Tryz.underlying5
  a5 := Tryz.isAgg5
  z5 := Tryz.sizeOf5
  v5 := Tryz.zeroValue5
  t9 := Tryz.underlying9
  a9 := Tryz.isAgg9
  z9 := Tryz.sizeOf9
  v9 := Tryz.zeroValue9
  t46 := Tryz.underlying81
  a46 := Tryz.isAgg81
  z46 := Tryz.sizeOf81
  v46 := Tryz.zeroValue81
  t53 := Tryz.underlying60
  a53 := Tryz.isAgg60
  z53 := Tryz.sizeOf60
  v53 := Tryz.zeroValue60 }
theorem Tryz.bits_LeadingZeros64 (x : Int) (w : World) (h0 : 0 ≤ x) (h1 : x ≤ 18446744073709551615) :
    Calls Tryz.prog 240 #[.int .u64 x] w fun e w' => e = .returned (.int .i64 (64 - (Lib.bitLen x.toNat : Int))) ∧ w' = w := Any.bits_LeadingZeros64 Tryz.lays134 x w h0 h1
def Tryz.lays130_ren : Go.Shelf.Ren := ⟨fun | 130 => 213 | 125 => 217 | 128 => 231 | 129 => 200 | n => n, fun | 46 => 81 | 3 => 3 | 51 => 267 | 53 => 60 | 4 => 4 | 5 => 5 | 9 => 9 | n => n, fun | n => n⟩
theorem Tryz.lays130 : Go.Proofs.Lays.n130 Tryz.prog Tryz.lays130_ren := {
  mixed := by kernel_rfl
  f125 := Tryz.func217.trans (congrArg some (by kernel_rfl))
  f128 := Tryz.func231.trans (congrArg some (by kernel_rfl))
  f129 := Tryz.func200.trans (congrArg some (by kernel_rfl))
  f130 := Tryz.func213.trans (congrArg some (by kernel_rfl))
  t3 := Tryz.underlying3
  a3 := Tryz.isAgg3
  z3 := Tryz.sizeOf3
  v3 := Tryz.zeroValue3
  t4 := Tryz.underlying4
  a4 := Tryz.isAgg4
  z4 := Tryz.sizeOf4
  v4 := Tryz.zeroValue4
  t5 := Tryz.underlying5
  a5 := Tryz.isAgg5
  z5 := Tryz.sizeOf5
  v5 := Tryz.zeroValue5
  t9 := Tryz.underlying9
  a9 := Tryz.isAgg9
  z9 := Tryz.sizeOf9
  v9 := Tryz.zeroValue9
  t46 := Tryz.underlying81
  a46 := Tryz.isAgg81
  z46 := Tryz.sizeOf81
  v46 := Tryz.zeroValue81
  t51 := Tryz.underlying267
  a51 := Tryz.isAgg267
  z51 := Tryz.sizeOf267
  v51 := Tryz.zeroValue267
  t53 := Tryz.underlying60
  a53 := Tryz.isAgg60
  z53 := Tryz.sizeOf60
  v53 := Tryz.zeroValue60 }
theorem Tryz.bits_LeadingZeros (x : Int) (w : World) (h0 : 0 ≤ x) (h1 : x ≤ 18446744073709551615) :
    Calls Tryz.prog 213 #[.int .u64 x] w fun e w' => e = .returned (.int .i64 (64 - (Lib.bitLen x.toNat : Int))) ∧ w' = w := Any.bits_LeadingZeros Tryz.lays130 x w h0 h1
def Tryz.lays129_ren : Go.Shelf.Ren := ⟨fun | 129 => 200 | n => n, fun | 53 => 60 | 3 => 3 | 4 => 4 | 46 => 81 | 5 => 5 | 9 => 9 | n => n, fun | n => n⟩
theorem Tryz.lays129 : Go.Proofs.Lays.n129 Tryz.prog Tryz.lays129_ren := {
  mixed := by kernel_rfl
  f129 := Tryz.func200.trans (congrArg some (by kernel_rfl))
  t3 := Tryz.underlying3
  a3 := Tryz.isAgg3
  z3 := Tryz.sizeOf3
  v3 := Tryz.zeroValue3
  t4 := Tryz.underlying4
  a4 := Tryz.isAgg4
  z4 := Tryz.sizeOf4
  v4 := Tryz.zeroValue4
  t5 := Tryz.underlying5
  a5 := Tryz.isAgg5
  z5 := Tryz.sizeOf5
  v5 := Tryz.zeroValue5
  t9 := Tryz.underlying9
  a9 := Tryz.isAgg9
  z9 := Tryz.sizeOf9
  v9 := Tryz.zeroValue9
  t46 := Tryz.underlying81
  a46 := Tryz.isAgg81
  z46 := Tryz.sizeOf81
  v46 := Tryz.zeroValue81
  t53 := Tryz.underlying60
  a53 := Tryz.isAgg60
  z53 := Tryz.sizeOf60
  v53 := Tryz.zeroValue60 }
theorem Tryz.bits_Len64 (x : Int) (w : World) (h0 : 0 ≤ x) (h1 : x ≤ 18446744073709551615) :
    Calls Tryz.prog 200 #[.int .u64 x] w fun e w' => e = .returned (.int .i64 (Lib.bitLen x.toNat)) ∧ w' = w := Any.bits_Len64 Tryz.lays129 x w h0 h1
def Tryz.lays283_ren : Go.Shelf.Ren := ⟨fun | 283 => 177 | n => n, fun | 3 => 3 | 9 => 9 | 4 => 4 | n => n, fun | n => n⟩
theorem Tryz.lays283 : Go.Proofs.Lays.n283 Tryz.prog Tryz.lays283_ren := {
  mixed := by kernel_rfl
  f283 := Tryz.func177.trans (congrArg some (by kernel_rfl))
  t3 := Tryz.underlying3
  a3 := Tryz.isAgg3
  z3 := Tryz.sizeOf3
  v3 := Tryz.zeroValue3
  t4 := Tryz.underlying4
  a4 := Tryz.isAgg4
  z4 := Tryz.sizeOf4
  v4 := Tryz.zeroValue4
  t9 := Tryz.underlying9
  a9 := Tryz.isAgg9
  z9 := Tryz.sizeOf9
  v9 := Tryz.zeroValue9 }
open Go.Lib in
theorem Tryz.internal_strconv_small (i : Nat) (h : i < 100) (w : World) :
    Calls Tryz.prog 177 #[.int .i64 i] w fun e w' => e = .returned (.string ⟨(Lib.decDigits i).toArray⟩) ∧ w' = w := Any.internal_strconv_small Tryz.lays283 i h w
def Tryz.laysC174_ren : Go.Shelf.Ren := ⟨fun | 174 => 19 | 247 => 46 | 245 => 47 | 287 => 75 | 279 => 76 | 280 => 77 | 281 => 78 | 282 => 79 | 321 => 103 | 322 => 104 | 316 => 105 | 171 => 106 | 205 => 80 | 243 => 138 | 246 => 159 | 283 => 177 | 284 => 178 | 285 => 179 | 286 => 180 | 129 => 200 | 317 => 199 | 318 => 201 | 319 => 202 | 320 => 196 | 337 => 220 | 338 => 221 | n => n, fun | 9 => 9 | 3 => 3 | 2 => 2 | 75 => 41 | 85 => 62 | 4 => 4 | 167 => 152 | 5 => 5 | 53 => 60 | 175 => 153 | 46 => 81 | 168 => 155 | 37 => 96 | 0 => 0 | 210 => 202 | 21 => 21 | 127 => 235 | 145 => 206 | 143 => 204 | 171 => 280 | 173 => 283 | 212 => 301 | 51 => 267 | 20 => 20 | 213 => 302 | 232 => 325 | 233 => 326 | 80 => 51 | n => n, fun | 15 => 4 | 16 => 5 | 17 => 14 | 18 => 17 | 19 => 18 | n => n⟩
theorem Tryz.laysC174 : Go.Proofs.LaysC.n174 Tryz.prog Tryz.laysC174_ren := {
  mixed := by kernel_rfl
  f129 := Tryz.func200.trans (congrArg some (by kernel_rfl))
  f171 := Tryz.func106.trans (congrArg some (by kernel_rfl))
  f174 := Tryz.func19.trans (congrArg some (by kernel_rfl))
  f205 := Tryz.func80.trans (congrArg some (by kernel_rfl))
  f243 := Tryz.func138.trans (congrArg some (by kernel_rfl))
  f245 := Tryz.func47.trans (congrArg some (by kernel_rfl))
  f246 := Tryz.func159.trans (congrArg some (by kernel_rfl))
  f247 := Tryz.func46.trans (congrArg some (by kernel_rfl))
  f279 := Tryz.func76.trans (congrArg some (by kernel_rfl))
  f280 := Tryz.func77.trans (congrArg some (by kernel_rfl))
  f281 := Tryz.func78.trans (congrArg some (by kernel_rfl))
  f282 := Tryz.func79.trans (congrArg some (by kernel_rfl))
  f283 := Tryz.func177.trans (congrArg some (by kernel_rfl))
  f284 := Tryz.func178.trans (congrArg some (by kernel_rfl))
  f285 := Tryz.func179.trans (congrArg some (by kernel_rfl))
  f286 := Tryz.func180.trans (congrArg some (by kernel_rfl))
  f287 := Tryz.func75.trans (congrArg some (by kernel_rfl))
  f316 := Tryz.func105.trans (congrArg some (by kernel_rfl))
  f317 := Tryz.func199.trans (congrArg some (by kernel_rfl))
  f318 := Tryz.func201.trans (congrArg some (by kernel_rfl))
  f319 := Tryz.func202.trans (congrArg some (by kernel_rfl))
  f320 := Tryz.func196.trans (congrArg some (by kernel_rfl))
  f321 := Tryz.func103.trans (congrArg some (by kernel_rfl))
  f322 := Tryz.func104.trans (congrArg some (by kernel_rfl))
  f337 := Tryz.func220.trans (congrArg some (by kernel_rfl))
  f338 := Tryz.func221.trans (congrArg some (by kernel_rfl))
  t0 := Tryz.underlying0
  a0 := Tryz.isAgg0
  z0 := Tryz.sizeOf0
  v0 := Tryz.zeroValue0
  t2 := Tryz.underlying2
  a2 := Tryz.isAgg2
  z2 := Tryz.sizeOf2
  v2 := Tryz.zeroValue2
  t3 := Tryz.underlying3
  a3 := Tryz.isAgg3
  z3 := Tryz.sizeOf3
  v3 := Tryz.zeroValue3
  t4 := Tryz.underlying4
  a4 := Tryz.isAgg4
  z4 := Tryz.sizeOf4
  v4 := Tryz.zeroValue4
  t5 := Tryz.underlying5
  a5 := Tryz.isAgg5
  z5 := Tryz.sizeOf5
  v5 := Tryz.zeroValue5
  t9 := Tryz.underlying9
  a9 := Tryz.isAgg9
  z9 := Tryz.sizeOf9
  v9 := Tryz.zeroValue9
  t20 := Tryz.underlying20
  a20 := Tryz.isAgg20
  z20 := Tryz.sizeOf20
  v20 := Tryz.zeroValue20
  t21 := Tryz.underlying21
  a21 := Tryz.isAgg21
  z21 := Tryz.sizeOf21
  v21 := Tryz.zeroValue21
  t37 := Tryz.underlying96
  a37 := Tryz.isAgg96
  z37 := Tryz.sizeOf96
  v37 := Tryz.zeroValue96
  t46 := Tryz.underlying81
  a46 := Tryz.isAgg81
  z46 := Tryz.sizeOf81
  v46 := Tryz.zeroValue81
  t51 := Tryz.underlying267
  a51 := Tryz.isAgg267
  z51 := Tryz.sizeOf267
  v51 := Tryz.zeroValue267
  t53 := Tryz.underlying60
  a53 := Tryz.isAgg60
  z53 := Tryz.sizeOf60
  v53 := Tryz.zeroValue60
  t75 := Tryz.underlying41
  a75 := Tryz.isAgg41
  z75 := Tryz.sizeOf41
  v75 := Tryz.zeroValue41
  t85 := Tryz.underlying62
  a85 := Tryz.isAgg62
  z85 := Tryz.sizeOf62
  v85 := Tryz.zeroValue62
  t127 := Tryz.underlying235
  a127 := Tryz.isAgg235
  z127 := Tryz.sizeOf235
  v127 := Tryz.zeroValue235
  t143 := Tryz.underlying204
  a143 := Tryz.isAgg204
  z143 := Tryz.sizeOf204
  v143 := Tryz.zeroValue204
  t145 := Tryz.underlying206
  a145 := Tryz.isAgg206
  z145 := Tryz.sizeOf206
  v145 := Tryz.zeroValue206
  t167 := Tryz.underlying152
  a167 := Tryz.isAgg152
  z167 := Tryz.sizeOf152
  v167 := Tryz.zeroValue152
  t168 := Tryz.underlying155
  a168 := Tryz.isAgg155
  z168 := Tryz.sizeOf155
  v168 := Tryz.zeroValue155
  t171 := Tryz.underlying280
  a171 := Tryz.isAgg280
  z171 := Tryz.sizeOf280
  v171 := Tryz.zeroValue280
  t173 := Tryz.underlying283
  a173 := Tryz.isAgg283
  z173 := Tryz.sizeOf283
  v173 := Tryz.zeroValue283
  t175 := Tryz.underlying153
  a175 := Tryz.isAgg153
  z175 := Tryz.sizeOf153
  v175 := Tryz.zeroValue153
  t210 := Tryz.underlying202
  a210 := Tryz.isAgg202
  z210 := Tryz.sizeOf202
  v210 := Tryz.zeroValue202
  t212 := Tryz.underlying301
  a212 := Tryz.isAgg301
  z212 := Tryz.sizeOf301
  v212 := Tryz.zeroValue301
  t213 := Tryz.underlying302
  a213 := Tryz.isAgg302
  z213 := Tryz.sizeOf302
  t232 := Tryz.underlying325
  a232 := Tryz.isAgg325
  z232 := Tryz.sizeOf325
  v232 := Tryz.zeroValue325
  t233 := Tryz.underlying326
  a233 := Tryz.isAgg326
  z233 := Tryz.sizeOf326
  v233 := Tryz.zeroValue326
  g15 := by kernel_rfl
  g16 := by kernel_rfl
  g17 := by kernel_rfl
  g18 := by kernel_rfl
  g19 := by kernel_rfl
  t80 := Tryz.underlying51
  a80 := Tryz.isAgg51
  z80 := Tryz.sizeOf51
  v80 := Tryz.zeroValue51
  i0 := by kernel_rfl
  i2 := by kernel_rfl
  i3 := by kernel_rfl
  i4 := by kernel_rfl
  i5 := by kernel_rfl
  i9 := by kernel_rfl
  i20 := by kernel_rfl
  i21 := by kernel_rfl
  i37 := by kernel_rfl
  i46 := by kernel_rfl
  i51 := by kernel_rfl
  i53 := by kernel_rfl
  i75 := by kernel_rfl
  i80 := by kernel_rfl
  i85 := by kernel_rfl
  i127 := by kernel_rfl
  i143 := by kernel_rfl
  i145 := by kernel_rfl
  i167 := by kernel_rfl
  i168 := by kernel_rfl
  i171 := by kernel_rfl
  i173 := by kernel_rfl
  i175 := by kernel_rfl
  i210 := by kernel_rfl
  i212 := by kernel_rfl
  i232 := by kernel_rfl
  i233 := by kernel_rfl
  m15 := by kernel_rfl
  m16 := by kernel_rfl
  m17 := by kernel_rfl
  m18 := by kernel_rfl
  m19 := by kernel_rfl
  c0 := by kernel_rfl
  c2 := by kernel_rfl
  c3 := by kernel_rfl
  c4 := by kernel_rfl
  c5 := by kernel_rfl
  c9 := by kernel_rfl
  c20 := by kernel_rfl
  c21 := by kernel_rfl
  c37 := by kernel_rfl
  c46 := by kernel_rfl
  c51 := by kernel_rfl
  c53 := by kernel_rfl
  c75 := by kernel_rfl
  c80 := by kernel_rfl
  c85 := by kernel_rfl
  c127 := by kernel_rfl
  c143 := by kernel_rfl
  c145 := by kernel_rfl
  c167 := by kernel_rfl
  c168 := by kernel_rfl
  c171 := by kernel_rfl
  c173 := by kernel_rfl
  c175 := by kernel_rfl
  c210 := by kernel_rfl
  c212 := by kernel_rfl
  c213 := by kernel_rfl
  c232 := by kernel_rfl
  c233 := by kernel_rfl }
open Go.RowKit in
theorem Tryz.strconv_ParseInt_10_at64_ok (s : ByteArray) (hmax : s.size ≤ 9223372036854775806) (v : Int) (h : Lib.parseIntB 64 s.data.toList = .ok v) (w : World) :
    Calls Tryz.prog 19 #[.string s, .int .i64 10, .int .i64 64] w fun e w' => e = .returned (.tuple #[.int .i64 v, .nilIface]) ∧ (w' = w ∨ ∃ t, w' = Lib.bytesWorld w 5 t) := Any.strconv_ParseInt_10_at64_ok Tryz.laysC174 s hmax v h w
open Go.RowKit in
theorem Tryz.strconv_ParseInt_10_at64_syntax_var (s : ByteArray) (hlim : s.size ≤ 281474976710656) (h1 : ∀ v, Lib.parseIntB 64 s.data.toList ≠ .ok v) (h2 : Lib.parseIntB 64 s.data.toList ≠ .range) (tp : TypeId) (p : Value) (w : World) (hvar : w.var? Tryz.prog "strconv.ErrSyntax" = some #[.iface tp p]) :
    Calls Tryz.prog 19 #[.string s, .int .i64 10, .int .i64 64] w fun e w' => ∃ N, e = .returned (.tuple #[.int .i64 (0), .iface 155 (.pointer (some ⟨N, 0, none⟩))]) ∧ w.heap.size ≤ N ∧ w'.heap[N]? = some (.cells #[.string ⟨#[80, 97, 114, 115, 101, 73, 110, 116]⟩, .string s, .iface tp p] 202 (0, 0)) ∧ Below w.heap.size w w' := by
  rcases hr : Lib.parseIntB 64 s.data.toList with v | _ | _
  · exact absurd hr (h1 v)
  · exact Any.strconv_ParseInt_10_at64_syntax_var Tryz.laysC174 s hlim hr tp p w hvar
  · exact absurd hr h2
open Go.RowKit in
theorem Tryz.strconv_ParseInt_10_at64_range_var (s : ByteArray) (hlim : s.size ≤ 281474976710656) (h : Lib.parseIntB 64 s.data.toList = .range) (tp : TypeId) (p : Value) (w : World) (hvar : w.var? Tryz.prog "strconv.ErrRange" = some #[.iface tp p]) :
    Calls Tryz.prog 19 #[.string s, .int .i64 10, .int .i64 64] w fun e w' => ∃ N, e = .returned (.tuple #[.int .i64 (Lib.intSat 64 s.data.toList), .iface 155 (.pointer (some ⟨N, 0, none⟩))]) ∧ w.heap.size ≤ N ∧ w'.heap[N]? = some (.cells #[.string ⟨#[80, 97, 114, 115, 101, 73, 110, 116]⟩, .string s, .iface tp p] 202 (0, 0)) ∧ Below w.heap.size w w' := Any.strconv_ParseInt_10_at64_range_var Tryz.laysC174 s hlim h tp p w hvar
def Tryz.laysM176_ren : Go.Shelf.Ren := ⟨fun | 176 => 137 | 249 => 158 | 288 => 176 | 283 => 177 | 284 => 178 | 285 => 179 | 286 => 180 | 129 => 200 | 317 => 199 | 318 => 201 | 319 => 202 | 320 => 196 | 337 => 220 | 338 => 221 | n => n, fun | 37 => 96 | 2 => 2 | 3 => 3 | 53 => 60 | 4 => 4 | 9 => 9 | 171 => 280 | 0 => 0 | 173 => 283 | 212 => 301 | 51 => 267 | 5 => 5 | 20 => 20 | 213 => 302 | 46 => 81 | 232 => 325 | 233 => 326 | n => n, fun | 17 => 14 | 18 => 17 | 19 => 18 | n => n⟩
theorem Tryz.laysM176 : Go.Proofs.LaysM.n176 Tryz.prog Tryz.laysM176_ren := {
  mixed := by kernel_rfl
  f129 := Tryz.func200.trans (congrArg some (by kernel_rfl))
  f176 := Tryz.func137.trans (congrArg some (by kernel_rfl))
  f249 := Tryz.func158.trans (congrArg some (by kernel_rfl))
  f283 := Tryz.func177.trans (congrArg some (by kernel_rfl))
  f284 := Tryz.func178.trans (congrArg some (by kernel_rfl))
  f285 := Tryz.func179.trans (congrArg some (by kernel_rfl))
  f286 := Tryz.func180.trans (congrArg some (by kernel_rfl))
  f288 := Tryz.func176.trans (congrArg some (by kernel_rfl))
  f317 := Tryz.func199.trans (congrArg some (by kernel_rfl))
  f318 := Tryz.func201.trans (congrArg some (by kernel_rfl))
  f319 := Tryz.func202.trans (congrArg some (by kernel_rfl))
  f320 := Tryz.func196.trans (congrArg some (by kernel_rfl))
  f337 := Tryz.func220.trans (congrArg some (by kernel_rfl))
  f338 := Tryz.func221.trans (congrArg some (by kernel_rfl))
  t0 := Tryz.underlying0
  a0 := Tryz.isAgg0
  z0 := Tryz.sizeOf0
  v0 := Tryz.zeroValue0
  t2 := Tryz.underlying2
  a2 := Tryz.isAgg2
  z2 := Tryz.sizeOf2
  v2 := Tryz.zeroValue2
  t3 := Tryz.underlying3
  a3 := Tryz.isAgg3
  z3 := Tryz.sizeOf3
  v3 := Tryz.zeroValue3
  t4 := Tryz.underlying4
  a4 := Tryz.isAgg4
  z4 := Tryz.sizeOf4
  v4 := Tryz.zeroValue4
  t5 := Tryz.underlying5
  a5 := Tryz.isAgg5
  z5 := Tryz.sizeOf5
  v5 := Tryz.zeroValue5
  t9 := Tryz.underlying9
  a9 := Tryz.isAgg9
  z9 := Tryz.sizeOf9
  v9 := Tryz.zeroValue9
  t20 := Tryz.underlying20
  a20 := Tryz.isAgg20
  z20 := Tryz.sizeOf20
  v20 := Tryz.zeroValue20
  t37 := Tryz.underlying96
  a37 := Tryz.isAgg96
  z37 := Tryz.sizeOf96
  v37 := Tryz.zeroValue96
  t46 := Tryz.underlying81
  a46 := Tryz.isAgg81
  z46 := Tryz.sizeOf81
  v46 := Tryz.zeroValue81
  t51 := Tryz.underlying267
  a51 := Tryz.isAgg267
  z51 := Tryz.sizeOf267
  v51 := Tryz.zeroValue267
  t53 := Tryz.underlying60
  a53 := Tryz.isAgg60
  z53 := Tryz.sizeOf60
  v53 := Tryz.zeroValue60
  t171 := Tryz.underlying280
  a171 := Tryz.isAgg280
  z171 := Tryz.sizeOf280
  v171 := Tryz.zeroValue280
  t173 := Tryz.underlying283
  a173 := Tryz.isAgg283
  z173 := Tryz.sizeOf283
  v173 := Tryz.zeroValue283
  t212 := Tryz.underlying301
  a212 := Tryz.isAgg301
  z212 := Tryz.sizeOf301
  v212 := Tryz.zeroValue301
  t213 := Tryz.underlying302
  a213 := Tryz.isAgg302
  z213 := Tryz.sizeOf302
  t232 := Tryz.underlying325
  a232 := Tryz.isAgg325
  z232 := Tryz.sizeOf325
  v232 := Tryz.zeroValue325
  t233 := Tryz.underlying326
  a233 := Tryz.isAgg326
  z233 := Tryz.sizeOf326
  v233 := Tryz.zeroValue326
  g17 := by kernel_rfl
  g18 := by kernel_rfl
  g19 := by kernel_rfl
  i0 := by kernel_rfl
  i2 := by kernel_rfl
  i3 := by kernel_rfl
  i4 := by kernel_rfl
  i5 := by kernel_rfl
  i9 := by kernel_rfl
  i20 := by kernel_rfl
  i37 := by kernel_rfl
  i46 := by kernel_rfl
  i51 := by kernel_rfl
  i53 := by kernel_rfl
  i171 := by kernel_rfl
  i173 := by kernel_rfl
  i212 := by kernel_rfl
  i232 := by kernel_rfl
  i233 := by kernel_rfl
  m17 := by kernel_rfl
  m18 := by kernel_rfl
  m19 := by kernel_rfl }
open Go.RowKit Go.Sort Go.Lib in
theorem Tryz.strconv_AppendInt_10 (B n : Nat) (i : Int) (h0 : -9223372036854775808 ≤ i) (h1 : i ≤ 9223372036854775807) (sv : Value) (xs : List Value) (w : World) (hown : w.ownsRow B 5 1 sv n xs) (hBw : B ≤ w.heap.size) (hlim : n + 21 ≤ 140737488355328) (htab : Lib.TabBelow Tryz.prog B w "internal/strconv.uint64pow10" .u64 Lib.pow10Tab) :
    Calls Tryz.prog 137 #[sv, .int .i64 i, .int .i64 10] w fun e w' => ∃ v', e = .returned v' ∧ w'.ownsRow B 5 1 v' (n + (Lib.itoa i).length) (xs ++ Lib.byteCells (Lib.itoa i)) ∧ Below B w w' ∧ Lib.OthersKept 5 none w w' := Any.strconv_AppendInt_10 Tryz.laysM176 B n i h0 h1 sv xs w hown hBw hlim htab
def Tryz.lays100_ren : Go.Shelf.Ren := ⟨fun | 100 => 21 | 207 => 48 | n => n, fun | 9 => 9 | 4 => 4 | 3 => 3 | n => n, fun | n => n⟩
theorem Tryz.lays100 : Go.Proofs.Lays.n100 Tryz.prog Tryz.lays100_ren := {
  mixed := by kernel_rfl
  f100 := Tryz.func21.trans (congrArg some (by kernel_rfl))
  f207 := Tryz.func48.trans (congrArg some (by kernel_rfl))
  t3 := Tryz.underlying3
  a3 := Tryz.isAgg3
  z3 := Tryz.sizeOf3
  v3 := Tryz.zeroValue3
  t4 := Tryz.underlying4
  a4 := Tryz.isAgg4
  z4 := Tryz.sizeOf4
  v4 := Tryz.zeroValue4
  t9 := Tryz.underlying9
  a9 := Tryz.isAgg9
  z9 := Tryz.sizeOf9
  v9 := Tryz.zeroValue9 }
open Go.RowKit Go.Lib in
theorem Tryz.strings_HasSuffix (s p : ByteArray) (w : World) (hs : s.size ≤ 9223372036854775807) :
    Calls Tryz.prog 21 #[.string s, .string p] w fun e w' => e = .returned (.bool (Lib.hasSuffix s.data.toList p.data.toList)) ∧ w' = w := Any.strings_HasSuffix Tryz.lays100 s p w hs
def Tryz.lays212_ren : Go.Shelf.Ren := ⟨fun | 212 => 140 | 263 => 162 | 264 => 163 | n => n, fun | 46 => 81 | 51 => 267 | 146 => 268 | 53 => 60 | 148 => 270 | n => n, fun | n => n⟩
theorem Tryz.lays212 : Go.Proofs.Lays.n212 Tryz.prog Tryz.lays212_ren := {
  mixed := by kernel_rfl
  f212 := Tryz.func140.trans (congrArg some (by kernel_rfl))
  f263 := Tryz.func162.trans (congrArg some (by kernel_rfl))
  f264 := Tryz.func163.trans (congrArg some (by kernel_rfl))
  t46 := Tryz.underlying81
  a46 := Tryz.isAgg81
  z46 := Tryz.sizeOf81
  v46 := Tryz.zeroValue81
  t51 := Tryz.underlying267
  a51 := Tryz.isAgg267
  z51 := Tryz.sizeOf267
  v51 := Tryz.zeroValue267
  t53 := Tryz.underlying60
  a53 := Tryz.isAgg60
  z53 := Tryz.sizeOf60
  v53 := Tryz.zeroValue60
  t146 := Tryz.underlying268
  a146 := Tryz.isAgg268
  z146 := Tryz.sizeOf268
  v146 := Tryz.zeroValue268
  t148 := Tryz.underlying270
  a148 := Tryz.isAgg270
  z148 := Tryz.sizeOf270
  v148 := Tryz.zeroValue270 }
open Go.RowKit Go.Lib in
theorem Tryz.bits_Mul (x y : Nat) (hx : x < 18446744073709551616) (hy : y < 18446744073709551616) (w : World) :
    Calls Tryz.prog 140 #[.int .u64 x, .int .u64 y] w fun e w' => e = .returned (.tuple #[.int .u64 ((x * y / 18446744073709551616 : Nat) : Int), .int .u64 ((x * y % 18446744073709551616 : Nat) : Int)]) ∧ w' = w := Any.bits_Mul Tryz.lays212 x y hx hy w
end Go.Proofs

namespace Go.Proofs.YtcpjclakdpjjfaaGreatDoor
open Go.RowKit
def addLo (x y c : Nat) : Nat := (x + y + c) % W64
def addHi (x y c : Nat) : Nat := (x + y + c) / W64
def subLo (x y c : Nat) : Nat := (x + W64 - y - c) % W64
def subHi (x y c : Nat) : Nat := if x < y + c then 1 else 0
def add64Entry' : Array Value → Sem Value := fun args => do
  let (x, y, c) ← Extern.MathBitsCarry.three "Add64" args
  pure (Extern.MathBitsCarry.pair ((x + y + c) % Extern.MathBitsCarry.m64) ((x + y + c) / Extern.MathBitsCarry.m64))
def sub64Entry : Array Value → Sem Value := fun args => do
  let (x, y, b) ← Extern.MathBitsCarry.three "Sub64" args
  pure (Extern.MathBitsCarry.pair ((x + Extern.MathBitsCarry.m64 - y - b) % Extern.MathBitsCarry.m64) (if x < y + b then 1 else 0))

theorem run_Add64 (x y c : Nat) (hc : c ≤ 1) (w : World) : (callFunc 168 #[.int .u64 (x : Int), .int .u64 (y : Int), .int .u64 (c : Int)]).run Tryz.prog w =
    .ok (.value (.tuple #[.int .u64 ((addLo x y c : Nat) : Int), .int .u64 ((addHi x y c : Nat) : Int)])) w := by
  rw [run_callFunc_extern (e := add64Entry') Tryz.func168 (by kernel_rfl) (by kernel_rfl) (by kernel_rfl) (by kernel_rfl)]
  have : c = 0 ∨ c = 1 := by omega
  rcases this with rfl | rfl <;> rfl
theorem run_Sub64 (x y c : Nat) (hc : c ≤ 1) (w : World) : (callFunc 170 #[.int .u64 (x : Int), .int .u64 (y : Int), .int .u64 (c : Int)]).run Tryz.prog w =
    .ok (.value (.tuple #[.int .u64 ((subLo x y c : Nat) : Int), .int .u64 ((subHi x y c : Nat) : Int)])) w := by
  rw [run_callFunc_extern (e := sub64Entry) Tryz.func170 (by kernel_rfl) (by kernel_rfl) (by kernel_rfl) (by kernel_rfl)]
  have : c = 0 ∨ c = 1 := by omega
  rcases this with rfl | rfl <;> rfl

set_option maxHeartbeats 400000 in
theorem bits_Add (x y c : Nat) (w : World) (hc : c ≤ 1) :
    Calls Tryz.prog 151 #[.int .u64 (x : Int), .int .u64 (y : Int), .int .u64 (c : Int)] w fun e w' => e = .returned (.tuple #[.int .u64 ((addLo x y c : Nat) : Int), .int .u64 ((addHi x y c : Nat) : Int)]) ∧ w = w' := by
  have H := run_Add64 x y c hc
  go_enter Tryz.func151, Tryz.ntmps151
  go_wp2
  go_ret2
  exact ⟨rfl, rfl⟩
set_option maxHeartbeats 400000 in
theorem bits_Sub (x y c : Nat) (w : World) (hc : c ≤ 1) :
    Calls Tryz.prog 153 #[.int .u64 (x : Int), .int .u64 (y : Int), .int .u64 (c : Int)] w fun e w' => e = .returned (.tuple #[.int .u64 ((subLo x y c : Nat) : Int), .int .u64 ((subHi x y c : Nat) : Int)]) ∧ w = w' := by
  have H := run_Sub64 x y c hc
  go_enter Tryz.func153, Tryz.ntmps153
  go_wp2
  go_ret2
  exact ⟨rfl, rfl⟩

def mulHi (x y : Nat) : Nat := x * y / W64
def mulLo (x y : Nat) : Nat := x * y % W64
theorem bits_Mul (x y : Nat) (hx : x < W64) (hy : y < W64) (w : World) :
    Calls Tryz.prog 140 #[.int .u64 (x : Int), .int .u64 (y : Int)] w fun e w' => e = .returned (.tuple #[.int .u64 ((mulHi x y : Nat) : Int), .int .u64 ((mulLo x y : Nat) : Int)]) ∧ w = w' :=
  (Tryz.bits_Mul x y hx hy w).mono fun _ _ ⟨he, hw⟩ => ⟨he, hw.symm⟩

set_option maxHeartbeats 400000 in
theorem mulWW_any (x y : Nat) (hx : x < W64) (hy : y < W64) (w : World) :
    Calls Tryz.prog 110 #[.int .u64 (x : Int), .int .u64 (y : Int)] w fun e w' => e = .returned (.tuple #[.int .u64 ((mulHi x y : Nat) : Int), .int .u64 ((mulLo x y : Nat) : Int)]) ∧ w = w' := by
  go_enter Tryz.func110, Tryz.ntmps110
  go_wp2_with (go_at_call 140; refine (bits_Mul x y hx hy _).mono ?_; rintro e w' ⟨rfl, rfl⟩)
  go_ret2
  exact ⟨rfl, rfl⟩

def maHi (x y c : Nat) : Nat := (x * y + c) / W64
def maLo (x y c : Nat) : Nat := (x * y + c) % W64
theorem mul_le_max {x y : Nat} (hx : x < W64) (hy : y < W64) : x * y ≤ (W64 - 1) * (W64 - 1) := Nat.mul_le_mul (by omega) (by omega)
theorem maLo_eq (x y c : Nat) : addLo (mulLo x y) c 0 = maLo x y c := by
  unfold addLo mulLo maLo
  rw [Nat.add_zero, Nat.mod_add_mod]
theorem maHi_eq (x y c : Nat) : mulHi x y + addHi (mulLo x y) c 0 = maHi x y c := by
  unfold mulHi addHi mulLo maHi
  unfold W64; omega
theorem maHi_lt {x y c : Nat} (hx : x < W64) (hy : y < W64) (hc : c < W64) : maHi x y c < W64 := by
  have := mul_le_max hx hy
  unfold maHi
  unfold W64 at *; omega
theorem maLo_lt (x y c : Nat) : maLo x y c < W64 := Nat.mod_lt _ (by unfold W64; omega)
theorem ma_eq (x y c : Nat) : maHi x y c * W64 + maLo x y c = x * y + c := by
  unfold maHi maLo; rw [Nat.mul_comm]; exact Nat.div_add_mod _ _

set_option maxHeartbeats 400000 in
theorem mulAddWWW_any (x y c : Nat) (hx : x < W64) (hy : y < W64) (hc : c < W64) (w : World) :
    Calls Tryz.prog 185 #[.int .u64 (x : Int), .int .u64 (y : Int), .int .u64 (c : Int)] w fun e w' => e = .returned (.tuple #[.int .u64 ((maHi x y c : Nat) : Int), .int .u64 ((maLo x y c : Nat) : Int)]) ∧ w = w' := by
  have HA := bits_Add (mulLo x y) c 0 w (by omega)
  go_enter Tryz.func185, Tryz.ntmps185
  go_wp2_with (first | (go_at_call 140; refine (bits_Mul x y hx hy _).mono ?_; rintro e w' ⟨rfl, rfl⟩) | (go_at_call 151; refine (HA).mono ?_; rintro e w' ⟨rfl, rfl⟩))
  go_ret2
  refine ⟨ret_tup2 ?_ ?_, rfl⟩
  · rw [← Int.natCast_add, maHi_eq]; exact wrapu _ (maHi_lt hx hy hc)
  · rw [maLo_eq]
end Go.Proofs.YtcpjclakdpjjfaaGreatDoor


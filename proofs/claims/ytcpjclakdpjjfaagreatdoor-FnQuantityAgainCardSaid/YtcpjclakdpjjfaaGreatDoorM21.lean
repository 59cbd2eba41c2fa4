/-
  A part of the proof of FnQuantityAgain (texts By, Cw, It of mine, joined).
-/
import Derived.Test.YtcpjclakdpjjfaaGreatDoorM08
import Derived.Laws.BytesArg
import Derived.Test.YtcpjclakdpjjfaaGreatDoorM20
import Derived.Test.YtcpjclakdpjjfaaGreatDoorM17
namespace Go.Proofs.YtcpjclakdpjjfaaGreatDoor
open Go.RowKit

def byt (x : Nat) : Value := .int .u8 (x : Int)

/-- A block of bytes. -/
structure Byt (w : World) (b : Nat) (l : List Nat) : Prop where
  at_ : w.heap[b]? = some (.cells (l.map byt).toArray 5 (0, 0))
  ok : ∀ x ∈ l, x < 256

theorem Byt.lt {w : World} {b : Nat} {l : List Nat} (h : Byt w b l) : b < w.heap.size := (Array.getElem?_eq_some_iff.1 h.at_).1
theorem Byt.cell {w : World} {b : Nat} {l : List Nat} (h : Byt w b l) (i : Nat) (hi : i < l.length) : w.cell? ⟨b, i, none⟩ = some (.int .u8 ((gd l i : Nat) : Int)) := by
  simp [World.cell?, h.at_, byt, hi, gd]
theorem Byt.free {w : World} {b : Nat} {l : List Nat} (h : Byt w b l) (i : Nat) : w.frozen? ⟨b, i, none⟩ = false := by
  simp [World.frozen?, h.at_]
theorem Byt.set {w : World} {b : Nat} {l : List Nat} (h : Byt w b l) (i x : Nat) (hx : x < 256) : Byt (w.setCell ⟨b, i, none⟩ (.int .u8 (x : Int))) b (l.set i x) := by
  refine ⟨?_, ?_⟩
  · simp [World.setCell, Array.getElem?_modify, h.at_, byt, List.map_set]
  · intro y hy
    rcases List.mem_or_eq_of_mem_set hy with hy | rfl
    · exact h.ok _ hy
    · exact hx
theorem Byt.frame {S : Nat → Prop} {w w' : World} {b : Nat} {l : List Nat} (h : Byt w b l) (f : Fr S w w') (hn : ¬ S b) : Byt w' b l := ⟨by rw [f.block b h.lt hn]; exact h.at_, h.ok⟩
theorem Byt.plain {w : World} {b : Nat} {l : List Nat} (h : Byt w b l) : Plain w b := ⟨_, _, h.at_⟩

theorem row5 : (Tryz.prog.info? 5).map (fun i => (i.zero, i.size, i.bytes)) = some (some (.int .u8 0), 1, 1) := by kernel_rfl
def brow (m : Nat) : Array Value := ((List.replicate m 0).map byt).toArray

theorem run_make96 (n m : Nat) (h : n ≤ m) (hm : m ≤ 1000000) (w : World) :
    (Instr.makeSlice 96 (.int .i64 (n : Int)) (.int .i64 (m : Int))).run Tryz.prog w = .ok (.slice (some ⟨w.heap.size, 0, none⟩) n m) (w.alloc (.cells (brow m) 5)) := by
  obtain ⟨i, hi, hz⟩ := Option.map_eq_some_iff.1 row5
  simp only [Prod.mk.injEq] at hz
  obtain ⟨hz, hs, hb⟩ := hz
  have hr := run_makeSlice (P := Tryz.prog) w 96 5 i _ Tryz.underlying96 hi hz .i64 .i64 (n : Int) (m : Int) (by omega) (by omega) (by rw [hs]; omega) (by rw [hb]; omega) (by omega)
  simp only [Int.toNat_natCast, hs, Nat.mul_one] at hr
  rw [hr]
  have e : madeCells (Value.cells (.int .u8 0)) m = brow m := by
    unfold brow
    apply Array.toList_inj.1
    have := toList_madeCells_one (.int .u8 0) m
    rw [show Value.cells (.int .u8 0) = #[.int .u8 0] from rfl, this, List.map_replicate]; rfl
  rw [e]
theorem Byt.made (w : World) (m : Nat) : Byt (w.alloc (.cells (brow m) 5)) w.heap.size (List.replicate m 0) := by
  refine ⟨?_, ?_⟩
  · show (w.heap.push _)[w.heap.size]? = _
    rw [Array.getElem?_push_size]; rfl
  · intro x hx
    rw [List.eq_of_mem_replicate hx]; omega

/-- The text that a row of numbers is. -/
def strOf (l : List Nat) : ByteArray := ⟨(l.map UInt8.ofNat).toArray⟩
theorem strOf_list (l : List Nat) : (strOf l).data.toList = l.map UInt8.ofNat := by simp [strOf]

theorem run_string (w : World) (b off len cap : Nat) (l : List Nat) (hb : Byt w b l) (hl : off + len ≤ l.length) :
    (convert 96 9 (.slice (some ⟨b, off, none⟩) len cap)).run Tryz.prog w = .ok (.string (strOf ((l.drop off).take len))) w := by
  have h := run_convert_bytes_arg (P := Tryz.prog) w 96 5 Tryz.underlying96 Tryz.underlying5 b off len cap (((l.drop off).take len).map fun (x : Nat) => (x : Int)) (by simp; omega) (fun i hi => by
    rw [hb.cell (off + i) (by omega)]
    congr 2
    unfold gd
    rw [List.getD_eq_getElem?_getD, List.getElem?_map, List.getElem?_take_of_lt hi, List.getElem?_drop]
    rw [List.getElem?_eq_getElem (show off + i < l.length by omega)]; rfl) 9 Tryz.underlying9
  have e : ∀ m : List Nat, strOfNums (m.map fun (x : Nat) => (x : Int)) = strOf m := by
    intro m
    unfold strOfNums strOf
    rw [List.map_map]
    rfl
  rw [h, e]
end Go.Proofs.YtcpjclakdpjjfaaGreatDoor

namespace Go.Proofs.YtcpjclakdpjjfaaGreatDoor
open Go.RowKit

/-- The digits of Q stand from place i on, of n places. -/
def Dig (l : List Nat) (i n Q : Nat) : Prop := ∀ t, i ≤ t → t < n → gd l t = 48 + Q / 10 ^ (n - 1 - t) % 10

theorem Sto.ne_byt {w : World} {v : Value} {ob : Option Nat} {b : Nat} {l : List Nat} (h : Sto w v ob) (hb : Byt w b l) (h0 : 0 < l.length) : ob ≠ some b := by
  intro e
  subst e
  obtain ⟨m, len, _, hm, _, hp, _⟩ := h
  have h1 := hm.cell 0 hp
  rw [hb.cell 0 h0] at h1
  cases h1

theorem chunk_digit (q j : Nat) (hj : j < 19) : q % 10000000000000000000 / 10 ^ j % 10 = q / 10 ^ j % 10 := by
  have e : 10000000000000000000 = 10 ^ j * 10 ^ (19 - j) := by rw [← Nat.pow_add, show j + (19 - j) = 19 by omega]
  rw [e, Nat.mod_mul_right_div_self, Nat.mod_mod_of_dvd]
  exact ⟨10 ^ (18 - j), by rw [show 19 - j = (18 - j) + 1 by omega, Nat.pow_succ, Nat.mul_comm]⟩

theorem NatV.slice2 {w : World} {v : Value} {ob : Option Nat} {n : Nat} (h : NatV w v ob n) : ∃ a m c, v = .slice a m c := by
  rcases h.split with ⟨_, ax, cx, e⟩ | ⟨bx, lx, nx, _, Hx⟩
  · exact ⟨_, _, _, e⟩
  · exact ⟨_, _, _, Hx.val⟩

/-- What the conversion comes to. -/
def CwEnd (w : World) (b : Nat) (oq : Option Nat) (n Q : Nat) (e : Ending) (w' : World) : Prop :=
  e = .returned (.tuple #[]) ∧ ∃ l', Byt w' b l' ∧ l'.length = n ∧ Dig l' 0 n Q ∧ Fr (fun k => k = b ∨ oq = some k) w w'

/-- The state behind some digits: those from place i on are laid. -/
structure CwS (w wr : World) (b n Q i : Nat) (oq : Option Nat) (v : Value) (q : Nat) (o : Option Nat) (l : List Nat) : Prop where
  byt : Byt wr b l
  len : l.length = n
  dig : Dig l i n Q
  nat : NatV wr v o q
  fr : Fr (fun k => k = b ∨ oq = some k) w wr
  own : o = oq ∨ ∃ c, o = some c ∧ w.heap.size ≤ c

set_option maxHeartbeats 4000000 in
set_option maxRecDepth 100000 in
theorem cw_any (q : Value) (oq : Option Nat) (Q b n : Nat) (l : List Nat) (stk : Value) (w : World) (hq : NatV w q oq Q) (hb : Byt w b l) (hl : l.length = n) (h0 : 0 < n) (hn : n ≤ 1000) (hQ : Q < 10 ^ n) (hQ2 : Q < W64 ^ 100) :
    Calls Tryz.prog 198 #[q, stk, .slice (some ⟨b, 0, none⟩) n n, .int .u64 10, .int .i64 19, .int .u64 10000000000000000000, .slice none 0 0] w (CwEnd w b oq n Q) := by
  have S0 : Hid (CwS w w b n Q n oq q Q oq l) := ⟨hb, hl, fun t h1 h2 => by omega, hq, Fr.refl _ _, Or.inl rfl⟩
  have hB : Hid (∀ m, m ≤ Q → m < W64 ^ 100) := fun m hm => Nat.lt_of_le_of_lt hm hQ2
  replace hQ := Lib.hid hQ
  clear hQ2
  have hn1 : (n : Int) ≤ 1000 := by omega
  clear hq hb hl
  go_enter Tryz.func198, Tryz.ntmps198
  go_wp2_with fail
  go_loopw [0, 19] (fun qv i wr => ∃ (v : Value) (k q : Nat) (o : Option Nat) (l : List Nat), v = qv ∧ i = .int .i64 (k : Int) ∧ k ≤ n ∧ Hid (CwS w wr b n Q k oq v q o l) ∧ Hid (q = Q / 10 ^ (n - k))) (fun _ i _ => (intOf i).toNat)
  case atStart => exact ⟨q, n, Q, oq, l, rfl, rfl, Nat.le_refl _, S0, by show _ = _; rw [Nat.sub_self, Nat.pow_zero, Nat.div_one]⟩
  case round =>
    obtain ⟨v, k, q1, o, l1, rfl, rfl, hk, hS, hq1⟩ := hrel
    rcases hS.out.nat.split with ⟨hz, ax, cx, rfl⟩ | ⟨bx, lx, nx, _, Hx⟩
    · have hz0 : Hid (Q / 10 ^ (n - k) = 0) := by show _ = _; rw [← hq1.out, hz]
      replace hz := Lib.hid hz
      go_wp2_with fail
      go_loopw [19] (fun i wr => ∃ (k2 : Nat) (l2 : List Nat), i = .int .i64 (k2 : Int) ∧ k2 ≤ k ∧ Hid (Byt wr b l2 ∧ l2.length = n ∧ Dig l2 k2 n Q ∧ Fr (fun k => k = b ∨ oq = some k) w wr)) (fun i _ => (intOf i).toNat)
      case atStart => exact ⟨k, l1, rfl, Nat.le_refl _, ⟨hS.out.byt, hS.out.len, hS.out.dig, hS.out.fr⟩⟩
      case round =>
        obtain ⟨k2, l2, rfl, hk2, hI⟩ := hrel
        by_cases h0 : k2 = 0
        · subst h0
          go_wp2_with fail
          go_end0
          exact ⟨rfl, l2, hI.out.1, hI.out.2.1, hI.out.2.2.1, hI.out.2.2.2⟩
        · obtain ⟨j, rfl⟩ : ∃ j, k2 = j + 1 := ⟨k2 - 1, by omega⟩
          have e5 : ((j + 1 : Nat) : Int) - 1 = (j : Int) := by omega
          have r1 := hI.out.1.free j
          have r2 := hI.out.1.cell j (by have := hI.out.2.1; omega)
          have hI2 : Hid (Byt (wr.setCell ⟨b, j, none⟩ (.int .u8 48)) b (l2.set j 48) ∧ (l2.set j 48).length = n ∧ Dig (l2.set j 48) j n Q ∧ Fr (fun k => k = b ∨ oq = some k) w (wr.setCell ⟨b, j, none⟩ (.int .u8 48))) := by
            obtain ⟨g1, g2, g3, g4⟩ := hI.out
            refine ⟨g1.set j 48 (by omega), by simp [g2], ?_, g4.trans (Fr.setCell (S := fun k => k = b ∨ oq = some k) _ _ _ (fun _ => Or.inl rfl)) (fun _ _ h => h)⟩
            intro t ht1 ht2
            rw [gd_set _ _ _ _ (by rw [g2]; omega)]
            by_cases e : t = j
            · rw [if_pos e, e]
              have hd : Q / 10 ^ (n - 1 - j) = 0 := by
                have h1 : 10 ^ (n - k) ≤ 10 ^ (n - 1 - j) := Nat.pow_le_pow_right (by omega) (by omega)
                have h2 := Nat.div_le_div_left (a := Q) h1 (Nat.pow_pos (by omega))
                rw [hz0.out] at h2
                exact Nat.le_zero.1 h2
              rw [hd]
            · rw [if_neg e]; exact g3 t (by omega) ht2
          have b1 : (j : Int) < n := by omega
          replace hI := Lib.hid hI
          go_wp2_with fail
          go_roundw
          case rel => exact ⟨j, l2.set j 48, rfl, by omega, hI2⟩
          case measure => simp [intOf]
    · have hn0 := Hx.npos
      have hp := Hx.pos
      have hk0 : 0 < k := by
        by_cases h : k = 0
        · subst h
          have := hq1.out
          rw [Nat.sub_zero, Nat.div_eq_of_lt hQ.out] at this
          omega
        · omega
      have D := divW_any v v o o q1 10000000000000000000 wr hS.out.nat.sto hS.out.nat (hB.out q1 (by rw [hq1.out]; exact Nat.div_le_self _ _)) (by decide) (by decide)
      obtain ⟨c, hc⟩ : ∃ c, c = q1 % 10000000000000000000 := ⟨_, rfl⟩
      obtain ⟨q2, hq2⟩ : ∃ c, c = q1 / 10000000000000000000 := ⟨_, rfl⟩
      rw [← hc, ← hq2] at D
      replace D := Lib.hid D
      replace hc := Lib.hid hc
      replace hq2 := Lib.hid hq2
      have e1 : (0 : Int) < nx := by omega
      obtain rfl := Hx.val
      replace Hx := Lib.hid Hx
      replace hn0 := Lib.hid hn0
      go_wp2_with fail
      refine D.out.mono ?_
      rintro e w2 ⟨v2, o2, rfl, h2, f2, a2⟩
      have hob : o ≠ some b := hS.out.nat.sto.ne_byt hS.out.byt (by rw [hS.out.len]; exact h0)
      have B2 : Byt w2 b l1 := hS.out.byt.frame f2 hob
      have own2 : o2 = oq ∨ ∃ c, o2 = some c ∧ w.heap.size ≤ c := by
        rcases a2 with h | ⟨c, h, hge⟩
        · rw [h]; exact hS.out.own
        · exact Or.inr ⟨c, h, Nat.le_trans hS.out.fr.size hge⟩
      have fr2 : Fr (fun k => k = b ∨ oq = some k) w w2 := hS.out.fr.trans (f2.mono (T := fun k => o = some k) (fun _ _ h => h)) (fun i hi e => by
        rcases hS.out.own with h | ⟨c, h, hge⟩
        · rw [h] at e; exact Or.inr e
        · rw [h] at e; cases e; omega)
      have hob2 : o2 ≠ some b := h2.sto.ne_byt B2 (by rw [hS.out.len]; exact h0)
      have hc19 : c < 10000000000000000000 := by rw [hc.out]; exact Nat.mod_lt _ (by decide)
      replace h2 := Lib.hid h2
      replace f2 := Lib.hid f2
      replace a2 := Lib.hid a2
      replace own2 := Lib.hid own2
      replace hc19 := Lib.hid hc19
      obtain ⟨A2, M2, C2, rfl⟩ := h2.out.slice2
      clear D
      go_wp2_with fail
      go_loopw [19, 20, 21] (fun i r j wr => ∃ (k2 r2 j2 : Nat) (l2 : List Nat), i = .int .i64 (k2 : Int) ∧ r = .int .u64 (r2 : Int) ∧ j = .int .i64 (j2 : Int) ∧ k2 + j2 = k ∧ j2 ≤ 19 ∧ Hid (r2 = c / 10 ^ j2) ∧ Hid (Byt wr b l2 ∧ l2.length = n ∧ Dig l2 k2 n Q ∧ Fr (fun k => k = b) w2 wr)) (fun i _ _ _ => (intOf i).toNat)
      case atStart => exact ⟨k, c, 0, l1, rfl, rfl, rfl, by omega, by omega, by show _ = _; rw [Nat.pow_zero, Nat.div_one], ⟨B2, hS.out.len, hS.out.dig, Fr.refl _ _⟩⟩
      case round =>
        obtain ⟨k2, r2, j2, l2, rfl, rfl, rfl, hkj, hj, hr2, hI⟩ := hrel
        have hr2l : r2 < 10000000000000000000 := by rw [hr2.out]; exact Nat.lt_of_le_of_lt (Nat.div_le_self _ _) hc19.out
        by_cases hstop : j2 = 19 ∨ k2 = 0
        · have hfin : Hid (CwS w wr b n Q k2 oq (.slice A2 M2 C2) q2 o2 l2) := by
            obtain ⟨g1, g2, g3, g4⟩ := hI.out
            refine ⟨g1, g2, g3, h2.out.frame g4 (fun c hc e => hob2 (e ▸ hc)), fr2.trans (g4.mono (T := fun k => k = b ∨ oq = some k) (fun _ _ h => Or.inl h)) (fun _ _ h => h), own2.out⟩
          have hq2' : Hid (q2 = Q / 10 ^ (n - k2)) := by
            show _ = _
            rw [hq2.out, hq1.out]
            rcases hstop with h | h
            · subst h
              rw [show n - k2 = (n - k) + 19 by omega, Nat.pow_add, ← Nat.div_div_eq_div_mul]
            · subst h
              rw [Nat.sub_zero, Nat.div_eq_of_lt hQ.out]
              rw [← hq1.out]
              have e : q1 < 10 ^ k := by
                rw [hq1.out]
                refine Nat.div_lt_of_lt_mul ?_
                rw [← Nat.pow_add, show n - k + k = n by omega]; exact hQ.out
              have : 10 ^ k ≤ 10 ^ 19 := Nat.pow_le_pow_right (by omega) (by omega)
              exact Nat.div_eq_of_lt (by have e19 : (10 : Nat) ^ 19 = 10000000000000000000 := by decide
                                         omega)
          have hkk : k2 < k := by omega
          replace hfin := hfin
          by_cases hj19 : j2 = 19
          · subst hj19
            go_wp2_with fail
            go_roundw
            case rel => exact ⟨_, k2, q2, o2, l2, rfl, rfl, by omega, hfin, hq2'⟩
            case measure => simp [intOf]; omega
          · have hk20 : k2 = 0 := by omega
            subst hk20
            have b1 : (j2 : Int) < 19 := by omega
            go_wp2_with fail
            go_roundw
            case rel => exact ⟨_, 0, q2, o2, l2, rfl, rfl, by omega, hfin, hq2'⟩
            case measure => simp [intOf]; omega
        · obtain ⟨i2, rfl⟩ : ∃ i2, k2 = i2 + 1 := ⟨k2 - 1, by omega⟩
          have b1 : (j2 : Int) < 19 := by omega
          have e5 : ((i2 + 1 : Nat) : Int) - 1 = (i2 : Int) := by omega
          have r1 := hI.out.1.free i2
          have r3 := hI.out.1.cell i2 (by have := hI.out.2.1; omega)
          obtain ⟨t, d, hrt, hd⟩ : ∃ t d, r2 = 10 * t + d ∧ d < 10 := ⟨r2 / 10, r2 % 10, (Nat.div_add_mod r2 10).symm, Nat.mod_lt _ (by omega)⟩
          have f1 : (r2 : Int) / 10 = (t : Int) := by omega
          have f2 : IntKind.u64.wrap ((t : Int) * 10) = ((10 * t : Nat) : Int) := by rw [IntKind.wrap_u64]; omega
          have f3 : IntKind.u64.wrap ((r2 : Int) - ((10 * t : Nat) : Int)) = (d : Int) := by rw [IntKind.wrap_u64]; omega
          have f0 : IntKind.u64.wrap (t : Int) = (t : Int) := by rw [IntKind.wrap_u64]; omega
          have f6 : (48 + (d : Int)) % 256 = ((48 + d : Nat) : Int) := by omega
          have f4 : IntKind.u8.wrap (d : Int) = (d : Int) := by rw [IntKind.wrap_u8]; omega
          have f5 : IntKind.u8.wrap (48 + (d : Int)) = ((48 + d : Nat) : Int) := by rw [IntKind.wrap_u8]; omega
          have ht : Hid (t = c / 10 ^ (j2 + 1)) := by
            show _ = _
            rw [Nat.pow_succ, ← Nat.div_div_eq_div_mul, ← hr2.out]; omega
          have hdig : d = Q / 10 ^ (n - 1 - i2) % 10 := by
            have e1 : n - 1 - i2 = (n - k) + j2 := by omega
            rw [e1, Nat.pow_add, ← Nat.div_div_eq_div_mul, ← hq1.out, ← chunk_digit q1 j2 (by omega), ← hc.out, ← hr2.out]; omega
          have hI2 : Hid (Byt (wr.setCell ⟨b, i2, none⟩ (.int .u8 ((48 + d : Nat) : Int))) b (l2.set i2 (48 + d)) ∧ (l2.set i2 (48 + d)).length = n ∧ Dig (l2.set i2 (48 + d)) i2 n Q ∧ Fr (fun k => k = b) w2 (wr.setCell ⟨b, i2, none⟩ (.int .u8 ((48 + d : Nat) : Int)))) := by
            obtain ⟨g1, g2, g3, g4⟩ := hI.out
            refine ⟨g1.set i2 (48 + d) (by omega), by simp [g2], ?_, g4.trans (Fr.setCell (S := fun k => k = b) _ _ _ (fun _ => rfl)) (fun _ _ h => h)⟩
            intro u hu1 hu2
            rw [gd_set _ _ _ _ (by rw [g2]; omega)]
            by_cases e : u = i2
            · rw [if_pos e, e, hdig]
            · rw [if_neg e]; exact g3 u (by omega) hu2
          obtain ⟨x, hx⟩ : ∃ x, x = 48 + d := ⟨_, rfl⟩
          rw [← hx] at f5 f6 hI2
          obtain ⟨y, hy⟩ : ∃ y, y = 10 * t := ⟨_, rfl⟩
          rw [← hy] at f2 f3
          have b2 : (i2 : Int) < n := by omega
          have b3 : (0 : Int) < ((i2 + 1 : Nat) : Int) := by omega
          replace hdig := Lib.hid hdig
          replace hrt := Lib.hid hrt
          replace hd := Lib.hid hd
          replace hx := Lib.hid hx
          replace hy := Lib.hid hy
          replace hr2l := Lib.hid hr2l
          replace hI := Lib.hid hI
          replace hstop := Lib.hid hstop
          go_wp2_with fail
          go_roundw
          case rel => exact ⟨i2, t, j2 + 1, l2.set i2 x, rfl, rfl, by simp, by omega, by omega, ht, hI2⟩
          case measure => simp [intOf]
end Go.Proofs.YtcpjclakdpjjfaaGreatDoor

namespace Go.Proofs.YtcpjclakdpjjfaaGreatDoor
open Go.RowKit

theorem dig_lt {l : List Nat} {N Q : Nat} (h : Dig l 0 N Q) (hQ : Q < 10 ^ N) : ∀ i, i ≤ N → (∀ t, t < i → gd l t = 48) → Q < 10 ^ (N - i)
  | 0, _, _ => hQ
  | i + 1, hi, hz => by
    have h1 := dig_lt h hQ i (by omega) (fun t ht => hz t (by omega))
    have h2 := h i (by omega) (by omega)
    rw [hz i (by omega)] at h2
    have e : N - i = (N - (i + 1)) + 1 := by omega
    rw [e, Nat.pow_succ] at h1
    have h3 : Q / 10 ^ (N - 1 - i) % 10 = 0 := by omega
    rw [show N - 1 - i = N - (i + 1) by omega] at h3
    have h4 : Q / 10 ^ (N - (i + 1)) < 10 := Nat.div_lt_of_lt_mul h1
    have h5 : Q / 10 ^ (N - (i + 1)) = 0 := by rw [Nat.mod_eq_of_lt h4] at h3; exact h3
    have hp : 0 < 10 ^ (N - (i + 1)) := Nat.pow_pos (by omega)
    exact (Nat.div_eq_zero_iff_lt hp).1 h5

theorem dig_dec {l : List Nat} {N Q i : Nat} (h : Dig l 0 N Q) (hl : l.length = N) (hQ : Q < 10 ^ N) (hi : i < N) (hz : ∀ t, t < i → gd l t = 48) (hnz : gd l i ≠ 48) : (l.drop i).map UInt8.ofNat = Lib.decDigits Q := by
  have h1 := dig_lt h hQ i (by omega) hz
  have h2 := h i (by omega) hi
  have h3 : 10 ^ (N - 1 - i) ≤ Q := by
    rcases Nat.lt_or_ge Q (10 ^ (N - 1 - i)) with h | h
    · rw [Nat.div_eq_of_lt h] at h2; exact (hnz h2).elim
    · exact h
  have hn : Lib.nDigits Q = N - i := by
    have := Lib.nDigits_unique (N - 1 - i) Q h3 (by rw [show N - 1 - i + 1 = N - i by omega]; exact h1)
    omega
  rw [Lib.decDigits_eq, hn]
  apply List.ext_getElem
  · simp [hl]
  · intro j hj1 hj2
    simp only [List.getElem_map, List.getElem_drop, List.getElem_range]
    have hj : j < N - i := by simp [hl] at hj1; omega
    have h4 := h (i + j) (by omega) (by omega)
    have e : gd l (i + j) = l[i + j]'(by omega) := by unfold gd; rw [List.getElem?_eq_getElem (by omega)]; rfl
    rw [← e, h4]
    show _ = Lib.dg Q (N - i - 1 - j)
    unfold Lib.dg
    rw [show N - 1 - (i + j) = N - i - 1 - j by omega]

theorem dig_some {l : List Nat} {N Q : Nat} (h : Dig l 0 N Q) (hQ : Q < 10 ^ N) (h0 : 0 < Q) : ∃ i, i < N ∧ gd l i ≠ 48 := by
  by_cases hall : ∀ t, t < N → gd l t = 48
  · have := dig_lt h hQ N (Nat.le_refl _) hall
    rw [Nat.sub_self] at this
    omega
  · obtain ⟨i, hi⟩ := Classical.not_forall.1 hall
    exact ⟨i, Classical.not_imp.1 hi⟩

set_option maxHeartbeats 1000000 in
theorem divisors_nil (stk : Value) (m : Nat) (hm : m ≤ 8) (w : World) (hg : Gk w) :
    Calls Tryz.prog 197 #[stk, .int .i64 (m : Int), .int .u64 10, .int .i64 19, .int .u64 10000000000000000000] w fun e w' => e = .returned (.slice none 0 0) ∧ w = w' := by
  have g := hg.g16
  have h : (m : Int) ≤ 8 := by omega
  clear hg
  go_enter Tryz.func197, Tryz.ntmps197
  go_wp2_with fail
  go_ret
  exact ⟨rfl, rfl⟩

/-- A slice of bytes that spells a text. -/
def Spells (w w' : World) (t : List UInt8) (v : Value) : Prop :=
  ∃ (b off len cap : Nat) (l : List Nat), v = .slice (some ⟨b, off, none⟩) len cap ∧ Byt w' b l ∧ off + len ≤ l.length ∧ ((l.drop off).take len).map UInt8.ofNat = t ∧ w.heap.size ≤ b

set_option maxHeartbeats 4000000 in
set_option maxRecDepth 100000 in
theorem itoa_main (x : Value) (bx n len : Nat) (lx : List Nat) (neg : Bool) (w : World) (hx : Wds w x bx lx len n) (hn : n < W64 ^ 8) (hg : Gk w) :
    Calls Tryz.prog 175 #[x, .bool neg, .int .i64 10] w fun e w' => ∃ v, e = .returned v ∧ Spells w w' (if neg then 45 :: Lib.decDigits n else Lib.decDigits n) v ∧ Fr (fun _ => False) w w' := by
  have hl8 := hx.len_le hn
  have hpos := hx.pos
  have hn0 := hx.npos
  have B := Lib.hid (bitLen_any x bx len n lx w hx)
  have hh := Lib.hid hx
  have e0 : ((len : Int) == 0) = false := by simp; omega
  obtain rfl := hx.val
  replace hn := Lib.hid hn
  replace hn0 := Lib.hid hn0
  replace hg := Lib.hid hg
  clear hx
  go_enter_defers Tryz.func175, Tryz.ntmps175
  go_wp2_with fail
  refine B.out.mono ?_
  rintro e w1 ⟨L, rfl, rfl, hL, hL1, hL2⟩
  obtain ⟨r, k, hr1, hr2, hk, hpow⟩ := room_any L (by omega)
  have q1 : ∀ w, (binOp .quo 293 (.float .f64 (floatOfInt .f64 (L : Int))) (.float .f64 4614662735865160561)).run Tryz.prog w = .ok (.float .f64 r) w := fun w => run_float_arith w .quo 293 .f64 _ _ r hr1
  have q2 : ∀ w, (convert 293 3 (.float .f64 r)).run Tryz.prog w = .ok (.int .i64 (k : Int)) w := fun w => run_convert_float_int (P := Tryz.prog) w 293 3 .f64 .i64 r k (by kernel_rfl) Tryz.underlying3 hr2
  have q3 : floatOfInt .f64 10 = 4621819117588971520 := by kernel_rfl
  have LG := Lib.hid Log2_ten
  replace hL := Lib.hid hL
  replace hpow := Lib.hid hpow
  clear B hr1 hr2
  go_wp2_with fail
  refine (LG.out _).mono ?_
  rintro e w2 ⟨rfl, rfl⟩
  clear LG
  have hMk1 : ∀ w, (Instr.makeSlice 96 (.int .i64 ((k : Int) + 1)) (.int .i64 ((k : Int) + 1))).run Tryz.prog w = .ok (.slice (some ⟨w.heap.size, 0, none⟩) (k + 1) (k + 1)) (w.alloc (.cells (brow (k + 1)) 5)) := fun w => run_make96 (k + 1) (k + 1) (Nat.le_refl _) (by omega) w
  have hMk2 : ∀ w, (Instr.makeSlice 96 (.int .i64 ((k : Int) + 1 + 1)) (.int .i64 ((k : Int) + 1 + 1))).run Tryz.prog w = .ok (.slice (some ⟨w.heap.size, 0, none⟩) (k + 2) (k + 2)) (w.alloc (.cells (brow (k + 2)) 5)) := fun w => run_make96 (k + 2) (k + 2) (Nat.le_refl _) (by omega) w
  have hand : bits .and .u64 10 18446744073709551606 = 2 := by decide +kernel
  have rest : ∀ N, N = (if neg then k + 2 else k + 1) → Byt (w.alloc (.cells (brow N) 5)) w.heap.size (List.replicate N 0) := fun N _ => Byt.made w N
  have hQ : Hid (∀ N, k + 1 ≤ N → n < 10 ^ N) := fun N h => Nat.lt_of_lt_of_le hL.out (Nat.le_trans hpow.out (Nat.pow_le_pow_right (by omega) h))
  have GS := Lib.hid getStack_any
  have MP := Lib.hid maxPow_ten
  cases neg with
  | true =>
    clear hMk1
    have rB := Lib.hid (rest (k + 2) rfl)
    clear rest
    go_wp2_with fail
    refine (GS.out _).mono ?_
    rintro e w2 ⟨rfl, hc, hf, hs⟩
    replace hf := Lib.hid hf
    replace hc := Lib.hid hc
    replace hs := Lib.hid hs
    clear hMk2
    go_wp2_with fail
    refine (MP.out _).mono ?_
    rintro e w3 ⟨rfl, rfl⟩
    have f2 : Fr (fun _ => False) w w2 := (Fr.alloc _ w _).trans hf.out (fun _ _ h => h)
    have DV := Lib.hid (fun stk => divisors_nil stk len hl8 w2 (hg.out.frame f2 (fun _ h => h.elim)))
    clear GS MP q1 q2 q3
    go_wp2_with fail
    refine (DV.out _).mono ?_
    rintro e w3 ⟨rfl, rfl⟩
    have hx2 : NatV w2 (.slice (some ⟨bx, 0, none⟩) len lx.length) (some bx) n := hh.out.natv.frame f2 (fun _ _ f => f)
    have ST := Lib.hid (set_any (.slice none 0 0) _ none (some bx) n w2 rfl hx2 (Nat.lt_of_lt_of_le hn.out (Nat.pow_le_pow_right W64_pos (by omega))))
    replace f2 := Lib.hid f2
    replace hx2 := Lib.hid hx2
    clear DV
    go_wp2_with fail
    refine ST.out.mono ?_
    rintro e w3 ⟨vq, oq, rfl, hq, f3, a3⟩
    have f3' : Fr (fun _ => False) w2 w3 := f3.mono (fun _ _ h => by cases h)
    have rB3 := (rB.out.frame hf.out (fun f => f)).frame f3' (fun f => f)
    have CW := Lib.hid (fun stk => cw_any vq oq n w.heap.size (k + 2) (List.replicate (k + 2) 0) stk w3 hq rB3 (by simp) (by omega) (by omega) (hQ.out (k + 2) (by omega)) (Nat.lt_of_lt_of_le hn.out (Nat.pow_le_pow_right W64_pos (by omega))))
    have hc3 := cell_frame hc.out f3' (fun f => f)
    obtain ⟨qa, qm, qc, rfl⟩ := hq.slice
    replace hq := Lib.hid hq
    replace f3 := Lib.hid f3
    replace f3' := Lib.hid f3'
    replace a3 := Lib.hid a3
    replace rB3 := Lib.hid rB3
    replace hc3 := Lib.hid hc3
    clear ST
    go_wp2_with fail
    refine (CW.out _).mono ?_
    rintro e w4 ⟨rfl, l4, hB4, hl4, hD4, f4⟩
    have hsz : (w.alloc (.cells (brow (k + 2)) 5)).heap.size = w.heap.size + 1 := by simp
    have hsz3 : w.heap.size + 1 < w3.heap.size := by
      have := hs.out; have := f3'.out.size; omega
    have ocq : ∀ c, oq = some c → w.heap.size + 1 < c := by
      intro c hc
      rcases a3.out with h | ⟨b', h, hge⟩
      · rw [h] at hc; cases hc
      · rw [h] at hc; cases hc; have := hs.out; omega
    have hc4 := cell_frame hc3.out f4 (fun e => by
      rcases e with e | e
      · have e : (w.alloc (.cells (brow (k + 2)) 5)).heap.size = w.heap.size := e
        omega
      · have := ocq _ e
        have e2 : w.heap.size + 1 < (w.alloc (.cells (brow (k + 2)) 5)).heap.size := this
        omega)
    have f04 : Fr (fun _ => False) w w4 := ((f2.out.trans f3'.out (fun _ _ h => h)).trans (f4.mono (T := fun k => k = w.heap.size ∨ oq = some k) (fun _ _ h => h)) (fun i hi e => by
      rcases e with e | e
      · omega
      · have := ocq _ e; omega))
    obtain ⟨i1, hi1, hi2⟩ := dig_some hD4 (hQ.out (k + 2) (by omega)) hn0.out
    have hz0 : gd l4 0 = 48 := by
      rw [hD4 0 (by omega) (by omega), show k + 2 - 1 - 0 = k + 1 by omega, Nat.div_eq_of_lt (hQ.out (k + 1) (Nat.le_refl _))]
    have hD4' := Lib.hid hD4
    have hB4' := Lib.hid hB4
    have f4' := Lib.hid f4
    replace f04 := Lib.hid f04
    replace hi2 := Lib.hid hi2
    replace hz0 := Lib.hid hz0
    replace ocq := Lib.hid ocq
    clear CW hD4 hB4 f4 hsz
    go_wp2_with fail
    go_loop [7] (fun i => ∃ j : Nat, i = .int .i64 (j : Int) ∧ j < k + 2 ∧ Hid (∀ t, t < j → gd l4 t = 48)) (fun i => k + 2 - (intOf i).toNat)
    case atStart => exact ⟨0, rfl, by omega, fun t ht => by omega⟩
    case round =>
      obtain ⟨j, rfl, hj, hz⟩ := hrel
      have b1 : (j : Int) < ((k + 2 : Nat) : Int) := by omega
      have r1 := hB4'.out.cell j (by omega)
      by_cases hd : gd l4 j = 48
      · have hj2 : j + 1 < k + 2 := by
          by_cases h : j + 1 < k + 2
          · exact h
          · exfalso
            apply hi2.out
            by_cases e : i1 = j
            · rw [e]; exact hd
            · exact hz.out i1 (by omega)
        have hz' : Hid (∀ t, t < j + 1 → gd l4 t = 48) := fun t ht => by
          by_cases e : t = j
          · rw [e]; exact hd
          · exact hz.out t (by omega)
        rw [hd] at r1
        replace hd := Lib.hid hd
        go_wp2_with fail
        go_round
        case rel => exact ⟨j + 1, by simp, hj2, hz'⟩
        case measure => simp [intOf]; omega
      · have hj0 : j ≠ 0 := by intro e; subst e; exact hd hz0.out
        obtain ⟨j', rfl⟩ : ∃ j', j = j' + 1 := ⟨j - 1, by omega⟩
        obtain ⟨g, hg2⟩ : ∃ g, g = gd l4 (j' + 1) := ⟨_, rfl⟩
        rw [← hg2] at r1 hd
        have e2 : ((g : Int) == 48) = false := by simp; omega
        have e5 : ((j' + 1 : Nat) : Int) - 1 = (j' : Int) := by omega
        have s1 := hB4'.out.free j'
        have s2 := hB4'.out.cell j' (by omega)
        have hB5 := hB4'.out.set j' 45 (by omega)
        have f05 : Fr (fun _ => False) w (w4.setCell ⟨w.heap.size, j', none⟩ (.int .u8 45)) := f04.out.trans (Fr.setCell (S := fun i => i = w.heap.size) w4 ⟨w.heap.size, j', none⟩ _ (fun _ => rfl)) (fun i hi e => by omega)
        have hc5 : (w4.setCell ⟨w.heap.size, j', none⟩ (.int .u8 45)).cell? ⟨(w.alloc (.cells (brow (k + 2)) 5)).heap.size, 0, none⟩ = some (.pointer none) := by
          rw [World.cell?_setCell_other _ _ _ _ (by intro e; have := congrArg Addr.block e; simp at this)]; exact hc4
        have hspell : Spells w (w4.setCell ⟨w.heap.size, j', none⟩ (.int .u8 45)) (45 :: Lib.decDigits n) (.slice (some ⟨w.heap.size, j', none⟩) (k + 2 - j') (k + 2 - j')) := by
          refine ⟨w.heap.size, j', k + 2 - j', k + 2 - j', l4.set j' 45, rfl, hB5, by simp [hl4]; omega, ?_, Nat.le_refl _⟩
          have hdd := dig_dec hD4'.out hl4 (hQ.out (k + 2) (by omega)) hj hz.out (by rw [← hg2]; exact hd)
          rw [List.take_of_length_le (by simp [hl4])]
          rw [List.drop_eq_getElem_cons (by simp [hl4]; omega), List.map_cons, List.drop_set_of_lt (by omega), hdd]
          simp
        replace hB5 := Lib.hid hB5
        replace f05 := Lib.hid f05
        replace hc5 := Lib.hid hc5
        replace hspell := Lib.hid hspell
        replace hd := Lib.hid hd
        replace hg2 := Lib.hid hg2
        have b2 : (j' : Int) < ((k + 2 : Nat) : Int) := by omega
        have b3 : (j' : Int) ≤ ((k + 2 : Nat) : Int) := by omega
        go_wp2_with fail
        refine leaves_cons (f := 113) (args := #[.pointer (some ⟨(w.alloc (.cells (brow (k + 2)) 5)).heap.size, 0, none⟩)]) (by simp) (by simp [go_sem]) ?_
        refine (stackFree_any _ .returning _ hc5.out).mono ?_
        rintro e u' w'' ⟨rfl, rfl, rfl⟩
        refine ⟨_, results_tmp rfl _ _ _, ?_⟩
        exact ⟨_, rfl, hspell.out, f05.out⟩
  | false =>
    clear hMk2
    have rB := Lib.hid (rest (k + 1) rfl)
    clear rest
    go_wp2_with fail
    refine (GS.out _).mono ?_
    rintro e w2 ⟨rfl, hc, hf, hs⟩
    replace hf := Lib.hid hf
    replace hc := Lib.hid hc
    replace hs := Lib.hid hs
    clear hMk1
    go_wp2_with fail
    refine (MP.out _).mono ?_
    rintro e w3 ⟨rfl, rfl⟩
    have f2 : Fr (fun _ => False) w w2 := (Fr.alloc _ w _).trans hf.out (fun _ _ h => h)
    have DV := Lib.hid (fun stk => divisors_nil stk len hl8 w2 (hg.out.frame f2 (fun _ h => h.elim)))
    clear GS MP q1 q2 q3
    go_wp2_with fail
    refine (DV.out _).mono ?_
    rintro e w3 ⟨rfl, rfl⟩
    have hx2 : NatV w2 (.slice (some ⟨bx, 0, none⟩) len lx.length) (some bx) n := hh.out.natv.frame f2 (fun _ _ f => f)
    have ST := Lib.hid (set_any (.slice none 0 0) _ none (some bx) n w2 rfl hx2 (Nat.lt_of_lt_of_le hn.out (Nat.pow_le_pow_right W64_pos (by omega))))
    replace f2 := Lib.hid f2
    replace hx2 := Lib.hid hx2
    clear DV
    go_wp2_with fail
    refine ST.out.mono ?_
    rintro e w3 ⟨vq, oq, rfl, hq, f3, a3⟩
    have f3' : Fr (fun _ => False) w2 w3 := f3.mono (fun _ _ h => by cases h)
    have rB3 := (rB.out.frame hf.out (fun f => f)).frame f3' (fun f => f)
    have CW := Lib.hid (fun stk => cw_any vq oq n w.heap.size (k + 1) (List.replicate (k + 1) 0) stk w3 hq rB3 (by simp) (by omega) (by omega) (hQ.out (k + 1) (by omega)) (Nat.lt_of_lt_of_le hn.out (Nat.pow_le_pow_right W64_pos (by omega))))
    have hc3 := cell_frame hc.out f3' (fun f => f)
    obtain ⟨qa, qm, qc, rfl⟩ := hq.slice
    replace hq := Lib.hid hq
    replace f3 := Lib.hid f3
    replace f3' := Lib.hid f3'
    replace a3 := Lib.hid a3
    replace rB3 := Lib.hid rB3
    replace hc3 := Lib.hid hc3
    clear ST
    go_wp2_with fail
    refine (CW.out _).mono ?_
    rintro e w4 ⟨rfl, l4, hB4, hl4, hD4, f4⟩
    have hsz : (w.alloc (.cells (brow (k + 1)) 5)).heap.size = w.heap.size + 1 := by simp
    have hsz3 : w.heap.size + 1 < w3.heap.size := by
      have := hs.out; have := f3'.out.size; omega
    have ocq : ∀ c, oq = some c → w.heap.size + 1 < c := by
      intro c hc
      rcases a3.out with h | ⟨b', h, hge⟩
      · rw [h] at hc; cases hc
      · rw [h] at hc; cases hc; have := hs.out; omega
    have hc4 := cell_frame hc3.out f4 (fun e => by
      rcases e with e | e
      · have e : (w.alloc (.cells (brow (k + 1)) 5)).heap.size = w.heap.size := e
        omega
      · have := ocq _ e
        have e2 : w.heap.size + 1 < (w.alloc (.cells (brow (k + 1)) 5)).heap.size := this
        omega)
    have f04 : Fr (fun _ => False) w w4 := ((f2.out.trans f3'.out (fun _ _ h => h)).trans (f4.mono (T := fun k => k = w.heap.size ∨ oq = some k) (fun _ _ h => h)) (fun i hi e => by
      rcases e with e | e
      · omega
      · have := ocq _ e; omega))
    obtain ⟨i1, hi1, hi2⟩ := dig_some hD4 (hQ.out (k + 1) (by omega)) hn0.out
    have hD4' := Lib.hid hD4
    have hB4' := Lib.hid hB4
    have f4' := Lib.hid f4
    replace f04 := Lib.hid f04
    replace hi2 := Lib.hid hi2
    replace ocq := Lib.hid ocq
    clear CW hD4 hB4 f4 hsz
    go_wp2_with fail
    go_loop [7] (fun i => ∃ j : Nat, i = .int .i64 (j : Int) ∧ j < k + 1 ∧ Hid (∀ t, t < j → gd l4 t = 48)) (fun i => k + 1 - (intOf i).toNat)
    case atStart => exact ⟨0, rfl, by omega, fun t ht => by omega⟩
    case round =>
      obtain ⟨j, rfl, hj, hz⟩ := hrel
      have b1 : (j : Int) < ((k + 1 : Nat) : Int) := by omega
      have r1 := hB4'.out.cell j (by omega)
      by_cases hd : gd l4 j = 48
      · have hj2 : j + 1 < k + 1 := by
          by_cases h : j + 1 < k + 1
          · exact h
          · exfalso
            apply hi2.out
            by_cases e : i1 = j
            · rw [e]; exact hd
            · exact hz.out i1 (by omega)
        have hz' : Hid (∀ t, t < j + 1 → gd l4 t = 48) := fun t ht => by
          by_cases e : t = j
          · rw [e]; exact hd
          · exact hz.out t (by omega)
        rw [hd] at r1
        replace hd := Lib.hid hd
        go_wp2_with fail
        go_round
        case rel => exact ⟨j + 1, by simp, hj2, hz'⟩
        case measure => simp [intOf]; omega
      · obtain ⟨g, hg2⟩ : ∃ g, g = gd l4 j := ⟨_, rfl⟩
        rw [← hg2] at r1 hd
        have e2 : ((g : Int) == 48) = false := by simp; omega
        have hspell : Spells w w4 (Lib.decDigits n) (.slice (some ⟨w.heap.size, j, none⟩) (k + 1 - j) (k + 1 - j)) := by
          refine ⟨w.heap.size, j, k + 1 - j, k + 1 - j, l4, rfl, hB4'.out, by omega, ?_, Nat.le_refl _⟩
          have hdd := dig_dec hD4'.out hl4 (hQ.out (k + 1) (by omega)) hj hz.out (by rw [← hg2]; exact hd)
          rw [List.take_of_length_le (by simp [hl4])]
          exact hdd
        replace hspell := Lib.hid hspell
        replace hd := Lib.hid hd
        replace hg2 := Lib.hid hg2
        replace hc4 := Lib.hid hc4
        have b3 : (j : Int) ≤ ((k + 1 : Nat) : Int) := by omega
        go_wp2_with fail
        refine leaves_cons (f := 113) (args := #[.pointer (some ⟨(w.alloc (.cells (brow (k + 1)) 5)).heap.size, 0, none⟩)]) (by simp) (by simp [go_sem]) ?_
        refine (stackFree_any _ .returning _ hc4.out).mono ?_
        rintro e u' w'' ⟨rfl, rfl, rfl⟩
        refine ⟨_, results_tmp rfl _ _ _, ?_⟩
        exact ⟨_, rfl, hspell.out, f04.out⟩
end Go.Proofs.YtcpjclakdpjjfaaGreatDoor


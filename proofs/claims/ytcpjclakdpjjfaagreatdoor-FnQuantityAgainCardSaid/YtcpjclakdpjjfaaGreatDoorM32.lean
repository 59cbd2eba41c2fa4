/-
  A part of the proof of FnQuantityAgain (texts R9, Ra, Pb of mine, joined).
-/
import Derived.Test.YtcpjclakdpjjfaaGreatDoorM31
import Derived.Test.YtcpjclakdpjjfaaGreatDoorM30
import Derived.Test.YtcpjclakdpjjfaaGreatDoorM23
import Derived.Test.YtcpjclakdpjjfaaGreatDoorM01
import Derived.Deep.QuietTactic
import Derived.BigQuiet
import Derived.Test.YtcpjclakdpjjfaaGreatDoorM28
import Derived.Test.YtcpjclakdpjjfaaGreatDoorM27
import Derived.Test.YtcpjclakdpjjfaaGreatDoorM15
namespace Go.Proofs.YtcpjclakdpjjfaaGreatDoor
open Go.RowKit

theorem zero111 (w : World) : (zeroValue 111).run Tryz.prog w = .ok (.agg #[.int .i32 0, .int .i32 0]) w := by kernel_rfl
theorem zero96 (w : World) : (zeroValue 96).run Tryz.prog w = .ok (.slice none 0 0) w := by kernel_rfl

theorem lk_tab (l : List UInt8) : ∀ (T : List (List UInt8 × Nat × Int × Nat)) (i : Nat), (lk (tx l) (T.map fun r => (tx r.1, pk ((r.2.1 : Int), r.2.2.1))) i).map (·.2) = (T.find? (fun r => r.1 == l)).map (fun r => pk ((r.2.1 : Int), r.2.2.1))
  | [], _ => rfl
  | r :: T, i => by
    unfold lk
    rw [List.find?_cons]
    have e : (tx l == tx r.1) = (r.1 == l) := by
      rw [Bool.eq_iff_iff, ba_beq, beq_iff_eq]
      constructor
      · intro h; have := congrArg (fun s : ByteArray => s.data.toList) h; simpa [tx_list] using this.symm
      · intro h; rw [h]
    simp only [List.map_cons, e]
    cases r.1 == l with
    | true => rfl
    | false => exact lk_tab l T (i + 1)
theorem decST_tab : decST = (sufTab.take 10).map fun r => (tx r.1, pk ((r.2.1 : Int), r.2.2.1)) := rfl
theorem binST_tab : binST = (sufTab.drop 10).map fun r => (tx r.1, pk ((r.2.1 : Int), r.2.2.1)) := rfl

/-- What a look-up of a suffix comes to. -/
def LkEnd (w : World) (o : Option Value) (e : Ending) (w' : World) : Prop := Fr (fun _ => False) w w' ∧ match o with
  | some v => ∃ b x, v = pk (b, x) ∧ e = .returned (.tuple #[.int .i32 b, .int .i32 x, .bool true])
  | none => e = .returned (.tuple #[.int .i32 0, .int .i32 0, .bool false])

theorem results_tmp3 {fn : Func} {a b c : Tmp} (h : fn.results = #[.tmp a, .tmp b, .tmp c]) (tmps : Array Value) (P : Program) (w : World) :
    (results fn tmps).run P w = .ok (.tuple #[tmps.getD a undef, tmps.getD b undef, tmps.getD c undef]) w := by
  simp [results, h]

set_option maxRecDepth 100000 in
set_option maxHeartbeats 1000000 in
theorem lookup_some (p o b1 b2 b3 i : Nat) (S : STab) (Q2 Q3 : List ((Int × Int) × Value)) (s : ByteArray) (k1 k2 : Int) (w : World) (h : LsAt w p o b1 b2 b3 S Q2 Q3) (hl : lk s S 0 = some (i, pk (k1, k2))) :
    Calls Tryz.prog 284 #[.pointer (some ⟨p, o, none⟩), .string s] w fun e w' => e = .returned (.tuple #[.int .i32 k1, .int .i32 k2, .bool true]) ∧ Fr (fun _ => False) w w' := by
  have c0 := h.c0
  have m1 := h.m1
  have hz := zero111 w
  go_enter Tryz.func284, Tryz.ntmps284
  go_wp2_with (first | (at_lookup; refine wpList_look w rfl _ _ 102 true rfl 59 111 fit59 Tryz.underlying102 hz b1 S rfl m1 s rfl (.tuple #[.agg #[.int .i32 k1, .int .i32 k2], .bool true]) (by rw [hl]; rfl) ?_) | fail)
  go_wp2_with fail
  go_quiet (fail)
  go_wp2_with fail
  refine bodyPost_ret (results_tmp3 rfl _ _ _) rfl ?_
  exact ⟨rfl, (Fr.alloc (fun _ => False) w _).trans (Fr.drewN (fun _ => False) _ _) (fun _ _ h => h)⟩

set_option maxRecDepth 100000 in
set_option maxHeartbeats 1000000 in
theorem lookup_none (p o b1 b2 b3 : Nat) (S : STab) (Q2 Q3 : List ((Int × Int) × Value)) (s : ByteArray) (w : World) (h : LsAt w p o b1 b2 b3 S Q2 Q3) (hl : lk s S 0 = none) :
    Calls Tryz.prog 284 #[.pointer (some ⟨p, o, none⟩), .string s] w fun e w' => e = .returned (.tuple #[.int .i32 0, .int .i32 0, .bool false]) ∧ Fr (fun _ => False) w w' := by
  have c0 := h.c0
  have m1 := h.m1
  have hz := zero111 w
  go_enter Tryz.func284, Tryz.ntmps284
  go_wp2_with (first | (at_lookup; refine wpList_look w rfl _ _ 102 true rfl 59 111 fit59 Tryz.underlying102 hz b1 S rfl m1 s rfl (.tuple #[.agg #[.int .i32 0, .int .i32 0], .bool false]) (by rw [hl]; rfl) ?_) | fail)
  go_wp2_with fail
  refine bodyPost_ret (results_tmp3 rfl _ _ _) rfl ?_
  exact ⟨rfl, Fr.alloc (fun _ => False) w _⟩

theorem pk_inj {a b : Int × Int} (h : pk a = pk b) : a = b := by
  unfold pk at h
  simp only [Value.agg.injEq, Array.mk.injEq, List.cons.injEq, Value.int.injEq, true_and, and_true] at h
  exact Prod.ext h.1 h.2

/-- The formats' names. -/
def fmtT (f : Nat) : ByteArray := if f = 0 then { data := #[68, 101, 99, 105, 109, 97, 108, 69, 120, 112, 111, 110, 101, 110, 116] } else if f = 1 then { data := #[66, 105, 110, 97, 114, 121, 83, 73] } else { data := #[68, 101, 99, 105, 109, 97, 108, 83, 73] }

/-- A variable reads on as it did. -/
theorem var_frame {w w' : World} {n : String} {cs : Array Value} (h : w.var? Tryz.prog n = some cs) (f : Fr (fun _ => False) w w') : w'.var? Tryz.prog n = some cs := by
  unfold World.var? at h ⊢
  cases hg : Tryz.prog.globalNamed n with
  | none => rw [hg] at h; simp at h
  | some g =>
    rw [hg] at h
    simp only [Option.bind_some] at h ⊢
    have hlt : g < w.heap.size := by
      rcases Nat.lt_or_ge g w.heap.size with h' | h'
      · exact h'
      · rw [Array.getElem?_eq_none h'] at h; cases h
    rw [f.block g hlt (fun f => f)]
    exact h

/-- What interpret comes to. -/
def InterpEnd (w : World) (l : List UInt8) (e : Ending) (w' : World) : Prop := Fr (fun _ => False) w w' ∧ match sufQ l with
  | some (b, x, f) => e = .returned (.tuple #[.int .i32 (b : Int), .int .i32 x, .string (fmtT f), .bool true])
  | none => ∃ a b c, e = .returned (.tuple #[a, b, c, .bool false])

theorem sufQ_dec {l : List UInt8} {r : List UInt8 × Nat × Int × Nat} (h : (sufTab.take 10).find? (fun r => r.1 == l) = some r) : sufQ l = some (r.2.1, r.2.2.1, 2) := by
  have hs : sufTab = sufTab.take 10 ++ sufTab.drop 10 := rfl
  have hf : sufTab.find? (fun r => r.1 == l) = some r := by rw [hs, List.find?_append, h]; rfl
  have h2 : ∀ r ∈ sufTab.take 10, r.2.2.2 = 2 := by decide
  unfold sufQ
  rw [hf]
  have := h2 r (List.mem_of_find?_eq_some h)
  simp only [Option.some.injEq]
  rw [← this]
theorem sufQ_bin {l : List UInt8} {r : List UInt8 × Nat × Int × Nat} (h0 : (sufTab.take 10).find? (fun r => r.1 == l) = none) (h : (sufTab.drop 10).find? (fun r => r.1 == l) = some r) : sufQ l = some (r.2.1, r.2.2.1, 1) := by
  have hs : sufTab = sufTab.take 10 ++ sufTab.drop 10 := rfl
  have hf : sufTab.find? (fun r => r.1 == l) = some r := by rw [hs, List.find?_append, h0, h]; rfl
  have h2 : ∀ r ∈ sufTab.drop 10, r.2.2.2 = 1 := by decide
  unfold sufQ
  rw [hf]
  have := h2 r (List.mem_of_find?_eq_some h)
  simp only [Option.some.injEq]
  rw [← this]
theorem sufQ_exp {l : List UInt8} (h0 : (sufTab.take 10).find? (fun r => r.1 == l) = none) (h : (sufTab.drop 10).find? (fun r => r.1 == l) = none) : sufQ l = match l with
    | c :: r => if (c = 69 ∨ c = 101) ∧ r ≠ [] then (match Lib.parseIntB 64 r with | .ok v => some (10, v, 0) | _ => none) else none
    | [] => none := by
  have hs : sufTab = sufTab.take 10 ++ sufTab.drop 10 := rfl
  have hf : sufTab.find? (fun r => r.1 == l) = none := by rw [hs, List.find?_append, h0, h]; rfl
  unfold sufQ
  rw [hf]
  cases l <;> rfl

set_option maxRecDepth 100000 in
set_option maxHeartbeats 2000000 in
theorem sh_interp (p : Nat) (s : ByteArray) (l : List UInt8) (w : World) (hs : SufAt w p) (hl : s.data.toList = l) (hlen : l.length ≤ 200) (hx : ∀ b x f, sufQ l = some (b, x, f) → x.natAbs ≤ 150)
    (tp : TypeId) (pv : Value) (hv : w.var? Tryz.prog "strconv.ErrSyntax" = some #[.iface tp pv]) (tr : TypeId) (pr : Value) (hr : w.var? Tryz.prog "strconv.ErrRange" = some #[.iface tr pr]) :
    Calls Tryz.prog 282 #[.pointer (some ⟨p, 0, none⟩), .string s] w (InterpEnd w l) := by
  have hstx : s = tx l := by rw [← hl, tx_of]
  have hsz : s.size = l.length := by rw [← hl]; simp
  obtain ⟨c1, c2, c3, Q2, Q3, b1, b2, b3, K2, K3, hB, hBR, hD, hDR⟩ := hs
  have tD := lk_tab l (sufTab.take 10) 0
  rw [← decST_tab, ← hstx] at tD
  have tB := lk_tab l (sufTab.drop 10) 0
  rw [← binST_tab, ← hstx] at tB
  cases hfd : (sufTab.take 10).find? (fun r => r.1 == l) with
  | some r =>
    rw [hfd] at tD
    have hq := sufQ_dec hfd
    obtain ⟨i, hi⟩ : ∃ i, lk s decST 0 = some (i, pk ((r.2.1 : Int), r.2.2.1)) := by
      cases hlk : lk s decST 0 with
      | none => rw [hlk] at tD; cases tD
      | some q => rw [hlk] at tD; exact ⟨q.1, by have e : q.2 = pk ((r.2.1 : Int), r.2.2.1) := Option.some.inj tD; rw [← e]⟩
    have L := Lib.hid (lookup_some p 0 b1 b2 b3 i decST K2 K3 s _ _ w hD hi)
    obtain ⟨B, hBe⟩ : ∃ B : Int, B = (r.2.1 : Int) := ⟨_, rfl⟩
    obtain ⟨X, hXe⟩ : ∃ X : Int, X = r.2.2.1 := ⟨_, rfl⟩
    have FIN : Hid (∀ w', Fr (fun _ => False) w w' → InterpEnd w l (.returned (.tuple #[.int .i32 B, .int .i32 X, .string { data := #[68, 101, 99, 105, 109, 97, 108, 83, 73] }, .bool true])) w') := by
      intro w' f
      refine ⟨f, ?_⟩
      rw [hq, hBe, hXe]; rfl
    rw [← hBe, ← hXe] at L
    clear tD tB hfd hq hi hB hBR hD hDR hv hr hx hl hlen hstx hsz hBe hXe
    go_enter Tryz.func282, Tryz.ntmps282
    go_wp2_with fail
    refine L.out.mono ?_
    rintro e w1 ⟨rfl, f1⟩
    replace f1 := Lib.hid f1
    go_wp2_with fail
    refine bodyPost_ret (results_tmp4 rfl _ _ _) rfl ?_
    exact FIN.out _ f1.out
  | none =>
    rw [hfd] at tD
    have hi : lk s decST 0 = none := by
      cases hlk : lk s decST 0 with
      | none => rfl
      | some q => rw [hlk] at tD; cases tD
    have L := Lib.hid (lookup_none p 0 b1 b2 b3 decST K2 K3 s w hD hi)
    cases hfb : (sufTab.drop 10).find? (fun r => r.1 == l) with
    | some r =>
      rw [hfb] at tB
      have hq := sufQ_bin hfd hfb
      obtain ⟨i, hi2⟩ : ∃ i, lk s binST 0 = some (i, pk ((r.2.1 : Int), r.2.2.1)) := by
        cases hlk : lk s binST 0 with
        | none => rw [hlk] at tB; cases tB
        | some q => rw [hlk] at tB; exact ⟨q.1, by have e : q.2 = pk ((r.2.1 : Int), r.2.2.1) := Option.some.inj tB; rw [← e]⟩
      obtain ⟨B, hBe⟩ : ∃ B : Int, B = (r.2.1 : Int) := ⟨_, rfl⟩
      obtain ⟨X, hXe⟩ : ∃ X : Int, X = r.2.2.1 := ⟨_, rfl⟩
      have FIN : Hid (∀ w', Fr (fun _ => False) w w' → InterpEnd w l (.returned (.tuple #[.int .i32 B, .int .i32 X, .string { data := #[66, 105, 110, 97, 114, 121, 83, 73] }, .bool true])) w') := by
        intro w' f
        refine ⟨f, ?_⟩
        rw [hq, hBe, hXe]; rfl
      have L2 := Lib.hid (fun w1 (f : Fr (fun _ => False) w w1) => lookup_some p 3 c1 c2 c3 i binST Q2 Q3 s _ _ w1 (hB.frame f (fun f => f) (fun f => f) (fun f => f) (fun f => f)) hi2)
      rw [← hBe, ← hXe] at L2
      clear tD tB hfd hfb hq hi hi2 hB hBR hD hDR hv hr hx hl hlen hstx hsz hBe hXe
      go_enter Tryz.func282, Tryz.ntmps282
      go_wp2_with fail
      refine L.out.mono ?_
      rintro e w1 ⟨rfl, f1⟩
      have L3 := Lib.hid (L2.out w1 f1)
      replace f1 := Lib.hid f1
      go_wp2_with fail
      refine L3.out.mono ?_
      rintro e w2 ⟨rfl, f2⟩
      replace f2 := Lib.hid f2
      go_wp2_with fail
      refine bodyPost_ret (results_tmp4 rfl _ _ _) rfl ?_
      exact FIN.out _ (f1.out.trans f2.out (fun _ _ h => h))
    | none =>
      rw [hfb] at tB
      have hi2 : lk s binST 0 = none := by
        cases hlk : lk s binST 0 with
        | none => rfl
        | some q => rw [hlk] at tB; cases tB
      have L2 := Lib.hid (fun w1 (f : Fr (fun _ => False) w w1) => lookup_none p 3 c1 c2 c3 binST Q2 Q3 s w1 (hB.frame f (fun f => f) (fun f => f) (fun f => f) (fun f => f)) hi2)
      have hq := sufQ_exp hfd hfb
      have BAD : Hid (sufQ l = none → ∀ w', Fr (fun _ => False) w w' → InterpEnd w l (.returned (.tuple #[.int .i32 0, .int .i32 0, .string { data := #[68, 101, 99, 105, 109, 97, 108, 69, 120, 112, 111, 110, 101, 110, 116] }, .bool false])) w') := by
        intro hn w' f
        refine ⟨f, ?_⟩
        rw [hn]; exact ⟨_, _, _, rfl⟩
      clear tD tB hfd hfb hi hi2 hB hBR hD hDR
      obtain ⟨n, hn⟩ : ∃ n, n = l.length := ⟨_, rfl⟩
      rw [← hn] at hsz hlen
      by_cases h1 : n ≤ 1
      · have BB := Lib.hid (BAD.out (by
          rw [hq]
          cases l with
          | nil => rfl
          | cons c r =>
            cases r with
            | nil => simp
            | cons d r => simp at hn; omega))
        replace hn := Lib.hid hn
        replace hq := Lib.hid hq
        clear hx hv hr hl hstx
        go_enter Tryz.func282, Tryz.ntmps282
        go_wp2_with fail
        refine L.out.mono ?_
        rintro e w1 ⟨rfl, f1⟩
        have L3 := Lib.hid (L2.out w1 f1)
        replace f1 := Lib.hid f1
        go_wp2_with fail
        refine L3.out.mono ?_
        rintro e w2 ⟨rfl, f2⟩
        replace f2 := Lib.hid f2
        go_wp2_with fail
        refine bodyPost_ret (results_tmp4 rfl _ _ _) rfl ?_
        exact BB.out _ (f1.out.trans f2.out (fun _ _ h => h))
      · obtain ⟨c, r, hcr⟩ : ∃ c r, l = c :: r := by
          cases l with
          | nil => simp at hn; omega
          | cons c r => exact ⟨c, r, rfl⟩
        have hs0 : 0 < s.size := by omega
        have hsc : s[0] = c := by
          have : s.data.toList[0]? = some s[0] := by rw [List.getElem?_eq_getElem (by simpa using hs0)]; rfl
          rw [hl, hcr] at this
          exact (Option.some.inj this).symm
        have hrne : r ≠ [] := by rintro rfl; rw [hcr] at hn; simp at hn; omega
        rw [hcr] at hq
        simp only [] at hq
        by_cases hE : c = 69 ∨ c = 101
        · rw [if_pos ⟨hE, hrne⟩] at hq
          have hxr : (s.extract 1 n).data.toList = r := by
            rw [ByteArray.data_extract, Array.toList_extract, List.extract_eq_take_drop, hl, hcr, List.drop_succ_cons, List.drop_zero, List.take_of_length_le]
            rw [hcr] at hn; simp at hn; omega
          have hxs : (s.extract 1 n).size ≤ 200 := by rw [ByteArray.size_extract]; omega
          have h2 : 1 < n := by omega
          have P : Hid (∀ w', Fr (fun _ => False) w w' → Calls Tryz.prog 19 #[.string (s.extract 1 n), .int .i64 10, .int .i64 64] w' fun e w'' => Fr (fun _ => False) w' w'' ∧
              ((∃ x b, x.natAbs ≤ 150 ∧ sufQ l = some (10, x, 0) ∧ e = .returned (.tuple #[.int .i64 x, b]) ∧ b = .nilIface) ∨ (∃ x N, sufQ l = none ∧ e = .returned (.tuple #[.int .i64 x, .iface 155 (.pointer (some ⟨N, 0, none⟩))])))) := by
            intro w' f
            cases hp : Lib.parseIntB 64 r with
            | ok v =>
              rw [hp] at hq
              refine (Tryz.strconv_ParseInt_10_at64_ok (s.extract 1 n) (by omega) v (by rw [hxr]; exact hp) w').mono ?_
              rintro e w'' ⟨rfl, hw⟩
              have hq2 : sufQ l = some (10, v, 0) := by rw [hcr]; exact hq
              refine ⟨?_, Or.inl ⟨v, _, hx _ _ _ hq2, hq2, rfl, rfl⟩⟩
              rcases hw with rfl | ⟨t, rfl⟩
              · exact Fr.refl _ _
              · exact Fr.of_below (Lib.bytesWorld_below _ _ _)
            | range =>
              rw [hp] at hq
              refine (Tryz.strconv_ParseInt_10_at64_range_var (s.extract 1 n) (by omega) (by rw [hxr]; exact hp) tr pr w' ?_).mono ?_
              · exact var_frame hr f
              · rintro e w'' ⟨N, rfl, _, _, hb⟩
                exact ⟨Fr.of_below hb, Or.inr ⟨_, N, by rw [hcr]; exact hq, rfl⟩⟩
            | _ =>
              rw [hp] at hq
              refine (Tryz.strconv_ParseInt_10_at64_syntax_var (s.extract 1 n) (by omega) (by rw [hxr, hp]; intro v h; cases h) (by rw [hxr, hp]; intro h; cases h) tp pv w' ?_).mono ?_
              · exact var_frame hv f
              · rintro e w'' ⟨N, rfl, _, _, hb⟩
                exact ⟨Fr.of_below hb, Or.inr ⟨_, N, by rw [hcr]; exact hq, rfl⟩⟩
          have FIN : Hid (∀ x w', sufQ l = some (10, x, 0) → Fr (fun _ => False) w w' → InterpEnd w l (.returned (.tuple #[.int .i32 10, .int .i32 x, .string { data := #[68, 101, 99, 105, 109, 97, 108, 69, 120, 112, 111, 110, 101, 110, 116] }, .bool true])) w') := by
            intro x w' hn f
            refine ⟨f, ?_⟩
            rw [hn]; rfl
          have hb : ((s[0].toNat : Int) == 69) = true ∨ (((s[0].toNat : Int) == 69) = false ∧ ((s[0].toNat : Int) == 101) = true) := by
            rw [hsc]
            rcases hE with rfl | rfl
            · exact Or.inl rfl
            · exact Or.inr ⟨rfl, rfl⟩
          replace hn := Lib.hid hn
          replace hq := Lib.hid hq
          replace hxr := Lib.hid hxr
          replace hxs := Lib.hid hxs
          clear hx hv hr hl hstx hsc hcr hE
          rcases hb with b1 | ⟨b1, b2⟩
          all_goals
            go_enter Tryz.func282, Tryz.ntmps282
            go_wp2_with fail
            refine L.out.mono ?_
            rintro e w1 ⟨rfl, f1⟩
            have L3 := Lib.hid (L2.out w1 f1)
            replace f1 := Lib.hid f1
            go_wp2_with fail
            refine L3.out.mono ?_
            rintro e w2 ⟨rfl, f2⟩
            have f3 := Lib.hid (f1.out.trans f2 (fun _ _ h => h))
            have P3 := Lib.hid (P.out w2 f3.out)
            replace f2 := Lib.hid f2
            go_wp2_with fail
            refine P3.out.mono ?_
            rintro e w3 ⟨f4, ⟨x, b, hx150, hsq, rfl, rfl⟩ | ⟨x, N, hsq, rfl⟩⟩
            · have hw32 : IntKind.i32.wrap x = x := by rw [IntKind.wrap_i32]; omega
              have hw32' : wrap32 x = x := by unfold wrap32; omega
              have FF := Lib.hid (FIN.out x _ hsq (f3.out.trans f4 (fun _ _ h => h)))
              replace f4 := Lib.hid f4
              replace hsq := Lib.hid hsq
              go_wp2_with fail
              refine bodyPost_ret (results_tmp4 rfl _ _ _) rfl ?_
              exact FF.out
            · have FF := Lib.hid (BAD.out hsq _ (f3.out.trans f4 (fun _ _ h => h)))
              replace f4 := Lib.hid f4
              replace hsq := Lib.hid hsq
              go_wp2_with fail
              refine bodyPost_ret (results_tmp4 rfl _ _ _) rfl ?_
              exact FF.out
        · rw [if_neg (fun h => hE h.1)] at hq
          have BB := Lib.hid (BAD.out (by rw [hcr]; exact hq))
          have b1 : ((s[0].toNat : Int) == 69) = false := beq_eq_false_iff_ne.mpr (by rw [hsc]; intro e; exact hE (Or.inl (UInt8.toNat_inj.mp (by show c.toNat = 69; omega))))
          have b2 : ((s[0].toNat : Int) == 101) = false := beq_eq_false_iff_ne.mpr (by rw [hsc]; intro e; exact hE (Or.inr (UInt8.toNat_inj.mp (by show c.toNat = 101; omega))))
          have h2 : 1 < n := by omega
          replace hn := Lib.hid hn
          replace hq := Lib.hid hq
          clear hx hv hr hl hstx hsc hcr hE
          go_enter Tryz.func282, Tryz.ntmps282
          go_wp2_with fail
          refine L.out.mono ?_
          rintro e w1 ⟨rfl, f1⟩
          have L3 := Lib.hid (L2.out w1 f1)
          replace f1 := Lib.hid f1
          go_wp2_with fail
          refine L3.out.mono ?_
          rintro e w2 ⟨rfl, f2⟩
          replace f2 := Lib.hid f2
          go_wp2_with fail
          refine bodyPost_ret (results_tmp4 rfl _ _ _) rfl ?_
          exact BB.out _ (f1.out.trans f2.out (fun _ _ h => h))
end Go.Proofs.YtcpjclakdpjjfaaGreatDoor

namespace Go.Proofs.YtcpjclakdpjjfaaGreatDoor
open Go.RowKit

set_option maxRecDepth 100000 in
set_option maxHeartbeats 2000000 in
theorem interp_any (p : Nat) (s : ByteArray) (l : List UInt8) (w : World) (hs : SufAt w p) (hl : s.data.toList = l) (hlen : l.length ≤ 200) (hx : ∀ b x f, sufQ l = some (b, x, f) → x.natAbs ≤ 150)
    (tp : TypeId) (pv : Value) (hv : w.var? Tryz.prog "strconv.ErrSyntax" = some #[.iface tp pv]) (tr : TypeId) (pr : Value) (hr : w.var? Tryz.prog "strconv.ErrRange" = some #[.iface tr pr]) :
    Calls Tryz.prog 285 #[.agg #[.pointer (some ⟨p, 0, none⟩)], .string s] w (InterpEnd w l) := by
  have hstx : s = tx l := by rw [← hl, tx_of]
  have hT : s.toList = l := (Lib.toList_data s).trans hl
  have hfin : ∀ (m : List UInt8) (x : Int), l = m → sufQ m = some (10, x, 2) → ∀ w', Fr (fun _ => False) w w' → InterpEnd w l (.returned (.tuple #[.int .i32 10, .int .i32 x, .string { data := #[68, 101, 99, 105, 109, 97, 108, 83, 73] }, .bool true])) w' := by
    intro m x h1 h2 w' f
    refine ⟨f, ?_⟩
    rw [h1, h2]; rfl
  have I := Lib.hid (fun w' (f : Fr (fun _ => False) w w') => sh_interp p s l w' (hs.frame f) hl hlen hx tp pv (var_frame hv f) tr pr (var_frame hr f))
  have fA : Hid (∀ o, Fr (fun _ => False) w (w.alloc o)) := fun o => Fr.alloc _ _ _
  replace hfin := Lib.hid hfin
  clear hs hx hv hr hlen hl
  clear hstx
  by_cases h0 : l = []
  · have b0 : s.toList.isEmpty = true := by rw [hT, h0]; rfl
    have FF := Lib.hid (fun w' f => hfin.out [] (0) h0 (by decide) w' f)
    replace h0 := Lib.hid h0
    replace hT := Lib.hid hT
    go_enter Tryz.func285, Tryz.ntmps285
    go_wp2_with fail
    refine bodyPost_ret (results_tmp4 rfl _ _ _) rfl ?_
    exact FF.out _ (fA.out _)
  have b0 : s.toList.isEmpty = false := by
    rw [hT]
    cases l with | nil => exact absurd rfl h0 | cons a b => rfl
  by_cases h1 : l = [110]
  · have b1 : (s.toList == [110]) = true := by rw [hT, h1]; rfl
    have FF := Lib.hid (fun w' f => hfin.out [110] (-9) h1 (by decide) w' f)
    replace h1 := Lib.hid h1
    replace hT := Lib.hid hT
    go_enter Tryz.func285, Tryz.ntmps285
    go_wp2_with fail
    refine bodyPost_ret (results_tmp4 rfl _ _ _) rfl ?_
    exact FF.out _ (fA.out _)
  have b1 : (s.toList == [110]) = false := by
    rw [hT]
    exact beq_eq_false_iff_ne.mpr h1
  by_cases h2 : l = [117]
  · have b2 : (s.toList == [117]) = true := by rw [hT, h2]; rfl
    have FF := Lib.hid (fun w' f => hfin.out [117] (-6) h2 (by decide) w' f)
    replace h2 := Lib.hid h2
    replace hT := Lib.hid hT
    go_enter Tryz.func285, Tryz.ntmps285
    go_wp2_with fail
    refine bodyPost_ret (results_tmp4 rfl _ _ _) rfl ?_
    exact FF.out _ (fA.out _)
  have b2 : (s.toList == [117]) = false := by
    rw [hT]
    exact beq_eq_false_iff_ne.mpr h2
  by_cases h3 : l = [109]
  · have b3 : (s.toList == [109]) = true := by rw [hT, h3]; rfl
    have FF := Lib.hid (fun w' f => hfin.out [109] (-3) h3 (by decide) w' f)
    replace h3 := Lib.hid h3
    replace hT := Lib.hid hT
    go_enter Tryz.func285, Tryz.ntmps285
    go_wp2_with fail
    refine bodyPost_ret (results_tmp4 rfl _ _ _) rfl ?_
    exact FF.out _ (fA.out _)
  have b3 : (s.toList == [109]) = false := by
    rw [hT]
    exact beq_eq_false_iff_ne.mpr h3
  by_cases h4 : l = [107]
  · have b4 : (s.toList == [107]) = true := by rw [hT, h4]; rfl
    have FF := Lib.hid (fun w' f => hfin.out [107] (3) h4 (by decide) w' f)
    replace h4 := Lib.hid h4
    replace hT := Lib.hid hT
    go_enter Tryz.func285, Tryz.ntmps285
    go_wp2_with fail
    refine bodyPost_ret (results_tmp4 rfl _ _ _) rfl ?_
    exact FF.out _ (fA.out _)
  have b4 : (s.toList == [107]) = false := by
    rw [hT]
    exact beq_eq_false_iff_ne.mpr h4
  by_cases h5 : l = [77]
  · have b5 : (s.toList == [77]) = true := by rw [hT, h5]; rfl
    have FF := Lib.hid (fun w' f => hfin.out [77] (6) h5 (by decide) w' f)
    replace h5 := Lib.hid h5
    replace hT := Lib.hid hT
    go_enter Tryz.func285, Tryz.ntmps285
    go_wp2_with fail
    refine bodyPost_ret (results_tmp4 rfl _ _ _) rfl ?_
    exact FF.out _ (fA.out _)
  have b5 : (s.toList == [77]) = false := by
    rw [hT]
    exact beq_eq_false_iff_ne.mpr h5
  by_cases h6 : l = [71]
  · have b6 : (s.toList == [71]) = true := by rw [hT, h6]; rfl
    have FF := Lib.hid (fun w' f => hfin.out [71] (9) h6 (by decide) w' f)
    replace h6 := Lib.hid h6
    replace hT := Lib.hid hT
    go_enter Tryz.func285, Tryz.ntmps285
    go_wp2_with fail
    refine bodyPost_ret (results_tmp4 rfl _ _ _) rfl ?_
    exact FF.out _ (fA.out _)
  have b6 : (s.toList == [71]) = false := by
    rw [hT]
    exact beq_eq_false_iff_ne.mpr h6
  replace hT := Lib.hid hT
  clear h0 h1 h2 h3 h4 h5 h6 hfin
  have hcA : Hid ((w.alloc (.cells #[.pointer (some ⟨p, 0, none⟩)] 113)).cell? ⟨w.heap.size, 0, none⟩ = some (.pointer (some ⟨p, 0, none⟩))) := World.cell?_alloc_mark w #[.pointer (some ⟨p, 0, none⟩)] 113 (0, 0) 0
  go_enter Tryz.func285, Tryz.ntmps285
  go_wp2_with fail
  refine (I.out _ (fA.out _)).mono ?_
  rintro e w1 ⟨f1, hm⟩
  have f2 := (fA.out _).trans f1 (fun _ _ h => h)
  have FIN : Hid (∀ e, (match sufQ l with
      | some (b, x, f) => e = Ending.returned (.tuple #[.int .i32 (b : Int), .int .i32 x, .string (fmtT f), .bool true])
      | none => ∃ a b c, e = Ending.returned (.tuple #[a, b, c, .bool false])) → InterpEnd w l e w1) := fun e h => ⟨f2, h⟩
  replace f1 := Lib.hid f1
  replace f2 := Lib.hid f2
  clear I
  cases hq : sufQ l with
  | none =>
    rw [hq] at hm FIN
    obtain ⟨a, b, c, rfl⟩ := hm
    replace hq := Lib.hid hq
    go_wp2_with fail
    refine bodyPost_ret (results_tmp4 rfl _ _ _) rfl ?_
    exact FIN.out _ ⟨_, _, _, rfl⟩
  | some r =>
    obtain ⟨b, x, f⟩ := r
    rw [hq] at hm FIN
    simp only at hm FIN
    subst hm
    replace hq := Lib.hid hq
    go_wp2_with fail
    refine bodyPost_ret (results_tmp4 rfl _ _ _) rfl ?_
    exact FIN.out _ rfl
end Go.Proofs.YtcpjclakdpjjfaaGreatDoor

/-
  PLAIN LEMMAS for the walk of ParseQuantity: the text of the number, as inf.Dec's SetString takes it; digits as an int64.
-/
namespace Go.Proofs.YtcpjclakdpjjfaaGreatDoor
open Go

theorem parseI_dg (l : List UInt8) (hd : ∀ c ∈ l, isDg c = true) (hne : l ≠ []) (h : decV l < 9223372036854775808) : Lib.parseIntB 64 l = .ok (decV l : Int) := by
  have hu := parseU_ok (2 ^ 64 - 1) (by decide) l 0 hd (by omega)
  rw [Nat.zero_mul, Nat.zero_add] at hu
  cases l with
  | nil => exact (hne rfl).elim
  | cons c r =>
    have hc := hd c (by simp)
    simp only [isDg, decide_eq_true_eq] at hc
    unfold Lib.parseIntB Lib.parseUintB
    simp only [if_neg (show ¬ (c.toNat = 43 ∨ c.toNat = 45) by omega), reduceCtorEq, if_false, hu]
    rw [if_neg (by omega), if_neg (by omega), if_neg (by omega)]

theorem decV_zeros : ∀ (zs r : List UInt8), (∀ c ∈ zs, c = 48) → decV (zs ++ r) = decV r
  | [], _, _ => rfl
  | c :: zs, r, h => by
    have : c = 48 := h c (by simp)
    subst this
    rw [List.cons_append, decV_zero]
    exact decV_zeros zs r (fun c hc => h c (by simp [hc]))

theorem take_split (l : List UInt8) (a b : Nat) (h : a ≤ b) : l.take b = l.take a ++ (l.drop a).take (b - a) := by
  conv => lhs; rw [← List.take_append_drop a (l.take b)]
  rw [List.take_take, Nat.min_eq_left h, List.drop_take]
theorem dgB' {c : UInt8} (h : isDg c = true) : 48 ≤ c.toNat ∧ c.toNat ≤ 57 := by unfold isDg at h; simpa using h

theorem split_val {l : List UInt8} {p : Pq} (h : splitQ l = some p) (hdig : ∃ c ∈ p.value, isDg c = true) :
    (p.value = [48] ∧ p.num = [48] ∧ p.denom = [] ∧ p.suf = []) ∨
    ∃ sg d1 dt, ValT p.value sg d1 dt p.denom ∧ decV (d1 ++ p.denom) = decV (p.num ++ p.denom) ∧ (decide (sg = [45]) = !p.pos) := by
  rw [split_run] at h
  have ho := sgnAt_le l 0 (Nat.zero_le _)
  have hsg : l.take (sgnAt l 0) = [] ∨ l.take (sgnAt l 0) = [45] ∨ l.take (sgnAt l 0) = [43] := by
    unfold sgnAt
    cases l with
    | nil => left; rfl
    | cons c t =>
      by_cases h1 : c = 45
      · subst h1; right; left; simp
      · by_cases h2 : c = 43
        · subst h2; right; right; simp
        · left; simp [h1, h2]
  have hpos : decide (l.take (sgnAt l 0) = [45]) = !decide (l.head? ≠ some 45) := by
    unfold sgnAt
    cases l with
    | nil => simp
    | cons c t =>
      by_cases h1 : c = 45
      · subst h1; simp
      · by_cases h2 : c = 43
        · subst h2; simp
        · simp [h1, h2]
  generalize sgnAt l 0 = o at *
  have hz := runEnd_le zeroP l o ho
  have hoz := runEnd_ge zeroP l o
  have hzt := runEnd_take zeroP l o
  generalize runEnd zeroP l o = z at *
  by_cases hzl : z = l.length
  · rw [if_pos hzl] at h
    cases h
    exact Or.inl ⟨rfl, rfl, rfl, rfl⟩
  · rw [if_neg hzl] at h
    right
    have hd := runEnd_le isDg l z hz
    have hzd := runEnd_ge isDg l z
    have hdt := runEnd_take isDg l z
    unfold num0 at h
    generalize runEnd isDg l z = d at *
    by_cases hs : sufEnd l (pntEnd l d) = l.length
    · rw [if_pos hs] at h
      cases h
      simp only at hdig ⊢
      have hsplit := take_split l o d (Nat.le_trans hoz hzd)
      have hd1 : (l.drop o).take (d - o) = (l.drop o).take (z - o) ++ (l.drop z).take (d - z) := by
        rw [take_split (l.drop o) (z - o) (d - o) (by omega), List.drop_drop, show o + (z - o) = z by omega, show d - o - (z - o) = d - z by omega]
      have gz : ∀ c ∈ (l.drop o).take (z - o), c = 48 := by
        intro c hc
        rw [← hzt] at hc
        exact eq_of_beq (List.all_eq_true.mp (List.all_takeWhile (p := zeroP) (l := l.drop o)) c hc)
      have gn : ∀ c ∈ (l.drop z).take (d - z), isDg c = true := by
        intro c hc
        rw [← hdt] at hc
        exact List.all_eq_true.mp (List.all_takeWhile (p := isDg) (l := l.drop z)) c hc
      have g1 : ∀ c ∈ (l.drop o).take (d - o), isDg c = true := by
        intro c hc
        rw [hd1] at hc
        rcases List.mem_append.1 hc with h | h
        · rw [gz c h]; exact dg48
        · exact gn c h
      have g2 : ∀ c ∈ denOf l d, isDg c = true := by
        intro c hc
        unfold denOf at hc
        split at hc
        · rw [← runEnd_take] at hc
          exact List.all_eq_true.mp (List.all_takeWhile (p := isDg) (l := l.drop (d + 1))) c hc
        · simp at hc
      have hval : ∃ dt, (dt = [46] ∨ (dt = [] ∧ denOf l d = [])) ∧ l.take (pntEnd l d) = l.take o ++ (l.drop o).take (d - o) ++ dt ++ denOf l d := by
        unfold pntEnd denOf
        by_cases h46 : l[d]? = some 46
        · rw [if_pos h46, if_pos h46]
          refine ⟨[46], Or.inl rfl, ?_⟩
          rw [← hsplit, ← take_snoc h46]
          exact take_split l (d + 1) _ (runEnd_ge _ _ _)
        · rw [if_neg h46, if_neg h46]
          exact ⟨[], Or.inr ⟨rfl, rfl⟩, by rw [← hsplit, List.append_nil, List.append_nil]⟩
      obtain ⟨dt, hdt2, hv⟩ := hval
      refine ⟨l.take o, (l.drop o).take (d - o), dt, ⟨hv, hsg, g1, g2, hdt2, ?_⟩, ?_, hpos⟩
      · intro e
        obtain ⟨c, hc, hcd⟩ := hdig
        obtain ⟨e1, e2⟩ := List.append_eq_nil_iff.1 e
        rw [hv, e1, e2, List.append_nil, List.append_nil] at hc
        have hb := dgB' hcd
        rcases List.mem_append.1 hc with h | h
        · rcases hsg with e | e | e
          · rw [e] at h; simp at h
          · rw [e] at h; simp at h; subst h; simp at hb
          · rw [e] at h; simp at h; subst h; simp at hb
        · rcases hdt2 with e | ⟨e, _⟩
          · rw [e] at h; simp at h; subst h; simp at hb
          · rw [e] at h; simp at h
      · rw [hd1, List.append_assoc, decV_zeros _ _ gz]
        split
        · rename_i e; rw [e]; exact (decV_zero _).symm
        · rfl
    · rw [if_neg hs] at h; cases h
end Go.Proofs.YtcpjclakdpjjfaaGreatDoor


/-
  A part of the proof of FnQuantityAgain (texts V8i, V8n, V8g, V9, W1 of mine, joined).
-/
import Derived.Test.YtcpjclakdpjjfaaGreatDoorM43
import Derived.Lib.SmallJoins
namespace Go.Proofs.YtcpjclakdpjjfaaGreatDoor
open Go.RowKit

set_option maxRecDepth 100000 in
set_option maxHeartbeats 4000000 in
theorem can_inex_a (b : Nat) (q : MQ) (w : World) (B : Nat) (v : Value) (H : CanH b q w B v) (hu : q.u ≠ 0) (hf : q.fmt = 1) (hb : isBin q = false) (h1 : cmpZ (sv q.u q.e) (sv (-1024) 0) ≤ 0)
    (SC : ∀ wx, Fr (fun _ => False) w wx → Calls Tryz.prog 70 #[ptr b, .int .i32 0] wx fun r w' => ∃ t, r = .returned (.tuple #[.iface 36 (.agg #[ptr t]), .bool false]) ∧ Fr (fun _ => False) wx w') :
    Calls Tryz.prog 41 #[ptr b, v] w (CanEnd w B (canon q)) := by
  have Z : Hid (Calls Tryz.prog 68 #[ptr b] w fun r w' => r = .returned (.bool false) ∧ w = w') := Lib.hid (by have := H.z; rwa [show (q.u == 0) = false from by simp [hu]] at this)
  have c4 : w.cell? ⟨b, 4, none⟩ = some (.string { data := #[66, 105, 110, 97, 114, 121, 83, 73] }) := by have := H.c4; rwa [hf] at this
  have xb := canD_bound hu (H.nz hu) H.qb
  obtain ⟨L1, hL1⟩ : ∃ L, L = Lib.itoa (canD q.u q.e).1 := ⟨_, rfl⟩
  obtain ⟨X, hX⟩ : ∃ X, X = (canD q.u q.e).2 := ⟨_, rfl⟩
  obtain ⟨L2, hL2⟩ : ∃ L, L = dsuf 2 X := ⟨_, rfl⟩
  have CN := H.can hu
  rw [← hX] at xb CN
  rw [← hL1] at CN
  have CD : ∀ p w5, SufAt w5 p → Lib.TabIs Tryz.prog w5 "internal/strconv.uint64pow10" .u64 Lib.pow10Tab → Calls Tryz.prog 281 #[.pointer (some ⟨p, 0, none⟩), .int .i32 10, .int .i32 X, .string { data := #[68, 101, 99, 105, 109, 97, 108, 83, 73] }] w5 (ConsEnd w5 L2) := fun p w5 h1 h2 => by
    rw [hL2]
    exact cons_dec 2 X (Or.inl rfl) p w5 h1 h2
  have hm : canon q = L1 ++ L2 := by
    rw [hL1, hL2, hX]
    unfold canon
    rw [if_neg hu, if_neg (by rw [hb]; simp), hf]
    rfl
  replace CN := Lib.hid CN
  replace CD := Lib.hid CD
  replace hm := Lib.hid hm
  clear hL1 hX hL2 xb
  have C1 := H.cmp (-1024) w (by omega) (by omega) (Fr.refl _ _)
  obtain ⟨c1, hc1⟩ : ∃ c, c = cmpZ (sv q.u q.e) (sv (-1024) 0) := ⟨_, rfl⟩
  rw [← hc1] at C1 h1
  clear hc1
  replace C1 := Lib.hid C1
  replace SC := Lib.hid SC
  unfold ptr at *
  go_enter Tryz.func41, Tryz.ntmps41
  go_wp2_with fail
  refine Z.out.mono ?_
  rintro r w1 ⟨rfl, hw⟩
  subst hw
  go_wp2_with fail
  refine C1.out.mono ?_
  rintro r w3 ⟨rfl, f13⟩
  have SC3 := Lib.hid (SC.out w3 f13)
  replace f13 := Lib.hid f13
  go_wp2_with fail
  refine SC3.out.mono ?_
  rintro r w9 ⟨t, rfl, f9⟩
  have f19 := Lib.hid (f13.out.trans f9 (fun _ _ h => h))
  replace f9 := Lib.hid f9
  go_wp2_with fail
  refine (CN.out w9 f19.out).mono ?_
  rintro e w4 ⟨v4, rfl, o4, b4⟩
  simp only [Nat.zero_add, List.nil_append] at o4
  replace o4 := Lib.hid o4
  replace b4 := Lib.hid b4
  go_wp2_with fail
  refine (newSuffixer_any w4).mono ?_
  rintro e w5 ⟨p5, rfl, s5, f5⟩
  have K := Lib.hid (CD.out p5 w5 s5 (H.tabs f19.out b4.out f5))
  replace f5 := Lib.hid f5
  clear s5
  have MC := fun w => method_cons (.pointer (some ⟨p5, 0, none⟩)) w
  go_wp2_with fail
  refine K.out.mono ?_
  rintro e w6 ⟨sv, ok, rfl, s6, f6⟩
  replace s6 := Lib.hid s6
  replace f6 := Lib.hid f6
  go_wp2_with fail
  go_ret2
  exact can_fin hm.out H.hB f19.out o4.out b4.out f5.out s6.out f6.out

set_option maxRecDepth 100000 in
set_option maxHeartbeats 4000000 in
theorem can_inex_b (b : Nat) (q : MQ) (w : World) (B : Nat) (v : Value) (H : CanH b q w B v) (hu : q.u ≠ 0) (hf : q.fmt = 1) (hb : isBin q = false) (h0 : cmpZ (sv q.u q.e) (sv (-1024) 0) = 1) (h1 : 0 ≤ cmpZ (sv q.u q.e) (sv 1024 0))
    (SC : ∀ wx, Fr (fun _ => False) w wx → Calls Tryz.prog 70 #[ptr b, .int .i32 0] wx fun r w' => ∃ t, r = .returned (.tuple #[.iface 36 (.agg #[ptr t]), .bool false]) ∧ Fr (fun _ => False) wx w') :
    Calls Tryz.prog 41 #[ptr b, v] w (CanEnd w B (canon q)) := by
  have Z : Hid (Calls Tryz.prog 68 #[ptr b] w fun r w' => r = .returned (.bool false) ∧ w = w') := Lib.hid (by have := H.z; rwa [show (q.u == 0) = false from by simp [hu]] at this)
  have c4 : w.cell? ⟨b, 4, none⟩ = some (.string { data := #[66, 105, 110, 97, 114, 121, 83, 73] }) := by have := H.c4; rwa [hf] at this
  have xb := canD_bound hu (H.nz hu) H.qb
  obtain ⟨L1, hL1⟩ : ∃ L, L = Lib.itoa (canD q.u q.e).1 := ⟨_, rfl⟩
  obtain ⟨X, hX⟩ : ∃ X, X = (canD q.u q.e).2 := ⟨_, rfl⟩
  obtain ⟨L2, hL2⟩ : ∃ L, L = dsuf 2 X := ⟨_, rfl⟩
  have CN := H.can hu
  rw [← hX] at xb CN
  rw [← hL1] at CN
  have CD : ∀ p w5, SufAt w5 p → Lib.TabIs Tryz.prog w5 "internal/strconv.uint64pow10" .u64 Lib.pow10Tab → Calls Tryz.prog 281 #[.pointer (some ⟨p, 0, none⟩), .int .i32 10, .int .i32 X, .string { data := #[68, 101, 99, 105, 109, 97, 108, 83, 73] }] w5 (ConsEnd w5 L2) := fun p w5 h1 h2 => by
    rw [hL2]
    exact cons_dec 2 X (Or.inl rfl) p w5 h1 h2
  have hm : canon q = L1 ++ L2 := by
    rw [hL1, hL2, hX]
    unfold canon
    rw [if_neg hu, if_neg (by rw [hb]; simp), hf]
    rfl
  replace CN := Lib.hid CN
  replace CD := Lib.hid CD
  replace hm := Lib.hid hm
  clear hL1 hX hL2 xb
  have C1 := H.cmp (-1024) w (by omega) (by omega) (Fr.refl _ _)
  have C2 := fun w2 f2 => H.cmp 1024 w2 (by omega) (by omega) f2
  rw [h0] at C1
  obtain ⟨c1, hc1⟩ : ∃ c, c = cmpZ (sv q.u q.e) (sv 1024 0) := ⟨_, rfl⟩
  rw [← hc1] at h1
  simp only [← hc1] at C2
  clear hc1 h0
  replace C1 := Lib.hid C1
  replace C2 := Lib.hid C2
  replace SC := Lib.hid SC
  unfold ptr at *
  go_enter Tryz.func41, Tryz.ntmps41
  go_wp2_with fail
  refine Z.out.mono ?_
  rintro r w1 ⟨rfl, hw⟩
  subst hw
  go_wp2_with fail
  refine C1.out.mono ?_
  rintro r w2 ⟨rfl, f2⟩
  have C3 := Lib.hid (C2.out w2 f2)
  replace f2 := Lib.hid f2
  go_wp2_with fail
  refine C3.out.mono ?_
  rintro r w3 ⟨rfl, f3⟩
  have f13 := f2.out.trans f3 (fun _ _ h => h)
  have SC3 := Lib.hid (SC.out w3 f13)
  replace f13 := Lib.hid f13
  replace f3 := Lib.hid f3
  go_wp2_with fail
  refine SC3.out.mono ?_
  rintro r w9 ⟨t, rfl, f9⟩
  have f19 := Lib.hid (f13.out.trans f9 (fun _ _ h => h))
  replace f9 := Lib.hid f9
  go_wp2_with fail
  refine (CN.out w9 f19.out).mono ?_
  rintro e w4 ⟨v4, rfl, o4, b4⟩
  simp only [Nat.zero_add, List.nil_append] at o4
  replace o4 := Lib.hid o4
  replace b4 := Lib.hid b4
  go_wp2_with fail
  refine (newSuffixer_any w4).mono ?_
  rintro e w5 ⟨p5, rfl, s5, f5⟩
  have K := Lib.hid (CD.out p5 w5 s5 (H.tabs f19.out b4.out f5))
  replace f5 := Lib.hid f5
  clear s5
  have MC := fun w => method_cons (.pointer (some ⟨p5, 0, none⟩)) w
  go_wp2_with fail
  refine K.out.mono ?_
  rintro e w6 ⟨sv, ok, rfl, s6, f6⟩
  replace s6 := Lib.hid s6
  replace f6 := Lib.hid f6
  go_wp2_with fail
  go_ret2
  exact can_fin hm.out H.hB f19.out o4.out b4.out f5.out s6.out f6.out

end Go.Proofs.YtcpjclakdpjjfaaGreatDoor

namespace Go.Proofs.YtcpjclakdpjjfaaGreatDoor
open Go.RowKit

set_option maxRecDepth 100000 in
set_option maxHeartbeats 4000000 in
theorem can_exact_nb_a (b : Nat) (q : MQ) (w : World) (B : Nat) (v : Value) (H : CanH b q w B v) (hu : q.u ≠ 0) (hf : q.fmt = 1) (h1 : cmpZ (sv q.u q.e) (sv (-1024) 0) ≤ 0) (N : Int) (hN : canon q = Lib.itoa (signed N (strip 1024 N.natAbs).1) ++ bsuf (strip 1024 N.natAbs).2) (hK : (strip 1024 N.natAbs).2 ≤ 100)
    (SC : ∀ wx, Fr (fun _ => False) w wx → Calls Tryz.prog 70 #[ptr b, .int .i32 0] wx fun r w' => (r = .returned (.tuple #[.iface 33 (.agg #[.int .i64 q.u, .int .i32 0]), .bool true]) ∧ Fr (fun _ => False) wx w' ∧ (Fr (fun _ => False) w w' → Calls Tryz.prog 268 #[.agg #[.int .i64 q.u, .int .i32 0], v] w' (RowEnd w' B 0 [] (Lib.itoa (signed N (strip 1024 N.natAbs).1)) ((strip 1024 N.natAbs).2 : Int))))) :
    Calls Tryz.prog 41 #[ptr b, v] w (CanEnd w B (canon q)) := by
  have Z : Hid (Calls Tryz.prog 68 #[ptr b] w fun r w' => r = .returned (.bool false) ∧ w = w') := Lib.hid (by have := H.z; rwa [show (q.u == 0) = false from by simp [hu]] at this)
  have c4 : w.cell? ⟨b, 4, none⟩ = some (.string { data := #[66, 105, 110, 97, 114, 121, 83, 73] }) := by have := H.c4; rwa [hf] at this
  obtain ⟨L1, hL1⟩ : ∃ L, L = Lib.itoa (signed N (strip 1024 N.natAbs).1) := ⟨_, rfl⟩
  obtain ⟨K, hK0⟩ : ∃ K, K = (strip 1024 N.natAbs).2 := ⟨_, rfl⟩
  obtain ⟨L2, hL2⟩ : ∃ L, L = bsuf K := ⟨_, rfl⟩
  rw [← hL1, ← hK0, ← hL2] at hN
  rw [← hK0] at hK
  rw [← hL1, ← hK0] at SC
  have CB : ∀ p w5, SufAt w5 p → Calls Tryz.prog 281 #[.pointer (some ⟨p, 0, none⟩), .int .i32 2, .int .i32 ((K : Int) * 10), .string { data := #[66, 105, 110, 97, 114, 121, 83, 73] }] w5 (ConsEnd w5 L2) := fun p w5 h1 => by
    rw [hL2, Int.mul_comm]
    exact cons_bin p K w5 h1
  replace CB := Lib.hid CB
  have hm := Lib.hid hN
  clear hN hL1 hL2 hK0
  have hKi : (K : Int) ≤ 100 := by omega
  have C1 := H.cmp (-1024) w (by omega) (by omega) (Fr.refl _ _)
  obtain ⟨c1, hc1⟩ : ∃ c, c = cmpZ (sv q.u q.e) (sv (-1024) 0) := ⟨_, rfl⟩
  rw [← hc1] at C1 h1
  clear hc1
  replace C1 := Lib.hid C1
  replace SC := Lib.hid SC
  unfold ptr at *
  go_enter Tryz.func41, Tryz.ntmps41
  go_wp2_with fail
  refine Z.out.mono ?_
  rintro r w1 ⟨rfl, hw⟩
  subst hw
  go_wp2_with fail
  refine C1.out.mono ?_
  rintro r w3 ⟨rfl, f13⟩
  have SC3 := Lib.hid (SC.out w3 f13)
  replace f13 := Lib.hid f13
  go_wp2_with fail
  refine SC3.out.mono ?_
  rintro r w9 ⟨rfl, f9, R9⟩
  have f19 := f13.out.trans f9 (fun _ _ h => h)
  replace R9 := Lib.hid (R9 f19)
  replace f19 := Lib.hid f19
  replace f9 := Lib.hid f9
  try unfold ptr at R9
  have MK := fun w => method_kib33 (.int .i64 q.u) (.int .i32 0) w
  go_wp2_with fail
  refine R9.out.mono ?_
  rintro e w4 ⟨v4, rfl, o4, b4⟩
  simp only [Nat.zero_add, List.nil_append] at o4
  replace o4 := Lib.hid o4
  replace b4 := Lib.hid b4
  go_wp2_with fail
  refine (newSuffixer_any w4).mono ?_
  rintro e w5 ⟨p5, rfl, s5, f5⟩
  have KK := Lib.hid (CB.out p5 w5 s5)
  replace f5 := Lib.hid f5
  clear s5
  have MC := fun w => method_cons (.pointer (some ⟨p5, 0, none⟩)) w
  go_wp2_with fail
  refine KK.out.mono ?_
  rintro e w6 ⟨sv, ok, rfl, s6, f6⟩
  replace s6 := Lib.hid s6
  replace f6 := Lib.hid f6
  go_wp2_with fail
  go_ret2
  exact can_fin hm.out H.hB f19.out o4.out b4.out f5.out s6.out f6.out

set_option maxRecDepth 100000 in
set_option maxHeartbeats 4000000 in
theorem can_exact_nb_b (b : Nat) (q : MQ) (w : World) (B : Nat) (v : Value) (H : CanH b q w B v) (hu : q.u ≠ 0) (hf : q.fmt = 1) (h0 : cmpZ (sv q.u q.e) (sv (-1024) 0) = 1) (h1 : 0 ≤ cmpZ (sv q.u q.e) (sv 1024 0)) (N : Int) (hN : canon q = Lib.itoa (signed N (strip 1024 N.natAbs).1) ++ bsuf (strip 1024 N.natAbs).2) (hK : (strip 1024 N.natAbs).2 ≤ 100)
    (SC : ∀ wx, Fr (fun _ => False) w wx → Calls Tryz.prog 70 #[ptr b, .int .i32 0] wx fun r w' => (r = .returned (.tuple #[.iface 33 (.agg #[.int .i64 q.u, .int .i32 0]), .bool true]) ∧ Fr (fun _ => False) wx w' ∧ (Fr (fun _ => False) w w' → Calls Tryz.prog 268 #[.agg #[.int .i64 q.u, .int .i32 0], v] w' (RowEnd w' B 0 [] (Lib.itoa (signed N (strip 1024 N.natAbs).1)) ((strip 1024 N.natAbs).2 : Int))))) :
    Calls Tryz.prog 41 #[ptr b, v] w (CanEnd w B (canon q)) := by
  have Z : Hid (Calls Tryz.prog 68 #[ptr b] w fun r w' => r = .returned (.bool false) ∧ w = w') := Lib.hid (by have := H.z; rwa [show (q.u == 0) = false from by simp [hu]] at this)
  have c4 : w.cell? ⟨b, 4, none⟩ = some (.string { data := #[66, 105, 110, 97, 114, 121, 83, 73] }) := by have := H.c4; rwa [hf] at this
  obtain ⟨L1, hL1⟩ : ∃ L, L = Lib.itoa (signed N (strip 1024 N.natAbs).1) := ⟨_, rfl⟩
  obtain ⟨K, hK0⟩ : ∃ K, K = (strip 1024 N.natAbs).2 := ⟨_, rfl⟩
  obtain ⟨L2, hL2⟩ : ∃ L, L = bsuf K := ⟨_, rfl⟩
  rw [← hL1, ← hK0, ← hL2] at hN
  rw [← hK0] at hK
  rw [← hL1, ← hK0] at SC
  have CB : ∀ p w5, SufAt w5 p → Calls Tryz.prog 281 #[.pointer (some ⟨p, 0, none⟩), .int .i32 2, .int .i32 ((K : Int) * 10), .string { data := #[66, 105, 110, 97, 114, 121, 83, 73] }] w5 (ConsEnd w5 L2) := fun p w5 h1 => by
    rw [hL2, Int.mul_comm]
    exact cons_bin p K w5 h1
  replace CB := Lib.hid CB
  have hm := Lib.hid hN
  clear hN hL1 hL2 hK0
  have hKi : (K : Int) ≤ 100 := by omega
  have C1 := H.cmp (-1024) w (by omega) (by omega) (Fr.refl _ _)
  have C2 := fun w2 f2 => H.cmp 1024 w2 (by omega) (by omega) f2
  rw [h0] at C1
  obtain ⟨c1, hc1⟩ : ∃ c, c = cmpZ (sv q.u q.e) (sv 1024 0) := ⟨_, rfl⟩
  rw [← hc1] at h1
  simp only [← hc1] at C2
  clear hc1 h0
  replace C1 := Lib.hid C1
  replace C2 := Lib.hid C2
  replace SC := Lib.hid SC
  unfold ptr at *
  go_enter Tryz.func41, Tryz.ntmps41
  go_wp2_with fail
  refine Z.out.mono ?_
  rintro r w1 ⟨rfl, hw⟩
  subst hw
  go_wp2_with fail
  refine C1.out.mono ?_
  rintro r w2 ⟨rfl, f2⟩
  have C3 := Lib.hid (C2.out w2 f2)
  replace f2 := Lib.hid f2
  go_wp2_with fail
  refine C3.out.mono ?_
  rintro r w3 ⟨rfl, f3⟩
  have f13 := f2.out.trans f3 (fun _ _ h => h)
  have SC3 := Lib.hid (SC.out w3 f13)
  replace f13 := Lib.hid f13
  replace f3 := Lib.hid f3
  go_wp2_with fail
  refine SC3.out.mono ?_
  rintro r w9 ⟨rfl, f9, R9⟩
  have f19 := f13.out.trans f9 (fun _ _ h => h)
  replace R9 := Lib.hid (R9 f19)
  replace f19 := Lib.hid f19
  replace f9 := Lib.hid f9
  try unfold ptr at R9
  have MK := fun w => method_kib33 (.int .i64 q.u) (.int .i32 0) w
  go_wp2_with fail
  refine R9.out.mono ?_
  rintro e w4 ⟨v4, rfl, o4, b4⟩
  simp only [Nat.zero_add, List.nil_append] at o4
  replace o4 := Lib.hid o4
  replace b4 := Lib.hid b4
  go_wp2_with fail
  refine (newSuffixer_any w4).mono ?_
  rintro e w5 ⟨p5, rfl, s5, f5⟩
  have KK := Lib.hid (CB.out p5 w5 s5)
  replace f5 := Lib.hid f5
  clear s5
  have MC := fun w => method_cons (.pointer (some ⟨p5, 0, none⟩)) w
  go_wp2_with fail
  refine KK.out.mono ?_
  rintro e w6 ⟨sv, ok, rfl, s6, f6⟩
  replace s6 := Lib.hid s6
  replace f6 := Lib.hid f6
  go_wp2_with fail
  go_ret2
  exact can_fin hm.out H.hB f19.out o4.out b4.out f5.out s6.out f6.out

end Go.Proofs.YtcpjclakdpjjfaaGreatDoor

namespace Go.Proofs.YtcpjclakdpjjfaaGreatDoor
open Go.RowKit

set_option maxRecDepth 100000 in
set_option maxHeartbeats 4000000 in
theorem can_exact_big_a (b : Nat) (q : MQ) (w : World) (B : Nat) (v : Value) (H : CanH b q w B v) (hu : q.u ≠ 0) (hf : q.fmt = 1) (h1 : cmpZ (sv q.u q.e) (sv (-1024) 0) ≤ 0) (N : Int) (hN : canon q = Lib.itoa (signed N (strip 1024 N.natAbs).1) ++ bsuf (strip 1024 N.natAbs).2) (hK : (strip 1024 N.natAbs).2 ≤ 100)
    (SC : ∀ wx, Fr (fun _ => False) w wx → Calls Tryz.prog 70 #[ptr b, .int .i32 0] wx fun r w' => ∃ t, (r = .returned (.tuple #[.iface 36 (.agg #[ptr t]), .bool true]) ∧ Fr (fun _ => False) wx w' ∧ (Fr (fun _ => False) w w' → Calls Tryz.prog 271 #[.agg #[ptr t], v] w' (RowEnd w' B 0 [] (Lib.itoa (signed N (strip 1024 N.natAbs).1)) ((strip 1024 N.natAbs).2 : Int))))) :
    Calls Tryz.prog 41 #[ptr b, v] w (CanEnd w B (canon q)) := by
  have Z : Hid (Calls Tryz.prog 68 #[ptr b] w fun r w' => r = .returned (.bool false) ∧ w = w') := Lib.hid (by have := H.z; rwa [show (q.u == 0) = false from by simp [hu]] at this)
  have c4 : w.cell? ⟨b, 4, none⟩ = some (.string { data := #[66, 105, 110, 97, 114, 121, 83, 73] }) := by have := H.c4; rwa [hf] at this
  obtain ⟨L1, hL1⟩ : ∃ L, L = Lib.itoa (signed N (strip 1024 N.natAbs).1) := ⟨_, rfl⟩
  obtain ⟨K, hK0⟩ : ∃ K, K = (strip 1024 N.natAbs).2 := ⟨_, rfl⟩
  obtain ⟨L2, hL2⟩ : ∃ L, L = bsuf K := ⟨_, rfl⟩
  rw [← hL1, ← hK0, ← hL2] at hN
  rw [← hK0] at hK
  rw [← hL1, ← hK0] at SC
  have CB : ∀ p w5, SufAt w5 p → Calls Tryz.prog 281 #[.pointer (some ⟨p, 0, none⟩), .int .i32 2, .int .i32 ((K : Int) * 10), .string { data := #[66, 105, 110, 97, 114, 121, 83, 73] }] w5 (ConsEnd w5 L2) := fun p w5 h1 => by
    rw [hL2, Int.mul_comm]
    exact cons_bin p K w5 h1
  replace CB := Lib.hid CB
  have hm := Lib.hid hN
  clear hN hL1 hL2 hK0
  have hKi : (K : Int) ≤ 100 := by omega
  have C1 := H.cmp (-1024) w (by omega) (by omega) (Fr.refl _ _)
  obtain ⟨c1, hc1⟩ : ∃ c, c = cmpZ (sv q.u q.e) (sv (-1024) 0) := ⟨_, rfl⟩
  rw [← hc1] at C1 h1
  clear hc1
  replace C1 := Lib.hid C1
  replace SC := Lib.hid SC
  unfold ptr at *
  go_enter Tryz.func41, Tryz.ntmps41
  go_wp2_with fail
  refine Z.out.mono ?_
  rintro r w1 ⟨rfl, hw⟩
  subst hw
  go_wp2_with fail
  refine C1.out.mono ?_
  rintro r w3 ⟨rfl, f13⟩
  have SC3 := Lib.hid (SC.out w3 f13)
  replace f13 := Lib.hid f13
  go_wp2_with fail
  refine SC3.out.mono ?_
  rintro r w9 ⟨t, rfl, f9, R9⟩
  have f19 := f13.out.trans f9 (fun _ _ h => h)
  replace R9 := Lib.hid (R9 f19)
  replace f19 := Lib.hid f19
  replace f9 := Lib.hid f9
  try unfold ptr at R9
  have MK := fun w => method_kib36 (.pointer (some ⟨t, 0, none⟩)) w
  go_wp2_with fail
  refine R9.out.mono ?_
  rintro e w4 ⟨v4, rfl, o4, b4⟩
  simp only [Nat.zero_add, List.nil_append] at o4
  replace o4 := Lib.hid o4
  replace b4 := Lib.hid b4
  go_wp2_with fail
  refine (newSuffixer_any w4).mono ?_
  rintro e w5 ⟨p5, rfl, s5, f5⟩
  have KK := Lib.hid (CB.out p5 w5 s5)
  replace f5 := Lib.hid f5
  clear s5
  have MC := fun w => method_cons (.pointer (some ⟨p5, 0, none⟩)) w
  go_wp2_with fail
  refine KK.out.mono ?_
  rintro e w6 ⟨sv, ok, rfl, s6, f6⟩
  replace s6 := Lib.hid s6
  replace f6 := Lib.hid f6
  go_wp2_with fail
  go_ret2
  exact can_fin hm.out H.hB f19.out o4.out b4.out f5.out s6.out f6.out

set_option maxRecDepth 100000 in
set_option maxHeartbeats 4000000 in
theorem can_exact_big_b (b : Nat) (q : MQ) (w : World) (B : Nat) (v : Value) (H : CanH b q w B v) (hu : q.u ≠ 0) (hf : q.fmt = 1) (h0 : cmpZ (sv q.u q.e) (sv (-1024) 0) = 1) (h1 : 0 ≤ cmpZ (sv q.u q.e) (sv 1024 0)) (N : Int) (hN : canon q = Lib.itoa (signed N (strip 1024 N.natAbs).1) ++ bsuf (strip 1024 N.natAbs).2) (hK : (strip 1024 N.natAbs).2 ≤ 100)
    (SC : ∀ wx, Fr (fun _ => False) w wx → Calls Tryz.prog 70 #[ptr b, .int .i32 0] wx fun r w' => ∃ t, (r = .returned (.tuple #[.iface 36 (.agg #[ptr t]), .bool true]) ∧ Fr (fun _ => False) wx w' ∧ (Fr (fun _ => False) w w' → Calls Tryz.prog 271 #[.agg #[ptr t], v] w' (RowEnd w' B 0 [] (Lib.itoa (signed N (strip 1024 N.natAbs).1)) ((strip 1024 N.natAbs).2 : Int))))) :
    Calls Tryz.prog 41 #[ptr b, v] w (CanEnd w B (canon q)) := by
  have Z : Hid (Calls Tryz.prog 68 #[ptr b] w fun r w' => r = .returned (.bool false) ∧ w = w') := Lib.hid (by have := H.z; rwa [show (q.u == 0) = false from by simp [hu]] at this)
  have c4 : w.cell? ⟨b, 4, none⟩ = some (.string { data := #[66, 105, 110, 97, 114, 121, 83, 73] }) := by have := H.c4; rwa [hf] at this
  obtain ⟨L1, hL1⟩ : ∃ L, L = Lib.itoa (signed N (strip 1024 N.natAbs).1) := ⟨_, rfl⟩
  obtain ⟨K, hK0⟩ : ∃ K, K = (strip 1024 N.natAbs).2 := ⟨_, rfl⟩
  obtain ⟨L2, hL2⟩ : ∃ L, L = bsuf K := ⟨_, rfl⟩
  rw [← hL1, ← hK0, ← hL2] at hN
  rw [← hK0] at hK
  rw [← hL1, ← hK0] at SC
  have CB : ∀ p w5, SufAt w5 p → Calls Tryz.prog 281 #[.pointer (some ⟨p, 0, none⟩), .int .i32 2, .int .i32 ((K : Int) * 10), .string { data := #[66, 105, 110, 97, 114, 121, 83, 73] }] w5 (ConsEnd w5 L2) := fun p w5 h1 => by
    rw [hL2, Int.mul_comm]
    exact cons_bin p K w5 h1
  replace CB := Lib.hid CB
  have hm := Lib.hid hN
  clear hN hL1 hL2 hK0
  have hKi : (K : Int) ≤ 100 := by omega
  have C1 := H.cmp (-1024) w (by omega) (by omega) (Fr.refl _ _)
  have C2 := fun w2 f2 => H.cmp 1024 w2 (by omega) (by omega) f2
  rw [h0] at C1
  obtain ⟨c1, hc1⟩ : ∃ c, c = cmpZ (sv q.u q.e) (sv 1024 0) := ⟨_, rfl⟩
  rw [← hc1] at h1
  simp only [← hc1] at C2
  clear hc1 h0
  replace C1 := Lib.hid C1
  replace C2 := Lib.hid C2
  replace SC := Lib.hid SC
  unfold ptr at *
  go_enter Tryz.func41, Tryz.ntmps41
  go_wp2_with fail
  refine Z.out.mono ?_
  rintro r w1 ⟨rfl, hw⟩
  subst hw
  go_wp2_with fail
  refine C1.out.mono ?_
  rintro r w2 ⟨rfl, f2⟩
  have C3 := Lib.hid (C2.out w2 f2)
  replace f2 := Lib.hid f2
  go_wp2_with fail
  refine C3.out.mono ?_
  rintro r w3 ⟨rfl, f3⟩
  have f13 := f2.out.trans f3 (fun _ _ h => h)
  have SC3 := Lib.hid (SC.out w3 f13)
  replace f13 := Lib.hid f13
  replace f3 := Lib.hid f3
  go_wp2_with fail
  refine SC3.out.mono ?_
  rintro r w9 ⟨t, rfl, f9, R9⟩
  have f19 := f13.out.trans f9 (fun _ _ h => h)
  replace R9 := Lib.hid (R9 f19)
  replace f19 := Lib.hid f19
  replace f9 := Lib.hid f9
  try unfold ptr at R9
  have MK := fun w => method_kib36 (.pointer (some ⟨t, 0, none⟩)) w
  go_wp2_with fail
  refine R9.out.mono ?_
  rintro e w4 ⟨v4, rfl, o4, b4⟩
  simp only [Nat.zero_add, List.nil_append] at o4
  replace o4 := Lib.hid o4
  replace b4 := Lib.hid b4
  go_wp2_with fail
  refine (newSuffixer_any w4).mono ?_
  rintro e w5 ⟨p5, rfl, s5, f5⟩
  have KK := Lib.hid (CB.out p5 w5 s5)
  replace f5 := Lib.hid f5
  clear s5
  have MC := fun w => method_cons (.pointer (some ⟨p5, 0, none⟩)) w
  go_wp2_with fail
  refine KK.out.mono ?_
  rintro e w6 ⟨sv, ok, rfl, s6, f6⟩
  replace s6 := Lib.hid s6
  replace f6 := Lib.hid f6
  go_wp2_with fail
  go_ret2
  exact can_fin hm.out H.hB f19.out o4.out b4.out f5.out s6.out f6.out

end Go.Proofs.YtcpjclakdpjjfaaGreatDoor

namespace Go.Proofs.YtcpjclakdpjjfaaGreatDoor
open Go.RowKit Go.Joins

set_option maxRecDepth 100000 in
set_option maxHeartbeats 2000000 in
theorem can_zero (b : Nat) (q : MQ) (w : World) (B : Nat) (v : Value) (H : CanH b q w B v) (hu : q.u = 0) : Calls Tryz.prog 41 #[ptr b, v] w (CanEnd w B (canon q)) := by
  have Z : Hid (Calls Tryz.prog 68 #[ptr b] w fun r w' => r = .returned (.bool true) ∧ w = w') := Lib.hid (by have := H.z; rwa [show (q.u == 0) = true from by simp [hu]] at this)
  have CV := run_convert_bytes_const_at (P := Tryz.prog) w 96 5 #[.int .u8 48] 1 1 w.heap.size rfl Tryz.underlying96 Tryz.underlying5
  have hm : canon q = [48] := by unfold canon; rw [if_pos hu]
  rw [hm]
  unfold ptr
  go_enter Tryz.func41, Tryz.ntmps41
  go_wp2_with fail
  refine Z.out.mono ?_
  rintro r w1 ⟨rfl, hw⟩
  subst hw
  go_wp2_with fail
  go_ret2
  have hc : BSl (w.alloc (.cells #[.int .u8 48] 5 (1, 2))) (.slice (some ⟨w.heap.size, 0, none⟩) 1 1) [48] := ⟨w.heap.size, 1, #[.int .u8 48], rfl, ⟨_, heap_alloc_new _ _⟩, fun i hi => by
    have : i = 0 := by simpa using hi
    subst this; rfl⟩
  exact ⟨[48], [], _, _, rfl, rfl, below_of_fr (Fr.alloc (fun _ => False) w _) (fun _ h => h.elim) H.hB, Or.inr hc, Or.inl ⟨rfl, rfl⟩, Or.inl ⟨rfl, w.heap.size, 1, rfl, Nat.le_refl _⟩⟩

theorem canon_bin {q : MQ} (hu : q.u ≠ 0) (hf : q.fmt = 1) (h1 : 10 ^ 200 * 1024 ≤ q.v.natAbs) (h2 : q.v % 10 ^ 200 = 0) (N : Int) (hN : q.v / 10 ^ 200 = N) : canon q = Lib.itoa (signed N (strip 1024 N.natAbs).1) ++ bsuf (strip 1024 N.natAbs).2 ∧ N ≠ 0 := by
  constructor
  · unfold canon
    rw [if_neg hu, if_pos (by unfold isBin; exact decide_eq_true ⟨hf, h1, h2⟩), hN]
  · intro h0
    rw [h0] at hN
    have : q.v = q.v / 10 ^ 200 * 10 ^ 200 := (Int.ediv_mul_cancel (Int.dvd_of_emod_eq_zero h2)).symm
    rw [hN, Int.zero_mul] at this
    rw [this] at h1
    have hp : (0 : Nat) < 10 ^ 200 := Nat.pow_pos (by omega)
    generalize 10 ^ 200 = P at h1 hp
    simp at h1
    omega

theorem isBin_no {q : MQ} (h : ¬ (q.fmt = 1 ∧ 10 ^ 200 * 1024 ≤ q.v.natAbs ∧ q.v % 10 ^ 200 = 0)) : isBin q = false := by unfold isBin; exact decide_eq_false h

theorem cmpZ_le {x y : Int} (h : cmpZ x y ≠ 1) : cmpZ x y ≤ 0 := by
  unfold cmpZ at *
  by_cases a : x < y
  · rw [if_pos a]; decide
  · rw [if_neg a] at *
    by_cases b : x = y
    · rw [if_pos b]; decide
    · rw [if_neg b] at h; exact absurd rfl h
theorem cmpZ_ge {x y : Int} (h : cmpZ x y ≠ -1) : 0 ≤ cmpZ x y := by
  unfold cmpZ at *
  by_cases a : x < y
  · rw [if_pos a] at h; exact absurd rfl h
  · rw [if_neg a]
    by_cases b : x = y
    · rw [if_pos b]; decide
    · rw [if_neg b]; decide

theorem wholeQ_top {u : Int} {b : Nat} (h : u.natAbs < TOP) (hx : u.natAbs % 10 ^ b = 0) : (wholeQ u b).natAbs < TOP := by
  unfold wholeQ
  rw [if_pos hx, Nat.add_zero]
  have : (sgn (decide (u < 0)) (u.natAbs / 10 ^ b)).natAbs = u.natAbs / 10 ^ b := by
    generalize u.natAbs / 10 ^ b = n
    unfold sgn; split <;> simp
  rw [this]
  exact Nat.lt_of_le_of_lt (Nat.div_le_self _ _) h

theorem can_any (b : Nat) (q : MQ) (d o : Option Nat) (w : World) (hq : QR w q o d) (h : w.heap[b]? = some (.cells (qrep q d) 39 (0, 0))) (hF : PQF q) (hQ : QB q) (hg : Gk w) (hsz : 17 ≤ w.heap.size) (B : Nat) (v : Value) (hown : w.ownsRow B 5 1 v 0 []) (hB : B ≤ w.heap.size)
    (htab : Lib.TabBelow Tryz.prog B w "internal/strconv.uint64pow10" .u64 Lib.pow10Tab) : Calls Tryz.prog 41 #[ptr b, v] w (CanEnd w B (canon q)) := by
  have H := CanH.made b q d o w hq h hF hQ hg hsz B v hown hB htab
  by_cases hu : q.u = 0
  · exact can_zero b q w B v H hu
  have hlt : b < w.heap.size := (Array.getElem?_eq_some_iff.1 h).1
  rcases (show q.fmt = 2 ∨ q.fmt = 0 ∨ q.fmt = 1 by have := hF.f2; omega) with hf | hf | hf
  · exact can_dec2 b q w B v H hu hf (isBin_no (by rw [hf]; simp))
  · exact can_dec0 b q w B v H hu hf (isBin_no (by rw [hf]; simp))
  have hlo := hF.lo hu
  have hc := cmp_1024 (sv q.u q.e)
  by_cases hs : cmpZ (sv q.u q.e) (sv (-1024) 0) = 1 ∧ cmpZ (sv q.u q.e) (sv 1024 0) = -1
  · exact can_small b q w B v H hu hf (isBin_no (fun h => hc.1 hs h.2.1)) hs.1 hs.2
  have hbig : 10 ^ 200 * 1024 ≤ (sv q.u q.e).natAbs := Classical.byContradiction fun hn => hs (hc.2 hn)
  have way : cmpZ (sv q.u q.e) (sv (-1024) 0) ≤ 0 ∨ (cmpZ (sv q.u q.e) (sv (-1024) 0) = 1 ∧ 0 ≤ cmpZ (sv q.u q.e) (sv 1024 0)) := by
    by_cases h0 : cmpZ (sv q.u q.e) (sv (-1024) 0) = 1
    · exact Or.inr ⟨h0, cmpZ_ge (fun h1 => hs ⟨h0, h1⟩)⟩
    · exact Or.inl (cmpZ_le h0)
  clear hs hc
  have e02 : -9 ≤ q.e ∧ q.e ≤ 0 := by
    cases hb : q.big with
    | false => have := hF.nbin hb hf; omega
    | true => have := hF.bbin hb hf hu; omega
  obtain ⟨w1, w2⟩ := sv_whole q.u q.e e02.1 e02.2
  have TBx : ∀ w', Fr (fun _ => False) w w' → Lib.TabBelow Tryz.prog B w' "internal/strconv.uint64pow10" .u64 Lib.pow10Tab := fun w' fw w'' hb => htab w'' ((below_of_fr fw (fun _ h => h.elim) hB).trans hb)
  cases d with
  | none =>
    obtain ⟨hb, _, _, v1, v2⟩ := hq
    have he := hF.nbin hb hf
    have e0 : (-q.e).toNat = 0 := by omega
    rw [e0] at w1 w2
    have hx : q.u.natAbs % 10 ^ 0 = 0 := Nat.mod_one _
    have hN : q.v / 10 ^ 200 = q.u := by
      have := w2 hx
      rw [show q.v = sv q.u q.e from rfl, this]
      unfold wholeQ sgn
      rw [if_pos hx, Nat.add_zero, Nat.pow_zero, Nat.div_one]
      by_cases hn : q.u < 0 <;> simp [hn] <;> omega
    obtain ⟨hcan, _⟩ := canon_bin hu hf hbig (w1.2 hx) q.u hN
    have hK := strip_lt (show 0 < q.u.natAbs by omega) hQ.u
    have SC : ∀ wx, Fr (fun _ => False) w wx → Calls Tryz.prog 70 #[ptr b, .int .i32 0] wx fun r w' => (r = .returned (.tuple #[.iface 33 (.agg #[.int .i64 q.u, .int .i32 0]), .bool true]) ∧ Fr (fun _ => False) wx w' ∧ (Fr (fun _ => False) w w' → Calls Tryz.prog 268 #[.agg #[.int .i64 q.u, .int .i32 0], v] w' (RowEnd w' B 0 [] (Lib.itoa (signed q.u (strip 1024 q.u.natAbs).1)) ((strip 1024 q.u.natAbs).2 : Int)))) := fun wx fx => by
      refine (asScale_nb b q o wx ⟨hb, by omega, by omega, v1, v2⟩ he ((fx.block b hlt (fun f => f)).trans h)).mono ?_
      rintro r w' ⟨hr, hf'⟩
      exact ⟨hr, hf', fun fw => amt1024_any q.u w' hu v1 v2 B 0 v [] (ownsRow_fr hown fw) (Nat.le_trans hB fw.size) (by omega) (TBx w' fw)⟩
    rcases way with h1 | ⟨h0, h1⟩
    · exact can_exact_nb_a b q w B v H hu hf h1 q.u hcan hK SC
    · exact can_exact_nb_b b q w B v H hu hf h0 h1 q.u hcan hK SC
  | some p =>
    have AS : ∀ wx, Fr (fun _ => False) w wx → Calls Tryz.prog 70 #[ptr b, .int .i32 0] wx (AsScaleEnd wx q.u (-q.e).toNat) := fun wx fx =>
      asScale_big b p q o wx (hq.frame fx (fun _ _ h => h) (fun _ _ _ h => h)) e02.1 e02.2 hQ.u ((fx.block b hlt (fun f => f)).trans h) (hg.frame fx (fun _ h => h.elim)) (Nat.le_trans hsz fx.size)
    by_cases hx : q.u.natAbs % 10 ^ (-q.e).toNat = 0
    · obtain ⟨hcan, hN0⟩ := canon_bin hu hf hbig (w1.2 hx) _ (w2 hx)
      have hNT := wholeQ_top hQ.u hx
      have hK := strip_lt (show 0 < (wholeQ q.u (-q.e).toNat).natAbs by omega) hNT
      have SC : ∀ wx, Fr (fun _ => False) w wx → Calls Tryz.prog 70 #[ptr b, .int .i32 0] wx fun r w' => ∃ t, (r = .returned (.tuple #[.iface 36 (.agg #[ptr t]), .bool true]) ∧ Fr (fun _ => False) wx w' ∧ (Fr (fun _ => False) w w' → Calls Tryz.prog 271 #[.agg #[ptr t], v] w' (RowEnd w' B 0 [] (Lib.itoa (signed (wholeQ q.u (-q.e).toNat) (strip 1024 (wholeQ q.u (-q.e).toNat).natAbs).1)) ((strip 1024 (wholeQ q.u (-q.e).toNat).natAbs).2 : Int)))) := fun wx fx => by
        refine (AS wx fx).mono ?_
        rintro r w' ⟨t, ot, hr, hD, hf', _, _⟩
        rw [decide_eq_true hx] at hr
        exact ⟨t, hr, hf', fun fw => dec1024_any t _ ot w' hD hN0 hNT (hg.frame fw (fun _ h => h.elim)) B 0 v [] (ownsRow_fr hown fw) (Nat.le_trans hB fw.size) (by omega)⟩
      rcases way with h1 | ⟨h0, h1⟩
      · exact can_exact_big_a b q w B v H hu hf h1 _ hcan hK SC
      · exact can_exact_big_b b q w B v H hu hf h0 h1 _ hcan hK SC
    · have hb : isBin q = false := isBin_no (fun h => hx (w1.1 h.2.2))
      have SC : ∀ wx, Fr (fun _ => False) w wx → Calls Tryz.prog 70 #[ptr b, .int .i32 0] wx fun r w' => ∃ t, r = .returned (.tuple #[.iface 36 (.agg #[ptr t]), .bool false]) ∧ Fr (fun _ => False) wx w' := fun wx fx => by
        refine (AS wx fx).mono ?_
        rintro r w' ⟨t, ot, hr, hD, hf', _, _⟩
        rw [decide_eq_false hx] at hr
        exact ⟨t, hr, hf'⟩
      rcases way with h1 | ⟨h0, h1⟩
      · exact can_inex_a b q w B v H hu hf hb h1 SC
      · exact can_inex_b b q w B v H hu hf hb h0 h1 SC
end Go.Proofs.YtcpjclakdpjjfaaGreatDoor

namespace Go.Proofs.YtcpjclakdpjjfaaGreatDoor
open Go.RowKit Go.Joins

theorem tx_app (a b : List UInt8) : tx a ++ tx b = tx (a ++ b) := by
  apply ByteArray.ext
  simp [tx]

theorem strip_le (b n : Nat) (hb : 2 ≤ b) : (strip b n).1 ≤ n := by
  rcases Nat.eq_zero_or_pos n with h | h
  · subst h
    unfold strip
    rw [dif_neg (by omega)]
    exact Nat.le_refl _
  · obtain ⟨e, _, _⟩ := strip_spec b n hb h
    conv => rhs; rw [e]
    exact Nat.le_mul_of_pos_right _ (Nat.pow_pos (by omega))

theorem canon_len {q : MQ} (hF : PQF q) (hQ : QB q) : (canon q).length ≤ 600 := by
  unfold canon
  by_cases hu : q.u = 0
  · rw [if_pos hu]; decide
  rw [if_neg hu]
  split
  · show (Lib.itoa (signed (q.v / 10 ^ 200) (strip 1024 (q.v / 10 ^ 200).natAbs).1) ++ bsuf (strip 1024 (q.v / 10 ^ 200).natAbs).2).length ≤ 600
    rw [List.length_append]
    have h1 : (q.v / 10 ^ 200).natAbs ≤ q.v.natAbs := Int.natAbs_ediv_le_natAbs _ _
    have h2 := qb_v hQ
    have h3 : (signed (q.v / 10 ^ 200) (strip 1024 (q.v / 10 ^ 200).natAbs).1).natAbs < 10 ^ 500 := by
      rw [natAbs_signed]
      exact Nat.lt_of_le_of_lt (Nat.le_trans (strip_le _ _ (by decide)) h1) h2
    have := itoa_len h3 (by omega)
    have := bsuf_len (strip 1024 (q.v / 10 ^ 200).natAbs).2
    omega
  · show (Lib.itoa (canD q.u q.e).1 ++ dsuf _ (canD q.u q.e).2).length ≤ 600
    rw [List.length_append]
    have hlo := hF.lo hu
    have hx := canD_bound hu hlo hQ
    obtain ⟨c1, c2, c3, c4⟩ := canD_spec q.u q.e hu (by omega)
    have hv : (canD q.u q.e).1.natAbs < 10 ^ 500 := by
      have e := congrArg Int.natAbs c2
      have h2 := qb_v hQ
      unfold MQ.v at h2
      rw [← e, sv_abs] at h2
      exact Nat.lt_of_le_of_lt (Nat.le_mul_of_pos_right _ (Nat.pow_pos (by decide))) h2
    have := itoa_len hv (by omega)
    have := dsuf_len (if q.fmt = 0 then 0 else 2) (canD q.u q.e).2 (by omega)
    omega

set_option maxRecDepth 100000 in
set_option maxHeartbeats 2000000 in
theorem canonical_any (b : Nat) (q : MQ) (d o : Option Nat) (w : World) (hq : QR w q o d) (h : w.heap[b]? = some (.cells (qrep q d) 39 (0, 0))) (hF : PQF q) (hQ : QB q) (hg : Gk w) (hsz : 17 ≤ w.heap.size)
    (htab : Lib.TabIs Tryz.prog w "internal/strconv.uint64pow10" .u64 Lib.pow10Tab) : Calls Tryz.prog 12 #[ptr b] w fun e w' => e = .returned (.string (tx (canon q))) ∧ Fr (fun _ => False) w w' := by
  have C := Lib.hid (can_any b q d o w hq h hF hQ hg hsz w.heap.size (.slice none 0 0) (World.ownsRow_nil w _ 5 1) (Nat.le_refl _) (Lib.tabBelow_of_tabIs htab))
  have hlen := canon_len hF hQ
  obtain ⟨m, hm⟩ : ∃ m, m = canon q := ⟨_, rfl⟩
  rw [← hm] at C hlen ⊢
  clear hq h hF hQ hg hsz htab hm
  unfold ptr at *
  go_enter Tryz.func12, Tryz.ntmps12
  go_wp2_with fail
  refine C.out.mono ?_
  rintro e w1 ⟨l1, l2, v, sv, rfl, hm, hb, s1, s2, _⟩
  have A1 := sfx_string w1 v l1 s1
  have A2 := sfx_string w1 sv l2 s2
  clear s1 s2
  have hsz : (tx l1).size + (tx l2).size ≤ 600 := by
    rw [tx_size, tx_size, ← List.length_append, ← hm]; exact hlen
  clear hlen
  replace hm := Lib.hid hm
  replace hb := Lib.hid hb
  go_wp2_with fail
  go_ret
  exact ⟨by rw [hm.out, tx_app]; rfl, Fr.of_below hb.out⟩
end Go.Proofs.YtcpjclakdpjjfaaGreatDoor


/- The package's rests by a polynomial: FixedCoeffs, getLPCResiduals. -/
import Derived.Test.YtmcllndnjdemaaaGreatDoorEr
import Derived.Test.YtmcllndnjdemaaaGreatDoorMmk
namespace Go.Proofs.YtmcllndnjdemaaaGreatDoor.Walk
set_option linter.unusedVariables false
set_option linter.unusedSimpArgs false
open Go Go.RowKit Go.Proofs.YtmcllndnjdemaaaGreatDoorW.PrintWords Go.Proofs.YtmcllndnjdemaaaGreatDoorW.PrintLast Go.Proofs.YtmcllndnjdemaaaGreatDoorW.PrintMore Go.Proofs.YtmcllndnjdemaaaGreatDoor.Num
variable {ty fn g B : Nat} {S : List Nat} {St : World → List Int → Prop}
theorem infoI32 : (Tryz.prog.info? 21).map (fun i => (i.zero, i.size, i.bytes)) = some (some (.int .i32 0), 1, 4) := by kernel_rfl
def cf : Nat → List Int
 | 1 => [1]
 | 2 => [2, -1]
 | 3 => [3, -3, 1]
 | 4 => [4, -6, 4, -1]
 | _ => []
theorem SubMem.below {w w' : World} {gs ga gr gp K o : Nat} {xs : List Int} (h : SubMem w gs ga gr gp K o xs) (b : Below w.heap.size w w') : SubMem w' gs ga gr gp K o xs := by
 obtain ⟨cfv, ca, cp, cs1, cs2, h1, h2, h3, h4, h5, h6, h7⟩ := h
 have q : ∀ {i o}, w.heap[i]? = some o → w'.heap[i]? = some o := fun {i o} hi => (b.block i (Array.getElem?_eq_some_iff.1 hi).1).trans hi
 exact ⟨cfv, ca, cp, cs1, cs2, q h1, q h2, h3, h4, q h5, q h6, h7⟩
theorem Row32.below {w w' : World} {ge : Nat} {rs : List Int} (h : Row32 w ge rs) (b : Below w.heap.size w w') : Row32 w' ge rs := by
 obtain ⟨cs, h1, h2⟩ := h
 exact ⟨cs, (b.block _ (Array.getElem?_eq_some_iff.1 h1).1).trans h1, h2⟩
theorem SubMem.row {w : World} {gs ga gr gp K o : Nat} {xs : List Int} (h : SubMem w gs ga gr gp K o xs) : Row32 w ga xs := by
 obtain ⟨cfv, ca, cp, cs1, cs2, h1, h2, h3, _⟩ := h
 exact ⟨cs1, h2, h3⟩
theorem SubMem.cells {w : World} {gs ga gr gp K o : Nat} {xs : List Int} (h : SubMem w gs ga gr gp K o xs) :
  w.cell? ⟨gs, 0, none⟩ = some (.int .u8 K) ∧ w.cell? ⟨gs, 1, none⟩ = some (.int .i64 o) ∧ w.cell? ⟨gs, 2, none⟩ = some (.int .u64 0) ∧ (∃ ca, w.cell? ⟨gs, 8, none⟩ = some (.slice (some ⟨ga, 0, none⟩) xs.length ca) ∧ xs.length ≤ ca) ∧ w.cell? ⟨gs, 9, none⟩ = some (.int .i64 xs.length) := by
 obtain ⟨cfv, ca, cp, cs1, cs2, h1, h2, h3, h4, _⟩ := h
 refine ⟨?_, ?_, ?_, ⟨ca, ?_, h4⟩, ?_⟩ <;> (rw [cell_of_row w gs _ _ _ _ h1]; rfl)
set_option maxHeartbeats 2000000 in
set_option maxRecDepth 100000 in
theorem fixed_cf (o : Nat) (ho : o ≤ 4) (w : World) : Calls Tryz.prog 109 #[.int .i64 o] w fun e w' => Below w.heap.size w w' ∧
  ∃ A, e = .returned (.slice A o o) ∧ (o = 0 → A = none) ∧ (0 < o → ∃ gc, A = some ⟨gc, 0, none⟩ ∧ Row32 w' gc (cf o)) := by
 have x0 : ∀ (a b c d e : Value) (W : World), (Instr.index 257 (.agg #[a, b, c, d, e]) (.int .i64 0)).run Tryz.prog W = .ok a W := fun a b c d e W => by kernel_rfl
 have x1 : ∀ (a b c d e : Value) (W : World), (Instr.index 257 (.agg #[a, b, c, d, e]) (.int .i64 1)).run Tryz.prog W = .ok b W := fun a b c d e W => by kernel_rfl
 have x2 : ∀ (a b c d e : Value) (W : World), (Instr.index 257 (.agg #[a, b, c, d, e]) (.int .i64 2)).run Tryz.prog W = .ok c W := fun a b c d e W => by kernel_rfl
 have x3 : ∀ (a b c d e : Value) (W : World), (Instr.index 257 (.agg #[a, b, c, d, e]) (.int .i64 3)).run Tryz.prog W = .ok d W := fun a b c d e W => by kernel_rfl
 have x4 : ∀ (a b c d e : Value) (W : World), (Instr.index 257 (.agg #[a, b, c, d, e]) (.int .i64 4)).run Tryz.prog W = .ok e W := fun a b c d e W => by kernel_rfl
 obtain ⟨W4, hW4⟩ : ∃ W4, ((((w.alloc (Obj.cells #[Value.int IntKind.i32 1] 21)).alloc (Obj.cells #[Value.int IntKind.i32 2, Value.int IntKind.i32 (-1)] 21)).alloc
  (Obj.cells #[Value.int IntKind.i32 3, Value.int IntKind.i32 (-3), Value.int IntKind.i32 1] 21)).alloc
  (Obj.cells #[Value.int IntKind.i32 4, Value.int IntKind.i32 (-6), Value.int IntKind.i32 4, Value.int IntKind.i32 (-1)] 21)) = W4 := ⟨_, rfl⟩
 have hb4 : Below w.heap.size w W4 := by rw [← hW4]; exact below_alloc (below_alloc (below_alloc (below_alloc (Below.refl _ _) _) _) _) _
 have s1 : ∀ o : Obj, (w.alloc o).heap.size = w.heap.size + 1 := fun o => by rw [World.size_alloc]
 have k1 : W4.heap[w.heap.size]? = some (.cells #[.int .i32 1] 21 (0, 0)) := by
  rw [← hW4, Below.heap_alloc _ _ _ (by simp only [World.size_alloc]; omega), Below.heap_alloc _ _ _ (by simp only [World.size_alloc]; omega), Below.heap_alloc _ _ _ (by simp only [World.size_alloc]; omega)]; exact heap_alloc_new _ _
 have k2 : W4.heap[w.heap.size + 1]? = some (.cells #[.int .i32 2, .int .i32 (-1)] 21 (0, 0)) := by
  rw [← hW4, Below.heap_alloc _ _ _ (by simp only [World.size_alloc]; omega), Below.heap_alloc _ _ _ (by simp only [World.size_alloc]; omega)]
  have h := heap_alloc_new (w.alloc (Obj.cells #[Value.int IntKind.i32 1] 21)) (.cells #[.int .i32 2, .int .i32 (-1)] 21)
  simp only [World.size_alloc] at h; exact h
 have k3 : W4.heap[w.heap.size + 1 + 1]? = some (.cells #[.int .i32 3, .int .i32 (-3), .int .i32 1] 21 (0, 0)) := by
  rw [← hW4, Below.heap_alloc _ _ _ (by simp only [World.size_alloc]; omega)]
  have h := heap_alloc_new ((w.alloc (Obj.cells #[Value.int IntKind.i32 1] 21)).alloc (.cells #[.int .i32 2, .int .i32 (-1)] 21)) (.cells #[.int .i32 3, .int .i32 (-3), .int .i32 1] 21)
  simp only [World.size_alloc] at h; exact h
 have k4 : W4.heap[w.heap.size + 1 + 1 + 1]? = some (.cells #[.int .i32 4, .int .i32 (-6), .int .i32 4, .int .i32 (-1)] 21 (0, 0)) := by
  rw [← hW4]
  have h := heap_alloc_new (((w.alloc (Obj.cells #[Value.int IntKind.i32 1] 21)).alloc (.cells #[.int .i32 2, .int .i32 (-1)] 21)).alloc (.cells #[.int .i32 3, .int .i32 (-3), .int .i32 1] 21)) (.cells #[.int .i32 4, .int .i32 (-6), .int .i32 4, .int .i32 (-1)] 21)
  simp only [World.size_alloc] at h; exact h
 have F := Lib.hid (And.intro hb4 (And.intro k1 (And.intro k2 (And.intro k3 k4))))
 clear hb4 k1 k2 k3 k4 s1
 have hos : o = 0 ∨ o = 1 ∨ o = 2 ∨ o = 3 ∨ o = 4 := by omega
 clear ho
 rcases hos with rfl | rfl | rfl | rfl | rfl
 ·go_enter Tryz.func109, Tryz.ntmps109
  go_wp2_with fail
  go_ret
  exact ⟨F.out.1, none, rfl, fun _ => rfl, fun h => absurd h (by decide)⟩
 ·go_enter Tryz.func109, Tryz.ntmps109
  go_wp2_with fail
  go_ret
  refine ⟨F.out.1, _, rfl, fun h => absurd h (by decide), fun _ => ⟨_, rfl, _, F.out.2.1, fun i hi => ?_⟩⟩
  rcases i with _ | i
  ·rfl
  ·exact absurd hi (by simp [cf])
 ·go_enter Tryz.func109, Tryz.ntmps109
  go_wp2_with fail
  go_ret
  refine ⟨F.out.1, _, rfl, fun h => absurd h (by decide), fun _ => ⟨_, rfl, _, F.out.2.2.1, fun i hi => ?_⟩⟩
  rcases i with _ | _ | i
  ·rfl
  ·rfl
  ·exact absurd hi (by simp [cf])
 ·go_enter Tryz.func109, Tryz.ntmps109
  go_wp2_with fail
  go_ret
  refine ⟨F.out.1, _, rfl, fun h => absurd h (by decide), fun _ => ⟨_, rfl, _, F.out.2.2.2.1, fun i hi => ?_⟩⟩
  rcases i with _ | _ | _ | i
  ·rfl
  ·rfl
  ·rfl
  ·exact absurd hi (by simp [cf])
 ·go_enter Tryz.func109, Tryz.ntmps109
  go_wp2_with fail
  go_ret
  refine ⟨F.out.1, _, rfl, fun h => absurd h (by decide), fun _ => ⟨_, rfl, _, F.out.2.2.2.2, fun i hi => ?_⟩⟩
  rcases i with _ | _ | _ | _ | i
  ·rfl
  ·rfl
  ·rfl
  ·rfl
  ·exact absurd hi (by simp [cf])
def psum (o : Nat) (xs : List Int) (i : Nat) : Nat → Int
 | 0 => 0
 | j + 1 => psum o xs i j + (cf o).getD j 0 * xs.getD (i - j - 1) 0
theorem psum_all (o : Nat) (ho : o ≤ 4) (xs : List Int) (i : Nat) : psum o xs i o = pred o xs i := by
 have hos : o = 0 ∨ o = 1 ∨ o = 2 ∨ o = 3 ∨ o = 4 := by omega
 rcases hos with rfl | rfl | rfl | rfl | rfl
 ·rfl
 ·simp [psum, cf, pred]
 ·simp [psum, cf, pred, Nat.sub_sub]; omega
 ·simp [psum, cf, pred, Nat.sub_sub]; omega
 ·simp [psum, cf, pred, Nat.sub_sub]; omega
theorem cf_bound (o j : Nat) : -6 ≤ (cf o).getD j 0 ∧ (cf o).getD j 0 ≤ 6 := by
 have key : ∀ l : List Int, (∀ x ∈ l, -6 ≤ x ∧ x ≤ 6) → -6 ≤ l.getD j 0 ∧ l.getD j 0 ≤ 6 := by
  intro l h
  rw [List.getD_eq_getElem?_getD]
  rcases hj : l[j]? with _ | x
  ·exact ⟨by decide, by decide⟩
  ·exact h x (List.mem_of_getElem? hj)
 refine key _ ?_
 unfold cf; split <;> simp
theorem cf_len (o : Nat) (h : o ≤ 4) : (cf o).length = o := by
 have hos : o = 0 ∨ o = 1 ∨ o = 2 ∨ o = 3 ∨ o = 4 := by omega
 rcases hos with rfl | rfl | rfl | rfl | rfl <;> rfl
theorem mul_bound (a b : Int) (ha : -6 ≤ a ∧ a ≤ 6) (hb : -16777216 ≤ b ∧ b ≤ 16777216) : -100663296 ≤ a * b ∧ a * b ≤ 100663296 := by
 have h : a = -6 ∨ a = -5 ∨ a = -4 ∨ a = -3 ∨ a = -2 ∨ a = -1 ∨ a = 0 ∨ a = 1 ∨ a = 2 ∨ a = 3 ∨ a = 4 ∨ a = 5 ∨ a = 6 := by omega
 rcases h with rfl | rfl | rfl | rfl | rfl | rfl | rfl | rfl | rfl | rfl | rfl | rfl | rfl <;> omega
theorem psum_bound (o : Nat) (xs : List Int) (i : Nat) (h : ∀ m, -16777216 ≤ xs.getD m 0 ∧ xs.getD m 0 ≤ 16777216) : ∀ j, -(100663296 * j) ≤ psum o xs i j ∧ psum o xs i j ≤ 100663296 * j
 | 0 => ⟨by simp [psum], by simp [psum]⟩
 | j + 1 => by
  have h1 := psum_bound o xs i h j
  have h2 := mul_bound _ _ (cf_bound o j) (h (i - j - 1))
  rw [psum]; omega
set_option maxHeartbeats 8000000 in
set_option maxRecDepth 100000 in
theorem lpc_zero {gs ga gr gp K : Nat} {xs : List Int} {w : World} (hm : SubMem w gs ga gr gp K 0 xs) (hx : xs.length ≤ 65536) (hol : 0 < xs.length) (hb : ∀ m, -16777216 ≤ xs.getD m 0 ∧ xs.getD m 0 ≤ 16777216) :
  Calls Tryz.prog 108 #[.pointer (some ⟨gs, 0, none⟩), .slice none 0 0, .int .i32 0] w fun e w' => Below w.heap.size w w' ∧ ∃ ge cr, e = .returned (.tuple #[.slice (some ⟨ge, 0, none⟩) (rests 0 xs).length cr, .nilIface]) ∧ w.heap.size ≤ ge ∧ Row32 w' ge (rests 0 xs) := by
 have HM := Lib.hid (And.intro hm hm.row)
 have HBD := Lib.hid hb
 obtain ⟨n, hn⟩ : ∃ n, xs.length = n := ⟨_, rfl⟩
 have HNX := Lib.hid hn
 have hrl := rests_len 0 xs
 have HRL := Lib.hid hrl
 obtain ⟨_, c1, _, ⟨ca, c8, hca⟩, c9⟩ := hm.cells
 rw [hn] at c8 c9 hca hx hol
 clear hm hb hrl hn
 go_enter Tryz.func108, Tryz.ntmps108
 go_wp2_with fail
 go_quiet (fail)
 obtain ⟨w1, hw1⟩ : ∃ w1, w.drewN nq = w1 := ⟨_, rfl⟩
 have hb1 : Below w.heap.size w w1 := by rw [← hw1]; exact below_drewN (Below.refl _ _) nq
 have HB1 := Lib.hid hb1
 have hm1 := HM.out.1.below hb1
 obtain ⟨_, c1', _, _, _⟩ := hm1.cells
 rw [hw1]
 clear hw1 hm1 hb1 c1 c8 c9 hca
 go_wp2_with fail
 clear c1'
 go_loopw [8, 9] (fun rv iv wr => ∃ k : Nat, 0 + k ≤ n ∧ iv = .int .i64 (0 + k : Nat) ∧ Below w.heap.size w wr ∧ wr.ownsRow w.heap.size 21 1 rv k (nums .i32 ((rests 0 xs).take k))) (fun _ iv _ => n - (intOf iv).toNat)
 case atStart => exact ⟨0, by omega, by simp, HB1.out, World.ownsRow_nil _ _ _ _⟩
 case round =>
  obtain ⟨k, hk, rfl, hbe, hown⟩ := hrel
  have hm2 := HM.out.1.below hbe
  obtain ⟨_, c1, _, ⟨ca, c8, hca⟩, c9⟩ := hm2.cells
  rw [HNX.out] at c8 c9 hca
  have HR2 := Lib.hid hm2.row
  have X := Lib.hid (And.intro hbe hown)
  clear hbe hown hm2
  obtain ⟨i, hi⟩ : ∃ i, 0 + k = i := ⟨_, rfl⟩
  have HI := Lib.hid hi
  rw [hi] at hk ⊢
  clear hi
  by_cases hlt : i < n
  ·have hb2 := HBD.out
   have hpb := psum_bound 0 xs i hb2 0
   have hpa := psum_all 0 (by have := HI.out; omega) xs i
   have ci := HR2.out.cell i (by rw [HNX.out]; exact hlt)
   obtain ⟨xi, hxi⟩ : ∃ xi, xs.getD i 0 = xi := ⟨_, rfl⟩
   have hxb := hb2 i
   rw [hxi] at ci hxb
   obtain ⟨pi, hpi⟩ : ∃ pi, pred 0 xs i = pi := ⟨_, rfl⟩
   rw [hpi] at hpa
   have hpb2 : -402653184 ≤ pi ∧ pi ≤ 402653184 := by rw [hpa] at hpb; omega
   have HPA := Lib.hid (And.intro hpa (And.intro hpi hxi))
   clear hb2 hpb hpa hpi hxi
   go_wp2_with fail
   refine wp_loop_rounds 1 ?_
   rw [rounds_succ]
   have HT : Hid ((rests 0 xs).take (k + 1) = (rests 0 xs).take k ++ [xi]) := by
    refine Lib.hid ?_
    have hkr : k < (rests 0 xs).length := by rw [HRL.out, HNX.out]; have := HI.out; omega
    rw [List.take_succ_eq_append_getElem hkr]
    congr 2
    have h1 := rests_get 0 xs k (by rw [HNX.out]; have := HI.out; omega)
    rw [List.getD_eq_getElem?_getD, List.getElem?_eq_getElem hkr] at h1
    have h2 : (rests 0 xs)[k] = xs.getD (0 + k) 0 - pred 0 xs (0 + k) := h1
    rw [h2, HI.out, HPA.out.2.1, HPA.out.2.2]
    have h5 : pi = 0 := by rw [← HPA.out.2.1]; rfl
    omega
   have e1 : ((rests 0 xs).take k).length = k := by rw [List.length_take, HRL.out, HNX.out]; have := HI.out; omega
   go_wp2_with (with_reducible refine stop_dst (N := 90) rfl ?_)
   refine unstop ?_
   refine print_append_num (w0 := w) w.heap.size rfl (.tmp 87) (.tmp 89) 57 21 .i32 4 rfl Tryz.underlying57 infoI32 (by decide) u8 ((rests 0 xs).take k) (xi) rfl rfl ?aO ?aB ?aS ?aL ?_
   case aO => rw [e1]; exact X.out.2
   case aB => exact X.out.1
   case aS => exact X.out.1.size
   case aL => rw [e1]; have := HI.out; omega
   intro v1 w8 hO8 hB8 _ _
   have e2 : ((rests 0 xs).take k ++ [xi]).length = k + 1 := by rw [List.length_append, e1, List.length_singleton]
   rw [e2, ← HT.out] at hO8
   have Z := Lib.hid (And.intro hB8 hO8)
   clear hO8 hB8 e1 e2
   go_wp2_with fail
   go_roundw
   case rel => exact ⟨k + 1, by have := HI.out; omega, by have := HI.out; rw [show 0 + (k + 1) = i + 1 by omega]; go_num, Z.out⟩
   case measure => simp [intOf]; omega
  ·obtain rfl : i = n := by omega
   have hkk : k = (rests 0 xs).length := by rw [HRL.out, HNX.out]; have := HI.out; omega
   have hown := X.out.2
   rw [hkk, List.take_length] at hown
   obtain ⟨ge, cp, cs, hv, hge, hheap, hcs⟩ := own_cells hown (by rw [← hkk]; have := HI.out; omega)
   have Z := Lib.hid (And.intro hv (And.intro hge (And.intro hheap hcs)))
   clear hown hv hge hheap hcs hkk
   go_wp2_with fail
   go_ret2
   refine ⟨X.out.1, ge, cp, by rw [← Z.out.1]; rfl, Z.out.2.1, cs, Z.out.2.2.1, fun j hj => ?_⟩
   rw [Z.out.2.2.2 j hj]
   simp [nums, hj]
set_option maxHeartbeats 8000000 in
set_option maxRecDepth 100000 in
theorem lpc_more {gs ga gr gp K o : Nat} {xs : List Int} {w : World} (hm : SubMem w gs ga gr gp K o xs) {gc : Nat} (ho1 : 0 < o) (ho4 : o ≤ 4) (hc : Row32 w gc (cf o)) (hx : xs.length ≤ 65536) (hol : o < xs.length) (hb : ∀ m, -16777216 ≤ xs.getD m 0 ∧ xs.getD m 0 ≤ 16777216) :
  Calls Tryz.prog 108 #[.pointer (some ⟨gs, 0, none⟩), .slice (some ⟨gc, 0, none⟩) o o, .int .i32 0] w fun e w' => Below w.heap.size w w' ∧ ∃ ge cr, e = .returned (.tuple #[.slice (some ⟨ge, 0, none⟩) (rests o xs).length cr, .nilIface]) ∧ w.heap.size ≤ ge ∧ Row32 w' ge (rests o xs) := by
 have HM := Lib.hid (And.intro hm hm.row)
 have HBD := Lib.hid hb
 obtain ⟨n, hn⟩ : ∃ n, xs.length = n := ⟨_, rfl⟩
 have HNX := Lib.hid hn
 have hrl := rests_len o xs
 have HRL := Lib.hid hrl
 obtain ⟨_, c1, _, ⟨ca, c8, hca⟩, c9⟩ := hm.cells
 rw [hn] at c8 c9 hca hx hol
 clear hm hb hrl hn
 have HC := Lib.hid hc
 clear hc
 go_enter Tryz.func108, Tryz.ntmps108
 go_wp2_with fail
 go_quiet (fail)
 obtain ⟨w1, hw1⟩ : ∃ w1, w.drewN nq = w1 := ⟨_, rfl⟩
 have hb1 : Below w.heap.size w w1 := by rw [← hw1]; exact below_drewN (Below.refl _ _) nq
 have HB1 := Lib.hid hb1
 have hm1 := HM.out.1.below hb1
 obtain ⟨_, c1', _, _, _⟩ := hm1.cells
 rw [hw1]
 clear hw1 hm1 hb1 c1 c8 c9 hca
 go_wp2_with fail
 clear c1'
 go_loopw [8, 9] (fun rv iv wr => ∃ k : Nat, o + k ≤ n ∧ iv = .int .i64 (o + k : Nat) ∧ Below w.heap.size w wr ∧ wr.ownsRow w.heap.size 21 1 rv k (nums .i32 ((rests o xs).take k))) (fun _ iv _ => n - (intOf iv).toNat)
 case atStart => exact ⟨0, by omega, by simp, HB1.out, World.ownsRow_nil _ _ _ _⟩
 case round =>
  obtain ⟨k, hk, rfl, hbe, hown⟩ := hrel
  have hm2 := HM.out.1.below hbe
  obtain ⟨_, c1, _, ⟨ca, c8, hca⟩, c9⟩ := hm2.cells
  rw [HNX.out] at c8 c9 hca
  have HR2 := Lib.hid hm2.row
  have X := Lib.hid (And.intro hbe hown)
  clear hbe hown hm2
  obtain ⟨i, hi⟩ : ∃ i, o + k = i := ⟨_, rfl⟩
  have HI := Lib.hid hi
  rw [hi] at hk ⊢
  clear hi
  by_cases hlt : i < n
  ·have hb2 := HBD.out
   have hpb := psum_bound o xs i hb2 o
   have hpa := psum_all o (by have := HI.out; omega) xs i
   have ci := HR2.out.cell i (by rw [HNX.out]; exact hlt)
   obtain ⟨xi, hxi⟩ : ∃ xi, xs.getD i 0 = xi := ⟨_, rfl⟩
   have hxb := hb2 i
   rw [hxi] at ci hxb
   obtain ⟨pi, hpi⟩ : ∃ pi, pred o xs i = pi := ⟨_, rfl⟩
   rw [hpi] at hpa
   have hpb2 : -402653184 ≤ pi ∧ pi ≤ 402653184 := by rw [hpa] at hpb; omega
   have HPA := Lib.hid (And.intro hpa (And.intro hpi hxi))
   clear hb2 hpb hpa hpi hxi
   go_wp2_with fail
   go_loopw [10, 52] (fun sv jv wr2 => ∃ j : Nat, j ≤ o ∧ jv = .int .i64 j ∧ sv = .int .i64 (psum o xs i j) ∧ wr2 = wr) (fun _ jv _ => o - (intOf jv).toNat)
   case atStart => exact ⟨0, by omega, rfl, rfl, rfl⟩
   case round =>
    obtain ⟨j, hj, rfl, rfl, rfl⟩ := hrel
    by_cases hjo : j < o
    ·have hcj := (HC.out.below X.out.1).cell j (by rw [cf_len o ho4]; exact hjo)
     obtain ⟨m, hm⟩ : ∃ m : Nat, (i : Int) - (j : Int) - 1 = (m : Int) := ⟨i - j - 1, by have := HI.out; omega⟩
     have hmn : i - j - 1 = m := by omega
     have hxm := HR2.out.cell m (by rw [HNX.out]; omega)
     have hmb := mul_bound _ _ (cf_bound o j) (HBD.out m)
     have hps := psum_bound o xs i HBD.out j
     have hpe : psum o xs i (j + 1) = psum o xs i j + (cf o).getD j 0 * xs.getD m 0 := by rw [psum, hmn]
     obtain ⟨cj, hcje⟩ : ∃ cj, (cf o).getD j 0 = cj := ⟨_, rfl⟩
     obtain ⟨xm, hxme⟩ : ∃ xm, xs.getD m 0 = xm := ⟨_, rfl⟩
     have hcb := cf_bound o j
     have hxb3 := HBD.out m
     rw [hcje] at hcj hmb hpe hcb
     rw [hxme] at hxm hmb hpe hxb3
     have hcb1 := hcb.1
     have hcb2 := hcb.2
     have hxb4 := hxb3.1
     have hxb5 := hxb3.2
     obtain ⟨pr, hpr⟩ : ∃ pr, cj * xm = pr := ⟨_, rfl⟩
     obtain ⟨sj, hsj⟩ : ∃ sj, psum o xs i j = sj := ⟨_, rfl⟩
     rw [hpr] at hmb hpe
     rw [hsj] at hps hpe
     have hps2 : -402653184 ≤ sj ∧ sj ≤ 402653184 := by omega
     have HPE := Lib.hid hpe
     have hps3 := hps2.1
     have hps4 := hps2.2
     have hmb1 := hmb.1
     have hmb2 := hmb.2
     clear hcje hxme hpe hmn hps hps2 hmb hcb hxb3
     rw [hsj]
     clear hsj
     go_wp2_with fail
     go_roundw
     case rel => exact ⟨j + 1, by omega, by go_num, by rw [HPE.out], trivial⟩
     case measure => simp [intOf]; omega
    ·obtain rfl : o = j := by omega
     rw [HPA.out.1]
     have HT : Hid ((rests o xs).take (k + 1) = (rests o xs).take k ++ [xi - pi]) := by
      refine Lib.hid ?_
      have hkr : k < (rests o xs).length := by rw [HRL.out, HNX.out]; have := HI.out; omega
      rw [List.take_succ_eq_append_getElem hkr]
      congr 2
      have h1 := rests_get o xs k (by rw [HNX.out]; have := HI.out; omega)
      rw [List.getD_eq_getElem?_getD, List.getElem?_eq_getElem hkr] at h1
      have h2 : (rests o xs)[k] = xs.getD (o + k) 0 - pred o xs (o + k) := h1
      rw [h2, HI.out, HPA.out.2.1, HPA.out.2.2]
     have e1 : ((rests o xs).take k).length = k := by rw [List.length_take, HRL.out, HNX.out]; have := HI.out; omega
     go_wp2_with (with_reducible refine stop_dst (N := 90) rfl ?_)
     refine unstop ?_
     refine print_append_num (w0 := w) w.heap.size rfl (.tmp 87) (.tmp 89) 57 21 .i32 4 rfl Tryz.underlying57 infoI32 (by decide) u8 ((rests o xs).take k) (xi - pi) rfl rfl ?aO ?aB ?aS ?aL ?_
     case aO => rw [e1]; exact X.out.2
     case aB => exact X.out.1
     case aS => exact X.out.1.size
     case aL => rw [e1]; have := HI.out; omega
     intro v1 w8 hO8 hB8 _ _
     have e2 : ((rests o xs).take k ++ [xi - pi]).length = k + 1 := by rw [List.length_append, e1, List.length_singleton]
     rw [e2, ← HT.out] at hO8
     have Z := Lib.hid (And.intro hB8 hO8)
     clear hO8 hB8 e1 e2
     go_wp2_with fail
     go_roundw
     case rel => exact ⟨k + 1, by have := HI.out; omega, by have := HI.out; rw [show o + (k + 1) = i + 1 by omega]; go_num, Z.out⟩
     case measure => simp [intOf]; omega
  ·obtain rfl : i = n := by omega
   have hkk : k = (rests o xs).length := by rw [HRL.out, HNX.out]; have := HI.out; omega
   have hown := X.out.2
   rw [hkk, List.take_length] at hown
   obtain ⟨ge, cp, cs, hv, hge, hheap, hcs⟩ := own_cells hown (by rw [← hkk]; have := HI.out; omega)
   have Z := Lib.hid (And.intro hv (And.intro hge (And.intro hheap hcs)))
   clear hown hv hge hheap hcs hkk
   go_wp2_with fail
   go_ret2
   refine ⟨X.out.1, ge, cp, by rw [← Z.out.1]; rfl, Z.out.2.1, cs, Z.out.2.2.1, fun j hj => ?_⟩
   rw [Z.out.2.2.2 j hj]
   simp [nums, hj]
end Go.Proofs.YtmcllndnjdemaaaGreatDoor.Walk

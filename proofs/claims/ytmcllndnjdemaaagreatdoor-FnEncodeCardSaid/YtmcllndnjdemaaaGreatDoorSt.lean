/- laws.streamOf without ways. -/
import Derived.Test.YtmcllndnjdemaaaGreatDoorWi
import Derived.Test.YtmcllndnjdemaaaGreatDoorWf
import Derived.Test.YtmcllndnjdemaaaGreatDoorSo
namespace Go.Proofs.YtmcllndnjdemaaaGreatDoor.Walk
set_option linter.unusedVariables false
set_option linter.unusedSimpArgs false
open Go Go.RowKit Go.Proofs.YtmcllndnjdemaaaGreatDoorW.PrintWords Go.Proofs.YtmcllndnjdemaaaGreatDoorW.PrintLast Go.Proofs.YtmcllndnjdemaaaGreatDoorW.PrintMore Go.Proofs.YtmcllndnjdemaaaGreatDoor.Num Go.Proofs.YtmcllndnjdemaaaGreatDoor.Crc Go.Proofs.YtmcllndnjdemaaaGreatDoor.PFnEncode
def rtTab : List Nat := [44100, 8000, 12345, 96000, 48000, 655350, 176400]
def bpTab : List Nat := [16, 8, 24, 20, 12]
theorem rtTab_ok (i : Nat) (h : i < 7) : RtOk (rtTab.getD i 0) := by
 have key : ∀ i : Fin 7, RtOk (rtTab.getD i.val 0) := by unfold RtOk; decide
 exact key ⟨i, h⟩
theorem bpTab_ok (i : Nat) (h : i < 5) : BpOk (bpTab.getD i 0) := by
 have key : ∀ i : Fin 5, BpOk (bpTab.getD i.val 0) := by unfold BpOk; decide
 exact key ⟨i, h⟩
theorem rt_elem (i : Nat) (h : i < 7) : ([.int .i64 44100, .int .i64 8000, .int .i64 12345, .int .i64 96000, .int .i64 48000, .int .i64 655350, .int .i64 176400] : List Value)[i]'(by simp; omega) = .int .i64 (rtTab.getD i 0 : Nat) := by
 have key : ∀ i : Fin 7, ([.int .i64 44100, .int .i64 8000, .int .i64 12345, .int .i64 96000, .int .i64 48000, .int .i64 655350, .int .i64 176400] : List Value)[i.val]? = some (.int .i64 (rtTab.getD i.val 0 : Nat)) := fun i => by
  rcases i with ⟨i, hi⟩
  rcases i with _ | _ | _ | _ | _ | _ | _ | i
  all_goals first | rfl | omega
 have h2 := key ⟨i, h⟩
 rw [List.getElem?_eq_getElem (by simp; omega)] at h2
 exact Option.some.inj h2
theorem bp_elem (i : Nat) (h : i < 5) : ([.int .i64 16, .int .i64 8, .int .i64 24, .int .i64 20, .int .i64 12] : List Value)[i]'(by simp; omega) = .int .i64 (bpTab.getD i 0 : Nat) := by
 have key : ∀ i : Fin 5, ([.int .i64 16, .int .i64 8, .int .i64 24, .int .i64 20, .int .i64 12] : List Value)[i.val]? = some (.int .i64 (bpTab.getD i.val 0 : Nat)) := fun i => by
  rcases i with ⟨i, hi⟩
  rcases i with _ | _ | _ | _ | _ | i
  all_goals first | rfl | omega
 have h2 := key ⟨i, h⟩
 rw [List.getElem?_eq_getElem (by simp; omega)] at h2
 exact Option.some.inj h2
theorem al_3 {w : World} {o1 o2 o3 : Obj} {n : Nat} (h : w.heap.size = n) : (((w.alloc o1).alloc o2).alloc o3).drew.heap[n + 1 + 1]? = some o3 := by
 have h1 : ((w.alloc o1).alloc o2).heap.size = n + 1 + 1 := by rw [World.size_alloc, World.size_alloc, h]
 rw [← h1]; exact heap_alloc_new _ _
theorem al_2 {w : World} {o1 o2 o3 : Obj} {n : Nat} (h : w.heap.size = n) : (((w.alloc o1).alloc o2).alloc o3).drew.heap[n + 1]? = some o2 := by
 have h1 : (w.alloc o1).heap.size = n + 1 := by rw [World.size_alloc, h]
 have h2 : ((w.alloc o1).alloc o2).heap.size = n + 1 + 1 := by rw [World.size_alloc, h1]
 have h3 := Below.heap_alloc ((w.alloc o1).alloc o2) o3 (n + 1) (by rw [h2]; omega)
 refine Eq.trans h3 ?_
 rw [← h1]; exact heap_alloc_new _ _
theorem al_1 {w : World} {o1 o2 o3 : Obj} {n : Nat} (h : w.heap.size = n) : (((w.alloc o1).alloc o2).alloc o3).drew.heap[n]? = some o1 := by
 have h1 : (w.alloc o1).heap.size = n + 1 := by rw [World.size_alloc, h]
 have h2 : ((w.alloc o1).alloc o2).heap.size = n + 1 + 1 := by rw [World.size_alloc, h1]
 have h3 := Below.heap_alloc ((w.alloc o1).alloc o2) o3 n (by rw [h2]; omega)
 have h4 := Below.heap_alloc (w.alloc o1) o2 n (by rw [h1]; omega)
 refine Eq.trans h3 (Eq.trans h4 ?_)
 rw [← h]; exact heap_alloc_new _ _
theorem below_touch2 {F : Nat} {wf w1 w2 w3 : World} {U : List Nat} (h : Below F wf w1) (t : Touch [] w1 w2) (t2 : Touch U w2 w3) (hF : F ≤ wf.heap.size) (hU : ∀ k ∈ U, F ≤ k) : Below F wf w3 :=
 ⟨t2.os.trans (t.os.trans h.os), t2.tape.trans (t.tape.trans h.tape), t2.output.trans (t.output.trans h.output), Nat.le_trans h.size (Nat.le_trans t.size t2.size), fun k hk => by
  have h1 : k < w1.heap.size := Nat.lt_of_lt_of_le hk (Nat.le_trans hF h.size)
  rw [t2.block k (Nat.lt_of_lt_of_le h1 t.size) (fun hm => by have := hU k hm; omega), t.block k h1 (by simp), h.block k hk]⟩
theorem chans_snoc {wo w7 w8 : World} {F c : Nat} {cv v8 u : Value} {subs : List Sb} {vs : List Value} {xs : List Int} (hl : subs.length = c) (h1 : w8.ownsRow F 44 1 v8 (c + 1) (vs ++ [u])) (h2 : ∀ j, j < subs.length → ∃ x, vs[j]? = some x ∧ wo.ownsRow F 3 1 x (subs.getD j ⟨0, 0, []⟩).xs.length (nums .i64 (subs.getD j ⟨0, 0, []⟩).xs))
  (tZ : Touch [] wo w7) (hc7 : w7.ownsRow F 44 1 cv c vs) (t8 : Touch cv.ownBlock.toList w7 w8) (hu : w8.ownsRow F 3 1 u xs.length (nums .i64 xs)) : Chans w8 F v8 (subs ++ [⟨0, 0, xs⟩]) := by
 have hv : vs.length = c := by have := hc7.1; omega
 refine ⟨vs ++ [u], by rw [List.length_append, hl]; exact h1, fun j hj => ?_⟩
 by_cases hlt : j < c
 ·obtain ⟨x, k1, k2⟩ := h2 j (by omega)
  have e : (subs ++ [(⟨0, 0, xs⟩ : Sb)]).getD j ⟨0, 0, []⟩ = subs.getD j ⟨0, 0, []⟩ := by rw [List.getD_eq_getElem?_getD, List.getD_eq_getElem?_getD, List.getElem?_append_left (by omega)]
  rw [e]
  have k3 := own_touch k2 tZ (by simp)
  exact ⟨x, by rw [List.getElem?_append_left (by omega)]; exact k1, own_touch k3 t8 (own_far2 k3 hc7 (by decide))⟩
 ·have hj2 : j = c := by rw [List.length_append, hl] at hj; simp at hj; omega
  subst hj2
  have e : (subs ++ [(⟨0, 0, xs⟩ : Sb)]).getD j ⟨0, 0, []⟩ = ⟨0, 0, xs⟩ := by rw [List.getD_eq_getElem?_getD, List.getElem?_append_right (by omega), hl, Nat.sub_self]; rfl
  rw [e]
  exact ⟨u, by rw [List.getElem?_append_right (by omega), hv, Nat.sub_self]; rfl, hu⟩
def HeadsFull (hs : List Value) (fs : List Fr) (asg bp j : Nat) : Prop := ∀ k, k < j → ∃ (rt nm : Nat), hs[k * 6]? = some (.bool (fs.getD k ⟨false, 0, []⟩).vr) ∧ hs[k * 6 + 1]? = some (.int .i64 (fs.getD k ⟨false, 0, []⟩).sz) ∧ hs[k * 6 + 2]? = some (.int .i64 rt) ∧ hs[k * 6 + 3]? = some (.int .i64 asg) ∧ hs[k * 6 + 4]? = some (.int .i64 bp) ∧ hs[k * 6 + 5]? = some (.int .u64 nm)
theorem HeadsFull.snoc {hs : List Value} {fs : List Fr} {f : Fr} {asg bp j rt nm : Nat} (h : HeadsFull hs fs asg bp j) (hl : hs.length = j * 6) (hf : fs.length = j) : HeadsFull (hs ++ [.bool f.vr, .int .i64 f.sz, .int .i64 rt, .int .i64 asg, .int .i64 bp, .int .u64 nm]) (fs ++ [f]) asg bp (j + 1) := fun k hk => by
 by_cases hlt : k < j
 ·obtain ⟨r, m, k0, k1, k2, k3, k4, k5⟩ := h k hlt
  have e : (fs ++ [f]).getD k ⟨false, 0, []⟩ = fs.getD k ⟨false, 0, []⟩ := by rw [List.getD_eq_getElem?_getD, List.getD_eq_getElem?_getD, List.getElem?_append_left (by omega)]
  rw [e]
  refine ⟨r, m, ?_, ?_, ?_, ?_, ?_, ?_⟩ <;> (rw [List.getElem?_append_left (by omega)]; assumption)
 ·obtain rfl : k = j := by omega
  have e : (fs ++ [f]).getD k ⟨false, 0, []⟩ = f := by rw [List.getD_eq_getElem?_getD, List.getElem?_append_right (by omega), hf, Nat.sub_self]; rfl
  rw [e]
  refine ⟨rt, nm, ?_, ?_, ?_, ?_, ?_, ?_⟩
  ·rw [List.getElem?_append_right (by omega), hl, show k * 6 - k * 6 = 0 by omega]; rfl
  ·rw [List.getElem?_append_right (by omega), hl, show k * 6 + 1 - k * 6 = 1 by omega]; rfl
  ·rw [List.getElem?_append_right (by omega), hl, show k * 6 + 2 - k * 6 = 2 by omega]; rfl
  ·rw [List.getElem?_append_right (by omega), hl, show k * 6 + 3 - k * 6 = 3 by omega]; rfl
  ·rw [List.getElem?_append_right (by omega), hl, show k * 6 + 4 - k * 6 = 4 by omega]; rfl
  ·rw [List.getElem?_append_right (by omega), hl, show k * 6 + 5 - k * 6 = 5 by omega]; rfl
theorem AllRows.snoc2 {w : World} {B j : Nat} {vs : List Value} {fs : List Fr} {f : Fr} {u : Value} (h : AllRows w B vs fs j) (hf : fs.length = j) (hv : vs.length = j) (hu : Chans w B u f.subs) : AllRows w B (vs ++ [u]) (fs ++ [f]) (j + 1) := fun k hk => by
 by_cases hlt : k < j
 ·obtain ⟨x, h1, h2⟩ := h k hlt
  refine ⟨x, by rw [List.getElem?_append_left (by omega)]; exact h1, ?_⟩
  rw [show (fs ++ [f]).getD k ⟨false, 0, []⟩ = fs.getD k ⟨false, 0, []⟩ by rw [List.getD_eq_getElem?_getD, List.getD_eq_getElem?_getD, List.getElem?_append_left (by omega)]]
  exact h2
 ·obtain rfl : k = j := by omega
  refine ⟨u, by rw [← hv]; simp, ?_⟩
  rw [show (fs ++ [f]).getD k ⟨false, 0, []⟩ = f by rw [List.getD_eq_getElem?_getD, List.getElem?_append_right (by omega), hf, Nat.sub_self]; rfl]
  exact hu
structure FrRaw (f : Fr) (nch bp : Nat) : Prop where
 s0 : 0 < f.sz
 s1 : f.sz ≤ 256
 n : f.subs.length = nch
 ok : ∀ s ∈ f.subs, s.xs.length = f.sz ∧ ∀ x ∈ s.xs, -(2 ^ (bp - 1) : Nat) ≤ x ∧ x < (2 ^ (bp - 1) : Nat)
theorem mk_bytes (m : Nat) (hm : m ≤ 1000) (W : World) : (Instr.makeSlice 23 (.int .u32 m) (.int .u32 m)).run Tryz.prog W = .ok (.slice (some ⟨W.heap.size, 0, none⟩) m m) (W.alloc (.cells (madeCells #[.int .u8 0] m) 5)) := by
 obtain ⟨ip, hp0, hp1, hp2, hp3⟩ := info_any (t := 5) (z := .int .u8 0) (s := 1) (b := 1) (by kernel_rfl)
 have h := run_makeSlice (P := Tryz.prog) W 23 5 ip (.int .u8 0) Tryz.underlying23 hp0 hp1 .u32 .u32 m m (by omega) (by omega) (by rw [hp2]; omega) (by rw [hp3]; omega) (by omega)
 rw [hp2, Nat.mul_one, Int.toNat_natCast] at h
 exact h
theorem mk_reads (m : Nat) (W : World) (hm : m ≤ 1000) : ReadsInt (W.alloc (.cells (madeCells #[.int .u8 0] m) 5)) .u8 (some ⟨W.heap.size, 0, none⟩) m (List.replicate m 0) := by
 refine ⟨by simp, by omega, fun _ => ⟨_, rfl, fun j hj => ?_⟩⟩
 rw [own_add, cell_of_row _ W.heap.size j _ _ _ (heap_alloc_new _ _)]
 simp [madeCells, List.getD_eq_getElem?_getD, hj, Nat.mod_one]
def nchOf (asg : Nat) : Nat := if 7 < asg then 2 else asg + 1
theorem chan_any (asg : Nat) (h : asg ≤ 10) (w : World) : Calls Tryz.prog 8 #[.int .i64 asg] w fun e w' => e = .returned (.int .i64 (nchOf asg : Nat)) ∧ ∃ n, w' = w.drewN n := by
 have key : ∀ k : Fin 11, spec_Channels.f (k.val : Int) = some ((nchOf k.val : Nat) : Int) := by decide +kernel
 exact (spec_Channels.calls (asg : Int) _ w (key ⟨asg, by omega⟩)).mono fun e w' h => ⟨h.1, h.2.out⟩
theorem nchOf_le (asg : Nat) (h : asg ≤ 10) : 0 < nchOf asg ∧ nchOf asg ≤ 8 := by unfold nchOf; split <;> omega
def StreamIs (N m : Nat) (w w' : World) (e : Ending) : Prop := Below N w w' ∧ ∃ (rt bp asg nch d : Nat) (fs : List Fr) (hs vs : List Value) (hv av ov : Value),
 e = .returned (.tuple #[.agg #[.int .i64 16, .int .i64 4096, .int .i64 0, .int .i64 0, .int .i64 rt, .int .i64 nch, .int .i64 bp, .int .u64 d, .slice none 0 0], hv, av, ov]) ∧ RtOk rt ∧ BpOk bp ∧ asg ≤ 10 ∧ nchOf asg = nch ∧ d ≤ 768 ∧ fs.length = m ∧
 w'.ownsRow N 32 6 hv m hs ∧ HeadsFull hs fs asg bp m ∧ w'.ownsRow N 38 1 av m vs ∧ AllRows w' N vs fs m ∧ (∀ f ∈ fs, FrRaw f nch bp) ∧ ∀ i, i + 1 < m → 16 ≤ (fs.getD i ⟨false, 0, []⟩).sz
theorem step_append_ints {P : Program} {ops : Array Oper} {o : Oper} {a : Act} {K : Act → World → Prop} {Q : Exit → Act → World → Prop} {E : Prop} {W : World} (base : Nat) (hgd : o.guard = none) (s x : Operand) (t e : TypeId) (k : IntKind) (bytes : Nat)
  (ho : o.op = .call { callee := .builtin .append, args := #[s, x], argTypes := #[t, t] })
  (ht : P.underlying t = some (.slice e)) (hinfo : (P.info? e).map (fun i => (i.zero, i.size, i.bytes)) = some (some (.int k 0), 1, bytes)) (hb0 : 0 < bytes)
  (v : Value) (xs ys : List Int) (A : Option Addr) (m c : Nat) (hs : a.eval s = v) (hx : a.eval x = .slice A m c)
  (HO : W.ownsRow base e 1 v xs.length (nums k xs)) (HR : ReadsInt W k A m ys) (hbase : base ≤ W.heap.size) (hl : (xs.length + m) * bytes ≤ 140737488355328)
  (h : ∀ v1 w1, w1.ownsRow base e 1 v1 (xs ++ ys).length (nums k (xs ++ ys)) → W.grownBy w1 v.ownBlock → K (a.put o.dst v1) w1) :
  if Region.wanted o (yielded ops a.tmps) = true then Oper.wp P o a W K Q else E := by
 have hw : Region.wanted o (yielded ops a.tmps) = true := by simp [Region.wanted, hgd]
 rw [if_pos hw]
 obtain ⟨i0, hi, hzz⟩ := Option.map_eq_some_iff.1 hinfo
 simp only [Prod.mk.injEq] at hzz
 obtain ⟨hz0, hz1, hz2⟩ := hzz
 have hm : ys.length = m := HR.1
 have hlen : xs.length + m ≤ 140737488355328 := Nat.le_trans (Nat.le_mul_of_pos_right _ hb0) hl
 have hrun : ∃ v1 w1, (Builtin.append_ #[t, t] o.type #[v, .slice A m c]).run P W = .ok v1 w1 ∧ w1.ownsRow base e 1 v1 (xs ++ ys).length (nums k (xs ++ ys)) ∧ W.grownBy w1 v.ownBlock := by
  rcases A with _ | ad
  ·have h0 : m = 0 := by
    rcases Nat.eq_zero_or_pos m with h0 | h0
    ·exact h0
    ·obtain ⟨ad, h, _⟩ := HR.2.2 h0
     cases h
   subst h0
   obtain rfl : ys = [] := List.eq_nil_of_length_eq_zero hm
   refine ⟨v, W, ?_, by simpa using HO, World.grownBy.refl W _⟩
   rcases HO.2 with ⟨rfl, hn⟩ | ⟨g, cap, cur, rfl, _, _, hnc, _⟩
   ·simp [Builtin.append_, run_underlying ht, sizeOf, typeInfo, hi, Builtin.lenOf, Builtin.firstCells]
   ·simp [Builtin.append_, run_underlying ht, sizeOf, typeInfo, hi, Builtin.lenOf, Builtin.firstCells, hnc, storeCells]
  ·have hcells : ∀ j u, (nums k ys)[j]? = some u → W.cell? (ad.add j) = some u := by
    intro j u hu
    have hj : j < ys.length := by
     rcases Nat.lt_or_ge j ys.length with h | h
     ·exact h
     ·simp [nums, List.getElem?_eq_none h] at hu
    obtain ⟨ad', h', hc⟩ := HR.2.2 (by omega)
    injection h' with h'
    subst h'
    have := hc j (by omega)
    simp [nums, List.getElem?_eq_getElem hj] at hu
    subst hu
    rw [this]
    simp [List.getD_eq_getElem?_getD, List.getElem?_eq_getElem hj]
   obtain ⟨v1, w1, hr, h2, h3, _, _⟩ := run_append_own_at (P := P) W base t o.type e i0 (.int k 0) 1 bytes ht hi hz0 hz1 hz2 rfl (by omega) v xs.length (nums k xs) HO ad m c (nums k ys) (by simp [nums, hm]) hcells
    (by intro u hu; simp only [nums, List.mem_map] at hu; obtain ⟨q, _, rfl⟩ := hu; rfl) (by simp only [maxLen]; omega) hl hbase
   exact ⟨v1, w1, hr, by simpa [nums, hm] using h2, h3⟩
 obtain ⟨v1, w1, hr, hown, hg⟩ := hrun
 unfold Oper.wp execOp
 simp only [ho, resolve, invoke, builtin, Sem.run_bind, Sem.run_pure, Result.andThen_ok, List.map_toArray, List.map_cons, List.map_nil, hs, hx, hr]
 exact h v1 w1 hown hg
set_option maxHeartbeats 16000000 in
set_option maxRecDepth 100000 in
theorem stream_call {flags ns cs nd cd : Nat} {As Ad : Option Addr} {sizes data : List Int} {w : World} (hfl : flags < 4294967296) (hs : ReadsInt w .u8 As ns sizes) (hsc : ns ≤ cs) (hsb : ∀ x ∈ sizes, 0 ≤ x ∧ x ≤ 255) (hd : ReadsInt w .u8 Ad nd data) (hdc : nd ≤ cd) (hdb : ∀ x ∈ data, 0 ≤ x ∧ x ≤ 255) (hnd : nd ≤ 1000) (hns : ns ≤ 2147483647) :
  Calls Tryz.prog 4 #[.int .u32 flags, .slice As ns cs, .slice Ad nd cd, .slice none 0 0] w fun e w' => StreamIs w.heap.size (min ns 3) w w' e := by
 obtain ⟨N, hN⟩ : ∃ N, w.heap.size = N := ⟨_, rfl⟩
 rw [hN]
 have HS := Lib.hid (And.intro hs (And.intro hsb (And.intro hd hdb)))
 clear hs hsb hd hdb
 go_enter Tryz.func4, Tryz.ntmps4
 obtain ⟨i7, hi7⟩ : ∃ i7, flags % 7 = i7 := ⟨_, rfl⟩
 obtain ⟨i5, hi5⟩ : ∃ i5, flags / 8 % 5 = i5 := ⟨_, rfl⟩
 have h7 : i7 < 7 := by omega
 have h5 : i5 < 5 := by omega
 have e7 : (flags : Int) % 7 = (i7 : Int) := by omega
 have e5 : (flags : Int) / 8 % 5 = (i5 : Int) := by omega
 have f7 := rt_elem i7 h7
 have f5 := bp_elem i5 h5
 have r7 := rtTab_ok i7 h7
 have r5 := bpTab_ok i5 h5
 obtain ⟨rt, hrt⟩ : ∃ rt, rtTab.getD i7 0 = rt := ⟨_, rfl⟩
 obtain ⟨bp, hbp⟩ : ∃ bp, bpTab.getD i5 0 = bp := ⟨_, rfl⟩
 rw [hrt] at f7 r7
 rw [hbp] at f5 r5
 have HR := Lib.hid (And.intro r7 r5)
 clear hi7 hi5 r7 r5 hrt hbp
 go_upto_region 1 with fail
 obtain ⟨wa, hwa⟩ : ∃ wa, w.alloc (.cells #[.int .i64 0, .int .i64 0, .int .i64 0, .int .i64 0, .int .i64 0, .int .i64 0, .int .i64 0, .int .u64 0, .slice none 0 0] 26) = wa := ⟨_, rfl⟩
 have hsa : wa.heap.size = N + 1 := by rw [← hwa, World.size_alloc, hN]
 have hba : Below N w wa := by rw [← hwa, ← hN]; exact below_alloc (Below.refl _ _) _
 have hza : wa.heap[N]? = some (.cells #[.int .i64 0, .int .i64 0, .int .i64 0, .int .i64 0, .int .i64 0, .int .i64 0, .int .i64 0, .int .u64 0, .slice none 0 0] 26 (0, 0)) := by rw [← hwa, ← hN]; exact heap_alloc_new _ _
 rw [hwa]
 have X0 := Lib.hid (And.intro hba hza)
 clear hwa hba hza
 go_cut [12] from 34 to 45 (fun y wx => ∃ G, y = .pointer (some ⟨G, 0, none⟩) ∧ wx.heap[G]? = some (.cells #[.int .i64 0, .int .i64 0, .int .i64 0, .int .i64 0, .int .i64 rt, .int .i64 0, .int .i64 bp, .int .u64 0, .slice none 0 0] 26 (0, 0)) ∧ Below wa.heap.size wa wx ∧ N + 1 ≤ G)
 case first =>
  go_region
  all_goals
   go_wp2_with fail
   go_meet
   refine ⟨_, rfl, ?_, ?_, ?_⟩
   ·first | exact al_1 hsa | exact al_2 hsa | exact al_3 hsa
   ·exact (below_alloc (below_alloc (below_alloc (Below.refl _ _) _) _) _).drew
   ·omega
 case rest =>
  obtain ⟨G, rfl, hG, hb, hGN⟩ := hcut
  obtain ⟨asg, hasg⟩ : ∃ asg, flags / 64 % 11 = asg := ⟨_, rfl⟩
  have hasg10 : asg ≤ 10 := by omega
  have easg : (flags : Int) / 64 % 11 = (asg : Int) := by omega
  obtain ⟨q, hq⟩ : ∃ q, flags / 1024 % 240 = q := ⟨_, rfl⟩
  have hq240 : q < 240 := by omega
  have eq1 : (flags : Int) / 1024 % 240 = (q : Int) := by omega
  obtain ⟨vr, hvr⟩ : ∃ vr, (Go.bits .and .u32 ((flags : Int) / 262144) 1 == 1) = vr := ⟨_, rfl⟩
  have hg5 : wc.cell? ⟨G, 5, none⟩ = some (.int .i64 0) := by rw [cell_of_row wc G 5 _ _ _ hG]; rfl
  have hs5 : wc.frozen? ⟨G, 5, none⟩ = false := by simp [World.frozen?, hG]
  have HCH := Lib.hid (fun W => chan_any asg hasg10 W)
  obtain ⟨nch, hnch⟩ : ∃ nch, nchOf asg = nch := ⟨_, rfl⟩
  rw [hnch] at HCH
  have hnb := nchOf_le asg hasg10
  rw [hnch] at hnb
  have hn1 := hnb.1
  have hn8 := hnb.2
  have HN := Lib.hid (And.intro hnch (And.intro hG hb))
  clear hasg hq hnch hnb hG hb f7 f5 e7 e5
  go_wp2_with fail
  refine (HCH.out _).mono ?_
  rintro e w2 ⟨rfl, q2, rfl⟩
  have emin : min (0 : Int) 8 = 0 := by decide
  go_wp2_with fail
  refine wp_loop_rounds 1 ?_
  rw [rounds_succ]
  obtain ⟨n3, hn3⟩ : ∃ n3, min ns 3 = n3 := ⟨_, rfl⟩
  have emin3 : min (ns : Int) 3 = (n3 : Int) := by omega
  have hn3a : n3 ≤ 3 := by omega
  have hn3b : n3 ≤ ns := by omega
  have hn3c : (n3 : Int) ≤ (cs : Int) := by omega
  have HN3 := Lib.hid hn3
  clear hn3
  go_wp2_with fail
  obtain ⟨wb, hwb⟩ : ∃ wb, (wc.drewN q2).setCell ⟨G, 5, none⟩ (.int .i64 nch) = wb := ⟨_, rfl⟩
  obtain ⟨wd, hwd⟩ : ∃ wd, (((wb.alloc (.cells #[] 51)).alloc (.cells #[] 32)).alloc (.cells #[] 38)).alloc (.cells #[] 5) = wd := ⟨_, rfl⟩
  have tb : Touch [G] wc wb := by rw [← hwb]; exact ((Touch.refl [G] wc).drewN q2).setCell (.inl (by simp)) _
  have hgb : wb.heap[G]? = some (.cells #[.int .i64 0, .int .i64 0, .int .i64 0, .int .i64 0, .int .i64 rt, .int .i64 nch, .int .i64 bp, .int .u64 0, .slice none 0 0] 26 (0, 0)) := by rw [← hwb, blk_set (w := wc.drewN q2) HN.out.2.1 5]; rfl
  obtain ⟨Y, hY⟩ : ∃ Y, wc.heap.size = Y := ⟨_, rfl⟩
  have hsb : wb.heap.size = Y := by rw [← hwb, ← hY]; simp
  have s1 : (wb.alloc (.cells #[] 51)).heap.size = Y + 1 := by rw [World.size_alloc, hsb]
  have s2 : ((wb.alloc (.cells #[] 51)).alloc (.cells #[] 32)).heap.size = Y + 2 := by rw [World.size_alloc, s1]
  have s3 : (((wb.alloc (.cells #[] 51)).alloc (.cells #[] 32)).alloc (.cells #[] 38)).heap.size = Y + 3 := by rw [World.size_alloc, s2]
  have bb : Below wb.heap.size wb wd := by rw [← hwd]; exact below_alloc (below_alloc (below_alloc (below_alloc (Below.refl _ _) _) _) _) _
  have hYN : N + 1 ≤ Y := by rw [← hY, ← hsa]; exact HN.out.2.2.size
  have hzc := (HN.out.2.2.block N (by rw [hsa]; omega)).trans X0.out.2
  have hbc : Below N w wc := X0.out.1.trans ⟨HN.out.2.2.os, HN.out.2.2.tape, HN.out.2.2.output, HN.out.2.2.size, fun k hk => HN.out.2.2.block k (by omega)⟩
  have hzd : wd.heap[N]? = some (.cells #[.int .i64 0, .int .i64 0, .int .i64 0, .int .i64 0, .int .i64 0, .int .i64 0, .int .i64 0, .int .u64 0, .slice none 0 0] 26 (0, 0)) := (bb.block N (by rw [hsb]; omega)).trans (tb.heap hzc (by simp; omega))
  have hgd : wd.heap[G]? = some (.cells #[.int .i64 0, .int .i64 0, .int .i64 0, .int .i64 0, .int .i64 rt, .int .i64 nch, .int .i64 bp, .int .u64 0, .slice none 0 0] 26 (0, 0)) := (bb.block G (by rw [hsb, ← hY]; exact (Array.getElem?_eq_some_iff.1 HN.out.2.1).1)).trans hgb
  have hbd : Below N w wd := by
   have h := tb.below (w0 := w) (by rw [hN]; exact hbc) (fun k hk => by
    obtain rfl : k = G := by simpa using hk
    rw [hN]; omega)
   rw [hN] at h
   exact h.trans ⟨bb.os, bb.tape, bb.output, bb.size, fun k hk => bb.block k (by rw [hsb]; omega)⟩
  have hoh : wd.ownsRow N 32 6 (.slice (some ⟨Y + 1, 0, none⟩) 0 0) 0 [] := by
   have h := World.ownsRow_made (base := N) (e := 32) (size := 6) (wb.alloc (.cells #[] 51)) #[] 0 (by rw [s1]; omega) (by decide) rfl
   rw [s1] at h
   rw [← hwd]; exact (h.alloc _).alloc _
  have hoa : wd.ownsRow N 38 1 (.slice (some ⟨Y + 2, 0, none⟩) 0 0) 0 [] := by
   have h := World.ownsRow_made (base := N) (e := 38) (size := 1) ((wb.alloc (.cells #[] 51)).alloc (.cells #[] 32)) #[] 0 (by rw [s2]; omega) (by decide) rfl
   rw [s2] at h
   rw [← hwd]; exact h.alloc _
  have hoo : wd.ownsRow N 5 1 (.slice (some ⟨Y + 3, 0, none⟩) 0 0) 0 (nums .u8 []) := by
   have h := World.ownsRow_made (base := N) (e := 5) (size := 1) (((wb.alloc (.cells #[] 51)).alloc (.cells #[] 32)).alloc (.cells #[] 38)) #[] 0 (by rw [s3]; omega) (by decide) rfl
   rw [s3] at h
   rw [← hwd]; exact h
  rw [hwb, hwd, hY]
  have X1 := Lib.hid (And.intro hzd (And.intro hgd (And.intro hbd (And.intro hoh (And.intro hoa hoo)))))
  clear hwb hwd tb hgb hY hsb s1 s2 s3 bb hYN hzc hbc hzd hgd hbd hoh hoa hoo hg5 hs5 emin
  clear eq1 easg
  go_loopw [19, 20, 21, 22, 88] (fun hv av ov dv iv wx => ∃ (k d : Nat) (fs : List Fr) (hs vs : List Value) (ol : List Int), iv = .int .i64 k ∧ k ≤ n3 ∧ dv = .int .i64 d ∧ d ≤ 256 * k ∧ fs.length = k ∧ wx.ownsRow N 32 6 hv k hs ∧ HeadsFull hs fs asg bp k ∧ wx.ownsRow N 38 1 av k vs ∧ AllRows wx N vs fs k ∧ wx.ownsRow N 5 1 ov ol.length (nums .u8 ol) ∧ ol.length ≤ 10000 * k ∧ (∀ f ∈ fs, FrRaw f nch bp) ∧ (∀ i, i < k → i + 1 < n3 → 16 ≤ (fs.getD i ⟨false, 0, []⟩).sz) ∧ wx.heap[N]? = some (.cells #[.int .i64 0, .int .i64 0, .int .i64 0, .int .i64 0, .int .i64 0, .int .i64 0, .int .i64 0, .int .u64 0, .slice none 0 0] 26 (0, 0)) ∧ wx.heap[G]? = some (.cells #[.int .i64 0, .int .i64 0, .int .i64 0, .int .i64 0, .int .i64 rt, .int .i64 nch, .int .i64 bp, .int .u64 0, .slice none 0 0] 26 (0, 0)) ∧ Below N w wx) (fun _ _ _ _ iv _ => n3 - (intOf iv).toNat)
  case atStart =>
   exact ⟨0, 0, [], [], [], [], rfl, by omega, rfl, by omega, rfl, X1.out.2.2.2.1, fun k hk => absurd hk (by omega), X1.out.2.2.2.2.1, fun k hk => absurd hk (by omega), X1.out.2.2.2.2.2, by simp, by simp, fun k hk => absurd hk (by omega), X1.out.1, X1.out.2.1, X1.out.2.2.1⟩
  case round =>
   obtain ⟨k, d, fs, hs, vs, ol, rfl, hk, rfl, hd, hfl, oh, hf, oa, ra, oo, hol, hraw, h16, hz, hg, hbw⟩ := hrel
   have Y1 := Lib.hid (And.intro oh (And.intro hf (And.intro oa (And.intro ra (And.intro oo hol)))))
   have Y2 := Lib.hid (And.intro hfl (And.intro hraw (And.intro h16 (And.intro hz (And.intro hg hbw)))))
   clear oh hf oa ra oo hol hfl hraw h16 hz hg hbw
   by_cases hlt : k < n3
   ·obtain ⟨ads, rfl, hcell⟩ := (HS.out.1.below (by rw [hN]; exact Y2.out.2.2.2.2.2)).2.2 (by omega)
    obtain ⟨y, hy⟩ : ∃ y, sizes.getD k 0 = y := ⟨_, rfl⟩
    have hyb : 0 ≤ y ∧ y ≤ 255 := by
     rw [← hy, List.getD_eq_getElem?_getD, List.getElem?_eq_getElem (by rw [HS.out.1.1]; omega)]
     exact HS.out.2.1 _ (List.getElem_mem _)
    obtain ⟨yn, hyn⟩ : ∃ yn : Nat, y = (yn : Int) := ⟨y.toNat, by omega⟩
    have hyn2 : yn < 256 := by omega
    have ce := hcell k (by omega)
    rw [hy, hyn] at ce
    clear hcell hy hyb hyn
    have g6 : wr.cell? ⟨G, 6, none⟩ = some (.int .i64 bp) := by rw [cell_of_row wr G 6 _ _ _ Y2.out.2.2.2.2.1]; rfl
    have g4 : wr.cell? ⟨G, 4, none⟩ = some (.int .i64 rt) := by rw [cell_of_row wr G 4 _ _ _ Y2.out.2.2.2.2.1]; rfl
    have g5 : wr.cell? ⟨G, 5, none⟩ = some (.int .i64 nch) := by rw [cell_of_row wr G 5 _ _ _ Y2.out.2.2.2.2.1]; rfl
    go_upto_block 4 with fail
    go_cut [25] from 94 to 109 (fun y wx => ∃ sz : Nat, 0 < sz ∧ sz ≤ 256 ∧ (k + 1 < n3 → 16 ≤ sz) ∧ y = .int .i64 sz ∧ wx = wr)
    case first =>
     by_cases hlast : k + 1 = n3
     ·have d1 : ((k : Int) == (n3 : Int) - 1) = true := by simp; omega
      clear g4 g5 g6
      go_wp2_with fail
      go_meet
      exact ⟨1 + yn, by omega, by omega, by omega, by simp, rfl⟩
     ·have d1 : ((k : Int) == (n3 : Int) - 1) = false := by simp; omega
      clear g4 g5 g6
      cases vr
      ·go_wp2_with fail
       go_meet
       exact ⟨16 + q, by omega, by omega, by omega, by simp, rfl⟩
      ·obtain ⟨r, hr⟩ : ∃ r, yn % 240 = r := ⟨_, rfl⟩
       have er : (yn : Int) % 240 = (r : Int) := by omega
       have hr2 : r < 240 := by omega
       clear hr
       go_wp2_with fail
       go_meet
       exact ⟨16 + r, by omega, by omega, by omega, by simp, rfl⟩
    case rest =>
     obtain ⟨sz, hsz0, hsz, hsz16, rfl, rfl⟩ := hcut
     rename World => wr
     clear ce
     go_upto_if 118 with fail
     obtain ⟨H, hH⟩ : ∃ H, wr.heap.size = H := ⟨_, rfl⟩
     obtain ⟨we, hwe⟩ : ∃ we, wr.alloc (.cells #[.bool vr, .int .i64 sz, .int .i64 0, .int .i64 asg, .int .i64 bp, .int .u64 k] 32) = we := ⟨_, rfl⟩
     have hh : we.heap[H]? = some (.cells #[.bool vr, .int .i64 sz, .int .i64 0, .int .i64 asg, .int .i64 bp, .int .u64 k] 32 (0, 0)) := by rw [← hwe, ← hH]; exact heap_alloc_new _ _
     have be : Below wr.heap.size wr we := by rw [← hwe]; exact below_alloc (Below.refl _ _) _
     have s5 : we.frozen? ⟨H, 5, none⟩ = false := by simp [World.frozen?, hh]
     have c5 : we.cell? ⟨H, 5, none⟩ = some (.int .u64 k) := by rw [cell_of_row we H 5 _ _ _ hh]; rfl
     rw [hwe, hH]
     have X2 := Lib.hid (And.intro hh (And.intro be hH))
     clear hwe hh be hH
     go_cut [27] from 118 to 121 (fun y wx => y = u27 ∧ ∃ nm : Nat, nm ≤ 1000000 ∧ wx.heap[H]? = some (.cells #[.bool vr, .int .i64 sz, .int .i64 0, .int .i64 asg, .int .i64 bp, .int .u64 nm] 32 (0, 0)) ∧ Touch [H] we wx)
     case first =>
      cases vr
      ·go_wp2_with fail
       go_meet
       exact ⟨rfl, k, by omega, X2.out.1, Touch.refl _ _⟩
      ·go_wp2_with fail
       go_meet
       exact ⟨rfl, d, by omega, by rw [blk_set X2.out.1 5]; rfl, (Touch.refl [H] we).setCell (.inl (by simp)) _⟩
     case rest =>
      obtain ⟨rfl, nm, hnm, hh, th⟩ := hcut
      have hGlt : G < H := by rw [← X2.out.2.2]; exact (Array.getElem?_eq_some_iff.1 Y2.out.2.2.2.2.1).1
      have t1 : Touch [H] wr wc := (Touch.of_below (S := [H]) X2.out.2.1).trans th
      have X3 := Lib.hid (And.intro hh (And.intro t1 hGlt))
      clear hh th hGlt t1 c5 s5 g4 g5 g6
      obtain ⟨b19, hb19⟩ : ∃ b, (Go.bits .and .u32 ((flags : Int) / 524288) 1 == 1) = b := ⟨_, rfl⟩
      have hgw := X3.out.2.1.heap Y2.out.2.2.2.2.1 (by have := X3.out.2.2; simp; omega)
      have g4 : wc.cell? ⟨G, 4, none⟩ = some (.int .i64 rt) := by rw [cell_of_row wc G 4 _ _ _ hgw]; rfl
      have s2 : wc.frozen? ⟨H, 2, none⟩ = false := by simp [World.frozen?, X3.out.1]
      have c2 : wc.cell? ⟨H, 2, none⟩ = some (.int .i64 0) := by rw [cell_of_row wc H 2 _ _ _ X3.out.1]; rfl
      clear hgw
      go_upto_if 125 with fail
      go_cut [27] from 126 to 128 (fun y wx => y = u27 ∧ ∃ rt2 : Nat, rt2 ≤ 655350 ∧ wx.heap[H]? = some (.cells #[.bool vr, .int .i64 sz, .int .i64 rt2, .int .i64 asg, .int .i64 bp, .int .u64 nm] 32 (0, 0)) ∧ Touch [H] wc wx)
      case first =>
       cases b19
       ·go_wp2_with fail
        go_meet
        exact ⟨rfl, 0, by omega, X3.out.1, Touch.refl _ _⟩
       ·have hrtb : rt ≤ 655350 := by rcases HR.out.1 with h | h | h | h | h | h | h <;> omega
        go_wp2_with fail
        go_meet
        exact ⟨rfl, rt, hrtb, by rw [blk_set X3.out.1 2]; rfl, (Touch.refl [H] wc).setCell (.inl (by simp)) _⟩
      case rest =>
       obtain ⟨rfl, rt2, hrt2, hh, th⟩ := hcut
       have X4 := Lib.hid (And.intro hh (And.intro (X3.out.2.1.trans th) X3.out.2.2))
       clear hh th g4 s2 c2 X3
       have hgw := X4.out.2.1.heap Y2.out.2.2.2.2.1 (by have := X4.out.2.2; simp; omega)
       have g5 : (wc.alloc (.cells #[] 44)).cell? ⟨G, 5, none⟩ = some (.int .i64 nch) := cell_al (by rw [cell_of_row wc G 5 _ _ _ hgw]; rfl)
       clear hgw
       go_wp2_with fail
       obtain ⟨F, hF⟩ : ∃ F, wc.heap.size = F := ⟨_, rfl⟩
       obtain ⟨wf, hwf⟩ : ∃ wf, wc.alloc (.cells #[] 44) = wf := ⟨_, rfl⟩
       have hbf : Below F wc wf := by rw [← hwf, ← hF]; exact below_alloc (Below.refl _ _) _
       have hch0 : Chans wf F (.slice (some ⟨F, 0, none⟩) 0 0) [] := ⟨[], by
        have h := World.ownsRow_made (base := F) (e := 44) (size := 1) wc #[] 0 (Nat.le_of_eq hF.symm) (by decide) rfl
        rw [hF, hwf] at h; exact h, fun c hc => absurd hc (by simp)⟩
       have hsf : wf.heap.size = F + 1 := by rw [← hwf, World.size_alloc, hF]
       have hgf : wf.heap[G]? = some (.cells #[.int .i64 0, .int .i64 0, .int .i64 0, .int .i64 0, .int .i64 rt, .int .i64 nch, .int .i64 bp, .int .u64 0, .slice none 0 0] 26 (0, 0)) := (hbf.block G (by have h1 := X4.out.2.2; have h2 := (Array.getElem?_eq_some_iff.1 X4.out.1).1; omega)).trans (X4.out.2.1.heap Y2.out.2.2.2.2.1 (by have := X4.out.2.2; simp; omega))
       rw [hwf, hF]
       have XF := Lib.hid (And.intro hbf (And.intro hF (And.intro hch0 (And.intro hsf hgf))))
       have hwfN : Below N w wf := by
        have h1 := X4.out.2.1.below (w0 := w) (by rw [hN]; exact Y2.out.2.2.2.2.2) (fun k hk => by
         obtain rfl : k = H := by simpa using hk
         rw [hN]; have := X4.out.2.2; omega)
        rw [hN] at h1
        exact h1.trans ⟨hbf.os, hbf.tape, hbf.output, hbf.size, fun k hk => hbf.block k (by have h1 := X4.out.2.2; have h2 := (Array.getElem?_eq_some_iff.1 X4.out.1).1; omega)⟩
       have HWN := Lib.hid hwfN
       clear hwf hbf hF hch0 hsf hgf g5 hwfN
       go_loopw [27, 132] (fun cv iv wx => ∃ (c : Nat) (subs : List Sb), iv = .int .i64 c ∧ c ≤ nch ∧ subs.length = c ∧ Chans wx F cv subs ∧ (∀ s ∈ subs, s.xs.length = sz ∧ ∀ x ∈ s.xs, -(2 ^ (bp - 1) : Nat) ≤ x ∧ x < (2 ^ (bp - 1) : Nat)) ∧ Below F wf wx ∧ F < wx.heap.size) (fun _ iv _ => nch - (intOf iv).toNat)
       case atStart => exact ⟨0, [], rfl, by omega, rfl, XF.out.2.2.1, by simp, Below.refl _ _, by rw [XF.out.2.2.2.1]; omega⟩
       case round =>
        rename World => wo
        obtain ⟨c, subs, rfl, hc, hsl, hch, hsub, hbF, hFs⟩ := hrel
        have Z := Lib.hid (And.intro hsl (And.intro hch (And.intro hsub (And.intro hbF hFs))))
        clear hsl hch hsub hbF hFs
        by_cases hlt2 : c < nch
        ·have hGF : G < F := by have h1 := X4.out.2.2; have h2 := (Array.getElem?_eq_some_iff.1 X4.out.1).1; have h3 := XF.out.2.1; omega
         have hgr := (Z.out.2.2.2.1.block G hGF).trans XF.out.2.2.2.2
         have g6 : wo.drew.cell? ⟨G, 6, none⟩ = some (.int .i64 bp) := by rw [cell_of_row wo.drew G 6 _ _ _ hgr]; rfl
         obtain ⟨mm, hmm⟩ : ∃ mm, min c nd = mm := ⟨_, rfl⟩
         have emm : min (c : Int) (nd : Int) = (mm : Int) := by omega
         have hmm2 : mm ≤ nd := by omega
         obtain ⟨ip, hp0, hp1, hp2, hp3⟩ := info_any (t := 5) (z := .int .u8 0) (s := 1) (b := 1) (by kernel_rfl)
         obtain ⟨AD, hcut1, hcut2⟩ := print_cut (P := Tryz.prog) 23 5 .i64 Tryz.underlying23 hp0 hp2 Ad nd cd mm hmm2
         obtain ⟨kd, hkd⟩ : ∃ kd : Nat, IntKind.u8.wrap (IntKind.u8.wrap ((flags : Int) / 2097152) + IntKind.u8.wrap (IntKind.u8.wrap (c : Int) * IntKind.u8.wrap (((flags : Int) / 8388608).tmod 2))) = (kd : Int) := by
          obtain ⟨z, hz⟩ : ∃ z, IntKind.u8.wrap ((flags : Int) / 2097152) + IntKind.u8.wrap (IntKind.u8.wrap (c : Int) * IntKind.u8.wrap (((flags : Int) / 8388608).tmod 2)) = z := ⟨_, rfl⟩
          rw [hz]
          exact ⟨(z % 256).toNat, by rw [IntKind.wrap_u8']; omega⟩
         have HSO := Lib.hid (fun W (b : Below F wf W) => sound_call (w := W) (kind := kd) (sz := sz) (bp := bp) (c := cd - mm) (hcut2 W .u8 data hdc (HS.out.2.2.1.below (by rw [hN]; exact HWN.out.trans ⟨b.os, b.tape, b.output, b.size, fun k hk => b.block k (by omega)⟩))) (fun x hx => HS.out.2.2.2 x (List.mem_of_mem_drop hx)) (by omega) hsz HR.out.2)
         clear hmm hp0 hp1 hp2 hp3 hcut2 hgr
         go_upto_region 31 with fail
         refine wp_region_held_drew (S := fun w' => w'.cell? ⟨G, 6, none⟩ = some (.int .i64 bp)) (by kernel_rfl) g6 (fun HS0 => ?_)
         refine wpAnyH_take (i := 0) (oi := ⟨some 135, .move (.tmp 27), 38, "flac.go:79", #[], none⟩) (v := ?vst1) rfl (by kernel_rfl) (by kernel_rfl) (by kernel_rfl) (fun _ _ _ h => h) (Or.inl ⟨by rfl, ?yst1⟩) HS0 ?rst1
         case yst1 =>
          intro w' hSw
          (try dsimp only at hSw)
          go_simp
          all_goals (with_reducible rfl)
         (try simp only [Act.put, List.setIfInBounds_toArray, List.set_cons_zero, List.set_cons_succ])
         refine wpAnyH_take (i := 1) (oi := ⟨some 136, .move (.tmp 0), 22, "flac.go:79", #[], none⟩) (v := ?vst2) rfl (by kernel_rfl) (by kernel_rfl) (by kernel_rfl) (fun _ _ _ h => h) (Or.inl ⟨by rfl, ?yst2⟩) HS0 ?rst2
         case yst2 =>
          intro w' hSw
          (try dsimp only at hSw)
          go_simp
          all_goals (with_reducible rfl)
         (try simp only [Act.put, List.setIfInBounds_toArray, List.set_cons_zero, List.set_cons_succ])
         refine wpAnyH_take (i := 2) (oi := ⟨some 137, .binOp .shr 22 (.tmp 136) (.const (.int .u64 21)) 47, 22, "flac.go:79", #[⟨1, .data⟩], none⟩) (v := ?vst3) rfl (by kernel_rfl) (by kernel_rfl) (by kernel_rfl) (fun _ _ _ h => h) (Or.inl ⟨by rfl, ?yst3⟩) HS0 ?rst3
         case yst3 =>
          intro w' hSw
          (try dsimp only at hSw)
          go_simp
          all_goals (with_reducible rfl)
         (try simp only [Act.put, List.setIfInBounds_toArray, List.set_cons_zero, List.set_cons_succ])
         refine wpAnyH_take (i := 3) (oi := ⟨some 138, .convert 22 5 (.tmp 137), 5, "flac.go:79", #[⟨2, .data⟩], none⟩) (v := ?vst4) rfl (by kernel_rfl) (by kernel_rfl) (by kernel_rfl) (fun _ _ _ h => h) (Or.inl ⟨by rfl, ?yst4⟩) HS0 ?rst4
         case yst4 =>
          intro w' hSw
          (try dsimp only at hSw)
          go_simp
          all_goals (with_reducible rfl)
         (try simp only [Act.put, List.setIfInBounds_toArray, List.set_cons_zero, List.set_cons_succ])
         refine wpAnyH_take (i := 4) (oi := ⟨some 139, .move (.tmp 28), 3, "flac.go:79", #[], none⟩) (v := ?vst5) rfl (by kernel_rfl) (by kernel_rfl) (by kernel_rfl) (fun _ _ _ h => h) (Or.inl ⟨by rfl, ?yst5⟩) HS0 ?rst5
         case yst5 =>
          intro w' hSw
          (try dsimp only at hSw)
          go_simp
          all_goals (with_reducible rfl)
         (try simp only [Act.put, List.setIfInBounds_toArray, List.set_cons_zero, List.set_cons_succ])
         refine wpAnyH_take (i := 5) (oi := ⟨some 140, .convert 3 5 (.tmp 139), 5, "flac.go:79", #[⟨4, .data⟩], none⟩) (v := ?vst6) rfl (by kernel_rfl) (by kernel_rfl) (by kernel_rfl) (fun _ _ _ h => h) (Or.inl ⟨by rfl, ?yst6⟩) HS0 ?rst6
         case yst6 =>
          intro w' hSw
          (try dsimp only at hSw)
          go_simp
          all_goals (with_reducible rfl)
         (try simp only [Act.put, List.setIfInBounds_toArray, List.set_cons_zero, List.set_cons_succ])
         refine wpAnyH_take (i := 6) (oi := ⟨some 141, .move (.tmp 0), 22, "flac.go:79", #[], none⟩) (v := ?vst7) rfl (by kernel_rfl) (by kernel_rfl) (by kernel_rfl) (fun _ _ _ h => h) (Or.inl ⟨by rfl, ?yst7⟩) HS0 ?rst7
         case yst7 =>
          intro w' hSw
          (try dsimp only at hSw)
          go_simp
          all_goals (with_reducible rfl)
         (try simp only [Act.put, List.setIfInBounds_toArray, List.set_cons_zero, List.set_cons_succ])
         refine wpAnyH_take (i := 7) (oi := ⟨some 142, .binOp .shr 22 (.tmp 141) (.const (.int .u64 23)) 47, 22, "flac.go:79", #[⟨6, .data⟩], none⟩) (v := ?vst8) rfl (by kernel_rfl) (by kernel_rfl) (by kernel_rfl) (fun _ _ _ h => h) (Or.inl ⟨by rfl, ?yst8⟩) HS0 ?rst8
         case yst8 =>
          intro w' hSw
          (try dsimp only at hSw)
          go_simp
          all_goals (with_reducible rfl)
         (try simp only [Act.put, List.setIfInBounds_toArray, List.set_cons_zero, List.set_cons_succ])
         refine wpAnyH_take (i := 8) (oi := ⟨some 143, .binOp .rem 22 (.tmp 142) (.const (.int .u32 2)) 22, 22, "flac.go:79", #[⟨7, .data⟩], none⟩) (v := ?vst9) rfl (by kernel_rfl) (by kernel_rfl) (by kernel_rfl) (fun _ _ _ h => h) (Or.inl ⟨by rfl, ?yst9⟩) HS0 ?rst9
         case yst9 =>
          intro w' hSw
          (try dsimp only at hSw)
          go_simp
          all_goals (with_reducible rfl)
         (try simp only [Act.put, List.setIfInBounds_toArray, List.set_cons_zero, List.set_cons_succ])
         refine wpAnyH_take (i := 9) (oi := ⟨some 144, .convert 22 5 (.tmp 143), 5, "flac.go:79", #[⟨8, .data⟩], none⟩) (v := ?vst10) rfl (by kernel_rfl) (by kernel_rfl) (by kernel_rfl) (fun _ _ _ h => h) (Or.inl ⟨by rfl, ?yst10⟩) HS0 ?rst10
         case yst10 =>
          intro w' hSw
          (try dsimp only at hSw)
          go_simp
          all_goals (with_reducible rfl)
         (try simp only [Act.put, List.setIfInBounds_toArray, List.set_cons_zero, List.set_cons_succ])
         refine wpAnyH_take (i := 10) (oi := ⟨some 145, .binOp .mul 5 (.tmp 140) (.tmp 144) 5, 5, "flac.go:79", #[⟨5, .data⟩, ⟨9, .data⟩], none⟩) (v := ?vst11) rfl (by kernel_rfl) (by kernel_rfl) (by kernel_rfl) (fun _ _ _ h => h) (Or.inl ⟨by rfl, ?yst11⟩) HS0 ?rst11
         case yst11 =>
          intro w' hSw
          (try dsimp only at hSw)
          go_simp
          all_goals (with_reducible rfl)
         (try simp only [Act.put, List.setIfInBounds_toArray, List.set_cons_zero, List.set_cons_succ])
         refine wpAnyH_take (i := 11) (oi := ⟨some 146, .binOp .add 5 (.tmp 138) (.tmp 145) 5, 5, "flac.go:79", #[⟨3, .data⟩, ⟨10, .data⟩], none⟩) (v := ?vst12) rfl (by kernel_rfl) (by kernel_rfl) (by kernel_rfl) (fun _ _ _ h => h) (Or.inl ⟨by rfl, ?yst12⟩) HS0 ?rst12
         case yst12 =>
          intro w' hSw
          (try dsimp only at hSw)
          go_simp
          all_goals (with_reducible rfl)
         (try simp only [Act.put, List.setIfInBounds_toArray, List.set_cons_zero, List.set_cons_succ])
         refine wpAnyH_take (i := 12) (oi := ⟨some 147, .move (.tmp 25), 3, "flac.go:79", #[], none⟩) (v := ?vst13) rfl (by kernel_rfl) (by kernel_rfl) (by kernel_rfl) (fun _ _ _ h => h) (Or.inl ⟨by rfl, ?yst13⟩) HS0 ?rst13
         case yst13 =>
          intro w' hSw
          (try dsimp only at hSw)
          go_simp
          all_goals (with_reducible rfl)
         (try simp only [Act.put, List.setIfInBounds_toArray, List.set_cons_zero, List.set_cons_succ])
         refine wpAnyH_take (i := 13) (oi := ⟨some 148, .fieldAddr 26 (.tmp 12) 6, 0, "flac.go:79", #[], none⟩) (v := ?vst14) rfl (by kernel_rfl) (by kernel_rfl) (by kernel_rfl) (fun _ _ _ h => h) (Or.inl ⟨by rfl, ?yst14⟩) HS0 ?rst14
         case yst14 =>
          intro w' hSw
          (try dsimp only at hSw)
          go_simp
          all_goals (with_reducible rfl)
         (try simp only [Act.put, List.setIfInBounds_toArray, List.set_cons_zero, List.set_cons_succ])
         refine wpAnyH_take (i := 14) (oi := ⟨some 149, .load 3 (.tmp 148), 3, "flac.go:79", #[⟨13, .data⟩], none⟩) (v := ?vst15) rfl (by kernel_rfl) (by kernel_rfl) (by kernel_rfl) (fun _ _ _ h => h) (Or.inl ⟨by rfl, ?yst15⟩) HS0 ?rst15
         case yst15 =>
          intro w' hSw
          (try dsimp only at hSw)
          have g6w := hSw
          go_simp
          all_goals (with_reducible rfl)
         (try simp only [Act.put, List.setIfInBounds_toArray, List.set_cons_zero, List.set_cons_succ])
         refine wpAnyH_take (i := 15) (oi := ⟨some 150, .move (.tmp 2), 23, "flac.go:79", #[], none⟩) (v := ?vst16) rfl (by kernel_rfl) (by kernel_rfl) (by kernel_rfl) (fun _ _ _ h => h) (Or.inl ⟨by rfl, ?yst16⟩) HS0 ?rst16
         case yst16 =>
          intro w' hSw
          (try dsimp only at hSw)
          go_simp
          all_goals (with_reducible rfl)
         (try simp only [Act.put, List.setIfInBounds_toArray, List.set_cons_zero, List.set_cons_succ])
         refine wpAnyH_take (i := 16) (oi := ⟨some 151, .move (.tmp 28), 3, "flac.go:79", #[], none⟩) (v := ?vst17) rfl (by kernel_rfl) (by kernel_rfl) (by kernel_rfl) (fun _ _ _ h => h) (Or.inl ⟨by rfl, ?yst17⟩) HS0 ?rst17
         case yst17 =>
          intro w' hSw
          (try dsimp only at hSw)
          go_simp
          all_goals (with_reducible rfl)
         (try simp only [Act.put, List.setIfInBounds_toArray, List.set_cons_zero, List.set_cons_succ])
         refine wpAnyH_take (i := 17) (oi := ⟨some 152, .move (.tmp 2), 23, "flac.go:79", #[], none⟩) (v := ?vst18) rfl (by kernel_rfl) (by kernel_rfl) (by kernel_rfl) (fun _ _ _ h => h) (Or.inl ⟨by rfl, ?yst18⟩) HS0 ?rst18
         case yst18 =>
          intro w' hSw
          (try dsimp only at hSw)
          go_simp
          all_goals (with_reducible rfl)
         (try simp only [Act.put, List.setIfInBounds_toArray, List.set_cons_zero, List.set_cons_succ])
         refine wpAnyH_take (i := 18) (oi := ⟨some 153, .call ⟨.builtin .len, #[.tmp 152], #[23]⟩, 3, "flac.go:79", #[⟨17, .data⟩], none⟩) (v := ?vst19) rfl (by kernel_rfl) (by kernel_rfl) (by kernel_rfl) (fun _ _ _ h => h) (Or.inl ⟨by rfl, ?yst19⟩) HS0 ?rst19
         case yst19 =>
          intro w' hSw
          (try dsimp only at hSw)
          go_simp
          all_goals (with_reducible rfl)
         (try simp only [Act.put, List.setIfInBounds_toArray, List.set_cons_zero, List.set_cons_succ])
         refine wpAnyH_take (i := 19) (oi := ⟨some 154, .call ⟨.builtin .min, #[.tmp 151, .tmp 153], #[3, 3]⟩, 3, "flac.go:79", #[⟨16, .data⟩, ⟨18, .data⟩], none⟩) (v := ?vst20) rfl (by kernel_rfl) (by kernel_rfl) (by kernel_rfl) (fun _ _ _ h => h) (Or.inl ⟨by rfl, ?yst20⟩) HS0 ?rst20
         case yst20 =>
          intro w' hSw
          (try dsimp only at hSw)
          go_simp
          all_goals (with_reducible rfl)
         (try simp only [Act.put, List.setIfInBounds_toArray, List.set_cons_zero, List.set_cons_succ])
         refine wpAnyH_take (i := 20) (oi := ⟨some 155, .slice 23 (.tmp 150) (some (.tmp 154)) none none, 23, "flac.go:79", #[⟨15, .data⟩, ⟨19, .data⟩], none⟩) (v := ?vst21) rfl (by kernel_rfl) (by kernel_rfl) (by kernel_rfl) (fun _ _ _ h => h) (Or.inl ⟨by rfl, ?yst21⟩) HS0 ?rst21
         case yst21 =>
          intro w' hSw
          (try dsimp only at hSw)
          go_simp
          all_goals (with_reducible rfl)
         (try simp only [Act.put, List.setIfInBounds_toArray, List.set_cons_zero, List.set_cons_succ])
         refine wpAnyH_ready (rs := [21]) (by kernel_rfl) (by simp) ?_
         refine (AllReadyH.cons (o := ⟨some 156, .call ⟨.value (.func 10), #[.tmp 146, .tmp 147, .tmp 149, .tmp 155], #[5, 3, 3, 23]⟩, 44, "flac.go:79", #[⟨11, .data⟩, ⟨12, .data⟩, ⟨14, .data⟩, ⟨20, .data⟩], none⟩) rfl (fun K hK => ?kst25) AllReadyH.nil)
         case kst25 =>
          go_simp
          (try rw [hkd])
          refine (HSO.out _ (by first | exact Z.out.2.2.2.1 | exact Z.out.2.2.2.1.drew)).mono ?_
          rintro e w6 ⟨hb6, v6, xs, rfl, ho6, hl6, hx6⟩
          obtain ⟨A6, c6, rfl⟩ := own_slice ho6
          go_wp2_with fail
          have hs6 : w6.cell? ⟨G, 6, none⟩ = some (.int .i64 bp) := cell_below hb6 HS0
          refine hK.out _ _ hs6 (fun HS6 => ?_)
          clear hK K
          (try simp only [Act.put, List.setIfInBounds_toArray, List.set_cons_zero, List.set_cons_succ])
          refine wpAnyH_ready (rs := [22]) (by kernel_rfl) (by simp) ?_
          refine (AllReadyH.cons (o := ⟨some 157, .buildSlice 38 1 #[(0, .tmp 156)], 38, "flac.go:79", #[⟨21, .data⟩], none⟩) rfl (fun K hK => ?kst24) AllReadyH.nil)
          case kst24 =>
           go_simp
           obtain ⟨w7, hw7⟩ : ∃ w7, w6.alloc (.cells #[.slice A6 sz c6] 44) = w7 := ⟨_, rfl⟩
           have nb7 : w7.heap[w6.heap.size]? = some (.cells #[.slice A6 sz c6] 44 (0, 0)) := by rw [← hw7]; exact heap_alloc_new _ _
           have hb7 : Below w6.heap.size w6 w7 := by rw [← hw7]; exact below_alloc (Below.refl _ _) _
           rw [hw7]
           refine hK.out _ _ (cell_below hb7 HS6) (fun HS7 => ?_)
           clear hK K hw7
           (try simp only [Act.put, List.setIfInBounds_toArray, List.set_cons_zero, List.set_cons_succ])
           refine wpAnyH_ready (rs := [23]) (by kernel_rfl) (by simp) ?_
           refine (AllReadyH.cons (o := ⟨some 158, .call ⟨.builtin .append, #[.tmp 135, .tmp 157], #[38, 38]⟩, 38, "flac.go:79", #[⟨0, .data⟩, ⟨22, .data⟩, ⟨21, .chain⟩], none⟩) rfl (fun K hK => ?kst23) AllReadyH.nil)
           case kst23 =>
            obtain ⟨vs9, hc1, hc2⟩ := Z.out.2.1
            have tZ : Touch [] wo w7 := by
             have h := (Touch.of_below (S := []) hb6).trans (Touch.of_below hb7)
             exact ⟨h.os, h.tape, h.output, h.size, h.block⟩
            have hc7 := own_touch hc1 tZ (by simp)
            have hF7 : F ≤ w7.heap.size := Nat.le_trans (Nat.le_of_lt Z.out.2.2.2.2) tZ.size
            have hc7l : subs.length = c := Z.out.1
            rw [hc7l] at hc7
            obtain ⟨ip, hp0, hp1, hp2, hp3⟩ := info_ints
            refine step_append_lies _ rfl (.tmp 135) (.tmp 157) 38 rfl F 44 ip (.slice none 0 0) 1 24 Tryz.underlying38 hp0 hp1 hp2 hp3 rfl (by decide) u27 c vs9 rfl hc7 ⟨w6.heap.size, 0, none⟩ 1 1 [.slice A6 sz c6] rfl rfl (World.news_of_block nb7) (by simp [Value.oneCell']) (by decide) (by unfold maxLen; omega) (by omega) hF7 _ rfl ?_
            intro gv cap w8 hO8 hG8 hA8 hL8
            have t8 := grown_touch hG8
            refine hK.out _ _ (t8.cell HS7 (fun hm => by
             have h1 := own_base hc7 G (by simpa using hm)
             omega)) (fun HS8 => ?_)
            clear hK K
            (try simp only [Act.put, List.setIfInBounds_toArray, List.set_cons_zero, List.set_cons_succ])
            refine wpAnyH_take (i := 24) (oi := ⟨some 27, .assign (.tmp 158), 38, "flac.go:79", #[⟨23, .data⟩, ⟨23, .chain⟩, ⟨0, .phase⟩, ⟨1, .phase⟩, ⟨2, .phase⟩, ⟨3, .phase⟩, ⟨4, .phase⟩, ⟨5, .phase⟩, ⟨6, .phase⟩, ⟨7, .phase⟩, ⟨8, .phase⟩, ⟨9, .phase⟩, ⟨10, .phase⟩, ⟨11, .phase⟩, ⟨12, .phase⟩, ⟨13, .phase⟩, ⟨14, .phase⟩, ⟨15, .phase⟩, ⟨16, .phase⟩, ⟨17, .phase⟩, ⟨18, .phase⟩, ⟨19, .phase⟩, ⟨20, .phase⟩, ⟨21, .phase⟩, ⟨22, .phase⟩, ⟨23, .phase⟩], none⟩) (v := ?vst22) rfl (by kernel_rfl) (by kernel_rfl) (by kernel_rfl) (fun _ _ _ h => h) (Or.inl ⟨by rfl, ?yst22⟩) HS8 ?rst22
            case yst22 =>
             intro w' hSw
             (try dsimp only at hSw)
             go_simp
             all_goals (with_reducible rfl)
            (try simp only [Act.put, List.setIfInBounds_toArray, List.set_cons_zero, List.set_cons_succ])
            refine wpAnyH_done (by kernel_rfl) ?_ _
            go_wp2_with fail
            go_roundw
            case rel =>
             have ho7 := own_touch ho6 (Touch.of_below (S := []) hb7) (by simp)
             have ho8 := own_weak (own_touch ho7 t8 (own_far2 ho7 hc7 (by decide))) (show F ≤ wo.heap.size from Nat.le_of_lt Z.out.2.2.2.2)
             refine ⟨c + 1, subs ++ [⟨0, 0, xs⟩], by go_num, by omega, by simp [hc7l], chans_snoc hc7l hO8 hc2 tZ hc7 t8 (by rw [hl6]; exact ho8), ?_, ?_, ?_⟩
             ·intro s hs
              rcases List.mem_append.1 hs with hs | hs
              ·exact Z.out.2.2.1 s hs
              ·rw [List.mem_singleton.1 hs]; exact ⟨hl6, hx6⟩
             ·exact below_touch2 Z.out.2.2.2.1 tZ t8 (by rw [XF.out.2.2.2.1]; omega) (fun k hk => (own_base hc7 k (by simpa using hk)))
             ·exact Nat.lt_of_lt_of_le Z.out.2.2.2.2 (Nat.le_trans tZ.size t8.size)
            case measure => simp [intOf]; omega
        ·obtain rfl : c = nch := by omega
         have hHF : H < F := by rw [← XF.out.2.1]; exact (Array.getElem?_eq_some_iff.1 X4.out.1).1
         have bO : Below wr.heap.size wr wo := by
          have h1 := X4.out.2.1
          have h2 := XF.out.1
          have h3 := Z.out.2.2.2.1
          have h4 := X2.out.2.2
          exact ⟨h3.os.trans (h2.os.trans h1.os), h3.tape.trans (h2.tape.trans h1.tape), h3.output.trans (h2.output.trans h1.output), Nat.le_trans h1.size (Nat.le_trans h2.size h3.size), fun k hk => by
           rw [h3.block k (by omega), h2.block k (by omega), h1.block k hk (by simp; omega)]⟩
         have tO : Touch [] wr wo := Touch.of_below bO
         have hho : wo.heap[H]? = some (.cells #[.bool vr, .int .i64 sz, .int .i64 rt2, .int .i64 asg, .int .i64 bp, .int .u64 nm] 32 (0, 0)) := (Z.out.2.2.2.1.block H hHF).trans ((XF.out.1.block H hHF).trans X4.out.1)
         have oh := own_touch Y1.out.1 tO (by simp)
         have oa := own_touch Y1.out.2.2.1 tO (by simp)
         have ra := Y1.out.2.2.2.1.touch tO (by simp)
         have oo := own_touch Y1.out.2.2.2.2.1 tO (by simp)
         have hz := tO.heap Y2.out.2.2.2.1 (by simp)
         have hg := tO.heap Y2.out.2.2.2.2.1 (by simp)
         have bw : Below N w wo := Y2.out.2.2.2.2.2.trans ⟨bO.os, bO.tape, bO.output, bO.size, fun k hk => bO.block k (Nat.lt_of_lt_of_le hk (by rw [← hN]; exact Y2.out.2.2.2.2.2.size))⟩
         have V := Lib.hid (And.intro oh (And.intro oa (And.intro ra (And.intro oo (And.intro hz (And.intro hg (And.intro bw hho)))))))
         have hNo : N ≤ wo.heap.size := by rw [← hN]; exact bw.size
         obtain ⟨vsc, hsc1, hsc2⟩ := Z.out.2.1
         obtain ⟨Ac, cc, rfl⟩ := own_slice hsc1
         rw [Z.out.1]
         have e0 : wo.cell? ⟨H, 0, none⟩ = some (.bool vr) := by rw [cell_of_row wo H 0 _ _ _ hho]; rfl
         have e1 : wo.cell? ⟨H, 1, none⟩ = some (.int .i64 sz) := by rw [cell_of_row wo H 1 _ _ _ hho]; rfl
         have e2 : wo.cell? ⟨H, 2, none⟩ = some (.int .i64 rt2) := by rw [cell_of_row wo H 2 _ _ _ hho]; rfl
         have e3 : wo.cell? ⟨H, 3, none⟩ = some (.int .i64 asg) := by rw [cell_of_row wo H 3 _ _ _ hho]; rfl
         have e4 : wo.cell? ⟨H, 4, none⟩ = some (.int .i64 bp) := by rw [cell_of_row wo H 4 _ _ _ hho]; rfl
         have e5 : wo.cell? ⟨H, 5, none⟩ = some (.int .u64 nm) := by rw [cell_of_row wo H 5 _ _ _ hho]; rfl
         clear oh oa ra oo hz hg bw hho hsc1 hsc2 bO tO
         go_wp2_with (with_reducible refine stop_dst (N := 194) rfl ?_)
         refine unstop ?_
         obtain ⟨w7, hw7⟩ : ∃ w7, wo.alloc (.cells #[.bool vr, .int .i64 sz, .int .i64 rt2, .int .i64 asg, .int .i64 bp, .int .u64 nm] 32) = w7 := ⟨_, rfl⟩
         have nb7 : w7.heap[wo.heap.size]? = some (.cells #[.bool vr, .int .i64 sz, .int .i64 rt2, .int .i64 asg, .int .i64 bp, .int .u64 nm] 32 (0, 0)) := by rw [← hw7]; exact heap_alloc_new _ _
         have hb7 : Below wo.heap.size wo w7 := by rw [← hw7]; exact below_alloc (Below.refl _ _) _
         have t7 : Touch [] wo w7 := Touch.of_below hb7
         have oh7 := own_touch V.out.1 t7 (by simp)
         have oa7 := own_touch V.out.2.1 t7 (by simp)
         have hN7 : N ≤ w7.heap.size := Nat.le_trans hNo t7.size
         rw [hw7]
         obtain ⟨ip, hp0, hp1, hp2, hp3⟩ := info_any (t := 32) (z := .agg #[.bool false, .int .i64 0, .int .i64 0, .int .i64 0, .int .i64 0, .int .u64 0]) (s := 6) (b := 48) (by kernel_rfl)
         refine wpList_append_lies _ rfl (.tmp 191) (.tmp 193) 27 rfl N 32 ip _ 6 48 Tryz.underlying27 hp0 hp1 hp2 hp3 rfl (by decide) u19 k hs rfl oh7 ⟨wo.heap.size, 0, none⟩ 1 1 [.bool vr, .int .i64 sz, .int .i64 rt2, .int .i64 asg, .int .i64 bp, .int .u64 nm] rfl rfl (World.news_of_block nb7) (by simp [Value.oneCell']) (by decide) (by unfold maxLen; omega) (by omega) hN7 _ rfl ?_
         intro gv cap w8 hO8 hG8 hA8 hL8
         have t8 := grown_touch hG8
         have X8 := Lib.hid (And.intro hO8 (And.intro t8 (And.intro t7 (And.intro oh7 oa7))))
         clear hO8 hG8 hA8 t8 t7 oh7 oa7 hw7 nb7 hb7 e0 e1 e2 e3 e4 e5 hp0 hp1 hp2 hp3
         go_wp2_with (with_reducible refine stop_dst (N := 198) rfl ?_)
         refine unstop ?_
         obtain ⟨w9, hw9⟩ : ∃ w9, w8.alloc (.cells #[.slice Ac c cc] 38) = w9 := ⟨_, rfl⟩
         have nb9 : w9.heap[w8.heap.size]? = some (.cells #[.slice Ac c cc] 38 (0, 0)) := by rw [← hw9]; exact heap_alloc_new _ _
         have hb9 : Below w8.heap.size w8 w9 := by rw [← hw9]; exact below_alloc (Below.refl _ _) _
         have oa8 := own_touch X8.out.2.2.2.2 X8.out.2.1 (own_far2 X8.out.2.2.2.2 X8.out.2.2.2.1 (by decide))
         have oa9 := own_touch oa8 (Touch.of_below (S := []) hb9) (by simp)
         have hN9 : N ≤ w9.heap.size := Nat.le_trans hNo (Nat.le_trans X8.out.2.2.1.size (Nat.le_trans X8.out.2.1.size hb9.size))
         rw [hw9]
         obtain ⟨ip, hp0, hp1, hp2, hp3⟩ := info_any (t := 38) (z := .slice none 0 0) (s := 1) (b := 24) (by kernel_rfl)
         refine wpList_append_lies _ rfl (.tmp 195) (.tmp 197) 28 rfl N 38 ip (.slice none 0 0) 1 24 Tryz.underlying28 hp0 hp1 hp2 hp3 rfl (by decide) u20 k vs rfl oa9 ⟨w8.heap.size, 0, none⟩ 1 1 [.slice Ac c cc] rfl rfl (World.news_of_block nb9) (by simp [Value.oneCell']) (by decide) (by unfold maxLen; omega) (by omega) hN9 _ rfl ?_
         intro ga capa w10 hO10 hG10 hA10 hL10
         have t10 := grown_touch hG10
         have X10 := Lib.hid (And.intro hO10 (And.intro t10 (And.intro hb9 (And.intro oa9 oa8))))
         clear hO10 hG10 hA10 t10 hw9 nb9 hb9 oa8 oa9 hp0 hp1 hp2 hp3
         have t9 := Touch.of_below (S := []) X10.out.2.2.1
         have hH8 : H ∉ u19.ownBlock.toList := fun hm => by
          have h1 := (Y1.out.1.lt H (by simpa using hm)).2
          have h2 := X2.out.2.2
          omega
         have hh10 : w10.heap[H]? = some (.cells #[.bool vr, .int .i64 sz, .int .i64 rt2, .int .i64 asg, .int .i64 bp, .int .u64 nm] 32 (0, 0)) := by
          have k7 := X8.out.2.2.1.heap V.out.2.2.2.2.2.2.2 (by simp)
          have k8 := X8.out.2.1.heap k7 hH8
          have k9 := t9.heap k8 (by simp)
          exact X10.out.2.1.heap k9 (fun hm => by obtain ⟨_, cs', h⟩ := own_ty X10.out.2.2.2.1 H hm; exact blk_ne k9 h (by decide) rfl)
         have keep : ∀ {k : Nat} {cs : Array Value} {ty : TypeId}, wo.heap[k]? = some (.cells cs ty (0, 0)) → ty ≠ 32 → ty ≠ 38 → w10.heap[k]? = some (.cells cs ty (0, 0)) := fun {k cs ty} hk h1 h2 => by
          have k7 := X8.out.2.2.1.heap hk (by simp)
          have k8 := X8.out.2.1.heap k7 (fun hm => by obtain ⟨_, cs', h⟩ := own_ty X8.out.2.2.2.1 k hm; exact blk_ne k7 h h1 rfl)
          have k9 := t9.heap k8 (by simp)
          exact X10.out.2.1.heap k9 (fun hm => by obtain ⟨_, cs', h⟩ := own_ty X10.out.2.2.2.1 k hm; exact blk_ne k9 h h2 rfl)
         have ohA := own_touch X8.out.1 t9 (by simp)
         have ohB := own_touch ohA X10.out.2.1 (own_far2 ohA X10.out.2.2.2.1 (by decide))
         have oo7 := own_touch V.out.2.2.2.1 X8.out.2.2.1 (by simp)
         have oo8 := own_touch oo7 X8.out.2.1 (own_far2 oo7 X8.out.2.2.2.1 (by decide))
         have oo9 := own_touch oo8 t9 (by simp)
         have ooB := own_touch oo9 X10.out.2.1 (own_far2 oo9 X10.out.2.2.2.1 (by decide))
         have rows : ∀ {B : Nat} {u : Value} {subs : List Sb}, Chans wo B u subs → Chans w10 B u subs := fun {B u subs} h => by
          have k7 := h.touch X8.out.2.2.1 (by simp)
          have k8 := k7.touch X8.out.2.1 (fun k hk => by obtain ⟨_, cs, h⟩ := own_ty X8.out.2.2.2.1 k hk; exact ⟨_, _, _, h, by decide, by decide⟩)
          have k9 := k8.touch t9 (by simp)
          exact k9.touch X10.out.2.1 (fun k hk => by obtain ⟨_, cs, h⟩ := own_ty X10.out.2.2.2.1 k hk; exact ⟨_, _, _, h, by decide, by decide⟩)
         have bw7 := X8.out.2.2.1.below (w0 := w) (by rw [hN]; exact V.out.2.2.2.2.2.2.1) (fun k hk => absurd hk (by simp))
         have bw8 := X8.out.2.1.below bw7 (fun k hk => by rw [hN]; exact (own_ty X8.out.2.2.2.1 k hk).1)
         have bw9 := t9.below bw8 (fun k hk => absurd hk (by simp))
         have bw10 := X10.out.2.1.below bw9 (fun k hk => by rw [hN]; exact (own_ty X10.out.2.2.2.1 k hk).1)
         rw [hN] at bw10
         have hg10 := keep V.out.2.2.2.2.2.1 (by decide) (by decide)
         have hz10 := keep V.out.2.2.2.2.1 (by decide) (by decide)
         have hch10 := rows Z.out.2.1
         have ra10 : AllRows w10 N vs fs k := fun j hj => by
          obtain ⟨u, h1, h2⟩ := V.out.2.2.1 j hj
          exact ⟨u, h1, rows h2⟩
         have U := Lib.hid (And.intro hz10 (And.intro hg10 (And.intro ohB (And.intro X10.out.1 (And.intro ooB (And.intro ra10 (And.intro hch10 bw10)))))))
         obtain ⟨pl, hpl⟩ : ∃ pl, (Go.bits .and .u32 ((flags : Int) / 16777216) 1 == 1) = pl := ⟨_, rfl⟩
         have e0 : w10.cell? ⟨H, 0, none⟩ = some (.bool vr) := by rw [cell_of_row w10 H 0 _ _ _ hh10]; rfl
         have e1 : w10.cell? ⟨H, 1, none⟩ = some (.int .i64 sz) := by rw [cell_of_row w10 H 1 _ _ _ hh10]; rfl
         have e2 : w10.cell? ⟨H, 2, none⟩ = some (.int .i64 rt2) := by rw [cell_of_row w10 H 2 _ _ _ hh10]; rfl
         have e3 : w10.cell? ⟨H, 3, none⟩ = some (.int .i64 asg) := by rw [cell_of_row w10 H 3 _ _ _ hh10]; rfl
         have e4 : w10.cell? ⟨H, 4, none⟩ = some (.int .i64 bp) := by rw [cell_of_row w10 H 4 _ _ _ hh10]; rfl
         have e5 : w10.cell? ⟨H, 5, none⟩ = some (.int .u64 nm) := by rw [cell_of_row w10 H 5 _ _ _ hh10]; rfl
         have g6 : w10.cell? ⟨G, 6, none⟩ = some (.int .i64 bp) := by rw [cell_of_row w10 G 6 _ _ _ hg10]; rfl
         have hb24 : bp ≤ 24 ∧ 2 ^ (bp - 1) ≤ 8388608 := by
          rcases HR.out.2 with h | h | h | h | h <;> (subst h; decide)
         have hwf := (write_frame_any (vr := vr) (pl := pl) (sz := sz) (rt := rt2) (asg := asg) (bp := bp) (nm := nm) (m := c) (gy := Y) hch10 (fun s hs => ⟨(Z.out.2.2.1 s hs).1, fun x hx => by have h := (Z.out.2.2.1 s hs).2 x hx; have h2 := hb24.2; omega⟩) hsz0 hsz hasg10 Z.out.1 (fun h => by have h1 := HN.out.1; unfold nchOf at h1; rw [if_neg (by omega)] at h1; omega) (fun h => by have h1 := HN.out.1; unfold nchOf at h1; rw [if_pos h] at h1; omega) hrt2 hb24.1 (by omega))
         rw [Z.out.1] at hwf
         have HWF := Lib.hid hwf
         clear hwf
         clear t9 hH8 hh10 keep ohA ohB oo7 oo8 oo9 ooB rows bw7 bw8 bw9 bw10 hg10 hz10 hch10 ra10 hb24 X8 X10
         go_wp2_with fail
         refine HWF.out.mono ?_
         rintro e w11 ⟨hb11, x11, l11, rfl, ho11, hl11⟩
         obtain ⟨A11, c11, rfl, hr11⟩ := own_reads ho11
         have HR11 := Lib.hid (And.intro hr11 (And.intro hb11 hl11))
         clear e0 e1 e2 e3 e4 e5 g6 HWF hr11 hb11 hl11 ho11
         go_wp2_with (with_reducible refine stop_dst (N := 210) rfl ?_)
         refine unstop ?_
         refine print_append_row (w0 := w) N rfl (.tmp 199) (.tmp 209) 23 5 .u8 1 rfl Tryz.underlying23 infoU8 (by decide) u21 ol l11 A11 l11.length c11 rfl rfl ?aO ?aR ?aB ?aS ?aL ?_
         case aO => exact own_touch U.out.2.2.2.2.1 (Touch.of_below (S := []) HR11.out.2.1) (by simp)
         case aR => exact HR11.out.1
         case aB => exact U.out.2.2.2.2.2.2.2.trans ⟨HR11.out.2.1.os, HR11.out.2.1.tape, HR11.out.2.1.output, HR11.out.2.1.size, fun j hj => HR11.out.2.1.block j (Nat.lt_of_lt_of_le hj (by rw [← hN]; exact U.out.2.2.2.2.2.2.2.size))⟩
         case aS => exact Nat.le_trans (by rw [← hN]; exact U.out.2.2.2.2.2.2.2.size) HR11.out.2.1.size
         case aL => have h1 := HR11.out.2.2; have h2 := Y1.out.2.2.2.2.2; omega
         intro v12 w12 hO12 hB12 hG12 hat12
         have X12 := Lib.hid (And.intro hO12 (And.intro hB12 hG12))
         clear hO12 hB12 hG12 hat12
         go_wp2_with fail
         go_roundw
         case rel =>
          have tw := Touch.of_below (S := []) HR11.out.2.1
          have t12 := grown_touch X12.out.2.2
          have oo11 := own_touch U.out.2.2.2.2.1 tw (by simp)
          have hfl := Y2.out.1
          have hvl : vs.length = k := by have := Y1.out.2.2.1.1; omega
          have hhl := Y1.out.1.1
          refine ⟨k + 1, d + sz, fs ++ [⟨vr, sz, subs⟩], hs ++ [.bool vr, .int .i64 sz, .int .i64 rt2, .int .i64 asg, .int .i64 bp, .int .u64 nm], vs ++ [.slice Ac c cc], ol ++ l11, by go_num, by omega, by simp, by omega, by simp [hfl], ?_, ?_, ?_, ?_, X12.out.1, ?_, ?_, ?_, ?_, ?_, X12.out.2.1⟩
          ·exact own_touch (own_touch U.out.2.2.1 tw (by simp)) t12 (own_far2 (own_touch U.out.2.2.1 tw (by simp)) oo11 (by decide))
          ·exact HeadsFull.snoc (f := ⟨vr, sz, subs⟩) Y1.out.2.1 hhl hfl
          ·exact own_touch (own_touch U.out.2.2.2.1 tw (by simp)) t12 (own_far2 (own_touch U.out.2.2.2.1 tw (by simp)) oo11 (by decide))
          ·have hU : ∀ j ∈ u21.ownBlock.toList, ∃ cs ty fz, w11.heap[j]? = some (.cells cs ty fz) ∧ ty ≠ 3 ∧ ty ≠ 44 := fun j hj => by
            obtain ⟨_, cs, h⟩ := own_ty oo11 j hj; exact ⟨_, _, _, h, by decide, by decide⟩
           have h1 := (U.out.2.2.2.2.2.1.touch tw (by simp)).touch t12 hU
           have h2 := ((U.out.2.2.2.2.2.2.1.touch tw (by simp)).touch t12 hU).weak (show N ≤ F by have h3 := HWN.out.size; have h4 := XF.out.2.2.2.1; have h5 := XF.out.2.1; have h6 := X4.out.2.1.size; have h7 := Y2.out.2.2.2.2.2.size; omega)
           rw [Z.out.1] at h2
           exact AllRows.snoc2 (f := ⟨vr, sz, subs⟩) h1 hfl hvl h2
          ·have h1 := HR11.out.2.2; have h2 := Y1.out.2.2.2.2.2; simp; omega
          ·intro f hf
           rcases List.mem_append.1 hf with hf | hf
           ·exact Y2.out.2.1 f hf
           ·rw [List.mem_singleton.1 hf]; exact ⟨hsz0, hsz, Z.out.1, Z.out.2.2.1⟩
          ·intro j hj hj2
           by_cases hjk : j < k
           ·have e : (fs ++ [(⟨vr, sz, subs⟩ : Fr)]).getD j ⟨false, 0, []⟩ = fs.getD j ⟨false, 0, []⟩ := by rw [List.getD_eq_getElem?_getD, List.getD_eq_getElem?_getD, List.getElem?_append_left (by omega)]
            rw [e]; exact Y2.out.2.2.1 j hjk hj2
           ·obtain rfl : j = k := by omega
            have e : (fs ++ [(⟨vr, sz, subs⟩ : Fr)]).getD j ⟨false, 0, []⟩ = ⟨vr, sz, subs⟩ := by rw [List.getD_eq_getElem?_getD, List.getElem?_append_right (by omega), hfl, Nat.sub_self]; rfl
            rw [e]; exact hsz16 hj2
          ·exact t12.heap (tw.heap U.out.1 (by simp)) (fun hm => by obtain ⟨_, cs, h⟩ := own_ty oo11 N hm; exact blk_ne (tw.heap U.out.1 (by simp)) h (by decide) rfl)
          ·exact t12.heap (tw.heap U.out.2.1 (by simp)) (fun hm => by obtain ⟨_, cs, h⟩ := own_ty oo11 G hm; exact blk_ne (tw.heap U.out.2.1 (by simp)) h (by decide) rfl)
         case measure => simp [intOf]; omega
   ·obtain rfl : k = n3 := by omega
    have g0 : wr.cell? ⟨G, 0, none⟩ = some (.int .i64 0) := by rw [cell_of_row wr G 0 _ _ _ Y2.out.2.2.2.2.1]; rfl
    have s0 : ∀ i, wr.frozen? ⟨G, i, none⟩ = false := fun i => by simp [World.frozen?, Y2.out.2.2.2.2.1]
    have g1 : wr.cell? ⟨G, 1, none⟩ = some (.int .i64 0) := by rw [cell_of_row wr G 1 _ _ _ Y2.out.2.2.2.2.1]; rfl
    have g7 : wr.cell? ⟨G, 7, none⟩ = some (.int .u64 0) := by rw [cell_of_row wr G 7 _ _ _ Y2.out.2.2.2.2.1]; rfl
    go_upto_region 49 with fail
    obtain ⟨w5, hw5⟩ : ∃ w5, ((wr.setCell ⟨G, 0, none⟩ (.int .i64 16)).setCell ⟨G, 1, none⟩ (.int .i64 4096)).setCell ⟨G, 7, none⟩ (.int .u64 d) = w5 := ⟨_, rfl⟩
    have t5 : Touch [G] wr w5 := by rw [← hw5]; exact (((Touch.refl [G] wr).setCell (p := ⟨G, 0, none⟩) (.inl (by simp)) _).setCell (p := ⟨G, 1, none⟩) (.inl (by simp)) _).setCell (p := ⟨G, 7, none⟩) (.inl (by simp)) _
    have hg5 : w5.heap[G]? = some (.cells #[.int .i64 16, .int .i64 4096, .int .i64 0, .int .i64 0, .int .i64 rt, .int .i64 nch, .int .i64 bp, .int .u64 d, .slice none 0 0] 26 (0, 0)) := by
     rw [← hw5, blk_set (blk_set (blk_set Y2.out.2.2.2.2.1 0 (.int .i64 16)) 1 (.int .i64 4096)) 7 (.int .u64 d)]
     simp only [List.setIfInBounds_toArray, List.set_cons_zero, List.set_cons_succ]
    rw [hw5]
    have bw5 : Below N w w5 := by
     have h := t5.below (w0 := w) (by rw [hN]; exact Y2.out.2.2.2.2.2) (fun j hj => by
      obtain rfl : j = G := by simpa using hj
      rw [hN]; omega)
     rw [hN] at h; exact h
    have X5 := Lib.hid (And.intro t5 (And.intro hg5 bw5))
    have i0 : w5.cell? ⟨G, 0, none⟩ = some (.int .i64 16) := by rw [cell_of_row w5 G 0 _ _ _ hg5]; rfl
    have i1 : w5.cell? ⟨G, 1, none⟩ = some (.int .i64 4096) := by rw [cell_of_row w5 G 1 _ _ _ hg5]; rfl
    have i2 : w5.cell? ⟨G, 2, none⟩ = some (.int .i64 0) := by rw [cell_of_row w5 G 2 _ _ _ hg5]; rfl
    have i3 : w5.cell? ⟨G, 3, none⟩ = some (.int .i64 0) := by rw [cell_of_row w5 G 3 _ _ _ hg5]; rfl
    have i4 : w5.cell? ⟨G, 4, none⟩ = some (.int .i64 rt) := by rw [cell_of_row w5 G 4 _ _ _ hg5]; rfl
    have i5' : w5.cell? ⟨G, 5, none⟩ = some (.int .i64 nch) := by rw [cell_of_row w5 G 5 _ _ _ hg5]; rfl
    have i6 : w5.cell? ⟨G, 6, none⟩ = some (.int .i64 bp) := by rw [cell_of_row w5 G 6 _ _ _ hg5]; rfl
    have i7' : w5.cell? ⟨G, 7, none⟩ = some (.int .u64 d) := by rw [cell_of_row w5 G 7 _ _ _ hg5]; rfl
    have i8 : w5.cell? ⟨G, 8, none⟩ = some (.slice none 0 0) := by rw [cell_of_row w5 G 8 _ _ _ hg5]; rfl
    obtain ⟨b25, hb25⟩ : ∃ b, (Go.bits .and .u32 ((flags : Int) / 33554432) 1 == 0) = b := ⟨_, rfl⟩
    obtain ⟨b25b, hb25b⟩ : ∃ b, (Go.bits .and .u32 ((flags : Int) / 33554432) 1 == 1) = b := ⟨_, rfl⟩
    have hrtb : rt ≤ 655350 := by rcases HR.out.1 with h | h | h | h | h | h | h <;> omega
    have hbpb : 0 < bp ∧ bp ≤ 24 := by rcases HR.out.2 with h | h | h | h | h <;> omega
    have HWI := Lib.hid (write_info_any (last := b25) (w := w5) hrtb hn1 hn8 hbpb.1 hbpb.2 (show d ≤ 1000000 by omega))
    clear hw5 t5 hg5 bw5 g0 g1 g7 s0 hbpb hrtb
    go_wp2_with fail
    refine HWI.out.mono ?_
    rintro e w6 ⟨hb6, x6, l6, rfl, ho6, hl6⟩
    obtain ⟨A6, c6, rfl, hr6⟩ := own_reads ho6
    have X6 := Lib.hid (And.intro hb6 (And.intro ho6 hl6))
    clear i0 i1 i2 i3 i4 i5' i6 i7' i8 HWI hb6 ho6 hl6 hr6
    go_upto_if 229 with fail
    go_cut [33] from 230 to 236 (fun y wx => ∃ l, wx.ownsRow N 5 1 y l.length (nums .u8 l) ∧ l.length ≤ 3000 ∧ Below w5.heap.size w5 wx)
    case first =>
     cases b25b
     ·go_wp2_with fail
      go_meet
      exact ⟨l6, own_weak X6.out.2.1 (by rw [← hN]; exact X5.out.2.2.size), by have := X6.out.2.2; omega, X6.out.1⟩
     ·obtain ⟨m, hm⟩ : ∃ m, flags / 67108864 % 40 = m := ⟨_, rfl⟩
      have em : (flags : Int) / 67108864 % 40 = (m : Int) := by omega
      have hm40 : m < 40 := by omega
      clear hm
      have hmk := mk_bytes m (by omega)
      go_wp2_with fail
      refine (write_block_any (mk_reads m w6 (by omega)) (by omega)).mono ?_
      rintro e w8 ⟨hb8, x8, l8, rfl, ho8, hl8⟩
      obtain ⟨A8, c8, rfl, hr8⟩ := own_reads ho8
      have hbA := below_alloc (Below.refl w6.heap.size w6) (.cells (madeCells #[.int .u8 0] m) 5)
      have X8 := Lib.hid (And.intro hr8 (And.intro (below_then hbA hbA.size hb8) hl8))
      clear hb8 hr8 ho8 hl8 hbA hmk
      go_wp2_with (with_reducible refine stop_dst (N := 236) rfl ?_)
      refine unstop ?_
      refine print_append_row (w0 := w5) w5.heap.size rfl (.tmp 230) (.tmp 235) 23 5 .u8 1 rfl Tryz.underlying23 infoU8 (by decide) (.slice A6 l6.length c6) l6 l8 A8 l8.length c8 rfl rfl ?bO ?bR ?bB ?bS ?bL ?_
      case bO => exact own_touch X6.out.2.1 (Touch.of_below (S := []) X8.out.2.1) (by simp)
      case bR => exact X8.out.1
      case bB => exact below_then X6.out.1 X6.out.1.size X8.out.2.1
      case bS => exact Nat.le_trans X6.out.1.size X8.out.2.1.size
      case bL => have h1 := X6.out.2.2; have h2 := X8.out.2.2; omega
      intro v9 w9 hO9 hB9 _ _
      go_wp2_with fail
      go_meet
      exact ⟨l6 ++ l8, own_weak hO9 (by rw [← hN]; exact X5.out.2.2.size), by have h1 := X6.out.2.2; have h2 := X8.out.2.2; simp; omega, hB9⟩
    case rest =>
     obtain ⟨l7, ho7, hl7, hb7⟩ := hcut
     obtain ⟨A7, c7, rfl, hr7⟩ := own_reads ho7
     have X7 := Lib.hid (And.intro ho7 (And.intro hl7 (And.intro hb7 hr7)))
     have hg7 : wc.drew.heap[G]? = some (.cells #[.int .i64 16, .int .i64 4096, .int .i64 0, .int .i64 0, .int .i64 rt, .int .i64 nch, .int .i64 bp, .int .u64 d, .slice none 0 0] 26 (0, 0)) := (hb7.block G (Array.getElem?_eq_some_iff.1 X5.out.2.1).1).trans X5.out.2.1
     have hz5 := X5.out.1.heap Y2.out.2.2.2.1 (by simp; omega)
     have hz7 : wc.drew.heap[N]? = some (.cells #[.int .i64 0, .int .i64 0, .int .i64 0, .int .i64 0, .int .i64 0, .int .i64 0, .int .i64 0, .int .u64 0, .slice none 0 0] 26 (0, 0)) := (hb7.block N (Array.getElem?_eq_some_iff.1 hz5).1).trans hz5
     have tB : Touch [] w5 wc := Touch.of_below hb7
     have oo5 := own_touch Y1.out.2.2.2.2.1 X5.out.1 (own_notin Y1.out.2.2.2.2.1 Y2.out.2.2.2.2.1 (by decide))
     have oo7 := own_touch oo5 tB (by simp)
     obtain ⟨A21, c21, rfl, hr21⟩ := own_reads oo7
     have X8 := Lib.hid (And.intro hz7 (And.intro tB (And.intro hr21 hz5)))
     clear ho7 hl7 hb7 hr7 hz5 hz7 tB oo5 oo7 hr21
     go_upto_region 52 with fail
     refine wp_region_held_drew (S := fun w' => w'.heap[G]? = some (.cells #[.int .i64 16, .int .i64 4096, .int .i64 0, .int .i64 0, .int .i64 rt, .int .i64 nch, .int .i64 bp, .int .u64 d, .slice none 0 0] 26 (0, 0))) (by kernel_rfl) hg7 (fun HS0 => ?_)
     refine wpAnyH_take (i := 0) (oi := ⟨some 237, .load 26 (.tmp 12), 26, "flac.go:98", #[], none⟩) (v := ?vsv1) rfl (by kernel_rfl) (by kernel_rfl) (by kernel_rfl) (fun _ _ _ h => h) (Or.inl ⟨by rfl, ?ysv1⟩) HS0 ?rsv1
     case ysv1 =>
      intro w' hSw
      (try dsimp only at hSw)
      have p0 : w'.cell? ⟨G, 0, none⟩ = some (.int .i64 16) := by rw [cell_of_row w' G 0 _ _ _ hSw]; rfl
      have p1 : w'.cell? ⟨G, 1, none⟩ = some (.int .i64 4096) := by rw [cell_of_row w' G 1 _ _ _ hSw]; rfl
      have p2 : w'.cell? ⟨G, 2, none⟩ = some (.int .i64 0) := by rw [cell_of_row w' G 2 _ _ _ hSw]; rfl
      have p3 : w'.cell? ⟨G, 3, none⟩ = some (.int .i64 0) := by rw [cell_of_row w' G 3 _ _ _ hSw]; rfl
      have p4 : w'.cell? ⟨G, 4, none⟩ = some (.int .i64 rt) := by rw [cell_of_row w' G 4 _ _ _ hSw]; rfl
      have p5 : w'.cell? ⟨G, 5, none⟩ = some (.int .i64 nch) := by rw [cell_of_row w' G 5 _ _ _ hSw]; rfl
      have p6 : w'.cell? ⟨G, 6, none⟩ = some (.int .i64 bp) := by rw [cell_of_row w' G 6 _ _ _ hSw]; rfl
      have p7 : w'.cell? ⟨G, 7, none⟩ = some (.int .u64 d) := by rw [cell_of_row w' G 7 _ _ _ hSw]; rfl
      have p8 : w'.cell? ⟨G, 8, none⟩ = some (.slice none 0 0) := by rw [cell_of_row w' G 8 _ _ _ hSw]; rfl
      go_simp
      all_goals (with_reducible rfl)
     (try simp only [Act.put, List.setIfInBounds_toArray, List.set_cons_zero, List.set_cons_succ])
     refine wpAnyH_take (i := 1) (oi := ⟨some 238, .move (.tmp 19), 27, "flac.go:98", #[⟨6, .gcOnly .lateStores⟩], none⟩) (v := ?vsv2) rfl (by kernel_rfl) (by kernel_rfl) (by kernel_rfl) (fun _ _ _ h => h) (Or.inl ⟨by rfl, ?ysv2⟩) HS0 ?rsv2
     case ysv2 =>
      intro w' hSw
      (try dsimp only at hSw)
      go_simp
      all_goals (with_reducible rfl)
     (try simp only [Act.put, List.setIfInBounds_toArray, List.set_cons_zero, List.set_cons_succ])
     refine wpAnyH_take (i := 2) (oi := ⟨some 239, .move (.tmp 20), 28, "flac.go:98", #[⟨7, .gcOnly .lateStores⟩], none⟩) (v := ?vsv3) rfl (by kernel_rfl) (by kernel_rfl) (by kernel_rfl) (fun _ _ _ h => h) (Or.inl ⟨by rfl, ?ysv3⟩) HS0 ?rsv3
     case ysv3 =>
      intro w' hSw
      (try dsimp only at hSw)
      go_simp
      all_goals (with_reducible rfl)
     (try simp only [Act.put, List.setIfInBounds_toArray, List.set_cons_zero, List.set_cons_succ])
     refine wpAnyH_take (i := 3) (oi := ⟨some 240, .move (.tmp 33), 23, "flac.go:98", #[], none⟩) (v := ?vsv4) rfl (by kernel_rfl) (by kernel_rfl) (by kernel_rfl) (fun _ _ _ h => h) (Or.inl ⟨by rfl, ?ysv4⟩) HS0 ?rsv4
     case ysv4 =>
      intro w' hSw
      (try dsimp only at hSw)
      go_simp
      all_goals (with_reducible rfl)
     (try simp only [Act.put, List.setIfInBounds_toArray, List.set_cons_zero, List.set_cons_succ])
     refine wpAnyH_take (i := 4) (oi := ⟨some 241, .move (.tmp 21), 23, "flac.go:98", #[], none⟩) (v := ?vsv5) rfl (by kernel_rfl) (by kernel_rfl) (by kernel_rfl) (fun _ _ _ h => h) (Or.inl ⟨by rfl, ?ysv5⟩) HS0 ?rsv5
     case ysv5 =>
      intro w' hSw
      (try dsimp only at hSw)
      go_simp
      all_goals (with_reducible rfl)
     (try simp only [Act.put, List.setIfInBounds_toArray, List.set_cons_zero, List.set_cons_succ])
     refine wpAnyH_ready (rs := [5]) (by kernel_rfl) (by simp) ?_
     refine (AllReadyH.cons (o := ⟨some 242, .call ⟨.builtin .append, #[.tmp 240, .tmp 241], #[23, 23]⟩, 23, "flac.go:98", #[⟨3, .data⟩, ⟨4, .data⟩], none⟩) rfl (fun K hK => ?ksv10) AllReadyH.nil)
     case ksv10 =>
      refine step_append_ints N rfl (.tmp 240) (.tmp 241) 23 5 .u8 1 rfl Tryz.underlying23 infoU8 (by decide) (.slice A7 l7.length c7) l7 ol A21 ol.length c21 rfl rfl X7.out.1 X8.out.2.2.1 ?sB ?sL ?_
      case sB => exact Nat.le_trans (by rw [← hN]; exact X5.out.2.2.size) X7.out.2.2.1.size
      case sL => have h1 := Y1.out.2.2.2.2.2; have h2 := X7.out.2.1; omega
      intro v9 w9 hO9 hG9
      have t9 := grown_touch hG9
      have HS9 := t9.heap HS0 (fun hm => by obtain ⟨_, cs, h⟩ := own_ty X7.out.1 G hm; exact blk_ne HS0 h (by decide) rfl)
      have hz9 := t9.heap X8.out.1 (fun hm => by obtain ⟨_, cs, h⟩ := own_ty X7.out.1 N hm; exact blk_ne X8.out.1 h (by decide) rfl)
      refine hK.out _ _ HS9 (fun HS9 => ?_)
      clear hK K
      (try simp only [Act.put, List.setIfInBounds_toArray, List.set_cons_zero, List.set_cons_succ])
      refine wpAnyH_ready (rs := [6]) (by kernel_rfl) (by simp) ?_
      refine (AllReadyH.cons (o := ⟨none, .store 26 (.tmp 8) (.tmp 237), 0, "flac.go:98", #[⟨0, .data⟩, ⟨5, .chain⟩, ⟨0, .phase⟩, ⟨1, .textOnly .lateStores⟩, ⟨2, .textOnly .lateStores⟩, ⟨3, .textOnly .lateStores⟩, ⟨4, .textOnly .lateStores⟩, ⟨5, .textOnly .lateStoresUnsure⟩], none⟩) rfl (fun K hK => ?ksv9) AllReadyH.nil)
      case ksv9 =>
       have e0 : w9.cell? ⟨N, 0, none⟩ = some (.int .i64 0) := by rw [cell_of_row w9 N 0 _ _ _ hz9]; rfl
       have f0 : w9.frozen? ⟨N, 0, none⟩ = false := by simp [World.frozen?, hz9]
       have e1 : w9.cell? ⟨N, 1, none⟩ = some (.int .i64 0) := by rw [cell_of_row w9 N 1 _ _ _ hz9]; rfl
       have f1 : w9.frozen? ⟨N, 1, none⟩ = false := by simp [World.frozen?, hz9]
       have e2 : w9.cell? ⟨N, 2, none⟩ = some (.int .i64 0) := by rw [cell_of_row w9 N 2 _ _ _ hz9]; rfl
       have f2 : w9.frozen? ⟨N, 2, none⟩ = false := by simp [World.frozen?, hz9]
       have e3 : w9.cell? ⟨N, 3, none⟩ = some (.int .i64 0) := by rw [cell_of_row w9 N 3 _ _ _ hz9]; rfl
       have f3 : w9.frozen? ⟨N, 3, none⟩ = false := by simp [World.frozen?, hz9]
       have e4 : w9.cell? ⟨N, 4, none⟩ = some (.int .i64 0) := by rw [cell_of_row w9 N 4 _ _ _ hz9]; rfl
       have f4 : w9.frozen? ⟨N, 4, none⟩ = false := by simp [World.frozen?, hz9]
       have e5 : w9.cell? ⟨N, 5, none⟩ = some (.int .i64 0) := by rw [cell_of_row w9 N 5 _ _ _ hz9]; rfl
       have f5 : w9.frozen? ⟨N, 5, none⟩ = false := by simp [World.frozen?, hz9]
       have e6 : w9.cell? ⟨N, 6, none⟩ = some (.int .i64 0) := by rw [cell_of_row w9 N 6 _ _ _ hz9]; rfl
       have f6 : w9.frozen? ⟨N, 6, none⟩ = false := by simp [World.frozen?, hz9]
       have e7 : w9.cell? ⟨N, 7, none⟩ = some (.int .u64 0) := by rw [cell_of_row w9 N 7 _ _ _ hz9]; rfl
       have f7 : w9.frozen? ⟨N, 7, none⟩ = false := by simp [World.frozen?, hz9]
       have e8 : w9.cell? ⟨N, 8, none⟩ = some (.slice none 0 0) := by rw [cell_of_row w9 N 8 _ _ _ hz9]; rfl
       have f8 : w9.frozen? ⟨N, 8, none⟩ = false := by simp [World.frozen?, hz9]
       go_simp
       obtain ⟨wz, hwz, tz, z0, z1, z2, z3, z4, z5, z6, z7, z8⟩ := st_info (i0 := 16) (i1 := 4096) (i2 := 0) (i3 := 0) (i4 := rt) (i5 := nch) (i6 := bp) (i7 := d) (u8 := .slice none 0 0) hz9
       rw [hwz]
       refine hK.out _ _ (tz.heap HS9 (by simp; omega)) (fun HSz => ?_)
       clear hK K e0 e1 e2 e3 e4 e5 e6 e7 e8 f0 f1 f2 f3 f4 f5 f6 f7 f8
       (try simp only [Act.put, List.setIfInBounds_toArray, List.set_cons_zero, List.set_cons_succ])
       refine wpAnyH_take (i := 7) (oi := ⟨some 9, .assign (.tmp 238), 27, "flac.go:98", #[⟨1, .data⟩, ⟨6, .chain⟩, ⟨0, .phase⟩, ⟨1, .phase⟩, ⟨2, .textOnly .lateStores⟩, ⟨3, .textOnly .lateStores⟩, ⟨4, .textOnly .lateStores⟩, ⟨5, .textOnly .lateStoresUnsure⟩, ⟨6, .phase⟩], none⟩) (v := ?vsv6) rfl (by kernel_rfl) (by kernel_rfl) (by kernel_rfl) (fun _ _ _ h => h) (Or.inl ⟨by rfl, ?ysv6⟩) HSz ?rsv6
       case ysv6 =>
        intro w' hSw
        (try dsimp only at hSw)
        go_simp
        all_goals (with_reducible rfl)
       (try simp only [Act.put, List.setIfInBounds_toArray, List.set_cons_zero, List.set_cons_succ])
       refine wpAnyH_take (i := 8) (oi := ⟨some 10, .assign (.tmp 239), 28, "flac.go:98", #[⟨2, .data⟩, ⟨7, .chain⟩, ⟨0, .phase⟩, ⟨1, .phase⟩, ⟨2, .phase⟩, ⟨3, .textOnly .lateStores⟩, ⟨4, .textOnly .lateStores⟩, ⟨5, .textOnly .lateStoresUnsure⟩, ⟨6, .phase⟩, ⟨7, .phase⟩], none⟩) (v := ?vsv7) rfl (by kernel_rfl) (by kernel_rfl) (by kernel_rfl) (fun _ _ _ h => h) (Or.inl ⟨by rfl, ?ysv7⟩) HSz ?rsv7
       case ysv7 =>
        intro w' hSw
        (try dsimp only at hSw)
        go_simp
        all_goals (with_reducible rfl)
       (try simp only [Act.put, List.setIfInBounds_toArray, List.set_cons_zero, List.set_cons_succ])
       refine wpAnyH_take (i := 9) (oi := ⟨some 11, .assign (.tmp 242), 23, "flac.go:98", #[⟨5, .data⟩, ⟨8, .chain⟩, ⟨0, .phase⟩, ⟨1, .phase⟩, ⟨2, .phase⟩, ⟨3, .phase⟩, ⟨4, .phase⟩, ⟨5, .phase⟩, ⟨6, .phase⟩, ⟨7, .phase⟩, ⟨8, .phase⟩], none⟩) (v := ?vsv8) rfl (by kernel_rfl) (by kernel_rfl) (by kernel_rfl) (fun _ _ _ h => h) (Or.inl ⟨by rfl, ?ysv8⟩) HSz ?rsv8
       case ysv8 =>
        intro w' hSw
        (try dsimp only at hSw)
        go_simp
        all_goals (with_reducible rfl)
       (try simp only [Act.put, List.setIfInBounds_toArray, List.set_cons_zero, List.set_cons_succ])
       refine wpAnyH_done (by kernel_rfl) ?_ _
       go_wp2_with fail
       have tA : Touch [G] wr w5 := X5.out.1
       have tB : Touch [] w5 wc := X8.out.2.1
       have oh7' := own_touch (own_touch Y1.out.1 tA (own_notin Y1.out.1 Y2.out.2.2.2.2.1 (by decide))) tB (by simp)
       have oh7 : wc.drew.ownsRow N 32 6 u19 k hs := oh7'
       have oa7' := own_touch (own_touch Y1.out.2.2.1 tA (own_notin Y1.out.2.2.1 Y2.out.2.2.2.2.1 (by decide))) tB (by simp)
       have oa7 : wc.drew.ownsRow N 38 1 u20 k vs := oa7'
       have o77 : wc.drew.ownsRow N 5 1 (.slice A7 l7.length c7) l7.length (nums .u8 l7) := X7.out.1
       have oh9 := own_touch oh7 t9 (own_far2 oh7 o77 (by decide))
       have oa9 := own_touch oa7 t9 (own_far2 oa7 o77 (by decide))
       have oh10 := own_touch oh9 tz (own_notin oh9 hz9 (by decide))
       have oa10 := own_touch oa9 tz (own_notin oa9 hz9 (by decide))
       have ra5 := Y1.out.2.2.2.1.touch tA (fun j hj => by
        obtain rfl : j = G := by simpa using hj
        exact ⟨_, _, _, Y2.out.2.2.2.2.1, by decide, by decide⟩)
       have ra7' := ra5.touch tB (by simp)
       have ra7 : AllRows wc.drew N vs fs k := ra7'
       have ra9 := ra7.touch t9 (fun j hj => by obtain ⟨_, cs, h⟩ := own_ty X7.out.1 j hj; exact ⟨_, _, _, h, by decide, by decide⟩)
       have ra10 := ra9.touch tz (fun j hj => by
        obtain rfl : j = N := by simpa using hj
        exact ⟨_, _, _, hz9, by decide, by decide⟩)
       have bA : Below N w wc := X5.out.2.2.trans ⟨X7.out.2.2.1.os, X7.out.2.2.1.tape, X7.out.2.2.1.output, X7.out.2.2.1.size, fun j hj => X7.out.2.2.1.block j (Nat.lt_of_lt_of_le hj (by rw [← hN]; exact X5.out.2.2.size))⟩
       have b9 := t9.below (w0 := w) (by rw [hN]; exact bA.drew) (fun j hj => by rw [hN]; exact (own_ty X7.out.1 j hj).1)
       have b10 := tz.below b9 (fun j hj => by
        obtain rfl : j = N := by simpa using hj
        rw [hN]; exact Nat.le_refl _)
       rw [hN] at b10
       have hd768 : d ≤ 768 := by omega
       rw [HN3.out]
       refine bodyPost_ret (v := .tuple #[.agg #[.int .i64 16, .int .i64 4096, .int .i64 0, .int .i64 0, .int .i64 rt, .int .i64 nch, .int .i64 bp, .int .u64 d, .slice none 0 0], u19, u20, v9]) (by simp [results, Tryz.results4, go_sem, z0, z1, z2, z3, z4, z5, z6, z7, z8]) rfl ?_
       exact ⟨b10, rt, bp, asg, nch, d, fs, hs, vs, u19, u20, v9, rfl, HR.out.1, HR.out.2, hasg10, HN.out.1, hd768, Y2.out.1, oh10, Y1.out.2.1, oa10, ra10, Y2.out.2.1, fun i hi => Y2.out.2.2.1 i (by omega) hi⟩
end Go.Proofs.YtmcllndnjdemaaaGreatDoor.Walk

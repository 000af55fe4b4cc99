/- io.ReadFull over whatever source whose Read is known: it lays the next m bytes into the target's row, or tells an error where fewer are left. -/
import Derived.Test.YtcdfbcanebjmfaaDoorRdr
import Derived.LaidEql
import Derived.Deep.RegionWith
namespace Go.Proofs.YtcdfbcanebjmfaaDoor.Walk
set_option linter.unusedVariables false
set_option linter.unusedSimpArgs false
open Go Go.RowKit Go.Proofs.YtcdfbcanebjmfaaDoorW.PrintWords

/-- A source of the bytes l: a value of dynamic type ty at block g, whose method Read is function fn; St w p: in w the first p bytes have been read. It writes the blocks S, and reads the blocks D. -/
structure Src (ty fn g : Nat) (S D : List Nat) (l : List Int) (St : World → Nat → Prop) : Prop where
  nilA : ∀ w : World, (nilAhead 264 ty (.pointer (some ⟨g, 0, none⟩)) "Read").run Tryd.prog w = .ok (some false) w
  meth : ∀ w : World, (method 264 ty (.pointer (some ⟨g, 0, none⟩)) "Read").run Tryd.prog w = .ok (fn, .pointer (some ⟨g, 0, none⟩)) w
  call : ∀ (args : Array Value) (w : World), Sem.run Tryd.prog (callFunc fn args) w = .ok (Next.enter fn args) w
  move : ∀ (U : List Nat) (w w' : World) (p : Nat), St w p → (∀ k ∈ U, k ∉ D) → Touch U w w' → St w' p
  sub : ∀ k ∈ S, k ∈ D
  le : ∀ w p, St w p → p ≤ l.length
  read : ∀ (w : World) (p gb off m cb : Nat) (cur : List Value) (T : Nat), St w p → p < l.length → w.heap[gb]? = some (.cells cur.toArray T (0, 0)) → off + m ≤ cur.length → 0 < m → m ≤ cb → gb ∉ D →
    Calls Tryd.prog fn #[.pointer (some ⟨g, 0, none⟩), .slice (some ⟨gb, off, none⟩) m cb] w fun e w' =>
      e = .returned (.tuple #[.int .i64 (min m (l.length - p) : Nat), .nilIface]) ∧ Touch (gb :: S) w w' ∧ St w' (p + min m (l.length - p)) ∧
      w'.heap[gb]? = some (.cells (splice cur off (nums .u8 ((l.drop p).take m))).toArray T (0, 0))
  eof : ∀ (w : World) (p : Nat) (b : Value) (E : Value), St w p → l.length ≤ p → w.cell? ⟨1, 0, none⟩ = some E →
    Calls Tryd.prog fn #[.pointer (some ⟨g, 0, none⟩), b] w fun e w' => e = .returned (.tuple #[.int .i64 0, E]) ∧ Touch S w w' ∧ St w' p

/-- buf[j:]. -/
theorem cutAt (gb off m cb j : Nat) (hj : j ≤ m) (hc : j < cb) :
    ∀ W : World, (Instr.slice 25 (.slice (some ⟨gb, off, none⟩) m cb) (some (.int .i64 (j : Int))) none none).run Tryd.prog W = .ok (.slice (some ⟨gb, off + j, none⟩) (m - j) (cb - j)) W := by
  obtain ⟨i0, hi, hz⟩ := Option.map_eq_some_iff.1 sizeU8
  intro W
  have h := cut_from (P := Tryd.prog) 25 5 .i64 Tryd.underlying25 hi 1 hz (some ⟨gb, off, none⟩) m cb (j : Int) (by omega) (by omega) W
  rw [h]
  have e : (j : Int).toNat = j := by omega
  rw [e, if_neg (by omega)]
  have : (⟨gb, off, none⟩ : Addr).add (j * 1) = ⟨gb, off + j, none⟩ := by rw [add_at]; simp
  rw [Option.map_some, this]
theorem cutAt0 (gb off m cb : Nat) (hc : 0 < cb) :
    ∀ W : World, (Instr.slice 25 (.slice (some ⟨gb, off, none⟩) m cb) (some (.int .i64 0)) none none).run Tryd.prog W = .ok (.slice (some ⟨gb, off, none⟩) m cb) W :=
  cutAt gb off m cb 0 (by omega) hc

set_option maxHeartbeats 1000000 in
set_option maxRecDepth 100000 in
theorem atLeast_ok {ty fn g : Nat} {S D : List Nat} {l : List Int} {St : World → Nat → Prop} (R : Src ty fn g S D l St) (w : World) (p gb off m cb : Nat) (cur : List Value) (T : Nat)
    (hs : St w p) (hp : p + m ≤ l.length) (hb : w.heap[gb]? = some (.cells cur.toArray T (0, 0))) (hfit : off + m ≤ cur.length) (hm : 0 < m) (hcb : m ≤ cb) (hbig : m ≤ 9223372036854775807) (hg : gb ∉ D) :
    Calls Tryd.prog 41 #[.iface ty (.pointer (some ⟨g, 0, none⟩)), .slice (some ⟨gb, off, none⟩) m cb, .int .i64 m] w fun e w' =>
      e = .returned (.tuple #[.int .i64 m, .nilIface]) ∧ Touch (gb :: S) w w' ∧ St w' (p + m) ∧
      w'.heap[gb]? = some (.cells (splice cur off (nums .u8 ((l.drop p).take m))).toArray T (0, 0)) := by
  have hmf : ∀ (fn : Fn) (first cap : Array Value) (w : World), (Instr.makeFunc fn first cap).run Tryd.prog w = .ok (.func fn first cap) w := fun _ _ _ _ => rfl
  have h1 := R.nilA
  have h2 := R.meth
  have h4 := R.call
  have h3 := cutAt0 gb off m cb (by omega)
  have HS := Lib.hid hs
  have HB := Lib.hid hb
  have HG := Lib.hid hg
  have HP := Lib.hid hp
  clear hs hb hg hp
  go_enter Tryd.func41, Tryd.ntmps41
  go_wp2
  refine wp_loop_rounds 2 ?_
  rw [rounds_succ]
  go_wp2
  have hw : ∀ n, St (w.drewN n) p := fun n => R.move [] w _ p HS.out (by simp) ((Touch.refl _ _).drewN n)
  have HW := Lib.hid (hw 1)
  clear hw
  go_region_with (first | (refine (R.read w.drew p gb off m cb cur T HW.out (by have := HP.out; omega) HB.out hfit hm hcb HG.out).mono ?_; rintro e w' ⟨rfl, ht, hs', hb'⟩))
  all_goals
    have hmin : min m (l.length - p) = m := by have := HP.out; omega
    rw [hmin] at hs' 
    rw [hmin]
    have HS' := Lib.hid hs'
    have HB' := Lib.hid hb'
    have HT' := Lib.hid ht
    clear hs' hb' ht hmin
    go_wp2
    rw [rounds_succ]
    go_wp2
  go_ret2
  exact ⟨rfl, ((Touch.refl _ _).drew).trans HT'.out, HS'.out, HB'.out⟩

/-- An error's block can be asked for. -/
def ErrAt (w : World) (a : Addr) : Prop := ∃ c t, w.heap[a.block]? = some (.cells c t (0, 0))
/-- A block that holds no listed variable, nor what it points to. -/
def Safe (ea eb : Addr) (k : Nat) : Prop := k ≠ 1 ∧ k ≠ 2 ∧ k ≠ ea.block ∧ k ≠ eb.block
/-- What the walks ask of io.EOF and io.ErrUnexpectedEOF: pointers to two errors. -/
structure Glob (w : World) (ea eb : Addr) : Prop where
  eof : w.cell? ⟨1, 0, none⟩ = some (.iface 130 (.pointer (some ea)))
  uef : w.cell? ⟨2, 0, none⟩ = some (.iface 130 (.pointer (some eb)))
  ata : ErrAt w ea
  atb : ErrAt w eb
theorem ErrAt.touch {U : List Nat} {w w' : World} {a : Addr} (h : ErrAt w a) (t : Touch U w w') (hU : a.block ∉ U) : ErrAt w' a := by
  obtain ⟨c, ty, h⟩ := h
  exact ⟨c, ty, t.heap h hU⟩
theorem Glob.touch {U : List Nat} {w w' : World} {ea eb : Addr} (h : Glob w ea eb) (t : Touch U w w') (hU : ∀ k ∈ U, Safe ea eb k) : Glob w' ea eb :=
  ⟨t.cell h.eof (fun hm => (hU _ hm).1 rfl), t.cell h.uef (fun hm => (hU _ hm).2.1 rfl), h.ata.touch t (fun hm => (hU _ hm).2.2.1 rfl), h.atb.touch t (fun hm => (hU _ hm).2.2.2 rfl)⟩
theorem compErr : (Tryd.prog.info? 130).map (·.comparable) = some true := by kernel_rfl
theorem sizeErr : (Tryd.prog.info? 132).map (·.size) = some 1 := by kernel_rfl
/-- err == io.EOF, err being it. -/
theorem eqlErr (a : Addr) (w : World) : (binOp .eql 50 (.iface 130 (.pointer (some a))) (.iface 130 (.pointer (some a)))).run Tryd.prog w = .ok (.bool true) w := by
  obtain ⟨i, hi, hc⟩ := Option.map_eq_some_iff.1 compErr
  obtain ⟨j, hj, _⟩ := Option.map_eq_some_iff.1 sizeErr
  exact run_eql_iface_ptr_same w a Tryd.underlying50 Tryd.underlying130 hi hc hj

set_option maxHeartbeats 1000000 in
set_option maxRecDepth 100000 in
theorem atLeast_end {ty fn g : Nat} {S D : List Nat} {l : List Int} {St : World → Nat → Prop} (R : Src ty fn g S D l St) (w : World) (p gb off m cb : Nat) (ea eb : Addr)
    (hs : St w p) (hp : p = l.length) (hm : 0 < m) (hcb : m ≤ cb) (hbig : m ≤ 9223372036854775807) (hG : Glob w ea eb) :
    Calls Tryd.prog 41 #[.iface ty (.pointer (some ⟨g, 0, none⟩)), .slice (some ⟨gb, off, none⟩) m cb, .int .i64 m] w fun e w' =>
      e = .returned (.tuple #[.int .i64 0, .iface 130 (.pointer (some ea))]) ∧ Touch S w w' ∧ St w' p := by
  have hmf : ∀ (fn : Fn) (first cap : Array Value) (w : World), (Instr.makeFunc fn first cap).run Tryd.prog w = .ok (.func fn first cap) w := fun _ _ _ _ => rfl
  have h1 := R.nilA
  have h2 := R.meth
  have h4 := R.call
  have h3 := cutAt0 gb off m cb (by omega)
  have HS := Lib.hid hs
  have HP := Lib.hid hp
  have hE := hG.eof
  clear hs hp hG
  go_enter Tryd.func41, Tryd.ntmps41
  go_wp2
  refine wp_loop_rounds 2 ?_
  rw [rounds_succ]
  go_wp2
  have hw : ∀ n, St (w.drewN n) p := fun n => R.move [] w _ p HS.out (by simp) ((Touch.refl _ _).drewN n)
  have HW := Lib.hid (hw 1)
  clear hw
  go_region_with (first | (refine (R.eof w.drew p (.slice (some ⟨gb, off, none⟩) m cb) _ HW.out (by have := HP.out; omega) hE).mono ?_; rintro e w' ⟨rfl, ht, hs'⟩))
  all_goals
    have HS' := Lib.hid hs'
    have HT' := Lib.hid ht
    clear hs' ht
    go_wp2
    rw [rounds_succ]
    go_wp2
  go_ret2
  exact ⟨rfl, ((Touch.refl _ _).drew).trans HT'.out, HS'.out⟩

set_option maxHeartbeats 2000000 in
set_option maxRecDepth 100000 in
theorem atLeast_short {ty fn g : Nat} {S D : List Nat} {l : List Int} {St : World → Nat → Prop} (R : Src ty fn g S D l St) (w : World) (p gb off m cb : Nat) (cur : List Value) (T : Nat) (ea eb : Addr)
    (hs : St w p) (hp : p < l.length) (hpm : l.length < p + m) (hb : w.heap[gb]? = some (.cells cur.toArray T (0, 0))) (hfit : off + m ≤ cur.length) (hcb : m ≤ cb) (hbig : m ≤ 9223372036854775807)
    (hg : gb ∉ D) (hG : Glob w ea eb) (hsafe : ∀ k ∈ gb :: S, Safe ea eb k) :
    Calls Tryd.prog 41 #[.iface ty (.pointer (some ⟨g, 0, none⟩)), .slice (some ⟨gb, off, none⟩) m cb, .int .i64 m] w fun e w' =>
      e = .returned (.tuple #[.int .i64 (l.length - p : Nat), .iface 130 (.pointer (some eb))]) ∧ Touch (gb :: S) w w' ∧ St w' l.length := by
  have hmf : ∀ (fn : Fn) (first cap : Array Value) (w : World), (Instr.makeFunc fn first cap).run Tryd.prog w = .ok (.func fn first cap) w := fun _ _ _ _ => rfl
  have h1 := R.nilA
  have h2 := R.meth
  have h4 := R.call
  have heq := eqlErr ea
  obtain ⟨r, hr⟩ : ∃ r, l.length - p = r := ⟨_, rfl⟩
  have hr0 : 0 < r := by omega
  have hrm : r < m := by omega
  have h3 := cutAt0 gb off m cb (by omega)
  have h5 := cutAt gb off m cb r (by omega) (by omega)
  have HS := Lib.hid hs
  have HB := Lib.hid hb
  have HP := Lib.hid hp
  have HPM := Lib.hid hpm
  have HGD := Lib.hid hg
  have HGG := Lib.hid hG
  have HSF := Lib.hid hsafe
  have HR := Lib.hid hr
  rw [hr]
  clear hs hp hG hb hg hsafe hr hpm
  go_enter Tryd.func41, Tryd.ntmps41
  go_wp2
  refine wp_loop_rounds 3 ?_
  rw [rounds_succ]
  go_wp2
  have hw : ∀ n, St (w.drewN n) p := fun n => R.move [] w _ p HS.out (by simp) ((Touch.refl _ _).drewN n)
  have HW := Lib.hid (hw 1)
  clear hw
  go_region_with (first | (refine (R.read w.drew p gb off m cb cur T HW.out HP.out HB.out hfit (by omega) hcb HGD.out).mono ?_; rintro e w' ⟨rfl, ht, hs', hb'⟩))
  all_goals
    have hmin : min m (l.length - p) = r := by rw [HR.out]; omega
    rw [hmin] at hs'
    rw [hmin]
    have hend : p + r = l.length := by have := HR.out; have := HP.out; omega
    rw [hend] at hs'
    have HS' := Lib.hid hs'
    have HT' := Lib.hid (((Touch.refl (gb :: S) w).drew).trans ht)
    clear hs' hb' ht hmin hend
    have hE := (HGG.out.touch HT'.out HSF.out).eof
    go_wp2
    rw [rounds_succ]
    go_wp2
  have hw : ∀ n, St (w'.drewN n) l.length := fun n => R.move [] w' _ _ HS'.out (by simp) ((Touch.refl _ _).drewN n)
  have HW2 := Lib.hid (hw 1)
  clear hw
  go_region_with (first | (refine (R.eof w'.drew l.length (.slice (some ⟨gb, off + r, none⟩) (m - r) (cb - r)) _ HW2.out (Nat.le_refl _) hE).mono ?_; rintro e w2 ⟨rfl, ht, hs'⟩))
  all_goals
    have HS2 := Lib.hid hs'
    have HT2 := Lib.hid (HT'.out.trans (((Touch.refl (gb :: S) w').drew).trans (ht.mono (fun k _ hk => List.mem_cons_of_mem _ hk))))
    clear hs' ht hE
    have hE := (HGG.out.touch HT2.out HSF.out).eof
    have hU := (HGG.out.touch HT2.out HSF.out).uef
    go_wp2
    rw [rounds_succ]
    go_wp2
  go_ret2
  exact ⟨rfl, HT2.out, HS2.out⟩

set_option maxHeartbeats 1000000 in
theorem full_ok {ty fn g : Nat} {S D : List Nat} {l : List Int} {St : World → Nat → Prop} (R : Src ty fn g S D l St) (w : World) (p gb off m cb : Nat) (cur : List Value) (T : Nat)
    (hs : St w p) (hp : p + m ≤ l.length) (hb : w.heap[gb]? = some (.cells cur.toArray T (0, 0))) (hfit : off + m ≤ cur.length) (hm : 0 < m) (hcb : m ≤ cb) (hbig : m ≤ 9223372036854775807) (hg : gb ∉ D) :
    Calls Tryd.prog 38 #[.iface ty (.pointer (some ⟨g, 0, none⟩)), .slice (some ⟨gb, off, none⟩) m cb] w fun e w' =>
      e = .returned (.tuple #[.int .i64 m, .nilIface]) ∧ Touch (gb :: S) w w' ∧ St w' (p + m) ∧
      w'.heap[gb]? = some (.cells (splice cur off (nums .u8 ((l.drop p).take m))).toArray T (0, 0)) := by
  have H := Lib.hid (atLeast_ok R w p gb off m cb cur T hs hp hb hfit hm hcb hbig hg)
  clear hs hp hb hg hfit
  go_enter Tryd.func38, Tryd.ntmps38
  go_wp2_with fail
  refine H.out.mono ?_
  rintro e w' ⟨rfl, ht, hs, hb⟩
  have X := Lib.hid (And.intro ht (And.intro hs hb))
  clear ht hs hb
  go_wp2_with fail
  go_ret2
  exact ⟨rfl, X.out⟩

set_option maxHeartbeats 1000000 in
theorem full_end {ty fn g : Nat} {S D : List Nat} {l : List Int} {St : World → Nat → Prop} (R : Src ty fn g S D l St) (w : World) (p gb off m cb : Nat) (ea eb : Addr)
    (hs : St w p) (hp : p = l.length) (hm : 0 < m) (hcb : m ≤ cb) (hbig : m ≤ 9223372036854775807) (hG : Glob w ea eb) :
    Calls Tryd.prog 38 #[.iface ty (.pointer (some ⟨g, 0, none⟩)), .slice (some ⟨gb, off, none⟩) m cb] w fun e w' =>
      e = .returned (.tuple #[.int .i64 0, .iface 130 (.pointer (some ea))]) ∧ Touch S w w' ∧ St w' p := by
  have H := Lib.hid (atLeast_end R w p gb off m cb ea eb hs hp hm hcb hbig hG)
  clear hs hp hG
  go_enter Tryd.func38, Tryd.ntmps38
  go_wp2_with fail
  refine H.out.mono ?_
  rintro e w' ⟨rfl, ht, hs⟩
  have X := Lib.hid (And.intro ht hs)
  clear ht hs
  go_wp2_with fail
  go_ret2
  exact ⟨rfl, X.out⟩

set_option maxHeartbeats 1000000 in
theorem full_short {ty fn g : Nat} {S D : List Nat} {l : List Int} {St : World → Nat → Prop} (R : Src ty fn g S D l St) (w : World) (p gb off m cb : Nat) (cur : List Value) (T : Nat) (ea eb : Addr)
    (hs : St w p) (hp : p < l.length) (hpm : l.length < p + m) (hb : w.heap[gb]? = some (.cells cur.toArray T (0, 0))) (hfit : off + m ≤ cur.length) (hcb : m ≤ cb) (hbig : m ≤ 9223372036854775807)
    (hg : gb ∉ D) (hG : Glob w ea eb) (hsafe : ∀ k ∈ gb :: S, Safe ea eb k) :
    Calls Tryd.prog 38 #[.iface ty (.pointer (some ⟨g, 0, none⟩)), .slice (some ⟨gb, off, none⟩) m cb] w fun e w' =>
      e = .returned (.tuple #[.int .i64 (l.length - p : Nat), .iface 130 (.pointer (some eb))]) ∧ Touch (gb :: S) w w' ∧ St w' l.length := by
  have H := Lib.hid (atLeast_short R w p gb off m cb cur T ea eb hs hp hpm hb hfit hcb hbig hg hG hsafe)
  clear hs hp hG hpm hb hg hsafe hfit
  go_enter Tryd.func38, Tryd.ntmps38
  go_wp2_with fail
  refine H.out.mono ?_
  rintro e w' ⟨rfl, ht, hs⟩
  have X := Lib.hid (And.intro ht hs)
  clear ht hs
  go_wp2_with fail
  go_ret2
  exact ⟨rfl, X.out⟩

/-- A bytes.Reader at block gr over the bytes l. -/
def RdrSt (gr : Nat) (A : Option Addr) (n c : Nat) (l : List Int) (w : World) (p : Nat) : Prop :=
  (∃ pr : Int, w.heap[gr]? = some (.cells #[.slice A n c, .int .i64 p, .int .i64 pr] 77 (0, 0))) ∧ ReadsInt w .u8 A n l ∧ n ≤ c ∧ p ≤ n
theorem rdr_src (gr gd : Nat) (A : Option Addr) (n c : Nat) (l : List Int) (hl : l.length = n) (hA : ∀ ad, A = some ad → ad.block = gd) (hne : gd ≠ gr) :
    Src 53 60 gr [gr] [gr, gd] l (RdrSt gr A n c l) where
  nilA := fun w => by kernel_rfl
  meth := fun w => by kernel_rfl
  call := fun args w => by kernel_rfl
  move := by
    rintro U w w' p ⟨⟨pr, hr⟩, hd, hc, hp⟩ hU ht
    refine ⟨⟨pr, ht.heap hr (fun hm => hU _ hm (by simp))⟩, ⟨hd.1, hd.2.1, fun hn => ?_⟩, hc, hp⟩
    obtain ⟨ad, e, hcell⟩ := hd.2.2 hn
    refine ⟨ad, e, fun j hj => ht.cell (hcell j hj) (fun hm => hU _ hm ?_)⟩
    have hb : (ad.add j).block = ad.block := by unfold Addr.add; split <;> rfl
    rw [hb, hA ad e]; simp
  sub := by simp
  le := by rintro w p ⟨_, _, _, hp⟩; omega
  read := by
    rintro w p gb off m cb cur T ⟨⟨pr, hr⟩, hd, hc, hp⟩ hlt hb hfit hm hcb hg
    have hg' : gb ≠ gr ∧ gb ≠ gd := by simpa using hg
    have hA' : ∀ ad, A = some ad → ad.block ≠ gr ∧ ad.block ≠ gb := fun ad e => by rw [hA ad e]; exact ⟨hne, fun h => hg'.2 h.symm⟩
    refine (rdr_read gr gb off m cb A n c p pr l cur T w hr hd hc (by omega) hb hfit hg'.1 hA').mono ?_
    rintro e w' ⟨rfl, ht, h1, h2⟩
    rw [hl]
    refine ⟨rfl, ht.mono (fun k _ hk => by simp at hk ⊢; omega), ⟨⟨-1, h1⟩, ⟨hd.1, hd.2.1, fun hn => ?_⟩, hc, by omega⟩, h2⟩
    obtain ⟨ad, e, hcell⟩ := hd.2.2 hn
    refine ⟨ad, e, fun j hj => ht.cell (hcell j hj) ?_⟩
    have hb : (ad.add j).block = ad.block := by unfold Addr.add; split <;> rfl
    rw [hb]; have := hA' ad e; simp; exact this
  eof := by
    rintro w p b E ⟨⟨pr, hr⟩, hd, hc, hp⟩ hle hE
    refine (rdr_eof gr A n c p pr b E w hr (by omega) hE).mono ?_
    rintro e w' ⟨rfl, k, rfl⟩
    refine ⟨rfl, (Touch.refl _ _).drewN k, ⟨pr, hr⟩, ?_, hc, hp⟩
    exact ReadsInt.below hd (pw_below_drewN (Below.refl _ _) k)
end Go.Proofs.YtcdfbcanebjmfaaDoor.Walk

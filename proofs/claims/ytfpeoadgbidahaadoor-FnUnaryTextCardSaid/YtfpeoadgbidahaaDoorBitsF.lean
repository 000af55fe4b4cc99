/- (*bits.Reader).Read where bits are missing: it tells an error. And the whole contract of Read. -/
import Derived.Test.YtfpeoadgbidahaaDoorBitsA
import Derived.Test.YtfpeoadgbidahaaDoorBitsB
import Derived.Test.YtfpeoadgbidahaaDoorBitsC
import Derived.Test.YtfpeoadgbidahaaDoorBitsD
namespace Go.Proofs.YtfpeoadgbidahaaDoor.Walk
set_option linter.unusedVariables false
set_option linter.unusedSimpArgs false
open Go Go.RowKit Go.Proofs.YtfpeoadgbidahaaDoorW.PrintWords Go.Proofs.YtfpeoadgbidahaaDoor.Num

/-- What io.ReadFull tells where bytes are missing. -/
def FullFails (S : List Nat) (ea eb : Addr) (w : World) (e : Ending) (w' : World) : Prop :=
  ∃ (z : Int) (a : Addr), (a = ea ∨ a = eb) ∧ e = .returned (.tuple #[.int .i64 z, .iface 85 (.pointer (some a))]) ∧ Touch S w w'
/-- What Read tells where bits are missing. -/
def ReadFails (S : List Nat) (ea eb : Addr) (w : World) (e : Ending) (w' : World) : Prop :=
  ∃ a : Addr, (a = ea ∨ a = eb) ∧ e = .returned (.tuple #[.int .u64 0, .iface 85 (.pointer (some a))]) ∧ Touch S w w'

theorem full_fail {ty fn g : Nat} {S D : List Nat} {l : List Int} {St : World → Nat → Prop} (R : Src ty fn g S D l St) (w : World) (p gb off m cb : Nat) (cur : List Value) (T : Nat) (ea eb : Addr)
    (hs : St w p) (hpm : l.length < p + m) (hb : w.heap[gb]? = some (.cells cur.toArray T (0, 0))) (hfit : off + m ≤ cur.length) (hm : 0 < m) (hcb : m ≤ cb) (hbig : m ≤ 9223372036854775807)
    (hg : gb ∉ D) (hG : Glob w ea eb) (hsafe : ∀ k ∈ gb :: S, Safe k) :
    Calls Tryd.prog 31 #[.iface ty (.pointer (some ⟨g, 0, none⟩)), .slice (some ⟨gb, off, none⟩) m cb] w (FullFails (gb :: S) ea eb w) := by
  have hle := R.le w p hs
  by_cases hp : p = l.length
  · refine (full_end R w p gb off m cb ea eb hs hp hm hcb hbig hG).mono ?_
    rintro e w' ⟨rfl, ht, _⟩
    exact ⟨0, ea, .inl rfl, rfl, ht.mono (fun k _ hk => List.mem_cons_of_mem _ hk)⟩
  · refine (full_short R w p gb off m cb cur T ea eb hs (by omega) hpm hb hfit hcb hbig hg hG hsafe).mono ?_
    rintro e w' ⟨rfl, ht, _⟩
    exact ⟨_, eb, .inr rfl, rfl, ht⟩

set_option maxHeartbeats 2000000 in
set_option maxRecDepth 100000 in
theorem br_failA {ty fn g : Nat} {S D : List Nat} {l : List Int} {St : World → Nat → Prop} (R : Src ty fn g S D l St) (w : World) (p gb x n k r : Nat) (buf : List Value) (ea eb : Addr)
    (hs : St w p) (hl : buf.length = 8) (hn : n = 8 * k + r) (hr : 0 < r) (hr8 : r < 8) (hn64 : n ≤ 64) (hgb : gb ∉ D) (hav : l.length < p + (k + 1))
    (hG : Glob w ea eb) (hsafe : ∀ k ∈ gb :: S, Safe k)
    (hb : w.heap[gb]? = some (.cells (brCells ty g buf x 0).toArray 72 (0, 0))) :
    Calls Tryd.prog 18 #[.pointer (some ⟨gb, 0, none⟩), .int .u64 n] w (ReadFails (gb :: S) ea eb w) := by
  have c0 : w.cell? ⟨gb, 0, none⟩ = some (.iface ty (.pointer (some ⟨g, 0, none⟩))) := by rw [cell_of_row w gb 0 _ _ _ hb, br0 _ _ _ _ _ hl]
  have c10 : w.cell? ⟨gb, 10, none⟩ = some (.int .u64 0) := by rw [cell_of_row w gb 10 _ _ _ hb, br10 _ _ _ _ _ hl]
  have hn0 : ((n : Int) == 0) = false := by rw [beq_eq_false_iff_ne]; omega
  have hdiv : (n : Int) / 8 = (k : Int) := by omega
  have hmod : (n : Int) % 8 = (r : Int) := by omega
  have hk8 : k + 1 ≤ 8 := by omega
  have hsl := bufTo gb ((k : Int) + 1) (by omega) (by omega)
  have htn : ((k : Int) + 1).toNat = k + 1 := by omega
  rw [htn] at hsl
  clear htn
  have HS := Lib.hid hs
  have HB := Lib.hid hb
  have HN := Lib.hid hn
  have HG := Lib.hid hgb
  have HAV := Lib.hid hav
  have HGG := Lib.hid hG
  have HSF := Lib.hid hsafe
  have hml : n ≤ 64 := by omega
  clear hs hb hn hgb hav hG hsafe
  go_enter Tryd.func18, Tryd.ntmps18
  go_wp2
  rw [hmod]
  have hw : St (w.drewN 1) p := R.move [] w _ p HS.out (by simp) ((Touch.refl _ _).drewN 1)
  have hgl : Glob (w.drewN 1) ea eb := HGG.out.touch ((Touch.refl [] _).drewN 1) (by simp)
  have HF := Lib.hid (full_fail R (w.drewN 1) p gb 1 (k + 1) 8 (brCells ty g buf x 0) 72 ea eb hw HAV.out HB.out (by simp [brCells, hl]; omega) (by omega) hk8 (by omega) HG.out hgl HSF.out)
  clear hw hmod hgl
  go_region_with (first | (refine HF.out.mono ?_; rintro e w' ⟨z, a, hor, rfl, ht⟩))
  have HT := Lib.hid (((Touch.refl (gb :: S) w).drewN 1).trans ht)
  have HO := Lib.hid hor
  clear ht hor
  go_wp2
  go_ret2
  exact ⟨a, HO.out, rfl, HT.out⟩

set_option maxHeartbeats 2000000 in
set_option maxRecDepth 100000 in
theorem br_failB {ty fn g : Nat} {S D : List Nat} {l : List Int} {St : World → Nat → Prop} (R : Src ty fn g S D l St) (w : World) (p gb x n k : Nat) (buf : List Value) (ea eb : Addr)
    (hs : St w p) (hl : buf.length = 8) (hn : n = 8 * k) (hk : 0 < k) (hn64 : n ≤ 64) (hgb : gb ∉ D) (hav : l.length < p + (k))
    (hG : Glob w ea eb) (hsafe : ∀ k ∈ gb :: S, Safe k)
    (hb : w.heap[gb]? = some (.cells (brCells ty g buf x 0).toArray 72 (0, 0))) :
    Calls Tryd.prog 18 #[.pointer (some ⟨gb, 0, none⟩), .int .u64 n] w (ReadFails (gb :: S) ea eb w) := by
  obtain ⟨k0, rfl⟩ : ∃ k0, k = k0 + 1 := ⟨k - 1, by omega⟩
  have c0 : w.cell? ⟨gb, 0, none⟩ = some (.iface ty (.pointer (some ⟨g, 0, none⟩))) := by rw [cell_of_row w gb 0 _ _ _ hb, br0 _ _ _ _ _ hl]
  have c10 : w.cell? ⟨gb, 10, none⟩ = some (.int .u64 0) := by rw [cell_of_row w gb 10 _ _ _ hb, br10 _ _ _ _ _ hl]
  have hn0 : ((n : Int) == 0) = false := by rw [beq_eq_false_iff_ne]; omega
  have hdiv : (n : Int) / 8 = ((k0 : Int) + 1) := by omega
  have hmod : (n : Int) % 8 = 0 := by omega
  have hk8 : k0 + 1 ≤ 8 := by omega
  have hsl := bufTo gb ((k0 : Int) + 1) (by omega) (by omega)
  have htn : ((k0 : Int) + 1).toNat = k0 + 1 := by omega
  rw [htn] at hsl
  clear htn
  have HS := Lib.hid hs
  have HB := Lib.hid hb
  have HN := Lib.hid hn
  have HG := Lib.hid hgb
  have HAV := Lib.hid hav
  have HGG := Lib.hid hG
  have HSF := Lib.hid hsafe
  have hml : n ≤ 64 := by omega
  clear hs hb hn hgb hav hG hsafe
  go_enter Tryd.func18, Tryd.ntmps18
  go_wp2
  rw [hmod]
  have hw : St (w.drewN 1) p := R.move [] w _ p HS.out (by simp) ((Touch.refl _ _).drewN 1)
  have hgl : Glob (w.drewN 1) ea eb := HGG.out.touch ((Touch.refl [] _).drewN 1) (by simp)
  have HF := Lib.hid (full_fail R (w.drewN 1) p gb 1 (k0 + 1) 8 (brCells ty g buf x 0) 72 ea eb hw HAV.out HB.out (by simp [brCells, hl]; omega) (by omega) hk8 (by omega) HG.out hgl HSF.out)
  clear hw hmod hgl
  go_region_with (first | (refine HF.out.mono ?_; rintro e w' ⟨z, a, hor, rfl, ht⟩))
  have HT := Lib.hid (((Touch.refl (gb :: S) w).drewN 1).trans ht)
  have HO := Lib.hid hor
  clear ht hor
  go_wp2
  go_ret2
  exact ⟨a, HO.out, rfl, HT.out⟩

set_option maxHeartbeats 2000000 in
set_option maxRecDepth 100000 in
theorem br_failC {ty fn g : Nat} {S D : List Nat} {l : List Int} {St : World → Nat → Prop} (R : Src ty fn g S D l St) (w : World) (p gb x n k r nb m : Nat) (buf : List Value) (ea eb : Addr)
    (hs : St w p) (hl : buf.length = 8) (hx : x < 256) (hnb : 0 < nb) (hnb7 : nb ≤ 7) (hnm : n = nb + m) (hn : m = 8 * k + r) (hr : 0 < r) (hr8 : r < 8) (hn64 : n ≤ 64) (hgb : gb ∉ D) (hav : l.length < p + (k + 1))
    (hG : Glob w ea eb) (hsafe : ∀ k ∈ gb :: S, Safe k)
    (hb : w.heap[gb]? = some (.cells (brCells ty g buf x nb).toArray 72 (0, 0))) :
    Calls Tryd.prog 18 #[.pointer (some ⟨gb, 0, none⟩), .int .u64 n] w (ReadFails (gb :: S) ea eb w) := by
  have c0 : w.cell? ⟨gb, 0, none⟩ = some (.iface ty (.pointer (some ⟨g, 0, none⟩))) := by rw [cell_of_row w gb 0 _ _ _ hb, br0 _ _ _ _ _ hl]
  have c10 : w.cell? ⟨gb, 10, none⟩ = some (.int .u64 nb) := by rw [cell_of_row w gb 10 _ _ _ hb, br10 _ _ _ _ _ hl]
  have c9 : w.cell? ⟨gb, 9, none⟩ = some (.int .u8 x) := by rw [cell_of_row w gb 9 _ _ _ hb, br9 _ _ _ _ _ hl]
  have f10 : w.frozen? ⟨gb, 10, none⟩ = false := by simp [World.frozen?, hb]
  have hne : ((nb : Int) == (n : Int)) = false := by rw [beq_eq_false_iff_ne]; omega
  have hsub : ((n : Int) - (nb : Int)) = (m : Int) := by omega
  have hn0 : ((n : Int) == 0) = false := by rw [beq_eq_false_iff_ne]; omega
  have hdiv : (m : Int) / 8 = (k : Int) := by omega
  have hmod : (m : Int) % 8 = (r : Int) := by omega
  have hk8 : k + 1 ≤ 8 := by omega
  have hsl := bufTo gb ((k : Int) + 1) (by omega) (by omega)
  have htn : ((k : Int) + 1).toNat = k + 1 := by omega
  rw [htn] at hsl
  clear htn
  have HS := Lib.hid hs
  have HB := Lib.hid hb
  have HN := Lib.hid hn
  have HG := Lib.hid hgb
  have HAV := Lib.hid hav
  have HGG := Lib.hid hG
  have HSF := Lib.hid hsafe
  have HNM := Lib.hid hnm
  have hml : m ≤ 64 := by omega
  have hm0 : 0 < m := by omega
  have hnbn : nb < n := by omega
  clear hs hb hn hgb hav hG hsafe hnm
  go_enter Tryd.func18, Tryd.ntmps18
  go_wp2
  obtain ⟨w0, hw0⟩ : ∃ w0, w.setCell ⟨gb, 10, none⟩ (.int .u64 0) = w0 := ⟨_, rfl⟩
  rw [hw0]
  have t0 : Touch [gb] w w0 := by rw [← hw0]; exact (Touch.refl _ _).setCell (.inl (by simp)) _
  have b0 : w0.heap[gb]? = some (.cells (brCells ty g buf x 0).toArray 72 (0, 0)) := by
    rw [← hw0, blk_set HB.out 10, br10_set _ _ _ _ _ _ hl]
  have s0 : St w0 p := R.move [gb] w _ p HS.out (by simp; exact HG.out) t0
  clear hw0 c0 c9 c10 f10
  have c0 : w0.cell? ⟨gb, 0, none⟩ = some (.iface ty (.pointer (some ⟨g, 0, none⟩))) := by rw [cell_of_row w0 gb 0 _ _ _ b0, br0 _ _ _ _ _ hl]
  have HGG0 := Lib.hid (HGG.out.touch t0 (fun k hk => HSF.out k (by simp at hk ⊢; exact .inl hk)))
  have T0 := Lib.hid t0
  have B0 := Lib.hid b0
  have S0 := Lib.hid s0
  clear t0 b0 s0
  rw [hmod]
  have hw : St (w0.drewN 1) p := R.move [] w0 _ p S0.out (by simp) ((Touch.refl _ _).drewN 1)
  have hgl : Glob (w0.drewN 1) ea eb := HGG0.out.touch ((Touch.refl [] _).drewN 1) (by simp)
  have HF := Lib.hid (full_fail R (w0.drewN 1) p gb 1 (k + 1) 8 (brCells ty g buf x 0) 72 ea eb hw HAV.out B0.out (by simp [brCells, hl]; omega) (by omega) hk8 (by omega) HG.out hgl HSF.out)
  clear hw hmod hgl
  go_region_with (first | (refine HF.out.mono ?_; rintro e w' ⟨z, a, hor, rfl, ht⟩))
  have HT := Lib.hid ((T0.out.mono (T := gb :: S) (fun k _ hk => by simp at hk ⊢; exact .inl hk)).trans (((Touch.refl (gb :: S) w0).drewN 1).trans ht))
  have HO := Lib.hid hor
  clear ht hor
  go_wp2
  go_ret2
  exact ⟨a, HO.out, rfl, HT.out⟩

set_option maxHeartbeats 2000000 in
set_option maxRecDepth 100000 in
theorem br_failD {ty fn g : Nat} {S D : List Nat} {l : List Int} {St : World → Nat → Prop} (R : Src ty fn g S D l St) (w : World) (p gb x n k nb m : Nat) (buf : List Value) (ea eb : Addr)
    (hs : St w p) (hl : buf.length = 8) (hx : x < 256) (hnb : 0 < nb) (hnb7 : nb ≤ 7) (hnm : n = nb + m) (hn : m = 8 * k) (hk : 0 < k) (hn64 : n ≤ 64) (hgb : gb ∉ D) (hav : l.length < p + (k))
    (hG : Glob w ea eb) (hsafe : ∀ k ∈ gb :: S, Safe k)
    (hb : w.heap[gb]? = some (.cells (brCells ty g buf x nb).toArray 72 (0, 0))) :
    Calls Tryd.prog 18 #[.pointer (some ⟨gb, 0, none⟩), .int .u64 n] w (ReadFails (gb :: S) ea eb w) := by
  obtain ⟨k0, rfl⟩ : ∃ k0, k = k0 + 1 := ⟨k - 1, by omega⟩
  have c0 : w.cell? ⟨gb, 0, none⟩ = some (.iface ty (.pointer (some ⟨g, 0, none⟩))) := by rw [cell_of_row w gb 0 _ _ _ hb, br0 _ _ _ _ _ hl]
  have c10 : w.cell? ⟨gb, 10, none⟩ = some (.int .u64 nb) := by rw [cell_of_row w gb 10 _ _ _ hb, br10 _ _ _ _ _ hl]
  have c9 : w.cell? ⟨gb, 9, none⟩ = some (.int .u8 x) := by rw [cell_of_row w gb 9 _ _ _ hb, br9 _ _ _ _ _ hl]
  have f10 : w.frozen? ⟨gb, 10, none⟩ = false := by simp [World.frozen?, hb]
  have hne : ((nb : Int) == (n : Int)) = false := by rw [beq_eq_false_iff_ne]; omega
  have hsub : ((n : Int) - (nb : Int)) = (m : Int) := by omega
  have hn0 : ((n : Int) == 0) = false := by rw [beq_eq_false_iff_ne]; omega
  have hdiv : (m : Int) / 8 = ((k0 : Int) + 1) := by omega
  have hmod : (m : Int) % 8 = 0 := by omega
  have hk8 : k0 + 1 ≤ 8 := by omega
  have hsl := bufTo gb ((k0 : Int) + 1) (by omega) (by omega)
  have htn : ((k0 : Int) + 1).toNat = k0 + 1 := by omega
  rw [htn] at hsl
  clear htn
  have HS := Lib.hid hs
  have HB := Lib.hid hb
  have HN := Lib.hid hn
  have HG := Lib.hid hgb
  have HAV := Lib.hid hav
  have HGG := Lib.hid hG
  have HSF := Lib.hid hsafe
  have HNM := Lib.hid hnm
  have hml : m ≤ 64 := by omega
  have hm0 : 0 < m := by omega
  have hnbn : nb < n := by omega
  clear hs hb hn hgb hav hG hsafe hnm
  go_enter Tryd.func18, Tryd.ntmps18
  go_wp2
  obtain ⟨w0, hw0⟩ : ∃ w0, w.setCell ⟨gb, 10, none⟩ (.int .u64 0) = w0 := ⟨_, rfl⟩
  rw [hw0]
  have t0 : Touch [gb] w w0 := by rw [← hw0]; exact (Touch.refl _ _).setCell (.inl (by simp)) _
  have b0 : w0.heap[gb]? = some (.cells (brCells ty g buf x 0).toArray 72 (0, 0)) := by
    rw [← hw0, blk_set HB.out 10, br10_set _ _ _ _ _ _ hl]
  have s0 : St w0 p := R.move [gb] w _ p HS.out (by simp; exact HG.out) t0
  clear hw0 c0 c9 c10 f10
  have c0 : w0.cell? ⟨gb, 0, none⟩ = some (.iface ty (.pointer (some ⟨g, 0, none⟩))) := by rw [cell_of_row w0 gb 0 _ _ _ b0, br0 _ _ _ _ _ hl]
  have HGG0 := Lib.hid (HGG.out.touch t0 (fun k hk => HSF.out k (by simp at hk ⊢; exact .inl hk)))
  have T0 := Lib.hid t0
  have B0 := Lib.hid b0
  have S0 := Lib.hid s0
  clear t0 b0 s0
  rw [hmod]
  have hw : St (w0.drewN 1) p := R.move [] w0 _ p S0.out (by simp) ((Touch.refl _ _).drewN 1)
  have hgl : Glob (w0.drewN 1) ea eb := HGG0.out.touch ((Touch.refl [] _).drewN 1) (by simp)
  have HF := Lib.hid (full_fail R (w0.drewN 1) p gb 1 (k0 + 1) 8 (brCells ty g buf x 0) 72 ea eb hw HAV.out B0.out (by simp [brCells, hl]; omega) (by omega) hk8 (by omega) HG.out hgl HSF.out)
  clear hw hmod hgl
  go_region_with (first | (refine HF.out.mono ?_; rintro e w' ⟨z, a, hor, rfl, ht⟩))
  have HT := Lib.hid ((T0.out.mono (T := gb :: S) (fun k _ hk => by simp at hk ⊢; exact .inl hk)).trans (((Touch.refl (gb :: S) w0).drewN 1).trans ht))
  have HO := Lib.hid hor
  clear ht hor
  go_wp2
  go_ret2
  exact ⟨a, HO.out, rfl, HT.out⟩

set_option maxHeartbeats 400000 in
set_option maxRecDepth 100000 in
theorem br_zero (gb : Addr) (w : World) : Calls Tryd.prog 18 #[.pointer (some gb), .int .u64 0] w fun e w' => e = .returned (.tuple #[.int .u64 0, .nilIface]) ∧ w = w' := by
  go_enter Tryd.func18, Tryd.ntmps18
  go_wp2
  go_ret2
  exact ⟨rfl, rfl⟩

/-- THE CONTRACT OF Read: the next n bits. -/
theorem br_read {ty fn g : Nat} {S D : List Nat} {l : List Int} {St : World → Nat → Prop} (R : Src ty fn g S D l St) (hbytes : ∀ x ∈ l, 0 ≤ x ∧ x ≤ 255) (w : World) (gb n at_ : Nat)
    (h : Br ty g gb l St w at_) (hn : n ≤ 64) (hav : at_ + n ≤ 8 * l.length) (hgb : gb ∉ D) :
    Calls Tryd.prog 18 #[.pointer (some ⟨gb, 0, none⟩), .int .u64 n] w fun e w' =>
      e = .returned (.tuple #[.int .u64 (num l at_ n), .nilIface]) ∧ Touch (gb :: S) w w' ∧ Br ty g gb l St w' (at_ + n) := by
  have hnn : ∀ i, 0 ≤ l.getD i 0 := fun i => by
    rw [List.getD_eq_getElem?_getD]
    rcases hi : l[i]? with _ | v
    · simp
    · exact (hbytes v (List.mem_of_getElem? hi)).1
  have hbyte : ∀ i, byteAt l i < 256 := fun i => by
    unfold byteAt
    rw [List.getD_eq_getElem?_getD]
    rcases hi : l[i]? with _ | v
    · simp
    · have := (hbytes v (List.mem_of_getElem? hi)); simp; omega
  obtain ⟨p, nb, x, buf, hs, hat, hnb7, hx, hxb, hl, hb⟩ := h.ex
  rcases Nat.eq_zero_or_pos n with h0 | h0
  · subst h0
    refine (br_zero ⟨gb, 0, none⟩ w).mono ?_
    rintro e w' ⟨rfl, rfl⟩
    exact ⟨rfl, Touch.refl _ _, ⟨p, nb, x, buf, hs, hat, hnb7, hx, hxb, hl, hb⟩⟩
  rcases Nat.lt_trichotomy n nb with h1 | h1 | h1
  · -- within what is kept
    refine (br_within ty g gb buf x nb n w hl hx h0 h1 hnb7 hb).mono ?_
    rintro e w' ⟨rfl, ht, hb'⟩
    have hxe := hxb (by omega)
    obtain ⟨d, rfl⟩ : ∃ d, nb = n + d := ⟨nb - n, by omega⟩
    have e1 : n + d - n = d := by omega
    rw [e1] at hb' ⊢
    have hp1 : at_ = 8 * (p - 1) + (8 - (n + d)) := by omega
    have hnum : num l at_ n = x / 2 ^ d := by
      rw [hp1, num_in l (p - 1) (8 - (n + d)) n (by omega), hxe, show 8 - (8 - (n + d)) - n = d from by omega, Nat.pow_add, Nat.mul_comm, Nat.mod_mul_right_div_self]
    refine ⟨by rw [hnum], ht.mono (fun k _ hk => by simp at hk ⊢; exact .inl hk), ⟨p, d, x % 2 ^ d, buf, R.move [gb] w w' p hs (by simpa using hgb) ht, by omega, by omega, ?_, fun _ => ?_, hl, hb'⟩⟩
    · exact Nat.lt_of_le_of_lt (Nat.mod_le _ _) hx
    · rw [hxe, Nat.mod_mod_of_dvd _ (Nat.pow_dvd_pow 2 (by omega))]
  · -- just what is kept
    subst h1
    refine (br_same ty g gb buf x n w hl hx h0 hnb7 hb).mono ?_
    rintro e w' ⟨rfl, rfl⟩
    have hxe := hxb h0
    have hp1 : at_ = 8 * (p - 1) + (8 - n) := by omega
    have hnum : num l at_ n = x := by
      rw [hp1, num_in l (p - 1) (8 - n) n (by omega), hxe, show 8 - (8 - n) - n = 0 from by omega, Nat.pow_zero, Nat.div_one]
    have ht : Touch [gb] w (w.setCell ⟨gb, 10, none⟩ (.int .u64 0)) := (Touch.refl _ _).setCell (.inl (by simp)) _
    refine ⟨by rw [hnum], ht.mono (fun k _ hk => by simp at hk ⊢; exact .inl hk), ⟨p, 0, x, buf, R.move [gb] w _ p hs (by simpa using hgb) ht, by omega, by omega, hx, fun h => by omega, hl, ?_⟩⟩
    rw [blk_set hb 10, br10_set _ _ _ _ _ _ hl]; rfl
  · -- more
    obtain ⟨m, hnm⟩ : ∃ m, n = nb + m := ⟨n - nb, by omega⟩
    obtain ⟨k, hk⟩ : ∃ k, m / 8 = k := ⟨_, rfl⟩
    obtain ⟨r, hr⟩ : ∃ r, m % 8 = r := ⟨_, rfl⟩
    have hr8 : r < 8 := by omega
    have hnum0 : num l at_ n = num l at_ nb * 2 ^ m + num l (8 * p) m := by rw [hnm, num_add, hat]
    rcases Nat.eq_zero_or_pos nb with hz | hz
    · subst hz
      have hnum : num l at_ n = acc l p 0 m := by rw [hnum0]; simp [acc, num]
      have hmn : n = m := by omega
      rcases Nat.eq_zero_or_pos r with hr0 | hr0
      · refine (br_moreB R w p gb x n k buf hs hl hx (by omega) (by omega) hn hgb (by omega) hbyte hnn hb).mono ?_
        rintro e w' ⟨rfl, ht, hs', buf', hl', hb'⟩
        refine ⟨by rw [hnum, show m = 8 * k from by omega], ht, ⟨p + k, 0, x, buf', hs', by omega, by omega, hx, fun h => by omega, hl', hb'⟩⟩
      · refine (br_moreA R w p gb x n k r buf hs hl hx (by omega) hr0 hr8 hn hgb (by omega) hbyte hnn hb).mono ?_
        rintro e w' ⟨rfl, ht, hs', buf', hl', hb'⟩
        refine ⟨by rw [hnum, show m = 8 * k + r from by omega], ht, ⟨p + (k + 1), 8 - r, byteAt l (p + k) % 2 ^ (8 - r), buf', hs', by omega, by omega, ?_, fun _ => by rw [show p + (k + 1) - 1 = p + k from by omega], hl', hb'⟩⟩
        exact Nat.lt_of_le_of_lt (Nat.mod_le _ _) (hbyte _)
    · have hxe := hxb hz
      have hp1 : at_ = 8 * (p - 1) + (8 - nb) := by omega
      have hnb : num l at_ nb = x := by
        rw [hp1, num_in l (p - 1) (8 - nb) nb (by omega), hxe, show 8 - (8 - nb) - nb = 0 from by omega, Nat.pow_zero, Nat.div_one]
      have hx2 : x < 2 ^ nb := by rw [hxe]; exact Nat.mod_lt _ (Nat.two_pow_pos _)
      have hnum : num l at_ n = acc l p x m := by rw [hnum0, hnb]; rfl
      rcases Nat.eq_zero_or_pos r with hr0 | hr0
      · refine (br_moreD R w p gb x n k nb m buf hs hl hx hx2 hz hnb7 hnm (by omega) (by omega) hn hgb (by omega) hbyte hnn hb).mono ?_
        rintro e w' ⟨rfl, ht, hs', buf', hl', hb'⟩
        refine ⟨by rw [hnum, show m = 8 * k from by omega], ht, ⟨p + k, 0, x, buf', hs', by omega, by omega, hx, fun h => by omega, hl', hb'⟩⟩
      · refine (br_moreC R w p gb x n k r nb m buf hs hl hx hx2 hz hnb7 hnm (by omega) hr0 hr8 hn hgb (by omega) hbyte hnn hb).mono ?_
        rintro e w' ⟨rfl, ht, hs', buf', hl', hb'⟩
        refine ⟨by rw [hnum, show m = 8 * k + r from by omega], ht, ⟨p + (k + 1), 8 - r, byteAt l (p + k) % 2 ^ (8 - r), buf', hs', by omega, by omega, ?_, fun _ => by rw [show p + (k + 1) - 1 = p + k from by omega], hl', hb'⟩⟩
        exact Nat.lt_of_le_of_lt (Nat.mod_le _ _) (hbyte _)

theorem br_fail {ty fn g : Nat} {S D : List Nat} {l : List Int} {St : World → Nat → Prop} (R : Src ty fn g S D l St) (w : World) (gb n at_ : Nat) (ea eb : Addr)
    (h : Br ty g gb l St w at_) (hn : n ≤ 64) (hav : 8 * l.length < at_ + n) (hgb : gb ∉ D) (hG : Glob w ea eb) (hsafe : ∀ k ∈ gb :: S, Safe k) :
    Calls Tryd.prog 18 #[.pointer (some ⟨gb, 0, none⟩), .int .u64 n] w (ReadFails (gb :: S) ea eb w) := by
  obtain ⟨p, nb, x, buf, hs, hat, hnb7, hx, hxb, hl, hb⟩ := h.ex
  have hle := R.le w p hs
  obtain ⟨m, hnm⟩ : ∃ m, n = nb + m := ⟨n - nb, by omega⟩
  obtain ⟨k, hk⟩ : ∃ k, m / 8 = k := ⟨_, rfl⟩
  obtain ⟨r, hr⟩ : ∃ r, m % 8 = r := ⟨_, rfl⟩
  have hr8 : r < 8 := by omega
  rcases Nat.eq_zero_or_pos nb with hz | hz
  · subst hz
    rcases Nat.eq_zero_or_pos r with hr0 | hr0
    · exact br_failB R w p gb x n k buf ea eb hs hl (by omega) (by omega) hn hgb (by omega) hG hsafe hb
    · exact br_failA R w p gb x n k r buf ea eb hs hl (by omega) hr0 hr8 hn hgb (by omega) hG hsafe hb
  · rcases Nat.eq_zero_or_pos r with hr0 | hr0
    · exact br_failD R w p gb x n k nb m buf ea eb hs hl hx hz hnb7 hnm (by omega) (by omega) hn hgb (by omega) hG hsafe hb
    · exact br_failC R w p gb x n k r nb m buf ea eb hs hl hx hz hnb7 hnm (by omega) hr0 hr8 hn hgb (by omega) hG hsafe hb
end Go.Proofs.YtfpeoadgbidahaaDoor.Walk

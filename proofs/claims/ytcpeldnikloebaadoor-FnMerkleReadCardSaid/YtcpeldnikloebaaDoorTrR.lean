/- The walks of the tree's New, SetIndex, Root. -/
import Derived.Test.YtcpeldnikloebaaDoorTrQ
set_option linter.unusedVariables false
set_option linter.unusedSimpArgs false
namespace Go.Proofs.YtcpeldnikloebaaDoor
open Go.RowKit Go.Mm Go.Sha Merk

section
variable {P : Program} (w : World)
/-- append onto a slice without room and without elements: a new block, whatever the slice's own -/
theorem run_append_zero (base : Nat) (t ty e : TypeId) (i : TypeInfo) (z : Value) (size bytes : Nat) (ht : P.underlying t = some (.slice e)) (hi : P.info? e = some i) (hz : i.zero = some z)
    (hsize : i.size = size) (hby : i.bytes = bytes) (hzs : z.cells.size = size) (hsz : 0 < size) (B : Option Addr)
    (A : Option Addr) (m c : Nat) (news : List Value) (hr : Rd w size A m news) (h1 : ∀ u ∈ news, u.oneCell' = true) (hm : 0 < m)
    (h63 : m ≤ maxLen) (hbytes : m * bytes ≤ 140737488355328) (hbase : base ≤ w.heap.size) :
    ∃ v' w', (Builtin.append_ #[t, t] ty #[.slice B 0 0, .slice A m c]).run P w = .ok v' w' ∧ Own w' base e size v' m news ∧ w.grownBy w' none ∧ v'.ownBlock = some w.heap.size := by
  rcases B with _ | bd
  · obtain ⟨v', w', hrun, ho, hg, hat⟩ := run_append_mm w base t ty e i z size bytes ht hi hz hsize hby hzs hsz (.slice none 0 0) 0 [] (Own.nil w base e size) A m c news hr h1 (by omega) (by simpa using hbytes) hbase
    simp only [Nat.zero_add, List.nil_append] at ho
    refine ⟨v', w', hrun, ho, hg, ?_⟩
    rcases hat with h | h
    · rcases ho.2 with ⟨rfl, hm0⟩ | ⟨g, o, cap, cur, rfl, _⟩
      · omega
      · simp [Value.ownBlock] at h
    · exact h
  subst hsize
  subst hby
  obtain ⟨ad, rfl, _, hc⟩ := hr.2 hm
  have hl := hr.1
  have hsmall : m ≤ 9223372036854775807 := by simp only [maxLen] at h63; omega
  have hrun := run_append_grow (P := P) w t ty e i z ht hi hz bd 0 0 [] (by simp) (by simp) ad m c news hl hc (by omega) (by omega) (growslice_fits (by omega) (by simpa using hbytes))
  simp only [Nat.zero_add] at hrun
  have hge := grownCap_ge w m 0 e
  have hcm : grownCap w m 0 e ≤ maxLen := grownCap_le_maxLen w m 0 e h63
  refine ⟨_, _, hrun, ⟨hl, .inr ⟨w.heap.size, 0, _, _, rfl, hbase, heap_alloc_new w.drew _, hge, hcm, ?_, ?_⟩⟩, ⟨rfl, rfl, rfl, by simp, fun k hk _ => Below.heap_alloc w.drew _ k hk⟩, rfl⟩
  · simp only [Array.size_append, List.size_toArray, size_zeroCells, hzs, hl, List.length_nil, Nat.zero_add, ← Nat.add_mul]
    exact Nat.mul_le_mul_right _ (by omega)
  · simp only [Array.toList_append, List.drop_zero, List.nil_append]
    rw [← hl]
    exact List.take_left
theorem step_append_zero {ops : Array Oper} {o : Oper} {a : Act} {K : Act → World → Prop} {Q : Exit → Act → World → Prop} {E : Prop} (hgd : o.guard = none) (s x : Operand) (t : TypeId)
    (ho : o.op = .call { callee := .builtin .append, args := #[s, x], argTypes := #[t, t] })
    (base : Nat) (e : TypeId) (i : TypeInfo) (z : Value) (size bytes : Nat) (ht : P.underlying t = some (.slice e)) (hi : P.info? e = some i) (hz : i.zero = some z)
    (hsize : i.size = size) (hby : i.bytes = bytes) (hzs : z.cells.size = size) (hsz : 0 < size)
    (B : Option Addr) (hs : a.eval s = .slice B 0 0)
    (A : Option Addr) (m c : Nat) (news : List Value) (hx : a.eval x = .slice A m c) (hr : Rd w size A m news) (h1 : ∀ u ∈ news, u.oneCell' = true) (hm : 0 < m)
    (h63 : m ≤ maxLen) (hbytes : m * bytes ≤ 140737488355328) (hbase : base ≤ w.heap.size)
    (h : ∀ v' w', Own w' base e size v' m news → w.grownBy w' none → v'.ownBlock = some w.heap.size → K (a.put o.dst v') w') :
    if Region.wanted o (yielded ops a.tmps) = true then Oper.wp P o a w K Q else E := by
  have hw : Region.wanted o (yielded ops a.tmps) = true := by simp [Region.wanted, hgd]
  rw [if_pos hw]
  obtain ⟨v', w', hrun, h2, h3, h4⟩ := run_append_zero (P := P) w base t o.type e i z size bytes ht hi hz hsize hby hzs hsz B A m c news hr h1 hm h63 hbytes hbase
  unfold Oper.wp execOp
  simp only [ho, resolve, invoke, builtin, Sem.run_bind, Sem.run_pure, Result.andThen_ok, List.map_toArray, List.map_cons, List.map_nil, hs, hx, hrun]
  exact h v' w' h2 h3 h4
end

theorem Tr.dig {w w' : World} {T D base : Nat} {pf : Bool} {idx : Nat} {head : Value} {k : Stk} {pv : Value} {ps : List (List Int)} {cur : Nat} (h : Tr w T D base pf idx head k pv ps cur) (hc : Chg [D] w w') (hh : Hs w' D) : Tr w' T D base pf idx head k pv ps cur where
  blk := h.blk.chg hc (by simp; exact h.ne)
  hs := hh
  ne := h.ne
  chain := h.chain.chg hc (by intro y hm; left; simp at hm; simp [hm])
  own := by
    obtain ⟨vs, h1, h2⟩ := h.own
    exact ⟨vs, h1.chg hc (fun g e => by simp; rintro rfl; exact h.a2 e), h2.chg hc (by intro y hm; left; simp at hm; simp [hm])⟩
  a1 := h.a1
  a2 := h.a2
  base := Nat.le_trans h.base hc.size

set_option maxHeartbeats 2000000 in
theorem tnew_any (D base : Nat) (w : World) (hd : Hs w D) (hb : base ≤ w.heap.size) :
    Calls Tryd.prog 21 #[hv D] w fun e w' => ∃ T, e = .returned (pt T) ∧ w.heap.size ≤ T ∧ Tr w' T D base false 0 (.pointer none) [] (.slice none 0 0) [] 0 ∧ Chg [] w w' := by
  have hDl := hd.lt
  go_enter Tryd.func21, Tryd.ntmps21
  go_wp2_with fail
  go_ret
  have hc : Chg [] w (w.alloc (.cells #[.pointer none, hv D, .int .u64 0, .int .u64 0, .slice none 0 0, .bool false, .bool false] 73)) := (Chg.refl [] w).alloc _
  refine ⟨_, rfl, Nat.le_refl _, ⟨Blk.new _ _ _, hd.chg hc (by simp), by omega, rfl, ⟨[], Own.nil _ _ _ _, ⟨rfl, fun k hk => by simp at hk⟩⟩, by simp [Value.ownBlock], by simp [Value.ownBlock], by simp; omega⟩, hc⟩

set_option maxHeartbeats 2000000 in
theorem tset_any (T D base i : Nat) (w : World) (ht : Tr w T D base false 0 (.pointer none) [] (.slice none 0 0) [] 0) :
    Calls Tryd.prog 22 #[pt T, .int .u64 i] w fun e w' => e = .returned .nilIface ∧ Tr w' T D base true i (.pointer none) [] (.slice none 0 0) [] 0 ∧ Chg [T] w w' := by
  have t0 : w.cell? ⟨T, 0, none⟩ = some (.pointer none) := ht.blk.cell 0
  have t3 : w.cell? ⟨T, 3, none⟩ = some (.int .u64 0) := ht.blk.cell 3
  have t5 : w.cell? ⟨T, 5, none⟩ = some (.bool false) := ht.blk.cell 5
  have z3 : w.frozen? ⟨T, 3, none⟩ = false := ht.blk.frozen 3
  have z5 : w.frozen? ⟨T, 5, none⟩ = false := ht.blk.frozen 5
  have HT : Hid _ := ht
  clear ht
  go_enter Tryd.func22, Tryd.ntmps22
  go_wp2_with fail
  go_ret
  have ht := HT.out
  have hc : Chg [T] w ((w.setCell ⟨T, 5, none⟩ (.bool true)).setCell ⟨T, 3, none⟩ (.int .u64 i)) := ((Chg.refl [T] w).setCell (p := ⟨T, 5, none⟩) (.inl (by simp)) _).setCell (p := ⟨T, 3, none⟩) (.inl (by simp)) _
  exact ⟨rfl, ⟨(ht.blk.set_ 5 (.bool true)).set_ 3 (.int .u64 i), ht.hs.chg hc (by simp; exact fun e => ht.ne e.symm), ht.ne, rfl, ⟨[], Own.nil _ _ _ _, ⟨rfl, fun k hk => by simp at hk⟩⟩, by simp [Value.ownBlock], by simp [Value.ownBlock], Nat.le_trans ht.base hc.size⟩, hc⟩

theorem wsum_mem {k : Stk} {n : Nat} (h : wsum k ≤ n) : ∀ q ∈ k, 2 ^ q.1 ≤ n := by
  induction k generalizing n with
  | nil => intro q hq; simp at hq
  | cons p r ih =>
    obtain ⟨h', s'⟩ := p
    intro q hq
    simp only [wsum] at h
    rcases List.mem_cons.1 hq with rfl | hq
    · show 2 ^ h' ≤ n; omega
    · exact ih (Nat.le_trans (Nat.le_add_left _ _) h) q hq

/-- what Root needs of a tree -/
structure Tc (w : World) (T D : Nat) (S : List Nat) (head : Value) (k : Stk) : Prop where
  blk : ∃ cu ix pv pf, Blk w T 73 #[head, hv D, cu, ix, pv, pf, .bool false]
  hs : Hs w D
  ne : T ≠ D
  chain : Chain w S k head
  tin : T ∈ S
  din : D ∈ S
  low : ∀ y ∈ S, y < w.heap.size
theorem Tc.of {w : World} {T D base : Nat} {pf : Bool} {idx : Nat} {head : Value} {k : Stk} {pv : Value} {ps : List (List Int)} {cur : Nat} (h : Tr w T D base pf idx head k pv ps cur) : Tc w T D (T :: D :: pv.ownBlock.toList) head k where
  blk := ⟨_, _, _, _, h.blk⟩
  hs := h.hs
  ne := h.ne
  chain := h.chain
  tin := by simp
  din := by simp
  low := by
    obtain ⟨vs, hown, _⟩ := h.own
    intro y hm
    simp at hm
    rcases hm with rfl | rfl | h'
    · exact h.blk.lt
    · exact h.hs.lt
    · exact (hown.lt y h').2
theorem Tc.dig {w w' : World} {T D : Nat} {S : List Nat} {head : Value} {k : Stk} (h : Tc w T D S head k) (hc : Chg [D] w w') (hh : Hs w' D) : Tc w' T D S head k where
  blk := by obtain ⟨a, b, c, d, hb⟩ := h.blk; exact ⟨a, b, c, d, hb.chg hc (by simp; exact h.ne)⟩
  hs := hh
  ne := h.ne
  chain := h.chain.chg hc (by intro y hm; left; simp at hm; subst hm; exact h.din)
  tin := h.tin
  din := h.din
  low := fun y hm => Nat.lt_of_lt_of_le (h.low y hm) hc.size

set_option maxRecDepth 20000 in
set_option maxHeartbeats 8000000 in
theorem troot_any (T D : Nat) (S : List Nat) (head : Value) (k : Stk) (w : World)
    (ht : Tc w T D S head k) (hw : wsum k ≤ 250) (hk : k ≠ []) :
    Calls Tryd.prog 26 #[pt T] w fun e w' => ∃ v, e = .returned v ∧ Own w' w.heap.size 5 1 v 32 (vb (rootOf sha k)) ∧ Bytes (rootOf sha k) ∧ (rootOf sha k).length = 32 ∧ Chg [D] w w' ∧ Hs w' D := by
  obtain ⟨i0, hi0, hz0, hz1, hz2⟩ := info_parts info_u8
  have hwm := wsum_mem hw
  cases k with
  | nil => exact absurd rfl hk
  | cons q k0 =>
    obtain ⟨h0, s0⟩ := q
    obtain ⟨g0, nx0, sv0, rfl, hg0, hB0, hv0, hl0, hC0⟩ := ht.chain
    have t0 : w.cell? ⟨T, 0, none⟩ = some (pt g0) := by obtain ⟨_, _, _, _, hb⟩ := ht.blk; exact hb.cell 0
    have HT : Hid (Tc w T D S (pt g0) ((h0, s0) :: k0)) := ht
    have hh0 : h0 < 8 := pow_lt8 (n := 250) (hwm (h0, s0) (by simp)) (by omega)
    have hI0 : ∃ g nx sv h s k', pt g0 = pt g ∧ g ∉ S ∧ Blk w g 75 #[nx, .int .i64 h, sv] ∧ Bs w S sv s ∧ s.length = 32 ∧ Bytes s ∧ Chain w S k' nx ∧
      k'.length = k0.length ∧ (∀ q ∈ k', q.1 < 8) ∧ rootFrom sha s k' = rootFrom sha s0 k0 ∧ Tc w T D S (pt g0) ((h0, s0) :: k0) ∧ Chg [D] w w :=
      ⟨g0, nx0, sv0, h0, s0, k0, rfl, hg0, hB0, hv0, hl0, by obtain ⟨_, _, _, _, hb, _⟩ := hv0; exact hb, hC0, rfl, fun q hq => pow_lt8 (n := 250) (hwm q (by simp [hq])) (by omega), rfl, ht, Chg.refl _ _⟩
    have HI0 : Hid _ := hI0
    clear ht hw hwm hk hI0 hB0 hv0 hC0 hg0 hl0
    go_enter Tryd.func26, Tryd.ntmps26
    go_wp2_with fail
    go_loopg [3] k0.length (fun gk v wr => ∃ g nx sv h s k', v = pt g ∧ g ∉ S ∧ Blk wr g 75 #[nx, .int .i64 h, sv] ∧ Bs wr S sv s ∧ s.length = 32 ∧ Bytes s ∧ Chain wr S k' nx ∧
      k'.length = gk ∧ (∀ q ∈ k', q.1 < 8) ∧ rootFrom sha s k' = rootFrom sha s0 k0 ∧ Tc wr T D S (pt g0) ((h0, s0) :: k0) ∧ Chg [D] w wr)
    case atStart =>
      obtain ⟨g, nx, sv, h, s, k', e, r⟩ := HI0.out
      exact ⟨g, nx, sv, h, s, k', e, r⟩
    case round =>
      clear HI0 t0
      obtain ⟨g, nx, sv, h, s, k', rfl, hg, hB, hvv, hl, hby, hC, hkl, hhk, hR, ht, hch⟩ := hrel
      have hv' := hvv
      obtain ⟨A1, c1, e1, _⟩ := hv'
      rw [hl] at e1
      subst e1
      have a0 : wr.cell? ⟨g, 0, none⟩ = some nx := hB.cell 0
      have a2 : wr.cell? ⟨g, 2, none⟩ = some (.slice A1 32 c1) := hB.cell 2
      have t1 : wr.cell? ⟨T, 1, none⟩ = some (hv D) := by obtain ⟨_, _, _, _, hb⟩ := ht.blk; exact hb.cell 1
      have hgl := hB.lt
      have htl := ht.low T ht.tin
      have hTD := ht.ne
      have hgT : g ≠ T := fun e => hg (by rw [e]; first | exact ht.tin | exact ht.din)
      have hgD : g ≠ D := fun e => hg (by rw [e]; first | exact ht.tin | exact ht.din)
      have HB : Hid _ := hB
      have HV : Hid (Bs wr S (.slice A1 32 c1) s) := hvv
      have HR : Hid _ := hR
      have HTr : Hid _ := ht
      have HCH : Hid (Chg [D] w wr) := hch
      have HK : Hid _ := hkl
      have HH : Hid (∀ q ∈ k', q.1 < 8) := hhk
      have HG : Hid (g ∉ S) := hg
      clear hB hvv hR ht hch hkl hhk hg
      cases k' with
      | nil =>
        have hnx : nx = .pointer none := hC
        subst hnx
        have hrd : Rd wr 1 A1 32 (vb s) := by
          obtain ⟨A, c, e, hr, _⟩ := HV.out
          rw [hl] at e hr
          injection e with e1 _ _
          rw [e1]; exact hr
        have hsz := HCH.out.size
        go_wp2_with fail
        go_region_held3 (fun w' => w'.cell? ⟨g, 2, none⟩ = some (.slice A1 32 c1))
          (first
            | go_keep
            | (rw [World.cell?_of_block (hg9.block _ (by simpa using hgl) (by simp))]; exact a2))
          ((refine step_append_zero _ (by rfl) _ _ _ (by rfl) w.heap.size 5 i0 _ 1 1 Tryd.underlying22 hi0 hz0 hz1 hz2 rfl (by omega) _ (by rfl) A1 32 c1 _ (by rfl) hrd.drew (vb_one _) (by omega) (by simp [maxLen]) (by omega) (by simpa using hsz) ?_; intro v9 w9 hown9 hg9 hat9; obtain ⟨A9, c9, hve9, _⟩ := hown9.form; subst hve9))
        rename (World.cell? _ _ = _) => hHeld
        go_wp2_with fail
        go_ret
        have hRR : rootOf sha ((h0, s0) :: k0) = s := HR.out.symm
        rw [hRR]
        have hcg : Chg [] wr w9 := (Chg.refl [] wr).drew.trans (Chg.of_grown hg9 (fun y e => by cases e))
        exact ⟨_, rfl, hown9, hby, hl, HCH.out.trans (hcg.mono (by simp)), HTr.out.hs.chg hcg (by simp)⟩
      | cons q r =>
        obtain ⟨h2, s2⟩ := q
        obtain ⟨g2, nx2, sv2, rfl, hg2, hB2, hv2, hl2, hC2⟩ := hC
        obtain ⟨x2, rfl⟩ := hC2.ptr
        have hD : ∀ y ∈ [D], y ∈ S ∨ wr.heap.size ≤ y := by intro y hm; left; simp at hm; subst hm; exact HTr.out.din
        have hh2 : h2 < 8 := HH.out (h2, s2) (by simp)
        have hcs := tjoin_any D g2 g x2 (.pointer x2) (pt g2) sv2 (.slice A1 32 c1) h2 h s2 s wr.drew HTr.out.hs hB2 HB.out (fun e => hg2 (by rw [e]; exact HTr.out.din)) hgD (hv2.more hD) (HV.out.more hD) (by omega) (by omega) (by omega) rfl
        have HC2 : Hid (Chain wr S r (.pointer x2)) := hC2
        clear hB2 hv2 hC2 hg2
        go_wp2_with fail
        go_region_held3 (fun w' => w'.cell? ⟨T, 1, none⟩ = some (hv D) ∧ w'.cell? ⟨g, 0, none⟩ = some (pt g2))
          (first
            | go_keep
            | exact ⟨f1, fa⟩)
          ((first | (go_at_call 36; refine hcs.mono ?_; rintro e w7 ⟨gn, svn, rfl, hg7, hb7, ho7, hc7, hh7⟩; have f1 : w7.cell? ⟨T, 1, none⟩ = some (hv D) := (hc7.cell (p := ⟨T, 1, none⟩) htl (by simp; omega)).trans t1; have fa : w7.cell? ⟨g, 0, none⟩ = some (pt g2) := (hc7.cell (p := ⟨g, 0, none⟩) hgl (by simp; omega)).trans a0)))
        rename (World.cell? _ _ = _ ∧ _) => hHeld
        clear hHeld f1 fa
        have hR := HR.out
        have hkk := HK.out
        have hc7' : Chg [D] wr w7 := ⟨hc7.os, hc7.tape, hc7.output, hc7.size, hc7.block⟩
        have htn := HTr.out.dig hc7' hh7
        have hlow := HTr.out.low
        have hin : ∀ y ∈ [D], y ∈ S ∨ wr.heap.size ≤ y := by intro y hm; left; simp at hm; subst hm; exact HTr.out.din
        go_wp2_with fail
        go_roundg (gk - 1)
        case measure => simp at hkk; omega
        case rel =>
          exact ⟨gn, .pointer x2, svn, h2 + 1, sha (s2 ++ s), r, rfl, fun hm => by have := hlow gn hm; have h3 : wr.heap.size ≤ gn := hg7; omega, by exact_mod_cast hb7, Bs.of_own _ ho7 (sha_bytes _) hlow, sha_len _, sha_bytes _, HC2.out.chg hc7' hin,
            by simp at hkk; omega, fun q hq => HH.out q (by simp [hq]), hR, htn, HCH.out.trans hc7'⟩
end Go.Proofs.YtcpeldnikloebaaDoor

/- (*Tree).ReadAll walked: the segments of the data become the tree's leaves. -/
import Derived.Test.YtcpeldnikloebaaDoorRa
import Derived.Laws.MakeOwn
set_option linter.unusedVariables false
set_option linter.unusedSimpArgs false
namespace Go.Proofs.YtcpeldnikloebaaDoor
open Go.RowKit Go.Mm Go.Sha Merk

/-- the segments of m bytes -/
def segs (m : Nat) (xs : List Int) : List (List Int) := (List.range ((xs.length + m - 1) / m)).map fun j => (xs.drop (j * m)).take m
theorem segs_len (m : Nat) (xs : List Int) : (segs m xs).length = (xs.length + m - 1) / m := by simp [segs]
theorem segs_lt {m : Nat} (hm : 0 < m) (xs : List Int) (j : Nat) : j < (segs m xs).length ↔ j * m < xs.length := by
  rw [segs_len, show (j < (xs.length + m - 1) / m) ↔ (j + 1 ≤ (xs.length + m - 1) / m) from Iff.rfl, Nat.le_div_iff_mul_le hm, Nat.add_mul]
  omega
theorem segs_at {m : Nat} (xs : List Int) {j : Nat} (hj : j < (segs m xs).length) : (segs m xs)[j]? = some ((xs.drop (j * m)).take m) := by
  rw [segs_len] at hj
  simp [segs, hj]
theorem segs_snoc {m : Nat} (xs : List Int) {j : Nat} (hj : j < (segs m xs).length) : (segs m xs).take (j + 1) = (segs m xs).take j ++ [(xs.drop (j * m)).take m] := by
  rw [List.take_add_one, segs_at xs hj]; rfl

theorem info_u8' : (Tryd.prog.info? 5).map (fun i => (i.zero, i.size, i.bytes)) = some (some (.int .u8 0), 1, 1) := by kernel_rfl
def zs (m : Nat) : Array Value := madeCells #[.int .u8 0] (m * 1)
theorem zs_size (m : Nat) : (zs m).size = m := by rw [zs, size_madeCells, Nat.mul_one]
theorem make_seg (m : Nat) (hm : m < 1000000) (w : World) : (Instr.makeSlice 22 (.int .i64 m) (.int .i64 m)).run Tryd.prog w = .ok (.slice (some ⟨w.heap.size, 0, none⟩) m m) (w.alloc (.cells (zs m) 5)) := by
  obtain ⟨i0, hi0, hz0, hz1, hz2⟩ := info_parts info_u8'
  have := run_make (P := Tryd.prog) w 22 5 i0 _ Tryd.underlying22 hi0 hz0 .i64 .i64 m m (by omega) (Int.le_refl _) (by rw [hz2]; omega) (by omega)
  rw [hz1] at this
  simpa [zs, Value.cells] using this

theorem push_wsum (H : List Int → List Int) (k : Stk) (x : List Int) : wsum (push H k x) = 1 + wsum k := by
  rw [push, wsum_joinAll]

theorem set_len {idx : Nat} {k : Stk} {l ps : List (List Int)} (hk : Inv sha k l) (h : PSet sha idx k l ps) (hw : wsum k ≤ 250) : ps.length ≤ 8 := by
  rcases PSet_len sha k l ps hk h with rfl | ⟨q, hq, e⟩
  · simp
  · have h1 := wsum_mem hw q hq
    have := pow_lt8 h1 (by omega)
    omega

/-- a segment read into a new row -/
theorem Bs.seg {w : World} {S : List Nat} {g m k : Nat} {l : List Int} (h : Blk w g 5 (splice (zs m) 0 (vb l))) (hk : l.length = k) (hkm : k ≤ m) (hb : Bytes l) (hS : g ∉ S) : Bs w S (.slice (some ⟨g, 0, none⟩) k m) l := by
  subst hk
  refine ⟨_, _, rfl, Rd.of_blk (cap := m) h (by rw [vb_len]; omega) ?_ hkm, hb, fun ad e _ => ?_⟩
  · simp only [splice, List.take_zero, List.nil_append, List.drop_zero]
    rw [List.take_append_of_le_length (by rw [vb_len]; omega), List.take_of_length_le (by rw [vb_len]; omega)]
  · injection e with e; subst e; exact hS

set_option maxHeartbeats 8000000 in
theorem readall_any (T D R base B m n c idx : Nat) (a b : Addr) (pf : Bool) (A : Option Addr) (xs : List Int) (w : World) (ht : Tr w T D base pf idx (.pointer none) [] (.slice none 0 0) [] 0)
    (hR : Blk w R 59 #[.slice A n c, .int .i64 0, .int .i64 (-1)]) (he : Er w B a b) (hx : Bs w [T, D, R] (.slice A n c) xs) (hxn : xs.length = n) (hn : n ≤ 200) (hnc : n ≤ c) (hm0 : 0 < m) (hm : m ≤ 50) (hidx : idx < 256)
    (hB : B ≤ T ∧ B ≤ D ∧ B ≤ R) :
    Calls Tryd.prog 28 #[pt T, rv R, .int .i64 m] w fun e w' => e = .returned .nilIface ∧ ∃ head' k pv' ps, Tr w' T D base pf idx head' k pv' ps (segs m xs).length ∧ Inv sha k (segs m xs) ∧ PSet sha idx k (segs m xs) ps ∧
      wsum k = (segs m xs).length ∧ (∀ g, pv'.ownBlock = some g → w.heap.size ≤ g) ∧ Chg [T, D, R] w w' := by
  obtain ⟨hB1, hB2, hB3⟩ := hB
  have hNle : (segs m xs).length ≤ 200 := by
    rcases Nat.lt_or_ge 200 (segs m xs).length with h | h
    · have := (segs_lt hm0 xs 200).1 h
      omega
    · exact h
  have hNm : ∀ j, j < (segs m xs).length ↔ j * m < n := fun j => by rw [segs_lt hm0, hxn]
  obtain ⟨A', c', hxe, hrd, hbytes, hAS⟩ := hx
  rw [hxn] at hxe hrd hAS
  injection hxe with e1 e2 e3
  subst e1; subst e3
  have hRl := hR.lt
  have hTl := ht.blk.lt
  have hDl := ht.hs.lt
  have hmk := make_seg m (by omega)
  have hq0 := fun w => eq_nil_l w a
  have hq1 := fun w => eq_nil_l w b
  have hq2 := fun w => eq_same w a
  have hq3 := fun w => eq_same w b
  have hq4 : ∀ w, (binOp .neq 35 .nilIface .nilIface).run Tryd.prog w = .ok (.bool false) w := fun _ => by kernel_rfl
  have hRT : R ≠ T := hR.ne_ ht.blk (by decide)
  have hRD : R ≠ D := by
    obtain ⟨_, _, _, hd⟩ := ht.hs
    exact hR.ne_ hd (by decide)
  have HR : Hid (Blk w R 59 #[.slice A n c, .int .i64 0, .int .i64 (-1)]) := hR
  have HE : Hid (Er w B a b) := he
  have HT : Hid (Tr w T D base pf idx (.pointer none) [] (.slice none 0 0) [] 0) := ht
  have HX : Hid (Rd w 1 A n (vb xs)) := hrd
  clear hR he ht hrd
  go_enter Tryd.func28, Tryd.ntmps28
  go_wp2_with fail
  go_loopg [] ((segs m xs).length) (fun gk wr => ∃ j head' k pv' ps pr, gk = (segs m xs).length - j ∧ j ≤ (segs m xs).length ∧ Tr wr T D base pf idx head' k pv' ps j ∧ Inv sha k ((segs m xs).take j) ∧ PSet sha idx k ((segs m xs).take j) ps ∧ wsum k = j ∧
    (∀ g, pv'.ownBlock = some g → w.heap.size ≤ g) ∧ Blk wr R 59 #[.slice A n c, .int .i64 (min (j * m) n : Nat), .int .i64 pr] ∧ Chg [T, D, R] w wr)
  case atStart =>
    refine ⟨0, _, _, _, _, -1, rfl, Nat.zero_le _, HT.out, rfl, rfl, rfl, by simp [Value.ownBlock], ?_, Chg.refl _ _⟩
    simpa using HR.out
  case round =>
    obtain ⟨j, head', k, pv', ps, pr, rfl, hj, ht, hk, hp, hwk, hpv, hr, hc⟩ := hrel
    have hjm := hNm j
    have hjm1 := hNm (j + 1)
    have hadd : (j + 1) * m = j * m + m := by rw [Nat.add_mul]; omega
    rw [hadd] at hjm1
    have hgB : wr.heap.size ∉ (T :: D :: pv'.ownBlock.toList) := by
      have h1 := hc.size
      have h2 : ∀ g, pv'.ownBlock = some g → g < wr.heap.size := by
        obtain ⟨vs, ho, _⟩ := ht.own
        exact fun g hg => (ho.lt g hg).2
      simp only [List.mem_cons, not_or, Option.mem_toList]
      exact ⟨by omega, by omega, fun h => by have := h2 _ h; omega⟩
    have hsz := hc.size
    have hc2 : Chg [] wr (wr.alloc (.cells (zs m) 5)) := (Chg.refl [] wr).alloc _
    have hR2 := hr.alloc (.cells (zs m) 5)
    have hE2 : Er (wr.alloc (.cells (zs m) 5)) B a b := (HE.out.chg hc (by simp [hB1, hB2, hB3])).chg hc2 (by simp)
    have hX2 : Rd (wr.alloc (.cells (zs m) 5)) 1 A n (vb xs) := (HX.out.chg hc hAS).chg hc2 (by simp)
    have hG2 : Blk (wr.alloc (.cells (zs m) 5)) wr.heap.size 5 (zs m) := Blk.new _ _ _
    have HTr : Hid (Tr wr T D base pf idx head' k pv' ps j) := ht
    have HRr : Hid (Blk wr R 59 #[.slice A n c, .int .i64 (min (j * m) n : Nat), .int .i64 pr]) := hr
    have HC : Hid (Chg [T, D, R] w wr) := hc
    have HC2 : Hid (Chg [] wr (wr.alloc (.cells (zs m) 5))) := hc2
    have HR2 : Hid (Blk (wr.alloc (.cells (zs m) 5)) R 59 #[.slice A n c, .int .i64 (min (j * m) n : Nat), .int .i64 pr]) := hR2
    have HE2 : Hid (Er (wr.alloc (.cells (zs m) 5)) B a b) := hE2
    have HX2 : Hid (Rd (wr.alloc (.cells (zs m) 5)) 1 A n (vb xs)) := hX2
    have HG2 : Hid (Blk (wr.alloc (.cells (zs m) 5)) wr.heap.size 5 (zs m)) := hG2
    clear ht hr hc hc2 hR2 hE2 hX2 hG2
    have hRlt := HR2.out.lt
    have hRg : R ≠ wr.heap.size := by
      have := HR.out.lt
      omega
    rcases Nat.lt_or_ge j (segs m xs).length with hlt | hge
    · have hjn : j * m < n := hjm.1 hlt
      have hmin : min (j * m) n = j * m := by omega
      rw [hmin] at HR2
      have hAR : ∀ ad, A = some ad → ad.block ≠ R := fun ad e h => hAS ad e (by omega) (by simp [h])
      have hpush : ∀ w7 kk, kk = min (n - j * m) m → Blk w7 wr.heap.size 5 (splice (zs m) 0 (vb ((xs.drop (j * m)).take kk))) → Blk w7 R 59 #[.slice A n c, .int .i64 (j * m + kk : Nat), .int .i64 (-1)] →
          Chg [R, wr.heap.size] (wr.alloc (.cells (zs m) 5)) w7 → Er w7 B a b ∧ Calls Tryd.prog 23 #[pt T, .slice (some ⟨wr.heap.size, 0, none⟩) kk m] w7 (fun e w8 => e = .returned (.tuple #[]) ∧
            ∃ head' k pv' ps pr, Tr w8 T D base pf idx head' k pv' ps (j + 1) ∧ Inv sha k ((segs m xs).take (j + 1)) ∧ PSet sha idx k ((segs m xs).take (j + 1)) ps ∧ wsum k = j + 1 ∧
              (∀ g, pv'.ownBlock = some g → w.heap.size ≤ g) ∧ Blk w8 R 59 #[.slice A n c, .int .i64 (min ((j + 1) * m) n : Nat), .int .i64 pr] ∧ Chg [T, D, R] w w8) := by
        intro w7 kk hkk hb7 hr7 hc7
        have hseg : (xs.drop (j * m)).take kk = (xs.drop (j * m)).take m := by
          rcases Nat.lt_or_ge (n - j * m) m with h | h
          · rw [List.take_of_length_le (by simp; omega), List.take_of_length_le (by simp; omega)]
          · rw [hkk, Nat.min_eq_right h]
        have hsl : ((xs.drop (j * m)).take m).length = kk := by simp; omega
        rw [hseg] at hb7
        have hcr : Chg [R, wr.heap.size] wr w7 := (HC2.out.mono (by simp)).trans hc7
        have ht7 : Tr w7 T D base pf idx head' k pv' ps j := HTr.out.keepR HRr.out hcr (by
          intro y hy
          simp only [List.mem_cons, List.not_mem_nil, or_false] at hy
          rcases hy with rfl | rfl
          · exact .inl rfl
          · exact .inr (Nat.le_refl _))
        have hbs : Bs w7 (T :: D :: pv'.ownBlock.toList) (.slice (some ⟨wr.heap.size, 0, none⟩) kk m) ((xs.drop (j * m)).take m) :=
          Bs.seg hb7 hsl (by omega) (fun y hy => hbytes y (List.mem_of_mem_drop (List.mem_of_mem_take hy))) hgB
        have hwl := set_len hk hp (by omega)
        refine ⟨HE2.out.chg hc7 (by simp; have := HE.out.lt; omega), (tpush_any T D base pf idx j head' pv' _ _ k ps w7 ht7 hbs (by omega) hwk (by omega) hidx (by omega)).mono ?_⟩
        rintro e w8 ⟨rfl, head8, pv8, ht8, hc8, hp8⟩
        refine ⟨rfl, head8, _, pv8, _, -1, ht8, ?_, ?_, ?_, ?_, ?_, ?_⟩
        · rw [segs_snoc xs hlt, pushP_fst]; exact push_inv sha _ hk
        · rw [segs_snoc xs hlt]
          have h := pushP_set sha ((xs.drop (j * m)).take m) hk hp
          rw [List.length_take, Nat.min_eq_left hj] at h
          exact h
        · rw [pushP_fst, push_wsum]; omega
        · have h7 := hc7.size
          have h2 := HC2.out.size
          rcases hp8 with h | h
          · rw [h]; exact hpv
          · intro g hg; have := h g hg; omega
        · have hRn : R ∉ (T :: D :: pv'.ownBlock.toList) := by
            simp only [List.mem_cons, not_or, Option.mem_toList]
            exact ⟨hRT, hRD, fun h => by have := hpv _ h; omega⟩
          have := hr7.chg hc8 hRn
          rw [show min ((j + 1) * m) n = j * m + kk by rw [hadd]; omega]
          exact this
        · refine (HC.out.step hcr (by
            intro y hy
            simp only [List.mem_cons, List.not_mem_nil, or_false] at hy ⊢
            rcases hy with rfl | rfl
            · simp
            · exact .inr hsz)).step hc8 ?_
          intro y hy
          simp only [List.mem_cons, List.not_mem_nil, or_false, Option.mem_toList] at hy ⊢
          rcases hy with rfl | rfl | h
          · simp
          · simp
          · exact .inr (hpv _ h)
      have HP : Hid _ := hpush
      clear hpush
      rcases Nat.lt_or_ge (n - j * m) m with hsh | hwh
      · -- a short one
        have hcall := iofull_by (some ⟨wr.heap.size, 0, none⟩) m m R _ _ _ _ (ioatleast_short R wr.heap.size m m (n - j * m) B a b A n c (j * m) pr xs (zs m) _ HR2.out HG2.out HE2.out hB3 (by have := HE.out.lt; omega) hRg HX2.out hAR hjn hnc (by omega) (by omega) (Nat.le_refl _) (by rw [zs_size]; omega) rfl hsh)
        have HKK : Hid (n - j * m = min (n - j * m) m) := by show n - j * m = min (n - j * m) m; omega
        have hkm : n - j * m ≤ m := by omega
        have hkn : n = j * m + (n - j * m) := by omega
        rw [show (.int .i64 (n : Nat) : Value) = .int .i64 (j * m + (n - j * m) : Nat) by rw [← hkn]] at hcall
        generalize n - j * m = kk at *
        go_wp2_with (first
          | (go_at_call 37; refine hcall.mono ?_; rintro e w7 ⟨rfl, hb7, hr7, hc7⟩; obtain ⟨he7, hpu⟩ := HP.out w7 kk HKK.out hb7 hr7 hc7; have c0 := he7.c0; have c1 := he7.c1; have hot := he7.other; clear he7)
          | (go_at_call 23; refine hpu.mono ?_; rintro e w8 ⟨rfl, hend⟩))
        go_roundg ((segs m xs).length - (j + 1))
        case measure => omega
        case rel =>
          obtain ⟨h1, h2, h3, h4, h5⟩ := hend
          exact ⟨j + 1, h1, h2, h3, h4, _, rfl, hlt, h5.choose_spec⟩
      · have hcall := iofull_by (some ⟨wr.heap.size, 0, none⟩) m m R _ _ _ _ (iofull_whole R wr.heap.size m m A n c (j * m) pr xs (zs m) _ HR2.out HG2.out hRg HX2.out hAR hjn hnc (by omega) (by omega) hm0 (Nat.le_refl _) (by rw [zs_size]; omega) hwh)
        have HKK : Hid (m = min (n - j * m) m) := by show m = min (n - j * m) m; omega
        go_wp2_with (first
          | (go_at_call 37; refine hcall.mono ?_; rintro e w7 ⟨rfl, hb7, hr7, hc7⟩; obtain ⟨he7, hpu⟩ := HP.out w7 m HKK.out hb7 hr7 hc7; have c0 := he7.c0; have c1 := he7.c1; have hot := he7.other; clear he7)
          | (go_at_call 23; refine hpu.mono ?_; rintro e w8 ⟨rfl, hend⟩))
        go_roundg ((segs m xs).length - (j + 1))
        case measure => omega
        case rel =>
          obtain ⟨h1, h2, h3, h4, h5⟩ := hend
          exact ⟨j + 1, h1, h2, h3, h4, _, rfl, hlt, h5.choose_spec⟩
    · have hjN : j = (segs m xs).length := by omega
      have hmin : min (j * m) n = n := by
        have := mt hjm.2 (by omega)
        omega
      rw [hmin] at HR2
      have hcall := iofull_by (some ⟨wr.heap.size, 0, none⟩) m m R _ _ _ _ (ioatleast_none R m m B a b A (some ⟨wr.heap.size, 0, none⟩) n c pr _ HR2.out HE2.out (by omega) hm0 (Nat.le_refl _))
      go_wp2_with (first
        | (go_at_call 37; refine hcall.mono ?_; rintro e w7 ⟨rfl, hc7⟩; have he7 := HE2.out.chg hc7 (by simp); have c0 := he7.c0; have c1 := he7.c1; clear he7))
      go_ret
      subst hjN
      rw [List.take_length] at hk hp
      exact ⟨rfl, head', k, pv', ps, (HTr.out.chg HC2.out).chg hc7, hk, hp, hwk, hpv, (HC.out.step HC2.out (by simp)).step hc7 (by simp)⟩
end Go.Proofs.YtcpeldnikloebaaDoor

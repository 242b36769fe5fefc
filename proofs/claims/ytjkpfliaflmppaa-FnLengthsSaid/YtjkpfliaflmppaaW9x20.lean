/- spec.Depth, walked to its end. -/
import Derived.Test.YtjkpfliaflmppaaW9x19

namespace Go.Proofs.Ytjkpfliaflmppaa.Hu
open Go Go.RowKit Go.Proofs.Ytjkpfliaflmppaa.Vm Go.Proofs.Ytjkpfliaflmppaa.Pc

theorem Mv.row {v : Value} {t : Nat × Nat} {xs : List (Nat × Nat)} {m : Mem} (h : Mv v (t :: xs) m) :
    ∃ b pre sp cap, v = .slice (some ⟨b, pre.length, none⟩) (xs.length + 1) cap ∧ ∀ M : Mem, (⟨true, b, 0, pre ++ (.int .u64 (t.1 : Int) :: .int .i64 (t.2 : Int) :: (tc xs ++ sp))⟩ : Sg) ∈ m ++ M := by
  obtain ⟨b, pre, sp, cap, e, em, _⟩ := h.head
  exact ⟨b, pre, sp, cap, e, fun M => by rw [em]; simp⟩
theorem in_deep (b1 : Nat) (l1 : List Value) (pb : Nat) (lb : List Value) (pa : Nat) (la : List Value) (mx my M : Mem) :
    Rk (⟨true, b1, 0, l1⟩ :: ⟨true, pb, 0, lb⟩ :: ⟨true, pa, 0, la⟩ :: (mx ++ (my ++ M))) (⟨true, pb, 0, lb⟩ :: ⟨true, pa, 0, la⟩ :: (mx ++ (my ++ (⟨true, b1, 0, l1⟩ :: M)))) :=
  .perm (((List.Perm.swap _ _ _).trans (.cons _ ((List.Perm.swap _ _ _).trans (.cons _ ((List.perm_append_comm_assoc [_] mx (my ++ M)).trans (.append_left mx (List.perm_append_comm_assoc [_] my M))))))))
theorem out_deep (b1 : Nat) (l1 : List Value) (pb : Nat) (lb : List Value) (pa : Nat) (la : List Value) (mx my M : Mem) :
    Rk (⟨true, pb, 0, lb⟩ :: ⟨true, pa, 0, la⟩ :: (mx ++ (my ++ (⟨true, b1, 0, l1⟩ :: M)))) (⟨true, b1, 0, l1⟩ :: ⟨true, pb, 0, lb⟩ :: ⟨true, pa, 0, la⟩ :: (mx ++ (my ++ M))) :=
  .perm (((List.Perm.swap _ _ _).trans (.cons _ ((List.Perm.swap _ _ _).trans (.cons _ ((List.perm_append_comm_assoc [_] mx (my ++ M)).trans (.append_left mx (List.perm_append_comm_assoc [_] my M))))))).symm)
set_option maxRecDepth 10000 in
set_option maxHeartbeats 4000000 in
theorem depth_c (C : List Nat) (cb cap : Nat) (own : Bool) (sp : List Value) (M : Mem) (hm : (⟨own, cb, 0, ints .u32 (C.map Nat.cast) ++ sp⟩ : Sg) ∈ M) (hc : ∀ x ∈ C, x ≤ 16777215) (hn2 : 2 ≤ C.length) (h60 : C.length ≤ 60) :
    HC Try.prog 30 #[.slice (some ⟨cb, 0, none⟩) C.length cap] M (fun v M' => v = .tuple #[.int .i64 (dp C (C.length - 2) : Nat), .int .u64 (sm (fun k => (nd C k).w) 0 (C.length - 1) : Nat)] ∧ Rk M' M) := by
  obtain ⟨I, hI, hI1, hI2, hI3⟩ := of_info info136
  refine HC_of_W (fn := Try.f30) Try.func30 rfl rfl rfl rfl ?_
  repeat' (first | (refine isO ?_; first | refine oo (Pc rfl) ?_ | refine oo (Pa rfl (by omega) (by omega)) ?_ | (refine ob rfl ?_ ?_ <;> intro hq <;> try (exfalso; omega)) | refine oo (Pi rfl (by omega)) ?_ | refine oo (Pl rfl) ?_ | refine oo (Px rfl rfl) ?_ | refine oo (Pj rfl (by omega) (by omega)) ?_ | refine oo (Pk rfl (by omega) (by omega)) ?_ | refine oo (Pf rfl) ?_ | refine oo (Pv rfl (by omega) (by omega)) ?_ | refine oo (Pn rfl) ?_ | refine oo (Pm rfl) ?_ | refine os rfl rfl ?_ | refine ot rfl (by omega) ?_ | refine O_nil ?_) | refine wo rfl ?_ | refine wc rfl ?_ | refine wg rfl ?_ | refine go rfl ?_ | refine gc rfl ?_ | refine gg rfl ?_)
  refine O_alloc zero134 trivial rfl fun pa => ?_
  refine O_alloc zero134 trivial rfl fun pb => ?_
  repeat' (first | (refine isO ?_; first | refine oo (Pc rfl) ?_ | refine oo (Pa rfl (by omega) (by omega)) ?_ | (refine ob rfl ?_ ?_ <;> intro hq <;> try (exfalso; omega)) | refine oo (Pi rfl (by omega)) ?_ | refine oo (Pl rfl) ?_ | refine oo (Px rfl rfl) ?_ | refine oo (Pj rfl (by omega) (by omega)) ?_ | refine oo (Pk rfl (by omega) (by omega)) ?_ | refine oo (Pf rfl) ?_ | refine oo (Pv rfl (by omega) (by omega)) ?_ | refine oo (Pn rfl) ?_ | refine oo (Pm rfl) ?_ | refine os rfl rfl ?_ | refine ot rfl (by omega) ?_ | refine O_nil ?_) | refine wo rfl ?_ | refine wc rfl ?_ | refine wg rfl ?_ | refine go rfl ?_ | refine gc rfl ?_ | refine gg rfl ?_)
  have hgC : ∀ i, i < C.length → (ints .u32 (C.map Nat.cast) ++ sp)[i]? = some (.int .u32 (C.getD i 0 : Nat)) := fun i hi => by
    rw [List.getElem?_append_left (by rw [ints_length, List.length_map]; exact hi)]
    simp [ints, hi]
  refine W_loop (α := Nat × Value × Mem) (fun x => [(0, .slice (some ⟨cb, 0, none⟩) C.length cap), (4, .pointer (some ⟨pa, 0, none⟩)), (5, .pointer (some ⟨pb, 0, none⟩)), (6, .int .i64 x.1)]) (fun x => ⟨true, pb, 0, [.slice none 0 0]⟩ :: ⟨true, pa, 0, [x.2.1]⟩ :: (x.2.2 ++ M))
    (fun x => x.1 ≤ C.length ∧ Mv x.2.1 ((C.take x.1).map fun w => (w, 0)) x.2.2) (fun x => C.length - x.1) (0, .slice none 0 0, []) ⟨by omega, .inl ⟨rfl, by simp, rfl⟩⟩ ⟨rfl, rfl, rfl, rfl, trivial⟩ .rfl ?_
  rintro ⟨i, xv, mx⟩ ⟨hi, hx⟩
  dsimp only at hi hx ⊢
  repeat' (first | (refine isO ?_; first | refine oo (Pc rfl) ?_ | refine oo (Pa rfl (by omega) (by omega)) ?_ | (refine ob rfl ?_ ?_ <;> intro hq <;> try (exfalso; omega)) | refine oo (Pi rfl (by omega)) ?_ | refine oo (Pl rfl) ?_ | refine oo (Px rfl rfl) ?_ | refine oo (Pj rfl (by omega) (by omega)) ?_ | refine oo (Pk rfl (by omega) (by omega)) ?_ | refine oo (Pf rfl) ?_ | refine oo (Pv rfl (by omega) (by omega)) ?_ | refine oo (Pn rfl) ?_ | refine oo (Pm rfl) ?_ | refine os rfl rfl ?_ | refine ot rfl (by omega) ?_ | refine O_nil ?_) | refine wo rfl ?_ | refine wc rfl ?_ | refine wg rfl ?_ | refine go rfl ?_ | refine gc rfl ?_ | refine gg rfl ?_)
  · have hil : i < C.length := by omega
    have hci : C.getD i 0 ≤ 16777215 := by
      rw [show C.getD i 0 = C[i] by simp [hil]]
      exact hc _ (List.getElem_mem _)
    have hgi := hgC i hil
    have hlen : ((C.take i).map fun w => (w, 0)).length = i := by rw [List.length_map, List.length_take]; omega
    refine W_region_callt 8 7 24 (fun v M' => ∃ b', v = .slice (some ⟨b', 0, none⟩) 1 1 ∧ M' = ⟨true, b', 0, [.int .u64 (C.getD i 0 : Nat), .int .i64 0]⟩ :: ⟨true, pb, 0, [.slice none 0 0]⟩ :: ⟨true, pa, 0, [xv]⟩ :: (mx ++ M)) (by decide) (by decide) Tb.mixed
      [[], [], [], [1, 2], [3], [4], [5], [6], [0, 7], [8]] (by kernel_rfl) (by kernel_rfl) (by kernel_rfl) (by kernel_rfl) (by kernel_rfl) ?_ ?_
    · rintro v M' ⟨b', _, rfl⟩
      exact .drop .rfl
    simp only [List.take_succ_cons, List.take_zero, List.drop_succ_cons, List.drop_zero]
    refine QD_start ?_
    repeat' (first | (refine isQD ?_; first | refine dd rfl (Pc rfl) ?_ | refine dd rfl (Pa rfl (by omega) (by omega)) ?_ | (refine db rfl rfl ?_ ?_ <;> intro hq <;> try (exfalso; omega)) | refine dd rfl (Pi rfl (by omega)) ?_ | refine dd rfl (Pl rfl) ?_ | refine dd rfl (Px rfl rfl) ?_  | refine dd rfl (Pj rfl (by omega) (by omega)) ?_ | refine dd rfl (Pk rfl (by omega) (by omega)) ?_ | refine dd rfl (Pf rfl) ?_ | refine dd rfl (Pv rfl (by omega) (by omega)) ?_ | refine dd rfl (Pn rfl) ?_ | refine dd rfl (Pm rfl) ?_ | (refine QD_nil ⟨rfl, ?_⟩; simp only [List.reverse_cons, List.reverse_nil, List.nil_append, List.cons_append, somes])))
    refine dpure rfl (P_loadAt (o := 0) (n := i) Tb.p40 rfl (by omega) (.tail _ (.tail _ (List.mem_append_right _ hm))) hgi) trivial rfl ?_
    repeat' (first | (refine isQD ?_; first | refine dd rfl (Pc rfl) ?_ | refine dd rfl (Pa rfl (by omega) (by omega)) ?_ | (refine db rfl rfl ?_ ?_ <;> intro hq <;> try (exfalso; omega)) | refine dd rfl (Pi rfl (by omega)) ?_ | refine dd rfl (Pl rfl) ?_ | refine dd rfl (Px rfl rfl) ?_  | refine dd rfl (Pj rfl (by omega) (by omega)) ?_ | refine dd rfl (Pk rfl (by omega) (by omega)) ?_ | refine dd rfl (Pf rfl) ?_ | refine dd rfl (Pv rfl (by omega) (by omega)) ?_ | refine dd rfl (Pn rfl) ?_ | refine dd rfl (Pm rfl) ?_ | (refine QD_nil ⟨rfl, ?_⟩; simp only [List.reverse_cons, List.reverse_nil, List.nil_append, List.cons_append, somes])))
    refine dpure rfl (P_build rfl (build136 _ _)) trivial rfl ?_
    refine dbuild rfl rfl (row134_1 _ _) trivial rfl ?_
    repeat' (first | (refine isQD ?_; first | refine dd rfl (Pc rfl) ?_ | refine dd rfl (Pa rfl (by omega) (by omega)) ?_ | (refine db rfl rfl ?_ ?_ <;> intro hq <;> try (exfalso; omega)) | refine dd rfl (Pi rfl (by omega)) ?_ | refine dd rfl (Pl rfl) ?_ | refine dd rfl (Px rfl rfl) ?_  | refine dd rfl (Pj rfl (by omega) (by omega)) ?_ | refine dd rfl (Pk rfl (by omega) (by omega)) ?_ | refine dd rfl (Pf rfl) ?_ | refine dd rfl (Pv rfl (by omega) (by omega)) ?_ | refine dd rfl (Pn rfl) ?_ | refine dd rfl (Pm rfl) ?_ | (refine QD_nil ⟨rfl, ?_⟩; simp only [List.reverse_cons, List.reverse_nil, List.nil_append, List.cons_append, somes])))
    rintro v1 M' ⟨by1, rfl, rfl⟩
    refine O_weak (M' := ⟨true, by1, 0, [.int .u64 (C.getD i 0 : Nat), .int .i64 0]⟩ :: (mx ++ (⟨true, pb, 0, [.slice none 0 0]⟩ :: ⟨true, pa, 0, [xv]⟩ :: M))) (.cons .head (.perm (List.perm_append_comm_assoc [_, _] mx M))) ?_
    refine O_mvAppend (t := (C.getD i 0, 0)) hI hI1 hI2 hI3 hx (by rw [hlen]; omega) rfl rfl trivial rfl fun ad c' m' hm' => ?_
    rw [hlen] at hm' ⊢
    refine O_weak (M' := ⟨true, pb, 0, [.slice none 0 0]⟩ :: ⟨true, pa, 0, [xv]⟩ :: (m' ++ M)) (.trans (.perm (List.perm_append_comm_assoc m' [_, _, _] M)) (.drop .rfl)) ?_
    repeat' (first | (refine isO ?_; first | refine oo (Pc rfl) ?_ | refine oo (Pa rfl (by omega) (by omega)) ?_ | (refine ob rfl ?_ ?_ <;> intro hq <;> try (exfalso; omega)) | refine oo (Pi rfl (by omega)) ?_ | refine oo (Pl rfl) ?_ | refine oo (Px rfl rfl) ?_ | refine oo (Pj rfl (by omega) (by omega)) ?_ | refine oo (Pk rfl (by omega) (by omega)) ?_ | refine oo (Pf rfl) ?_ | refine oo (Pv rfl (by omega) (by omega)) ?_ | refine oo (Pn rfl) ?_ | refine oo (Pm rfl) ?_ | refine os rfl rfl ?_ | refine ot rfl (by omega) ?_ | refine O_nil ?_) | refine wo rfl ?_ | refine wc rfl ?_ | refine wg rfl ?_ | refine go rfl ?_ | refine gc rfl ?_ | refine gg rfl ?_)
    have hmv : Mv (.slice ad (i + 1) c') ((C.take (i + 1)).map fun w => (w, 0)) m' := by
      rw [List.take_succ_eq_append_getElem hil, List.map_append]
      rw [show C.getD i 0 = C[i] by simp [hil]] at hm'
      exact hm'
    exact G_stop ⟨(i + 1, .slice ad (i + 1) c', m'), ⟨by dsimp only; omega, hmv⟩, by dsimp only; omega, ⟨rfl, rfl, rfl, rfl, trivial⟩, by repeat (first | exact .rfl | exact .nil | (apply Rk.cons; (· exact TakeI.out)) | refine .drop ?_)⟩
  · obtain rfl : i = C.length := by omega
    have hx : Mv xv (Xs C 0) mx := by
      unfold Xs
      rw [List.take_length] at hx
      exact hx
    repeat' (first | (refine isO ?_; first | refine oo (Pc rfl) ?_ | refine oo (Pa rfl (by omega) (by omega)) ?_ | (refine ob rfl ?_ ?_ <;> intro hq <;> try (exfalso; omega)) | refine oo (Pi rfl (by omega)) ?_ | refine oo (Pl rfl) ?_ | refine oo (Px rfl rfl) ?_ | refine oo (Pj rfl (by omega) (by omega)) ?_ | refine oo (Pk rfl (by omega) (by omega)) ?_ | refine oo (Pf rfl) ?_ | refine oo (Pv rfl (by omega) (by omega)) ?_ | refine oo (Pn rfl) ?_ | refine oo (Pm rfl) ?_ | refine os rfl rfl ?_ | refine ot rfl (by omega) ?_ | refine O_nil ?_) | refine wo rfl ?_ | refine wc rfl ?_ | refine wg rfl ?_ | refine go rfl ?_ | refine gc rfl ?_ | refine gg rfl ?_)
    refine W_loop (α := Nat × Value × Value × Mem × Mem) (fun x => [(4, .pointer (some ⟨pa, 0, none⟩)), (5, .pointer (some ⟨pb, 0, none⟩)), (7, .int .u64 (sm (fun k => (nd C k).w) 0 x.1 : Nat)), (8, .func (.func 78) #[] #[.pointer (some ⟨pb, 0, none⟩), .pointer (some ⟨pa, 0, none⟩)])])
      (fun x => ⟨true, pb, 0, [x.2.2.1]⟩ :: ⟨true, pa, 0, [x.2.1]⟩ :: (x.2.2.2.1 ++ (x.2.2.2.2 ++ M))) (fun x => x.1 + 1 ≤ C.length ∧ Mv x.2.1 (Xs C (bld C x.1).f) x.2.2.2.1 ∧ Mv x.2.2.1 (Ys C (bld C x.1).q x.1) x.2.2.2.2) (fun x => C.length - x.1)
      (0, xv, .slice none 0 0, mx, []) ⟨by dsimp only; omega, hx, .inl ⟨rfl, rfl, rfl⟩⟩ ⟨rfl, rfl, rfl, rfl, trivial⟩ .rfl ?_
    rintro ⟨k, xv, yv, mx, my⟩ ⟨hk, hx, hy⟩
    dsimp only at hk hx hy ⊢
    have hinv := inv_all C (by omega) k hk
    obtain ⟨ax, cx, ex⟩ := hx.form
    obtain ⟨ay, cy, ey⟩ := hy.form
    rw [Xs_length] at ex
    rw [Ys_length] at ey
    have hs1 := hinv.sum
    have hs2 := hinv.f
    have hs3 := hinv.q
    subst ex
    subst ey
    have hnxy : C.length - (bld C k).f + (k - (bld C k).q) = C.length - k := by omega
    obtain ⟨nx, hnx⟩ : ∃ n, C.length - (bld C k).f = n := ⟨_, rfl⟩
    obtain ⟨ny, hny⟩ : ∃ n, k - (bld C k).q = n := ⟨_, rfl⟩
    rw [hnx] at hx hnxy ⊢
    rw [hny] at hy hnxy ⊢
    repeat' (first | (refine isO ?_; first | refine oo (Pc rfl) ?_ | refine oo (Pa rfl (by omega) (by omega)) ?_ | (refine ob rfl ?_ ?_ <;> intro hq <;> try (exfalso; omega)) | refine oo (Pi rfl (by omega)) ?_ | refine oo (Pl rfl) ?_ | refine oo (Px rfl rfl) ?_ | refine oo (Pj rfl (by omega) (by omega)) ?_ | refine oo (Pk rfl (by omega) (by omega)) ?_ | refine oo (Pf rfl) ?_ | refine oo (Pv rfl (by omega) (by omega)) ?_ | refine oo (Pn rfl) ?_ | refine oo (Pm rfl) ?_ | refine os rfl rfl ?_ | refine ot rfl (by omega) ?_ | refine O_nil ?_) | refine wo rfl ?_ | refine wc rfl ?_ | refine wg rfl ?_ | refine go rfl ?_ | refine gc rfl ?_ | refine gg rfl ?_)
    · have hk1 : k + 1 < C.length := by omega
      obtain ⟨g1, g2, g3, g4, g5, g6⟩ := two_takes C hk1
      refine O_call rfl rfl Tb.k78 trivial rfl (take_bld C _ _ k _ _ mx my M pa pb hx hy g4 g5 g6) ?_
      rintro _ M1 ⟨xv1, yv1, hx1, hy1, rfl, hrk⟩
      refine O_weak hrk ?_
      clear hrk
      refine O_alloc zero136 trivial rfl fun b1 => ?_
      refine O_storeAgg0 Tb.c136 (by decide) rfl rfl rfl (one136 _ _) trivial .head rfl ?_
      repeat' (first | (refine isO ?_; first | refine oo (Pc rfl) ?_ | refine oo (Pa rfl (by omega) (by omega)) ?_ | (refine ob rfl ?_ ?_ <;> intro hq <;> try (exfalso; omega)) | refine oo (Pi rfl (by omega)) ?_ | refine oo (Pl rfl) ?_ | refine oo (Px rfl rfl) ?_ | refine oo (Pj rfl (by omega) (by omega)) ?_ | refine oo (Pk rfl (by omega) (by omega)) ?_ | refine oo (Pf rfl) ?_ | refine oo (Pv rfl (by omega) (by omega)) ?_ | refine oo (Pn rfl) ?_ | refine oo (Pm rfl) ?_ | refine os rfl rfl ?_ | refine ot rfl (by omega) ?_ | refine O_nil ?_) | refine wo rfl ?_ | refine wc rfl ?_ | refine wg rfl ?_ | refine go rfl ?_ | refine gc rfl ?_ | refine gg rfl ?_)
      refine O_weak (in_deep b1 _ pb _ pa _ mx my M) ?_
      refine O_call rfl rfl Tb.k78 trivial rfl (take_bld C _ _ k _ _ mx my _ pa pb hx1 hy1 g1 g2 g3) ?_
      rintro _ M2 ⟨xv2, yv2, hx2, hy2, rfl, hrk⟩
      refine O_weak hrk ?_
      clear hrk
      refine O_alloc zero136 trivial rfl fun b2 => ?_
      refine O_storeAgg0 Tb.c136 (by decide) rfl rfl rfl (one136 _ _) trivial .head rfl ?_
      refine O_weak (.cons .head (out_deep b1 _ pb _ pa _ mx my M)) ?_
      have hwe : (nd C k).w = tkW C (bld C k).nds (bld C k).f (bld C k).q + tkW C (bld C k).nds (tkF C (bld C k).nds (bld C k).f (bld C k).q) (tkQ C (bld C k).nds (bld C k).f (bld C k).q) := rfl
      have hdp := dp_eq C hk1
      have hle := wh_le C hn2 hc h60 hk1
      have hdl := dp_le C k
      have hsl : sm (fun k => (nd C k).w) 0 (k + 1) = sm (fun k => (nd C k).w) 0 k + (nd C k).w := sm_last (Nat.zero_le k)
      have hsb := sm_le (fun k => (nd C k).w) 1006632900 k fun x hx => wh_le C hn2 hc h60 (by omega)
      have hkb : k * 1006632900 ≤ 60 * 1006632900 := Nat.mul_le_mul_right _ (by omega)
      have hq2 : tkQ C (bld C k).nds (tkF C (bld C k).nds (bld C k).f (bld C k).q) (tkQ C (bld C k).nds (bld C k).f (bld C k).q) ≤ k := by
        have := (inv_all C (by omega) (k + 1) (by omega)).q
        exact this
      have hyl := Ys_length C (tkQ C (bld C k).nds (tkF C (bld C k).nds (bld C k).f (bld C k).q) (tkQ C (bld C k).nds (bld C k).f (bld C k).q)) k
      have hys := Ys_snoc C _ k hq2
      generalize tkW C (bld C k).nds (bld C k).f (bld C k).q = w1 at *
      generalize tkW C (bld C k).nds (tkF C (bld C k).nds (bld C k).f (bld C k).q) (tkQ C (bld C k).nds (bld C k).f (bld C k).q) = w2 at *
      generalize (if tkL C (bld C k).nds (bld C k).f (bld C k).q then 0 else dp C (bld C k).q) = d1 at *
      generalize (if tkL C (bld C k).nds (tkF C (bld C k).nds (bld C k).f (bld C k).q) (tkQ C (bld C k).nds (bld C k).f (bld C k).q) then 0 else dp C (tkQ C (bld C k).nds (bld C k).f (bld C k).q)) = d2 at *
      have hsum : ((sm (fun k => (nd C k).w) 0 k : Nat) : Int) + ((w1 : Int) + (w2 : Int)) = ((sm (fun k => (nd C k).w) 0 (k + 1) : Nat) : Int) := by rw [hsl, hwe]; omega
      repeat' (first | (refine isO ?_; first | refine oo (Pc rfl) ?_ | refine oo (Pa rfl (by omega) (by omega)) ?_ | (refine ob rfl ?_ ?_ <;> intro hq <;> try (exfalso; omega)) | refine oo (Pi rfl (by omega)) ?_ | refine oo (Pl rfl) ?_ | refine oo (Px rfl rfl) ?_ | refine oo (Pj rfl (by omega) (by omega)) ?_ | refine oo (Pk rfl (by omega) (by omega)) ?_ | refine oo (Pf rfl) ?_ | refine oo (Pv rfl (by omega) (by omega)) ?_ | refine oo (Pn rfl) ?_ | refine oo (Pm rfl) ?_ | refine os rfl rfl ?_ | refine ot rfl (by omega) ?_ | refine O_nil ?_) | refine wo rfl ?_ | refine wc rfl ?_ | refine wg rfl ?_ | refine go rfl ?_ | refine gc rfl ?_ | refine gg rfl ?_)
      refine O_pure (P_is (P_max rfl rfl) (show Value.int .i64 _ = .int .i64 ((max d1 d2 : Nat) : Int) from congrArg (Value.int .i64) (by split <;> omega))) trivial rfl ?_
      repeat' (first | (refine isO ?_; first | refine oo (Pc rfl) ?_ | refine oo (Pa rfl (by omega) (by omega)) ?_ | (refine ob rfl ?_ ?_ <;> intro hq <;> try (exfalso; omega)) | refine oo (Pi rfl (by omega)) ?_ | refine oo (Pl rfl) ?_ | refine oo (Px rfl rfl) ?_ | refine oo (Pj rfl (by omega) (by omega)) ?_ | refine oo (Pk rfl (by omega) (by omega)) ?_ | refine oo (Pf rfl) ?_ | refine oo (Pv rfl (by omega) (by omega)) ?_ | refine oo (Pn rfl) ?_ | refine oo (Pm rfl) ?_ | refine os rfl rfl ?_ | refine ot rfl (by omega) ?_ | refine O_nil ?_) | refine wo rfl ?_ | refine wc rfl ?_ | refine wg rfl ?_ | refine go rfl ?_ | refine gc rfl ?_ | refine gg rfl ?_)
      refine O_pure (P_build rfl (build136 _ _)) trivial rfl ?_
      refine O_buildSlice rfl (row134_1 _ _) trivial rfl fun by1 => ?_
      rw [show (w1 : Int) + (w2 : Int) = ((nd C k).w : Nat) by rw [hwe]; rfl] at hsum ⊢
      rw [show ((max d1 d2 : Nat) : Int) + 1 = ((dp C k : Nat) : Int) by rw [hdp]; rfl]
      refine O_weak (M' := ⟨true, by1, 0, [.int .u64 ((nd C k).w : Nat), .int .i64 (dp C k : Nat)]⟩ :: (my ++ (⟨true, pb, 0, [yv2]⟩ :: ⟨true, pa, 0, [xv2]⟩ :: (mx ++ M)))) (.cons .head (.drop (.drop (.perm ((List.Perm.append_left [_, _] (List.perm_append_comm_assoc mx my M)).trans (List.perm_append_comm_assoc [_, _] my (mx ++ M))))))) ?_
      refine O_mvAppend (t := ((nd C k).w, dp C k)) hI hI1 hI2 hI3 hy2 (by rw [hyl]; omega) rfl rfl trivial rfl fun ad c' m' hm' => ?_
      rw [← hys] at hm'
      refine O_weak (M' := ⟨true, pb, 0, [yv2]⟩ :: ⟨true, pa, 0, [xv2]⟩ :: (mx ++ (m' ++ M))) (.trans (.perm ((List.perm_append_comm_assoc m' [_, _, _] (mx ++ M)).trans (List.Perm.append_left [_, _, _] (List.perm_append_comm_assoc m' mx M)))) (.drop .rfl)) ?_
      repeat' (first | (refine isO ?_; first | refine oo (Pc rfl) ?_ | refine oo (Pa rfl (by omega) (by omega)) ?_ | (refine ob rfl ?_ ?_ <;> intro hq <;> try (exfalso; omega)) | refine oo (Pi rfl (by omega)) ?_ | refine oo (Pl rfl) ?_ | refine oo (Px rfl rfl) ?_ | refine oo (Pj rfl (by omega) (by omega)) ?_ | refine oo (Pk rfl (by omega) (by omega)) ?_ | refine oo (Pf rfl) ?_ | refine oo (Pv rfl (by omega) (by omega)) ?_ | refine oo (Pn rfl) ?_ | refine oo (Pm rfl) ?_ | refine os rfl rfl ?_ | refine ot rfl (by omega) ?_ | refine O_nil ?_) | refine wo rfl ?_ | refine wc rfl ?_ | refine wg rfl ?_ | refine go rfl ?_ | refine gc rfl ?_ | refine gg rfl ?_)
      exact G_stop ⟨(k + 1, xv2, _, mx, m'), ⟨by dsimp only; omega, hx2, hm'⟩, by dsimp only; omega, ⟨rfl, rfl, congrArg (fun z => some (Value.int .u64 z)) hsum, rfl, trivial⟩, .rfl⟩
    · obtain rfl : k = C.length - 1 := by omega
      have he := bld_end C hn2
      rw [he.2] at hy
      rw [Ys_cons C (C.length - 2) (C.length - 1) (by omega)] at hy
      obtain ⟨b, pre, sp2, cap2, e, hmr⟩ := hy.row
      cases e
      repeat' (first | (refine isO ?_; first | refine oo (Pc rfl) ?_ | refine oo (Pa rfl (by omega) (by omega)) ?_ | (refine ob rfl ?_ ?_ <;> intro hq <;> try (exfalso; omega)) | refine oo (Pi rfl (by omega)) ?_ | refine oo (Pl rfl) ?_ | refine oo (Px rfl rfl) ?_ | refine oo (Pj rfl (by omega) (by omega)) ?_ | refine oo (Pk rfl (by omega) (by omega)) ?_ | refine oo (Pf rfl) ?_ | refine oo (Pv rfl (by omega) (by omega)) ?_ | refine oo (Pn rfl) ?_ | refine oo (Pm rfl) ?_ | refine os rfl rfl ?_ | refine ot rfl (by omega) ?_ | refine O_nil ?_) | refine wo rfl ?_ | refine wc rfl ?_ | refine wg rfl ?_ | refine go rfl ?_ | refine gc rfl ?_ | refine gg rfl ?_)
      have hg : (pre ++ (.int .u64 ((nd C (C.length - 2)).w : Int) :: .int .i64 (dp C (C.length - 2) : Int) :: (tc (Ys C (C.length - 2 + 1) (C.length - 1)) ++ sp2)))[pre.length + 1]? = some (.int .i64 (dp C (C.length - 2) : Int)) := by simp
      refine O_pure (P_loadAt (o := 0) (n := pre.length + 1) Tb.p3 rfl (by omega) (.tail _ (.tail _ (List.mem_append_right _ (hmr M)))) hg) trivial rfl ?_
      repeat' (first | (refine isO ?_; first | refine oo (Pc rfl) ?_ | refine oo (Pa rfl (by omega) (by omega)) ?_ | (refine ob rfl ?_ ?_ <;> intro hq <;> try (exfalso; omega)) | refine oo (Pi rfl (by omega)) ?_ | refine oo (Pl rfl) ?_ | refine oo (Px rfl rfl) ?_ | refine oo (Pj rfl (by omega) (by omega)) ?_ | refine oo (Pk rfl (by omega) (by omega)) ?_ | refine oo (Pf rfl) ?_ | refine oo (Pv rfl (by omega) (by omega)) ?_ | refine oo (Pn rfl) ?_ | refine oo (Pm rfl) ?_ | refine os rfl rfl ?_ | refine ot rfl (by omega) ?_ | refine O_nil ?_) | refine wo rfl ?_ | refine wc rfl ?_ | refine wg rfl ?_ | refine go rfl ?_ | refine gc rfl ?_ | refine gg rfl ?_)
      exact G_fin ⟨_, rfl, rfl, .drop (.drop (.trans (Rk.right mx _) (Rk.right my M)))⟩
end Go.Proofs.Ytjkpfliaflmppaa.Hu

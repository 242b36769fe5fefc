/- GenerateLengths, walked. For 2 to 60 codes with counts below 2^24, limits from 1 to 20. -/
import Derived.Test.YtjkpfliaflmppaaW9x11
import Derived.Test.YtjkpfliaflmppaaW9x13
import Derived.Test.YtjkpfliaflmppaaW9x14

namespace Go.Proofs.Ytjkpfliaflmppaa.Hu
open Go Go.RowKit Go.Proofs.Ytjkpfliaflmppaa.Vm Go.Proofs.Ytjkpfliaflmppaa.Pc

/-- The counts are in order. -/
def AscC (c : List Nat) : Prop := ∀ i, i + 1 < c.length → c.getD i 0 ≤ c.getD (i + 1) 0
theorem cnt_get (cs : List Cd) (i : Nat) : (cs.map Cd.cnt).getD i 0 = (cs.getD i Cd.zero).cnt := by
  rw [List.getD_eq_getElem?_getD, List.getElem?_map, List.getD_eq_getElem?_getD]
  cases cs[i]? <;> rfl
theorem codesV_c (cs : List Cd) (sp : List Value) (i : Nat) (h : i < cs.length) : (codesV cs ++ sp)[i * 4 + 1]? = some (.int .u32 (cs.getD i Cd.zero).cnt) := by
  have := codesV_get cs sp i 1 h (by omega)
  simpa [Cd.cells] using this
theorem len164 : (zeroOf Try.prog 164).map (·.length) = some 5120 := by kernel_rfl
theorem zero164 : ∃ c, zeroOf Try.prog 164 = some c ∧ c.length = 5120 := by
  have h := len164
  cases hI : zeroOf Try.prog 164 with
  | none => simp [hI] at h
  | some I => simp [hI] at h; exact ⟨I, rfl, h⟩
theorem info163 : (Try.prog.info? 163).map (fun i => (i.size, i.bytes, i.zero)) = some (5, 40, some (.agg #[.int .u32 0, .int .i64 0, .int .i64 0, .pointer none, .pointer none])) := by kernel_rfl
theorem info40 : (Try.prog.info? 40).map (fun i => (i.size, i.bytes, i.zero)) = some (1, 4, some (.int .u32 0)) := by kernel_rfl
theorem row46_1 (z : Int) (w : World) : (Instr.buildSlice 46 1 [(0, .int .u32 z)].toArray).run Try.prog w = .ok (.slice (some ⟨w.heap.size, 0, none⟩) 1 1) (w.alloc (.cells [.int .u32 z].toArray 40)) := by kernel_rfl
theorem zero165 : zeroOf Try.prog 165 = some [.slice none 0 0] := by kernel_rfl
theorem zero163 : zeroOf Try.prog 163 = some [.int .u32 0, .int .i64 0, .int .i64 0, .pointer none, .pointer none] := by kernel_rfl
theorem zero166 : zeroOf Try.prog 166 = some [.nilFunc] := by kernel_rfl
theorem zero117 : zeroOf Try.prog 117 = some [.nilFunc] := by kernel_rfl
theorem zero46 : zeroOf Try.prog 46 = some [.slice none 0 0] := by kernel_rfl
theorem zero168 : zeroOf Try.prog 168 = some (ints .u32 (List.replicate 28 0)) := by kernel_rfl

theorem tk_empty (c : List Nat) (k f q : Nat) (h : q = k) : tkL c (bld c k).nds f q = true := by
  unfold tkL
  exact decide_eq_true (.inl (by rw [bld_len]; exact h))
theorem tk_some {c : List Nat} {k f q : Nat} (h : q < k) (hf : f < c.length) : tkL c (bld c k).nds f q = decide (c.getD f 0 ≤ (nd c q).w) := by
  unfold tkL
  rw [bld_get c k q h, bld_len]
  by_cases e : c.getD f 0 ≤ (nd c q).w
  · rw [decide_eq_true e]; exact decide_eq_true (.inr ⟨hf, e⟩)
  · rw [decide_eq_false e]; exact decide_eq_false (fun h' => h'.elim (by omega) fun h2 => e h2.2)
theorem tk_none {c : List Nat} {k f q : Nat} (h : q < k) (hf : ¬ f < c.length) : tkL c (bld c k).nds f q = false := by
  unfold tkL
  rw [bld_len]
  exact decide_eq_false (fun h' => h'.elim (by omega) fun h2 => hf h2.1)
/-- The first of what was made lies where it should. -/
def Made (b : Nat) (c : List Nat) (k : Nat) (nl : List Value) : Prop := nl.length = 5120 ∧ ∀ j, j < k → (nl.drop (j * 5)).take 5 = ndV b (nd c j)
theorem Made.cell {b : Nat} {c : List Nat} {k : Nat} {nl : List Value} (h : Made b c k nl) {j : Nat} (hj : j < k) : nl[j * 5]? = some (.int .u32 (nd c j).w) := by
  have h5 := h.2 j hj
  have : (List.take 5 (List.drop (j * 5) nl))[0]? = (ndV b (nd c j))[0]? := by rw [h5]
  rw [List.getElem?_take_of_lt (by omega), List.getElem?_drop] at this
  exact this
theorem ndV_one (b : Nat) (x : Nd) : ∀ v ∈ ndV b x, v.oneCell' = true := by
  intro v hv
  simp only [ndV, List.mem_cons, List.not_mem_nil, or_false] at hv
  rcases hv with rfl | rfl | rfl | rfl | rfl <;> rfl
theorem made_put {b : Nat} {c : List Nat} {k : Nat} {nl : List Value} (h : Made b c k nl) (hk : k < 1024) : Made b c (k + 1) (putAt nl (k * 5) (ndV b (nd c k))) := by
  obtain ⟨h1, h2⟩ := h
  have e : nl = nl.take (k * 5) ++ nl.drop (k * 5) := (List.take_append_drop _ _).symm
  have hl : (nl.take (k * 5)).length = k * 5 := by rw [List.length_take]; omega
  have hp : putAt nl (k * 5) (ndV b (nd c k)) = nl.take (k * 5) ++ ndV b (nd c k) ++ (nl.drop (k * 5)).drop 5 := by
    have := putAt_append (ndV b (nd c k)) (nl.take (k * 5)) (nl.drop (k * 5)) (by simp only [ndV, List.length_cons, List.length_nil, List.length_drop]; omega)
    rw [← e, hl] at this
    exact this
  refine ⟨by rw [putAt_length]; exact h1, fun j hj => ?_⟩
  rw [hp]
  by_cases hjk : j < k
  · rw [List.append_assoc, List.drop_append_of_le_length (by rw [hl]; omega), List.take_append_of_le_length (by rw [List.length_drop, hl]; omega), ← h2 j hjk]
    rw [List.drop_take, List.take_take, Nat.min_eq_left (by omega)]
  · obtain rfl : j = k := by omega
    rw [List.append_assoc, List.drop_append, hl, Nat.sub_self, List.drop_of_length_le (by rw [hl]; exact Nat.le_refl _), List.nil_append, List.drop_zero]
    rfl
theorem row165_1 (v0 v1 v2 v3 v4 : Value) (w : World) : (Instr.buildSlice 165 1 [(0, .agg [v0, v1, v2, v3, v4].toArray)].toArray).run Try.prog w = .ok (.slice (some ⟨w.heap.size, 0, none⟩) 1 1) (w.alloc (.cells [v0, v1, v2, v3, v4].toArray 163)) := by kernel_rfl
/-- Where the codes that are left stand. -/
def Left (b n cap f : Nat) (ad : Option Addr) (cf : Nat) : Prop := f < n → ad = some ⟨b, f * 4, none⟩ ∧ cf = cap - f
theorem wsum_le (c : List Nat) (hc : ∀ i, c.getD i 0 < 16777216) : ∀ m, sm (fun x => c.getD x 0) 0 m ≤ m * 16777216
  | 0 => Nat.zero_le _
  | m + 1 => by rw [sm_last (Nat.zero_le m)]; have := wsum_le c hc m; have := hc m; omega

/-- The same codes but for lengths. -/
def SameC (cs ds : List Cd) : Prop := ds.length = cs.length ∧ ∀ x, x < cs.length → (ds.getD x Cd.zero).sym = (cs.getD x Cd.zero).sym ∧ (ds.getD x Cd.zero).cnt = (cs.getD x Cd.zero).cnt
def lenOf (ds : List Cd) (x : Nat) : Nat := (ds.getD x Cd.zero).len
theorem setLen_get (ds : List Cd) (y v x : Nat) : (ds.set y { ds.getD y Cd.zero with len := v }).getD x Cd.zero = if y = x ∧ y < ds.length then { ds.getD x Cd.zero with len := v } else ds.getD x Cd.zero := by
  rw [List.getD_eq_getElem?_getD, List.getElem?_set]
  by_cases e : y = x
  · subst e
    by_cases h : y < ds.length
    · rw [if_pos rfl, if_pos h, if_pos ⟨rfl, h⟩]; rfl
    · rw [if_pos rfl, if_neg h, if_neg (fun q => h q.2), List.getD_eq_getElem?_getD, List.getElem?_eq_none (by omega)]
  · rw [if_neg e, if_neg (fun q => e q.1), ← List.getD_eq_getElem?_getD]
theorem SameC.set {cs ds : List Cd} (h : SameC cs ds) (y v : Nat) : SameC cs (ds.set y { ds.getD y Cd.zero with len := v }) := by
  obtain ⟨h1, h2⟩ := h
  refine ⟨by rw [List.length_set]; exact h1, fun x hx => ?_⟩
  rw [setLen_get]
  split
  · exact h2 x hx
  · exact h2 x hx
theorem lenOf_set (ds : List Cd) (y v x : Nat) (hy : y < ds.length) : lenOf (ds.set y { ds.getD y Cd.zero with len := v }) x = if x = y then v else lenOf ds x := by
  unfold lenOf
  rw [setLen_get]
  by_cases e : y = x
  · rw [if_pos ⟨e, hy⟩, if_pos e.symm]
  · rw [if_neg (fun q => e q.1), if_neg (fun q => e q.symm)]
/-- The lengths that are asked for. -/
structure Lens (c : List Nat) (cs ds : List Cd) (mb : Nat) : Prop where
  same : SameC cs ds
  pos : ∀ x, x < cs.length → 1 ≤ lenOf ds x ∧ lenOf ds x ≤ mb
  mono : ∀ x y, x ≤ y → y < cs.length → lenOf ds y ≤ lenOf ds x
  kra : sm (fun x => 2 ^ (64 - lenOf ds x)) 0 cs.length = 2 ^ 64
  free : (∀ x, x < cs.length → Lf c x ≤ mb) → ∀ x, x < cs.length → lenOf ds x = Lf c x
/-- How it returns, for counts in order. -/
def Got (c : List Nat) (cs : List Cd) (mb b : Nat) (sp : List Value) (F M' : Mem) : Prop := ∃ ds, Lens c cs ds mb ∧ Rk M' (⟨true, b, 0, codesV ds ++ sp⟩ :: F)

def lateF (i : Nat) : Bool := !(Nat.beq i 5)
def wsF : List (List Nat) := [[], [0], [], [2], [], [1, 4], [3, 5]]
set_option maxHeartbeats 4000000 in
theorem gen68_x (cs : List Cd) (b cap mb : Nat) (sp : List Value) (F : Mem) (hn : 2 ≤ cs.length) (h60 : cs.length ≤ 60) (hc : ∀ c ∈ cs, c.cnt < 16777216) (hmb1 : 1 ≤ mb) (hmb2 : mb ≤ 20) (hcap : (codesV cs ++ sp).length = cap * 4) :
    HX Try.prog 68 #[.slice (some ⟨b, 0, none⟩) cs.length cap, .int .u64 mb] (⟨true, b, 0, codesV cs ++ sp⟩ :: F)
      (fun v M' => (v = .nilIface ∧ AscC (cs.map Cd.cnt) ∧ Got (cs.map Cd.cnt) cs mb b sp F M') ∨ ((∃ t x, v = .iface t x) ∧ ¬ AscC (cs.map Cd.cnt) ∧ Rk M' (⟨true, b, 0, codesV cs ++ sp⟩ :: F)))
      (fun M' => AscC (cs.map Cd.cnt) ∧ 2 ^ mb < cs.length ∧ Rk M' F) := by
  have hlc : (codesV cs ++ sp).length = cs.length * 4 + sp.length := by rw [List.length_append, codesV_length]
  have hcl : cs.length ≤ cap := by omega
  refine HX_of_W (fn := Try.f68) Try.func68 rfl rfl rfl rfl ?_
  repeat' (first | (refine isO ?_; first | refine oo (Pc rfl) ?_ | refine oo (Pa rfl (by omega) (by omega)) ?_ | (refine ob rfl ?_ ?_ <;> intro hq <;> try (exfalso; omega)) | refine oo (Pi rfl (by omega)) ?_ | refine oo (Pl rfl) ?_ | refine oo (Px rfl rfl) ?_ | refine oo (Pj rfl (by omega) (by omega)) ?_ | refine oo (Pk rfl (by omega) (by omega)) ?_ | refine oo (Pf rfl) ?_ | refine oo (Pv rfl (by omega) (by omega)) ?_ | refine oo (Pn rfl) ?_ | refine oo (Pm rfl) ?_ | refine os rfl rfl ?_ | refine ot rfl (by omega) ?_ | refine O_nil ?_) | refine wo rfl ?_ | refine wc rfl ?_ | refine wg rfl ?_ | refine go rfl ?_ | refine gc rfl ?_ | refine gg rfl ?_)
  refine O_box rfl trivial rfl fun mc => ?_
  repeat' (first | (refine isO ?_; first | refine oo (Pc rfl) ?_ | refine oo (Pa rfl (by omega) (by omega)) ?_ | (refine ob rfl ?_ ?_ <;> intro hq <;> try (exfalso; omega)) | refine oo (Pi rfl (by omega)) ?_ | refine oo (Pl rfl) ?_ | refine oo (Px rfl rfl) ?_ | refine oo (Pj rfl (by omega) (by omega)) ?_ | refine oo (Pk rfl (by omega) (by omega)) ?_ | refine oo (Pf rfl) ?_ | refine oo (Pv rfl (by omega) (by omega)) ?_ | refine oo (Pn rfl) ?_ | refine oo (Pm rfl) ?_ | refine os rfl rfl ?_ | refine ot rfl (by omega) ?_ | refine O_nil ?_) | refine wo rfl ?_ | refine wc rfl ?_ | refine wg rfl ?_ | refine go rfl ?_ | refine gc rfl ?_ | refine gg rfl ?_)
  refine O_pure (P_loadAt (o := 0) (n := 1) Tb.p40 rfl (by omega) (.tail _ (.head _)) (codesV_c cs sp 0 (by omega))) trivial rfl ?_
  repeat' (first | (refine isO ?_; first | refine oo (Pc rfl) ?_ | refine oo (Pa rfl (by omega) (by omega)) ?_ | (refine ob rfl ?_ ?_ <;> intro hq <;> try (exfalso; omega)) | refine oo (Pi rfl (by omega)) ?_ | refine oo (Pl rfl) ?_ | refine oo (Px rfl rfl) ?_ | refine oo (Pj rfl (by omega) (by omega)) ?_ | refine oo (Pk rfl (by omega) (by omega)) ?_ | refine oo (Pf rfl) ?_ | refine oo (Pv rfl (by omega) (by omega)) ?_ | refine oo (Pn rfl) ?_ | refine oo (Pm rfl) ?_ | refine os rfl rfl ?_ | refine ot rfl (by omega) ?_ | refine O_nil ?_) | refine wo rfl ?_ | refine wc rfl ?_ | refine wg rfl ?_ | refine go rfl ?_ | refine gc rfl ?_ | refine gg rfl ?_)
  refine O_pure (P_sliceE (o' := 4) (len' := cs.length - 1) (cap' := cap - 1) Tb.u79 Tb.c146 (by decide) rfl ⟨_, rfl⟩ rfl (by omega) (by omega) (by omega) (by omega) (by omega) (by omega) (by omega)) trivial rfl ?_
  repeat' (first | (refine isO ?_; first | refine oo (Pc rfl) ?_ | refine oo (Pa rfl (by omega) (by omega)) ?_ | (refine ob rfl ?_ ?_ <;> intro hq <;> try (exfalso; omega)) | refine oo (Pi rfl (by omega)) ?_ | refine oo (Pl rfl) ?_ | refine oo (Px rfl rfl) ?_ | refine oo (Pj rfl (by omega) (by omega)) ?_ | refine oo (Pk rfl (by omega) (by omega)) ?_ | refine oo (Pf rfl) ?_ | refine oo (Pv rfl (by omega) (by omega)) ?_ | refine oo (Pn rfl) ?_ | refine oo (Pm rfl) ?_ | refine os rfl rfl ?_ | refine ot rfl (by omega) ?_ | refine O_nil ?_) | refine wo rfl ?_ | refine wc rfl ?_ | refine wg rfl ?_ | refine go rfl ?_ | refine gc rfl ?_ | refine gg rfl ?_)
  refine W_loop (α := Nat) (fun i => [(0, .slice (some ⟨b, 0, none⟩) cs.length cap), (3, .pointer (some ⟨mc, 0, none⟩)), (5, .int .u32 (cs.getD i Cd.zero).cnt), (43, .slice (some ⟨b, 4, none⟩) (cs.length - 1) (cap - 1)), (44, .int .i64 (cs.length - 1 : Nat)), (45, .int .i64 i)])
    (fun _ => ⟨true, mc, 0, [.int .u64 mb]⟩ :: ⟨true, b, 0, codesV cs ++ sp⟩ :: F) (fun i => i + 1 ≤ cs.length ∧ ∀ j, j < i → (cs.getD j Cd.zero).cnt ≤ (cs.getD (j + 1) Cd.zero).cnt) (fun i => cs.length - i)
    0 ⟨by omega, fun j hj => by omega⟩ ⟨rfl, rfl, rfl, rfl, rfl, rfl, trivial⟩ .rfl ?_
  rintro i ⟨hi, hasc⟩
  try dsimp only
  repeat' (first | (refine isO ?_; first | refine oo (Pc rfl) ?_ | refine oo (Pa rfl (by omega) (by omega)) ?_ | (refine ob rfl ?_ ?_ <;> intro hq <;> try (exfalso; omega)) | refine oo (Pi rfl (by omega)) ?_ | refine oo (Pl rfl) ?_ | refine oo (Px rfl rfl) ?_ | refine oo (Pj rfl (by omega) (by omega)) ?_ | refine oo (Pk rfl (by omega) (by omega)) ?_ | refine oo (Pf rfl) ?_ | refine oo (Pv rfl (by omega) (by omega)) ?_ | refine oo (Pn rfl) ?_ | refine oo (Pm rfl) ?_ | refine os rfl rfl ?_ | refine ot rfl (by omega) ?_ | refine O_nil ?_) | refine wo rfl ?_ | refine wc rfl ?_ | refine wg rfl ?_ | refine go rfl ?_ | refine gc rfl ?_ | refine gg rfl ?_)
  · have hil : i + 1 < cs.length := by omega
    have hblk := codesV_block cs sp (i + 1) hil
    refine O_pure (P_loadAggAt (o := 0) (i := (i + 1) * 4) (cs := (cs.getD (i + 1) Cd.zero).cells) Tb.a146 Tb.c146 (by decide) rfl (by omega) (.tail _ (.head _)) (by omega) hblk) trivial rfl ?_
    refine O_alloc zero146 trivial rfl fun bx => ?_
    refine O_storeAgg0 (cs := (cs.getD (i + 1) Cd.zero).cells) Tb.c146 (by decide) rfl rfl rfl (Cd.cells_one _) trivial .head rfl ?_
    repeat' (first | (refine isO ?_; first | refine oo (Pc rfl) ?_ | refine oo (Pa rfl (by omega) (by omega)) ?_ | (refine ob rfl ?_ ?_ <;> intro hq <;> try (exfalso; omega)) | refine oo (Pi rfl (by omega)) ?_ | refine oo (Pl rfl) ?_ | refine oo (Px rfl rfl) ?_ | refine oo (Pj rfl (by omega) (by omega)) ?_ | refine oo (Pk rfl (by omega) (by omega)) ?_ | refine oo (Pf rfl) ?_ | refine oo (Pv rfl (by omega) (by omega)) ?_ | refine oo (Pn rfl) ?_ | refine oo (Pm rfl) ?_ | refine os rfl rfl ?_ | refine ot rfl (by omega) ?_ | refine O_nil ?_) | refine wo rfl ?_ | refine wc rfl ?_ | refine wg rfl ?_ | refine go rfl ?_ | refine gc rfl ?_ | refine gg rfl ?_)
    · refine O_callP rfl rfl Tb.k90 trivial rfl (errorf_c _ _ _ _) ?_
      repeat' (first | (refine isO ?_; first | refine oo (Pc rfl) ?_ | refine oo (Pa rfl (by omega) (by omega)) ?_ | (refine ob rfl ?_ ?_ <;> intro hq <;> try (exfalso; omega)) | refine oo (Pi rfl (by omega)) ?_ | refine oo (Pl rfl) ?_ | refine oo (Px rfl rfl) ?_ | refine oo (Pj rfl (by omega) (by omega)) ?_ | refine oo (Pk rfl (by omega) (by omega)) ?_ | refine oo (Pf rfl) ?_ | refine oo (Pv rfl (by omega) (by omega)) ?_ | refine oo (Pn rfl) ?_ | refine oo (Pm rfl) ?_ | refine os rfl rfl ?_ | refine ot rfl (by omega) ?_ | refine O_nil ?_) | refine wo rfl ?_ | refine wc rfl ?_ | refine wg rfl ?_ | refine go rfl ?_ | refine gc rfl ?_ | refine gg rfl ?_)
      refine G_fin ⟨_, rfl, .inr ⟨⟨_, _, rfl⟩, fun h => ?_, .drop (.drop .rfl)⟩⟩
      have := h i (by rw [List.length_map]; omega)
      rw [cnt_get, cnt_get] at this
      omega
    · refine G_stop ⟨i + 1, ⟨by omega, fun j hj => ?_⟩, by omega, ⟨rfl, rfl, rfl, rfl, rfl, rfl, trivial⟩, .drop .rfl⟩
      by_cases e : j = i
      · subst e; omega
      · exact hasc j (by omega)
  · have hA : AscC (cs.map Cd.cnt) := fun j hj => by rw [cnt_get, cnt_get]; exact hasc j (by rw [List.length_map] at hj; omega)
    clear hasc hi
    obtain ⟨c, hcs⟩ : ∃ c, c = cs.map Cd.cnt := ⟨_, rfl⟩
    have hcn : c.length = cs.length := by rw [hcs, List.length_map]
    have hcg : ∀ i, (cs.getD i Cd.zero).cnt = c.getD i 0 := fun i => by rw [hcs, cnt_get]
    have hc24 : ∀ i, c.getD i 0 < 16777216 := fun i => by
      rw [← hcg]
      by_cases h : i < cs.length
      · exact hc _ (by simp [h])
      · rw [List.getD_eq_getElem?_getD, List.getElem?_eq_none (by omega)]; decide
    rw [← hcs] at hA ⊢
    have hwsum := wsum_le c hc24 c.length
    obtain ⟨c164, hc164, hl164⟩ := zero164
    obtain ⟨I163, hI163, hI1, hI2, hI3⟩ := of_info info163
    have hcode := codesV_c cs sp
    refine O_alloc hc164 trivial rfl fun nb => ?_
    repeat' (first | (refine isO ?_; first | refine oo (Pc rfl) ?_ | refine oo (Pa rfl (by omega) (by omega)) ?_ | (refine ob rfl ?_ ?_ <;> intro hq <;> try (exfalso; omega)) | refine oo (Pi rfl (by omega)) ?_ | refine oo (Pl rfl) ?_ | refine oo (Px rfl rfl) ?_ | refine oo (Pj rfl (by omega) (by omega)) ?_ | refine oo (Pk rfl (by omega) (by omega)) ?_ | refine oo (Pf rfl) ?_ | refine oo (Pv rfl (by omega) (by omega)) ?_ | refine oo (Pn rfl) ?_ | refine oo (Pm rfl) ?_ | refine os rfl rfl ?_ | refine ot rfl (by omega) ?_ | refine O_nil ?_) | refine wo rfl ?_ | refine wc rfl ?_ | refine wg rfl ?_ | refine go rfl ?_ | refine gc rfl ?_ | refine gg rfl ?_)
    refine O_pure (P_sliceAE (o' := 0) (len' := 1024) (cap' := 1024) Tb.u164 Tb.c163 (by decide) rfl rfl rfl (by omega) (by omega) (by omega) (by omega) (by omega) (by omega) (by omega)) trivial rfl ?_
    refine O_alloc zero165 trivial rfl fun nc => ?_
    repeat' (first | (refine isO ?_; first | refine oo (Pc rfl) ?_ | refine oo (Pa rfl (by omega) (by omega)) ?_ | (refine ob rfl ?_ ?_ <;> intro hq <;> try (exfalso; omega)) | refine oo (Pi rfl (by omega)) ?_ | refine oo (Pl rfl) ?_ | refine oo (Px rfl rfl) ?_ | refine oo (Pj rfl (by omega) (by omega)) ?_ | refine oo (Pk rfl (by omega) (by omega)) ?_ | refine oo (Pf rfl) ?_ | refine oo (Pv rfl (by omega) (by omega)) ?_ | refine oo (Pn rfl) ?_ | refine oo (Pm rfl) ?_ | refine os rfl rfl ?_ | refine ot rfl (by omega) ?_ | refine O_nil ?_) | refine wo rfl ?_ | refine wc rfl ?_ | refine wg rfl ?_ | refine go rfl ?_ | refine gc rfl ?_ | refine gg rfl ?_)
    refine W_region_still Tb.mixed (by kernel_rfl) ?_
    repeat' (first | (refine isS ?_; first | refine ss (Pc rfl) ?_ | refine ss (Pa rfl (by omega) (by omega)) ?_ | (refine sb rfl ?_ ?_ <;> intro hq <;> try (exfalso; omega)) | refine ss (Pi rfl (by omega)) ?_ | refine ss (Pl rfl) ?_ | refine ss (Px rfl rfl) ?_ | refine ss (Pj rfl (by omega) (by omega)) ?_ | refine ss (Pk rfl (by omega) (by omega)) ?_ | refine ss (Pf rfl) ?_ | refine ss (Pv rfl (by omega) (by omega)) ?_ | refine ss (Pn rfl) ?_ | refine ss (Pm rfl) ?_ | refine OS_nil ?_))
    refine OS_pure (P_sliceE (o' := 0) (len' := 0) (cap' := 1024) Tb.u165 Tb.c163 (by decide) rfl rfl ⟨_, rfl⟩ (by omega) (by omega) (by omega) (by omega) (by omega) (by omega) (by omega)) trivial rfl ?_
    repeat' (first | (refine isS ?_; first | refine ss (Pc rfl) ?_ | refine ss (Pa rfl (by omega) (by omega)) ?_ | (refine sb rfl ?_ ?_ <;> intro hq <;> try (exfalso; omega)) | refine ss (Pi rfl (by omega)) ?_ | refine ss (Pl rfl) ?_ | refine ss (Px rfl rfl) ?_ | refine ss (Pj rfl (by omega) (by omega)) ?_ | refine ss (Pk rfl (by omega) (by omega)) ?_ | refine ss (Pf rfl) ?_ | refine ss (Pv rfl (by omega) (by omega)) ?_ | refine ss (Pn rfl) ?_ | refine ss (Pm rfl) ?_ | refine OS_nil ?_))
    repeat' (first | (refine isO ?_; first | refine oo (Pc rfl) ?_ | refine oo (Pa rfl (by omega) (by omega)) ?_ | (refine ob rfl ?_ ?_ <;> intro hq <;> try (exfalso; omega)) | refine oo (Pi rfl (by omega)) ?_ | refine oo (Pl rfl) ?_ | refine oo (Px rfl rfl) ?_ | refine oo (Pj rfl (by omega) (by omega)) ?_ | refine oo (Pk rfl (by omega) (by omega)) ?_ | refine oo (Pf rfl) ?_ | refine oo (Pv rfl (by omega) (by omega)) ?_ | refine oo (Pn rfl) ?_ | refine oo (Pm rfl) ?_ | refine os rfl rfl ?_ | refine ot rfl (by omega) ?_ | refine O_nil ?_) | refine wo rfl ?_ | refine wc rfl ?_ | refine wg rfl ?_ | refine go rfl ?_ | refine gc rfl ?_ | refine gg rfl ?_)
    refine W_loop (α := Nat × Option Addr × Nat × List Value) (fun x => [(0, .slice (some ⟨b, 0, none⟩) cs.length cap), (3, .pointer (some ⟨mc, 0, none⟩)), (8, .int .i64 (bld c x.1).q), (10, .pointer (some ⟨nc, 0, none⟩)), (11, .slice x.2.1 (cs.length - (bld c x.1).f) x.2.2.1), (12, .slice (some ⟨nb, (bld c x.1).q * 5, none⟩) (x.1 - (bld c x.1).q) (1024 - (bld c x.1).q))])
      (fun x => ⟨true, nc, 0, [.slice (some ⟨nb, 0, none⟩) 1024 1024]⟩ :: ⟨true, nb, 0, x.2.2.2⟩ :: ⟨true, mc, 0, [.int .u64 mb]⟩ :: ⟨true, b, 0, codesV cs ++ sp⟩ :: F)
      (fun x => x.1 + 1 ≤ cs.length ∧ Left b cs.length cap (bld c x.1).f x.2.1 x.2.2.1 ∧ Made b c x.1 x.2.2.2) (fun x => cs.length - x.1)
      (0, some ⟨b, 0, none⟩, cap, c164) ⟨by dsimp only; omega, fun _ => ⟨rfl, rfl⟩, hl164, fun j hj => by dsimp only at hj; omega⟩ ⟨rfl, rfl, rfl, rfl, rfl, rfl, trivial⟩ .rfl ?_
    rintro ⟨k, ad, cf, nl⟩ ⟨hk, hleft, hmade⟩
    dsimp only at hk hleft hmade ⊢
    obtain ⟨iv1, iv2, iv3⟩ := inv_all c (by omega) k (by omega)
    repeat' (first | (refine isO ?_; first | refine oo (Pc rfl) ?_ | refine oo (Pa rfl (by omega) (by omega)) ?_ | (refine ob rfl ?_ ?_ <;> intro hq <;> try (exfalso; omega)) | refine oo (Pi rfl (by omega)) ?_ | refine oo (Pl rfl) ?_ | refine oo (Px rfl rfl) ?_ | refine oo (Pj rfl (by omega) (by omega)) ?_ | refine oo (Pk rfl (by omega) (by omega)) ?_ | refine oo (Pf rfl) ?_ | refine oo (Pv rfl (by omega) (by omega)) ?_ | refine oo (Pn rfl) ?_ | refine oo (Pm rfl) ?_ | refine os rfl rfl ?_ | refine ot rfl (by omega) ?_ | refine O_nil ?_) | refine wo rfl ?_ | refine wc rfl ?_ | refine wg rfl ?_ | refine go rfl ?_ | refine gc rfl ?_ | refine gg rfl ?_)
    -- STEP BEGIN
    · have hk1 : k + 1 < cs.length := by omega
      have ht := took c (k := k) (by omega)
      generalize hbf : (bld c k).f = f at *
      generalize hbq : (bld c k).q = q at *
      refine O_alloc zero163 trivial rfl fun nr => ?_
      repeat' (first | (refine isO ?_; first | refine oo (Pc rfl) ?_ | refine oo (Pa rfl (by omega) (by omega)) ?_ | (refine ob rfl ?_ ?_ <;> intro hq <;> try (exfalso; omega)) | refine oo (Pi rfl (by omega)) ?_ | refine oo (Pl rfl) ?_ | refine oo (Px rfl rfl) ?_ | refine oo (Pj rfl (by omega) (by omega)) ?_ | refine oo (Pk rfl (by omega) (by omega)) ?_ | refine oo (Pf rfl) ?_ | refine oo (Pv rfl (by omega) (by omega)) ?_ | refine oo (Pn rfl) ?_ | refine oo (Pm rfl) ?_ | refine os rfl rfl ?_ | refine ot rfl (by omega) ?_ | refine O_nil ?_) | refine wo rfl ?_ | refine wc rfl ?_ | refine wg rfl ?_ | refine go rfl ?_ | refine gc rfl ?_ | refine gg rfl ?_)
      refine W_region_joinS [(93, .bool (tkL c (bld c k).nds f q)), (0, .slice (some ⟨b, 0, none⟩) cs.length cap), (3, .pointer (some ⟨mc, 0, none⟩)), (8, .int .i64 q), (10, .pointer (some ⟨nc, 0, none⟩)), (11, .slice ad (cs.length - f) cf), (12, .slice (some ⟨nb, q * 5, none⟩) (k - q) (1024 - q)), (13, .pointer (some ⟨nr, 0, none⟩))] Tb.mixed (by kernel_rfl) ?_ ?_
      · repeat' (first | (refine isS ?_; first | refine ss (Pc rfl) ?_ | refine ss (Pa rfl (by omega) (by omega)) ?_ | (refine sb rfl ?_ ?_ <;> intro hq <;> try (exfalso; omega)) | refine ss (Pi rfl (by omega)) ?_ | refine ss (Pl rfl) ?_ | refine ss (Px rfl rfl) ?_ | refine ss (Pj rfl (by omega) (by omega)) ?_ | refine ss (Pk rfl (by omega) (by omega)) ?_ | refine ss (Pf rfl) ?_ | refine ss (Pv rfl (by omega) (by omega)) ?_ | refine ss (Pn rfl) ?_ | refine ss (Pm rfl) ?_ | refine OS_nil ?_))
        · rw [tk_empty c k f q (by omega)]
          exact ⟨rfl, rfl, rfl, rfl, rfl, rfl, rfl, rfl, trivial⟩
        · obtain ⟨rfl, rfl⟩ := hleft (by omega)
          repeat' (first | (refine isS ?_; first | refine ss (Pc rfl) ?_ | refine ss (Pa rfl (by omega) (by omega)) ?_ | (refine sb rfl ?_ ?_ <;> intro hq <;> try (exfalso; omega)) | refine ss (Pi rfl (by omega)) ?_ | refine ss (Pl rfl) ?_ | refine ss (Px rfl rfl) ?_ | refine ss (Pj rfl (by omega) (by omega)) ?_ | refine ss (Pk rfl (by omega) (by omega)) ?_ | refine ss (Pf rfl) ?_ | refine ss (Pv rfl (by omega) (by omega)) ?_ | refine ss (Pn rfl) ?_ | refine ss (Pm rfl) ?_ | refine OS_nil ?_))
          refine OS_pure (P_loadAt (o := 0) (n := f * 4 + 1) Tb.p40 rfl (by omega) (.tail _ (.tail _ (.tail _ (.tail _ (.head _))))) (hcode f (by omega))) (by first | exact trivial | exact ⟨_, rfl, rfl⟩) rfl ?_
          repeat' (first | (refine isS ?_; first | refine ss (Pc rfl) ?_ | refine ss (Pa rfl (by omega) (by omega)) ?_ | (refine sb rfl ?_ ?_ <;> intro hq <;> try (exfalso; omega)) | refine ss (Pi rfl (by omega)) ?_ | refine ss (Pl rfl) ?_ | refine ss (Px rfl rfl) ?_ | refine ss (Pj rfl (by omega) (by omega)) ?_ | refine ss (Pk rfl (by omega) (by omega)) ?_ | refine ss (Pf rfl) ?_ | refine ss (Pv rfl (by omega) (by omega)) ?_ | refine ss (Pn rfl) ?_ | refine ss (Pm rfl) ?_ | refine OS_nil ?_))
          refine OS_pure (P_loadAt (o := 0) (n := q * 5) Tb.p40 rfl (by omega) (.tail _ (.tail _ (.head _))) (hmade.cell (by omega))) (by first | exact trivial | exact ⟨_, rfl, rfl⟩) rfl ?_
          rw [hcg]
          repeat' (first | (refine isS ?_; first | refine ss (Pc rfl) ?_ | refine ss (Pa rfl (by omega) (by omega)) ?_ | (refine sb rfl ?_ ?_ <;> intro hq <;> try (exfalso; omega)) | refine ss (Pi rfl (by omega)) ?_ | refine ss (Pl rfl) ?_ | refine ss (Px rfl rfl) ?_ | refine ss (Pj rfl (by omega) (by omega)) ?_ | refine ss (Pk rfl (by omega) (by omega)) ?_ | refine ss (Pf rfl) ?_ | refine ss (Pv rfl (by omega) (by omega)) ?_ | refine ss (Pn rfl) ?_ | refine ss (Pm rfl) ?_ | refine OS_nil ?_))
          · rw [tk_some (by omega) (by omega), decide_eq_true (by omega)]
            exact ⟨rfl, rfl, rfl, rfl, rfl, rfl, rfl, rfl, trivial⟩
          · rw [tk_some (by omega) (by omega), decide_eq_false (by omega)]
            exact ⟨rfl, rfl, rfl, rfl, rfl, rfl, rfl, rfl, trivial⟩
        · rw [tk_none (by omega) (by omega)]
          exact ⟨rfl, rfl, rfl, rfl, rfl, rfl, rfl, rfl, trivial⟩
      · repeat' (first | (refine isO ?_; first | refine oo (Pc rfl) ?_ | refine oo (Pa rfl (by omega) (by omega)) ?_ | (refine ob rfl ?_ ?_ <;> intro hq <;> try (exfalso; omega)) | refine oo (Pi rfl (by omega)) ?_ | refine oo (Pl rfl) ?_ | refine oo (Px rfl rfl) ?_ | refine oo (Pj rfl (by omega) (by omega)) ?_ | refine oo (Pk rfl (by omega) (by omega)) ?_ | refine oo (Pf rfl) ?_ | refine oo (Pv rfl (by omega) (by omega)) ?_ | refine oo (Pn rfl) ?_ | refine oo (Pm rfl) ?_ | refine os rfl rfl ?_ | refine ot rfl (by omega) ?_ | refine O_nil ?_) | refine wo rfl ?_ | refine wc rfl ?_ | refine wg rfl ?_ | refine go rfl ?_ | refine gc rfl ?_ | refine gg rfl ?_)
        have hnd : nd c k = ⟨tkW c (bld c k).nds f q + tkW c (bld c k).nds (tkF c (bld c k).nds f q) (tkQ c (bld c k).nds f q), tkL c (bld c k).nds f q, tkI c (bld c k).nds f q, tkL c (bld c k).nds (tkF c (bld c k).nds f q) (tkQ c (bld c k).nds f q), tkI c (bld c k).nds (tkF c (bld c k).nds f q) (tkQ c (bld c k).nds f q)⟩ := by
          rw [← hbf, ← hbq]; rfl
        have hnf : (bld c (k + 1)).f = tkF c (bld c k).nds (tkF c (bld c k).nds f q) (tkQ c (bld c k).nds f q) := by rw [← hbf, ← hbq]; rfl
        have hnq : (bld c (k + 1)).q = tkQ c (bld c k).nds (tkF c (bld c k).nds f q) (tkQ c (bld c k).nds f q) := by rw [← hbf, ← hbq]; rfl
        have hbl := bld_len c k
        have hbg := bld_get c k
        have tk1 := tk_cases c (bld c k).nds f q (by omega) (by omega) (by omega)
        generalize tkL c (bld c k).nds f q = la at *
        generalize tkI c (bld c k).nds f q = a at *
        generalize tkF c (bld c k).nds f q = f1 at *
        generalize tkQ c (bld c k).nds f q = q1 at *
        generalize tkW c (bld c k).nds f q = w1 at *
        refine W_join (fun E' M' => ∃ ad1 c1, Left b cs.length cap f1 ad1 c1 ∧ Sub E' [(0, .slice (some ⟨b, 0, none⟩) cs.length cap), (3, .pointer (some ⟨mc, 0, none⟩)), (8, .int .i64 q1), (10, .pointer (some ⟨nc, 0, none⟩)), (11, .slice ad1 (cs.length - f1) c1), (12, .slice (some ⟨nb, q1 * 5, none⟩) (k - q1) (1024 - q1)), (13, .pointer (some ⟨nr, 0, none⟩))] ∧
          Rk M' (⟨true, nr, 0, [.int .u32 w1, .int .i64 (no la a), .int .i64 0, pt b la a, .pointer none]⟩ :: ⟨true, nc, 0, [.slice (some ⟨nb, 0, none⟩) 1024 1024]⟩ :: ⟨true, nb, 0, nl⟩ :: ⟨true, mc, 0, [.int .u64 mb]⟩ :: ⟨true, b, 0, codesV cs ++ sp⟩ :: F)) ?_ ?_
        · rcases tk1 with ⟨e1, e2, e3, e4, e5, e6⟩ | ⟨e1, e2, e3, e4, e5, e6⟩ <;> subst e1 <;> replace e3 := e3.symm <;> subst e3 <;> replace e4 := e4.symm <;> subst e4 <;> replace e5 := e5.symm <;> subst e5 <;> replace e6 := e6.symm <;> subst e6
          · obtain ⟨rfl, rfl⟩ := hleft (by omega)
            repeat' (first | (refine isO ?_; first | refine oo (Pc rfl) ?_ | refine oo (Pa rfl (by omega) (by omega)) ?_ | (refine ob rfl ?_ ?_ <;> intro hq <;> try (exfalso; omega)) | refine oo (Pi rfl (by omega)) ?_ | refine oo (Pl rfl) ?_ | refine oo (Px rfl rfl) ?_ | refine oo (Pj rfl (by omega) (by omega)) ?_ | refine oo (Pk rfl (by omega) (by omega)) ?_ | refine oo (Pf rfl) ?_ | refine oo (Pv rfl (by omega) (by omega)) ?_ | refine oo (Pn rfl) ?_ | refine oo (Pm rfl) ?_ | refine os rfl rfl ?_ | refine ot rfl (by omega) ?_ | refine O_nil ?_) | refine wo rfl ?_ | refine wc rfl ?_ | refine wg rfl ?_ | refine go rfl ?_ | refine gc rfl ?_ | refine gg rfl ?_)
            by_cases hce : cap - f = 1
            · refine W_region_put 6 5 lateF (⟨true, nr, 0, [.int .u32 0, .int .i64 0, .int .i64 0, .pointer (some ⟨b, f * 4, none⟩), .pointer none]⟩ :: ⟨true, nc, 0, [.slice (some ⟨nb, 0, none⟩) 1024 1024]⟩ :: ⟨true, nb, 0, nl⟩ :: ⟨true, mc, 0, [.int .u64 mb]⟩ :: ⟨true, b, 0, codesV cs ++ sp⟩ :: F) (by decide) (by decide) Tb.mixed wsF (by kernel_rfl) (by kernel_rfl) (by kernel_rfl) (by kernel_rfl) (by kernel_rfl) (by kernel_rfl) ?_
              (simp only [List.take_succ_cons, List.take_zero, List.drop_succ_cons, List.drop_zero]; unfold wsF; refine QR_start ?_; repeat' (first | (refine isQR ?_; first | refine rl rfl rfl (Pc rfl) ?_ | refine rl rfl rfl (Pj rfl (by omega) (by omega)) ?_ | refine rl rfl rfl (Pf rfl) ?_ | (refine QR_nil ⟨rfl, ?_⟩; simp only [List.reverse_cons, List.reverse_nil, List.nil_append, List.cons_append, somes]))))
              refine rlpure rfl rfl (P_slice_end Tb.u79 Tb.c146 (by decide) rfl ⟨_, rfl⟩ rfl (by omega) (by omega) (by omega) (by omega)) trivial rfl ?_
              repeat' (first | (refine isQR ?_; first | refine rl rfl rfl (Pc rfl) ?_ | refine rl rfl rfl (Pj rfl (by omega) (by omega)) ?_ | refine rl rfl rfl (Pf rfl) ?_ | (refine QR_nil ⟨rfl, ?_⟩; simp only [List.reverse_cons, List.reverse_nil, List.nil_append, List.cons_append, somes])))
              refine rput rfl (PutAt_store (o := 0) (n := 3) Tb.c161 rfl rfl rfl trivial (by decide) .head) ?_
              repeat' (first | (refine isQR ?_; first | refine rl rfl rfl (Pc rfl) ?_ | refine rl rfl rfl (Pj rfl (by omega) (by omega)) ?_ | refine rl rfl rfl (Pf rfl) ?_ | (refine QR_nil ⟨rfl, ?_⟩; simp only [List.reverse_cons, List.reverse_nil, List.nil_append, List.cons_append, somes])))
              repeat' (first | (refine isO ?_; first | refine oo (Pc rfl) ?_ | refine oo (Pa rfl (by omega) (by omega)) ?_ | (refine ob rfl ?_ ?_ <;> intro hq <;> try (exfalso; omega)) | refine oo (Pi rfl (by omega)) ?_ | refine oo (Pl rfl) ?_ | refine oo (Px rfl rfl) ?_ | refine oo (Pj rfl (by omega) (by omega)) ?_ | refine oo (Pk rfl (by omega) (by omega)) ?_ | refine oo (Pf rfl) ?_ | refine oo (Pv rfl (by omega) (by omega)) ?_ | refine oo (Pn rfl) ?_ | refine oo (Pm rfl) ?_ | refine os rfl rfl ?_ | refine ot rfl (by omega) ?_ | refine O_nil ?_) | refine wo rfl ?_ | refine wc rfl ?_ | refine wg rfl ?_ | refine go rfl ?_ | refine gc rfl ?_ | refine gg rfl ?_)
              (have hcf := hc24 f; refine W_region_tail 7 Tb.mixed (by kernel_rfl) ?_; simp only [List.take_succ_cons, List.take_zero, List.drop_succ_cons, List.drop_zero]; (repeat' (first | (refine isS ?_; first | refine ss (Pc rfl) ?_ | refine ss (Pa rfl (by omega) (by omega)) ?_ | (refine sb rfl ?_ ?_ <;> intro hq <;> try (exfalso; omega)) | refine ss (Pi rfl (by omega)) ?_ | refine ss (Pl rfl) ?_ | refine ss (Px rfl rfl) ?_ | refine ss (Pj rfl (by omega) (by omega)) ?_ | refine ss (Pk rfl (by omega) (by omega)) ?_ | refine ss (Pf rfl) ?_ | refine ss (Pv rfl (by omega) (by omega)) ?_ | refine ss (Pn rfl) ?_ | refine ss (Pm rfl) ?_ | refine OS_nil ?_))); refine OS_pure (P_loadAt (o := 0) (n := f * 4 + 1) Tb.p40 rfl (by omega) (.tail _ (.tail _ (.tail _ (.tail _ (.head _))))) (hcode f (by omega))) (by first | exact trivial | exact ⟨_, rfl, rfl⟩) rfl ?_; rw [hcg]; (repeat' (first | (refine isS ?_; first | refine ss (Pc rfl) ?_ | refine ss (Pa rfl (by omega) (by omega)) ?_ | (refine sb rfl ?_ ?_ <;> intro hq <;> try (exfalso; omega)) | refine ss (Pi rfl (by omega)) ?_ | refine ss (Pl rfl) ?_ | refine ss (Px rfl rfl) ?_ | refine ss (Pj rfl (by omega) (by omega)) ?_ | refine ss (Pk rfl (by omega) (by omega)) ?_ | refine ss (Pf rfl) ?_ | refine ss (Pv rfl (by omega) (by omega)) ?_ | refine ss (Pn rfl) ?_ | refine ss (Pm rfl) ?_ | refine OS_nil ?_))); (repeat' (first | (refine isO ?_; first | refine oo (Pc rfl) ?_ | refine oo (Pa rfl (by omega) (by omega)) ?_ | (refine ob rfl ?_ ?_ <;> intro hq <;> try (exfalso; omega)) | refine oo (Pi rfl (by omega)) ?_ | refine oo (Pl rfl) ?_ | refine oo (Px rfl rfl) ?_ | refine oo (Pj rfl (by omega) (by omega)) ?_ | refine oo (Pk rfl (by omega) (by omega)) ?_ | refine oo (Pf rfl) ?_ | refine oo (Pv rfl (by omega) (by omega)) ?_ | refine oo (Pn rfl) ?_ | refine oo (Pm rfl) ?_ | refine os rfl rfl ?_ | refine ot rfl (by omega) ?_ | refine O_nil ?_) | refine wo rfl ?_ | refine wc rfl ?_ | refine wg rfl ?_ | refine go rfl ?_ | refine gc rfl ?_ | refine gg rfl ?_)))
              refine G_stop ⟨_, _, fun h => absurd h (by omega), ⟨rfl, rfl, rfl, rfl, (by rw [show cs.length - (f + 1) = 0 by omega]; rfl), rfl, rfl, trivial⟩, ?_⟩
              rw [Int.zero_add]
              exact .rfl
            · refine W_region_put 6 5 lateF (⟨true, nr, 0, [.int .u32 0, .int .i64 0, .int .i64 0, .pointer (some ⟨b, f * 4, none⟩), .pointer none]⟩ :: ⟨true, nc, 0, [.slice (some ⟨nb, 0, none⟩) 1024 1024]⟩ :: ⟨true, nb, 0, nl⟩ :: ⟨true, mc, 0, [.int .u64 mb]⟩ :: ⟨true, b, 0, codesV cs ++ sp⟩ :: F) (by decide) (by decide) Tb.mixed wsF (by kernel_rfl) (by kernel_rfl) (by kernel_rfl) (by kernel_rfl) (by kernel_rfl) (by kernel_rfl) ?_
              (simp only [List.take_succ_cons, List.take_zero, List.drop_succ_cons, List.drop_zero]; unfold wsF; refine QR_start ?_; repeat' (first | (refine isQR ?_; first | refine rl rfl rfl (Pc rfl) ?_ | refine rl rfl rfl (Pj rfl (by omega) (by omega)) ?_ | refine rl rfl rfl (Pf rfl) ?_ | (refine QR_nil ⟨rfl, ?_⟩; simp only [List.reverse_cons, List.reverse_nil, List.nil_append, List.cons_append, somes]))))
              refine rlpure rfl rfl (P_sliceE (o' := (f + 1) * 4) (len' := cs.length - (f + 1)) (cap' := cap - (f + 1)) Tb.u79 Tb.c146 (by decide) rfl ⟨_, rfl⟩ rfl (by omega) (by omega) (by omega) (by omega) (by omega) (by omega) (by omega)) trivial rfl ?_
              repeat' (first | (refine isQR ?_; first | refine rl rfl rfl (Pc rfl) ?_ | refine rl rfl rfl (Pj rfl (by omega) (by omega)) ?_ | refine rl rfl rfl (Pf rfl) ?_ | (refine QR_nil ⟨rfl, ?_⟩; simp only [List.reverse_cons, List.reverse_nil, List.nil_append, List.cons_append, somes])))
              refine rput rfl (PutAt_store (o := 0) (n := 3) Tb.c161 rfl rfl rfl trivial (by decide) .head) ?_
              repeat' (first | (refine isQR ?_; first | refine rl rfl rfl (Pc rfl) ?_ | refine rl rfl rfl (Pj rfl (by omega) (by omega)) ?_ | refine rl rfl rfl (Pf rfl) ?_ | (refine QR_nil ⟨rfl, ?_⟩; simp only [List.reverse_cons, List.reverse_nil, List.nil_append, List.cons_append, somes])))
              repeat' (first | (refine isO ?_; first | refine oo (Pc rfl) ?_ | refine oo (Pa rfl (by omega) (by omega)) ?_ | (refine ob rfl ?_ ?_ <;> intro hq <;> try (exfalso; omega)) | refine oo (Pi rfl (by omega)) ?_ | refine oo (Pl rfl) ?_ | refine oo (Px rfl rfl) ?_ | refine oo (Pj rfl (by omega) (by omega)) ?_ | refine oo (Pk rfl (by omega) (by omega)) ?_ | refine oo (Pf rfl) ?_ | refine oo (Pv rfl (by omega) (by omega)) ?_ | refine oo (Pn rfl) ?_ | refine oo (Pm rfl) ?_ | refine os rfl rfl ?_ | refine ot rfl (by omega) ?_ | refine O_nil ?_) | refine wo rfl ?_ | refine wc rfl ?_ | refine wg rfl ?_ | refine go rfl ?_ | refine gc rfl ?_ | refine gg rfl ?_)
              (have hcf := hc24 f; refine W_region_tail 7 Tb.mixed (by kernel_rfl) ?_; simp only [List.take_succ_cons, List.take_zero, List.drop_succ_cons, List.drop_zero]; (repeat' (first | (refine isS ?_; first | refine ss (Pc rfl) ?_ | refine ss (Pa rfl (by omega) (by omega)) ?_ | (refine sb rfl ?_ ?_ <;> intro hq <;> try (exfalso; omega)) | refine ss (Pi rfl (by omega)) ?_ | refine ss (Pl rfl) ?_ | refine ss (Px rfl rfl) ?_ | refine ss (Pj rfl (by omega) (by omega)) ?_ | refine ss (Pk rfl (by omega) (by omega)) ?_ | refine ss (Pf rfl) ?_ | refine ss (Pv rfl (by omega) (by omega)) ?_ | refine ss (Pn rfl) ?_ | refine ss (Pm rfl) ?_ | refine OS_nil ?_))); refine OS_pure (P_loadAt (o := 0) (n := f * 4 + 1) Tb.p40 rfl (by omega) (.tail _ (.tail _ (.tail _ (.tail _ (.head _))))) (hcode f (by omega))) (by first | exact trivial | exact ⟨_, rfl, rfl⟩) rfl ?_; rw [hcg]; (repeat' (first | (refine isS ?_; first | refine ss (Pc rfl) ?_ | refine ss (Pa rfl (by omega) (by omega)) ?_ | (refine sb rfl ?_ ?_ <;> intro hq <;> try (exfalso; omega)) | refine ss (Pi rfl (by omega)) ?_ | refine ss (Pl rfl) ?_ | refine ss (Px rfl rfl) ?_ | refine ss (Pj rfl (by omega) (by omega)) ?_ | refine ss (Pk rfl (by omega) (by omega)) ?_ | refine ss (Pf rfl) ?_ | refine ss (Pv rfl (by omega) (by omega)) ?_ | refine ss (Pn rfl) ?_ | refine ss (Pm rfl) ?_ | refine OS_nil ?_))); (repeat' (first | (refine isO ?_; first | refine oo (Pc rfl) ?_ | refine oo (Pa rfl (by omega) (by omega)) ?_ | (refine ob rfl ?_ ?_ <;> intro hq <;> try (exfalso; omega)) | refine oo (Pi rfl (by omega)) ?_ | refine oo (Pl rfl) ?_ | refine oo (Px rfl rfl) ?_ | refine oo (Pj rfl (by omega) (by omega)) ?_ | refine oo (Pk rfl (by omega) (by omega)) ?_ | refine oo (Pf rfl) ?_ | refine oo (Pv rfl (by omega) (by omega)) ?_ | refine oo (Pn rfl) ?_ | refine oo (Pm rfl) ?_ | refine os rfl rfl ?_ | refine ot rfl (by omega) ?_ | refine O_nil ?_) | refine wo rfl ?_ | refine wc rfl ?_ | refine wg rfl ?_ | refine go rfl ?_ | refine gc rfl ?_ | refine gg rfl ?_)))
              refine G_stop ⟨_, _, fun _ => ⟨rfl, rfl⟩, ⟨rfl, rfl, rfl, rfl, rfl, rfl, rfl, trivial⟩, ?_⟩
              rw [Int.zero_add]
              exact .rfl
          · repeat' (first | (refine isO ?_; first | refine oo (Pc rfl) ?_ | refine oo (Pa rfl (by omega) (by omega)) ?_ | (refine ob rfl ?_ ?_ <;> intro hq <;> try (exfalso; omega)) | refine oo (Pi rfl (by omega)) ?_ | refine oo (Pl rfl) ?_ | refine oo (Px rfl rfl) ?_ | refine oo (Pj rfl (by omega) (by omega)) ?_ | refine oo (Pk rfl (by omega) (by omega)) ?_ | refine oo (Pf rfl) ?_ | refine oo (Pv rfl (by omega) (by omega)) ?_ | refine oo (Pn rfl) ?_ | refine oo (Pm rfl) ?_ | refine os rfl rfl ?_ | refine ot rfl (by omega) ?_ | refine O_nil ?_) | refine wo rfl ?_ | refine wc rfl ?_ | refine wg rfl ?_ | refine go rfl ?_ | refine gc rfl ?_ | refine gg rfl ?_)
            have hwq := weight_le c (by omega) (k := q) (by omega)
            refine W_region_tail 6 Tb.mixed (by kernel_rfl) ?_
            simp only [List.take_succ_cons, List.take_zero, List.drop_succ_cons, List.drop_zero]
            repeat' (first | (refine isS ?_; first | refine ss (Pc rfl) ?_ | refine ss (Pa rfl (by omega) (by omega)) ?_ | (refine sb rfl ?_ ?_ <;> intro hq <;> try (exfalso; omega)) | refine ss (Pi rfl (by omega)) ?_ | refine ss (Pl rfl) ?_ | refine ss (Px rfl rfl) ?_ | refine ss (Pj rfl (by omega) (by omega)) ?_ | refine ss (Pk rfl (by omega) (by omega)) ?_ | refine ss (Pf rfl) ?_ | refine ss (Pv rfl (by omega) (by omega)) ?_ | refine ss (Pn rfl) ?_ | refine ss (Pm rfl) ?_ | refine OS_nil ?_))
            refine OS_pure (P_loadAt (o := 0) (n := q * 5) Tb.p40 rfl (by omega) (.tail _ (.tail _ (.head _))) (hmade.cell (by omega))) (by first | exact trivial | exact ⟨_, rfl, rfl⟩) rfl ?_
            repeat' (first | (refine isS ?_; first | refine ss (Pc rfl) ?_ | refine ss (Pa rfl (by omega) (by omega)) ?_ | (refine sb rfl ?_ ?_ <;> intro hq <;> try (exfalso; omega)) | refine ss (Pi rfl (by omega)) ?_ | refine ss (Pl rfl) ?_ | refine ss (Px rfl rfl) ?_ | refine ss (Pj rfl (by omega) (by omega)) ?_ | refine ss (Pk rfl (by omega) (by omega)) ?_ | refine ss (Pf rfl) ?_ | refine ss (Pv rfl (by omega) (by omega)) ?_ | refine ss (Pn rfl) ?_ | refine ss (Pm rfl) ?_ | refine OS_nil ?_))
            repeat' (first | (refine isO ?_; first | refine oo (Pc rfl) ?_ | refine oo (Pa rfl (by omega) (by omega)) ?_ | (refine ob rfl ?_ ?_ <;> intro hq <;> try (exfalso; omega)) | refine oo (Pi rfl (by omega)) ?_ | refine oo (Pl rfl) ?_ | refine oo (Px rfl rfl) ?_ | refine oo (Pj rfl (by omega) (by omega)) ?_ | refine oo (Pk rfl (by omega) (by omega)) ?_ | refine oo (Pf rfl) ?_ | refine oo (Pv rfl (by omega) (by omega)) ?_ | refine oo (Pn rfl) ?_ | refine oo (Pm rfl) ?_ | refine os rfl rfl ?_ | refine ot rfl (by omega) ?_ | refine O_nil ?_) | refine wo rfl ?_ | refine wc rfl ?_ | refine wg rfl ?_ | refine go rfl ?_ | refine gc rfl ?_ | refine gg rfl ?_)
            refine O_pure (P_sliceE (o' := (q + 1) * 5) (len' := k - (q + 1)) (cap' := 1024 - (q + 1)) Tb.u165 Tb.c163 (by decide) rfl ⟨_, rfl⟩ rfl (by omega) (by omega) (by omega) (by omega) (by omega) (by omega) (by omega)) trivial rfl ?_
            repeat' (first | (refine isO ?_; first | refine oo (Pc rfl) ?_ | refine oo (Pa rfl (by omega) (by omega)) ?_ | (refine ob rfl ?_ ?_ <;> intro hq <;> try (exfalso; omega)) | refine oo (Pi rfl (by omega)) ?_ | refine oo (Pl rfl) ?_ | refine oo (Px rfl rfl) ?_ | refine oo (Pj rfl (by omega) (by omega)) ?_ | refine oo (Pk rfl (by omega) (by omega)) ?_ | refine oo (Pf rfl) ?_ | refine oo (Pv rfl (by omega) (by omega)) ?_ | refine oo (Pn rfl) ?_ | refine oo (Pm rfl) ?_ | refine os rfl rfl ?_ | refine ot rfl (by omega) ?_ | refine O_nil ?_) | refine wo rfl ?_ | refine wc rfl ?_ | refine wg rfl ?_ | refine go rfl ?_ | refine gc rfl ?_ | refine gg rfl ?_)
            rw [hbg q (by omega)]
            refine G_stop ⟨_, _, hleft, ⟨rfl, rfl, rfl, rfl, rfl, rfl, rfl, trivial⟩, ?_⟩
            rw [Int.zero_add]
            exact .rfl
        · rintro E' M' ⟨ad1, c1, hleft1, hsub, hrk⟩
          refine G_code (W_weak hsub hrk ?_)
          clear hsub hrk hleft
          have hfq : f1 + q1 = 2 * k + 1 ∧ f1 ≤ cs.length ∧ q1 ≤ k := by rcases tk1 with ⟨e1, e2, e3, e4, e5, e6⟩ | ⟨e1, e2, e3, e4, e5, e6⟩ <;> omega
          obtain ⟨fq1, fq2, fq3⟩ := hfq
          clear tk1
          repeat' (first | (refine isO ?_; first | refine oo (Pc rfl) ?_ | refine oo (Pa rfl (by omega) (by omega)) ?_ | (refine ob rfl ?_ ?_ <;> intro hq <;> try (exfalso; omega)) | refine oo (Pi rfl (by omega)) ?_ | refine oo (Pl rfl) ?_ | refine oo (Px rfl rfl) ?_ | refine oo (Pj rfl (by omega) (by omega)) ?_ | refine oo (Pk rfl (by omega) (by omega)) ?_ | refine oo (Pf rfl) ?_ | refine oo (Pv rfl (by omega) (by omega)) ?_ | refine oo (Pn rfl) ?_ | refine oo (Pm rfl) ?_ | refine os rfl rfl ?_ | refine ot rfl (by omega) ?_ | refine O_nil ?_) | refine wo rfl ?_ | refine wc rfl ?_ | refine wg rfl ?_ | refine go rfl ?_ | refine gc rfl ?_ | refine gg rfl ?_)
          refine W_region_joinS [(140, .bool (tkL c (bld c k).nds f1 q1)), (0, .slice (some ⟨b, 0, none⟩) cs.length cap), (3, .pointer (some ⟨mc, 0, none⟩)), (8, .int .i64 q1), (10, .pointer (some ⟨nc, 0, none⟩)), (11, .slice ad1 (cs.length - f1) c1), (12, .slice (some ⟨nb, q1 * 5, none⟩) (k - q1) (1024 - q1)), (13, .pointer (some ⟨nr, 0, none⟩))] Tb.mixed (by kernel_rfl) ?_ ?_
          · repeat' (first | (refine isS ?_; first | refine ss (Pc rfl) ?_ | refine ss (Pa rfl (by omega) (by omega)) ?_ | (refine sb rfl ?_ ?_ <;> intro hq <;> try (exfalso; omega)) | refine ss (Pi rfl (by omega)) ?_ | refine ss (Pl rfl) ?_ | refine ss (Px rfl rfl) ?_ | refine ss (Pj rfl (by omega) (by omega)) ?_ | refine ss (Pk rfl (by omega) (by omega)) ?_ | refine ss (Pf rfl) ?_ | refine ss (Pv rfl (by omega) (by omega)) ?_ | refine ss (Pn rfl) ?_ | refine ss (Pm rfl) ?_ | refine OS_nil ?_))
            · rw [tk_empty c k f1 q1 (by omega)]
              exact ⟨rfl, rfl, rfl, rfl, rfl, rfl, rfl, rfl, trivial⟩
            · obtain ⟨rfl, rfl⟩ := hleft1 (by omega)
              repeat' (first | (refine isS ?_; first | refine ss (Pc rfl) ?_ | refine ss (Pa rfl (by omega) (by omega)) ?_ | (refine sb rfl ?_ ?_ <;> intro hq <;> try (exfalso; omega)) | refine ss (Pi rfl (by omega)) ?_ | refine ss (Pl rfl) ?_ | refine ss (Px rfl rfl) ?_ | refine ss (Pj rfl (by omega) (by omega)) ?_ | refine ss (Pk rfl (by omega) (by omega)) ?_ | refine ss (Pf rfl) ?_ | refine ss (Pv rfl (by omega) (by omega)) ?_ | refine ss (Pn rfl) ?_ | refine ss (Pm rfl) ?_ | refine OS_nil ?_))
              refine OS_pure (P_loadAt (o := 0) (n := f1 * 4 + 1) Tb.p40 rfl (by omega) (.tail _ (.tail _ (.tail _ (.tail _ (.head _))))) (hcode f1 (by omega))) (by first | exact trivial | exact ⟨_, rfl, rfl⟩) rfl ?_
              repeat' (first | (refine isS ?_; first | refine ss (Pc rfl) ?_ | refine ss (Pa rfl (by omega) (by omega)) ?_ | (refine sb rfl ?_ ?_ <;> intro hq <;> try (exfalso; omega)) | refine ss (Pi rfl (by omega)) ?_ | refine ss (Pl rfl) ?_ | refine ss (Px rfl rfl) ?_ | refine ss (Pj rfl (by omega) (by omega)) ?_ | refine ss (Pk rfl (by omega) (by omega)) ?_ | refine ss (Pf rfl) ?_ | refine ss (Pv rfl (by omega) (by omega)) ?_ | refine ss (Pn rfl) ?_ | refine ss (Pm rfl) ?_ | refine OS_nil ?_))
              refine OS_pure (P_loadAt (o := 0) (n := q1 * 5) Tb.p40 rfl (by omega) (.tail _ (.tail _ (.head _))) (hmade.cell (by omega))) (by first | exact trivial | exact ⟨_, rfl, rfl⟩) rfl ?_
              rw [hcg]
              repeat' (first | (refine isS ?_; first | refine ss (Pc rfl) ?_ | refine ss (Pa rfl (by omega) (by omega)) ?_ | (refine sb rfl ?_ ?_ <;> intro hq <;> try (exfalso; omega)) | refine ss (Pi rfl (by omega)) ?_ | refine ss (Pl rfl) ?_ | refine ss (Px rfl rfl) ?_ | refine ss (Pj rfl (by omega) (by omega)) ?_ | refine ss (Pk rfl (by omega) (by omega)) ?_ | refine ss (Pf rfl) ?_ | refine ss (Pv rfl (by omega) (by omega)) ?_ | refine ss (Pn rfl) ?_ | refine ss (Pm rfl) ?_ | refine OS_nil ?_))
              · rw [tk_some (by omega) (by omega), decide_eq_true (by omega)]
                exact ⟨rfl, rfl, rfl, rfl, rfl, rfl, rfl, rfl, trivial⟩
              · rw [tk_some (by omega) (by omega), decide_eq_false (by omega)]
                exact ⟨rfl, rfl, rfl, rfl, rfl, rfl, rfl, rfl, trivial⟩
            · rw [tk_none (by omega) (by omega)]
              exact ⟨rfl, rfl, rfl, rfl, rfl, rfl, rfl, rfl, trivial⟩
          · repeat' (first | (refine isO ?_; first | refine oo (Pc rfl) ?_ | refine oo (Pa rfl (by omega) (by omega)) ?_ | (refine ob rfl ?_ ?_ <;> intro hq <;> try (exfalso; omega)) | refine oo (Pi rfl (by omega)) ?_ | refine oo (Pl rfl) ?_ | refine oo (Px rfl rfl) ?_ | refine oo (Pj rfl (by omega) (by omega)) ?_ | refine oo (Pk rfl (by omega) (by omega)) ?_ | refine oo (Pf rfl) ?_ | refine oo (Pv rfl (by omega) (by omega)) ?_ | refine oo (Pn rfl) ?_ | refine oo (Pm rfl) ?_ | refine os rfl rfl ?_ | refine ot rfl (by omega) ?_ | refine O_nil ?_) | refine wo rfl ?_ | refine wc rfl ?_ | refine wg rfl ?_ | refine go rfl ?_ | refine gc rfl ?_ | refine gg rfl ?_)
            have tk2 := tk_cases c (bld c k).nds f1 q1 (by omega) (by omega) (by omega)
            have hwk := weight_le c (by omega) (k := k) (by omega)
            generalize tkL c (bld c k).nds f1 q1 = lb at *
            generalize tkI c (bld c k).nds f1 q1 = bb at *
            generalize tkF c (bld c k).nds f1 q1 = f2 at *
            generalize tkQ c (bld c k).nds f1 q1 = q2 at *
            generalize tkW c (bld c k).nds f1 q1 = w2 at *
            rw [hnd] at hwk
            dsimp only at hwk
            refine W_join (fun E' M' => ∃ ad2 c2, Left b cs.length cap f2 ad2 c2 ∧ Sub E' [(0, .slice (some ⟨b, 0, none⟩) cs.length cap), (3, .pointer (some ⟨mc, 0, none⟩)), (8, .int .i64 q2), (10, .pointer (some ⟨nc, 0, none⟩)), (11, .slice ad2 (cs.length - f2) c2), (12, .slice (some ⟨nb, q2 * 5, none⟩) (k - q2) (1024 - q2)), (13, .pointer (some ⟨nr, 0, none⟩))] ∧
              Rk M' (⟨true, nr, 0, [.int .u32 (w1 + w2 : Nat), .int .i64 (no la a), .int .i64 (no lb bb), pt b la a, pt b lb bb]⟩ :: ⟨true, nc, 0, [.slice (some ⟨nb, 0, none⟩) 1024 1024]⟩ :: ⟨true, nb, 0, nl⟩ :: ⟨true, mc, 0, [.int .u64 mb]⟩ :: ⟨true, b, 0, codesV cs ++ sp⟩ :: F)) ?_ ?_
            · rcases tk2 with ⟨e1, e2, e3, e4, e5, e6⟩ | ⟨e1, e2, e3, e4, e5, e6⟩ <;> subst e1 <;> replace e3 := e3.symm <;> subst e3 <;> replace e4 := e4.symm <;> subst e4 <;> replace e5 := e5.symm <;> subst e5 <;> replace e6 := e6.symm <;> subst e6
              · obtain ⟨rfl, rfl⟩ := hleft1 (by omega)
                repeat' (first | (refine isO ?_; first | refine oo (Pc rfl) ?_ | refine oo (Pa rfl (by omega) (by omega)) ?_ | (refine ob rfl ?_ ?_ <;> intro hq <;> try (exfalso; omega)) | refine oo (Pi rfl (by omega)) ?_ | refine oo (Pl rfl) ?_ | refine oo (Px rfl rfl) ?_ | refine oo (Pj rfl (by omega) (by omega)) ?_ | refine oo (Pk rfl (by omega) (by omega)) ?_ | refine oo (Pf rfl) ?_ | refine oo (Pv rfl (by omega) (by omega)) ?_ | refine oo (Pn rfl) ?_ | refine oo (Pm rfl) ?_ | refine os rfl rfl ?_ | refine ot rfl (by omega) ?_ | refine O_nil ?_) | refine wo rfl ?_ | refine wc rfl ?_ | refine wg rfl ?_ | refine go rfl ?_ | refine gc rfl ?_ | refine gg rfl ?_)
                by_cases hce : cap - f1 = 1
                · (refine W_region_put 6 5 lateF (⟨true, nr, 0, [.int .u32 w1, .int .i64 (no la a), .int .i64 0, pt b la a, .pointer (some ⟨b, f1 * 4, none⟩)]⟩ :: ⟨true, nc, 0, [.slice (some ⟨nb, 0, none⟩) 1024 1024]⟩ :: ⟨true, nb, 0, nl⟩ :: ⟨true, mc, 0, [.int .u64 mb]⟩ :: ⟨true, b, 0, codesV cs ++ sp⟩ :: F) (by decide) (by decide) Tb.mixed wsF (by kernel_rfl) (by kernel_rfl) (by kernel_rfl) (by kernel_rfl) (by kernel_rfl) (by kernel_rfl) ?_; (simp only [List.take_succ_cons, List.take_zero, List.drop_succ_cons, List.drop_zero]; unfold wsF; refine QR_start ?_; repeat' (first | (refine isQR ?_; first | refine rl rfl rfl (Pc rfl) ?_ | refine rl rfl rfl (Pj rfl (by omega) (by omega)) ?_ | refine rl rfl rfl (Pf rfl) ?_ | (refine QR_nil ⟨rfl, ?_⟩; simp only [List.reverse_cons, List.reverse_nil, List.nil_append, List.cons_append, somes])))))
                  refine rlpure rfl rfl (P_slice_end Tb.u79 Tb.c146 (by decide) rfl ⟨_, rfl⟩ rfl (by omega) (by omega) (by omega) (by omega)) trivial rfl ?_
                  repeat' (first | (refine isQR ?_; first | refine rl rfl rfl (Pc rfl) ?_ | refine rl rfl rfl (Pj rfl (by omega) (by omega)) ?_ | refine rl rfl rfl (Pf rfl) ?_ | (refine QR_nil ⟨rfl, ?_⟩; simp only [List.reverse_cons, List.reverse_nil, List.nil_append, List.cons_append, somes])))
                  refine rput rfl (PutAt_store (o := 0) (n := 4) Tb.c161 rfl rfl rfl trivial (by simp only [List.length_cons, List.length_nil]; omega) (.head)) ?_
                  repeat' (first | (refine isQR ?_; first | refine rl rfl rfl (Pc rfl) ?_ | refine rl rfl rfl (Pj rfl (by omega) (by omega)) ?_ | refine rl rfl rfl (Pf rfl) ?_ | (refine QR_nil ⟨rfl, ?_⟩; simp only [List.reverse_cons, List.reverse_nil, List.nil_append, List.cons_append, somes])))
                  repeat' (first | (refine isO ?_; first | refine oo (Pc rfl) ?_ | refine oo (Pa rfl (by omega) (by omega)) ?_ | (refine ob rfl ?_ ?_ <;> intro hq <;> try (exfalso; omega)) | refine oo (Pi rfl (by omega)) ?_ | refine oo (Pl rfl) ?_ | refine oo (Px rfl rfl) ?_ | refine oo (Pj rfl (by omega) (by omega)) ?_ | refine oo (Pk rfl (by omega) (by omega)) ?_ | refine oo (Pf rfl) ?_ | refine oo (Pv rfl (by omega) (by omega)) ?_ | refine oo (Pn rfl) ?_ | refine oo (Pm rfl) ?_ | refine os rfl rfl ?_ | refine ot rfl (by omega) ?_ | refine O_nil ?_) | refine wo rfl ?_ | refine wc rfl ?_ | refine wg rfl ?_ | refine go rfl ?_ | refine gc rfl ?_ | refine gg rfl ?_)
                  (have hcf := hc24 f1; refine W_region_tail 7 Tb.mixed (by kernel_rfl) ?_; simp only [List.take_succ_cons, List.take_zero, List.drop_succ_cons, List.drop_zero]; (repeat' (first | (refine isS ?_; first | refine ss (Pc rfl) ?_ | refine ss (Pa rfl (by omega) (by omega)) ?_ | (refine sb rfl ?_ ?_ <;> intro hq <;> try (exfalso; omega)) | refine ss (Pi rfl (by omega)) ?_ | refine ss (Pl rfl) ?_ | refine ss (Px rfl rfl) ?_ | refine ss (Pj rfl (by omega) (by omega)) ?_ | refine ss (Pk rfl (by omega) (by omega)) ?_ | refine ss (Pf rfl) ?_ | refine ss (Pv rfl (by omega) (by omega)) ?_ | refine ss (Pn rfl) ?_ | refine ss (Pm rfl) ?_ | refine OS_nil ?_))); refine OS_pure (P_loadAt (o := 0) (n := f1 * 4 + 1) Tb.p40 rfl (by omega) (.tail _ (.tail _ (.tail _ (.tail _ (.head _))))) (hcode f1 (by omega))) (by first | exact trivial | exact ⟨_, rfl, rfl⟩) rfl ?_; rw [hcg]; (repeat' (first | (refine isS ?_; first | refine ss (Pc rfl) ?_ | refine ss (Pa rfl (by omega) (by omega)) ?_ | (refine sb rfl ?_ ?_ <;> intro hq <;> try (exfalso; omega)) | refine ss (Pi rfl (by omega)) ?_ | refine ss (Pl rfl) ?_ | refine ss (Px rfl rfl) ?_ | refine ss (Pj rfl (by omega) (by omega)) ?_ | refine ss (Pk rfl (by omega) (by omega)) ?_ | refine ss (Pf rfl) ?_ | refine ss (Pv rfl (by omega) (by omega)) ?_ | refine ss (Pn rfl) ?_ | refine ss (Pm rfl) ?_ | refine OS_nil ?_))); (repeat' (first | (refine isO ?_; first | refine oo (Pc rfl) ?_ | refine oo (Pa rfl (by omega) (by omega)) ?_ | (refine ob rfl ?_ ?_ <;> intro hq <;> try (exfalso; omega)) | refine oo (Pi rfl (by omega)) ?_ | refine oo (Pl rfl) ?_ | refine oo (Px rfl rfl) ?_ | refine oo (Pj rfl (by omega) (by omega)) ?_ | refine oo (Pk rfl (by omega) (by omega)) ?_ | refine oo (Pf rfl) ?_ | refine oo (Pv rfl (by omega) (by omega)) ?_ | refine oo (Pn rfl) ?_ | refine oo (Pm rfl) ?_ | refine os rfl rfl ?_ | refine ot rfl (by omega) ?_ | refine O_nil ?_) | refine wo rfl ?_ | refine wc rfl ?_ | refine wg rfl ?_ | refine go rfl ?_ | refine gc rfl ?_ | refine gg rfl ?_)))
                  exact G_stop ⟨_, _, fun h => absurd h (by omega), ⟨rfl, rfl, rfl, rfl, (by rw [show cs.length - (f1 + 1) = 0 by omega]; rfl), rfl, rfl, trivial⟩, .rfl⟩
                · (refine W_region_put 6 5 lateF (⟨true, nr, 0, [.int .u32 w1, .int .i64 (no la a), .int .i64 0, pt b la a, .pointer (some ⟨b, f1 * 4, none⟩)]⟩ :: ⟨true, nc, 0, [.slice (some ⟨nb, 0, none⟩) 1024 1024]⟩ :: ⟨true, nb, 0, nl⟩ :: ⟨true, mc, 0, [.int .u64 mb]⟩ :: ⟨true, b, 0, codesV cs ++ sp⟩ :: F) (by decide) (by decide) Tb.mixed wsF (by kernel_rfl) (by kernel_rfl) (by kernel_rfl) (by kernel_rfl) (by kernel_rfl) (by kernel_rfl) ?_; (simp only [List.take_succ_cons, List.take_zero, List.drop_succ_cons, List.drop_zero]; unfold wsF; refine QR_start ?_; repeat' (first | (refine isQR ?_; first | refine rl rfl rfl (Pc rfl) ?_ | refine rl rfl rfl (Pj rfl (by omega) (by omega)) ?_ | refine rl rfl rfl (Pf rfl) ?_ | (refine QR_nil ⟨rfl, ?_⟩; simp only [List.reverse_cons, List.reverse_nil, List.nil_append, List.cons_append, somes])))))
                  refine rlpure rfl rfl (P_sliceE (o' := (f1 + 1) * 4) (len' := cs.length - (f1 + 1)) (cap' := cap - (f1 + 1)) Tb.u79 Tb.c146 (by decide) rfl ⟨_, rfl⟩ rfl (by omega) (by omega) (by omega) (by omega) (by omega) (by omega) (by omega)) trivial rfl ?_
                  repeat' (first | (refine isQR ?_; first | refine rl rfl rfl (Pc rfl) ?_ | refine rl rfl rfl (Pj rfl (by omega) (by omega)) ?_ | refine rl rfl rfl (Pf rfl) ?_ | (refine QR_nil ⟨rfl, ?_⟩; simp only [List.reverse_cons, List.reverse_nil, List.nil_append, List.cons_append, somes])))
                  refine rput rfl (PutAt_store (o := 0) (n := 4) Tb.c161 rfl rfl rfl trivial (by simp only [List.length_cons, List.length_nil]; omega) (.head)) ?_
                  repeat' (first | (refine isQR ?_; first | refine rl rfl rfl (Pc rfl) ?_ | refine rl rfl rfl (Pj rfl (by omega) (by omega)) ?_ | refine rl rfl rfl (Pf rfl) ?_ | (refine QR_nil ⟨rfl, ?_⟩; simp only [List.reverse_cons, List.reverse_nil, List.nil_append, List.cons_append, somes])))
                  repeat' (first | (refine isO ?_; first | refine oo (Pc rfl) ?_ | refine oo (Pa rfl (by omega) (by omega)) ?_ | (refine ob rfl ?_ ?_ <;> intro hq <;> try (exfalso; omega)) | refine oo (Pi rfl (by omega)) ?_ | refine oo (Pl rfl) ?_ | refine oo (Px rfl rfl) ?_ | refine oo (Pj rfl (by omega) (by omega)) ?_ | refine oo (Pk rfl (by omega) (by omega)) ?_ | refine oo (Pf rfl) ?_ | refine oo (Pv rfl (by omega) (by omega)) ?_ | refine oo (Pn rfl) ?_ | refine oo (Pm rfl) ?_ | refine os rfl rfl ?_ | refine ot rfl (by omega) ?_ | refine O_nil ?_) | refine wo rfl ?_ | refine wc rfl ?_ | refine wg rfl ?_ | refine go rfl ?_ | refine gc rfl ?_ | refine gg rfl ?_)
                  (have hcf := hc24 f1; refine W_region_tail 7 Tb.mixed (by kernel_rfl) ?_; simp only [List.take_succ_cons, List.take_zero, List.drop_succ_cons, List.drop_zero]; (repeat' (first | (refine isS ?_; first | refine ss (Pc rfl) ?_ | refine ss (Pa rfl (by omega) (by omega)) ?_ | (refine sb rfl ?_ ?_ <;> intro hq <;> try (exfalso; omega)) | refine ss (Pi rfl (by omega)) ?_ | refine ss (Pl rfl) ?_ | refine ss (Px rfl rfl) ?_ | refine ss (Pj rfl (by omega) (by omega)) ?_ | refine ss (Pk rfl (by omega) (by omega)) ?_ | refine ss (Pf rfl) ?_ | refine ss (Pv rfl (by omega) (by omega)) ?_ | refine ss (Pn rfl) ?_ | refine ss (Pm rfl) ?_ | refine OS_nil ?_))); refine OS_pure (P_loadAt (o := 0) (n := f1 * 4 + 1) Tb.p40 rfl (by omega) (.tail _ (.tail _ (.tail _ (.tail _ (.head _))))) (hcode f1 (by omega))) (by first | exact trivial | exact ⟨_, rfl, rfl⟩) rfl ?_; rw [hcg]; (repeat' (first | (refine isS ?_; first | refine ss (Pc rfl) ?_ | refine ss (Pa rfl (by omega) (by omega)) ?_ | (refine sb rfl ?_ ?_ <;> intro hq <;> try (exfalso; omega)) | refine ss (Pi rfl (by omega)) ?_ | refine ss (Pl rfl) ?_ | refine ss (Px rfl rfl) ?_ | refine ss (Pj rfl (by omega) (by omega)) ?_ | refine ss (Pk rfl (by omega) (by omega)) ?_ | refine ss (Pf rfl) ?_ | refine ss (Pv rfl (by omega) (by omega)) ?_ | refine ss (Pn rfl) ?_ | refine ss (Pm rfl) ?_ | refine OS_nil ?_))); (repeat' (first | (refine isO ?_; first | refine oo (Pc rfl) ?_ | refine oo (Pa rfl (by omega) (by omega)) ?_ | (refine ob rfl ?_ ?_ <;> intro hq <;> try (exfalso; omega)) | refine oo (Pi rfl (by omega)) ?_ | refine oo (Pl rfl) ?_ | refine oo (Px rfl rfl) ?_ | refine oo (Pj rfl (by omega) (by omega)) ?_ | refine oo (Pk rfl (by omega) (by omega)) ?_ | refine oo (Pf rfl) ?_ | refine oo (Pv rfl (by omega) (by omega)) ?_ | refine oo (Pn rfl) ?_ | refine oo (Pm rfl) ?_ | refine os rfl rfl ?_ | refine ot rfl (by omega) ?_ | refine O_nil ?_) | refine wo rfl ?_ | refine wc rfl ?_ | refine wg rfl ?_ | refine go rfl ?_ | refine gc rfl ?_ | refine gg rfl ?_)))
                  exact G_stop ⟨_, _, fun _ => ⟨rfl, rfl⟩, ⟨rfl, rfl, rfl, rfl, rfl, rfl, rfl, trivial⟩, .rfl⟩
              · repeat' (first | (refine isO ?_; first | refine oo (Pc rfl) ?_ | refine oo (Pa rfl (by omega) (by omega)) ?_ | (refine ob rfl ?_ ?_ <;> intro hq <;> try (exfalso; omega)) | refine oo (Pi rfl (by omega)) ?_ | refine oo (Pl rfl) ?_ | refine oo (Px rfl rfl) ?_ | refine oo (Pj rfl (by omega) (by omega)) ?_ | refine oo (Pk rfl (by omega) (by omega)) ?_ | refine oo (Pf rfl) ?_ | refine oo (Pv rfl (by omega) (by omega)) ?_ | refine oo (Pn rfl) ?_ | refine oo (Pm rfl) ?_ | refine os rfl rfl ?_ | refine ot rfl (by omega) ?_ | refine O_nil ?_) | refine wo rfl ?_ | refine wc rfl ?_ | refine wg rfl ?_ | refine go rfl ?_ | refine gc rfl ?_ | refine gg rfl ?_)
                refine W_region_tail 6 Tb.mixed (by kernel_rfl) ?_
                simp only [List.take_succ_cons, List.take_zero, List.drop_succ_cons, List.drop_zero]
                repeat' (first | (refine isS ?_; first | refine ss (Pc rfl) ?_ | refine ss (Pa rfl (by omega) (by omega)) ?_ | (refine sb rfl ?_ ?_ <;> intro hq <;> try (exfalso; omega)) | refine ss (Pi rfl (by omega)) ?_ | refine ss (Pl rfl) ?_ | refine ss (Px rfl rfl) ?_ | refine ss (Pj rfl (by omega) (by omega)) ?_ | refine ss (Pk rfl (by omega) (by omega)) ?_ | refine ss (Pf rfl) ?_ | refine ss (Pv rfl (by omega) (by omega)) ?_ | refine ss (Pn rfl) ?_ | refine ss (Pm rfl) ?_ | refine OS_nil ?_))
                refine OS_pure (P_loadAt (o := 0) (n := q1 * 5) Tb.p40 rfl (by omega) (.tail _ (.tail _ (.head _))) (hmade.cell (by omega))) (by first | exact trivial | exact ⟨_, rfl, rfl⟩) rfl ?_
                rw [← hbg q1 (by omega)]
                repeat' (first | (refine isS ?_; first | refine ss (Pc rfl) ?_ | refine ss (Pa rfl (by omega) (by omega)) ?_ | (refine sb rfl ?_ ?_ <;> intro hq <;> try (exfalso; omega)) | refine ss (Pi rfl (by omega)) ?_ | refine ss (Pl rfl) ?_ | refine ss (Px rfl rfl) ?_ | refine ss (Pj rfl (by omega) (by omega)) ?_ | refine ss (Pk rfl (by omega) (by omega)) ?_ | refine ss (Pf rfl) ?_ | refine ss (Pv rfl (by omega) (by omega)) ?_ | refine ss (Pn rfl) ?_ | refine ss (Pm rfl) ?_ | refine OS_nil ?_))
                repeat' (first | (refine isO ?_; first | refine oo (Pc rfl) ?_ | refine oo (Pa rfl (by omega) (by omega)) ?_ | (refine ob rfl ?_ ?_ <;> intro hq <;> try (exfalso; omega)) | refine oo (Pi rfl (by omega)) ?_ | refine oo (Pl rfl) ?_ | refine oo (Px rfl rfl) ?_ | refine oo (Pj rfl (by omega) (by omega)) ?_ | refine oo (Pk rfl (by omega) (by omega)) ?_ | refine oo (Pf rfl) ?_ | refine oo (Pv rfl (by omega) (by omega)) ?_ | refine oo (Pn rfl) ?_ | refine oo (Pm rfl) ?_ | refine os rfl rfl ?_ | refine ot rfl (by omega) ?_ | refine O_nil ?_) | refine wo rfl ?_ | refine wc rfl ?_ | refine wg rfl ?_ | refine go rfl ?_ | refine gc rfl ?_ | refine gg rfl ?_)
                refine O_pure (P_sliceE (o' := (q1 + 1) * 5) (len' := k - (q1 + 1)) (cap' := 1024 - (q1 + 1)) Tb.u165 Tb.c163 (by decide) rfl ⟨_, rfl⟩ rfl (by omega) (by omega) (by omega) (by omega) (by omega) (by omega) (by omega)) trivial rfl ?_
                repeat' (first | (refine isO ?_; first | refine oo (Pc rfl) ?_ | refine oo (Pa rfl (by omega) (by omega)) ?_ | (refine ob rfl ?_ ?_ <;> intro hq <;> try (exfalso; omega)) | refine oo (Pi rfl (by omega)) ?_ | refine oo (Pl rfl) ?_ | refine oo (Px rfl rfl) ?_ | refine oo (Pj rfl (by omega) (by omega)) ?_ | refine oo (Pk rfl (by omega) (by omega)) ?_ | refine oo (Pf rfl) ?_ | refine oo (Pv rfl (by omega) (by omega)) ?_ | refine oo (Pn rfl) ?_ | refine oo (Pm rfl) ?_ | refine os rfl rfl ?_ | refine ot rfl (by omega) ?_ | refine O_nil ?_) | refine wo rfl ?_ | refine wc rfl ?_ | refine wg rfl ?_ | refine go rfl ?_ | refine gc rfl ?_ | refine gg rfl ?_)
                exact G_stop ⟨_, _, hleft1, ⟨rfl, rfl, rfl, rfl, rfl, rfl, rfl, trivial⟩, .rfl⟩
            · rintro E' M' ⟨ad2, c2, hleft2, hsub, hrk⟩
              refine G_code (W_weak hsub hrk ?_)
              clear hsub hrk hleft1
              have hfq2 : f2 + q2 = 2 * k + 2 ∧ f2 ≤ cs.length ∧ q2 ≤ k := by rcases tk2 with ⟨e1, e2, e3, e4, e5, e6⟩ | ⟨e1, e2, e3, e4, e5, e6⟩ <;> omega
              obtain ⟨gq1, gq2, gq3⟩ := hfq2
              clear tk2
              repeat' (first | (refine isO ?_; first | refine oo (Pc rfl) ?_ | refine oo (Pa rfl (by omega) (by omega)) ?_ | (refine ob rfl ?_ ?_ <;> intro hq <;> try (exfalso; omega)) | refine oo (Pi rfl (by omega)) ?_ | refine oo (Pl rfl) ?_ | refine oo (Px rfl rfl) ?_ | refine oo (Pj rfl (by omega) (by omega)) ?_ | refine oo (Pk rfl (by omega) (by omega)) ?_ | refine oo (Pf rfl) ?_ | refine oo (Pv rfl (by omega) (by omega)) ?_ | refine oo (Pn rfl) ?_ | refine oo (Pm rfl) ?_ | refine os rfl rfl ?_ | refine ot rfl (by omega) ?_ | refine O_nil ?_) | refine wo rfl ?_ | refine wc rfl ?_ | refine wg rfl ?_ | refine go rfl ?_ | refine gc rfl ?_ | refine gg rfl ?_)
              refine O_pure (P_loadAggAt (o := 0) (i := 0) (cs := [.int .u32 (w1 + w2 : Nat), .int .i64 (no la a), .int .i64 (no lb bb), pt b la a, pt b lb bb]) Tb.a163 Tb.c163 (by decide) rfl rfl (.head _) (Nat.le_refl 5) rfl) trivial rfl ?_
              refine O_buildSlice rfl (row165_1 _ _ _ _ _) trivial rfl fun by1 => ?_
              have hone := ndV_one b (nd c k)
              have hput := made_put hmade (by omega)
              rw [hnd] at hone hput
              refine O_appendIn (l := nl) (size := 5) (n := 1) (len := k - q2) Tb.u165 Tb.u165 hI163 hI1 rfl rfl (.tail (.tail (.tail .head))) (.head _) (Nat.le_refl 5) hone (by omega) (by rw [hmade.1]; omega) trivial rfl ?_
              rw [show q2 * 5 + (k - q2) * 5 = k * 5 by omega]
              repeat' (first | (refine isO ?_; first | refine oo (Pc rfl) ?_ | refine oo (Pa rfl (by omega) (by omega)) ?_ | (refine ob rfl ?_ ?_ <;> intro hq <;> try (exfalso; omega)) | refine oo (Pi rfl (by omega)) ?_ | refine oo (Pl rfl) ?_ | refine oo (Px rfl rfl) ?_ | refine oo (Pj rfl (by omega) (by omega)) ?_ | refine oo (Pk rfl (by omega) (by omega)) ?_ | refine oo (Pf rfl) ?_ | refine oo (Pv rfl (by omega) (by omega)) ?_ | refine oo (Pn rfl) ?_ | refine oo (Pm rfl) ?_ | refine os rfl rfl ?_ | refine ot rfl (by omega) ?_ | refine O_nil ?_) | refine wo rfl ?_ | refine wc rfl ?_ | refine wg rfl ?_ | refine go rfl ?_ | refine gc rfl ?_ | refine gg rfl ?_)
              refine G_stop ⟨(k + 1, ad2, c2, _), ⟨by dsimp only; omega, by dsimp only; rw [hnf]; exact hleft2, hput⟩, by dsimp only; omega, ⟨rfl, rfl, (by dsimp only; rw [hnq]; rfl), rfl, (by dsimp only; rw [hnf]; rfl), (by dsimp only; rw [hnq, show k + 1 - q2 = k - q2 + 1 by omega]; rfl), trivial⟩, ?_⟩
              exact .cons (.tail (.tail (.tail .head))) (.cons .head (.cons (.tail (.tail .head)) (.cons (.tail (.tail .head)) (.drop (.drop .rfl)))))
    -- STEP END
    · obtain rfl : k = cs.length - 1 := by omega
      have hbe := bld_end c (by omega)
      rw [hcn] at hbe
      rw [hbe.2]
      repeat' (first | (refine isO ?_; first | refine oo (Pc rfl) ?_ | refine oo (Pa rfl (by omega) (by omega)) ?_ | (refine ob rfl ?_ ?_ <;> intro hq <;> try (exfalso; omega)) | refine oo (Pi rfl (by omega)) ?_ | refine oo (Pl rfl) ?_ | refine oo (Px rfl rfl) ?_ | refine oo (Pj rfl (by omega) (by omega)) ?_ | refine oo (Pk rfl (by omega) (by omega)) ?_ | refine oo (Pf rfl) ?_ | refine oo (Pv rfl (by omega) (by omega)) ?_ | refine oo (Pn rfl) ?_ | refine oo (Pm rfl) ?_ | refine os rfl rfl ?_ | refine ot rfl (by omega) ?_ | refine O_nil ?_) | refine wo rfl ?_ | refine wc rfl ?_ | refine wg rfl ?_ | refine go rfl ?_ | refine gc rfl ?_ | refine gg rfl ?_)
      refine O_alloc zero4 trivial rfl fun fc => ?_
      repeat' (first | (refine isO ?_; first | refine oo (Pc rfl) ?_ | refine oo (Pa rfl (by omega) (by omega)) ?_ | (refine ob rfl ?_ ?_ <;> intro hq <;> try (exfalso; omega)) | refine oo (Pi rfl (by omega)) ?_ | refine oo (Pl rfl) ?_ | refine oo (Px rfl rfl) ?_ | refine oo (Pj rfl (by omega) (by omega)) ?_ | refine oo (Pk rfl (by omega) (by omega)) ?_ | refine oo (Pf rfl) ?_ | refine oo (Pv rfl (by omega) (by omega)) ?_ | refine oo (Pn rfl) ?_ | refine oo (Pm rfl) ?_ | refine os rfl rfl ?_ | refine ot rfl (by omega) ?_ | refine O_nil ?_) | refine wo rfl ?_ | refine wc rfl ?_ | refine wg rfl ?_ | refine go rfl ?_ | refine gc rfl ?_ | refine gg rfl ?_)
      refine O_alloc zero166 trivial rfl fun ec => ?_
      repeat' (first | (refine isO ?_; first | refine oo (Pc rfl) ?_ | refine oo (Pa rfl (by omega) (by omega)) ?_ | (refine ob rfl ?_ ?_ <;> intro hq <;> try (exfalso; omega)) | refine oo (Pi rfl (by omega)) ?_ | refine oo (Pl rfl) ?_ | refine oo (Px rfl rfl) ?_ | refine oo (Pj rfl (by omega) (by omega)) ?_ | refine oo (Pk rfl (by omega) (by omega)) ?_ | refine oo (Pf rfl) ?_ | refine oo (Pv rfl (by omega) (by omega)) ?_ | refine oo (Pn rfl) ?_ | refine oo (Pm rfl) ?_ | refine os rfl rfl ?_ | refine ot rfl (by omega) ?_ | refine O_nil ?_) | refine wo rfl ?_ | refine wc rfl ?_ | refine wg rfl ?_ | refine go rfl ?_ | refine gc rfl ?_ | refine gg rfl ?_)
      have hx := explore_c c (by omega) (by omega) nc ec fc mc nb b mb (by omega) nl (fun k hk => hmade.2 k (by omega)) sp F (cs.length - 1) (cs.length - 2) 1 cs false (by omega) (by omega) (by rw [← hcn, Lq_root c (by omega)]; rfl) hcn.symm
      unfold xrow at hx
      refine O_call rfl rfl Tb.k102 trivial rfl (HCp.take (.cons (.tail (.tail .head)) (.cons .head (.cons .head (.cons (.tail .head) (.cons .head (.cons .head .rfl)))))) hx) ?_
      rintro _ M' ⟨fx, hfx, hrk⟩
      refine O_weak hrk ?_
      clear hrk hx
      have hall := (lvs_all c (by omega) (cs.length - 1) 0 (by omega)).1
      rw [hcn] at hall
      obtain ⟨ds, hds⟩ : ∃ ds, ds = setL c (lvs c (cs.length - 2)) cs := ⟨_, rfl⟩
      rw [← hds]
      have hget : ∀ x, x < cs.length → ds.getD x Cd.zero = { cs.getD x Cd.zero with len := Lf c x } := fun x hx => by
        rw [hds, setL_get c _ cs x hx, if_pos (hall x (by show 0 ≤ x; omega) hx)]
      have hdl : ds.length = cs.length := by rw [hds, setL_length]
      have hsame : SameC cs ds := ⟨hdl, fun x hx => by rw [hget x hx]; exact ⟨rfl, rfl⟩⟩
      have hlen : ∀ x, x < cs.length → lenOf ds x = Lf c x := fun x hx => by unfold lenOf; rw [hget x hx]
      have hkra : sm (fun x => 2 ^ (64 - lenOf ds x)) 0 cs.length = 2 ^ 64 := by
        have := kraft_lev c (by omega) 64 (by omega)
        rw [hcn] at this
        rw [← this]
        exact sm_congr fun x _ hx => by rw [hlen x hx]
      have hlo : ∀ x, x < cs.length → 1 ≤ lenOf ds x ∧ lenOf ds x ≤ cs.length - 1 := fun x hx => by
        rw [hlen x hx]
        have := Lf_le (c := c) (by omega) (x := x) (by omega)
        exact ⟨Lf_pos c x, by omega⟩
      cases fx
      · repeat' (first | (refine isO ?_; first | refine oo (Pc rfl) ?_ | refine oo (Pa rfl (by omega) (by omega)) ?_ | (refine ob rfl ?_ ?_ <;> intro hq <;> try (exfalso; omega)) | refine oo (Pi rfl (by omega)) ?_ | refine oo (Pl rfl) ?_ | refine oo (Px rfl rfl) ?_ | refine oo (Pj rfl (by omega) (by omega)) ?_ | refine oo (Pk rfl (by omega) (by omega)) ?_ | refine oo (Pf rfl) ?_ | refine oo (Pv rfl (by omega) (by omega)) ?_ | refine oo (Pn rfl) ?_ | refine oo (Pm rfl) ?_ | refine os rfl rfl ?_ | refine ot rfl (by omega) ?_ | refine O_nil ?_) | refine wo rfl ?_ | refine wc rfl ?_ | refine wg rfl ?_ | refine go rfl ?_ | refine gc rfl ?_ | refine gg rfl ?_)
        have hsh : ∀ x, x < cs.length → Lf c x ≤ mb := fun x hx => Nat.le_of_not_lt fun hlt => by
          have := hfx.2 (.inr ⟨x, hall x (by show 0 ≤ x; omega) hx, hlt⟩)
          cases this
        refine G_fin ⟨_, rfl, .inl ⟨rfl, hA, ds, ⟨hsame, fun x hx => ⟨(hlo x hx).1, by rw [hlen x hx]; exact hsh x hx⟩, fun x y h1 h2 => by rw [hlen y h2, hlen x (by omega)]; exact Lf_mono (by omega) h1 (by omega), hkra, fun _ => hlen⟩, ?_⟩⟩
        exact .drop (.drop (.drop (.drop (.drop .rfl))))
      · have hbig : ¬ ∀ x, x < cs.length → Lf c x ≤ mb := fun hno => by
          rcases hfx.1 rfl with h | ⟨x, hx, hlt⟩
          · cases h
          · have h1 := lvs_lt c (cs.length - 1) (cs.length - 2) (by omega) (by omega) x hx
            have h2 := hno x (by omega)
            omega
        clear hall hget hmade hleft hlo hfx hcode
        have hlo : ∀ x, x < cs.length → 1 ≤ lenOf ds x ∧ lenOf ds x ≤ 59 := fun x hx => by
          rw [hlen x hx]
          have := Lf_le (c := c) (by omega) (x := x) (by omega)
          exact ⟨Lf_pos c x, by omega⟩
        repeat' (first | (refine isO ?_; first | refine oo (Pc rfl) ?_ | refine oo (Pa rfl (by omega) (by omega)) ?_ | (refine ob rfl ?_ ?_ <;> intro hq <;> try (exfalso; omega)) | refine oo (Pi rfl (by omega)) ?_ | refine oo (Pl rfl) ?_ | refine oo (Px rfl rfl) ?_ | refine oo (Pj rfl (by omega) (by omega)) ?_ | refine oo (Pk rfl (by omega) (by omega)) ?_ | refine oo (Pf rfl) ?_ | refine oo (Pv rfl (by omega) (by omega)) ?_ | refine oo (Pn rfl) ?_ | refine oo (Pm rfl) ?_ | refine os rfl rfl ?_ | refine ot rfl (by omega) ?_ | refine O_nil ?_) | refine wo rfl ?_ | refine wc rfl ?_ | refine wg rfl ?_ | refine go rfl ?_ | refine gc rfl ?_ | refine gg rfl ?_)
        refine O_alloc zero168 trivial rfl fun hb0 => ?_
        refine O_weak (M' := ⟨true, hb0, 0, ints .u32 (List.replicate 28 0) ++ []⟩ :: ⟨true, mc, 0, [.int .u64 mb]⟩ :: ⟨true, b, 0, codesV ds ++ sp⟩ :: F) (by rw [List.append_nil]; exact .cons .head (.drop (.drop (.drop (.cons .head (.drop .rfl)))))) ?_
        repeat' (first | (refine isO ?_; first | refine oo (Pc rfl) ?_ | refine oo (Pa rfl (by omega) (by omega)) ?_ | (refine ob rfl ?_ ?_ <;> intro hq <;> try (exfalso; omega)) | refine oo (Pi rfl (by omega)) ?_ | refine oo (Pl rfl) ?_ | refine oo (Px rfl rfl) ?_ | refine oo (Pj rfl (by omega) (by omega)) ?_ | refine oo (Pk rfl (by omega) (by omega)) ?_ | refine oo (Pf rfl) ?_ | refine oo (Pv rfl (by omega) (by omega)) ?_ | refine oo (Pn rfl) ?_ | refine oo (Pm rfl) ?_ | refine os rfl rfl ?_ | refine ot rfl (by omega) ?_ | refine O_nil ?_) | refine wo rfl ?_ | refine wc rfl ?_ | refine wg rfl ?_ | refine go rfl ?_ | refine gc rfl ?_ | refine gg rfl ?_)
        refine O_pure (P_sliceAE (o' := 0) (len' := 28) (cap' := 28) Tb.u168 Tb.c40 (by decide) rfl rfl rfl (by omega) (by omega) (by omega) (by omega) (by omega) (by omega) (by omega)) trivial rfl ?_
        refine O_alloc zero46 trivial rfl fun sc => ?_
        repeat' (first | (refine isO ?_; first | refine oo (Pc rfl) ?_ | refine oo (Pa rfl (by omega) (by omega)) ?_ | (refine ob rfl ?_ ?_ <;> intro hq <;> try (exfalso; omega)) | refine oo (Pi rfl (by omega)) ?_ | refine oo (Pl rfl) ?_ | refine oo (Px rfl rfl) ?_ | refine oo (Pj rfl (by omega) (by omega)) ?_ | refine oo (Pk rfl (by omega) (by omega)) ?_ | refine oo (Pf rfl) ?_ | refine oo (Pv rfl (by omega) (by omega)) ?_ | refine oo (Pn rfl) ?_ | refine oo (Pm rfl) ?_ | refine os rfl rfl ?_ | refine ot rfl (by omega) ?_ | refine O_nil ?_) | refine wo rfl ?_ | refine wc rfl ?_ | refine wg rfl ?_ | refine go rfl ?_ | refine gc rfl ?_ | refine gg rfl ?_)
        obtain ⟨I40, hI40, hJ1, hJ2, hJ3⟩ := of_info info40
        refine W_loop (α := Nat × Nat × Nat × List Int × List Value) (fun x => [(0, .slice (some ⟨b, 0, none⟩) cs.length cap), (3, .pointer (some ⟨mc, 0, none⟩)), (18, .pointer (some ⟨sc, 0, none⟩)), (180, .slice (some ⟨b, 0, none⟩) cs.length cap), (181, .int .i64 cs.length), (182, .int .i64 x.1)])
          (fun x => ⟨true, sc, 0, [.slice (some ⟨x.2.1, 0, none⟩) x.2.2.2.1.length x.2.2.1]⟩ :: ⟨true, x.2.1, 0, ints .u32 x.2.2.2.1 ++ x.2.2.2.2⟩ :: ⟨true, mc, 0, [.int .u64 mb]⟩ :: ⟨true, b, 0, codesV ds ++ sp⟩ :: F)
          (fun x => x.1 ≤ cs.length ∧ Cnted (lenOf ds) x.1 x.2.2.2.1 ∧ 28 ≤ x.2.2.2.1.length ∧ x.2.2.2.1.length ≤ 60 ∧ (ints .u32 x.2.2.2.1 ++ x.2.2.2.2).length = x.2.2.1) (fun x => cs.length - x.1)
          (0, hb0, 28, List.replicate 28 0, []) ⟨Nat.zero_le _, ⟨fun j hj => by dsimp only; rw [List.getD_eq_getElem?_getD, List.getElem?_replicate]; split <;> rfl, fun y hy => by omega⟩, by simp, by simp, by simp [ints_length]⟩ ⟨rfl, rfl, rfl, rfl, rfl, rfl, trivial⟩ (by exact .rfl) ?_
        rintro ⟨x, hb, cp, h, s2⟩ ⟨hx, hct, hl1, hl2, hcp⟩
        dsimp only at hx hct hl1 hl2 hcp ⊢
        repeat' (first | (refine isO ?_; first | refine oo (Pc rfl) ?_ | refine oo (Pa rfl (by omega) (by omega)) ?_ | (refine ob rfl ?_ ?_ <;> intro hq <;> try (exfalso; omega)) | refine oo (Pi rfl (by omega)) ?_ | refine oo (Pl rfl) ?_ | refine oo (Px rfl rfl) ?_ | refine oo (Pj rfl (by omega) (by omega)) ?_ | refine oo (Pk rfl (by omega) (by omega)) ?_ | refine oo (Pf rfl) ?_ | refine oo (Pv rfl (by omega) (by omega)) ?_ | refine oo (Pn rfl) ?_ | refine oo (Pm rfl) ?_ | refine os rfl rfl ?_ | refine ot rfl (by omega) ?_ | refine O_nil ?_) | refine wo rfl ?_ | refine wc rfl ?_ | refine wg rfl ?_ | refine go rfl ?_ | refine gc rfl ?_ | refine gg rfl ?_)
        · have hxl : x < cs.length := by omega
          have hlx := hlo x hxl
          have hblk := codesV_block ds sp x (by omega)
          refine O_pure (P_loadAggAt (o := 0) (i := x * 4) (cs := (ds.getD x Cd.zero).cells) Tb.a146 Tb.c146 (by decide) rfl (by omega) (.tail _ (.tail _ (.tail _ (.head _)))) (by rw [List.length_append, codesV_length]; omega) hblk) trivial rfl ?_
          refine O_alloc zero146 trivial rfl fun bx => ?_
          refine O_storeAgg0 (cs := (ds.getD x Cd.zero).cells) Tb.c146 (by decide) rfl rfl rfl (Cd.cells_one _) trivial .head rfl ?_
          unfold lenOf at hlx
          generalize hdx : ds.getD x Cd.zero = dx at *
          repeat' (first | (refine isO ?_; first | refine oo (Pc rfl) ?_ | refine oo (Pa rfl (by omega) (by omega)) ?_ | (refine ob rfl ?_ ?_ <;> intro hq <;> try (exfalso; omega)) | refine oo (Pi rfl (by omega)) ?_ | refine oo (Pl rfl) ?_ | refine oo (Px rfl rfl) ?_ | refine oo (Pj rfl (by omega) (by omega)) ?_ | refine oo (Pk rfl (by omega) (by omega)) ?_ | refine oo (Pf rfl) ?_ | refine oo (Pv rfl (by omega) (by omega)) ?_ | refine oo (Pn rfl) ?_ | refine oo (Pm rfl) ?_ | refine os rfl rfl ?_ | refine ot rfl (by omega) ?_ | refine O_nil ?_) | refine wo rfl ?_ | refine wc rfl ?_ | refine wg rfl ?_ | refine go rfl ?_ | refine gc rfl ?_ | refine gg rfl ?_)
          refine W_loop (α := Nat × Nat × List Int × List Value) (fun _ => [(0, .slice (some ⟨b, 0, none⟩) cs.length cap), (3, .pointer (some ⟨mc, 0, none⟩)), (18, .pointer (some ⟨sc, 0, none⟩)), (20, .pointer (some ⟨bx, 0, none⟩)), (180, .slice (some ⟨b, 0, none⟩) cs.length cap), (181, .int .i64 cs.length), (182, .int .i64 x)])
            (fun y => ⟨true, bx, 0, dx.cells⟩ :: ⟨true, sc, 0, [.slice (some ⟨y.1, 0, none⟩) y.2.2.1.length y.2.1]⟩ :: ⟨true, y.1, 0, ints .u32 y.2.2.1 ++ y.2.2.2⟩ :: ⟨true, mc, 0, [.int .u64 mb]⟩ :: ⟨true, b, 0, codesV ds ++ sp⟩ :: F)
            (fun y => Cnted (lenOf ds) x y.2.2.1 ∧ 28 ≤ y.2.2.1.length ∧ y.2.2.1.length ≤ 60 ∧ (ints .u32 y.2.2.1 ++ y.2.2.2).length = y.2.1) (fun y => 60 - y.2.2.1.length)
            (hb, cp, h, s2) ⟨hct, hl1, hl2, hcp⟩ ⟨rfl, rfl, rfl, rfl, rfl, rfl, rfl, trivial⟩ .rfl ?_
          clear hct hl1 hl2 hcp
          rintro ⟨hb, cp, h, s2⟩ ⟨hct, hl1, hl2, hcp⟩
          dsimp only at hct hl1 hl2 hcp ⊢
          repeat' (first | (refine isO ?_; first | refine oo (Pc rfl) ?_ | refine oo (Pa rfl (by omega) (by omega)) ?_ | (refine ob rfl ?_ ?_ <;> intro hq <;> try (exfalso; omega)) | refine oo (Pi rfl (by omega)) ?_ | refine oo (Pl rfl) ?_ | refine oo (Px rfl rfl) ?_ | refine oo (Pj rfl (by omega) (by omega)) ?_ | refine oo (Pk rfl (by omega) (by omega)) ?_ | refine oo (Pf rfl) ?_ | refine oo (Pv rfl (by omega) (by omega)) ?_ | refine oo (Pn rfl) ?_ | refine oo (Pm rfl) ?_ | refine os rfl rfl ?_ | refine ot rfl (by omega) ?_ | refine O_nil ?_) | refine wo rfl ?_ | refine wc rfl ?_ | refine wg rfl ?_ | refine go rfl ?_ | refine gc rfl ?_ | refine gg rfl ?_)
          · refine O_buildSlice rfl (row46_1 _) trivial rfl fun by1 => ?_
            refine O_append (n := 1) (len := h.length) (size := 1) (xs := ints .u32 h) (m := [⟨true, hb, 0, ints .u32 h ++ s2⟩]) Tb.u46 Tb.u46 hI40 hJ1 (by decide) (by omega) hJ3 rfl rfl rfl (.inr ⟨hb, h.length, cp, s2, rfl, rfl, by rw [ints_length, Nat.mul_one], by rw [hcp, Nat.mul_one]⟩)
              (.cons (.tail (.tail (.tail .head))) .rfl) (by rw [ints_length, Nat.mul_one]) (.head _) (Nat.le_refl 1) (fun v hv => by rw [List.mem_singleton] at hv; subst hv; rfl) (.inl (by omega)) (by rw [hJ2]; omega) trivial rfl fun b2 c2 s3 h3 => ?_
            have e0 : ints .u32 h ++ List.take (1 * 1) [.int .u32 0] = ints .u32 (h ++ [0]) := by simp [ints]
            rw [e0] at h3 ⊢
            repeat' (first | (refine isO ?_; first | refine oo (Pc rfl) ?_ | refine oo (Pa rfl (by omega) (by omega)) ?_ | (refine ob rfl ?_ ?_ <;> intro hq <;> try (exfalso; omega)) | refine oo (Pi rfl (by omega)) ?_ | refine oo (Pl rfl) ?_ | refine oo (Px rfl rfl) ?_ | refine oo (Pj rfl (by omega) (by omega)) ?_ | refine oo (Pk rfl (by omega) (by omega)) ?_ | refine oo (Pf rfl) ?_ | refine oo (Pv rfl (by omega) (by omega)) ?_ | refine oo (Pn rfl) ?_ | refine oo (Pm rfl) ?_ | refine os rfl rfl ?_ | refine ot rfl (by omega) ?_ | refine O_nil ?_) | refine wo rfl ?_ | refine wc rfl ?_ | refine wg rfl ?_ | refine go rfl ?_ | refine gc rfl ?_ | refine gg rfl ?_)
            refine G_stop ⟨(b2, c2, h ++ [0], s3), ⟨hct.more, by dsimp only; rw [List.length_append, List.length_singleton]; omega, by dsimp only; rw [List.length_append, List.length_singleton]; omega, by dsimp only; rw [h3, Nat.mul_one]⟩, by dsimp only; rw [List.length_append, List.length_singleton]; omega, ⟨rfl, rfl, rfl, rfl, rfl, rfl, rfl, trivial⟩, ?_⟩
            dsimp only
            rw [List.length_append, List.length_singleton]
            exact .cons (.tail (.tail .head)) (.cons (.tail (.tail .head)) (.cons .head (.drop .rfl)))
          · have hlen0 : lenOf ds x = dx.len := by unfold lenOf; rw [hdx]
            have hb1 := cntT_pos (lenOf ds) dx.len x
            have hv1 := hct.val dx.len (by omega)
            refine O_pure (P_loadAt (o := 0) (n := dx.len) Tb.p40 rfl (by omega) (.tail _ (.tail _ (.head _))) (row_get (by omega))) trivial rfl ?_
            repeat' (first | (refine isO ?_; first | refine oo (Pc rfl) ?_ | refine oo (Pa rfl (by omega) (by omega)) ?_ | (refine ob rfl ?_ ?_ <;> intro hq <;> try (exfalso; omega)) | refine oo (Pi rfl (by omega)) ?_ | refine oo (Pl rfl) ?_ | refine oo (Px rfl rfl) ?_ | refine oo (Pj rfl (by omega) (by omega)) ?_ | refine oo (Pk rfl (by omega) (by omega)) ?_ | refine oo (Pf rfl) ?_ | refine oo (Pv rfl (by omega) (by omega)) ?_ | refine oo (Pn rfl) ?_ | refine oo (Pm rfl) ?_ | refine os rfl rfl ?_ | refine ot rfl (by omega) ?_ | refine O_nil ?_) | refine wo rfl ?_ | refine wc rfl ?_ | refine wg rfl ?_ | refine go rfl ?_ | refine gc rfl ?_ | refine gg rfl ?_)
            refine O_storeAt (o := 0) (n := dx.len) Tb.c40 rfl (by omega) rfl rfl trivial (by rw [List.length_append, ints_length]; omega) (row_set (by omega) _) (.tail (.tail .head)) ?_
            repeat' (first | (refine isO ?_; first | refine oo (Pc rfl) ?_ | refine oo (Pa rfl (by omega) (by omega)) ?_ | (refine ob rfl ?_ ?_ <;> intro hq <;> try (exfalso; omega)) | refine oo (Pi rfl (by omega)) ?_ | refine oo (Pl rfl) ?_ | refine oo (Px rfl rfl) ?_ | refine oo (Pj rfl (by omega) (by omega)) ?_ | refine oo (Pk rfl (by omega) (by omega)) ?_ | refine oo (Pf rfl) ?_ | refine oo (Pv rfl (by omega) (by omega)) ?_ | refine oo (Pn rfl) ?_ | refine oo (Pm rfl) ?_ | refine os rfl rfl ?_ | refine ot rfl (by omega) ?_ | refine O_nil ?_) | refine wo rfl ?_ | refine wc rfl ?_ | refine wg rfl ?_ | refine go rfl ?_ | refine gc rfl ?_ | refine gg rfl ?_)
            have had := hct.add (x := x) (by rw [hlen0]; omega)
            rw [hlen0] at had
            refine G_stop ⟨(x + 1, hb, cp, h.set dx.len (h.getD dx.len 0 + 1), s2), ⟨by dsimp only; omega, had, by dsimp only; rw [List.length_set]; exact hl1, by dsimp only; rw [List.length_set]; exact hl2, by dsimp only; rw [← hcp, List.length_append, List.length_append, ints_length, ints_length, List.length_set]⟩, by dsimp only; omega, ⟨rfl, rfl, rfl, rfl, rfl, rfl, trivial⟩, ?_⟩
            dsimp only
            rw [List.length_set]
            exact .drop .rfl
        · obtain rfl : x = cs.length := by omega
          obtain ⟨L, hL⟩ : ∃ L, L = h.length := ⟨_, rfl⟩
          have hs0 := hct.done hL.symm (fun x hx => (hlo x hx).1) hkra (by omega)
          rw [← hL]
          refine O_alloc zero117 trivial rfl fun tc => ?_
          repeat' (first | (refine isO ?_; first | refine oo (Pc rfl) ?_ | refine oo (Pa rfl (by omega) (by omega)) ?_ | (refine ob rfl ?_ ?_ <;> intro hq <;> try (exfalso; omega)) | refine oo (Pi rfl (by omega)) ?_ | refine oo (Pl rfl) ?_ | refine oo (Px rfl rfl) ?_ | refine oo (Pj rfl (by omega) (by omega)) ?_ | refine oo (Pk rfl (by omega) (by omega)) ?_ | refine oo (Pf rfl) ?_ | refine oo (Pv rfl (by omega) (by omega)) ?_ | refine oo (Pn rfl) ?_ | refine oo (Pm rfl) ?_ | refine os rfl rfl ?_ | refine ot rfl (by omega) ?_ | refine O_nil ?_) | refine wo rfl ?_ | refine wc rfl ?_ | refine wg rfl ?_ | refine go rfl ?_ | refine gc rfl ?_ | refine gg rfl ?_)
          refine W_loop (α := Nat × List Int) (fun x => [(0, .slice (some ⟨b, 0, none⟩) cs.length cap), (3, .pointer (some ⟨mc, 0, none⟩)), (18, .pointer (some ⟨sc, 0, none⟩)), (21, .pointer (some ⟨tc, 0, none⟩)), (22, .int .u64 x.1)])
            (fun x => ⟨true, sc, 0, [.slice (some ⟨hb, 0, none⟩) L cp]⟩ :: ⟨true, tc, 0, [.func (.func 103) #[] #[.pointer (some ⟨sc, 0, none⟩), .pointer (some ⟨tc, 0, none⟩)]]⟩ :: ⟨true, hb, 0, ints .u32 x.2 ++ s2⟩ :: ⟨true, mc, 0, [.int .u64 mb]⟩ :: ⟨true, b, 0, codesV ds ++ sp⟩ :: F)
            (fun x => mb ≤ x.1 ∧ x.1 < L ∧ Hs L cs.length x.1 x.2) (fun x => x.1) (L - 1, h) ⟨by dsimp only; omega, by dsimp only; omega, hs0⟩ ⟨rfl, rfl, rfl, rfl, (by dsimp only; rw [show ((L - 1 : Nat) : Int) = L - 1 by omega]; rfl), trivial⟩ (.perm (.swap _ _ _)) ?_
          have hL64 : L ≤ 60 := by omega
          clear hs0 hct hcp hl1 hl2 hL
          clear h
          rintro ⟨i, h⟩ ⟨i1, i2, hs⟩
          dsimp only at i1 i2 hs ⊢
          repeat' (first | (refine isO ?_; first | refine oo (Pc rfl) ?_ | refine oo (Pa rfl (by omega) (by omega)) ?_ | (refine ob rfl ?_ ?_ <;> intro hq <;> try (exfalso; omega)) | refine oo (Pi rfl (by omega)) ?_ | refine oo (Pl rfl) ?_ | refine oo (Px rfl rfl) ?_ | refine oo (Pj rfl (by omega) (by omega)) ?_ | refine oo (Pk rfl (by omega) (by omega)) ?_ | refine oo (Pf rfl) ?_ | refine oo (Pv rfl (by omega) (by omega)) ?_ | refine oo (Pn rfl) ?_ | refine oo (Pm rfl) ?_ | refine os rfl rfl ?_ | refine ot rfl (by omega) ?_ | refine O_nil ?_) | refine wo rfl ?_ | refine wc rfl ?_ | refine wg rfl ?_ | refine go rfl ?_ | refine gc rfl ?_ | refine gg rfl ?_)
          · refine W_loop (α := List Int) (fun _ => [(0, .slice (some ⟨b, 0, none⟩) cs.length cap), (3, .pointer (some ⟨mc, 0, none⟩)), (18, .pointer (some ⟨sc, 0, none⟩)), (21, .pointer (some ⟨tc, 0, none⟩)), (22, .int .u64 i)])
              (fun h => ⟨true, sc, 0, [.slice (some ⟨hb, 0, none⟩) L cp]⟩ :: ⟨true, tc, 0, [.func (.func 103) #[] #[.pointer (some ⟨sc, 0, none⟩), .pointer (some ⟨tc, 0, none⟩)]]⟩ :: ⟨true, hb, 0, ints .u32 h ++ s2⟩ :: ⟨true, mc, 0, [.int .u64 mb]⟩ :: ⟨true, b, 0, codesV ds ++ sp⟩ :: F)
              (fun h => Hs L cs.length i h) (fun h => (h.getD i 0).toNat) h hs ⟨rfl, rfl, rfl, rfl, rfl, trivial⟩ .rfl ?_
            clear hs h
            intro h hs
            have hpi := hs.pos i i2
            try dsimp only
            repeat' (first | (refine isO ?_; first | refine oo (Pc rfl) ?_ | refine oo (Pa rfl (by omega) (by omega)) ?_ | (refine ob rfl ?_ ?_ <;> intro hq <;> try (exfalso; omega)) | refine oo (Pi rfl (by omega)) ?_ | refine oo (Pl rfl) ?_ | refine oo (Px rfl rfl) ?_ | refine oo (Pj rfl (by omega) (by omega)) ?_ | refine oo (Pk rfl (by omega) (by omega)) ?_ | refine oo (Pf rfl) ?_ | refine oo (Pv rfl (by omega) (by omega)) ?_ | refine oo (Pn rfl) ?_ | refine oo (Pm rfl) ?_ | refine os rfl rfl ?_ | refine ot rfl (by omega) ?_ | refine O_nil ?_) | refine wo rfl ?_ | refine wc rfl ?_ | refine wg rfl ?_ | refine go rfl ?_ | refine gc rfl ?_ | refine gg rfl ?_)
            refine O_pure (P_loadAt (o := 0) (n := i) Tb.p40 rfl (by omega) (.tail _ (.tail _ (.head _))) (row_get (by rw [hs.len]; exact i2))) trivial rfl ?_
            repeat' (first | (refine isO ?_; first | refine oo (Pc rfl) ?_ | refine oo (Pa rfl (by omega) (by omega)) ?_ | (refine ob rfl ?_ ?_ <;> intro hq <;> try (exfalso; omega)) | refine oo (Pi rfl (by omega)) ?_ | refine oo (Pl rfl) ?_ | refine oo (Px rfl rfl) ?_ | refine oo (Pj rfl (by omega) (by omega)) ?_ | refine oo (Pk rfl (by omega) (by omega)) ?_ | refine oo (Pf rfl) ?_ | refine oo (Pv rfl (by omega) (by omega)) ?_ | refine oo (Pn rfl) ?_ | refine oo (Pm rfl) ?_ | refine os rfl rfl ?_ | refine ot rfl (by omega) ?_ | refine O_nil ?_) | refine wo rfl ?_ | refine wc rfl ?_ | refine wg rfl ?_ | refine go rfl ?_ | refine gc rfl ?_ | refine gg rfl ?_)
            · rcases dn_or h (i - 1) with ⟨d, hd, hD⟩ | h0
              · obtain ⟨hs2, hv2⟩ := hs.rot i2 (by omega) (by omega) (by omega) (by omega) hd hD
                have hx := rot103_c sc tc hb L cp s2 (⟨true, mc, 0, [.int .u64 mb]⟩ :: ⟨true, b, 0, codesV ds ++ sp⟩ :: F) (by omega) d (i - 1) (i - 1 : Int) h (by omega) hs.len hd (by omega) hD
                unfold rrow at hx
                refine O_call rfl rfl Tb.k103 trivial rfl hx ?_
                rintro _ _ rfl
                repeat' (first | (refine isO ?_; first | refine oo (Pc rfl) ?_ | refine oo (Pa rfl (by omega) (by omega)) ?_ | (refine ob rfl ?_ ?_ <;> intro hq <;> try (exfalso; omega)) | refine oo (Pi rfl (by omega)) ?_ | refine oo (Pl rfl) ?_ | refine oo (Px rfl rfl) ?_ | refine oo (Pj rfl (by omega) (by omega)) ?_ | refine oo (Pk rfl (by omega) (by omega)) ?_ | refine oo (Pf rfl) ?_ | refine oo (Pv rfl (by omega) (by omega)) ?_ | refine oo (Pn rfl) ?_ | refine oo (Pm rfl) ?_ | refine os rfl rfl ?_ | refine ot rfl (by omega) ?_ | refine O_nil ?_) | refine wo rfl ?_ | refine wc rfl ?_ | refine wg rfl ?_ | refine go rfl ?_ | refine gc rfl ?_ | refine gg rfl ?_)
                exact G_stop ⟨rotM h (i - 1) d, hs2, by rw [hv2]; omega, ⟨rfl, rfl, rfl, rfl, rfl, trivial⟩, .rfl⟩
              · have hno := hs.none i2 (by omega) (by omega) (by omega) h0
                have hpw := Nat.pow_le_pow_right (show 0 < 2 by omega) (show mb ≤ i - 1 by omega)
                have hx := rot103_x sc tc hb L cp s2 (⟨true, mc, 0, [.int .u64 mb]⟩ :: ⟨true, b, 0, codesV ds ++ sp⟩ :: F) (by omega) (i - 1) (i - 1 : Int) h (by omega) hs.len (by omega) h0
                unfold rrow at hx
                exact O_callX rfl rfl Tb.k103 trivial rfl hx (fun _ _ h => h.elim) fun t x M' hX => ⟨⟨t, x, rfl⟩, hA, by omega, by subst hX; exact .drop (.drop (.drop (.drop (.drop .rfl))))⟩
            · have hs2 : Hs L cs.length (i - 1) h := ⟨hs.len, hs.pos, hs.zero, fun j q1 q2 => by
                by_cases e : j = i
                · subst e; omega
                · exact hs.top j (by omega) q2, hs.cnt, hs.kra⟩
              exact G_stop ⟨(i - 1, h), ⟨by dsimp only; omega, by dsimp only; omega, hs2⟩, by dsimp only; omega, ⟨rfl, rfl, rfl, rfl, (by dsimp only; rw [show ((i - 1 : Nat) : Int) = i - 1 by omega]; rfl), trivial⟩, .rfl⟩
          · obtain rfl : mb = i := by omega
            refine W_loop (α := Nat × Nat × List Cd) (fun x => [(23, .slice (some ⟨b, 0, none⟩) x.2.1 cap), (223, .slice (some ⟨hb, 0, none⟩) L cp), (224, .int .i64 L), (225, .int .i64 x.1)])
              (fun x => ⟨true, hb, 0, ints .u32 h ++ s2⟩ :: ⟨true, b, 0, codesV x.2.2 ++ sp⟩ :: F)
              (fun x => x.1 ≤ L ∧ Gave h cs.length x.1 x.2.1 (lenOf x.2.2) ∧ SameC cs x.2.2 ∧ ∀ y, x.2.1 ≤ y → y < cs.length → lenOf x.2.2 y ≤ mb) (fun x => L - x.1)
              (0, cs.length, ds) ⟨Nat.zero_le _, Gave.start _ _ _, hsame, fun y h1 h2 => by dsimp only at h1; omega⟩ ⟨rfl, rfl, rfl, rfl, trivial⟩ (.drop (.drop (.cons .head (.drop .rfl)))) ?_
            rintro ⟨nbv, p, es⟩ ⟨v1, hgv, hsm, hle⟩
            dsimp only at v1 hgv hsm hle ⊢
            have hpn := hgv.pn
            repeat' (first | (refine isO ?_; first | refine oo (Pc rfl) ?_ | refine oo (Pa rfl (by omega) (by omega)) ?_ | (refine ob rfl ?_ ?_ <;> intro hq <;> try (exfalso; omega)) | refine oo (Pi rfl (by omega)) ?_ | refine oo (Pl rfl) ?_ | refine oo (Px rfl rfl) ?_ | refine oo (Pj rfl (by omega) (by omega)) ?_ | refine oo (Pk rfl (by omega) (by omega)) ?_ | refine oo (Pf rfl) ?_ | refine oo (Pv rfl (by omega) (by omega)) ?_ | refine oo (Pn rfl) ?_ | refine oo (Pm rfl) ?_ | refine os rfl rfl ?_ | refine ot rfl (by omega) ?_ | refine O_nil ?_) | refine wo rfl ?_ | refine wc rfl ?_ | refine wg rfl ?_ | refine go rfl ?_ | refine gc rfl ?_ | refine gg rfl ?_)
            · have hvl : nbv < L := by omega
              obtain ⟨cv, hcv⟩ : ∃ cv : Nat, h.getD nbv 0 = cv := ⟨(h.getD nbv 0).toNat, by have := hs.pos nbv hvl; omega⟩
              have hcp : cv ≤ p := by
                have h1 := smZ_le (g := fun j => h.getD j 0) (m := nbv + 1) (m' := L) hs.pos (by omega)
                have h2 := hgv.num
                rw [hs.cnt] at h1
                simp only [smZ] at h1
                omega
              refine O_pure (P_loadAt (o := 0) (n := nbv) Tb.p40 rfl (by omega) (.head _) (row_get (by rw [hs.len]; exact hvl))) trivial rfl ?_
              rw [hcv]
              repeat' (first | (refine isO ?_; first | refine oo (Pc rfl) ?_ | refine oo (Pa rfl (by omega) (by omega)) ?_ | (refine ob rfl ?_ ?_ <;> intro hq <;> try (exfalso; omega)) | refine oo (Pi rfl (by omega)) ?_ | refine oo (Pl rfl) ?_ | refine oo (Px rfl rfl) ?_ | refine oo (Pj rfl (by omega) (by omega)) ?_ | refine oo (Pk rfl (by omega) (by omega)) ?_ | refine oo (Pf rfl) ?_ | refine oo (Pv rfl (by omega) (by omega)) ?_ | refine oo (Pn rfl) ?_ | refine oo (Pm rfl) ?_ | refine os rfl rfl ?_ | refine ot rfl (by omega) ?_ | refine O_nil ?_) | refine wo rfl ?_ | refine wc rfl ?_ | refine wg rfl ?_ | refine go rfl ?_ | refine gc rfl ?_ | refine gg rfl ?_)
              · have hz0 : nbv ≠ 0 := fun e => by rw [e, hs.zero] at hcv; omega
                have hvm : nbv ≤ mb := Nat.le_of_not_lt fun hlt => by
                  have := hs.top nbv hlt hvl
                  omega
                refine O_pure (P_sliceE (o' := (p - cv) * 4) (len' := cv) (cap' := cap - (p - cv)) Tb.u79 Tb.c146 (by decide) rfl ⟨_, rfl⟩ rfl (by omega) (by omega) (by omega) (by omega) (by omega) (by omega) (by omega)) trivial rfl ?_
                repeat' (first | (refine isO ?_; first | refine oo (Pc rfl) ?_ | refine oo (Pa rfl (by omega) (by omega)) ?_ | (refine ob rfl ?_ ?_ <;> intro hq <;> try (exfalso; omega)) | refine oo (Pi rfl (by omega)) ?_ | refine oo (Pl rfl) ?_ | refine oo (Px rfl rfl) ?_ | refine oo (Pj rfl (by omega) (by omega)) ?_ | refine oo (Pk rfl (by omega) (by omega)) ?_ | refine oo (Pf rfl) ?_ | refine oo (Pv rfl (by omega) (by omega)) ?_ | refine oo (Pn rfl) ?_ | refine oo (Pm rfl) ?_ | refine os rfl rfl ?_ | refine ot rfl (by omega) ?_ | refine O_nil ?_) | refine wo rfl ?_ | refine wc rfl ?_ | refine wg rfl ?_ | refine go rfl ?_ | refine gc rfl ?_ | refine gg rfl ?_)
                refine W_loop (α := Nat × List Cd) (fun x => [(23, .slice (some ⟨b, 0, none⟩) p cap), (24, .int .i64 nbv), (26, .int .i64 (p - cv : Int)), (27, .slice (some ⟨b, (p - cv) * 4, none⟩) cv (cap - (p - cv))), (223, .slice (some ⟨hb, 0, none⟩) L cp), (224, .int .i64 L), (225, .int .i64 nbv), (241, .int .i64 cv), (242, .int .i64 x.1)])
                  (fun x => ⟨true, hb, 0, ints .u32 h ++ s2⟩ :: ⟨true, b, 0, codesV x.2 ++ sp⟩ :: F)
                  (fun x => x.1 ≤ cv ∧ SameC cs x.2 ∧ (∀ y, p - cv ≤ y → y < p - cv + x.1 → lenOf x.2 y = nbv) ∧ ∀ y, (y < p - cv ∨ p - cv + x.1 ≤ y) → lenOf x.2 y = lenOf es y) (fun x => cv - x.1)
                  (0, es) ⟨Nat.zero_le _, hsm, fun y h1 h2 => by dsimp only at h2; omega, fun y _ => rfl⟩ ⟨rfl, rfl, rfl, rfl, rfl, rfl, rfl, rfl, rfl, trivial⟩ .rfl ?_
                rintro ⟨j, fs⟩ ⟨j1, hsf, hf1, hf2⟩
                dsimp only at j1 hsf hf1 hf2 ⊢
                have hfl := hsf.1
                repeat' (first | (refine isO ?_; first | refine oo (Pc rfl) ?_ | refine oo (Pa rfl (by omega) (by omega)) ?_ | (refine ob rfl ?_ ?_ <;> intro hq <;> try (exfalso; omega)) | refine oo (Pi rfl (by omega)) ?_ | refine oo (Pl rfl) ?_ | refine oo (Px rfl rfl) ?_ | refine oo (Pj rfl (by omega) (by omega)) ?_ | refine oo (Pk rfl (by omega) (by omega)) ?_ | refine oo (Pf rfl) ?_ | refine oo (Pv rfl (by omega) (by omega)) ?_ | refine oo (Pn rfl) ?_ | refine oo (Pm rfl) ?_ | refine os rfl rfl ?_ | refine ot rfl (by omega) ?_ | refine O_nil ?_) | refine wo rfl ?_ | refine wc rfl ?_ | refine wg rfl ?_ | refine go rfl ?_ | refine gc rfl ?_ | refine gg rfl ?_)
                · have hjl : p - cv + j < fs.length := by omega
                  refine O_storeAt (o := 0) (n := (p - cv + j) * 4 + 2) Tb.c40 rfl (by omega) rfl rfl trivial (by rw [List.length_append, codesV_length]; omega) (codesV_setLen fs sp (p - cv + j) hjl nbv) (.tail .head) ?_
                  repeat' (first | (refine isO ?_; first | refine oo (Pc rfl) ?_ | refine oo (Pa rfl (by omega) (by omega)) ?_ | (refine ob rfl ?_ ?_ <;> intro hq <;> try (exfalso; omega)) | refine oo (Pi rfl (by omega)) ?_ | refine oo (Pl rfl) ?_ | refine oo (Px rfl rfl) ?_ | refine oo (Pj rfl (by omega) (by omega)) ?_ | refine oo (Pk rfl (by omega) (by omega)) ?_ | refine oo (Pf rfl) ?_ | refine oo (Pv rfl (by omega) (by omega)) ?_ | refine oo (Pn rfl) ?_ | refine oo (Pm rfl) ?_ | refine os rfl rfl ?_ | refine ot rfl (by omega) ?_ | refine O_nil ?_) | refine wo rfl ?_ | refine wc rfl ?_ | refine wg rfl ?_ | refine go rfl ?_ | refine gc rfl ?_ | refine gg rfl ?_)
                  refine G_stop ⟨(j + 1, fs.set (p - cv + j) { fs.getD (p - cv + j) Cd.zero with len := nbv }), ⟨by dsimp only; omega, hsf.set _ _, fun y h1 h2 => ?_, fun y h1 => ?_⟩, by dsimp only; omega, ⟨rfl, rfl, rfl, rfl, rfl, rfl, rfl, rfl, rfl, trivial⟩, .rfl⟩
                  · dsimp only at h2 ⊢
                    rw [lenOf_set _ _ _ _ hjl]
                    by_cases e : y = p - cv + j
                    · rw [if_pos e]
                    · rw [if_neg e]; exact hf1 y h1 (by omega)
                  · dsimp only at h1 ⊢
                    rw [lenOf_set _ _ _ _ hjl, if_neg (by omega)]
                    exact hf2 y (by omega)
                · obtain rfl : j = cv := by omega
                  refine O_pure (P_sliceE (o' := 0) (len' := p - j) (cap' := cap) Tb.u79 Tb.c146 (by decide) rfl rfl ⟨_, rfl⟩ (by omega) (by omega) (by omega) (by omega) (by omega) (by omega) (by omega)) trivial rfl ?_
                  repeat' (first | (refine isO ?_; first | refine oo (Pc rfl) ?_ | refine oo (Pa rfl (by omega) (by omega)) ?_ | (refine ob rfl ?_ ?_ <;> intro hq <;> try (exfalso; omega)) | refine oo (Pi rfl (by omega)) ?_ | refine oo (Pl rfl) ?_ | refine oo (Px rfl rfl) ?_ | refine oo (Pj rfl (by omega) (by omega)) ?_ | refine oo (Pk rfl (by omega) (by omega)) ?_ | refine oo (Pf rfl) ?_ | refine oo (Pv rfl (by omega) (by omega)) ?_ | refine oo (Pn rfl) ?_ | refine oo (Pm rfl) ?_ | refine os rfl rfl ?_ | refine ot rfl (by omega) ?_ | refine O_nil ?_) | refine wo rfl ?_ | refine wc rfl ?_ | refine wg rfl ?_ | refine go rfl ?_ | refine gc rfl ?_ | refine gg rfl ?_)
                  exact G_stop ⟨(nbv + 1, p - j, fs), ⟨by dsimp only; omega, hgv.next (fun e => absurd e hz0) hcv hcp (fun y h1 h2 => hf1 y h1 (by omega)) (fun y h1 h2 => hf2 y (by omega)), hsf, fun y h1 h2 => by
                    dsimp only at h1 ⊢
                    by_cases e : y < p
                    · rw [hf1 y h1 (by omega)]; exact hvm
                    · rw [hf2 y (by omega)]; exact hle y (by omega) h2⟩, by dsimp only; omega, ⟨rfl, rfl, rfl, rfl, trivial⟩, .rfl⟩
              · exact G_stop ⟨(nbv + 1, p, es), ⟨by dsimp only; omega, hgv.next (c := 0) (fun _ => rfl) (by rw [hcv]; omega) (Nat.zero_le _) (fun y h1 h2 => by omega) (fun y _ _ => rfl), hsm, hle⟩, by dsimp only; omega, ⟨rfl, rfl, rfl, rfl, trivial⟩, .rfl⟩
            · exfalso
              have e : nbv = L := by omega
              rw [e] at hgv
              have := (hgv.done hs).1
              omega
            · have e : nbv = L := by omega
              rw [e] at hgv
              obtain ⟨hp0, hk2⟩ := hgv.done hs
              rw [hp0] at hgv hle
              exact G_fin ⟨_, rfl, .inl ⟨rfl, hA, es, ⟨hsm, fun x hx => ⟨(hgv.lt x (Nat.zero_le _) hx).1, hle x (Nat.zero_le _) hx⟩, fun x y h1 h2 => hgv.mono x y (Nat.zero_le _) h1 h2, hk2, fun h => absurd h hbig⟩, .drop .rfl⟩⟩
end Go.Proofs.Ytjkpfliaflmppaa.Hu

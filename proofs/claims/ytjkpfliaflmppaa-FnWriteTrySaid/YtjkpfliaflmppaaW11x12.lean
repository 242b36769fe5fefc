/- bytes.Buffer's Write, walked, whether there is room or not. For at most 2^40 bytes. Codes as data: their cells, and what is known of rows of them. No condition. impl.codes and impl.uncodes copy a row of codes: for every row of at most 100 codes. -/
import Derived.Test.YtjkpfliaflmppaaW11x09
import Derived.Test.YtjkpfliaflmppaaW11x11
import Derived.Test.YtjkpfliaflmppaaW11x03
import Derived.Test.YtjkpfliaflmppaaW11x07

namespace Go.Proofs.Ytjkpfliaflmppaa.Bu
open Go Go.RowKit Go.Proofs.Ytjkpfliaflmppaa.Vm

theorem growSlice_z (ad : Option Addr) (l c n : Nat) (z : Int) (hz : z = n) (xs : List Int) (F : Mem) (hx : xs.length = l) (hF : (ad = none ∧ l = 0) ∨ ∃ b own lx, ad = some ⟨b, 0, none⟩ ∧ (⟨own, b, 0, ints .u8 xs ++ lx⟩ : Sg) ∈ F ∧ ∀ v ∈ lx, v.oneCell' = true) (hlc : l ≤ c) (hn : 0 < n) (hbig : l + n ≤ 1099511627776) (hcb : c ≤ 1099511627776) :
    HC Try.prog 148 #[.slice ad l c, .int .i64 z] F (fun v M' => ∃ b q sp, v = .slice (some ⟨b, 0, none⟩) l q ∧ xs.length + sp.length = q ∧ l + n ≤ q ∧ q ≤ 9223372036854775807 ∧ (∀ v ∈ sp, v.oneCell' = true) ∧ M' = ⟨true, b, 0, ints .u8 xs ++ sp⟩ :: F) := by
  subst hz; exact growSlice_c ad l c n xs F hx hF hlc hn hbig hcb

set_option maxHeartbeats 1000000 in
theorem grow_c (bb : Nat) (s : Value) (xs : List Int) (m : Mem) (n : Nat) (lr : Int) (F : Mem) (hB : Bf s xs m) (hn : 0 < n) (hbig : xs.length + n ≤ 1099511627776)
    (hfit : ∀ ad l c, s = .slice ad l c → c < l + n) :
    HC Try.prog 147 #[.pointer (some ⟨bb, 0, none⟩), .int .i64 n] (⟨true, bb, 0, [s, .int .i64 0, .int .i8 lr]⟩ :: (m ++ F))
      (fun v M' => v = .int .i64 xs.length ∧ ∃ b c sp, xs.length + sp.length = c ∧ xs.length + n ≤ c ∧ c ≤ 9223372036854775807 ∧ (∀ v ∈ sp, v.oneCell' = true) ∧
        Rk M' (⟨true, bb, 0, [.slice (some ⟨b, 0, none⟩) (xs.length + n) c, .int .i64 0, .int .i8 lr]⟩ :: ⟨true, b, 0, ints .u8 xs ++ sp⟩ :: F)) := by
  obtain ⟨I, hI, hI1, hI2, hI3⟩ := info5'
  rcases hB with ⟨rfl, rfl, rfl⟩ | ⟨b, c, sp, rfl, rfl, hlen, hc0, hone⟩
  · simp only [List.length_nil, Nat.zero_add] at hbig ⊢
    refine HC_of_W (fn := Try.f147) Try.func147 rfl rfl rfl rfl ?_
    repeat' (first | (refine isO ?_; first | refine oo (Pc rfl) ?_ | refine oo (Pa rfl (by omega) (by omega)) ?_ | (refine ob rfl ?_ ?_ <;> intro hq <;> try (exfalso; omega)) | refine oo (Pi rfl (by omega)) ?_ | refine oo (Pl rfl) ?_ | refine oo (Px rfl rfl) ?_ | refine oo (Pj rfl (by omega) (by omega)) ?_ | refine oo (Pk rfl (by omega) (by omega)) ?_ | refine oo (Pf rfl) ?_ | refine oo (Pv rfl (by omega) (by omega)) ?_ | refine oo (Pn rfl) ?_ | refine oo (Pm rfl) ?_ | refine os rfl rfl ?_ | refine ot rfl (by omega) ?_ | refine O_nil ?_) | refine wo rfl ?_ | refine wc rfl ?_ | refine wg rfl ?_ | refine go rfl ?_ | refine gc rfl ?_ | refine gg rfl ?_)
    refine O_call rfl rfl Tb.k142 trivial rfl (len_c bb none 0 0 lr F (by omega)) ?_
    rintro v M' ⟨rfl, rfl⟩
    repeat' (first | (refine isO ?_; first | refine oo (Pc rfl) ?_ | refine oo (Pa rfl (by omega) (by omega)) ?_ | (refine ob rfl ?_ ?_ <;> intro hq <;> try (exfalso; omega)) | refine oo (Pi rfl (by omega)) ?_ | refine oo (Pl rfl) ?_ | refine oo (Px rfl rfl) ?_ | refine oo (Pj rfl (by omega) (by omega)) ?_ | refine oo (Pk rfl (by omega) (by omega)) ?_ | refine oo (Pf rfl) ?_ | refine oo (Pv rfl (by omega) (by omega)) ?_ | refine oo (Pn rfl) ?_ | refine oo (Pm rfl) ?_ | refine os rfl rfl ?_ | refine ot rfl (by omega) ?_ | refine O_nil ?_) | refine wo rfl ?_ | refine wc rfl ?_ | refine wg rfl ?_ | refine go rfl ?_ | refine gc rfl ?_ | refine gg rfl ?_)
    refine O_call rfl rfl Tb.k146 trivial rfl (tryGrow_no bb none 0 0 n lr F (by omega) (by omega) (by omega) (by omega)) ?_
    rintro v M' ⟨rfl, rfl⟩
    repeat' (first | (refine isO ?_; first | refine oo (Pc rfl) ?_ | refine oo (Pa rfl (by omega) (by omega)) ?_ | (refine ob rfl ?_ ?_ <;> intro hq <;> try (exfalso; omega)) | refine oo (Pi rfl (by omega)) ?_ | refine oo (Pl rfl) ?_ | refine oo (Px rfl rfl) ?_ | refine oo (Pj rfl (by omega) (by omega)) ?_ | refine oo (Pk rfl (by omega) (by omega)) ?_ | refine oo (Pf rfl) ?_ | refine oo (Pv rfl (by omega) (by omega)) ?_ | refine oo (Pn rfl) ?_ | refine oo (Pm rfl) ?_ | refine os rfl rfl ?_ | refine ot rfl (by omega) ?_ | refine O_nil ?_) | refine wo rfl ?_ | refine wc rfl ?_ | refine wg rfl ?_ | refine go rfl ?_ | refine gc rfl ?_ | refine gg rfl ?_)
    refine O_pure (P_snil Tb.u22 rfl rfl) trivial rfl ?_
    repeat' (first | (refine isO ?_; first | refine oo (Pc rfl) ?_ | refine oo (Pa rfl (by omega) (by omega)) ?_ | (refine ob rfl ?_ ?_ <;> intro hq <;> try (exfalso; omega)) | refine oo (Pi rfl (by omega)) ?_ | refine oo (Pl rfl) ?_ | refine oo (Px rfl rfl) ?_ | refine oo (Pj rfl (by omega) (by omega)) ?_ | refine oo (Pk rfl (by omega) (by omega)) ?_ | refine oo (Pf rfl) ?_ | refine oo (Pv rfl (by omega) (by omega)) ?_ | refine oo (Pn rfl) ?_ | refine oo (Pm rfl) ?_ | refine os rfl rfl ?_ | refine ot rfl (by omega) ?_ | refine O_nil ?_) | refine wo rfl ?_ | refine wc rfl ?_ | refine wg rfl ?_ | refine go rfl ?_ | refine gc rfl ?_ | refine gg rfl ?_)
    · refine O_makeCap (n := n) (c := 64) Tb.u22 hI hI1 hI3 rfl rfl rfl (by omega) (by omega) (by omega) (by omega) trivial rfl fun b => ?_
      repeat' (first | (refine isO ?_; first | refine oo (Pc rfl) ?_ | refine oo (Pa rfl (by omega) (by omega)) ?_ | (refine ob rfl ?_ ?_ <;> intro hq <;> try (exfalso; omega)) | refine oo (Pi rfl (by omega)) ?_ | refine oo (Pl rfl) ?_ | refine oo (Px rfl rfl) ?_ | refine oo (Pj rfl (by omega) (by omega)) ?_ | refine oo (Pk rfl (by omega) (by omega)) ?_ | refine oo (Pf rfl) ?_ | refine oo (Pv rfl (by omega) (by omega)) ?_ | refine oo (Pn rfl) ?_ | refine oo (Pm rfl) ?_ | refine os rfl rfl ?_ | refine ot rfl (by omega) ?_ | refine O_nil ?_) | refine wo rfl ?_ | refine wc rfl ?_ | refine wg rfl ?_ | refine go rfl ?_ | refine gc rfl ?_ | refine gg rfl ?_)
      exact G_fin ⟨_, rfl, rfl, b, 64, List.replicate 64 (.int .u8 0), by simp, by omega, by omega, by (intro v hv; rw [List.eq_of_mem_replicate hv]; rfl), by simp only [ints, List.map_nil, List.nil_append]; repeat (first | exact .rfl | exact .nil | (apply Rk.cons; (· exact TakeI.out)) | refine .drop ?_)⟩
    · refine O_pure (P_cap Tb.u22 rfl) trivial rfl ?_
      repeat' (first | (refine isO ?_; first | refine oo (Pc rfl) ?_ | refine oo (Pa rfl (by omega) (by omega)) ?_ | (refine ob rfl ?_ ?_ <;> intro hq <;> try (exfalso; omega)) | refine oo (Pi rfl (by omega)) ?_ | refine oo (Pl rfl) ?_ | refine oo (Px rfl rfl) ?_ | refine oo (Pj rfl (by omega) (by omega)) ?_ | refine oo (Pk rfl (by omega) (by omega)) ?_ | refine oo (Pf rfl) ?_ | refine oo (Pv rfl (by omega) (by omega)) ?_ | refine oo (Pn rfl) ?_ | refine oo (Pm rfl) ?_ | refine os rfl rfl ?_ | refine ot rfl (by omega) ?_ | refine O_nil ?_) | refine wo rfl ?_ | refine wc rfl ?_ | refine wg rfl ?_ | refine go rfl ?_ | refine gc rfl ?_ | refine gg rfl ?_)
      refine O_pure (P_quo rfl rfl (by omega) (by omega) (inK_i64 (by omega) (by omega))) trivial rfl ?_
      repeat' (first | (refine isO ?_; first | refine oo (Pc rfl) ?_ | refine oo (Pa rfl (by omega) (by omega)) ?_ | (refine ob rfl ?_ ?_ <;> intro hq <;> try (exfalso; omega)) | refine oo (Pi rfl (by omega)) ?_ | refine oo (Pl rfl) ?_ | refine oo (Px rfl rfl) ?_ | refine oo (Pj rfl (by omega) (by omega)) ?_ | refine oo (Pk rfl (by omega) (by omega)) ?_ | refine oo (Pf rfl) ?_ | refine oo (Pv rfl (by omega) (by omega)) ?_ | refine oo (Pn rfl) ?_ | refine oo (Pm rfl) ?_ | refine os rfl rfl ?_ | refine ot rfl (by omega) ?_ | refine O_nil ?_) | refine wo rfl ?_ | refine wc rfl ?_ | refine wg rfl ?_ | refine go rfl ?_ | refine gc rfl ?_ | refine gg rfl ?_)
      refine W_region_call 19 16 92 (fun v M' => ∃ b q sp, v = .slice (some ⟨b, 0, none⟩) 0 q ∧ ([] : List Int).length + sp.length = q ∧ 0 + n ≤ q ∧ q ≤ 9223372036854775807 ∧ (∀ v ∈ sp, v.oneCell' = true) ∧ M' = ⟨true, b, 0, ints .u8 [] ++ sp⟩ :: ⟨true, bb, 0, [.slice none 0 0, .int .i64 0, .int .i8 lr]⟩ :: ([] ++ F)) rfl (by decide) Tb.mixed
        [[], [], [1], [2], [3], [], [5], [6], [7], [4, 8], [], [10], [11], [12], [], [13, 14], [9, 15], [0], [17], [16, 18]] (by kernel_rfl) (by kernel_rfl) (by kernel_rfl) ?_ ?_
      · rintro v M' ⟨b, q, sp, rfl, _, _, _, _, rfl⟩
        exact .drop .rfl
      simp only [List.take_succ_cons, List.take_zero, List.drop_succ_cons, List.drop_zero]
      refine QD_start ?_
      repeat' (first | (refine isQD ?_; first | refine dd rfl (Pc rfl) ?_ | refine dd rfl (Pa rfl (by omega) (by omega)) ?_ | (refine db rfl rfl ?_ ?_ <;> intro hq <;> try (exfalso; omega)) | refine dd rfl (Pi rfl (by omega)) ?_ | refine dd rfl (Pl rfl) ?_ | refine dd rfl (Px rfl rfl) ?_  | refine dd rfl (Pj rfl (by omega) (by omega)) ?_ | refine dd rfl (Pk rfl (by omega) (by omega)) ?_ | refine dd rfl (Pf rfl) ?_ | refine dd rfl (Pv rfl (by omega) (by omega)) ?_ | refine dd rfl (Pn rfl) ?_ | refine dd rfl (Pm rfl) ?_ | (refine QD_nil ⟨rfl, ?_⟩; simp only [List.reverse_cons, List.reverse_nil, List.nil_append, List.cons_append, somes])))
      refine dpure rfl (P_slice_end Tb.u22 Tb.c5 (by decide) rfl ⟨_, rfl⟩ rfl (by omega) (by omega) (by omega) (by omega)) trivial rfl ?_
      repeat' (first | (refine isQD ?_; first | refine dd rfl (Pc rfl) ?_ | refine dd rfl (Pa rfl (by omega) (by omega)) ?_ | (refine db rfl rfl ?_ ?_ <;> intro hq <;> try (exfalso; omega)) | refine dd rfl (Pi rfl (by omega)) ?_ | refine dd rfl (Pl rfl) ?_ | refine dd rfl (Px rfl rfl) ?_  | refine dd rfl (Pj rfl (by omega) (by omega)) ?_ | refine dd rfl (Pk rfl (by omega) (by omega)) ?_ | refine dd rfl (Pf rfl) ?_ | refine dd rfl (Pv rfl (by omega) (by omega)) ?_ | refine dd rfl (Pn rfl) ?_ | refine dd rfl (Pm rfl) ?_ | (refine QD_nil ⟨rfl, ?_⟩; simp only [List.reverse_cons, List.reverse_nil, List.nil_append, List.cons_append, somes])))
      refine dcall rfl rfl rfl Tb.k148 trivial rfl (growSlice_z none 0 0 n _ (by omega) [] _ rfl (.inl ⟨rfl, rfl⟩) (by omega) hn (by omega) (by omega)) ?_
      repeat' (first | (refine isQD ?_; first | refine dd rfl (Pc rfl) ?_ | refine dd rfl (Pa rfl (by omega) (by omega)) ?_ | (refine db rfl rfl ?_ ?_ <;> intro hq <;> try (exfalso; omega)) | refine dd rfl (Pi rfl (by omega)) ?_ | refine dd rfl (Pl rfl) ?_ | refine dd rfl (Px rfl rfl) ?_  | refine dd rfl (Pj rfl (by omega) (by omega)) ?_ | refine dd rfl (Pk rfl (by omega) (by omega)) ?_ | refine dd rfl (Pf rfl) ?_ | refine dd rfl (Pv rfl (by omega) (by omega)) ?_ | refine dd rfl (Pn rfl) ?_ | refine dd rfl (Pm rfl) ?_ | (refine QD_nil ⟨rfl, ?_⟩; simp only [List.reverse_cons, List.reverse_nil, List.nil_append, List.cons_append, somes])))
      rintro v M' ⟨b, q, sp, rfl, hq1, hq2, hqm, hone, rfl⟩
      repeat' (first | (refine isO ?_; first | refine oo (Pc rfl) ?_ | refine oo (Pa rfl (by omega) (by omega)) ?_ | (refine ob rfl ?_ ?_ <;> intro hq <;> try (exfalso; omega)) | refine oo (Pi rfl (by omega)) ?_ | refine oo (Pl rfl) ?_ | refine oo (Px rfl rfl) ?_ | refine oo (Pj rfl (by omega) (by omega)) ?_ | refine oo (Pk rfl (by omega) (by omega)) ?_ | refine oo (Pf rfl) ?_ | refine oo (Pv rfl (by omega) (by omega)) ?_ | refine oo (Pn rfl) ?_ | refine oo (Pm rfl) ?_ | refine os rfl rfl ?_ | refine ot rfl (by omega) ?_ | refine O_nil ?_) | refine wo rfl ?_ | refine wc rfl ?_ | refine wg rfl ?_ | refine go rfl ?_ | refine gc rfl ?_ | refine gg rfl ?_)
      refine G_fin ⟨rfl, ?_⟩
      repeat' (first | (refine isO ?_; first | refine oo (Pc rfl) ?_ | refine oo (Pa rfl (by omega) (by omega)) ?_ | (refine ob rfl ?_ ?_ <;> intro hq <;> try (exfalso; omega)) | refine oo (Pi rfl (by omega)) ?_ | refine oo (Pl rfl) ?_ | refine oo (Px rfl rfl) ?_ | refine oo (Pj rfl (by omega) (by omega)) ?_ | refine oo (Pk rfl (by omega) (by omega)) ?_ | refine oo (Pf rfl) ?_ | refine oo (Pv rfl (by omega) (by omega)) ?_ | refine oo (Pn rfl) ?_ | refine oo (Pm rfl) ?_ | refine os rfl rfl ?_ | refine ot rfl (by omega) ?_ | refine O_nil ?_) | refine wo rfl ?_ | refine wc rfl ?_ | refine wg rfl ?_ | refine go rfl ?_ | refine gc rfl ?_ | refine gg rfl ?_)
      refine O_pure (P_slice1E (o' := 0) (len' := n) (cap' := q) Tb.u22 Tb.c5 rfl rfl ⟨_, rfl⟩ (by omega) (by omega) (by omega) (by omega) rfl (by omega) (by omega)) trivial rfl ?_
      repeat' (first | (refine isO ?_; first | refine oo (Pc rfl) ?_ | refine oo (Pa rfl (by omega) (by omega)) ?_ | (refine ob rfl ?_ ?_ <;> intro hq <;> try (exfalso; omega)) | refine oo (Pi rfl (by omega)) ?_ | refine oo (Pl rfl) ?_ | refine oo (Px rfl rfl) ?_ | refine oo (Pj rfl (by omega) (by omega)) ?_ | refine oo (Pk rfl (by omega) (by omega)) ?_ | refine oo (Pf rfl) ?_ | refine oo (Pv rfl (by omega) (by omega)) ?_ | refine oo (Pn rfl) ?_ | refine oo (Pm rfl) ?_ | refine os rfl rfl ?_ | refine ot rfl (by omega) ?_ | refine O_nil ?_) | refine wo rfl ?_ | refine wc rfl ?_ | refine wg rfl ?_ | refine go rfl ?_ | refine gc rfl ?_ | refine gg rfl ?_)
      exact G_fin ⟨_, rfl, rfl, b, q, sp, by simpa using hq1, by omega, hqm, hone, by repeat (first | exact .rfl | exact .nil | (apply Rk.cons; (· exact TakeI.out)) | refine .drop ?_)⟩
  · have hc := hfit _ _ _ rfl
    refine HC_of_W (fn := Try.f147) Try.func147 rfl rfl rfl rfl ?_
    repeat' (first | (refine isO ?_; first | refine oo (Pc rfl) ?_ | refine oo (Pa rfl (by omega) (by omega)) ?_ | (refine ob rfl ?_ ?_ <;> intro hq <;> try (exfalso; omega)) | refine oo (Pi rfl (by omega)) ?_ | refine oo (Pl rfl) ?_ | refine oo (Px rfl rfl) ?_ | refine oo (Pj rfl (by omega) (by omega)) ?_ | refine oo (Pk rfl (by omega) (by omega)) ?_ | refine oo (Pf rfl) ?_ | refine oo (Pv rfl (by omega) (by omega)) ?_ | refine oo (Pn rfl) ?_ | refine oo (Pm rfl) ?_ | refine os rfl rfl ?_ | refine ot rfl (by omega) ?_ | refine O_nil ?_) | refine wo rfl ?_ | refine wc rfl ?_ | refine wg rfl ?_ | refine go rfl ?_ | refine gc rfl ?_ | refine gg rfl ?_)
    refine O_call rfl rfl Tb.k142 trivial rfl (len_c bb (some ⟨b, 0, none⟩) xs.length c lr _ (by omega)) ?_
    rintro v M' ⟨rfl, rfl⟩
    repeat' (first | (refine isO ?_; first | refine oo (Pc rfl) ?_ | refine oo (Pa rfl (by omega) (by omega)) ?_ | (refine ob rfl ?_ ?_ <;> intro hq <;> try (exfalso; omega)) | refine oo (Pi rfl (by omega)) ?_ | refine oo (Pl rfl) ?_ | refine oo (Px rfl rfl) ?_ | refine oo (Pj rfl (by omega) (by omega)) ?_ | refine oo (Pk rfl (by omega) (by omega)) ?_ | refine oo (Pf rfl) ?_ | refine oo (Pv rfl (by omega) (by omega)) ?_ | refine oo (Pn rfl) ?_ | refine oo (Pm rfl) ?_ | refine os rfl rfl ?_ | refine ot rfl (by omega) ?_ | refine O_nil ?_) | refine wo rfl ?_ | refine wc rfl ?_ | refine wg rfl ?_ | refine go rfl ?_ | refine gc rfl ?_ | refine gg rfl ?_)
    all_goals
      refine O_call rfl rfl Tb.k146 trivial rfl (tryGrow_no bb (some ⟨b, 0, none⟩) xs.length c n lr _ (by omega) (by omega) (by omega) (by omega)) ?_
      rintro v M' ⟨rfl, rfl⟩
      repeat' (first | (refine isO ?_; first | refine oo (Pc rfl) ?_ | refine oo (Pa rfl (by omega) (by omega)) ?_ | (refine ob rfl ?_ ?_ <;> intro hq <;> try (exfalso; omega)) | refine oo (Pi rfl (by omega)) ?_ | refine oo (Pl rfl) ?_ | refine oo (Px rfl rfl) ?_ | refine oo (Pj rfl (by omega) (by omega)) ?_ | refine oo (Pk rfl (by omega) (by omega)) ?_ | refine oo (Pf rfl) ?_ | refine oo (Pv rfl (by omega) (by omega)) ?_ | refine oo (Pn rfl) ?_ | refine oo (Pm rfl) ?_ | refine os rfl rfl ?_ | refine ot rfl (by omega) ?_ | refine O_nil ?_) | refine wo rfl ?_ | refine wc rfl ?_ | refine wg rfl ?_ | refine go rfl ?_ | refine gc rfl ?_ | refine gg rfl ?_)
      refine O_pure (P_snil Tb.u22 rfl rfl) trivial rfl ?_
      repeat' (first | (refine isO ?_; first | refine oo (Pc rfl) ?_ | refine oo (Pa rfl (by omega) (by omega)) ?_ | (refine ob rfl ?_ ?_ <;> intro hq <;> try (exfalso; omega)) | refine oo (Pi rfl (by omega)) ?_ | refine oo (Pl rfl) ?_ | refine oo (Px rfl rfl) ?_ | refine oo (Pj rfl (by omega) (by omega)) ?_ | refine oo (Pk rfl (by omega) (by omega)) ?_ | refine oo (Pf rfl) ?_ | refine oo (Pv rfl (by omega) (by omega)) ?_ | refine oo (Pn rfl) ?_ | refine oo (Pm rfl) ?_ | refine os rfl rfl ?_ | refine ot rfl (by omega) ?_ | refine O_nil ?_) | refine wo rfl ?_ | refine wc rfl ?_ | refine wg rfl ?_ | refine go rfl ?_ | refine gc rfl ?_ | refine gg rfl ?_)
      refine O_pure (P_cap Tb.u22 rfl) trivial rfl ?_
      repeat' (first | (refine isO ?_; first | refine oo (Pc rfl) ?_ | refine oo (Pa rfl (by omega) (by omega)) ?_ | (refine ob rfl ?_ ?_ <;> intro hq <;> try (exfalso; omega)) | refine oo (Pi rfl (by omega)) ?_ | refine oo (Pl rfl) ?_ | refine oo (Px rfl rfl) ?_ | refine oo (Pj rfl (by omega) (by omega)) ?_ | refine oo (Pk rfl (by omega) (by omega)) ?_ | refine oo (Pf rfl) ?_ | refine oo (Pv rfl (by omega) (by omega)) ?_ | refine oo (Pn rfl) ?_ | refine oo (Pm rfl) ?_ | refine os rfl rfl ?_ | refine ot rfl (by omega) ?_ | refine O_nil ?_) | refine wo rfl ?_ | refine wc rfl ?_ | refine wg rfl ?_ | refine go rfl ?_ | refine gc rfl ?_ | refine gg rfl ?_)
      refine O_pure (P_quo rfl rfl (by omega) (by omega) (inK_i64 (by omega) (by omega))) trivial rfl ?_
      repeat' (first | (refine isO ?_; first | refine oo (Pc rfl) ?_ | refine oo (Pa rfl (by omega) (by omega)) ?_ | (refine ob rfl ?_ ?_ <;> intro hq <;> try (exfalso; omega)) | refine oo (Pi rfl (by omega)) ?_ | refine oo (Pl rfl) ?_ | refine oo (Px rfl rfl) ?_ | refine oo (Pj rfl (by omega) (by omega)) ?_ | refine oo (Pk rfl (by omega) (by omega)) ?_ | refine oo (Pf rfl) ?_ | refine oo (Pv rfl (by omega) (by omega)) ?_ | refine oo (Pn rfl) ?_ | refine oo (Pm rfl) ?_ | refine os rfl rfl ?_ | refine ot rfl (by omega) ?_ | refine O_nil ?_) | refine wo rfl ?_ | refine wc rfl ?_ | refine wg rfl ?_ | refine go rfl ?_ | refine gc rfl ?_ | refine gg rfl ?_)
      refine W_region_call 19 16 92 (fun v M' => ∃ b' q sp', v = .slice (some ⟨b', 0, none⟩) xs.length q ∧ xs.length + sp'.length = q ∧ xs.length + n ≤ q ∧ q ≤ 9223372036854775807 ∧ (∀ v ∈ sp', v.oneCell' = true) ∧ M' = ⟨true, b', 0, ints .u8 xs ++ sp'⟩ :: ⟨true, bb, 0, [.slice (some ⟨b, 0, none⟩) xs.length c, .int .i64 0, .int .i8 lr]⟩ :: ([⟨true, b, 0, ints .u8 xs ++ sp⟩] ++ F)) rfl (by decide) Tb.mixed
        [[], [], [1], [2], [3], [], [5], [6], [7], [4, 8], [], [10], [11], [12], [], [13, 14], [9, 15], [0], [17], [16, 18]] (by kernel_rfl) (by kernel_rfl) (by kernel_rfl) ?_ ?_
      · rintro v M' ⟨b, q, sp, rfl, _, _, _, _, rfl⟩
        exact .drop .rfl
      simp only [List.take_succ_cons, List.take_zero, List.drop_succ_cons, List.drop_zero]
      refine QD_start ?_
      repeat' (first | (refine isQD ?_; first | refine dd rfl (Pc rfl) ?_ | refine dd rfl (Pa rfl (by omega) (by omega)) ?_ | (refine db rfl rfl ?_ ?_ <;> intro hq <;> try (exfalso; omega)) | refine dd rfl (Pi rfl (by omega)) ?_ | refine dd rfl (Pl rfl) ?_ | refine dd rfl (Px rfl rfl) ?_  | refine dd rfl (Pj rfl (by omega) (by omega)) ?_ | refine dd rfl (Pk rfl (by omega) (by omega)) ?_ | refine dd rfl (Pf rfl) ?_ | refine dd rfl (Pv rfl (by omega) (by omega)) ?_ | refine dd rfl (Pn rfl) ?_ | refine dd rfl (Pm rfl) ?_ | (refine QD_nil ⟨rfl, ?_⟩; simp only [List.reverse_cons, List.reverse_nil, List.nil_append, List.cons_append, somes])))
      refine dpure rfl (P_slice1E (o' := 0) (len' := xs.length) (cap' := c) Tb.u22 Tb.c5 rfl ⟨_, rfl⟩ rfl (by omega) (by omega) (by omega) (by omega) rfl (by omega) (by omega)) trivial rfl ?_
      repeat' (first | (refine isQD ?_; first | refine dd rfl (Pc rfl) ?_ | refine dd rfl (Pa rfl (by omega) (by omega)) ?_ | (refine db rfl rfl ?_ ?_ <;> intro hq <;> try (exfalso; omega)) | refine dd rfl (Pi rfl (by omega)) ?_ | refine dd rfl (Pl rfl) ?_ | refine dd rfl (Px rfl rfl) ?_  | refine dd rfl (Pj rfl (by omega) (by omega)) ?_ | refine dd rfl (Pk rfl (by omega) (by omega)) ?_ | refine dd rfl (Pf rfl) ?_ | refine dd rfl (Pv rfl (by omega) (by omega)) ?_ | refine dd rfl (Pn rfl) ?_ | refine dd rfl (Pm rfl) ?_ | (refine QD_nil ⟨rfl, ?_⟩; simp only [List.reverse_cons, List.reverse_nil, List.nil_append, List.cons_append, somes])))
      refine dcall rfl rfl rfl Tb.k148 trivial rfl (growSlice_z (some ⟨b, 0, none⟩) xs.length c n _ (by omega) xs _ rfl (.inr ⟨b, _, sp, rfl, .tail _ (.head _), hone⟩) (by omega) hn (by omega) (by omega)) ?_
      repeat' (first | (refine isQD ?_; first | refine dd rfl (Pc rfl) ?_ | refine dd rfl (Pa rfl (by omega) (by omega)) ?_ | (refine db rfl rfl ?_ ?_ <;> intro hq <;> try (exfalso; omega)) | refine dd rfl (Pi rfl (by omega)) ?_ | refine dd rfl (Pl rfl) ?_ | refine dd rfl (Px rfl rfl) ?_  | refine dd rfl (Pj rfl (by omega) (by omega)) ?_ | refine dd rfl (Pk rfl (by omega) (by omega)) ?_ | refine dd rfl (Pf rfl) ?_ | refine dd rfl (Pv rfl (by omega) (by omega)) ?_ | refine dd rfl (Pn rfl) ?_ | refine dd rfl (Pm rfl) ?_ | (refine QD_nil ⟨rfl, ?_⟩; simp only [List.reverse_cons, List.reverse_nil, List.nil_append, List.cons_append, somes])))
      rintro v M' ⟨b', q, sp', rfl, hq1, hq2, hqm, hone', rfl⟩
      repeat' (first | (refine isO ?_; first | refine oo (Pc rfl) ?_ | refine oo (Pa rfl (by omega) (by omega)) ?_ | (refine ob rfl ?_ ?_ <;> intro hq <;> try (exfalso; omega)) | refine oo (Pi rfl (by omega)) ?_ | refine oo (Pl rfl) ?_ | refine oo (Px rfl rfl) ?_ | refine oo (Pj rfl (by omega) (by omega)) ?_ | refine oo (Pk rfl (by omega) (by omega)) ?_ | refine oo (Pf rfl) ?_ | refine oo (Pv rfl (by omega) (by omega)) ?_ | refine oo (Pn rfl) ?_ | refine oo (Pm rfl) ?_ | refine os rfl rfl ?_ | refine ot rfl (by omega) ?_ | refine O_nil ?_) | refine wo rfl ?_ | refine wc rfl ?_ | refine wg rfl ?_ | refine go rfl ?_ | refine gc rfl ?_ | refine gg rfl ?_)
      refine G_fin ⟨rfl, ?_⟩
      repeat' (first | (refine isO ?_; first | refine oo (Pc rfl) ?_ | refine oo (Pa rfl (by omega) (by omega)) ?_ | (refine ob rfl ?_ ?_ <;> intro hq <;> try (exfalso; omega)) | refine oo (Pi rfl (by omega)) ?_ | refine oo (Pl rfl) ?_ | refine oo (Px rfl rfl) ?_ | refine oo (Pj rfl (by omega) (by omega)) ?_ | refine oo (Pk rfl (by omega) (by omega)) ?_ | refine oo (Pf rfl) ?_ | refine oo (Pv rfl (by omega) (by omega)) ?_ | refine oo (Pn rfl) ?_ | refine oo (Pm rfl) ?_ | refine os rfl rfl ?_ | refine ot rfl (by omega) ?_ | refine O_nil ?_) | refine wo rfl ?_ | refine wc rfl ?_ | refine wg rfl ?_ | refine go rfl ?_ | refine gc rfl ?_ | refine gg rfl ?_)
      refine O_pure (P_slice1E (o' := 0) (len' := xs.length + n) (cap' := q) Tb.u22 Tb.c5 rfl rfl ⟨_, rfl⟩ (by omega) (by omega) (by omega) (by omega) rfl (by omega) (by omega)) trivial rfl ?_
      repeat' (first | (refine isO ?_; first | refine oo (Pc rfl) ?_ | refine oo (Pa rfl (by omega) (by omega)) ?_ | (refine ob rfl ?_ ?_ <;> intro hq <;> try (exfalso; omega)) | refine oo (Pi rfl (by omega)) ?_ | refine oo (Pl rfl) ?_ | refine oo (Px rfl rfl) ?_ | refine oo (Pj rfl (by omega) (by omega)) ?_ | refine oo (Pk rfl (by omega) (by omega)) ?_ | refine oo (Pf rfl) ?_ | refine oo (Pv rfl (by omega) (by omega)) ?_ | refine oo (Pn rfl) ?_ | refine oo (Pm rfl) ?_ | refine os rfl rfl ?_ | refine ot rfl (by omega) ?_ | refine O_nil ?_) | refine wo rfl ?_ | refine wc rfl ?_ | refine wg rfl ?_ | refine go rfl ?_ | refine gc rfl ?_ | refine gg rfl ?_)
      exact G_fin ⟨_, rfl, rfl, b', q, sp', hq1, by omega, hqm, hone', by show Rk (_ :: _ :: _ :: F) _; repeat (first | exact .rfl | exact .nil | (apply Rk.cons; (· exact TakeI.out)) | refine .drop ?_)⟩


/-- Bytes that are written, wherever they come from. -/
def Src (ax : Option Addr) (n : Nat) (ys : List Int) (F : Mem) : Prop :=
  n = 0 ∨ ∃ own bx ox lx j, ax = some ⟨bx, ox + j, none⟩ ∧ (⟨own, bx, ox, lx⟩ : Sg) ∈ F ∧ j + n ≤ lx.length ∧ (lx.drop j).take n = ints .u8 ys ∧ ∀ v ∈ lx, v.oneCell' = true

theorem writeg_c (bb : Nat) (s : Value) (xs ys : List Int) (m : Mem) (ax : Option Addr) (n cx : Nat) (lr : Int) (F : Mem) (hB : Bg s xs m) (hn : ys.length = n) (hbig : xs.length + n ≤ 1099511627776) (hx : Src ax n ys F) :
    HC Try.prog 145 #[.pointer (some ⟨bb, 0, none⟩), .slice ax n cx] (⟨true, bb, 0, [s, .int .i64 0, .int .i8 lr]⟩ :: (m ++ F))
      (fun v M' => v = .tuple #[.int .i64 n, .nilIface] ∧ ∃ s' m', Bg s' (xs ++ ys) m' ∧ Rk M' (⟨true, bb, 0, [s', .int .i64 0, .int .i8 0]⟩ :: (m' ++ F))) := by
  obtain ⟨hB, hcap⟩ := hB
  by_cases hroom : Room s n
  · exact write_b bb s xs ys m ax n cx lr F hB hn hroom hx
  · obtain ⟨I, hI, hI1, hI2, hI3⟩ := info5'
    have hn0 : 0 < n := by
      rcases Nat.eq_zero_or_pos n with h | h
      · exfalso
        subst h
        refine hroom ?_
        rcases hB with ⟨rfl, _⟩ | ⟨b, c, sp, rfl, rfl, hlen, hc0, hone⟩
        · exact .inl ⟨rfl, by omega⟩
        · exact .inr ⟨_, _, _, rfl, by omega, hcap _ _ _ rfl⟩
      · exact h
    have hfit : ∀ ad l c, s = .slice ad l c → c < l + n := by
      intro ad l c hs
      refine Nat.lt_of_not_le fun hle => hroom ?_
      rcases hB with ⟨rfl, _⟩ | ⟨b, c', sp, rfl, rfl, hlen, hc0, hone⟩
      · cases hs; omega
      · cases hs; exact .inr ⟨_, _, _, rfl, hle, hcap _ _ _ rfl⟩
    obtain ⟨ad, l, c, hs, hl⟩ : ∃ ad c0 c, s = .slice ad c0 c ∧ c0 = xs.length := by
      rcases hB with ⟨rfl, rfl, _⟩ | ⟨b, c', sp, rfl, rfl, hlen, hc0, hone⟩
      · exact ⟨none, 0, 0, rfl, rfl⟩
      · exact ⟨_, _, _, rfl, rfl⟩
    have hlc : l ≤ c := by
      rcases hB with ⟨rfl, rfl, _⟩ | ⟨b, c', sp, rfl, rfl, hlen, hc0, hone⟩ <;> cases hs <;> omega
    have hcl := hfit _ _ _ hs
    have hcm := hcap _ _ _ hs
    subst hs
    subst hl
    refine HC_of_W (fn := Try.f145) Try.func145 rfl rfl rfl rfl ?_
    repeat' (first | (refine isO ?_; first | refine oo (Pc rfl) ?_ | refine oo (Pa rfl (by omega) (by omega)) ?_ | (refine ob rfl ?_ ?_ <;> intro hq <;> try (exfalso; omega)) | refine oo (Pi rfl (by omega)) ?_ | refine oo (Pl rfl) ?_ | refine oo (Px rfl rfl) ?_ | refine oo (Pj rfl (by omega) (by omega)) ?_ | refine oo (Pk rfl (by omega) (by omega)) ?_ | refine oo (Pf rfl) ?_ | refine oo (Pv rfl (by omega) (by omega)) ?_ | refine oo (Pn rfl) ?_ | refine oo (Pm rfl) ?_ | refine os rfl rfl ?_ | refine ot rfl (by omega) ?_ | refine O_nil ?_) | refine wo rfl ?_ | refine wc rfl ?_ | refine wg rfl ?_ | refine go rfl ?_ | refine gc rfl ?_ | refine gg rfl ?_)
    refine O_call rfl rfl Tb.k146 trivial rfl (tryGrow_no bb ad xs.length c n 0 _ hcl hlc (by omega) hcm) ?_
    rintro v M' ⟨rfl, rfl⟩
    repeat' (first | (refine isO ?_; first | refine oo (Pc rfl) ?_ | refine oo (Pa rfl (by omega) (by omega)) ?_ | (refine ob rfl ?_ ?_ <;> intro hq <;> try (exfalso; omega)) | refine oo (Pi rfl (by omega)) ?_ | refine oo (Pl rfl) ?_ | refine oo (Px rfl rfl) ?_ | refine oo (Pj rfl (by omega) (by omega)) ?_ | refine oo (Pk rfl (by omega) (by omega)) ?_ | refine oo (Pf rfl) ?_ | refine oo (Pv rfl (by omega) (by omega)) ?_ | refine oo (Pn rfl) ?_ | refine oo (Pm rfl) ?_ | refine os rfl rfl ?_ | refine ot rfl (by omega) ?_ | refine O_nil ?_) | refine wo rfl ?_ | refine wc rfl ?_ | refine wg rfl ?_ | refine go rfl ?_ | refine gc rfl ?_ | refine gg rfl ?_)
    refine O_call rfl rfl Tb.k147 trivial rfl (grow_c bb _ xs m n 0 F hB hn0 hbig hfit) ?_
    rintro v M' ⟨rfl, b, q, sp, hq1, hq2, hqm, hone, hrk⟩
    refine O_weak hrk ?_
    repeat' (first | (refine isO ?_; first | refine oo (Pc rfl) ?_ | refine oo (Pa rfl (by omega) (by omega)) ?_ | (refine ob rfl ?_ ?_ <;> intro hq <;> try (exfalso; omega)) | refine oo (Pi rfl (by omega)) ?_ | refine oo (Pl rfl) ?_ | refine oo (Px rfl rfl) ?_ | refine oo (Pj rfl (by omega) (by omega)) ?_ | refine oo (Pk rfl (by omega) (by omega)) ?_ | refine oo (Pf rfl) ?_ | refine oo (Pv rfl (by omega) (by omega)) ?_ | refine oo (Pn rfl) ?_ | refine oo (Pm rfl) ?_ | refine os rfl rfl ?_ | refine ot rfl (by omega) ?_ | refine O_nil ?_) | refine wo rfl ?_ | refine wc rfl ?_ | refine wg rfl ?_ | refine go rfl ?_ | refine gc rfl ?_ | refine gg rfl ?_)
    refine O_pure (P_slice1E (o' := xs.length) (len' := n) (cap' := q - xs.length) Tb.u22 Tb.c5 rfl ⟨_, rfl⟩ rfl (by omega) (by omega) (by omega) (by omega) (by omega) (by omega) (by omega)) trivial rfl ?_
    repeat' (first | (refine isO ?_; first | refine oo (Pc rfl) ?_ | refine oo (Pa rfl (by omega) (by omega)) ?_ | (refine ob rfl ?_ ?_ <;> intro hq <;> try (exfalso; omega)) | refine oo (Pi rfl (by omega)) ?_ | refine oo (Pl rfl) ?_ | refine oo (Px rfl rfl) ?_ | refine oo (Pj rfl (by omega) (by omega)) ?_ | refine oo (Pk rfl (by omega) (by omega)) ?_ | refine oo (Pf rfl) ?_ | refine oo (Pv rfl (by omega) (by omega)) ?_ | refine oo (Pn rfl) ?_ | refine oo (Pm rfl) ?_ | refine os rfl rfl ?_ | refine ot rfl (by omega) ?_ | refine O_nil ?_) | refine wo rfl ?_ | refine wc rfl ?_ | refine wg rfl ?_ | refine go rfl ?_ | refine gc rfl ?_ | refine gg rfl ?_)
    rcases hx with hx | ⟨own, bx, ox, lx, j, rfl, hm, hj, hys, honex⟩
    · exact absurd hx (by omega)
    have hput : putAt (ints .u8 xs ++ sp) xs.length ((lx.drop j).take (n * 1)) = ints .u8 (xs ++ ys) ++ sp.drop n := by
      rw [Nat.mul_one, hys]
      have := putAt_append (ints .u8 ys) (ints .u8 xs) sp (by simp [ints_length, hn]; omega)
      rw [ints_length, ints_length, hn] at this
      rw [this]
      simp [ints]
    refine O_copy (o := 0) (i := xs.length) (n := n) (size := 1) Tb.u22 hI hI1 rfl rfl (by omega) (by omega) rfl (.tail .head) (.tail _ (.tail _ hm)) (by omega) honex (by simp [ints_length]; omega) hput trivial rfl ?_
    repeat' (first | (refine isO ?_; first | refine oo (Pc rfl) ?_ | refine oo (Pa rfl (by omega) (by omega)) ?_ | (refine ob rfl ?_ ?_ <;> intro hq <;> try (exfalso; omega)) | refine oo (Pi rfl (by omega)) ?_ | refine oo (Pl rfl) ?_ | refine oo (Px rfl rfl) ?_ | refine oo (Pj rfl (by omega) (by omega)) ?_ | refine oo (Pk rfl (by omega) (by omega)) ?_ | refine oo (Pf rfl) ?_ | refine oo (Pv rfl (by omega) (by omega)) ?_ | refine oo (Pn rfl) ?_ | refine oo (Pm rfl) ?_ | refine os rfl rfl ?_ | refine ot rfl (by omega) ?_ | refine O_nil ?_) | refine wo rfl ?_ | refine wc rfl ?_ | refine wg rfl ?_ | refine go rfl ?_ | refine gc rfl ?_ | refine gg rfl ?_)
    refine G_fin ⟨_, rfl, rfl, .slice (some ⟨b, 0, none⟩) (xs.length + n) q, [⟨true, b, 0, ints .u8 (xs ++ ys) ++ sp.drop n⟩], ⟨.inr ⟨b, q, sp.drop n, by simp [hn], rfl, by simp [hn]; omega, by omega, fun v hv => hone v (List.mem_of_mem_drop hv)⟩, fun ad l c h => by cases h; exact hqm⟩, by show Rk _ (_ :: _ :: F); repeat (first | exact .rfl | exact .nil | (apply Rk.cons; (· exact TakeI.out)) | refine .drop ?_)⟩
end Go.Proofs.Ytjkpfliaflmppaa.Bu

namespace Go.Proofs.Ytjkpfliaflmppaa.Pc
open Go Go.RowKit Go.Proofs.Ytjkpfliaflmppaa.Vm

/-- A code: symbol, count, length, value. -/
structure Cd where
  sym : Nat
  cnt : Nat
  len : Nat
  val : Nat

def Cd.zero : Cd := ⟨0, 0, 0, 0⟩
def Cd.cells (c : Cd) : List Value := [.int .u32 c.sym, .int .u32 c.cnt, .int .u32 c.len, .int .u32 c.val]
def codesV (l : List Cd) : List Value := l.flatMap Cd.cells

theorem codesV_nil : codesV [] = [] := rfl
theorem codesV_append (l m : List Cd) : codesV (l ++ m) = codesV l ++ codesV m := by simp [codesV]
theorem codesV_cons (c : Cd) (l : List Cd) : codesV (c :: l) = c.cells ++ codesV l := rfl
theorem codesV_length (l : List Cd) : (codesV l).length = l.length * 4 := by
  induction l with
  | nil => rfl
  | cons c l ih => rw [codesV_cons, List.length_append, ih]; simp [Cd.cells]; omega

theorem codesV_at (l : List Cd) (sp : List Value) (i : Nat) (h : i < l.length) : ∃ p q, codesV l ++ sp = p ++ ((l.getD i Cd.zero).cells ++ q) ∧ p.length = i * 4 ∧ p = codesV (l.take i) ∧ q = codesV (l.drop (i + 1)) ++ sp := by
  refine ⟨codesV (l.take i), codesV (l.drop (i + 1)) ++ sp, ?_, by rw [codesV_length]; simp; omega, rfl, rfl⟩
  have e : l = l.take i ++ (l.getD i Cd.zero) :: l.drop (i + 1) := by
    have h1 : l.getD i Cd.zero = l[i] := by simp [h]
    rw [h1]; simp
  conv => lhs; rw [e, codesV_append, codesV_cons]
  simp

theorem codesV_block (l : List Cd) (sp : List Value) (i : Nat) (h : i < l.length) : ((codesV l ++ sp).drop (i * 4)).take 4 = (l.getD i Cd.zero).cells := by
  obtain ⟨p, q, h1, h2, _⟩ := codesV_at l sp i h
  rw [h1, ← h2]
  simp [Cd.cells]

theorem codesV_lit (l : List Cd) (sp : List Value) (i : Nat) (h : i < l.length) : ((codesV l ++ sp).drop (i * 4)).take 4 =
    [.int .u32 (l.getD i Cd.zero).sym, .int .u32 (l.getD i Cd.zero).cnt, .int .u32 (l.getD i Cd.zero).len, .int .u32 (l.getD i Cd.zero).val] := codesV_block l sp i h
theorem codesV_lit' (l : List Cd) (sp : List Value) (i : Nat) (h : i < l.length) {s c n v : Nat} (he : l.getD i Cd.zero = ⟨s, c, n, v⟩) : ((codesV l ++ sp).drop (i * 4)).take 4 =
    [.int .u32 s, .int .u32 c, .int .u32 n, .int .u32 v] := by rw [codesV_block l sp i h, he]; rfl
theorem lit_one (a b c d : Int) : ∀ v ∈ [Value.int .u32 a, .int .u32 b, .int .u32 c, .int .u32 d], v.oneCell' = true := by
  intro v hv
  simp at hv
  rcases hv with rfl | rfl | rfl | rfl <;> rfl

theorem codesV_get (l : List Cd) (sp : List Value) (i f : Nat) (h : i < l.length) (hf : f < 4) : (codesV l ++ sp)[i * 4 + f]? = (l.getD i Cd.zero).cells[f]? := by
  obtain ⟨p, q, h1, h2, _⟩ := codesV_at l sp i h
  rw [h1, ← h2, List.getElem?_append_right (by omega), Nat.add_sub_cancel_left, List.getElem?_append_left (by simpa [Cd.cells] using hf)]

theorem Cd.cells_one (c : Cd) : ∀ v ∈ c.cells, v.oneCell' = true := by
  intro v hv
  simp [Cd.cells] at hv
  rcases hv with rfl | rfl | rfl | rfl <;> rfl

theorem codesV_one (l : List Cd) : ∀ v ∈ codesV l, v.oneCell' = true := by
  intro v hv
  simp only [codesV, List.mem_flatMap] at hv
  obtain ⟨c, _, hc⟩ := hv
  exact c.cells_one v hc

theorem take_succ_getD (l : List Cd) (i : Nat) (h : i < l.length) : l.take (i + 1) = l.take i ++ [l.getD i Cd.zero] := by
  have h1 : l.getD i Cd.zero = l[i] := by simp [h]
  rw [h1, List.take_succ_eq_append_getElem h]

theorem codesV_take (l : List Cd) (i : Nat) (h : i < l.length) : codesV (l.take i) ++ ((l.getD i Cd.zero).cells).take (1 * 4) = codesV (l.take (i + 1)) := by
  rw [take_succ_getD l i h, codesV_append]
  rfl

theorem codesV_set (l : List Cd) (sp : List Value) (i : Nat) (h : i < l.length) (v : Nat) : (codesV l ++ sp).set (i * 4 + 3) (.int .u32 v) = codesV (l.set i { l.getD i Cd.zero with val := v }) ++ sp := by
  obtain ⟨p, q, h1, h2, h3, h4⟩ := codesV_at l sp i h
  rw [h1, ← h2, List.set_append_right _ _ (by omega), Nat.add_sub_cancel_left, List.set_append_left _ _ (by simp [Cd.cells])]
  have e : l.set i { l.getD i Cd.zero with val := v } = l.take i ++ { l.getD i Cd.zero with val := v } :: l.drop (i + 1) := by
    rw [List.set_eq_take_append_cons_drop, if_pos h]
  rw [e, codesV_append, codesV_cons, h3, h4]
  simp [Cd.cells]

/-- The tables' rows of the two types of codes. -/
theorem zero42 : zeroOf Try.prog 42 = some [.int .u32 0, .int .u32 0, .int .u32 0, .int .u32 0] := by kernel_rfl
theorem zero146 : zeroOf Try.prog 146 = some [.int .u32 0, .int .u32 0, .int .u32 0, .int .u32 0] := by kernel_rfl
theorem build146 (a b c d : Int) (w : World) : (Instr.build 146 [(0, .int .u32 a), (1, .int .u32 b), (2, .int .u32 c), (3, .int .u32 d)].toArray).run Try.prog w = .ok (.agg [.int .u32 a, .int .u32 b, .int .u32 c, .int .u32 d].toArray) w := by kernel_rfl
theorem build42 (a b c d : Int) (w : World) : (Instr.build 42 [(0, .int .u32 a), (1, .int .u32 b), (2, .int .u32 c), (3, .int .u32 d)].toArray).run Try.prog w = .ok (.agg [.int .u32 a, .int .u32 b, .int .u32 c, .int .u32 d].toArray) w := by kernel_rfl
theorem row79_0 (w : World) : (Instr.buildSlice 79 0 [].toArray).run Try.prog w = .ok (.slice (some ⟨w.heap.size, 0, none⟩) 0 0) (w.alloc (.cells [].toArray 146)) := by kernel_rfl
theorem row79_1 (a b c d : Value) (w : World) : (Instr.buildSlice 79 1 [(0, .agg [a, b, c, d].toArray)].toArray).run Try.prog w = .ok (.slice (some ⟨w.heap.size, 0, none⟩) 1 1) (w.alloc (.cells [a, b, c, d].toArray 146)) := by kernel_rfl
theorem row23_1 (a b c d : Value) (w : World) : (Instr.buildSlice 23 1 [(0, .agg [a, b, c, d].toArray)].toArray).run Try.prog w = .ok (.slice (some ⟨w.heap.size, 0, none⟩) 1 1) (w.alloc (.cells [a, b, c, d].toArray 42)) := by kernel_rfl

theorem of_info {P : Program} {t : TypeId} {a b : Nat} {z : Option Value} (h : (P.info? t).map (fun i => (i.size, i.bytes, i.zero)) = some (a, b, z)) : ∃ I, P.info? t = some I ∧ I.size = a ∧ I.bytes = b ∧ I.zero = z := by
  cases hI : P.info? t with
  | none => simp [hI] at h
  | some I => simp [hI] at h; exact ⟨I, rfl, h⟩
theorem info42 : (Try.prog.info? 42).map (fun i => (i.size, i.bytes, i.zero)) = some (4, 16, some (.agg #[.int .u32 0, .int .u32 0, .int .u32 0, .int .u32 0])) := by kernel_rfl
theorem info146 : (Try.prog.info? 146).map (fun i => (i.size, i.bytes, i.zero)) = some (4, 16, some (.agg #[.int .u32 0, .int .u32 0, .int .u32 0, .int .u32 0])) := by kernel_rfl
attribute [irreducible] codesV
end Go.Proofs.Ytjkpfliaflmppaa.Pc

namespace Go.Proofs.Ytjkpfliaflmppaa.Pc
open Go Go.RowKit Go.Proofs.Ytjkpfliaflmppaa.Vm

theorem codes_c (cs : List Cd) (own : Bool) (b cap : Nat) (sp : List Value) (F : Mem) (hn : cs.length ≤ 100) :
    HC Try.prog 41 #[.slice (some ⟨b, 0, none⟩) cs.length cap] (⟨own, b, 0, codesV cs ++ sp⟩ :: F)
      (fun v M' => ∃ b' cap' sp', v = .slice (some ⟨b', 0, none⟩) cs.length cap' ∧ (codesV cs ++ sp').length = cap' * 4 ∧ M' = ⟨true, b', 0, codesV cs ++ sp'⟩ :: ⟨own, b, 0, codesV cs ++ sp⟩ :: F) := by
  obtain ⟨I, hI, hI1, hI2, hI3⟩ := of_info info146
  refine HC_of_W (fn := Try.f41) Try.func41 rfl rfl rfl rfl ?_
  repeat' (first | (refine isO ?_; first | refine oo (Pc rfl) ?_ | refine oo (Pa rfl (by omega) (by omega)) ?_ | (refine ob rfl ?_ ?_ <;> intro hq <;> try (exfalso; omega)) | refine oo (Pi rfl (by omega)) ?_ | refine oo (Pl rfl) ?_ | refine oo (Px rfl rfl) ?_ | refine oo (Pj rfl (by omega) (by omega)) ?_ | refine oo (Pk rfl (by omega) (by omega)) ?_ | refine oo (Pf rfl) ?_ | refine oo (Pv rfl (by omega) (by omega)) ?_ | refine oo (Pn rfl) ?_ | refine oo (Pm rfl) ?_ | refine os rfl rfl ?_ | refine ot rfl (by omega) ?_ | refine O_nil ?_) | refine wo rfl ?_ | refine wc rfl ?_ | refine wg rfl ?_ | refine go rfl ?_ | refine gc rfl ?_ | refine gg rfl ?_)
  refine O_buildSlice rfl row79_0 trivial rfl fun b0 => ?_
  repeat' (first | (refine isO ?_; first | refine oo (Pc rfl) ?_ | refine oo (Pa rfl (by omega) (by omega)) ?_ | (refine ob rfl ?_ ?_ <;> intro hq <;> try (exfalso; omega)) | refine oo (Pi rfl (by omega)) ?_ | refine oo (Pl rfl) ?_ | refine oo (Px rfl rfl) ?_ | refine oo (Pj rfl (by omega) (by omega)) ?_ | refine oo (Pk rfl (by omega) (by omega)) ?_ | refine oo (Pf rfl) ?_ | refine oo (Pv rfl (by omega) (by omega)) ?_ | refine oo (Pn rfl) ?_ | refine oo (Pm rfl) ?_ | refine os rfl rfl ?_ | refine ot rfl (by omega) ?_ | refine O_nil ?_) | refine wo rfl ?_ | refine wc rfl ?_ | refine wg rfl ?_ | refine go rfl ?_ | refine gc rfl ?_ | refine gg rfl ?_)
  refine W_loop (α := Nat × Nat × Nat × List Value) (fun x => [(0, .slice (some ⟨b, 0, none⟩) cs.length cap), (3, .slice (some ⟨x.2.1, 0, none⟩) x.1 x.2.2.1), (7, .slice (some ⟨b, 0, none⟩) cs.length cap), (8, .int .i64 cs.length), (9, .int .i64 x.1)])
    (fun x => ⟨true, x.2.1, 0, codesV (cs.take x.1) ++ x.2.2.2⟩ :: ⟨own, b, 0, codesV cs ++ sp⟩ :: F) (fun x => x.1 ≤ cs.length ∧ (codesV (cs.take x.1) ++ x.2.2.2).length = x.2.2.1 * 4) (fun x => cs.length - x.1)
    (0, b0, 0, []) ⟨by omega, by simp [codesV]⟩ ⟨rfl, rfl, rfl, rfl, rfl, trivial⟩ (by simp only [List.take_zero, codesV_nil, List.nil_append]; repeat (first | exact .rfl | exact .nil | (apply Rk.cons; (· exact TakeI.out)) | refine .drop ?_)) ?_
  rintro ⟨i, b1, c1, s1⟩ ⟨hi, hc1⟩
  dsimp only at hi hc1 ⊢
  repeat' (first | (refine isO ?_; first | refine oo (Pc rfl) ?_ | refine oo (Pa rfl (by omega) (by omega)) ?_ | (refine ob rfl ?_ ?_ <;> intro hq <;> try (exfalso; omega)) | refine oo (Pi rfl (by omega)) ?_ | refine oo (Pl rfl) ?_ | refine oo (Px rfl rfl) ?_ | refine oo (Pj rfl (by omega) (by omega)) ?_ | refine oo (Pk rfl (by omega) (by omega)) ?_ | refine oo (Pf rfl) ?_ | refine oo (Pv rfl (by omega) (by omega)) ?_ | refine oo (Pn rfl) ?_ | refine oo (Pm rfl) ?_ | refine os rfl rfl ?_ | refine ot rfl (by omega) ?_ | refine O_nil ?_) | refine wo rfl ?_ | refine wc rfl ?_ | refine wg rfl ?_ | refine go rfl ?_ | refine gc rfl ?_ | refine gg rfl ?_)
  · have hil : i < cs.length := by omega
    refine O_pure (P_loadAgg (i := i * 4) (cs := (cs.getD i Cd.zero).cells) Tb.a42 Tb.c42 (by decide) (by simp only [Int.toNat_natCast]; rfl) (by exact TakeI.out.mem) (by rw [List.length_append, codesV_length]; omega) (codesV_block _ _ _ hil)) trivial rfl ?_
    refine O_alloc zero42 trivial rfl fun bx => ?_
    refine O_storeAgg0 Tb.c42 (by decide) rfl rfl rfl (Cd.cells_one _) trivial (by exact TakeI.out) rfl ?_
    repeat' (first | (refine isO ?_; first | refine oo (Pc rfl) ?_ | refine oo (Pa rfl (by omega) (by omega)) ?_ | (refine ob rfl ?_ ?_ <;> intro hq <;> try (exfalso; omega)) | refine oo (Pi rfl (by omega)) ?_ | refine oo (Pl rfl) ?_ | refine oo (Px rfl rfl) ?_ | refine oo (Pj rfl (by omega) (by omega)) ?_ | refine oo (Pk rfl (by omega) (by omega)) ?_ | refine oo (Pf rfl) ?_ | refine oo (Pv rfl (by omega) (by omega)) ?_ | refine oo (Pn rfl) ?_ | refine oo (Pm rfl) ?_ | refine os rfl rfl ?_ | refine ot rfl (by omega) ?_ | refine O_nil ?_) | refine wo rfl ?_ | refine wc rfl ?_ | refine wg rfl ?_ | refine go rfl ?_ | refine gc rfl ?_ | refine gg rfl ?_)
    refine O_pure (P_build rfl (build146 _ _ _ _)) trivial rfl ?_
    refine O_buildSlice rfl (row79_1 _ _ _ _) trivial rfl fun by1 => ?_
    refine O_append (len := i) (m := [⟨true, b1, 0, codesV (cs.take i) ++ s1⟩]) (xs := codesV (cs.take i)) Tb.u79 Tb.u79 hI hI1 (by decide) (by omega) hI3 rfl rfl rfl (.inr ⟨b1, i, c1, s1, rfl, rfl, by rw [codesV_length]; simp; omega, hc1⟩)
      (.cons (by exact TakeI.out) .rfl) (by rw [codesV_length]; simp; omega) (.head _) (by simp [Cd.cells]) (Cd.cells_one (cs.getD i Cd.zero)) (.inl (by omega)) (by rw [hI2]; omega) trivial rfl fun b2 c2 s2 h2 => ?_
    repeat' (first | (refine isO ?_; first | refine oo (Pc rfl) ?_ | refine oo (Pa rfl (by omega) (by omega)) ?_ | (refine ob rfl ?_ ?_ <;> intro hq <;> try (exfalso; omega)) | refine oo (Pi rfl (by omega)) ?_ | refine oo (Pl rfl) ?_ | refine oo (Px rfl rfl) ?_ | refine oo (Pj rfl (by omega) (by omega)) ?_ | refine oo (Pk rfl (by omega) (by omega)) ?_ | refine oo (Pf rfl) ?_ | refine oo (Pv rfl (by omega) (by omega)) ?_ | refine oo (Pn rfl) ?_ | refine oo (Pm rfl) ?_ | refine os rfl rfl ?_ | refine ot rfl (by omega) ?_ | refine O_nil ?_) | refine wo rfl ?_ | refine wc rfl ?_ | refine wg rfl ?_ | refine go rfl ?_ | refine gc rfl ?_ | refine gg rfl ?_)
    refine G_stop ⟨(i + 1, b2, c2, s2), ⟨by omega, ?_⟩, by dsimp only; omega, ⟨rfl, rfl, rfl, rfl, rfl, trivial⟩, ?_⟩
    · rw [codesV_take _ _ hil] at h2; exact h2
    · dsimp only
      rw [codesV_take _ _ hil]
      repeat (first | exact .rfl | exact .nil | (apply Rk.cons; (· exact TakeI.out)) | refine .drop ?_)
  · obtain rfl : i = cs.length := by omega
    refine G_fin ⟨_, rfl, b1, c1, s1, rfl, ?_, ?_⟩
    · rw [List.take_length] at hc1; exact hc1
    · rw [List.take_length]

theorem uncodes_c (cs : List Cd) (own : Bool) (b cap : Nat) (sp : List Value) (F : Mem) (hn : cs.length ≤ 100) :
    HC Try.prog 43 #[.slice (some ⟨b, 0, none⟩) cs.length cap] (⟨own, b, 0, codesV cs ++ sp⟩ :: F)
      (fun v M' => ∃ m, Own v 4 (codesV cs) m ∧ Rk M' (⟨own, b, 0, codesV cs ++ sp⟩ :: (m ++ F))) := by
  obtain ⟨I, hI, hI1, hI2, hI3⟩ := of_info info42
  refine HC_of_W (fn := Try.f43) Try.func43 rfl rfl rfl rfl ?_
  repeat' (first | (refine isO ?_; first | refine oo (Pc rfl) ?_ | refine oo (Pa rfl (by omega) (by omega)) ?_ | (refine ob rfl ?_ ?_ <;> intro hq <;> try (exfalso; omega)) | refine oo (Pi rfl (by omega)) ?_ | refine oo (Pl rfl) ?_ | refine oo (Px rfl rfl) ?_ | refine oo (Pj rfl (by omega) (by omega)) ?_ | refine oo (Pk rfl (by omega) (by omega)) ?_ | refine oo (Pf rfl) ?_ | refine oo (Pv rfl (by omega) (by omega)) ?_ | refine oo (Pn rfl) ?_ | refine oo (Pm rfl) ?_ | refine os rfl rfl ?_ | refine ot rfl (by omega) ?_ | refine O_nil ?_) | refine wo rfl ?_ | refine wc rfl ?_ | refine wg rfl ?_ | refine go rfl ?_ | refine gc rfl ?_ | refine gg rfl ?_)
  refine W_loop (α := Nat × Value × Mem) (fun x => [(0, .slice (some ⟨b, 0, none⟩) cs.length cap), (3, x.2.1), (6, .slice (some ⟨b, 0, none⟩) cs.length cap), (7, .int .i64 cs.length), (8, .int .i64 x.1)])
    (fun x => ⟨own, b, 0, codesV cs ++ sp⟩ :: (x.2.2 ++ F)) (fun x => x.1 ≤ cs.length ∧ Own x.2.1 4 (codesV (cs.take x.1)) x.2.2) (fun x => cs.length - x.1)
    (0, .slice none 0 0, []) ⟨by omega, .inl ⟨rfl, by simp [codesV], rfl⟩⟩ ⟨rfl, rfl, rfl, rfl, rfl, trivial⟩ (by repeat (first | exact .rfl | exact .nil | (apply Rk.cons; (· exact TakeI.out)) | refine .drop ?_)) ?_
  rintro ⟨i, v, m⟩ ⟨hi, hown⟩
  dsimp only at hi hown ⊢
  repeat' (first | (refine isO ?_; first | refine oo (Pc rfl) ?_ | refine oo (Pa rfl (by omega) (by omega)) ?_ | (refine ob rfl ?_ ?_ <;> intro hq <;> try (exfalso; omega)) | refine oo (Pi rfl (by omega)) ?_ | refine oo (Pl rfl) ?_ | refine oo (Px rfl rfl) ?_ | refine oo (Pj rfl (by omega) (by omega)) ?_ | refine oo (Pk rfl (by omega) (by omega)) ?_ | refine oo (Pf rfl) ?_ | refine oo (Pv rfl (by omega) (by omega)) ?_ | refine oo (Pn rfl) ?_ | refine oo (Pm rfl) ?_ | refine os rfl rfl ?_ | refine ot rfl (by omega) ?_ | refine O_nil ?_) | refine wo rfl ?_ | refine wc rfl ?_ | refine wg rfl ?_ | refine go rfl ?_ | refine gc rfl ?_ | refine gg rfl ?_)
  · have hil : i < cs.length := by omega
    refine O_pure (P_loadAgg (i := i * 4) (cs := (cs.getD i Cd.zero).cells) Tb.a146 Tb.c146 (by decide) (by simp only [Int.toNat_natCast]; rfl) (by exact TakeI.out.mem) (by rw [List.length_append, codesV_length]; omega) (codesV_block _ _ _ hil)) trivial rfl ?_
    refine O_alloc zero146 trivial rfl fun bx => ?_
    refine O_storeAgg0 Tb.c146 (by decide) rfl rfl rfl (Cd.cells_one _) trivial (by exact TakeI.out) rfl ?_
    repeat' (first | (refine isO ?_; first | refine oo (Pc rfl) ?_ | refine oo (Pa rfl (by omega) (by omega)) ?_ | (refine ob rfl ?_ ?_ <;> intro hq <;> try (exfalso; omega)) | refine oo (Pi rfl (by omega)) ?_ | refine oo (Pl rfl) ?_ | refine oo (Px rfl rfl) ?_ | refine oo (Pj rfl (by omega) (by omega)) ?_ | refine oo (Pk rfl (by omega) (by omega)) ?_ | refine oo (Pf rfl) ?_ | refine oo (Pv rfl (by omega) (by omega)) ?_ | refine oo (Pn rfl) ?_ | refine oo (Pm rfl) ?_ | refine os rfl rfl ?_ | refine ot rfl (by omega) ?_ | refine O_nil ?_) | refine wo rfl ?_ | refine wc rfl ?_ | refine wg rfl ?_ | refine go rfl ?_ | refine gc rfl ?_ | refine gg rfl ?_)
    refine O_pure (P_build rfl (build42 _ _ _ _)) trivial rfl ?_
    refine O_buildSlice rfl (row23_1 _ _ _ _) trivial rfl fun by1 => ?_
    refine O_append (len := i) (m := m) (M0 := [⟨true, by1, 0, (cs.getD i Cd.zero).cells⟩, ⟨own, b, 0, codesV cs ++ sp⟩] ++ F) (xs := codesV (cs.take i)) Tb.u23 Tb.u23 hI hI1 (by decide) (by omega) hI3 rfl rfl rfl hown
      ?_ (by rw [codesV_length]; simp; omega) (.head _) (by simp [Cd.cells]) (Cd.cells_one (cs.getD i Cd.zero)) (.inl (by omega)) (by rw [hI2]; omega) trivial rfl fun b2 c2 s2 h2 => ?_
    · refine .trans (L := ⟨true, by1, 0, (cs.getD i Cd.zero).cells⟩ :: ⟨own, b, 0, codesV cs ++ sp⟩ :: (m ++ F)) (by repeat (first | exact .rfl | exact .nil | (apply Rk.cons; (· exact TakeI.out)) | refine .drop ?_)) (.perm (List.perm_append_comm_assoc [_, _] m F))
    repeat' (first | (refine isO ?_; first | refine oo (Pc rfl) ?_ | refine oo (Pa rfl (by omega) (by omega)) ?_ | (refine ob rfl ?_ ?_ <;> intro hq <;> try (exfalso; omega)) | refine oo (Pi rfl (by omega)) ?_ | refine oo (Pl rfl) ?_ | refine oo (Px rfl rfl) ?_ | refine oo (Pj rfl (by omega) (by omega)) ?_ | refine oo (Pk rfl (by omega) (by omega)) ?_ | refine oo (Pf rfl) ?_ | refine oo (Pv rfl (by omega) (by omega)) ?_ | refine oo (Pn rfl) ?_ | refine oo (Pm rfl) ?_ | refine os rfl rfl ?_ | refine ot rfl (by omega) ?_ | refine O_nil ?_) | refine wo rfl ?_ | refine wc rfl ?_ | refine wg rfl ?_ | refine go rfl ?_ | refine gc rfl ?_ | refine gg rfl ?_)
    refine G_stop ⟨(i + 1, .slice (some ⟨b2, 0, none⟩) (i + 1) c2, [⟨true, b2, 0, codesV (cs.take (i + 1)) ++ s2⟩]), ⟨by omega, ?_⟩, by dsimp only; omega, ⟨rfl, rfl, rfl, rfl, rfl, trivial⟩, ?_⟩
    · rw [codesV_take _ _ hil] at h2; exact .inr ⟨b2, i + 1, c2, s2, rfl, rfl, by rw [codesV_length]; simp; omega, h2⟩
    · dsimp only
      rw [codesV_take _ _ hil]
      refine .cons (by exact TakeI.out) ?_
      exact .cons .head (.drop .rfl)
  · obtain rfl : i = cs.length := by omega
    rw [List.take_length] at hown
    exact G_fin ⟨_, rfl, m, hown, .rfl⟩
end Go.Proofs.Ytjkpfliaflmppaa.Pc

/- spec.Least, walked: rows of packages and of counts, the first ones of the last row summed. -/
import Derived.Test.YtjkpfliaflmppaaW9x16
import Derived.Test.YtjkpfliaflmppaaW9x17
import Derived.Test.YtjkpfliaflmppaaW9x18

namespace Go.Proofs.Ytjkpfliaflmppaa.Hu
open Go Go.RowKit Go.Proofs.Ytjkpfliaflmppaa.Vm Go.Proofs.Ytjkpfliaflmppaa.Pc

theorem mg_pack {C row : List Nat} {i a : Nat} (hi : i < C.length) (h : a + 1 < row.length) (hlt : row.getD a 0 + row.getD (a + 1) 0 < C.getD i 0) :
    mg (C.drop i) (pk (row.drop a)) = (row.getD a 0 + row.getD (a + 1) 0) :: mg (C.drop i) (pk (row.drop (a + 2))) := by
  rw [pk_head row a h, List.drop_eq_getElem_cons hi]
  exact mg_lt _ _ (by simpa [hi] using hlt)
theorem mg_one {C row : List Nat} {i a : Nat} (hi : i < C.length) (h : row.length ≤ a + 1 ∨ C.getD i 0 ≤ row.getD a 0 + row.getD (a + 1) 0) :
    mg (C.drop i) (pk (row.drop a)) = C.getD i 0 :: mg (C.drop (i + 1)) (pk (row.drop a)) := by
  have e : C.getD i 0 = C[i] := by simp [hi]
  by_cases h1 : a + 1 < row.length
  · rw [pk_head row a h1, List.drop_eq_getElem_cons hi, mg_ge _ _ (by rw [← e]; omega), e]
  · rw [pk_end row a (by omega), mg_nilr, mg_nilr, List.drop_eq_getElem_cons hi, e]
theorem mg_rest {C row : List Nat} {i a : Nat} (hi : C.length ≤ i) (h : a + 1 < row.length) :
    mg (C.drop i) (pk (row.drop a)) = (row.getD a 0 + row.getD (a + 1) 0) :: mg (C.drop i) (pk (row.drop (a + 2))) := by
  rw [List.drop_eq_nil_of_le hi, mg_nil, mg_nil, pk_head row a h]
theorem mg_end {C row : List Nat} {i a : Nat} (hi : C.length ≤ i) (h : row.length ≤ a + 1) : mg (C.drop i) (pk (row.drop a)) = [] := by
  rw [List.drop_eq_nil_of_le hi, mg_nil, pk_end row a h]

def qs (l : List Nat) : List Value := ints .u64 (l.map Nat.cast)
theorem qs_length (l : List Nat) : (qs l).length = l.length := by simp [qs, ints]
theorem qs_snoc (l : List Nat) (z : Nat) : qs l ++ [Value.int .u64 (z : Int)].take (1 * 1) = qs (l ++ [z]) := by simp [qs, ints]
theorem qs_get (l : List Nat) (sp : List Value) (i : Nat) (h : i < l.length) : (qs l ++ sp)[i]? = some (.int .u64 (l.getD i 0 : Nat)) := by
  rw [List.getElem?_append_left (by rw [qs_length]; exact h)]
  simp [qs, ints, h]
theorem row139_1 (z : Int) (w : World) : (Instr.buildSlice 139 1 [(0, .int .u64 z)].toArray).run Try.prog w = .ok (.slice (some ⟨w.heap.size, 0, none⟩) 1 1) (w.alloc (.cells [.int .u64 z].toArray 58)) := by kernel_rfl
theorem info58 : (Try.prog.info? 58).map (fun i => (i.size, i.bytes, i.zero)) = some (1, 8, some (.int .u64 0)) := by kernel_rfl
theorem own_qs {v : Value} {xs : List Nat} {m : Mem} (h : Own v 1 (qs xs) m) : ∃ ad cap, v = .slice ad xs.length cap ∧ (xs = [] ∨ ∃ b sp, ad = some ⟨b, 0, none⟩ ∧ m = [⟨true, b, 0, qs xs ++ sp⟩]) := by
  rcases h with ⟨rfl, he, rfl⟩ | ⟨b, n, c, sp, rfl, rfl, hl, hc⟩
  · have := qs_length xs
    rw [he] at this
    have h0 : xs = [] := List.eq_nil_of_length_eq_zero this.symm
    subst h0
    exact ⟨none, 0, rfl, .inl rfl⟩
  · rw [qs_length, Nat.mul_one] at hl
    subst hl
    exact ⟨_, c, rfl, .inr ⟨b, sp, rfl, rfl⟩⟩

theorem get_le (l : List Nat) (m i : Nat) (h : ∀ x ∈ l, x ≤ m) : l.getD i 0 ≤ m := by
  by_cases hi : i < l.length
  · rw [show l.getD i 0 = l[i] by simp [hi]]; exact h _ (List.getElem_mem _)
  · simp [show l.length ≤ i by omega]
theorem pre_succ (l : List Nat) (i : Nat) (h : i < l.length) : pre l (i + 1) = pre l i + l.getD i 0 := by
  unfold pre
  rw [List.take_succ_eq_append_getElem h, List.sum_append]
  simp [h]
theorem pre_le (l : List Nat) (m : Nat) (h : ∀ x ∈ l, x ≤ m) : ∀ i, pre l i ≤ i * m
  | 0 => by simp [pre]
  | i + 1 => by
    have h1 := pre_le l m h i
    by_cases hi : i < l.length
    · rw [pre_succ l i hi, Nat.succ_mul]
      have := get_le l m i h
      omega
    · have h2 : pre l (i + 1) = pre l i := by
        unfold pre
        rw [List.take_of_length_le (by omega), List.take_of_length_le (by omega)]
      rw [h2, Nat.succ_mul]
      omega
theorem pre_all (l : List Nat) {i j : Nat} (h : l.length ≤ i) (h2 : l.length ≤ j) : pre l i = pre l j := by
  unfold pre
  rw [List.take_of_length_le h, List.take_of_length_le h2]

theorem row_of {xs : List Nat} {ad : Option Addr} {mr : Mem} (h : xs = [] ∨ ∃ b sp, ad = some ⟨b, 0, none⟩ ∧ mr = [⟨true, b, 0, qs xs ++ sp⟩]) (h0 : 0 < xs.length) (m M : Mem) :
    ∃ b sp, ad = some ⟨b, 0, none⟩ ∧ (⟨true, b, 0, qs xs ++ sp⟩ : Sg) ∈ m ++ (mr ++ M) := by
  rcases h with h | ⟨b, rs, h1, h2⟩
  · rw [h] at h0; simp at h0
  · exact ⟨b, rs, h1, by rw [h2]; simp⟩

set_option maxHeartbeats 4000000 in
theorem least_c (C : List Nat) (L cb cap : Nat) (own : Bool) (sp : List Value) (M : Mem) (hm : (⟨own, cb, 0, ints .u32 (C.map Nat.cast) ++ sp⟩ : Sg) ∈ M) (hc : ∀ x ∈ C, x ≤ 16777215) (hn2 : 1 ≤ C.length) (h60 : C.length ≤ 60) (hL : L ≤ 20) :
    HC Try.prog 33 #[.slice (some ⟨cb, 0, none⟩) C.length cap, .int .u64 L] M (fun v M' => v = .int .u64 (pre (rws C L) (2 * C.length - 2) : Nat) ∧ Rk M' M) := by
  obtain ⟨I, hI, hI1, hI2, hI3⟩ := of_info info58
  refine HC_of_W (fn := Try.f33) Try.func33 rfl rfl rfl rfl ?_
  repeat' (first | (refine isO ?_; first | refine oo (Pc rfl) ?_ | refine oo (Pa rfl (by omega) (by omega)) ?_ | (refine ob rfl ?_ ?_ <;> intro hq <;> try (exfalso; omega)) | refine oo (Pi rfl (by omega)) ?_ | refine oo (Pl rfl) ?_ | refine oo (Px rfl rfl) ?_ | refine oo (Pj rfl (by omega) (by omega)) ?_ | refine oo (Pk rfl (by omega) (by omega)) ?_ | refine oo (Pf rfl) ?_ | refine oo (Pv rfl (by omega) (by omega)) ?_ | refine oo (Pn rfl) ?_ | refine oo (Pm rfl) ?_ | refine os rfl rfl ?_ | refine ot rfl (by omega) ?_ | refine O_nil ?_) | refine wo rfl ?_ | refine wc rfl ?_ | refine wg rfl ?_ | refine go rfl ?_ | refine gc rfl ?_ | refine gg rfl ?_)
  have hrows : ∀ k, k ≤ 20 → ∀ x ∈ rws C k, x ≤ 2 ^ 44 := fun k hk x hx => by
    have h1 := rws_mem C 16777215 hc k x hx
    have h2 : 2 ^ k ≤ 2 ^ 20 := Nat.pow_le_pow_right (by omega) hk
    have h3 : 2 ^ k * 16777215 ≤ 2 ^ 20 * 16777215 := Nat.mul_le_mul_right _ h2
    omega
  have hgC : ∀ i, i < C.length → (ints .u32 (C.map Nat.cast) ++ sp)[i]? = some (.int .u32 (C.getD i 0 : Nat)) := fun i hi => by
    rw [List.getElem?_append_left (by rw [ints_length, List.length_map]; exact hi)]
    simp [ints, hi]
  refine W_loop (α := Nat × Value × Mem) (fun x => [(0, .slice (some ⟨cb, 0, none⟩) C.length cap), (1, .int .u64 L), (5, x.2.1), (6, .int .u64 x.1)]) (fun x => x.2.2 ++ M) (fun x => x.1 ≤ L ∧ Own x.2.1 1 (qs (rws C x.1)) x.2.2) (fun x => L - x.1)
    (0, .slice none 0 0, []) ⟨by omega, .inl ⟨rfl, by simp [rws, qs, ints], rfl⟩⟩ ⟨rfl, rfl, rfl, rfl, trivial⟩ .rfl ?_
  rintro ⟨k, rv, mr⟩ ⟨hk, hrv⟩
  dsimp only at hk hrv ⊢
  have hrow := hrows k (by omega)
  have hrl := rws_length C k
  obtain ⟨ad, rc, e, hrr⟩ := own_qs hrv
  subst e
  repeat' (first | (refine isO ?_; first | refine oo (Pc rfl) ?_ | refine oo (Pa rfl (by omega) (by omega)) ?_ | (refine ob rfl ?_ ?_ <;> intro hq <;> try (exfalso; omega)) | refine oo (Pi rfl (by omega)) ?_ | refine oo (Pl rfl) ?_ | refine oo (Px rfl rfl) ?_ | refine oo (Pj rfl (by omega) (by omega)) ?_ | refine oo (Pk rfl (by omega) (by omega)) ?_ | refine oo (Pf rfl) ?_ | refine oo (Pv rfl (by omega) (by omega)) ?_ | refine oo (Pn rfl) ?_ | refine oo (Pm rfl) ?_ | refine os rfl rfl ?_ | refine ot rfl (by omega) ?_ | refine O_nil ?_) | refine wo rfl ?_ | refine wc rfl ?_ | refine wg rfl ?_ | refine go rfl ?_ | refine gc rfl ?_ | refine gg rfl ?_)
  · have hTl : (rws C (k + 1)).length ≤ 120 := by have := rws_length C (k + 1); omega
    refine W_loop (α := Nat × Nat × List Nat × Value × Mem) (fun x => [(0, .slice (some ⟨cb, 0, none⟩) C.length cap), (1, .int .u64 L), (5, .slice ad (rws C k).length rc), (6, .int .u64 k), (7, x.2.2.2.1), (8, .int .i64 x.2.1), (9, .int .i64 x.1)]) (fun x => x.2.2.2.2 ++ (mr ++ M))
      (fun x => x.1 ≤ C.length ∧ x.2.1 ≤ (rws C k).length ∧ Own x.2.2.2.1 1 (qs x.2.2.1) x.2.2.2.2 ∧ x.2.2.1 ++ mg (C.drop x.1) (pk ((rws C k).drop x.2.1)) = rws C (k + 1)) (fun x => C.length - x.1)
      (0, 0, [], .slice none 0 0, []) ⟨by omega, by dsimp only; omega, .inl ⟨rfl, by simp [qs, ints], rfl⟩, by simp [rws]⟩ ⟨rfl, rfl, rfl, rfl, rfl, rfl, rfl, trivial⟩ .rfl ?_
    rintro ⟨i, a, nx, nv, m⟩ ⟨hi, ha, hown, hT⟩
    dsimp only at hi ha hown hT ⊢
    repeat' (first | (refine isO ?_; first | refine oo (Pc rfl) ?_ | refine oo (Pa rfl (by omega) (by omega)) ?_ | (refine ob rfl ?_ ?_ <;> intro hq <;> try (exfalso; omega)) | refine oo (Pi rfl (by omega)) ?_ | refine oo (Pl rfl) ?_ | refine oo (Px rfl rfl) ?_ | refine oo (Pj rfl (by omega) (by omega)) ?_ | refine oo (Pk rfl (by omega) (by omega)) ?_ | refine oo (Pf rfl) ?_ | refine oo (Pv rfl (by omega) (by omega)) ?_ | refine oo (Pn rfl) ?_ | refine oo (Pm rfl) ?_ | refine os rfl rfl ?_ | refine ot rfl (by omega) ?_ | refine O_nil ?_) | refine wo rfl ?_ | refine wc rfl ?_ | refine wg rfl ?_ | refine go rfl ?_ | refine gc rfl ?_ | refine gg rfl ?_)
    · have hil : i < C.length := by omega
      have hci := get_le C 16777215 i hc
      have hgi := hgC i hil
      refine W_loop (α := Nat × List Nat × Value × Mem) (fun x => [(0, .slice (some ⟨cb, 0, none⟩) C.length cap), (1, .int .u64 L), (5, .slice ad (rws C k).length rc), (6, .int .u64 k), (7, x.2.2.1), (8, .int .i64 x.1), (9, .int .i64 i)]) (fun x => x.2.2.2 ++ (mr ++ M))
        (fun x => x.1 ≤ (rws C k).length ∧ Own x.2.2.1 1 (qs x.2.1) x.2.2.2 ∧ x.2.1 ++ mg (C.drop i) (pk ((rws C k).drop x.1)) = rws C (k + 1)) (fun x => (rws C k).length - x.1)
        (a, nx, nv, m) ⟨ha, hown, hT⟩ ⟨rfl, rfl, rfl, rfl, rfl, rfl, rfl, trivial⟩ .rfl ?_
      clear ha hown hT
      clear a nx nv m
      rintro ⟨a, nx, nv, m⟩ ⟨ha, hown, hT⟩
      dsimp only at ha hown hT ⊢
      have hnl : nx.length ≤ 120 := by have := congrArg List.length hT; rw [List.length_append] at this; omega
      repeat' (first | (refine isO ?_; first | refine oo (Pc rfl) ?_ | refine oo (Pa rfl (by omega) (by omega)) ?_ | (refine ob rfl ?_ ?_ <;> intro hq <;> try (exfalso; omega)) | refine oo (Pi rfl (by omega)) ?_ | refine oo (Pl rfl) ?_ | refine oo (Px rfl rfl) ?_ | refine oo (Pj rfl (by omega) (by omega)) ?_ | refine oo (Pk rfl (by omega) (by omega)) ?_ | refine oo (Pf rfl) ?_ | refine oo (Pv rfl (by omega) (by omega)) ?_ | refine oo (Pn rfl) ?_ | refine oo (Pm rfl) ?_ | refine os rfl rfl ?_ | refine ot rfl (by omega) ?_ | refine O_nil ?_) | refine wo rfl ?_ | refine wc rfl ?_ | refine wg rfl ?_ | refine go rfl ?_ | refine gc rfl ?_ | refine gg rfl ?_)
      refine W_region_still Tb.mixed (by kernel_rfl) ?_
      repeat' (first | (refine isS ?_; first | refine ss (Pc rfl) ?_ | refine ss (Pa rfl (by omega) (by omega)) ?_ | (refine sb rfl ?_ ?_ <;> intro hq <;> try (exfalso; omega)) | refine ss (Pi rfl (by omega)) ?_ | refine ss (Pl rfl) ?_ | refine ss (Px rfl rfl) ?_ | refine ss (Pj rfl (by omega) (by omega)) ?_ | refine ss (Pk rfl (by omega) (by omega)) ?_ | refine ss (Pf rfl) ?_ | refine ss (Pv rfl (by omega) (by omega)) ?_ | refine ss (Pn rfl) ?_ | refine ss (Pm rfl) ?_ | refine OS_nil ?_))
      · (have hr1 := get_le (rws C k) (2 ^ 44) a hrow; have hr2 := get_le (rws C k) (2 ^ 44) (a + 1) hrow; obtain ⟨b, rs, rfl, hmr⟩ := row_of hrr (by omega) m M; have hg1 := qs_get (rws C k) rs a (by omega); have hg2 := qs_get (rws C k) rs (a + 1) (by omega); )
        repeat' (first | (refine isS ?_; first | refine ss (Pc rfl) ?_ | refine ss (Pa rfl (by omega) (by omega)) ?_ | (refine sb rfl ?_ ?_ <;> intro hq <;> try (exfalso; omega)) | refine ss (Pi rfl (by omega)) ?_ | refine ss (Pl rfl) ?_ | refine ss (Px rfl rfl) ?_ | refine ss (Pj rfl (by omega) (by omega)) ?_ | refine ss (Pk rfl (by omega) (by omega)) ?_ | refine ss (Pf rfl) ?_ | refine ss (Pv rfl (by omega) (by omega)) ?_ | refine ss (Pn rfl) ?_ | refine ss (Pm rfl) ?_ | refine OS_nil ?_))
        (refine OS_pure (P_loadAt (o := 0) (n := a) Tb.p58 rfl (by omega) hmr hg1) (by first | exact trivial | exact ⟨_, rfl, rfl⟩) rfl ?_; (repeat' (first | (refine isS ?_; first | refine ss (Pc rfl) ?_ | refine ss (Pa rfl (by omega) (by omega)) ?_ | (refine sb rfl ?_ ?_ <;> intro hq <;> try (exfalso; omega)) | refine ss (Pi rfl (by omega)) ?_ | refine ss (Pl rfl) ?_ | refine ss (Px rfl rfl) ?_ | refine ss (Pj rfl (by omega) (by omega)) ?_ | refine ss (Pk rfl (by omega) (by omega)) ?_ | refine ss (Pf rfl) ?_ | refine ss (Pv rfl (by omega) (by omega)) ?_ | refine ss (Pn rfl) ?_ | refine ss (Pm rfl) ?_ | refine OS_nil ?_))); refine OS_pure (P_loadAt (o := 0) (n := a + 1) Tb.p58 rfl (by omega) hmr hg2) (by first | exact trivial | exact ⟨_, rfl, rfl⟩) rfl ?_; (repeat' (first | (refine isS ?_; first | refine ss (Pc rfl) ?_ | refine ss (Pa rfl (by omega) (by omega)) ?_ | (refine sb rfl ?_ ?_ <;> intro hq <;> try (exfalso; omega)) | refine ss (Pi rfl (by omega)) ?_ | refine ss (Pl rfl) ?_ | refine ss (Px rfl rfl) ?_ | refine ss (Pj rfl (by omega) (by omega)) ?_ | refine ss (Pk rfl (by omega) (by omega)) ?_ | refine ss (Pf rfl) ?_ | refine ss (Pv rfl (by omega) (by omega)) ?_ | refine ss (Pn rfl) ?_ | refine ss (Pm rfl) ?_ | refine OS_nil ?_)));)
        refine OS_pure (P_loadAt (o := 0) (n := i) Tb.p40 rfl (by omega) (List.mem_append_right _ (List.mem_append_right _ hm)) hgi) (by first | exact trivial | exact ⟨_, rfl, rfl⟩) rfl ?_
        repeat' (first | (refine isS ?_; first | refine ss (Pc rfl) ?_ | refine ss (Pa rfl (by omega) (by omega)) ?_ | (refine sb rfl ?_ ?_ <;> intro hq <;> try (exfalso; omega)) | refine ss (Pi rfl (by omega)) ?_ | refine ss (Pl rfl) ?_ | refine ss (Px rfl rfl) ?_ | refine ss (Pj rfl (by omega) (by omega)) ?_ | refine ss (Pk rfl (by omega) (by omega)) ?_ | refine ss (Pf rfl) ?_ | refine ss (Pv rfl (by omega) (by omega)) ?_ | refine ss (Pn rfl) ?_ | refine ss (Pm rfl) ?_ | refine OS_nil ?_))
        · repeat' (first | (refine isO ?_; first | refine oo (Pc rfl) ?_ | refine oo (Pa rfl (by omega) (by omega)) ?_ | (refine ob rfl ?_ ?_ <;> intro hq <;> try (exfalso; omega)) | refine oo (Pi rfl (by omega)) ?_ | refine oo (Pl rfl) ?_ | refine oo (Px rfl rfl) ?_ | refine oo (Pj rfl (by omega) (by omega)) ?_ | refine oo (Pk rfl (by omega) (by omega)) ?_ | refine oo (Pf rfl) ?_ | refine oo (Pv rfl (by omega) (by omega)) ?_ | refine oo (Pn rfl) ?_ | refine oo (Pm rfl) ?_ | refine os rfl rfl ?_ | refine ot rfl (by omega) ?_ | refine O_nil ?_) | refine wo rfl ?_ | refine wc rfl ?_ | refine wg rfl ?_ | refine go rfl ?_ | refine gc rfl ?_ | refine gg rfl ?_)
          refine W_region_callt 12 11 57 (fun v M' => ∃ b', v = .slice (some ⟨b', 0, none⟩) 1 1 ∧ M' = ⟨true, b', 0, [.int .u64 (((rws C k).getD a 0 : Nat) + ((rws C k).getD (a + 1) 0 : Nat))]⟩ :: (m ++ (mr ++ M))) (by decide) (by decide) Tb.mixed
            [[], [], [], [1, 2], [3], [], [], [6], [5, 7], [8], [4, 9], [10], [0, 11], [12]] (by kernel_rfl) (by kernel_rfl) (by kernel_rfl) (by kernel_rfl) (by kernel_rfl) ?_ ?_
          · rintro v M' ⟨b', _, rfl⟩
            exact .drop .rfl
          simp only [List.take_succ_cons, List.take_zero, List.drop_succ_cons, List.drop_zero]
          refine QD_start ?_
          repeat' (first | (refine isQD ?_; first | refine dd rfl (Pc rfl) ?_ | refine dd rfl (Pa rfl (by omega) (by omega)) ?_ | (refine db rfl rfl ?_ ?_ <;> intro hq <;> try (exfalso; omega)) | refine dd rfl (Pi rfl (by omega)) ?_ | refine dd rfl (Pl rfl) ?_ | refine dd rfl (Px rfl rfl) ?_  | refine dd rfl (Pj rfl (by omega) (by omega)) ?_ | refine dd rfl (Pk rfl (by omega) (by omega)) ?_ | refine dd rfl (Pf rfl) ?_ | refine dd rfl (Pv rfl (by omega) (by omega)) ?_ | refine dd rfl (Pn rfl) ?_ | refine dd rfl (Pm rfl) ?_ | (refine QD_nil ⟨rfl, ?_⟩; simp only [List.reverse_cons, List.reverse_nil, List.nil_append, List.cons_append, somes])))
          refine dpure rfl (P_loadAt (o := 0) (n := a) Tb.p58 rfl (by omega) hmr hg1) trivial rfl ?_
          repeat' (first | (refine isQD ?_; first | refine dd rfl (Pc rfl) ?_ | refine dd rfl (Pa rfl (by omega) (by omega)) ?_ | (refine db rfl rfl ?_ ?_ <;> intro hq <;> try (exfalso; omega)) | refine dd rfl (Pi rfl (by omega)) ?_ | refine dd rfl (Pl rfl) ?_ | refine dd rfl (Px rfl rfl) ?_  | refine dd rfl (Pj rfl (by omega) (by omega)) ?_ | refine dd rfl (Pk rfl (by omega) (by omega)) ?_ | refine dd rfl (Pf rfl) ?_ | refine dd rfl (Pv rfl (by omega) (by omega)) ?_ | refine dd rfl (Pn rfl) ?_ | refine dd rfl (Pm rfl) ?_ | (refine QD_nil ⟨rfl, ?_⟩; simp only [List.reverse_cons, List.reverse_nil, List.nil_append, List.cons_append, somes])))
          refine dpure rfl (P_loadAt (o := 0) (n := a + 1) Tb.p58 rfl (by omega) hmr hg2) trivial rfl ?_
          repeat' (first | (refine isQD ?_; first | refine dd rfl (Pc rfl) ?_ | refine dd rfl (Pa rfl (by omega) (by omega)) ?_ | (refine db rfl rfl ?_ ?_ <;> intro hq <;> try (exfalso; omega)) | refine dd rfl (Pi rfl (by omega)) ?_ | refine dd rfl (Pl rfl) ?_ | refine dd rfl (Px rfl rfl) ?_  | refine dd rfl (Pj rfl (by omega) (by omega)) ?_ | refine dd rfl (Pk rfl (by omega) (by omega)) ?_ | refine dd rfl (Pf rfl) ?_ | refine dd rfl (Pv rfl (by omega) (by omega)) ?_ | refine dd rfl (Pn rfl) ?_ | refine dd rfl (Pm rfl) ?_ | (refine QD_nil ⟨rfl, ?_⟩; simp only [List.reverse_cons, List.reverse_nil, List.nil_append, List.cons_append, somes])))
          refine dbuild rfl rfl (row139_1 _) trivial rfl ?_
          repeat' (first | (refine isQD ?_; first | refine dd rfl (Pc rfl) ?_ | refine dd rfl (Pa rfl (by omega) (by omega)) ?_ | (refine db rfl rfl ?_ ?_ <;> intro hq <;> try (exfalso; omega)) | refine dd rfl (Pi rfl (by omega)) ?_ | refine dd rfl (Pl rfl) ?_ | refine dd rfl (Px rfl rfl) ?_  | refine dd rfl (Pj rfl (by omega) (by omega)) ?_ | refine dd rfl (Pk rfl (by omega) (by omega)) ?_ | refine dd rfl (Pf rfl) ?_ | refine dd rfl (Pv rfl (by omega) (by omega)) ?_ | refine dd rfl (Pn rfl) ?_ | refine dd rfl (Pm rfl) ?_ | (refine QD_nil ⟨rfl, ?_⟩; simp only [List.reverse_cons, List.reverse_nil, List.nil_append, List.cons_append, somes])))
          rintro v1 M' ⟨by1, rfl, rfl⟩
          rw [← Int.natCast_add]
          (refine O_append (m := m) (M0 := ⟨true, by1, 0, [.int .u64 _]⟩ :: (mr ++ M)) Tb.u139 Tb.u139 hI hI1 (by decide) (by omega) hI3 rfl rfl rfl hown (.perm List.perm_middle.symm) (len := nx.length) (by rw [qs_length]; omega) (.head _) (Nat.le_refl 1) (by intro v hv; rw [List.mem_singleton] at hv; subst hv; rfl) (.inl (by omega)) (by rw [hI2]; omega) trivial rfl fun b2 c2 s2 h2 => ?_)
          rw [qs_snoc] at h2 ⊢
          repeat' (first | (refine isO ?_; first | refine oo (Pc rfl) ?_ | refine oo (Pa rfl (by omega) (by omega)) ?_ | (refine ob rfl ?_ ?_ <;> intro hq <;> try (exfalso; omega)) | refine oo (Pi rfl (by omega)) ?_ | refine oo (Pl rfl) ?_ | refine oo (Px rfl rfl) ?_ | refine oo (Pj rfl (by omega) (by omega)) ?_ | refine oo (Pk rfl (by omega) (by omega)) ?_ | refine oo (Pf rfl) ?_ | refine oo (Pv rfl (by omega) (by omega)) ?_ | refine oo (Pn rfl) ?_ | refine oo (Pm rfl) ?_ | refine os rfl rfl ?_ | refine ot rfl (by omega) ?_ | refine O_nil ?_) | refine wo rfl ?_ | refine wc rfl ?_ | refine wg rfl ?_ | refine go rfl ?_ | refine gc rfl ?_ | refine gg rfl ?_)
          exact G_stop ⟨(a + 2, nx ++ [(rws C k).getD a 0 + (rws C k).getD (a + 1) 0], .slice (some ⟨b2, 0, none⟩) (nx.length + 1) c2, [⟨true, b2, 0, qs (nx ++ [(rws C k).getD a 0 + (rws C k).getD (a + 1) 0]) ++ s2⟩]), ⟨by dsimp only; omega, .inr ⟨b2, nx.length + 1, c2, s2, rfl, rfl, by rw [qs_length, List.length_append]; simp, h2⟩, by rw [mg_pack hil (by omega) (by omega)] at hT; simpa using hT⟩, by dsimp only; omega, ⟨rfl, rfl, rfl, rfl, rfl, rfl, rfl, trivial⟩, .cons .head (.drop .rfl)⟩
        · ((repeat' (first | (refine isO ?_; first | refine oo (Pc rfl) ?_ | refine oo (Pa rfl (by omega) (by omega)) ?_ | (refine ob rfl ?_ ?_ <;> intro hq <;> try (exfalso; omega)) | refine oo (Pi rfl (by omega)) ?_ | refine oo (Pl rfl) ?_ | refine oo (Px rfl rfl) ?_ | refine oo (Pj rfl (by omega) (by omega)) ?_ | refine oo (Pk rfl (by omega) (by omega)) ?_ | refine oo (Pf rfl) ?_ | refine oo (Pv rfl (by omega) (by omega)) ?_ | refine oo (Pn rfl) ?_ | refine oo (Pm rfl) ?_ | refine os rfl rfl ?_ | refine ot rfl (by omega) ?_ | refine O_nil ?_) | refine wo rfl ?_ | refine wc rfl ?_ | refine wg rfl ?_ | refine go rfl ?_ | refine gc rfl ?_ | refine gg rfl ?_)); refine O_pure (P_loadAt (o := 0) (n := i) Tb.p40 rfl (by omega) (List.mem_append_right _ (List.mem_append_right _ hm)) hgi) trivial rfl ?_; (repeat' (first | (refine isO ?_; first | refine oo (Pc rfl) ?_ | refine oo (Pa rfl (by omega) (by omega)) ?_ | (refine ob rfl ?_ ?_ <;> intro hq <;> try (exfalso; omega)) | refine oo (Pi rfl (by omega)) ?_ | refine oo (Pl rfl) ?_ | refine oo (Px rfl rfl) ?_ | refine oo (Pj rfl (by omega) (by omega)) ?_ | refine oo (Pk rfl (by omega) (by omega)) ?_ | refine oo (Pf rfl) ?_ | refine oo (Pv rfl (by omega) (by omega)) ?_ | refine oo (Pn rfl) ?_ | refine oo (Pm rfl) ?_ | refine os rfl rfl ?_ | refine ot rfl (by omega) ?_ | refine O_nil ?_) | refine wo rfl ?_ | refine wc rfl ?_ | refine wg rfl ?_ | refine go rfl ?_ | refine gc rfl ?_ | refine gg rfl ?_)); refine O_buildSlice rfl (row139_1 _) trivial rfl fun by1 => ?_; ((refine O_append (m := m) (M0 := ⟨true, by1, 0, [.int .u64 _]⟩ :: (mr ++ M)) Tb.u139 Tb.u139 hI hI1 (by decide) (by omega) hI3 rfl rfl rfl hown (.perm List.perm_middle.symm) (len := nx.length) (by rw [qs_length]; omega) (.head _) (Nat.le_refl 1) (by intro v hv; rw [List.mem_singleton] at hv; subst hv; rfl) (.inl (by omega)) (by rw [hI2]; omega) trivial rfl fun b2 c2 s2 h2 => ?_)); rw [qs_snoc] at h2 ⊢; (repeat' (first | (refine isO ?_; first | refine oo (Pc rfl) ?_ | refine oo (Pa rfl (by omega) (by omega)) ?_ | (refine ob rfl ?_ ?_ <;> intro hq <;> try (exfalso; omega)) | refine oo (Pi rfl (by omega)) ?_ | refine oo (Pl rfl) ?_ | refine oo (Px rfl rfl) ?_ | refine oo (Pj rfl (by omega) (by omega)) ?_ | refine oo (Pk rfl (by omega) (by omega)) ?_ | refine oo (Pf rfl) ?_ | refine oo (Pv rfl (by omega) (by omega)) ?_ | refine oo (Pn rfl) ?_ | refine oo (Pm rfl) ?_ | refine os rfl rfl ?_ | refine ot rfl (by omega) ?_ | refine O_nil ?_) | refine wo rfl ?_ | refine wc rfl ?_ | refine wg rfl ?_ | refine go rfl ?_ | refine gc rfl ?_ | refine gg rfl ?_)); exact G_stop ⟨(i + 1, a, nx ++ [C.getD i 0], .slice (some ⟨b2, 0, none⟩) (nx.length + 1) c2, [⟨true, b2, 0, qs (nx ++ [C.getD i 0]) ++ s2⟩]), ⟨by dsimp only; omega, ha, .inr ⟨b2, nx.length + 1, c2, s2, rfl, rfl, by rw [qs_length, List.length_append]; simp, h2⟩, by rw [mg_one hil (by omega)] at hT; simpa using hT⟩, by dsimp only; omega, ⟨rfl, rfl, rfl, rfl, rfl, rfl, rfl, trivial⟩, .cons .head (.drop .rfl)⟩)
      · ((repeat' (first | (refine isO ?_; first | refine oo (Pc rfl) ?_ | refine oo (Pa rfl (by omega) (by omega)) ?_ | (refine ob rfl ?_ ?_ <;> intro hq <;> try (exfalso; omega)) | refine oo (Pi rfl (by omega)) ?_ | refine oo (Pl rfl) ?_ | refine oo (Px rfl rfl) ?_ | refine oo (Pj rfl (by omega) (by omega)) ?_ | refine oo (Pk rfl (by omega) (by omega)) ?_ | refine oo (Pf rfl) ?_ | refine oo (Pv rfl (by omega) (by omega)) ?_ | refine oo (Pn rfl) ?_ | refine oo (Pm rfl) ?_ | refine os rfl rfl ?_ | refine ot rfl (by omega) ?_ | refine O_nil ?_) | refine wo rfl ?_ | refine wc rfl ?_ | refine wg rfl ?_ | refine go rfl ?_ | refine gc rfl ?_ | refine gg rfl ?_)); refine O_pure (P_loadAt (o := 0) (n := i) Tb.p40 rfl (by omega) (List.mem_append_right _ (List.mem_append_right _ hm)) hgi) trivial rfl ?_; (repeat' (first | (refine isO ?_; first | refine oo (Pc rfl) ?_ | refine oo (Pa rfl (by omega) (by omega)) ?_ | (refine ob rfl ?_ ?_ <;> intro hq <;> try (exfalso; omega)) | refine oo (Pi rfl (by omega)) ?_ | refine oo (Pl rfl) ?_ | refine oo (Px rfl rfl) ?_ | refine oo (Pj rfl (by omega) (by omega)) ?_ | refine oo (Pk rfl (by omega) (by omega)) ?_ | refine oo (Pf rfl) ?_ | refine oo (Pv rfl (by omega) (by omega)) ?_ | refine oo (Pn rfl) ?_ | refine oo (Pm rfl) ?_ | refine os rfl rfl ?_ | refine ot rfl (by omega) ?_ | refine O_nil ?_) | refine wo rfl ?_ | refine wc rfl ?_ | refine wg rfl ?_ | refine go rfl ?_ | refine gc rfl ?_ | refine gg rfl ?_)); refine O_buildSlice rfl (row139_1 _) trivial rfl fun by1 => ?_; ((refine O_append (m := m) (M0 := ⟨true, by1, 0, [.int .u64 _]⟩ :: (mr ++ M)) Tb.u139 Tb.u139 hI hI1 (by decide) (by omega) hI3 rfl rfl rfl hown (.perm List.perm_middle.symm) (len := nx.length) (by rw [qs_length]; omega) (.head _) (Nat.le_refl 1) (by intro v hv; rw [List.mem_singleton] at hv; subst hv; rfl) (.inl (by omega)) (by rw [hI2]; omega) trivial rfl fun b2 c2 s2 h2 => ?_)); rw [qs_snoc] at h2 ⊢; (repeat' (first | (refine isO ?_; first | refine oo (Pc rfl) ?_ | refine oo (Pa rfl (by omega) (by omega)) ?_ | (refine ob rfl ?_ ?_ <;> intro hq <;> try (exfalso; omega)) | refine oo (Pi rfl (by omega)) ?_ | refine oo (Pl rfl) ?_ | refine oo (Px rfl rfl) ?_ | refine oo (Pj rfl (by omega) (by omega)) ?_ | refine oo (Pk rfl (by omega) (by omega)) ?_ | refine oo (Pf rfl) ?_ | refine oo (Pv rfl (by omega) (by omega)) ?_ | refine oo (Pn rfl) ?_ | refine oo (Pm rfl) ?_ | refine os rfl rfl ?_ | refine ot rfl (by omega) ?_ | refine O_nil ?_) | refine wo rfl ?_ | refine wc rfl ?_ | refine wg rfl ?_ | refine go rfl ?_ | refine gc rfl ?_ | refine gg rfl ?_)); exact G_stop ⟨(i + 1, a, nx ++ [C.getD i 0], .slice (some ⟨b2, 0, none⟩) (nx.length + 1) c2, [⟨true, b2, 0, qs (nx ++ [C.getD i 0]) ++ s2⟩]), ⟨by dsimp only; omega, ha, .inr ⟨b2, nx.length + 1, c2, s2, rfl, rfl, by rw [qs_length, List.length_append]; simp, h2⟩, by rw [mg_one hil (by omega)] at hT; simpa using hT⟩, by dsimp only; omega, ⟨rfl, rfl, rfl, rfl, rfl, rfl, rfl, trivial⟩, .cons .head (.drop .rfl)⟩)
    · obtain rfl : i = C.length := by omega
      refine W_loop (α := Nat × List Nat × Value × Mem) (fun x => [(0, .slice (some ⟨cb, 0, none⟩) C.length cap), (1, .int .u64 L), (5, .slice ad (rws C k).length rc), (6, .int .u64 k), (7, x.2.2.1), (8, .int .i64 x.1)]) (fun x => x.2.2.2 ++ (mr ++ M))
        (fun x => x.1 ≤ (rws C k).length ∧ Own x.2.2.1 1 (qs x.2.1) x.2.2.2 ∧ x.2.1 ++ mg (C.drop C.length) (pk ((rws C k).drop x.1)) = rws C (k + 1)) (fun x => (rws C k).length - x.1)
        (a, nx, nv, m) ⟨ha, hown, hT⟩ ⟨rfl, rfl, rfl, rfl, rfl, rfl, trivial⟩ .rfl ?_
      clear ha hown hT hi
      clear a nx nv m
      rintro ⟨a, nx, nv, m⟩ ⟨ha, hown, hT⟩
      dsimp only at ha hown hT ⊢
      have hnl : nx.length ≤ 120 := by have := congrArg List.length hT; rw [List.length_append] at this; omega
      repeat' (first | (refine isO ?_; first | refine oo (Pc rfl) ?_ | refine oo (Pa rfl (by omega) (by omega)) ?_ | (refine ob rfl ?_ ?_ <;> intro hq <;> try (exfalso; omega)) | refine oo (Pi rfl (by omega)) ?_ | refine oo (Pl rfl) ?_ | refine oo (Px rfl rfl) ?_ | refine oo (Pj rfl (by omega) (by omega)) ?_ | refine oo (Pk rfl (by omega) (by omega)) ?_ | refine oo (Pf rfl) ?_ | refine oo (Pv rfl (by omega) (by omega)) ?_ | refine oo (Pn rfl) ?_ | refine oo (Pm rfl) ?_ | refine os rfl rfl ?_ | refine ot rfl (by omega) ?_ | refine O_nil ?_) | refine wo rfl ?_ | refine wc rfl ?_ | refine wg rfl ?_ | refine go rfl ?_ | refine gc rfl ?_ | refine gg rfl ?_)
      · (have hr1 := get_le (rws C k) (2 ^ 44) a hrow; have hr2 := get_le (rws C k) (2 ^ 44) (a + 1) hrow; obtain ⟨b, rs, rfl, hmr⟩ := row_of hrr (by omega) m M; have hg1 := qs_get (rws C k) rs a (by omega); have hg2 := qs_get (rws C k) rs (a + 1) (by omega); )
        repeat' (first | (refine isO ?_; first | refine oo (Pc rfl) ?_ | refine oo (Pa rfl (by omega) (by omega)) ?_ | (refine ob rfl ?_ ?_ <;> intro hq <;> try (exfalso; omega)) | refine oo (Pi rfl (by omega)) ?_ | refine oo (Pl rfl) ?_ | refine oo (Px rfl rfl) ?_ | refine oo (Pj rfl (by omega) (by omega)) ?_ | refine oo (Pk rfl (by omega) (by omega)) ?_ | refine oo (Pf rfl) ?_ | refine oo (Pv rfl (by omega) (by omega)) ?_ | refine oo (Pn rfl) ?_ | refine oo (Pm rfl) ?_ | refine os rfl rfl ?_ | refine ot rfl (by omega) ?_ | refine O_nil ?_) | refine wo rfl ?_ | refine wc rfl ?_ | refine wg rfl ?_ | refine go rfl ?_ | refine gc rfl ?_ | refine gg rfl ?_)
        refine W_region_callt 12 11 87 (fun v M' => ∃ b', v = .slice (some ⟨b', 0, none⟩) 1 1 ∧ M' = ⟨true, b', 0, [.int .u64 (((rws C k).getD a 0 : Nat) + ((rws C k).getD (a + 1) 0 : Nat))]⟩ :: (m ++ (mr ++ M))) (by decide) (by decide) Tb.mixed
          [[], [], [], [1, 2], [3], [], [], [6], [5, 7], [8], [4, 9], [10], [0, 11], [12]] (by kernel_rfl) (by kernel_rfl) (by kernel_rfl) (by kernel_rfl) (by kernel_rfl) ?_ ?_
        · rintro v M' ⟨b', _, rfl⟩
          exact .drop .rfl
        simp only [List.take_succ_cons, List.take_zero, List.drop_succ_cons, List.drop_zero]
        refine QD_start ?_
        repeat' (first | (refine isQD ?_; first | refine dd rfl (Pc rfl) ?_ | refine dd rfl (Pa rfl (by omega) (by omega)) ?_ | (refine db rfl rfl ?_ ?_ <;> intro hq <;> try (exfalso; omega)) | refine dd rfl (Pi rfl (by omega)) ?_ | refine dd rfl (Pl rfl) ?_ | refine dd rfl (Px rfl rfl) ?_  | refine dd rfl (Pj rfl (by omega) (by omega)) ?_ | refine dd rfl (Pk rfl (by omega) (by omega)) ?_ | refine dd rfl (Pf rfl) ?_ | refine dd rfl (Pv rfl (by omega) (by omega)) ?_ | refine dd rfl (Pn rfl) ?_ | refine dd rfl (Pm rfl) ?_ | (refine QD_nil ⟨rfl, ?_⟩; simp only [List.reverse_cons, List.reverse_nil, List.nil_append, List.cons_append, somes])))
        refine dpure rfl (P_loadAt (o := 0) (n := a) Tb.p58 rfl (by omega) hmr hg1) trivial rfl ?_
        repeat' (first | (refine isQD ?_; first | refine dd rfl (Pc rfl) ?_ | refine dd rfl (Pa rfl (by omega) (by omega)) ?_ | (refine db rfl rfl ?_ ?_ <;> intro hq <;> try (exfalso; omega)) | refine dd rfl (Pi rfl (by omega)) ?_ | refine dd rfl (Pl rfl) ?_ | refine dd rfl (Px rfl rfl) ?_  | refine dd rfl (Pj rfl (by omega) (by omega)) ?_ | refine dd rfl (Pk rfl (by omega) (by omega)) ?_ | refine dd rfl (Pf rfl) ?_ | refine dd rfl (Pv rfl (by omega) (by omega)) ?_ | refine dd rfl (Pn rfl) ?_ | refine dd rfl (Pm rfl) ?_ | (refine QD_nil ⟨rfl, ?_⟩; simp only [List.reverse_cons, List.reverse_nil, List.nil_append, List.cons_append, somes])))
        refine dpure rfl (P_loadAt (o := 0) (n := a + 1) Tb.p58 rfl (by omega) hmr hg2) trivial rfl ?_
        repeat' (first | (refine isQD ?_; first | refine dd rfl (Pc rfl) ?_ | refine dd rfl (Pa rfl (by omega) (by omega)) ?_ | (refine db rfl rfl ?_ ?_ <;> intro hq <;> try (exfalso; omega)) | refine dd rfl (Pi rfl (by omega)) ?_ | refine dd rfl (Pl rfl) ?_ | refine dd rfl (Px rfl rfl) ?_  | refine dd rfl (Pj rfl (by omega) (by omega)) ?_ | refine dd rfl (Pk rfl (by omega) (by omega)) ?_ | refine dd rfl (Pf rfl) ?_ | refine dd rfl (Pv rfl (by omega) (by omega)) ?_ | refine dd rfl (Pn rfl) ?_ | refine dd rfl (Pm rfl) ?_ | (refine QD_nil ⟨rfl, ?_⟩; simp only [List.reverse_cons, List.reverse_nil, List.nil_append, List.cons_append, somes])))
        refine dbuild rfl rfl (row139_1 _) trivial rfl ?_
        repeat' (first | (refine isQD ?_; first | refine dd rfl (Pc rfl) ?_ | refine dd rfl (Pa rfl (by omega) (by omega)) ?_ | (refine db rfl rfl ?_ ?_ <;> intro hq <;> try (exfalso; omega)) | refine dd rfl (Pi rfl (by omega)) ?_ | refine dd rfl (Pl rfl) ?_ | refine dd rfl (Px rfl rfl) ?_  | refine dd rfl (Pj rfl (by omega) (by omega)) ?_ | refine dd rfl (Pk rfl (by omega) (by omega)) ?_ | refine dd rfl (Pf rfl) ?_ | refine dd rfl (Pv rfl (by omega) (by omega)) ?_ | refine dd rfl (Pn rfl) ?_ | refine dd rfl (Pm rfl) ?_ | (refine QD_nil ⟨rfl, ?_⟩; simp only [List.reverse_cons, List.reverse_nil, List.nil_append, List.cons_append, somes])))
        rintro v1 M' ⟨by1, rfl, rfl⟩
        rw [← Int.natCast_add]
        (refine O_append (m := m) (M0 := ⟨true, by1, 0, [.int .u64 _]⟩ :: (mr ++ M)) Tb.u139 Tb.u139 hI hI1 (by decide) (by omega) hI3 rfl rfl rfl hown (.perm List.perm_middle.symm) (len := nx.length) (by rw [qs_length]; omega) (.head _) (Nat.le_refl 1) (by intro v hv; rw [List.mem_singleton] at hv; subst hv; rfl) (.inl (by omega)) (by rw [hI2]; omega) trivial rfl fun b2 c2 s2 h2 => ?_)
        rw [qs_snoc] at h2 ⊢
        repeat' (first | (refine isO ?_; first | refine oo (Pc rfl) ?_ | refine oo (Pa rfl (by omega) (by omega)) ?_ | (refine ob rfl ?_ ?_ <;> intro hq <;> try (exfalso; omega)) | refine oo (Pi rfl (by omega)) ?_ | refine oo (Pl rfl) ?_ | refine oo (Px rfl rfl) ?_ | refine oo (Pj rfl (by omega) (by omega)) ?_ | refine oo (Pk rfl (by omega) (by omega)) ?_ | refine oo (Pf rfl) ?_ | refine oo (Pv rfl (by omega) (by omega)) ?_ | refine oo (Pn rfl) ?_ | refine oo (Pm rfl) ?_ | refine os rfl rfl ?_ | refine ot rfl (by omega) ?_ | refine O_nil ?_) | refine wo rfl ?_ | refine wc rfl ?_ | refine wg rfl ?_ | refine go rfl ?_ | refine gc rfl ?_ | refine gg rfl ?_)
        exact G_stop ⟨(a + 2, nx ++ [(rws C k).getD a 0 + (rws C k).getD (a + 1) 0], .slice (some ⟨b2, 0, none⟩) (nx.length + 1) c2, [⟨true, b2, 0, qs (nx ++ [(rws C k).getD a 0 + (rws C k).getD (a + 1) 0]) ++ s2⟩]), ⟨by dsimp only; omega, .inr ⟨b2, nx.length + 1, c2, s2, rfl, rfl, by rw [qs_length, List.length_append]; simp, h2⟩, by rw [mg_rest (Nat.le_refl _) (by omega)] at hT; simpa using hT⟩, by dsimp only; omega, ⟨rfl, rfl, rfl, rfl, rfl, rfl, trivial⟩, .cons .head (.drop .rfl)⟩
      · rw [mg_end (Nat.le_refl _) (by omega), List.append_nil] at hT
        rw [hT] at hown
        exact G_stop ⟨(k + 1, nv, m), ⟨by dsimp only; omega, hown⟩, by dsimp only; omega, ⟨rfl, rfl, rfl, rfl, trivial⟩, .trans (.perm (List.perm_append_comm_assoc m mr M)) (Rk.right mr _)⟩
  · obtain rfl : k = L := by omega
    refine W_loop (α := Nat) (fun i => [(0, .slice (some ⟨cb, 0, none⟩) C.length cap), (5, .slice ad (rws C k).length rc), (10, .int .u64 (pre (rws C k) i : Nat)), (11, .int .i64 i)]) (fun _ => mr ++ M) (fun i => i ≤ 2 * C.length - 2 ∧ i ≤ (rws C k).length) (fun i => 2 * C.length - 2 - i)
      0 ⟨by omega, by omega⟩ ⟨rfl, rfl, by rw [pre_zero]; rfl, rfl, trivial⟩ .rfl ?_
    rintro i ⟨hi, hi2⟩
    have hple := pre_le (rws C k) (2 ^ 44) hrow i
    have hfin : 2 * C.length - 2 ≤ i ∨ (rws C k).length ≤ i → pre (rws C k) i = pre (rws C k) (2 * C.length - 2) := fun h => by
      by_cases h1 : 2 * C.length - 2 ≤ i
      · rw [show i = 2 * C.length - 2 by omega]
      · exact pre_all _ (by omega) (by omega)
    repeat' (first | (refine isO ?_; first | refine oo (Pc rfl) ?_ | refine oo (Pa rfl (by omega) (by omega)) ?_ | (refine ob rfl ?_ ?_ <;> intro hq <;> try (exfalso; omega)) | refine oo (Pi rfl (by omega)) ?_ | refine oo (Pl rfl) ?_ | refine oo (Px rfl rfl) ?_ | refine oo (Pj rfl (by omega) (by omega)) ?_ | refine oo (Pk rfl (by omega) (by omega)) ?_ | refine oo (Pf rfl) ?_ | refine oo (Pv rfl (by omega) (by omega)) ?_ | refine oo (Pn rfl) ?_ | refine oo (Pm rfl) ?_ | refine os rfl rfl ?_ | refine ot rfl (by omega) ?_ | refine O_nil ?_) | refine wo rfl ?_ | refine wc rfl ?_ | refine wg rfl ?_ | refine go rfl ?_ | refine gc rfl ?_ | refine gg rfl ?_)
    · have hps := pre_succ (rws C k) i (by omega)
      have hr1 := get_le (rws C k) (2 ^ 44) i hrow
      obtain ⟨b, rs, rfl, hmr⟩ := row_of hrr (by omega) [] M
      rw [List.nil_append] at hmr
      have hg1 := qs_get (rws C k) rs i (by omega)
      repeat' (first | (refine isO ?_; first | refine oo (Pc rfl) ?_ | refine oo (Pa rfl (by omega) (by omega)) ?_ | (refine ob rfl ?_ ?_ <;> intro hq <;> try (exfalso; omega)) | refine oo (Pi rfl (by omega)) ?_ | refine oo (Pl rfl) ?_ | refine oo (Px rfl rfl) ?_ | refine oo (Pj rfl (by omega) (by omega)) ?_ | refine oo (Pk rfl (by omega) (by omega)) ?_ | refine oo (Pf rfl) ?_ | refine oo (Pv rfl (by omega) (by omega)) ?_ | refine oo (Pn rfl) ?_ | refine oo (Pm rfl) ?_ | refine os rfl rfl ?_ | refine ot rfl (by omega) ?_ | refine O_nil ?_) | refine wo rfl ?_ | refine wc rfl ?_ | refine wg rfl ?_ | refine go rfl ?_ | refine gc rfl ?_ | refine gg rfl ?_)
      refine O_pure (P_loadAt (o := 0) (n := i) Tb.p58 rfl (by omega) hmr hg1) trivial rfl ?_
      repeat' (first | (refine isO ?_; first | refine oo (Pc rfl) ?_ | refine oo (Pa rfl (by omega) (by omega)) ?_ | (refine ob rfl ?_ ?_ <;> intro hq <;> try (exfalso; omega)) | refine oo (Pi rfl (by omega)) ?_ | refine oo (Pl rfl) ?_ | refine oo (Px rfl rfl) ?_ | refine oo (Pj rfl (by omega) (by omega)) ?_ | refine oo (Pk rfl (by omega) (by omega)) ?_ | refine oo (Pf rfl) ?_ | refine oo (Pv rfl (by omega) (by omega)) ?_ | refine oo (Pn rfl) ?_ | refine oo (Pm rfl) ?_ | refine os rfl rfl ?_ | refine ot rfl (by omega) ?_ | refine O_nil ?_) | refine wo rfl ?_ | refine wc rfl ?_ | refine wg rfl ?_ | refine go rfl ?_ | refine gc rfl ?_ | refine gg rfl ?_)
      refine G_stop ⟨i + 1, ⟨by omega, by omega⟩, by omega, ⟨rfl, rfl, ?_, rfl, trivial⟩, .rfl⟩
      rw [hps]
      rfl
    · exact G_fin ⟨_, rfl, by rw [hfin (.inr (by omega))], Rk.right mr M⟩
    · exact G_fin ⟨_, rfl, by rw [hfin (.inl (by omega))], Rk.right mr M⟩
end Go.Proofs.Ytjkpfliaflmppaa.Hu

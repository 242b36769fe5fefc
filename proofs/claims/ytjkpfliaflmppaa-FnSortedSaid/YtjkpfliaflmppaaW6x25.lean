/- laws.FnSorted, walked: it is true, for any counts. Handed bytes, as the engine has them. No condition. -/
import Derived.Test.YtjkpfliaflmppaaW6x14
import Derived.Test.YtjkpfliaflmppaaW6x22
import Derived.Test.YtjkpfliaflmppaaW6x23
import Derived.Test.YtjkpfliaflmppaaW6x24
import Derived.Test.YtjkpfliaflmppaaRows
import Derived.WalkKit
import Derived.ProofKit
import Derived.OpenShut
import Derived.Carry
import Derived.JoinedCond

namespace Go.Proofs.Ytjkpfliaflmppaa.Pc
open Go Go.RowKit Go.Proofs.Ytjkpfliaflmppaa.Vm

/-- A handed slice of 32-bit numbers. -/
def Ws (s : Value) (xs : List Nat) (M : Mem) : Prop :=
  (∀ x ∈ xs, x < 4294967296) ∧ ∃ ad cap, s = .slice ad xs.length cap ∧ (xs = [] ∨ ∃ b o, ad = some ⟨b, o, none⟩ ∧ (⟨false, b, o, ints .u32 (xs.map Nat.cast)⟩ : Sg) ∈ M)
theorem Ws.at {s : Value} {xs : List Nat} {M : Mem} {i : Nat} (h : Ws s xs M) (hi : i < xs.length) :
    ∃ b o cap, s = .slice (some ⟨b, o, none⟩) xs.length cap ∧ (⟨false, b, o, ints .u32 (xs.map Nat.cast)⟩ : Sg) ∈ M ∧ (ints .u32 (xs.map Nat.cast))[i]? = some (.int .u32 (xs.getD i 0 : Nat)) ∧ xs.getD i 0 < 4294967296 := by
  obtain ⟨h1, ad, cap, rfl, rfl | ⟨b, o, rfl, hm⟩⟩ := h
  · simp at hi
  · refine ⟨b, o, cap, rfl, hm, ?_, ?_⟩
    · rw [ints_get (by simpa using hi)]
      simp [hi]
    · rw [show xs.getD i 0 = xs[i] by simp [hi]]
      exact h1 _ (List.getElem_mem hi)
theorem Ws.mono {s : Value} {xs : List Nat} {M M' : Mem} (h : Ws s xs M) (hm : ∀ x ∈ M, x ∈ M') : Ws s xs M' := by
  obtain ⟨h1, ad, cap, h2, h3⟩ := h
  exact ⟨h1, ad, cap, h2, h3.imp id fun ⟨b, o, h4, h5⟩ => ⟨b, o, h4, hm _ h5⟩⟩

theorem own_slice {v : Value} {cs : List Cd} {m : Mem} (h : Own v 4 (codesV cs) m) : ∃ ad cap, v = .slice ad cs.length cap := by
  rcases h with ⟨rfl, he, rfl⟩ | ⟨b, n, c, sp, rfl, rfl, hl, hc⟩
  · have := codesV_length cs
    rw [he] at this
    exact ⟨none, 0, by rw [show cs.length = 0 by simp only [List.length_nil] at this; omega]⟩
  · exact ⟨some ⟨b, 0, none⟩, c, by rw [show n = cs.length by have := codesV_length cs; omega]⟩
theorem own_row {v : Value} {cs : List Cd} {m : Mem} (h : Own v 4 (codesV cs) m) (hn : 0 < cs.length) : ∃ b cap sp, v = .slice (some ⟨b, 0, none⟩) cs.length cap ∧ m = [⟨true, b, 0, codesV cs ++ sp⟩] := by
  rcases h with ⟨rfl, he, rfl⟩ | ⟨b, n, c, sp, rfl, rfl, hl, hc⟩
  · have := codesV_length cs
    rw [he] at this
    simp only [List.length_nil] at this
    omega
  · exact ⟨b, c, sp, by rw [show n = cs.length by have := codesV_length cs; omega], rfl⟩

/-- The codes that are sorted. -/
def turnL (t : Nat) (xs : List Nat) : List Cd := (List.range xs.length).map fun i => ⟨(i * 7 + t) % 61, xs.getD i 0, 0, 0⟩
theorem turnL_length (t : Nat) (xs : List Nat) : (turnL t xs).length = xs.length := by simp [turnL]
theorem turnL_get (t : Nat) (xs : List Nat) (i : Nat) (h : i < xs.length) : (turnL t xs).getD i Cd.zero = ⟨(i * 7 + t) % 61, xs.getD i 0, 0, 0⟩ := by simp [turnL, h]
theorem turnL_dis (t : Nat) (xs : List Nat) (h : xs.length ≤ 60) : ((turnL t xs).map Cd.sym).Nodup := by
  rw [List.nodup_iff_pairwise_ne, List.pairwise_iff_getElem]
  intro i j hi hj hij
  simp only [List.length_map, turnL_length] at hi hj
  simp only [turnL, List.map_map, List.getElem_map, List.getElem_range, Function.comp]
  omega
/-- Different symbols: places with the same symbol are the same. -/
theorem dis_at {cs l0 : List Cd} (hp : cs.Perm l0) (hd : (l0.map Cd.sym).Nodup) {i j : Nat} (hi : i < cs.length) (hj : j < cs.length) (h : (cs.getD i Cd.zero).sym = (cs.getD j Cd.zero).sym) : i = j := by
  have h1 : (cs.map Cd.sym).Nodup := (hp.map Cd.sym).nodup_iff.2 hd
  have e1 : (cs.map Cd.sym)[i]'(by simpa using hi) = (cs.map Cd.sym)[j]'(by simpa using hj) := by
    simp only [List.getElem_map]
    simpa [hi, hj] using h
  rw [List.nodup_iff_pairwise_ne, List.pairwise_iff_getElem] at h1
  rcases Nat.lt_trichotomy i j with h | h | h
  · exact absurd e1 (h1 i j (by simpa using hi) (by simpa using hj) h)
  · exact h
  · exact absurd e1.symm (h1 j i (by simpa using hj) (by simpa using hi) h)
theorem perm_at {cs l0 : List Cd} (hp : cs.Perm l0) {i : Nat} (hi : i < l0.length) : ∃ k, k < cs.length ∧ cs.getD k Cd.zero = l0.getD i Cd.zero := by
  have h1 : l0.getD i Cd.zero ∈ cs := hp.mem_iff.2 (by simp [hi])
  obtain ⟨k, hk, e⟩ := List.mem_iff_getElem.1 h1
  exact ⟨k, hk, by simp [hk, e]⟩
theorem build42c (a : Int) (c n : Nat) (h : a = (n : Int)) (w : World) : (Instr.build 42 [(0, .int .u32 a), (1, .int .u32 (c : Int))].toArray).run Try.prog w = .ok (.agg [.int .u32 (n : Int), .int .u32 (c : Nat), .int .u32 (0 : Nat), .int .u32 (0 : Nat)].toArray) w := by
  subst h
  kernel_rfl

set_option maxHeartbeats 2000000 in
theorem law6_c (s0 : Value) (xs : List Nat) (t : Nat) (M : Mem) (hs : Ws s0 xs M) (ht : t < 256) :
    HC Try.prog 6 #[s0, .int .u8 t] M (fun r M' => r = .bool true ∧ Rk M' M) := by
  obtain ⟨I, hI, hI1, hI2, hI3⟩ := of_info info42
  obtain ⟨a0, c0, e⟩ : ∃ a c, s0 = .slice a xs.length c := ⟨_, _, hs.2.choose_spec.choose_spec.1⟩
  subst e
  refine HC_of_W (fn := Try.f6) Try.func6 rfl rfl rfl rfl ?_
  repeat' (first | (refine isO ?_; first | refine oo (Pc rfl) ?_ | refine oo (Pa rfl (by omega) (by omega)) ?_ | (refine ob rfl ?_ ?_ <;> intro hq <;> try (exfalso; omega)) | refine oo (Pi rfl (by omega)) ?_ | refine oo (Pl rfl) ?_ | refine oo (Px rfl rfl) ?_ | refine oo (Pj rfl (by omega) (by omega)) ?_ | refine oo (Pk rfl (by omega) (by omega)) ?_ | refine oo (Pf rfl) ?_ | refine oo (Pv rfl (by omega) (by omega)) ?_ | refine oo (Pn rfl) ?_ | refine oo (Pm rfl) ?_ | refine os rfl rfl ?_ | refine ot rfl (by omega) ?_ | refine O_nil ?_) | refine wo rfl ?_ | refine wc rfl ?_ | refine wg rfl ?_ | refine go rfl ?_ | refine gc rfl ?_ | refine gg rfl ?_)
  · exact G_fin ⟨_, rfl, rfl, .rfl⟩
  · (refine O_call rfl rfl Tb.k13 trivial rfl (awake_c _) ?_; rintro v M' ⟨rfl, hrk⟩; refine O_weak hrk ?_; clear hrk; (repeat' (first | (refine isO ?_; first | refine oo (Pc rfl) ?_ | refine oo (Pa rfl (by omega) (by omega)) ?_ | (refine ob rfl ?_ ?_ <;> intro hq <;> try (exfalso; omega)) | refine oo (Pi rfl (by omega)) ?_ | refine oo (Pl rfl) ?_ | refine oo (Px rfl rfl) ?_ | refine oo (Pj rfl (by omega) (by omega)) ?_ | refine oo (Pk rfl (by omega) (by omega)) ?_ | refine oo (Pf rfl) ?_ | refine oo (Pv rfl (by omega) (by omega)) ?_ | refine oo (Pn rfl) ?_ | refine oo (Pm rfl) ?_ | refine os rfl rfl ?_ | refine ot rfl (by omega) ?_ | refine O_nil ?_) | refine wo rfl ?_ | refine wc rfl ?_ | refine wg rfl ?_ | refine go rfl ?_ | refine gc rfl ?_ | refine gg rfl ?_)))
    exact G_fin ⟨_, rfl, rfl, .rfl⟩
  refine W_loop (α := Nat × Value × Mem) (fun x => [(0, .slice a0 xs.length c0), (1, .int .u8 t), (5, x.2.1), (6, .int .i64 x.1)])
    (fun x => x.2.2 ++ M) (fun x => x.1 ≤ xs.length ∧ Own x.2.1 4 (codesV ((turnL t xs).take x.1)) x.2.2) (fun x => xs.length - x.1)
    (0, .slice none 0 0, []) ⟨by omega, .inl ⟨rfl, by simp [codesV], rfl⟩⟩ ⟨rfl, rfl, rfl, rfl, trivial⟩ .rfl ?_
  rintro ⟨i, sv, m⟩ ⟨hi, hown⟩
  dsimp only at hi hown ⊢
  repeat' (first | (refine isO ?_; first | refine oo (Pc rfl) ?_ | refine oo (Pa rfl (by omega) (by omega)) ?_ | (refine ob rfl ?_ ?_ <;> intro hq <;> try (exfalso; omega)) | refine oo (Pi rfl (by omega)) ?_ | refine oo (Pl rfl) ?_ | refine oo (Px rfl rfl) ?_ | refine oo (Pj rfl (by omega) (by omega)) ?_ | refine oo (Pk rfl (by omega) (by omega)) ?_ | refine oo (Pf rfl) ?_ | refine oo (Pv rfl (by omega) (by omega)) ?_ | refine oo (Pn rfl) ?_ | refine oo (Pm rfl) ?_ | refine os rfl rfl ?_ | refine ot rfl (by omega) ?_ | refine O_nil ?_) | refine wo rfl ?_ | refine wc rfl ?_ | refine wg rfl ?_ | refine go rfl ?_ | refine gc rfl ?_ | refine gg rfl ?_)
  · have hil : i < xs.length := by omega
    obtain ⟨b, o, cap, e, hm, hg, hlt⟩ := hs.at hil
    cases e
    have hget := turnL_get t xs i hil
    have htake := codesV_take (turnL t xs) i (by rw [turnL_length]; exact hil)
    rw [hget] at htake
    generalize xs.getD i 0 = z at *
    refine O_pure (P_remS (p := i * 7 + t) (q := 61) rfl rfl (by omega) rfl (by omega) (inK_i64 (by omega) (by omega))) trivial rfl ?_
    repeat' (first | (refine isO ?_; first | refine oo (Pc rfl) ?_ | refine oo (Pa rfl (by omega) (by omega)) ?_ | (refine ob rfl ?_ ?_ <;> intro hq <;> try (exfalso; omega)) | refine oo (Pi rfl (by omega)) ?_ | refine oo (Pl rfl) ?_ | refine oo (Px rfl rfl) ?_ | refine oo (Pj rfl (by omega) (by omega)) ?_ | refine oo (Pk rfl (by omega) (by omega)) ?_ | refine oo (Pf rfl) ?_ | refine oo (Pv rfl (by omega) (by omega)) ?_ | refine oo (Pn rfl) ?_ | refine oo (Pm rfl) ?_ | refine os rfl rfl ?_ | refine ot rfl (by omega) ?_ | refine O_nil ?_) | refine wo rfl ?_ | refine wc rfl ?_ | refine wg rfl ?_ | refine go rfl ?_ | refine gc rfl ?_ | refine gg rfl ?_)
    refine O_pure (P_loadAt (o := o) (n := i) Tb.p40 rfl (by omega) (List.mem_append_right _ hm) hg) trivial rfl ?_
    refine O_pure (P_build rfl (build42c _ _ ((i * 7 + t) % 61) rfl)) trivial rfl ?_
    refine O_buildSlice rfl (row23_1 _ _ _ _) trivial rfl fun by1 => ?_
    have hlen : (codesV ((turnL t xs).take i)).length = i * 4 := by rw [codesV_length, List.length_take, turnL_length]; omega
    refine O_append (m := m) (M0 := ⟨true, by1, 0, _⟩ :: M) Tb.u23 Tb.u23 hI hI1 (by decide) (by omega) hI3 rfl rfl rfl hown (.perm List.perm_middle.symm) hlen (.head _) (Nat.le_refl 4) (Cd.cells_one ⟨_, z, 0, 0⟩) (.inl (by omega)) (by rw [hI2]; omega) trivial rfl fun b2 c2' s2 h2' => ?_
    repeat' (first | (refine isO ?_; first | refine oo (Pc rfl) ?_ | refine oo (Pa rfl (by omega) (by omega)) ?_ | (refine ob rfl ?_ ?_ <;> intro hq <;> try (exfalso; omega)) | refine oo (Pi rfl (by omega)) ?_ | refine oo (Pl rfl) ?_ | refine oo (Px rfl rfl) ?_ | refine oo (Pj rfl (by omega) (by omega)) ?_ | refine oo (Pk rfl (by omega) (by omega)) ?_ | refine oo (Pf rfl) ?_ | refine oo (Pv rfl (by omega) (by omega)) ?_ | refine oo (Pn rfl) ?_ | refine oo (Pm rfl) ?_ | refine os rfl rfl ?_ | refine ot rfl (by omega) ?_ | refine O_nil ?_) | refine wo rfl ?_ | refine wc rfl ?_ | refine wg rfl ?_ | refine go rfl ?_ | refine gc rfl ?_ | refine gg rfl ?_)
    refine G_stop ⟨(i + 1, .slice (some ⟨b2, 0, none⟩) (i + 1) c2', [⟨true, b2, 0, codesV ((turnL t xs).take (i + 1)) ++ s2⟩]), ⟨by dsimp only; omega, .inr ⟨b2, _, c2', s2, rfl, rfl, by rw [codesV_length, List.length_take, turnL_length]; omega, by rw [← htake]; exact h2'⟩⟩, by dsimp only; omega, ⟨rfl, rfl, rfl, rfl, trivial⟩, by dsimp only; rw [← htake]; exact .cons .head (.drop .rfl)⟩
  · obtain rfl : i = xs.length := by omega
    have hL := turnL_length t xs
    rw [← hL, List.take_length] at hown
    have hdis := turnL_dis t xs (by omega)
    have hsy : ∀ c ∈ turnL t xs, c.sym < 4294967296 := by
      intro c hc
      simp only [turnL, List.mem_map] at hc
      obtain ⟨k, _, rfl⟩ := hc
      dsimp only
      omega
    refine O_call rfl rfl Tb.k24 trivial rfl (sorted24_c sv (turnL t xs) m M hown (by omega)) ?_
    rintro ra _ ⟨A, m1, ho1, hp1, hs1, hrk⟩
    refine O_weak (.trans hrk (.perm (List.perm_append_comm_assoc m1 m M))) ?_
    clear hrk
    repeat' (first | (refine isO ?_; first | refine oo (Pc rfl) ?_ | refine oo (Pa rfl (by omega) (by omega)) ?_ | (refine ob rfl ?_ ?_ <;> intro hq <;> try (exfalso; omega)) | refine oo (Pi rfl (by omega)) ?_ | refine oo (Pl rfl) ?_ | refine oo (Px rfl rfl) ?_ | refine oo (Pj rfl (by omega) (by omega)) ?_ | refine oo (Pk rfl (by omega) (by omega)) ?_ | refine oo (Pf rfl) ?_ | refine oo (Pv rfl (by omega) (by omega)) ?_ | refine oo (Pn rfl) ?_ | refine oo (Pm rfl) ?_ | refine os rfl rfl ?_ | refine ot rfl (by omega) ?_ | refine O_nil ?_) | refine wo rfl ?_ | refine wc rfl ?_ | refine wg rfl ?_ | refine go rfl ?_ | refine gc rfl ?_ | refine gg rfl ?_)
    refine O_call rfl rfl Tb.k25 trivial rfl (sorted25_c sv (turnL t xs) m (m1 ++ M) hown (by omega) hsy) ?_
    rintro rb _ ⟨B, m2, ho2, hp2, hs2, hrk⟩
    refine O_weak hrk ?_
    clear hrk
    have hlA := hp1.length_eq
    have hlB := hp2.length_eq
    obtain ⟨ad0, cp0, e0⟩ := own_slice hown
    obtain ⟨ad1, cp1, e1⟩ := own_slice ho1
    obtain ⟨ad2, cp2, e2⟩ := own_slice ho2
    rw [hlA] at e1
    rw [hlB] at e2
    subst e0
    subst e1
    subst e2
    repeat' (first | (refine isO ?_; first | refine oo (Pc rfl) ?_ | refine oo (Pa rfl (by omega) (by omega)) ?_ | (refine ob rfl ?_ ?_ <;> intro hq <;> try (exfalso; omega)) | refine oo (Pi rfl (by omega)) ?_ | refine oo (Pl rfl) ?_ | refine oo (Px rfl rfl) ?_ | refine oo (Pj rfl (by omega) (by omega)) ?_ | refine oo (Pk rfl (by omega) (by omega)) ?_ | refine oo (Pf rfl) ?_ | refine oo (Pv rfl (by omega) (by omega)) ?_ | refine oo (Pn rfl) ?_ | refine oo (Pm rfl) ?_ | refine os rfl rfl ?_ | refine ot rfl (by omega) ?_ | refine O_nil ?_) | refine wo rfl ?_ | refine wc rfl ?_ | refine wg rfl ?_ | refine go rfl ?_ | refine gc rfl ?_ | refine gg rfl ?_)
    refine W_loop (α := Nat) (fun i => [(5, .slice ad0 (turnL t xs).length cp0), (7, .slice ad1 (turnL t xs).length cp1), (8, .slice ad2 (turnL t xs).length cp2), (9, .int .i64 i)]) (fun _ => m2 ++ (m ++ (m1 ++ M))) (fun i => i ≤ (turnL t xs).length) (fun i => (turnL t xs).length - i)
      0 (Nat.zero_le _) ⟨rfl, rfl, rfl, rfl, trivial⟩ .rfl ?_
    rintro i hi
    try dsimp only
    repeat' (first | (refine isO ?_; first | refine oo (Pc rfl) ?_ | refine oo (Pa rfl (by omega) (by omega)) ?_ | (refine ob rfl ?_ ?_ <;> intro hq <;> try (exfalso; omega)) | refine oo (Pi rfl (by omega)) ?_ | refine oo (Pl rfl) ?_ | refine oo (Px rfl rfl) ?_ | refine oo (Pj rfl (by omega) (by omega)) ?_ | refine oo (Pk rfl (by omega) (by omega)) ?_ | refine oo (Pf rfl) ?_ | refine oo (Pv rfl (by omega) (by omega)) ?_ | refine oo (Pn rfl) ?_ | refine oo (Pm rfl) ?_ | refine os rfl rfl ?_ | refine ot rfl (by omega) ?_ | refine O_nil ?_) | refine wo rfl ?_ | refine wc rfl ?_ | refine wg rfl ?_ | refine go rfl ?_ | refine gc rfl ?_ | refine gg rfl ?_)
    · have hil : i < (turnL t xs).length := by omega
      obtain ⟨b0, z0, sp0, q0, e0⟩ := own_row hown (by omega)
      obtain ⟨b1, z1, sp1, q1, e1⟩ := own_row ho1 (by omega)
      obtain ⟨b2, z2, sp2, q2, e2⟩ := own_row ho2 (by omega)
      simp only [Value.slice.injEq] at q0 q1 q2
      obtain ⟨rfl, _, rfl⟩ := q0
      obtain ⟨rfl, _, rfl⟩ := q1
      obtain ⟨rfl, _, rfl⟩ := q2
      have hm0 : (⟨true, b0, 0, codesV (turnL t xs) ++ sp0⟩ : Sg) ∈ m2 ++ (m ++ (m1 ++ M)) := by subst e0; exact List.mem_append_right _ (.head _)
      have hm1 : (⟨true, b1, 0, codesV A ++ sp1⟩ : Sg) ∈ m2 ++ (m ++ (m1 ++ M)) := by subst e1; exact List.mem_append_right _ (List.mem_append_right _ (.head _))
      have hm2 : (⟨true, b2, 0, codesV B ++ sp2⟩ : Sg) ∈ m2 ++ (m ++ (m1 ++ M)) := by subst e2; exact .head _
      have hg := turnL_get t xs i (by omega)
      obtain ⟨ka, hka, eka⟩ := perm_at hp1 hil
      obtain ⟨kb, hkb, ekb⟩ := perm_at hp2 hil
      generalize hLL : turnL t xs = LL at *
      generalize m2 ++ (m ++ (m1 ++ M)) = MM at *
      have hla := hlA
      have hlb := hlB
      have hA0 := codesV_f A sp1 i (by omega)
      have hB0 := codesV_f1 B sp2 i (by omega)
      have hL0 := codesV_f LL sp0 i hil
      have hsA : ∀ c ∈ A, c.sym < 4294967296 := fun c hc => hsy c (hp1.mem_iff.1 hc)
      have hsB : ∀ c ∈ B, c.sym < 4294967296 := fun c hc => hsy c (hp2.mem_iff.1 hc)
      have hv := hsy (LL.getD i Cd.zero) (by simp [hil])
      have hua : ∀ j, j < ka → (A.getD j Cd.zero).sym ≠ (LL.getD i Cd.zero).sym := fun j hj e => by
        have := dis_at hp1 hdis (i := j) (j := ka) (by omega) hka (by rw [eka]; exact e)
        omega
      have hub : ∀ j, j < kb → (B.getD j Cd.zero).sym ≠ (LL.getD i Cd.zero).sym := fun j hj e => by
        have := dis_at hp2 hdis (i := j) (j := kb) (by omega) hkb (by rw [ekb]; exact e)
        omega
      have hcA := codeOfG_c A ka (LL.getD i Cd.zero).sym b1 cp1 true sp1
      have hcB := codeOfG_c B kb (LL.getD i Cd.zero).sym b2 cp2 true sp2
      rw [eka, hla] at hcA
      rw [ekb, hlb] at hcB
      have hstrict : ∀ j, j + 1 = i → (A.getD j Cd.zero).sym < (A.getD i Cd.zero).sym := fun j hj => by
        have h1 := hs1 (j : Int) (i : Int) (by omega) (by omega) (by omega)
        have h2 := fun e => dis_at hp1 hdis (i := j) (j := i) (by omega) (by omega) e
        unfold kk at h1
        simp only [Int.toNat_natCast] at h1
        refine Nat.lt_of_le_of_ne h1 fun e => ?_
        have := h2 e
        omega
      have hcount : ∀ j, j + 1 = i → (B.getD j Cd.zero).cnt ≤ (B.getD i Cd.zero).cnt := fun j hj => by
        have h1 := hs2 (j : Int) (i : Int) (by omega) (by omega) (by omega)
        unfold kk cntKey at h1
        simp only [Int.toNat_natCast] at h1
        have h3 := hsB (B.getD j Cd.zero) (by have : j < B.length := by omega
                                              simp [this])
        have h4 := hsB (B.getD i Cd.zero) (by have : i < B.length := by omega
                                              simp [this])
        omega
      have hblk := codesV_block LL sp0 i hil
      clear hs hown ho1 ho2 e0 e1 e2 hp1 hp2 hs1 hs2
      refine W_region_still Tb.mixed (by kernel_rfl) ?_
      repeat' (first | (refine isS ?_; first | refine ss (Pc rfl) ?_ | refine ss (Pa rfl (by omega) (by omega)) ?_ | (refine sb rfl ?_ ?_ <;> intro hq <;> try (exfalso; omega)) | refine ss (Pi rfl (by omega)) ?_ | refine ss (Pl rfl) ?_ | refine ss (Px rfl rfl) ?_ | refine ss (Pj rfl (by omega) (by omega)) ?_ | refine ss (Pk rfl (by omega) (by omega)) ?_ | refine ss (Pf rfl) ?_ | refine ss (Pv rfl (by omega) (by omega)) ?_ | refine ss (Pn rfl) ?_ | refine ss (Pm rfl) ?_ | refine OS_nil ?_))
      · have hst := hstrict (i - 1) (by omega)
        have hct := hcount (i - 1) (by omega)
        have hA1 := codesV_f A sp1 (i - 1) (by omega)
        have hB1 := codesV_f1 B sp2 (i - 1) (by omega)
        refine OS_pure (P_loadAt (o := 0) (n := i * 4) Tb.p40 rfl (by omega) hm1 hA0) (by first | exact trivial | exact ⟨_, rfl, rfl⟩) rfl ?_
        repeat' (first | (refine isS ?_; first | refine ss (Pc rfl) ?_ | refine ss (Pa rfl (by omega) (by omega)) ?_ | (refine sb rfl ?_ ?_ <;> intro hq <;> try (exfalso; omega)) | refine ss (Pi rfl (by omega)) ?_ | refine ss (Pl rfl) ?_ | refine ss (Px rfl rfl) ?_ | refine ss (Pj rfl (by omega) (by omega)) ?_ | refine ss (Pk rfl (by omega) (by omega)) ?_ | refine ss (Pf rfl) ?_ | refine ss (Pv rfl (by omega) (by omega)) ?_ | refine ss (Pn rfl) ?_ | refine ss (Pm rfl) ?_ | refine OS_nil ?_))
        refine OS_pure (P_loadAt (o := 0) (n := (i - 1) * 4) Tb.p40 rfl (by omega) hm1 hA1) (by first | exact trivial | exact ⟨_, rfl, rfl⟩) rfl ?_
        repeat' (first | (refine isS ?_; first | refine ss (Pc rfl) ?_ | refine ss (Pa rfl (by omega) (by omega)) ?_ | (refine sb rfl ?_ ?_ <;> intro hq <;> try (exfalso; omega)) | refine ss (Pi rfl (by omega)) ?_ | refine ss (Pl rfl) ?_ | refine ss (Px rfl rfl) ?_ | refine ss (Pj rfl (by omega) (by omega)) ?_ | refine ss (Pk rfl (by omega) (by omega)) ?_ | refine ss (Pf rfl) ?_ | refine ss (Pv rfl (by omega) (by omega)) ?_ | refine ss (Pn rfl) ?_ | refine ss (Pm rfl) ?_ | refine OS_nil ?_))
        refine OS_pure (P_loadAt (o := 0) (n := i * 4 + 1) Tb.p40 rfl (by omega) hm2 hB0) (by first | exact trivial | exact ⟨_, rfl, rfl⟩) rfl ?_
        repeat' (first | (refine isS ?_; first | refine ss (Pc rfl) ?_ | refine ss (Pa rfl (by omega) (by omega)) ?_ | (refine sb rfl ?_ ?_ <;> intro hq <;> try (exfalso; omega)) | refine ss (Pi rfl (by omega)) ?_ | refine ss (Pl rfl) ?_ | refine ss (Px rfl rfl) ?_ | refine ss (Pj rfl (by omega) (by omega)) ?_ | refine ss (Pk rfl (by omega) (by omega)) ?_ | refine ss (Pf rfl) ?_ | refine ss (Pv rfl (by omega) (by omega)) ?_ | refine ss (Pn rfl) ?_ | refine ss (Pm rfl) ?_ | refine OS_nil ?_))
        refine OS_pure (P_loadAt (o := 0) (n := (i - 1) * 4 + 1) Tb.p40 rfl (by omega) hm2 hB1) (by first | exact trivial | exact ⟨_, rfl, rfl⟩) rfl ?_
        repeat' (first | (refine isS ?_; first | refine ss (Pc rfl) ?_ | refine ss (Pa rfl (by omega) (by omega)) ?_ | (refine sb rfl ?_ ?_ <;> intro hq <;> try (exfalso; omega)) | refine ss (Pi rfl (by omega)) ?_ | refine ss (Pl rfl) ?_ | refine ss (Px rfl rfl) ?_ | refine ss (Pj rfl (by omega) (by omega)) ?_ | refine ss (Pk rfl (by omega) (by omega)) ?_ | refine ss (Pf rfl) ?_ | refine ss (Pv rfl (by omega) (by omega)) ?_ | refine ss (Pn rfl) ?_ | refine ss (Pm rfl) ?_ | refine OS_nil ?_))
        ((repeat' (first | (refine isO ?_; first | refine oo (Pc rfl) ?_ | refine oo (Pa rfl (by omega) (by omega)) ?_ | (refine ob rfl ?_ ?_ <;> intro hq <;> try (exfalso; omega)) | refine oo (Pi rfl (by omega)) ?_ | refine oo (Pl rfl) ?_ | refine oo (Px rfl rfl) ?_ | refine oo (Pj rfl (by omega) (by omega)) ?_ | refine oo (Pk rfl (by omega) (by omega)) ?_ | refine oo (Pf rfl) ?_ | refine oo (Pv rfl (by omega) (by omega)) ?_ | refine oo (Pn rfl) ?_ | refine oo (Pm rfl) ?_ | refine os rfl rfl ?_ | refine ot rfl (by omega) ?_ | refine O_nil ?_) | refine wo rfl ?_ | refine wc rfl ?_ | refine wg rfl ?_ | refine go rfl ?_ | refine gc rfl ?_ | refine gg rfl ?_)); refine O_pure (P_loadAt (o := 0) (n := i * 4) Tb.p40 rfl (by omega) hm0 hL0) trivial rfl ?_; (repeat' (first | (refine isO ?_; first | refine oo (Pc rfl) ?_ | refine oo (Pa rfl (by omega) (by omega)) ?_ | (refine ob rfl ?_ ?_ <;> intro hq <;> try (exfalso; omega)) | refine oo (Pi rfl (by omega)) ?_ | refine oo (Pl rfl) ?_ | refine oo (Px rfl rfl) ?_ | refine oo (Pj rfl (by omega) (by omega)) ?_ | refine oo (Pk rfl (by omega) (by omega)) ?_ | refine oo (Pf rfl) ?_ | refine oo (Pv rfl (by omega) (by omega)) ?_ | refine oo (Pn rfl) ?_ | refine oo (Pm rfl) ?_ | refine os rfl rfl ?_ | refine ot rfl (by omega) ?_ | refine O_nil ?_) | refine wo rfl ?_ | refine wc rfl ?_ | refine wg rfl ?_ | refine go rfl ?_ | refine gc rfl ?_ | refine gg rfl ?_)); refine O_call rfl rfl Tb.k26 trivial rfl (hcA MM hm1 (by omega) (by omega) rfl hv hsA hua) ?_; rintro _ _ ⟨rfl, hrk⟩; refine O_weak hrk ?_; clear hrk; (repeat' (first | (refine isO ?_; first | refine oo (Pc rfl) ?_ | refine oo (Pa rfl (by omega) (by omega)) ?_ | (refine ob rfl ?_ ?_ <;> intro hq <;> try (exfalso; omega)) | refine oo (Pi rfl (by omega)) ?_ | refine oo (Pl rfl) ?_ | refine oo (Px rfl rfl) ?_ | refine oo (Pj rfl (by omega) (by omega)) ?_ | refine oo (Pk rfl (by omega) (by omega)) ?_ | refine oo (Pf rfl) ?_ | refine oo (Pv rfl (by omega) (by omega)) ?_ | refine oo (Pn rfl) ?_ | refine oo (Pm rfl) ?_ | refine os rfl rfl ?_ | refine ot rfl (by omega) ?_ | refine O_nil ?_) | refine wo rfl ?_ | refine wc rfl ?_ | refine wg rfl ?_ | refine go rfl ?_ | refine gc rfl ?_ | refine gg rfl ?_)); refine O_alloc zero42 trivial rfl fun bx => ?_; (repeat' (first | (refine isO ?_; first | refine oo (Pc rfl) ?_ | refine oo (Pa rfl (by omega) (by omega)) ?_ | (refine ob rfl ?_ ?_ <;> intro hq <;> try (exfalso; omega)) | refine oo (Pi rfl (by omega)) ?_ | refine oo (Pl rfl) ?_ | refine oo (Px rfl rfl) ?_ | refine oo (Pj rfl (by omega) (by omega)) ?_ | refine oo (Pk rfl (by omega) (by omega)) ?_ | refine oo (Pf rfl) ?_ | refine oo (Pv rfl (by omega) (by omega)) ?_ | refine oo (Pn rfl) ?_ | refine oo (Pm rfl) ?_ | refine os rfl rfl ?_ | refine ot rfl (by omega) ?_ | refine O_nil ?_) | refine wo rfl ?_ | refine wc rfl ?_ | refine wg rfl ?_ | refine go rfl ?_ | refine gc rfl ?_ | refine gg rfl ?_)); refine O_storeAgg0 (cs := (LL.getD i Cd.zero).cells) Tb.c42 (by decide) rfl rfl rfl (Cd.cells_one _) trivial .head rfl ?_; (repeat' (first | (refine isO ?_; first | refine oo (Pc rfl) ?_ | refine oo (Pa rfl (by omega) (by omega)) ?_ | (refine ob rfl ?_ ?_ <;> intro hq <;> try (exfalso; omega)) | refine oo (Pi rfl (by omega)) ?_ | refine oo (Pl rfl) ?_ | refine oo (Px rfl rfl) ?_ | refine oo (Pj rfl (by omega) (by omega)) ?_ | refine oo (Pk rfl (by omega) (by omega)) ?_ | refine oo (Pf rfl) ?_ | refine oo (Pv rfl (by omega) (by omega)) ?_ | refine oo (Pn rfl) ?_ | refine oo (Pm rfl) ?_ | refine os rfl rfl ?_ | refine ot rfl (by omega) ?_ | refine O_nil ?_) | refine wo rfl ?_ | refine wc rfl ?_ | refine wg rfl ?_ | refine go rfl ?_ | refine gc rfl ?_ | refine gg rfl ?_)); refine O_pure (P_loadAt (o := 0) (n := i * 4) Tb.p40 rfl (by omega) (.tail _ hm0) hL0) trivial rfl ?_; (repeat' (first | (refine isO ?_; first | refine oo (Pc rfl) ?_ | refine oo (Pa rfl (by omega) (by omega)) ?_ | (refine ob rfl ?_ ?_ <;> intro hq <;> try (exfalso; omega)) | refine oo (Pi rfl (by omega)) ?_ | refine oo (Pl rfl) ?_ | refine oo (Px rfl rfl) ?_ | refine oo (Pj rfl (by omega) (by omega)) ?_ | refine oo (Pk rfl (by omega) (by omega)) ?_ | refine oo (Pf rfl) ?_ | refine oo (Pv rfl (by omega) (by omega)) ?_ | refine oo (Pn rfl) ?_ | refine oo (Pm rfl) ?_ | refine os rfl rfl ?_ | refine ot rfl (by omega) ?_ | refine O_nil ?_) | refine wo rfl ?_ | refine wc rfl ?_ | refine wg rfl ?_ | refine go rfl ?_ | refine gc rfl ?_ | refine gg rfl ?_)); refine O_call rfl rfl Tb.k26 trivial rfl (hcB (⟨true, bx, 0, (LL.getD i Cd.zero).cells⟩ :: MM) (.tail _ hm2) (by omega) (by omega) rfl hv hsB hub) ?_; rintro _ _ ⟨rfl, hrk⟩; refine O_weak hrk ?_; clear hrk; (repeat' (first | (refine isO ?_; first | refine oo (Pc rfl) ?_ | refine oo (Pa rfl (by omega) (by omega)) ?_ | (refine ob rfl ?_ ?_ <;> intro hq <;> try (exfalso; omega)) | refine oo (Pi rfl (by omega)) ?_ | refine oo (Pl rfl) ?_ | refine oo (Px rfl rfl) ?_ | refine oo (Pj rfl (by omega) (by omega)) ?_ | refine oo (Pk rfl (by omega) (by omega)) ?_ | refine oo (Pf rfl) ?_ | refine oo (Pv rfl (by omega) (by omega)) ?_ | refine oo (Pn rfl) ?_ | refine oo (Pm rfl) ?_ | refine os rfl rfl ?_ | refine ot rfl (by omega) ?_ | refine O_nil ?_) | refine wo rfl ?_ | refine wc rfl ?_ | refine wg rfl ?_ | refine go rfl ?_ | refine gc rfl ?_ | refine gg rfl ?_)); refine O_alloc zero42 trivial rfl fun by1 => ?_; (repeat' (first | (refine isO ?_; first | refine oo (Pc rfl) ?_ | refine oo (Pa rfl (by omega) (by omega)) ?_ | (refine ob rfl ?_ ?_ <;> intro hq <;> try (exfalso; omega)) | refine oo (Pi rfl (by omega)) ?_ | refine oo (Pl rfl) ?_ | refine oo (Px rfl rfl) ?_ | refine oo (Pj rfl (by omega) (by omega)) ?_ | refine oo (Pk rfl (by omega) (by omega)) ?_ | refine oo (Pf rfl) ?_ | refine oo (Pv rfl (by omega) (by omega)) ?_ | refine oo (Pn rfl) ?_ | refine oo (Pm rfl) ?_ | refine os rfl rfl ?_ | refine ot rfl (by omega) ?_ | refine O_nil ?_) | refine wo rfl ?_ | refine wc rfl ?_ | refine wg rfl ?_ | refine go rfl ?_ | refine gc rfl ?_ | refine gg rfl ?_)); refine O_storeAgg0 (cs := (LL.getD i Cd.zero).cells) Tb.c42 (by decide) rfl rfl rfl (Cd.cells_one _) trivial .head rfl ?_; (repeat' (first | (refine isO ?_; first | refine oo (Pc rfl) ?_ | refine oo (Pa rfl (by omega) (by omega)) ?_ | (refine ob rfl ?_ ?_ <;> intro hq <;> try (exfalso; omega)) | refine oo (Pi rfl (by omega)) ?_ | refine oo (Pl rfl) ?_ | refine oo (Px rfl rfl) ?_ | refine oo (Pj rfl (by omega) (by omega)) ?_ | refine oo (Pk rfl (by omega) (by omega)) ?_ | refine oo (Pf rfl) ?_ | refine oo (Pv rfl (by omega) (by omega)) ?_ | refine oo (Pn rfl) ?_ | refine oo (Pm rfl) ?_ | refine os rfl rfl ?_ | refine ot rfl (by omega) ?_ | refine O_nil ?_) | refine wo rfl ?_ | refine wc rfl ?_ | refine wg rfl ?_ | refine go rfl ?_ | refine gc rfl ?_ | refine gg rfl ?_)); refine W_region_still Tb.mixed (by kernel_rfl) ?_; (repeat' (first | (refine isS ?_; first | refine ss (Pc rfl) ?_ | refine ss (Pa rfl (by omega) (by omega)) ?_ | (refine sb rfl ?_ ?_ <;> intro hq <;> try (exfalso; omega)) | refine ss (Pi rfl (by omega)) ?_ | refine ss (Pl rfl) ?_ | refine ss (Px rfl rfl) ?_ | refine ss (Pj rfl (by omega) (by omega)) ?_ | refine ss (Pk rfl (by omega) (by omega)) ?_ | refine ss (Pf rfl) ?_ | refine ss (Pv rfl (by omega) (by omega)) ?_ | refine ss (Pn rfl) ?_ | refine ss (Pm rfl) ?_ | refine OS_nil ?_))); refine OS_pure (P_loadAggAt (o := 0) (i := 0) (cs := (LL.getD i Cd.zero).cells) Tb.a42 Tb.c42 (by decide) rfl rfl (.tail _ (.head _)) (Nat.le_refl 4) rfl) (by first | exact trivial | exact ⟨_, rfl, rfl⟩) rfl ?_; (repeat' (first | (refine isS ?_; first | refine ss (Pc rfl) ?_ | refine ss (Pa rfl (by omega) (by omega)) ?_ | (refine sb rfl ?_ ?_ <;> intro hq <;> try (exfalso; omega)) | refine ss (Pi rfl (by omega)) ?_ | refine ss (Pl rfl) ?_ | refine ss (Px rfl rfl) ?_ | refine ss (Pj rfl (by omega) (by omega)) ?_ | refine ss (Pk rfl (by omega) (by omega)) ?_ | refine ss (Pf rfl) ?_ | refine ss (Pv rfl (by omega) (by omega)) ?_ | refine ss (Pn rfl) ?_ | refine ss (Pm rfl) ?_ | refine OS_nil ?_))); refine OS_pure (P_loadAggAt (o := 0) (i := i * 4) (cs := (LL.getD i Cd.zero).cells) Tb.a42 Tb.c42 (by decide) rfl (by omega) (.tail _ (.tail _ hm0)) (by rw [List.length_append, codesV_length]; omega) hblk) (by first | exact trivial | exact ⟨_, rfl, rfl⟩) rfl ?_; refine OS_pure (P_neq42 rfl rfl) (by first | exact trivial | exact ⟨_, rfl, rfl⟩) rfl ?_; (repeat' (first | (refine isS ?_; first | refine ss (Pc rfl) ?_ | refine ss (Pa rfl (by omega) (by omega)) ?_ | (refine sb rfl ?_ ?_ <;> intro hq <;> try (exfalso; omega)) | refine ss (Pi rfl (by omega)) ?_ | refine ss (Pl rfl) ?_ | refine ss (Px rfl rfl) ?_ | refine ss (Pj rfl (by omega) (by omega)) ?_ | refine ss (Pk rfl (by omega) (by omega)) ?_ | refine ss (Pf rfl) ?_ | refine ss (Pv rfl (by omega) (by omega)) ?_ | refine ss (Pn rfl) ?_ | refine ss (Pm rfl) ?_ | refine OS_nil ?_))); refine OS_pure (P_loadAggAt (o := 0) (i := 0) (cs := (LL.getD i Cd.zero).cells) Tb.a42 Tb.c42 (by decide) rfl rfl (.head _) (Nat.le_refl 4) rfl) (by first | exact trivial | exact ⟨_, rfl, rfl⟩) rfl ?_; (repeat' (first | (refine isS ?_; first | refine ss (Pc rfl) ?_ | refine ss (Pa rfl (by omega) (by omega)) ?_ | (refine sb rfl ?_ ?_ <;> intro hq <;> try (exfalso; omega)) | refine ss (Pi rfl (by omega)) ?_ | refine ss (Pl rfl) ?_ | refine ss (Px rfl rfl) ?_ | refine ss (Pj rfl (by omega) (by omega)) ?_ | refine ss (Pk rfl (by omega) (by omega)) ?_ | refine ss (Pf rfl) ?_ | refine ss (Pv rfl (by omega) (by omega)) ?_ | refine ss (Pn rfl) ?_ | refine ss (Pm rfl) ?_ | refine OS_nil ?_))); refine OS_pure (P_loadAggAt (o := 0) (i := i * 4) (cs := (LL.getD i Cd.zero).cells) Tb.a42 Tb.c42 (by decide) rfl (by omega) (.tail _ (.tail _ hm0)) (by rw [List.length_append, codesV_length]; omega) hblk) (by first | exact trivial | exact ⟨_, rfl, rfl⟩) rfl ?_; refine OS_pure (P_neq42 rfl rfl) (by first | exact trivial | exact ⟨_, rfl, rfl⟩) rfl ?_; (repeat' (first | (refine isS ?_; first | refine ss (Pc rfl) ?_ | refine ss (Pa rfl (by omega) (by omega)) ?_ | (refine sb rfl ?_ ?_ <;> intro hq <;> try (exfalso; omega)) | refine ss (Pi rfl (by omega)) ?_ | refine ss (Pl rfl) ?_ | refine ss (Px rfl rfl) ?_ | refine ss (Pj rfl (by omega) (by omega)) ?_ | refine ss (Pk rfl (by omega) (by omega)) ?_ | refine ss (Pf rfl) ?_ | refine ss (Pv rfl (by omega) (by omega)) ?_ | refine ss (Pn rfl) ?_ | refine ss (Pm rfl) ?_ | refine OS_nil ?_))); (repeat' (first | (refine isO ?_; first | refine oo (Pc rfl) ?_ | refine oo (Pa rfl (by omega) (by omega)) ?_ | (refine ob rfl ?_ ?_ <;> intro hq <;> try (exfalso; omega)) | refine oo (Pi rfl (by omega)) ?_ | refine oo (Pl rfl) ?_ | refine oo (Px rfl rfl) ?_ | refine oo (Pj rfl (by omega) (by omega)) ?_ | refine oo (Pk rfl (by omega) (by omega)) ?_ | refine oo (Pf rfl) ?_ | refine oo (Pv rfl (by omega) (by omega)) ?_ | refine oo (Pn rfl) ?_ | refine oo (Pm rfl) ?_ | refine os rfl rfl ?_ | refine ot rfl (by omega) ?_ | refine O_nil ?_) | refine wo rfl ?_ | refine wc rfl ?_ | refine wg rfl ?_ | refine go rfl ?_ | refine gc rfl ?_ | refine gg rfl ?_)); exact G_stop ⟨i + 1, by omega, by omega, ⟨rfl, rfl, rfl, rfl, trivial⟩, .drop (.drop .rfl)⟩)
      · ((repeat' (first | (refine isO ?_; first | refine oo (Pc rfl) ?_ | refine oo (Pa rfl (by omega) (by omega)) ?_ | (refine ob rfl ?_ ?_ <;> intro hq <;> try (exfalso; omega)) | refine oo (Pi rfl (by omega)) ?_ | refine oo (Pl rfl) ?_ | refine oo (Px rfl rfl) ?_ | refine oo (Pj rfl (by omega) (by omega)) ?_ | refine oo (Pk rfl (by omega) (by omega)) ?_ | refine oo (Pf rfl) ?_ | refine oo (Pv rfl (by omega) (by omega)) ?_ | refine oo (Pn rfl) ?_ | refine oo (Pm rfl) ?_ | refine os rfl rfl ?_ | refine ot rfl (by omega) ?_ | refine O_nil ?_) | refine wo rfl ?_ | refine wc rfl ?_ | refine wg rfl ?_ | refine go rfl ?_ | refine gc rfl ?_ | refine gg rfl ?_)); refine O_pure (P_loadAt (o := 0) (n := i * 4) Tb.p40 rfl (by omega) hm0 hL0) trivial rfl ?_; (repeat' (first | (refine isO ?_; first | refine oo (Pc rfl) ?_ | refine oo (Pa rfl (by omega) (by omega)) ?_ | (refine ob rfl ?_ ?_ <;> intro hq <;> try (exfalso; omega)) | refine oo (Pi rfl (by omega)) ?_ | refine oo (Pl rfl) ?_ | refine oo (Px rfl rfl) ?_ | refine oo (Pj rfl (by omega) (by omega)) ?_ | refine oo (Pk rfl (by omega) (by omega)) ?_ | refine oo (Pf rfl) ?_ | refine oo (Pv rfl (by omega) (by omega)) ?_ | refine oo (Pn rfl) ?_ | refine oo (Pm rfl) ?_ | refine os rfl rfl ?_ | refine ot rfl (by omega) ?_ | refine O_nil ?_) | refine wo rfl ?_ | refine wc rfl ?_ | refine wg rfl ?_ | refine go rfl ?_ | refine gc rfl ?_ | refine gg rfl ?_)); refine O_call rfl rfl Tb.k26 trivial rfl (hcA MM hm1 (by omega) (by omega) rfl hv hsA hua) ?_; rintro _ _ ⟨rfl, hrk⟩; refine O_weak hrk ?_; clear hrk; (repeat' (first | (refine isO ?_; first | refine oo (Pc rfl) ?_ | refine oo (Pa rfl (by omega) (by omega)) ?_ | (refine ob rfl ?_ ?_ <;> intro hq <;> try (exfalso; omega)) | refine oo (Pi rfl (by omega)) ?_ | refine oo (Pl rfl) ?_ | refine oo (Px rfl rfl) ?_ | refine oo (Pj rfl (by omega) (by omega)) ?_ | refine oo (Pk rfl (by omega) (by omega)) ?_ | refine oo (Pf rfl) ?_ | refine oo (Pv rfl (by omega) (by omega)) ?_ | refine oo (Pn rfl) ?_ | refine oo (Pm rfl) ?_ | refine os rfl rfl ?_ | refine ot rfl (by omega) ?_ | refine O_nil ?_) | refine wo rfl ?_ | refine wc rfl ?_ | refine wg rfl ?_ | refine go rfl ?_ | refine gc rfl ?_ | refine gg rfl ?_)); refine O_alloc zero42 trivial rfl fun bx => ?_; (repeat' (first | (refine isO ?_; first | refine oo (Pc rfl) ?_ | refine oo (Pa rfl (by omega) (by omega)) ?_ | (refine ob rfl ?_ ?_ <;> intro hq <;> try (exfalso; omega)) | refine oo (Pi rfl (by omega)) ?_ | refine oo (Pl rfl) ?_ | refine oo (Px rfl rfl) ?_ | refine oo (Pj rfl (by omega) (by omega)) ?_ | refine oo (Pk rfl (by omega) (by omega)) ?_ | refine oo (Pf rfl) ?_ | refine oo (Pv rfl (by omega) (by omega)) ?_ | refine oo (Pn rfl) ?_ | refine oo (Pm rfl) ?_ | refine os rfl rfl ?_ | refine ot rfl (by omega) ?_ | refine O_nil ?_) | refine wo rfl ?_ | refine wc rfl ?_ | refine wg rfl ?_ | refine go rfl ?_ | refine gc rfl ?_ | refine gg rfl ?_)); refine O_storeAgg0 (cs := (LL.getD i Cd.zero).cells) Tb.c42 (by decide) rfl rfl rfl (Cd.cells_one _) trivial .head rfl ?_; (repeat' (first | (refine isO ?_; first | refine oo (Pc rfl) ?_ | refine oo (Pa rfl (by omega) (by omega)) ?_ | (refine ob rfl ?_ ?_ <;> intro hq <;> try (exfalso; omega)) | refine oo (Pi rfl (by omega)) ?_ | refine oo (Pl rfl) ?_ | refine oo (Px rfl rfl) ?_ | refine oo (Pj rfl (by omega) (by omega)) ?_ | refine oo (Pk rfl (by omega) (by omega)) ?_ | refine oo (Pf rfl) ?_ | refine oo (Pv rfl (by omega) (by omega)) ?_ | refine oo (Pn rfl) ?_ | refine oo (Pm rfl) ?_ | refine os rfl rfl ?_ | refine ot rfl (by omega) ?_ | refine O_nil ?_) | refine wo rfl ?_ | refine wc rfl ?_ | refine wg rfl ?_ | refine go rfl ?_ | refine gc rfl ?_ | refine gg rfl ?_)); refine O_pure (P_loadAt (o := 0) (n := i * 4) Tb.p40 rfl (by omega) (.tail _ hm0) hL0) trivial rfl ?_; (repeat' (first | (refine isO ?_; first | refine oo (Pc rfl) ?_ | refine oo (Pa rfl (by omega) (by omega)) ?_ | (refine ob rfl ?_ ?_ <;> intro hq <;> try (exfalso; omega)) | refine oo (Pi rfl (by omega)) ?_ | refine oo (Pl rfl) ?_ | refine oo (Px rfl rfl) ?_ | refine oo (Pj rfl (by omega) (by omega)) ?_ | refine oo (Pk rfl (by omega) (by omega)) ?_ | refine oo (Pf rfl) ?_ | refine oo (Pv rfl (by omega) (by omega)) ?_ | refine oo (Pn rfl) ?_ | refine oo (Pm rfl) ?_ | refine os rfl rfl ?_ | refine ot rfl (by omega) ?_ | refine O_nil ?_) | refine wo rfl ?_ | refine wc rfl ?_ | refine wg rfl ?_ | refine go rfl ?_ | refine gc rfl ?_ | refine gg rfl ?_)); refine O_call rfl rfl Tb.k26 trivial rfl (hcB (⟨true, bx, 0, (LL.getD i Cd.zero).cells⟩ :: MM) (.tail _ hm2) (by omega) (by omega) rfl hv hsB hub) ?_; rintro _ _ ⟨rfl, hrk⟩; refine O_weak hrk ?_; clear hrk; (repeat' (first | (refine isO ?_; first | refine oo (Pc rfl) ?_ | refine oo (Pa rfl (by omega) (by omega)) ?_ | (refine ob rfl ?_ ?_ <;> intro hq <;> try (exfalso; omega)) | refine oo (Pi rfl (by omega)) ?_ | refine oo (Pl rfl) ?_ | refine oo (Px rfl rfl) ?_ | refine oo (Pj rfl (by omega) (by omega)) ?_ | refine oo (Pk rfl (by omega) (by omega)) ?_ | refine oo (Pf rfl) ?_ | refine oo (Pv rfl (by omega) (by omega)) ?_ | refine oo (Pn rfl) ?_ | refine oo (Pm rfl) ?_ | refine os rfl rfl ?_ | refine ot rfl (by omega) ?_ | refine O_nil ?_) | refine wo rfl ?_ | refine wc rfl ?_ | refine wg rfl ?_ | refine go rfl ?_ | refine gc rfl ?_ | refine gg rfl ?_)); refine O_alloc zero42 trivial rfl fun by1 => ?_; (repeat' (first | (refine isO ?_; first | refine oo (Pc rfl) ?_ | refine oo (Pa rfl (by omega) (by omega)) ?_ | (refine ob rfl ?_ ?_ <;> intro hq <;> try (exfalso; omega)) | refine oo (Pi rfl (by omega)) ?_ | refine oo (Pl rfl) ?_ | refine oo (Px rfl rfl) ?_ | refine oo (Pj rfl (by omega) (by omega)) ?_ | refine oo (Pk rfl (by omega) (by omega)) ?_ | refine oo (Pf rfl) ?_ | refine oo (Pv rfl (by omega) (by omega)) ?_ | refine oo (Pn rfl) ?_ | refine oo (Pm rfl) ?_ | refine os rfl rfl ?_ | refine ot rfl (by omega) ?_ | refine O_nil ?_) | refine wo rfl ?_ | refine wc rfl ?_ | refine wg rfl ?_ | refine go rfl ?_ | refine gc rfl ?_ | refine gg rfl ?_)); refine O_storeAgg0 (cs := (LL.getD i Cd.zero).cells) Tb.c42 (by decide) rfl rfl rfl (Cd.cells_one _) trivial .head rfl ?_; (repeat' (first | (refine isO ?_; first | refine oo (Pc rfl) ?_ | refine oo (Pa rfl (by omega) (by omega)) ?_ | (refine ob rfl ?_ ?_ <;> intro hq <;> try (exfalso; omega)) | refine oo (Pi rfl (by omega)) ?_ | refine oo (Pl rfl) ?_ | refine oo (Px rfl rfl) ?_ | refine oo (Pj rfl (by omega) (by omega)) ?_ | refine oo (Pk rfl (by omega) (by omega)) ?_ | refine oo (Pf rfl) ?_ | refine oo (Pv rfl (by omega) (by omega)) ?_ | refine oo (Pn rfl) ?_ | refine oo (Pm rfl) ?_ | refine os rfl rfl ?_ | refine ot rfl (by omega) ?_ | refine O_nil ?_) | refine wo rfl ?_ | refine wc rfl ?_ | refine wg rfl ?_ | refine go rfl ?_ | refine gc rfl ?_ | refine gg rfl ?_)); refine W_region_still Tb.mixed (by kernel_rfl) ?_; (repeat' (first | (refine isS ?_; first | refine ss (Pc rfl) ?_ | refine ss (Pa rfl (by omega) (by omega)) ?_ | (refine sb rfl ?_ ?_ <;> intro hq <;> try (exfalso; omega)) | refine ss (Pi rfl (by omega)) ?_ | refine ss (Pl rfl) ?_ | refine ss (Px rfl rfl) ?_ | refine ss (Pj rfl (by omega) (by omega)) ?_ | refine ss (Pk rfl (by omega) (by omega)) ?_ | refine ss (Pf rfl) ?_ | refine ss (Pv rfl (by omega) (by omega)) ?_ | refine ss (Pn rfl) ?_ | refine ss (Pm rfl) ?_ | refine OS_nil ?_))); refine OS_pure (P_loadAggAt (o := 0) (i := 0) (cs := (LL.getD i Cd.zero).cells) Tb.a42 Tb.c42 (by decide) rfl rfl (.tail _ (.head _)) (Nat.le_refl 4) rfl) (by first | exact trivial | exact ⟨_, rfl, rfl⟩) rfl ?_; (repeat' (first | (refine isS ?_; first | refine ss (Pc rfl) ?_ | refine ss (Pa rfl (by omega) (by omega)) ?_ | (refine sb rfl ?_ ?_ <;> intro hq <;> try (exfalso; omega)) | refine ss (Pi rfl (by omega)) ?_ | refine ss (Pl rfl) ?_ | refine ss (Px rfl rfl) ?_ | refine ss (Pj rfl (by omega) (by omega)) ?_ | refine ss (Pk rfl (by omega) (by omega)) ?_ | refine ss (Pf rfl) ?_ | refine ss (Pv rfl (by omega) (by omega)) ?_ | refine ss (Pn rfl) ?_ | refine ss (Pm rfl) ?_ | refine OS_nil ?_))); refine OS_pure (P_loadAggAt (o := 0) (i := i * 4) (cs := (LL.getD i Cd.zero).cells) Tb.a42 Tb.c42 (by decide) rfl (by omega) (.tail _ (.tail _ hm0)) (by rw [List.length_append, codesV_length]; omega) hblk) (by first | exact trivial | exact ⟨_, rfl, rfl⟩) rfl ?_; refine OS_pure (P_neq42 rfl rfl) (by first | exact trivial | exact ⟨_, rfl, rfl⟩) rfl ?_; (repeat' (first | (refine isS ?_; first | refine ss (Pc rfl) ?_ | refine ss (Pa rfl (by omega) (by omega)) ?_ | (refine sb rfl ?_ ?_ <;> intro hq <;> try (exfalso; omega)) | refine ss (Pi rfl (by omega)) ?_ | refine ss (Pl rfl) ?_ | refine ss (Px rfl rfl) ?_ | refine ss (Pj rfl (by omega) (by omega)) ?_ | refine ss (Pk rfl (by omega) (by omega)) ?_ | refine ss (Pf rfl) ?_ | refine ss (Pv rfl (by omega) (by omega)) ?_ | refine ss (Pn rfl) ?_ | refine ss (Pm rfl) ?_ | refine OS_nil ?_))); refine OS_pure (P_loadAggAt (o := 0) (i := 0) (cs := (LL.getD i Cd.zero).cells) Tb.a42 Tb.c42 (by decide) rfl rfl (.head _) (Nat.le_refl 4) rfl) (by first | exact trivial | exact ⟨_, rfl, rfl⟩) rfl ?_; (repeat' (first | (refine isS ?_; first | refine ss (Pc rfl) ?_ | refine ss (Pa rfl (by omega) (by omega)) ?_ | (refine sb rfl ?_ ?_ <;> intro hq <;> try (exfalso; omega)) | refine ss (Pi rfl (by omega)) ?_ | refine ss (Pl rfl) ?_ | refine ss (Px rfl rfl) ?_ | refine ss (Pj rfl (by omega) (by omega)) ?_ | refine ss (Pk rfl (by omega) (by omega)) ?_ | refine ss (Pf rfl) ?_ | refine ss (Pv rfl (by omega) (by omega)) ?_ | refine ss (Pn rfl) ?_ | refine ss (Pm rfl) ?_ | refine OS_nil ?_))); refine OS_pure (P_loadAggAt (o := 0) (i := i * 4) (cs := (LL.getD i Cd.zero).cells) Tb.a42 Tb.c42 (by decide) rfl (by omega) (.tail _ (.tail _ hm0)) (by rw [List.length_append, codesV_length]; omega) hblk) (by first | exact trivial | exact ⟨_, rfl, rfl⟩) rfl ?_; refine OS_pure (P_neq42 rfl rfl) (by first | exact trivial | exact ⟨_, rfl, rfl⟩) rfl ?_; (repeat' (first | (refine isS ?_; first | refine ss (Pc rfl) ?_ | refine ss (Pa rfl (by omega) (by omega)) ?_ | (refine sb rfl ?_ ?_ <;> intro hq <;> try (exfalso; omega)) | refine ss (Pi rfl (by omega)) ?_ | refine ss (Pl rfl) ?_ | refine ss (Px rfl rfl) ?_ | refine ss (Pj rfl (by omega) (by omega)) ?_ | refine ss (Pk rfl (by omega) (by omega)) ?_ | refine ss (Pf rfl) ?_ | refine ss (Pv rfl (by omega) (by omega)) ?_ | refine ss (Pn rfl) ?_ | refine ss (Pm rfl) ?_ | refine OS_nil ?_))); (repeat' (first | (refine isO ?_; first | refine oo (Pc rfl) ?_ | refine oo (Pa rfl (by omega) (by omega)) ?_ | (refine ob rfl ?_ ?_ <;> intro hq <;> try (exfalso; omega)) | refine oo (Pi rfl (by omega)) ?_ | refine oo (Pl rfl) ?_ | refine oo (Px rfl rfl) ?_ | refine oo (Pj rfl (by omega) (by omega)) ?_ | refine oo (Pk rfl (by omega) (by omega)) ?_ | refine oo (Pf rfl) ?_ | refine oo (Pv rfl (by omega) (by omega)) ?_ | refine oo (Pn rfl) ?_ | refine oo (Pm rfl) ?_ | refine os rfl rfl ?_ | refine ot rfl (by omega) ?_ | refine O_nil ?_) | refine wo rfl ?_ | refine wc rfl ?_ | refine wg rfl ?_ | refine go rfl ?_ | refine gc rfl ?_ | refine gg rfl ?_)); exact G_stop ⟨i + 1, by omega, by omega, ⟨rfl, rfl, rfl, rfl, trivial⟩, .drop (.drop .rfl)⟩)
    · obtain rfl : i = (turnL t xs).length := by omega
      (refine O_call rfl rfl Tb.k13 trivial rfl (awake_c _) ?_; rintro v M' ⟨rfl, hrk⟩; refine O_weak hrk ?_; clear hrk; (repeat' (first | (refine isO ?_; first | refine oo (Pc rfl) ?_ | refine oo (Pa rfl (by omega) (by omega)) ?_ | (refine ob rfl ?_ ?_ <;> intro hq <;> try (exfalso; omega)) | refine oo (Pi rfl (by omega)) ?_ | refine oo (Pl rfl) ?_ | refine oo (Px rfl rfl) ?_ | refine oo (Pj rfl (by omega) (by omega)) ?_ | refine oo (Pk rfl (by omega) (by omega)) ?_ | refine oo (Pf rfl) ?_ | refine oo (Pv rfl (by omega) (by omega)) ?_ | refine oo (Pn rfl) ?_ | refine oo (Pm rfl) ?_ | refine os rfl rfl ?_ | refine ot rfl (by omega) ?_ | refine O_nil ?_) | refine wo rfl ?_ | refine wc rfl ?_ | refine wg rfl ?_ | refine go rfl ?_ | refine gc rfl ?_ | refine gg rfl ?_)))
      exact G_fin ⟨_, rfl, rfl, .trans (Rk.right m2 _) (.trans (Rk.right m _) (Rk.right m1 M))⟩
end Go.Proofs.Ytjkpfliaflmppaa.Pc

namespace Go.Proofs.Ytjkpfliaflmppaa.Sh
open Go.ChangeShapes Go.WideShapes Go.ChangeAt Go.RowKit Go.Proofs.Ytjkpfliaflmppaa.Vm Go.Proofs.Ytjkpfliaflmppaa.Pc
set_option linter.unusedVariables false

theorem own : ownKnob Try.prog.godebug = none := by kernel_rfl
theorem cells5 : Try.prog.cellsOf 5 = 1 := by kernel_rfl

theorem laid : laidOutB Try.prog = true := by kernel_rfl
theorem Bs.mono {s : Value} {xs : List Nat} {M M' : Mem} (h : Bs s xs M) (hm : ∀ x ∈ M, x ∈ M') : Bs s xs M' := by
  obtain ⟨h1, ad, cap, h2, h3⟩ := h
  exact ⟨h1, ad, cap, h2, h3.imp id fun ⟨b, o, h4, h5⟩ => ⟨b, o, h4, hm _ h5⟩⟩

/-- A handed slice of bytes, as the engine has it. -/
theorem bytes_open {H : Type} {enc : TypeId × Value → H} {W : World} {ad : Option Addr} {len cap : Nat} {d : DataW H} {ps : List MemPlace} (h : DataW.Trod enc Try.prog W 0 (fun _ => true) true 22 (.slice ad len cap) d ps) :
    ∃ (xs : List Nat) (m : Mem), Bs (.slice ad len cap) xs m ∧ (∀ s ∈ m, s.own = false ∧ s.lies W.heap.size W) := by
  obtain ⟨fuel, hf⟩ := h
  rcases open_ints Try.underlying22 Try.underlying5 cells5 hf with ⟨hcs, hx⟩ | ⟨a, len', cap', zs, hcs, _, hl, hm, hz, hx, hcell, hwz⟩
  · simp [Value.cells] at hcs
    obtain ⟨rfl, rfl, rfl⟩ := hcs
    exact ⟨[], [], ⟨by simp, none, 0, rfl, .inl rfl⟩, by simp⟩
  · simp [Value.cells] at hcs
    obtain ⟨rfl, rfl, rfl⟩ := hcs
    simp only [if_true] at hz
    have hbyte : ∀ z ∈ zs, 0 ≤ z ∧ z ≤ 255 := fun z hz => by
      have := hwz z hz
      simpa [Lit.wf, IntKind.min, IntKind.max, IntKind.signed, IntKind.bits] using this
    have hlen : ((zs.take len).map Int.toNat).length = len := by simp; omega
    have hback : ((zs.take len).map Int.toNat).map (Nat.cast : Nat → Int) = zs.take len := by
      rw [List.map_map]
      conv => rhs; rw [← List.map_id (zs.take len)]
      apply List.map_congr_left
      intro z hz
      have := hbyte z (List.mem_of_mem_take hz)
      simp; omega
    have hlt : ∀ x ∈ (zs.take len).map Int.toNat, x < 256 := by
      intro x hx
      obtain ⟨z, hz, rfl⟩ := List.mem_map.1 hx
      have := hbyte z (List.mem_of_mem_take hz)
      omega
    by_cases h0 : len = 0
    · subst h0
      exact ⟨[], [], ⟨by simp, some a, cap, rfl, .inl rfl⟩, by simp⟩
    · obtain ⟨b, off, spot⟩ := a
      have hc0 := hcell 0 (by omega)
      have hsp : spot = none := by
        cases spot with
        | none => rfl
        | some s =>
          exfalso
          simp only [World.cell?, Addr.add] at hc0
          split at hc0 <;> (try split at hc0) <;> simp_all
      subst hsp
      refine ⟨_, [⟨false, b, off, ints .u8 (((zs.take len).map Int.toNat).map Nat.cast)⟩], ⟨hlt, some ⟨b, off, none⟩, cap, by rw [hlen], .inr ⟨b, off, rfl, .head _⟩⟩, ?_⟩
      intro s hs
      obtain rfl := List.mem_singleton.1 hs
      refine ⟨rfl, ?_⟩
      rw [hback]
      have hcell' : ∀ i, i < zs.length → W.cell? ⟨b, off + i, none⟩ = some (.int .u8 (zs.getD i 0)) := fun i hi => by rw [← add_place]; exact hcell i hi
      cases hh : W.heap[b]? with
      | none => have := hcell' 0 (by omega); simp [World.cell?, hh] at this
      | some o =>
        cases o with
        | cells c T f =>
          obtain ⟨lo, hi⟩ := f
          have hget : ∀ i, i < zs.length → c[off + i]? = some (.int .u8 (zs.getD i 0)) := fun i hi => by
            have := hcell' i hi
            simpa [World.cell?, hh] using this
          refine ⟨c, T, lo, hi, hh, ?_, fun i hi => ?_, fun h => by cases h⟩
          · have h1 := hget (len - 1) (by omega)
            have h2 := (Array.getElem?_eq_some_iff.1 h1).1
            simp only [ints_length, List.length_take]
            omega
          · simp only [ints_length, List.length_take] at hi
            rw [hget i (by omega), ints_get (by simp; omega)]
            simp [show i < len by omega, show i < zs.length by omega]
        | _ => have := hcell' 0 (by omega); simp [World.cell?, hh] at this

end Go.Proofs.Ytjkpfliaflmppaa.Sh

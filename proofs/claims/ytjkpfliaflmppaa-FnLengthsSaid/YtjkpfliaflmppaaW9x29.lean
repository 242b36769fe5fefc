/- laws.lined, walked: codes with symbols in order and lengths, of handed bytes; or false. For any bytes. Handed bytes, as the engine has them. No condition. Handed 32-bit numbers, as the engine has them. No condition. -/
import Derived.Test.YtjkpfliaflmppaaW9x27
import Derived.Test.YtjkpfliaflmppaaW9x28
import Derived.Test.YtjkpfliaflmppaaW9x10
import Derived.Test.YtjkpfliaflmppaaRows
import Derived.WalkKit
import Derived.ProofKit
import Derived.OpenShut
import Derived.Carry
import Derived.JoinedCond
import Derived.Test.YtjkpfliaflmppaaW9x17

namespace Go.Proofs.Ytjkpfliaflmppaa.Pc
open Go Go.RowKit Go.Proofs.Ytjkpfliaflmppaa.Vm Go.Proofs.Ytjkpfliaflmppaa.Rev

/-- A handed slice of bytes. -/
def Bs (s : Value) (xs : List Nat) (M : Mem) : Prop :=
  (∀ x ∈ xs, x < 256) ∧ ∃ ad cap, s = .slice ad xs.length cap ∧ (xs = [] ∨ ∃ b o, ad = some ⟨b, o, none⟩ ∧ (⟨false, b, o, ints .u8 (xs.map Nat.cast)⟩ : Sg) ∈ M)

theorem Bs.at {s : Value} {xs : List Nat} {M : Mem} {i : Nat} (h : Bs s xs M) (hi : i < xs.length) :
    ∃ b o cap, s = .slice (some ⟨b, o, none⟩) xs.length cap ∧ (⟨false, b, o, ints .u8 (xs.map Nat.cast)⟩ : Sg) ∈ M ∧ (ints .u8 (xs.map Nat.cast))[i]? = some (.int .u8 (xs.getD i 0 : Nat)) ∧ xs.getD i 0 < 256 := by
  obtain ⟨h1, ad, cap, rfl, rfl | ⟨b, o, rfl, hm⟩⟩ := h
  · simp at hi
  · refine ⟨b, o, cap, rfl, hm, ?_, ?_⟩
    · rw [ints_get (by simpa using hi)]
      simp [hi]
    · rw [show xs.getD i 0 = xs[i] by simp [hi]]
      exact h1 _ (List.getElem_mem hi)

/-- The symbols: the first one, and how many more each next one is. -/
def symAt (first : Nat) (ss : List Nat) : Nat → Nat
  | 0 => first
  | i + 1 => symAt first ss i + 1 + (if i + 1 ≤ ss.length then ss.getD i 0 else 0)
theorem symAt_le (first : Nat) (ss : List Nat) (hf : first < 256) (hs : ∀ x ∈ ss, x < 256) : ∀ i, symAt first ss i < 256 * (i + 1)
  | 0 => by simpa [symAt] using hf
  | i + 1 => by
    have ih := symAt_le first ss hf hs i
    simp only [symAt]
    have : (if i + 1 ≤ ss.length then ss.getD i 0 else 0) < 256 := by
      split
      · rename_i h
        have hi : i < ss.length := by omega
        rw [show ss.getD i 0 = ss[i] by simp [hi]]
        exact hs _ (List.getElem_mem hi)
      · omega
    omega
def linedL (first : Nat) (ss ls : List Nat) : List Cd := (List.range ls.length).map fun i => ⟨symAt first ss i, 0, ls.getD i 0, 0⟩
theorem linedL_length (first : Nat) (ss ls : List Nat) : (linedL first ss ls).length = ls.length := by simp [linedL]
theorem linedL_get (first : Nat) (ss ls : List Nat) (i : Nat) (h : i < ls.length) : (linedL first ss ls).getD i Cd.zero = ⟨symAt first ss i, 0, ls.getD i 0, 0⟩ := by simp [linedL, h]
/-- Lengths that are spoken of. -/
def OkL (ls : List Nat) : Prop := 2 ≤ ls.length ∧ ls.length ≤ 60 ∧ ∀ i, i < ls.length → 1 ≤ ls.getD i 0 ∧ ls.getD i 0 ≤ 20

theorem lined_good (first : Nat) (ss ls : List Nat) (hf : first < 256) (hs : ∀ x ∈ ss, x < 256) (h : OkL ls) : Good (linedL first ss ls) := by
  obtain ⟨h1, h2, h3⟩ := h
  refine ⟨by rw [linedL_length]; exact h1, by rw [linedL_length]; exact h2, ?_, ?_, ?_⟩
  · intro c hc
    simp only [linedL, List.mem_map, List.mem_range] at hc
    obtain ⟨i, hi, rfl⟩ := hc
    exact h3 i hi
  · intro i hi
    rw [linedL_length] at hi
    rw [linedL_get _ _ _ _ (by omega), linedL_get _ _ _ _ hi]
    simp only [symAt]
    omega
  · intro c hc
    simp only [linedL, List.mem_map, List.mem_range] at hc
    obtain ⟨i, hi, rfl⟩ := hc
    have := symAt_le first ss hf hs i
    have : 256 * (i + 1) ≤ 256 * 61 := Nat.mul_le_mul_left _ (by omega)
    simp only
    omega

theorem build42e (a : Int) (n z : Nat) (h : a = (n : Int)) (w : World) : (Instr.build 42 [(0, .int .u32 a), (2, .int .u32 (z : Int))].toArray).run Try.prog w = .ok (.agg [.int .u32 (n : Int), .int .u32 (0 : Nat), .int .u32 (z : Int), .int .u32 (0 : Nat)].toArray) w := by
  subst h; exact build42s _ _ w

theorem lined_c (first : Nat) (s2 s3 : Value) (ss ls : List Nat) (M : Mem) (hf : first < 256) (h2 : Bs s2 ss M) (h3 : Bs s3 ls M) (hz : ss.length ≤ 2147483647) :
    HC Try.prog 12 #[.int .u8 first, s2, s3] M
      (fun v M' => (OkL ls ∧ ∃ sv m, Own sv 4 (codesV (linedL first ss ls)) m ∧ v = .tuple #[sv, .bool true] ∧ Rk M' (m ++ M)) ∨ (¬ OkL ls ∧ v = .tuple #[.slice none 0 0, .bool false] ∧ Rk M' M)) := by
  obtain ⟨I, hI, hI1, hI2, hI3⟩ := of_info info42
  obtain ⟨a2, c2, e2⟩ : ∃ a c, s2 = .slice a ss.length c := ⟨_, _, h2.2.choose_spec.choose_spec.1⟩
  obtain ⟨a3, c3, e3⟩ : ∃ a c, s3 = .slice a ls.length c := ⟨_, _, h3.2.choose_spec.choose_spec.1⟩
  subst e2
  subst e3
  refine HC_of_W (fn := Try.f12) Try.func12 rfl rfl rfl rfl ?_
  repeat' (first | (refine isO ?_; first | refine oo (Pc rfl) ?_ | refine oo (Pa rfl (by omega) (by omega)) ?_ | (refine ob rfl ?_ ?_ <;> intro hq <;> try (exfalso; omega)) | refine oo (Pi rfl (by omega)) ?_ | refine oo (Pl rfl) ?_ | refine oo (Px rfl rfl) ?_ | refine oo (Pj rfl (by omega) (by omega)) ?_ | refine oo (Pk rfl (by omega) (by omega)) ?_ | refine oo (Pf rfl) ?_ | refine oo (Pv rfl (by omega) (by omega)) ?_ | refine oo (Pn rfl) ?_ | refine oo (Pm rfl) ?_ | refine os rfl rfl ?_ | refine ot rfl (by omega) ?_ | refine O_nil ?_) | refine wo rfl ?_ | refine wc rfl ?_ | refine wg rfl ?_ | refine go rfl ?_ | refine gc rfl ?_ | refine gg rfl ?_)
  · refine G_fin ⟨_, rfl, .inr ⟨fun h => ?_, rfl, .rfl⟩⟩
    have := h.1
    omega
  · refine G_fin ⟨_, rfl, .inr ⟨fun h => ?_, rfl, .rfl⟩⟩
    have := h.2.1
    omega
  have hsym := symAt_le first ss hf h2.1
  refine W_loop (α := Nat × Value × Mem) (fun x => [(0, .int .u8 first), (1, .slice a2 ss.length c2), (2, .slice a3 ls.length c3), (8, x.2.1), (9, .int .u32 (symAt first ss (x.1 - 1) : Nat)), (10, .int .i64 x.1)])
    (fun x => x.2.2 ++ M) (fun x => x.1 ≤ ls.length ∧ Own x.2.1 4 (codesV ((linedL first ss ls).take x.1)) x.2.2 ∧ ∀ j, j < x.1 → 1 ≤ ls.getD j 0 ∧ ls.getD j 0 ≤ 20) (fun x => ls.length - x.1)
    (0, .slice none 0 0, []) ⟨by omega, .inl ⟨rfl, by simp [codesV], rfl⟩, by intro j hj; omega⟩ ⟨rfl, rfl, rfl, rfl, rfl, rfl, trivial⟩ .rfl ?_
  rintro ⟨i, sv, m⟩ ⟨hi, hown, hall⟩
  dsimp only at hi hown hall ⊢
  repeat' (first | (refine isO ?_; first | refine oo (Pc rfl) ?_ | refine oo (Pa rfl (by omega) (by omega)) ?_ | (refine ob rfl ?_ ?_ <;> intro hq <;> try (exfalso; omega)) | refine oo (Pi rfl (by omega)) ?_ | refine oo (Pl rfl) ?_ | refine oo (Px rfl rfl) ?_ | refine oo (Pj rfl (by omega) (by omega)) ?_ | refine oo (Pk rfl (by omega) (by omega)) ?_ | refine oo (Pf rfl) ?_ | refine oo (Pv rfl (by omega) (by omega)) ?_ | refine oo (Pn rfl) ?_ | refine oo (Pm rfl) ?_ | refine os rfl rfl ?_ | refine ot rfl (by omega) ?_ | refine O_nil ?_) | refine wo rfl ?_ | refine wc rfl ?_ | refine wg rfl ?_ | refine go rfl ?_ | refine gc rfl ?_ | refine gg rfl ?_)
  · have hil : i < ls.length := by omega
    obtain ⟨b, o, cap, e, hm, hg, hlt⟩ := h3.at hil
    cases e
    have hm' : (⟨false, b, o, ints .u8 (ls.map Nat.cast)⟩ : Sg) ∈ m ++ M := List.mem_append_right _ hm
    obtain ⟨z, hzz⟩ : ∃ z, ls.getD i 0 = z := ⟨_, rfl⟩
    rw [hzz] at hg hlt
    have hsy := hsym (i - 1)
    repeat' (first | (refine isO ?_; first | refine oo (Pc rfl) ?_ | refine oo (Pa rfl (by omega) (by omega)) ?_ | (refine ob rfl ?_ ?_ <;> intro hq <;> try (exfalso; omega)) | refine oo (Pi rfl (by omega)) ?_ | refine oo (Pl rfl) ?_ | refine oo (Px rfl rfl) ?_ | refine oo (Pj rfl (by omega) (by omega)) ?_ | refine oo (Pk rfl (by omega) (by omega)) ?_ | refine oo (Pf rfl) ?_ | refine oo (Pv rfl (by omega) (by omega)) ?_ | refine oo (Pn rfl) ?_ | refine oo (Pm rfl) ?_ | refine os rfl rfl ?_ | refine ot rfl (by omega) ?_ | refine O_nil ?_) | refine wo rfl ?_ | refine wc rfl ?_ | refine wg rfl ?_ | refine go rfl ?_ | refine gc rfl ?_ | refine gg rfl ?_)
    refine O_pure (P_loadAt (o := o) (n := i) Tb.p5 rfl (by omega) hm' hg) trivial rfl ?_
    repeat' (first | (refine isO ?_; first | refine oo (Pc rfl) ?_ | refine oo (Pa rfl (by omega) (by omega)) ?_ | (refine ob rfl ?_ ?_ <;> intro hq <;> try (exfalso; omega)) | refine oo (Pi rfl (by omega)) ?_ | refine oo (Pl rfl) ?_ | refine oo (Px rfl rfl) ?_ | refine oo (Pj rfl (by omega) (by omega)) ?_ | refine oo (Pk rfl (by omega) (by omega)) ?_ | refine oo (Pf rfl) ?_ | refine oo (Pv rfl (by omega) (by omega)) ?_ | refine oo (Pn rfl) ?_ | refine oo (Pm rfl) ?_ | refine os rfl rfl ?_ | refine ot rfl (by omega) ?_ | refine O_nil ?_) | refine wo rfl ?_ | refine wc rfl ?_ | refine wg rfl ?_ | refine go rfl ?_ | refine gc rfl ?_ | refine gg rfl ?_)
    · refine G_fin ⟨_, rfl, .inr ⟨fun h => ?_, rfl, Rk.right m M⟩⟩
      have := (h.2.2 i hil).1
      omega
    have hget : (linedL first ss ls).getD i Cd.zero = ⟨symAt first ss i, 0, z, 0⟩ := by rw [linedL_get _ _ _ _ hil, hzz]
    have htake := codesV_take (linedL first ss ls) i (by rw [linedL_length]; exact hil)
    rw [hget] at htake
    have hall' : z ≤ 20 → ∀ j, j < i + 1 → 1 ≤ ls.getD j 0 ∧ ls.getD j 0 ≤ 20 := by
      intro hz20 j hj
      by_cases hji : j = i
      · subst hji; rw [hzz]; omega
      · exact hall j (by omega)
    have hlen : (codesV ((linedL first ss ls).take i)).length = i * 4 := by rw [codesV_length, List.length_take, linedL_length]; omega
    refine O_pure (P_loadAt (o := o) (n := i) Tb.p5 rfl (by omega) hm' hg) ⟨_, rfl, rfl⟩ rfl ?_
    repeat' (first | (refine isO ?_; first | refine oo (Pc rfl) ?_ | refine oo (Pa rfl (by omega) (by omega)) ?_ | (refine ob rfl ?_ ?_ <;> intro hq <;> try (exfalso; omega)) | refine oo (Pi rfl (by omega)) ?_ | refine oo (Pl rfl) ?_ | refine oo (Px rfl rfl) ?_ | refine oo (Pj rfl (by omega) (by omega)) ?_ | refine oo (Pk rfl (by omega) (by omega)) ?_ | refine oo (Pf rfl) ?_ | refine oo (Pv rfl (by omega) (by omega)) ?_ | refine oo (Pn rfl) ?_ | refine oo (Pm rfl) ?_ | refine os rfl rfl ?_ | refine ot rfl (by omega) ?_ | refine O_nil ?_) | refine wo rfl ?_ | refine wc rfl ?_ | refine wg rfl ?_ | refine go rfl ?_ | refine gc rfl ?_ | refine gg rfl ?_)
    · refine G_fin ⟨_, rfl, .inr ⟨fun h => ?_, rfl, Rk.right m M⟩⟩
      have := (h.2.2 i hil).2
      omega
    · obtain ⟨k, rfl⟩ : ∃ k, i = k + 1 := ⟨i - 1, by omega⟩
      have hks : k < ss.length := by omega
      obtain ⟨bs, os, caps, es, hms, hgs, hlts⟩ := h2.at hks
      cases es
      refine O_pure (P_index1 Tb.u22 Tb.c5 rfl rfl (by omega) (by omega)) trivial rfl ?_
      refine O_pure (P_loadAt (o := os) (n := k) Tb.p5 rfl (by omega) (List.mem_append_right _ hms) hgs) trivial rfl ?_
      repeat' (first | (refine isO ?_; first | refine oo (Pc rfl) ?_ | refine oo (Pa rfl (by omega) (by omega)) ?_ | (refine ob rfl ?_ ?_ <;> intro hq <;> try (exfalso; omega)) | refine oo (Pi rfl (by omega)) ?_ | refine oo (Pl rfl) ?_ | refine oo (Px rfl rfl) ?_ | refine oo (Pj rfl (by omega) (by omega)) ?_ | refine oo (Pk rfl (by omega) (by omega)) ?_ | refine oo (Pf rfl) ?_ | refine oo (Pv rfl (by omega) (by omega)) ?_ | refine oo (Pn rfl) ?_ | refine oo (Pm rfl) ?_ | refine os rfl rfl ?_ | refine ot rfl (by omega) ?_ | refine O_nil ?_) | refine wo rfl ?_ | refine wc rfl ?_ | refine wg rfl ?_ | refine go rfl ?_ | refine gc rfl ?_ | refine gg rfl ?_)
      have hs : ((symAt first ss (k + 1 - 1) : Nat) : Int) + 1 + ((ss.getD k 0 : Nat) : Int) = ((symAt first ss (k + 1) : Nat) : Int) := by
        simp only [symAt, Nat.add_sub_cancel]
        rw [if_pos (by omega)]
        omega
      (refine O_pure (P_loadAt (o := o) Tb.p5 rfl (by omega) hm' hg) trivial rfl ?_; (repeat' (first | (refine isO ?_; first | refine oo (Pc rfl) ?_ | refine oo (Pa rfl (by omega) (by omega)) ?_ | (refine ob rfl ?_ ?_ <;> intro hq <;> try (exfalso; omega)) | refine oo (Pi rfl (by omega)) ?_ | refine oo (Pl rfl) ?_ | refine oo (Px rfl rfl) ?_ | refine oo (Pj rfl (by omega) (by omega)) ?_ | refine oo (Pk rfl (by omega) (by omega)) ?_ | refine oo (Pf rfl) ?_ | refine oo (Pv rfl (by omega) (by omega)) ?_ | refine oo (Pn rfl) ?_ | refine oo (Pm rfl) ?_ | refine os rfl rfl ?_ | refine ot rfl (by omega) ?_ | refine O_nil ?_) | refine wo rfl ?_ | refine wc rfl ?_ | refine wg rfl ?_ | refine go rfl ?_ | refine gc rfl ?_ | refine gg rfl ?_)); refine O_pure (P_build rfl (build42e _ _ z hs)) trivial rfl ?_; refine O_buildSlice rfl (row23_1 _ _ _ _) trivial rfl fun by1 => ?_; refine O_append (m := m) (M0 := ⟨true, by1, 0, _⟩ :: M) Tb.u23 Tb.u23 hI hI1 (by decide) (by omega) hI3 rfl rfl rfl hown (.perm List.perm_middle.symm) hlen (.head _) (Nat.le_refl 4) (Cd.cells_one ⟨_, 0, z, 0⟩) (.inl (by omega)) (by rw [hI2]; omega) trivial rfl fun b2 c2' s2 h2' => ?_; (repeat' (first | (refine isO ?_; first | refine oo (Pc rfl) ?_ | refine oo (Pa rfl (by omega) (by omega)) ?_ | (refine ob rfl ?_ ?_ <;> intro hq <;> try (exfalso; omega)) | refine oo (Pi rfl (by omega)) ?_ | refine oo (Pl rfl) ?_ | refine oo (Px rfl rfl) ?_ | refine oo (Pj rfl (by omega) (by omega)) ?_ | refine oo (Pk rfl (by omega) (by omega)) ?_ | refine oo (Pf rfl) ?_ | refine oo (Pv rfl (by omega) (by omega)) ?_ | refine oo (Pn rfl) ?_ | refine oo (Pm rfl) ?_ | refine os rfl rfl ?_ | refine ot rfl (by omega) ?_ | refine O_nil ?_) | refine wo rfl ?_ | refine wc rfl ?_ | refine wg rfl ?_ | refine go rfl ?_ | refine gc rfl ?_ | refine gg rfl ?_)); refine G_stop ⟨(_ + 1, .slice (some ⟨b2, 0, none⟩) _ c2', [⟨true, b2, 0, codesV ((linedL first ss ls).take _) ++ s2⟩]), ⟨by omega, .inr ⟨b2, _, c2', s2, rfl, rfl, by (rw [codesV_length, List.length_take, linedL_length]; omega), by (rw [← htake]; exact h2')⟩, hall' (by omega)⟩, by (dsimp only; omega), ⟨rfl, rfl, rfl, rfl, congrArg (fun q => some (Value.int .u32 q)) hs, rfl, trivial⟩, by (dsimp only; rw [← htake]; exact .cons .head (.drop .rfl))⟩)
    · obtain ⟨k, rfl⟩ : ∃ k, i = k + 1 := ⟨i - 1, by omega⟩
      have hs : ((symAt first ss (k + 1 - 1) : Nat) : Int) + 1 = ((symAt first ss (k + 1) : Nat) : Int) := by
        simp only [symAt, Nat.add_sub_cancel]
        rw [if_neg (by omega)]
        omega
      (refine O_pure (P_loadAt (o := o) Tb.p5 rfl (by omega) hm' hg) trivial rfl ?_; (repeat' (first | (refine isO ?_; first | refine oo (Pc rfl) ?_ | refine oo (Pa rfl (by omega) (by omega)) ?_ | (refine ob rfl ?_ ?_ <;> intro hq <;> try (exfalso; omega)) | refine oo (Pi rfl (by omega)) ?_ | refine oo (Pl rfl) ?_ | refine oo (Px rfl rfl) ?_ | refine oo (Pj rfl (by omega) (by omega)) ?_ | refine oo (Pk rfl (by omega) (by omega)) ?_ | refine oo (Pf rfl) ?_ | refine oo (Pv rfl (by omega) (by omega)) ?_ | refine oo (Pn rfl) ?_ | refine oo (Pm rfl) ?_ | refine os rfl rfl ?_ | refine ot rfl (by omega) ?_ | refine O_nil ?_) | refine wo rfl ?_ | refine wc rfl ?_ | refine wg rfl ?_ | refine go rfl ?_ | refine gc rfl ?_ | refine gg rfl ?_)); refine O_pure (P_build rfl (build42e _ _ z hs)) trivial rfl ?_; refine O_buildSlice rfl (row23_1 _ _ _ _) trivial rfl fun by1 => ?_; refine O_append (m := m) (M0 := ⟨true, by1, 0, _⟩ :: M) Tb.u23 Tb.u23 hI hI1 (by decide) (by omega) hI3 rfl rfl rfl hown (.perm List.perm_middle.symm) hlen (.head _) (Nat.le_refl 4) (Cd.cells_one ⟨_, 0, z, 0⟩) (.inl (by omega)) (by rw [hI2]; omega) trivial rfl fun b2 c2' s2 h2' => ?_; (repeat' (first | (refine isO ?_; first | refine oo (Pc rfl) ?_ | refine oo (Pa rfl (by omega) (by omega)) ?_ | (refine ob rfl ?_ ?_ <;> intro hq <;> try (exfalso; omega)) | refine oo (Pi rfl (by omega)) ?_ | refine oo (Pl rfl) ?_ | refine oo (Px rfl rfl) ?_ | refine oo (Pj rfl (by omega) (by omega)) ?_ | refine oo (Pk rfl (by omega) (by omega)) ?_ | refine oo (Pf rfl) ?_ | refine oo (Pv rfl (by omega) (by omega)) ?_ | refine oo (Pn rfl) ?_ | refine oo (Pm rfl) ?_ | refine os rfl rfl ?_ | refine ot rfl (by omega) ?_ | refine O_nil ?_) | refine wo rfl ?_ | refine wc rfl ?_ | refine wg rfl ?_ | refine go rfl ?_ | refine gc rfl ?_ | refine gg rfl ?_)); refine G_stop ⟨(_ + 1, .slice (some ⟨b2, 0, none⟩) _ c2', [⟨true, b2, 0, codesV ((linedL first ss ls).take _) ++ s2⟩]), ⟨by omega, .inr ⟨b2, _, c2', s2, rfl, rfl, by (rw [codesV_length, List.length_take, linedL_length]; omega), by (rw [← htake]; exact h2')⟩, hall' (by omega)⟩, by (dsimp only; omega), ⟨rfl, rfl, rfl, rfl, congrArg (fun q => some (Value.int .u32 q)) hs, rfl, trivial⟩, by (dsimp only; rw [← htake]; exact .cons .head (.drop .rfl))⟩)
    · obtain rfl : i = 0 := by omega
      have hs : ((symAt first ss (0 - 1) : Nat) : Int) = ((symAt first ss 0 : Nat) : Int) := rfl
      (refine O_pure (P_loadAt (o := o) Tb.p5 rfl (by omega) hm' hg) trivial rfl ?_; (repeat' (first | (refine isO ?_; first | refine oo (Pc rfl) ?_ | refine oo (Pa rfl (by omega) (by omega)) ?_ | (refine ob rfl ?_ ?_ <;> intro hq <;> try (exfalso; omega)) | refine oo (Pi rfl (by omega)) ?_ | refine oo (Pl rfl) ?_ | refine oo (Px rfl rfl) ?_ | refine oo (Pj rfl (by omega) (by omega)) ?_ | refine oo (Pk rfl (by omega) (by omega)) ?_ | refine oo (Pf rfl) ?_ | refine oo (Pv rfl (by omega) (by omega)) ?_ | refine oo (Pn rfl) ?_ | refine oo (Pm rfl) ?_ | refine os rfl rfl ?_ | refine ot rfl (by omega) ?_ | refine O_nil ?_) | refine wo rfl ?_ | refine wc rfl ?_ | refine wg rfl ?_ | refine go rfl ?_ | refine gc rfl ?_ | refine gg rfl ?_)); refine O_pure (P_build rfl (build42e _ _ z hs)) trivial rfl ?_; refine O_buildSlice rfl (row23_1 _ _ _ _) trivial rfl fun by1 => ?_; refine O_append (m := m) (M0 := ⟨true, by1, 0, _⟩ :: M) Tb.u23 Tb.u23 hI hI1 (by decide) (by omega) hI3 rfl rfl rfl hown (.perm List.perm_middle.symm) hlen (.head _) (Nat.le_refl 4) (Cd.cells_one ⟨_, 0, z, 0⟩) (.inl (by omega)) (by rw [hI2]; omega) trivial rfl fun b2 c2' s2 h2' => ?_; (repeat' (first | (refine isO ?_; first | refine oo (Pc rfl) ?_ | refine oo (Pa rfl (by omega) (by omega)) ?_ | (refine ob rfl ?_ ?_ <;> intro hq <;> try (exfalso; omega)) | refine oo (Pi rfl (by omega)) ?_ | refine oo (Pl rfl) ?_ | refine oo (Px rfl rfl) ?_ | refine oo (Pj rfl (by omega) (by omega)) ?_ | refine oo (Pk rfl (by omega) (by omega)) ?_ | refine oo (Pf rfl) ?_ | refine oo (Pv rfl (by omega) (by omega)) ?_ | refine oo (Pn rfl) ?_ | refine oo (Pm rfl) ?_ | refine os rfl rfl ?_ | refine ot rfl (by omega) ?_ | refine O_nil ?_) | refine wo rfl ?_ | refine wc rfl ?_ | refine wg rfl ?_ | refine go rfl ?_ | refine gc rfl ?_ | refine gg rfl ?_)); refine G_stop ⟨(_ + 1, .slice (some ⟨b2, 0, none⟩) _ c2', [⟨true, b2, 0, codesV ((linedL first ss ls).take _) ++ s2⟩]), ⟨by omega, .inr ⟨b2, _, c2', s2, rfl, rfl, by (rw [codesV_length, List.length_take, linedL_length]; omega), by (rw [← htake]; exact h2')⟩, hall' (by omega)⟩, by (dsimp only; omega), ⟨rfl, rfl, rfl, rfl, congrArg (fun q => some (Value.int .u32 q)) hs, rfl, trivial⟩, by (dsimp only; rw [← htake]; exact .cons .head (.drop .rfl))⟩)
  · obtain rfl : i = ls.length := by omega
    rw [← linedL_length first ss ls, List.take_length] at hown
    exact G_fin ⟨_, rfl, .inl ⟨⟨by omega, by omega, hall⟩, sv, m, hown, rfl, .rfl⟩⟩
end Go.Proofs.Ytjkpfliaflmppaa.Pc

namespace Go.Proofs.Ytjkpfliaflmppaa.Sh
open Go.ChangeShapes Go.WideShapes Go.ChangeAt Go.RowKit Go.Proofs.Ytjkpfliaflmppaa.Vm Go.Proofs.Ytjkpfliaflmppaa.Pc
set_option linter.unusedVariables false

theorem own : ownKnob Try.prog.godebug = none := by kernel_rfl
theorem cells5 : Try.prog.cellsOf 5 = 1 := by kernel_rfl

theorem laid : laidOutB Try.prog = true := by kernel_rfl
theorem Bs.mono {s : Value} {xs : List Nat} {M M' : Mem} (h : Bs s xs M) (hm : ∀ x ∈ M, x ∈ M') : Bs s xs M' := by
  obtain ⟨h1, ad, cap, h2, h3⟩ := h
  exact ⟨h1, ad, cap, h2, h3.imp id fun ⟨b, o, h4, h5⟩ => ⟨b, o, h4, hm _ h5⟩⟩

/-- A handed slice of bytes, as the engine has it. -/
theorem bytes_open {H : Type} {enc : TypeId × Value → H} {W : World} {ad : Option Addr} {len cap : Nat} {d : DataW H} {ps : List MemPlace} (h : DataW.Trod enc Try.prog W 0 (fun _ => true) true 22 (.slice ad len cap) d ps) :
    ∃ (xs : List Nat) (m : Mem), Bs (.slice ad len cap) xs m ∧ (∀ s ∈ m, s.own = false ∧ s.lies W.heap.size W) := by
  obtain ⟨fuel, hf⟩ := h
  rcases open_ints Try.underlying22 Try.underlying5 cells5 hf with ⟨hcs, hx⟩ | ⟨a, len', cap', zs, hcs, _, hl, hm, hz, hx, hcell, hwz⟩
  · simp [Value.cells] at hcs
    obtain ⟨rfl, rfl, rfl⟩ := hcs
    exact ⟨[], [], ⟨by simp, none, 0, rfl, .inl rfl⟩, by simp⟩
  · simp [Value.cells] at hcs
    obtain ⟨rfl, rfl, rfl⟩ := hcs
    simp only [if_true] at hz
    have hbyte : ∀ z ∈ zs, 0 ≤ z ∧ z ≤ 255 := fun z hz => by
      have := hwz z hz
      simpa [Lit.wf, IntKind.min, IntKind.max, IntKind.signed, IntKind.bits] using this
    have hlen : ((zs.take len).map Int.toNat).length = len := by simp; omega
    have hback : ((zs.take len).map Int.toNat).map (Nat.cast : Nat → Int) = zs.take len := by
      rw [List.map_map]
      conv => rhs; rw [← List.map_id (zs.take len)]
      apply List.map_congr_left
      intro z hz
      have := hbyte z (List.mem_of_mem_take hz)
      simp; omega
    have hlt : ∀ x ∈ (zs.take len).map Int.toNat, x < 256 := by
      intro x hx
      obtain ⟨z, hz, rfl⟩ := List.mem_map.1 hx
      have := hbyte z (List.mem_of_mem_take hz)
      omega
    by_cases h0 : len = 0
    · subst h0
      exact ⟨[], [], ⟨by simp, some a, cap, rfl, .inl rfl⟩, by simp⟩
    · obtain ⟨b, off, spot⟩ := a
      have hc0 := hcell 0 (by omega)
      have hsp : spot = none := by
        cases spot with
        | none => rfl
        | some s =>
          exfalso
          simp only [World.cell?, Addr.add] at hc0
          split at hc0 <;> (try split at hc0) <;> simp_all
      subst hsp
      refine ⟨_, [⟨false, b, off, ints .u8 (((zs.take len).map Int.toNat).map Nat.cast)⟩], ⟨hlt, some ⟨b, off, none⟩, cap, by rw [hlen], .inr ⟨b, off, rfl, .head _⟩⟩, ?_⟩
      intro s hs
      obtain rfl := List.mem_singleton.1 hs
      refine ⟨rfl, ?_⟩
      rw [hback]
      have hcell' : ∀ i, i < zs.length → W.cell? ⟨b, off + i, none⟩ = some (.int .u8 (zs.getD i 0)) := fun i hi => by rw [← add_place]; exact hcell i hi
      cases hh : W.heap[b]? with
      | none => have := hcell' 0 (by omega); simp [World.cell?, hh] at this
      | some o =>
        cases o with
        | cells c T f =>
          obtain ⟨lo, hi⟩ := f
          have hget : ∀ i, i < zs.length → c[off + i]? = some (.int .u8 (zs.getD i 0)) := fun i hi => by
            have := hcell' i hi
            simpa [World.cell?, hh] using this
          refine ⟨c, T, lo, hi, hh, ?_, fun i hi => ?_, fun h => by cases h⟩
          · have h1 := hget (len - 1) (by omega)
            have h2 := (Array.getElem?_eq_some_iff.1 h1).1
            simp only [ints_length, List.length_take]
            omega
          · simp only [ints_length, List.length_take] at hi
            rw [hget i (by omega), ints_get (by simp; omega)]
            simp [show i < len by omega, show i < zs.length by omega]
        | _ => have := hcell' 0 (by omega); simp [World.cell?, hh] at this

end Go.Proofs.Ytjkpfliaflmppaa.Sh

namespace Go.Proofs.Ytjkpfliaflmppaa.Sh
open Go.ChangeShapes Go.WideShapes Go.ChangeAt Go.RowKit Go.Proofs.Ytjkpfliaflmppaa.Vm Go.Proofs.Ytjkpfliaflmppaa.Pc
set_option linter.unusedVariables false
theorem cells40 : Try.prog.cellsOf 40 = 1 := by kernel_rfl
/-- A handed slice of 32-bit numbers, as the engine has it. -/
theorem words_open {H : Type} {enc : TypeId × Value → H} {W : World} {ad : Option Addr} {len cap : Nat} {d : DataW H} {ps : List MemPlace} (h : DataW.Trod enc Try.prog W 0 (fun _ => true) true 46 (.slice ad len cap) d ps) :
    ∃ (xs : List Nat) (m : Mem), Ws (.slice ad len cap) xs m ∧ (∀ s ∈ m, s.own = false ∧ s.lies W.heap.size W) := by
  obtain ⟨fuel, hf⟩ := h
  rcases open_ints Try.underlying46 Try.underlying40 cells40 hf with ⟨hcs, hx⟩ | ⟨a, len', cap', zs, hcs, _, hl, hm, hz, hx, hcell, hwz⟩
  · simp [Value.cells] at hcs
    obtain ⟨rfl, rfl, rfl⟩ := hcs
    exact ⟨[], [], ⟨by simp, none, 0, rfl, .inl rfl⟩, by simp⟩
  · simp [Value.cells] at hcs
    obtain ⟨rfl, rfl, rfl⟩ := hcs
    simp only [if_true] at hz
    have hbyte : ∀ z ∈ zs, 0 ≤ z ∧ z ≤ 4294967295 := fun z hz => by
      have := hwz z hz
      simpa [Lit.wf, IntKind.min, IntKind.max, IntKind.signed, IntKind.bits] using this
    have hlen : ((zs.take len).map Int.toNat).length = len := by simp; omega
    have hback : ((zs.take len).map Int.toNat).map (Nat.cast : Nat → Int) = zs.take len := by
      rw [List.map_map]
      conv => rhs; rw [← List.map_id (zs.take len)]
      apply List.map_congr_left
      intro z hz
      have := hbyte z (List.mem_of_mem_take hz)
      simp; omega
    have hlt : ∀ x ∈ (zs.take len).map Int.toNat, x < 4294967296 := by
      intro x hx
      obtain ⟨z, hz, rfl⟩ := List.mem_map.1 hx
      have := hbyte z (List.mem_of_mem_take hz)
      omega
    by_cases h0 : len = 0
    · subst h0
      exact ⟨[], [], ⟨by simp, some a, cap, rfl, .inl rfl⟩, by simp⟩
    · obtain ⟨b, off, spot⟩ := a
      have hc0 := hcell 0 (by omega)
      have hsp : spot = none := by
        cases spot with
        | none => rfl
        | some s =>
          exfalso
          simp only [World.cell?, Addr.add] at hc0
          split at hc0 <;> (try split at hc0) <;> simp_all
      subst hsp
      refine ⟨_, [⟨false, b, off, ints .u32 (((zs.take len).map Int.toNat).map Nat.cast)⟩], ⟨hlt, some ⟨b, off, none⟩, cap, by rw [hlen], .inr ⟨b, off, rfl, .head _⟩⟩, ?_⟩
      intro s hs
      obtain rfl := List.mem_singleton.1 hs
      refine ⟨rfl, ?_⟩
      rw [hback]
      have hcell' : ∀ i, i < zs.length → W.cell? ⟨b, off + i, none⟩ = some (.int .u32 (zs.getD i 0)) := fun i hi => by rw [← add_place]; exact hcell i hi
      cases hh : W.heap[b]? with
      | none => have := hcell' 0 (by omega); simp [World.cell?, hh] at this
      | some o =>
        cases o with
        | cells c T f =>
          obtain ⟨lo, hi⟩ := f
          have hget : ∀ i, i < zs.length → c[off + i]? = some (.int .u32 (zs.getD i 0)) := fun i hi => by
            have := hcell' i hi
            simpa [World.cell?, hh] using this
          refine ⟨c, T, lo, hi, hh, ?_, fun i hi => ?_, fun h => by cases h⟩
          · have h1 := hget (len - 1) (by omega)
            have h2 := (Array.getElem?_eq_some_iff.1 h1).1
            simp only [ints_length, List.length_take]
            omega
          · simp only [ints_length, List.length_take] at hi
            rw [hget i (by omega), ints_get (by simp; omega)]
            simp [show i < len by omega, show i < zs.length by omega]
        | _ => have := hcell' 0 (by omega); simp [World.cell?, hh] at this

end Go.Proofs.Ytjkpfliaflmppaa.Sh

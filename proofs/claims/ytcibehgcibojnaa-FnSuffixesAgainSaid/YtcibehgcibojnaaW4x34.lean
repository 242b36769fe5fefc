/- laws.FnSuffixesAgain: true, for any bytes and numbers. No condition. -/
import Derived.Test.YtcibehgcibojnaaW4x33

namespace Go.Proofs.Ytcibehgcibojnaa.Sai
open Go Go.RowKit Go.Proofs.Ytcibehgcibojnaa.Vm Go.Proofs.Ytcibehgcibojnaa.Sais
theorem law4_0 (ad : Option Addr) (cap tm at' ot' : Nat) (h1 : tm < 256) (h2 : at' < 65536) (h3 : ot' < 256) : HC Try.prog 4 #[.slice ad 0 cap, .int .u8 tm, .int .u16 at', .int .u8 ot'] [] (fun v M' => v = .bool true ∧ Rk M' []) := by
  have hNe : Ne [] := fun t ht => by cases ht
  refine HC_of_W (fn := Try.f4) Try.func4 rfl rfl rfl rfl ?_
  repeat' (first|(refine isO ?_;first|refine oo (Pc rfl) ?_|refine oo (Pa rfl (by omega) (by omega)) ?_|(refine ob rfl ?_ ?_<;>intro hq<;>try (exfalso;omega))|refine oo (Pi rfl (by first|omega|(simp only [wr_length];omega))) ?_|refine oo (Pz rfl (by omega) (by omega)) ?_|refine oo (Pl rfl) ?_|refine oo (Px rfl rfl) ?_|refine oo (Pj rfl (by omega) (by omega)) ?_|refine oo (Pk rfl (by omega) (by omega)) ?_|refine oo (Pf rfl) ?_|refine oo (Pv rfl (by omega) (by omega)) ?_|refine oo (Pn rfl) ?_|refine oo (Ph rfl) ?_|refine oo (Pg rfl (by omega) (by omega)) ?_|refine oo (Pe rfl (by omega) (by omega)) ?_|refine oo (Po rfl (by omega) (by omega)) ?_|refine oo (Pm rfl) ?_|refine os rfl rfl ?_|refine ot rfl (by first|omega|(simp only [wr_length];omega)) ?_|refine O_nil ?_)|refine wo rfl ?_|refine wc rfl ?_|refine wg rfl ?_|refine go rfl ?_|refine gc rfl ?_|refine gg rfl ?_)
  ((refine O_call rfl rfl Tb.k5 trivial rfl (awake_c _ hNe) ?_; rintro _ M' ⟨rfl, hrk⟩; refine O_weak hrk ?_; clear hrk M'; (repeat' (first|(refine isO ?_;first|refine oo (Pc rfl) ?_|refine oo (Pa rfl (by omega) (by omega)) ?_|(refine ob rfl ?_ ?_<;>intro hq<;>try (exfalso;omega))|refine oo (Pi rfl (by first|omega|(simp only [wr_length];omega))) ?_|refine oo (Pz rfl (by omega) (by omega)) ?_|refine oo (Pl rfl) ?_|refine oo (Px rfl rfl) ?_|refine oo (Pj rfl (by omega) (by omega)) ?_|refine oo (Pk rfl (by omega) (by omega)) ?_|refine oo (Pf rfl) ?_|refine oo (Pv rfl (by omega) (by omega)) ?_|refine oo (Pn rfl) ?_|refine oo (Ph rfl) ?_|refine oo (Pg rfl (by omega) (by omega)) ?_|refine oo (Pe rfl (by omega) (by omega)) ?_|refine oo (Po rfl (by omega) (by omega)) ?_|refine oo (Pm rfl) ?_|refine os rfl rfl ?_|refine ot rfl (by first|omega|(simp only [wr_length];omega)) ?_|refine O_nil ?_)|refine wo rfl ?_|refine wc rfl ?_|refine wg rfl ?_|refine go rfl ?_|refine gc rfl ?_|refine gg rfl ?_)));exact G_fin ⟨_, rfl, rfl, .rfl⟩)
theorem P_remN {N : Fm} {E : Env} {M : Mem} {t t2 : TypeId} {x y : Operand} {k : IntKind} {a b : Nat} (hx : ev E x = some (.int k a)) (hy : ev E y = some (.int k b)) (h1 : 0 < b) :
    Pure Try.prog N E M (.binOp .rem t x y t2) (.int k ((a % b : Nat) : Int)) := by
  have h := P_rem (P := Try.prog) (N := N) (M := M) (t := t) (t2 := t2) hx hy (by omega) (by omega)
  rwa [← Int.natCast_emod] at h
theorem set_row {L : List Nat} {sp : List Value} {r v : Nat} (h : r < L.length) : (ints .u8 (L.map Nat.cast) ++ sp).set r (.int .u8 (v : Int)) = ints .u8 ((L.set r v).map Nat.cast) ++ sp := by
  rw [List.set_append_left _ _ (by rw [ints_length, List.length_map]; exact h)]
  unfold ints
  rw [List.map_set, List.map_set]
def rep (T : List Nat) : Nat → List Nat
  | 0 => []
  | i + 1 => rep T i ++ T
theorem rep_length (T : List Nat) (i : Nat) : (rep T i).length = i * T.length := by
  induction i with
  | zero => simp [rep]
  | succ i ih => rw [rep, List.length_append, ih, Nat.add_mul, Nat.one_mul]
theorem rep_lt {T : List Nat} (hT : ∀ x ∈ T, x < 256) (i : Nat) : ∀ x ∈ rep T i, x < 256 := by
  induction i with
  | zero => intro x hx; cases hx
  | succ i ih => intro x hx; exact (List.mem_append.1 hx).elim (ih x) (hT x)
theorem own0 (T : List Nat) : Own (.slice none 0 0) 1 (ints .u8 ((rep T 0).map Nat.cast)) [] := by
  refine .inl ⟨rfl, ?_, rfl⟩
  rw [rep]
  unfold ints
  rfl
theorem law4_s (T : List Nat) (hT : ∀ x ∈ T, x < 256) (h0 : 0 < T.length) (own : Bool) (b o cap : Nat) (hcap : T.length ≤ cap) (tm at' ot' : Nat) (h1 : tm < 256) (h2 : at' < 65536) (h3 : ot' < 256) :
    HC Try.prog 4 #[.slice (some ⟨b, o, none⟩) T.length cap, .int .u8 tm, .int .u16 at', .int .u8 ot'] [⟨own, b, o, ints .u8 (T.map Nat.cast) ++ []⟩] (fun v M' => v = .bool true ∧ Rk M' [⟨own, b, o, ints .u8 (T.map Nat.cast) ++ []⟩]) := by
  have hNe : Ne [⟨own, b, o, ints .u8 (T.map Nat.cast) ++ []⟩] := row_ne h0
  obtain ⟨I, hI, hI1, hI2, hI3⟩ := info5'
  by_cases h40 : T.length ≤ 40
  · have hp1 : T.length * tm ≤ 40 * 255 := Nat.mul_le_mul h40 (by omega)
    have hp2 : (T.length : Int) * (tm : Int) ≤ 10200 := by omega
    have hp3 : 0 ≤ (T.length : Int) * (tm : Int) := Int.mul_nonneg (by omega) (by omega)
    refine HC_of_W (fn := Try.f4) Try.func4 rfl rfl rfl rfl ?_
    repeat' (first|(refine isO ?_;first|refine oo (Pc rfl) ?_|refine oo (Pa rfl (by omega) (by omega)) ?_|(refine ob rfl ?_ ?_<;>intro hq<;>try (exfalso;omega))|refine oo (Pi rfl (by first|omega|(simp only [wr_length];omega))) ?_|refine oo (Pz rfl (by omega) (by omega)) ?_|refine oo (Pl rfl) ?_|refine oo (Px rfl rfl) ?_|refine oo (Pj rfl (by omega) (by omega)) ?_|refine oo (Pk rfl (by omega) (by omega)) ?_|refine oo (Pf rfl) ?_|refine oo (Pv rfl (by omega) (by omega)) ?_|refine oo (Pn rfl) ?_|refine oo (Ph rfl) ?_|refine oo (Pg rfl (by omega) (by omega)) ?_|refine oo (Pe rfl (by omega) (by omega)) ?_|refine oo (Po rfl (by omega) (by omega)) ?_|refine oo (Pm rfl) ?_|refine os rfl rfl ?_|refine ot rfl (by first|omega|(simp only [wr_length];omega)) ?_|refine O_nil ?_)|refine wo rfl ?_|refine wc rfl ?_|refine wg rfl ?_|refine go rfl ?_|refine gc rfl ?_|refine gg rfl ?_)
    · ((refine O_call rfl rfl Tb.k5 trivial rfl (awake_c _ hNe) ?_; rintro _ M' ⟨rfl, hrk⟩; refine O_weak hrk ?_; clear hrk M'; (repeat' (first|(refine isO ?_;first|refine oo (Pc rfl) ?_|refine oo (Pa rfl (by omega) (by omega)) ?_|(refine ob rfl ?_ ?_<;>intro hq<;>try (exfalso;omega))|refine oo (Pi rfl (by first|omega|(simp only [wr_length];omega))) ?_|refine oo (Pz rfl (by omega) (by omega)) ?_|refine oo (Pl rfl) ?_|refine oo (Px rfl rfl) ?_|refine oo (Pj rfl (by omega) (by omega)) ?_|refine oo (Pk rfl (by omega) (by omega)) ?_|refine oo (Pf rfl) ?_|refine oo (Pv rfl (by omega) (by omega)) ?_|refine oo (Pn rfl) ?_|refine oo (Ph rfl) ?_|refine oo (Pg rfl (by omega) (by omega)) ?_|refine oo (Pe rfl (by omega) (by omega)) ?_|refine oo (Po rfl (by omega) (by omega)) ?_|refine oo (Pm rfl) ?_|refine os rfl rfl ?_|refine ot rfl (by first|omega|(simp only [wr_length];omega)) ?_|refine O_nil ?_)|refine wo rfl ?_|refine wc rfl ?_|refine wg rfl ?_|refine go rfl ?_|refine gc rfl ?_|refine gg rfl ?_)));exact G_fin ⟨_, rfl, rfl, .rfl⟩)
    · have hp4 : T.length * tm ≤ 600 := by omega
      refine W_loop (α := Nat × Value × Mem) (fun x => [(0, .slice (some ⟨b, o, none⟩) T.length cap), (1, .int .u8 tm), (2, .int .u16 at'), (3, .int .u8 ot'), (9, x.2.1), (10, .int .i64 x.1)])
        (fun x => x.2.2 ++ [⟨own, b, o, ints .u8 (T.map Nat.cast) ++ []⟩]) (fun x => x.1 ≤ tm ∧ Own x.2.1 1 (ints .u8 ((rep T x.1).map Nat.cast)) x.2.2) (fun x => tm - x.1) (0, .slice none 0 0, [])
        ⟨Nat.zero_le _, own0 T⟩ (by (repeat (first | exact trivial | refine ⟨rfl, ?_⟩))) .rfl ?_
      rintro ⟨i, sv, m⟩ ⟨hi, hown⟩
      dsimp only at hi hown ⊢
      by_cases hit : i < tm
      · have hb1 : i * T.length + T.length ≤ 600 := by
          have := Nat.mul_le_mul_left T.length (show i + 1 ≤ tm by omega)
          rw [Nat.mul_add, Nat.mul_one, Nat.mul_comm] at this
          omega
        repeat' (first|(refine isO ?_;first|refine oo (Pc rfl) ?_|refine oo (Pa rfl (by omega) (by omega)) ?_|(refine ob rfl ?_ ?_<;>intro hq<;>try (exfalso;omega))|refine oo (Pi rfl (by first|omega|(simp only [wr_length];omega))) ?_|refine oo (Pz rfl (by omega) (by omega)) ?_|refine oo (Pl rfl) ?_|refine oo (Px rfl rfl) ?_|refine oo (Pj rfl (by omega) (by omega)) ?_|refine oo (Pk rfl (by omega) (by omega)) ?_|refine oo (Pf rfl) ?_|refine oo (Pv rfl (by omega) (by omega)) ?_|refine oo (Pn rfl) ?_|refine oo (Ph rfl) ?_|refine oo (Pg rfl (by omega) (by omega)) ?_|refine oo (Pe rfl (by omega) (by omega)) ?_|refine oo (Po rfl (by omega) (by omega)) ?_|refine oo (Pm rfl) ?_|refine os rfl rfl ?_|refine ot rfl (by first|omega|(simp only [wr_length];omega)) ?_|refine O_nil ?_)|refine wo rfl ?_|refine wc rfl ?_|refine wg rfl ?_|refine go rfl ?_|refine gc rfl ?_|refine gg rfl ?_)
        refine O_append (len := i * T.length) (size := 1) (xs := ints .u8 ((rep T i).map Nat.cast)) (m := m) (M0 := [⟨own, b, o, ints .u8 (T.map Nat.cast) ++ []⟩]) Tb.u22 Tb.u22 hI hI1 (by decide) (by omega) hI3 rfl rfl rfl hown .rfl
          (by rw [ints_length, List.length_map, rep_length, Nat.mul_one]) (.head _) (by rw [List.length_append, ints_length, List.length_map]; omega) (fun v hv => by
            rw [List.append_nil] at hv
            unfold ints at hv
            obtain ⟨z, _, rfl⟩ := List.mem_map.1 hv
            rfl) (.inl h0) (by rw [hI2]; omega) trivial rfl fun b2 c2 s2 h2 => ?_
        rw [take_ints, ← ints_append, ← List.map_append] at h2 ⊢
        repeat' (first|(refine isO ?_;first|refine oo (Pc rfl) ?_|refine oo (Pa rfl (by omega) (by omega)) ?_|(refine ob rfl ?_ ?_<;>intro hq<;>try (exfalso;omega))|refine oo (Pi rfl (by first|omega|(simp only [wr_length];omega))) ?_|refine oo (Pz rfl (by omega) (by omega)) ?_|refine oo (Pl rfl) ?_|refine oo (Px rfl rfl) ?_|refine oo (Pj rfl (by omega) (by omega)) ?_|refine oo (Pk rfl (by omega) (by omega)) ?_|refine oo (Pf rfl) ?_|refine oo (Pv rfl (by omega) (by omega)) ?_|refine oo (Pn rfl) ?_|refine oo (Ph rfl) ?_|refine oo (Pg rfl (by omega) (by omega)) ?_|refine oo (Pe rfl (by omega) (by omega)) ?_|refine oo (Po rfl (by omega) (by omega)) ?_|refine oo (Pm rfl) ?_|refine os rfl rfl ?_|refine ot rfl (by first|omega|(simp only [wr_length];omega)) ?_|refine O_nil ?_)|refine wo rfl ?_|refine wc rfl ?_|refine wg rfl ?_|refine go rfl ?_|refine gc rfl ?_|refine gg rfl ?_)
        have hl2 : (rep T i ++ T).length = i * T.length + T.length := by rw [List.length_append, rep_length]
        refine G_stop ⟨(i + 1, .slice (some ⟨b2, 0, none⟩) (i * T.length + T.length) c2, [⟨true, b2, 0, ints .u8 ((rep T i ++ T).map Nat.cast) ++ s2⟩]), ⟨by dsimp only; omega, .inr ⟨b2, _, c2, s2, rfl, rfl, by rw [ints_length, List.length_map, Nat.mul_one]; exact hl2, h2⟩⟩, by dsimp only; omega, by (repeat (first | exact trivial | refine ⟨rfl, ?_⟩)), .rfl⟩
      · obtain rfl : i = tm := by omega
        have hLl : (rep T i).length ≤ 600 := by rw [rep_length, Nat.mul_comm]; exact hp4
        rcases hown with ⟨rfl, hx0, rfl⟩ | ⟨bz, len, cz, sp, rfl, rfl, hxl, hcl⟩
        · repeat' (first|(refine isO ?_;first|refine oo (Pc rfl) ?_|refine oo (Pa rfl (by omega) (by omega)) ?_|(refine ob rfl ?_ ?_<;>intro hq<;>try (exfalso;omega))|refine oo (Pi rfl (by first|omega|(simp only [wr_length];omega))) ?_|refine oo (Pz rfl (by omega) (by omega)) ?_|refine oo (Pl rfl) ?_|refine oo (Px rfl rfl) ?_|refine oo (Pj rfl (by omega) (by omega)) ?_|refine oo (Pk rfl (by omega) (by omega)) ?_|refine oo (Pf rfl) ?_|refine oo (Pv rfl (by omega) (by omega)) ?_|refine oo (Pn rfl) ?_|refine oo (Ph rfl) ?_|refine oo (Pg rfl (by omega) (by omega)) ?_|refine oo (Pe rfl (by omega) (by omega)) ?_|refine oo (Po rfl (by omega) (by omega)) ?_|refine oo (Pm rfl) ?_|refine os rfl rfl ?_|refine ot rfl (by first|omega|(simp only [wr_length];omega)) ?_|refine O_nil ?_)|refine wo rfl ?_|refine wc rfl ?_|refine wg rfl ?_|refine go rfl ?_|refine gc rfl ?_|refine gg rfl ?_)
          (refine O_call rfl rfl Tb.k5 trivial rfl (awake_c _ hNe) ?_; rintro _ M' ⟨rfl, hrk⟩; refine O_weak hrk ?_; clear hrk M'; (repeat' (first|(refine isO ?_;first|refine oo (Pc rfl) ?_|refine oo (Pa rfl (by omega) (by omega)) ?_|(refine ob rfl ?_ ?_<;>intro hq<;>try (exfalso;omega))|refine oo (Pi rfl (by first|omega|(simp only [wr_length];omega))) ?_|refine oo (Pz rfl (by omega) (by omega)) ?_|refine oo (Pl rfl) ?_|refine oo (Px rfl rfl) ?_|refine oo (Pj rfl (by omega) (by omega)) ?_|refine oo (Pk rfl (by omega) (by omega)) ?_|refine oo (Pf rfl) ?_|refine oo (Pv rfl (by omega) (by omega)) ?_|refine oo (Pn rfl) ?_|refine oo (Ph rfl) ?_|refine oo (Pg rfl (by omega) (by omega)) ?_|refine oo (Pe rfl (by omega) (by omega)) ?_|refine oo (Po rfl (by omega) (by omega)) ?_|refine oo (Pm rfl) ?_|refine os rfl rfl ?_|refine ot rfl (by first|omega|(simp only [wr_length];omega)) ?_|refine O_nil ?_)|refine wo rfl ?_|refine wc rfl ?_|refine wg rfl ?_|refine go rfl ?_|refine gc rfl ?_|refine gg rfl ?_)))
          refine O_call rfl rfl Tb.k7 ⟨_, rfl, rfl⟩ rfl (suffixes0_c _ _ _) ?_
          rintro _ M' ⟨bl, rfl, hrk⟩
          refine O_weak hrk ?_
          clear hrk M'
          refine O_call rfl rfl Tb.k6 ⟨_, rfl, rfl⟩ rfl (right0_c _ _ _ _ _) ?_
          rintro _ M' ⟨rfl, hrk⟩
          refine O_weak hrk ?_
          clear hrk M'
          repeat' (first|(refine isO ?_;first|refine oo (Pc rfl) ?_|refine oo (Pa rfl (by omega) (by omega)) ?_|(refine ob rfl ?_ ?_<;>intro hq<;>try (exfalso;omega))|refine oo (Pi rfl (by first|omega|(simp only [wr_length];omega))) ?_|refine oo (Pz rfl (by omega) (by omega)) ?_|refine oo (Pl rfl) ?_|refine oo (Px rfl rfl) ?_|refine oo (Pj rfl (by omega) (by omega)) ?_|refine oo (Pk rfl (by omega) (by omega)) ?_|refine oo (Pf rfl) ?_|refine oo (Pv rfl (by omega) (by omega)) ?_|refine oo (Pn rfl) ?_|refine oo (Ph rfl) ?_|refine oo (Pg rfl (by omega) (by omega)) ?_|refine oo (Pe rfl (by omega) (by omega)) ?_|refine oo (Po rfl (by omega) (by omega)) ?_|refine oo (Pm rfl) ?_|refine os rfl rfl ?_|refine ot rfl (by first|omega|(simp only [wr_length];omega)) ?_|refine O_nil ?_)|refine wo rfl ?_|refine wc rfl ?_|refine wg rfl ?_|refine go rfl ?_|refine gc rfl ?_|refine gg rfl ?_)
          exact G_fin ⟨_, rfl, rfl, .rfl⟩
        · obtain rfl : len = (rep T i).length := by rw [ints_length, List.length_map] at hxl; omega
          have hcz : (rep T i).length ≤ cz := by rw [List.length_append, ints_length, List.length_map] at hcl; omega
          clear hxl hcl
          generalize hL : rep T i = L at *
          have hLt : ∀ x ∈ L, x < 256 := by rw [← hL]; exact rep_lt hT i
          clear hL
          by_cases hz : L.length = 0
          · have hz2 := hz
            generalize L.length = n at *
            subst hz2
            refine W_weak (L := [(0, .slice (some ⟨b, o, none⟩) T.length cap), (1, .int .u8 i), (2, .int .u16 at'), (3, .int .u8 ot'), (9, .slice (some ⟨bz, 0, none⟩) 0 cz), (10, .int .i64 i)]) (by (repeat (first | exact trivial | refine ⟨rfl, ?_⟩))) (.drop .rfl) ?_
            repeat' (first|(refine isO ?_;first|refine oo (Pc rfl) ?_|refine oo (Pa rfl (by omega) (by omega)) ?_|(refine ob rfl ?_ ?_<;>intro hq<;>try (exfalso;omega))|refine oo (Pi rfl (by first|omega|(simp only [wr_length];omega))) ?_|refine oo (Pz rfl (by omega) (by omega)) ?_|refine oo (Pl rfl) ?_|refine oo (Px rfl rfl) ?_|refine oo (Pj rfl (by omega) (by omega)) ?_|refine oo (Pk rfl (by omega) (by omega)) ?_|refine oo (Pf rfl) ?_|refine oo (Pv rfl (by omega) (by omega)) ?_|refine oo (Pn rfl) ?_|refine oo (Ph rfl) ?_|refine oo (Pg rfl (by omega) (by omega)) ?_|refine oo (Pe rfl (by omega) (by omega)) ?_|refine oo (Po rfl (by omega) (by omega)) ?_|refine oo (Pm rfl) ?_|refine os rfl rfl ?_|refine ot rfl (by first|omega|(simp only [wr_length];omega)) ?_|refine O_nil ?_)|refine wo rfl ?_|refine wc rfl ?_|refine wg rfl ?_|refine go rfl ?_|refine gc rfl ?_|refine gg rfl ?_)
            (refine O_call rfl rfl Tb.k5 trivial rfl (awake_c _ hNe) ?_; rintro _ M' ⟨rfl, hrk⟩; refine O_weak hrk ?_; clear hrk M'; (repeat' (first|(refine isO ?_;first|refine oo (Pc rfl) ?_|refine oo (Pa rfl (by omega) (by omega)) ?_|(refine ob rfl ?_ ?_<;>intro hq<;>try (exfalso;omega))|refine oo (Pi rfl (by first|omega|(simp only [wr_length];omega))) ?_|refine oo (Pz rfl (by omega) (by omega)) ?_|refine oo (Pl rfl) ?_|refine oo (Px rfl rfl) ?_|refine oo (Pj rfl (by omega) (by omega)) ?_|refine oo (Pk rfl (by omega) (by omega)) ?_|refine oo (Pf rfl) ?_|refine oo (Pv rfl (by omega) (by omega)) ?_|refine oo (Pn rfl) ?_|refine oo (Ph rfl) ?_|refine oo (Pg rfl (by omega) (by omega)) ?_|refine oo (Pe rfl (by omega) (by omega)) ?_|refine oo (Po rfl (by omega) (by omega)) ?_|refine oo (Pm rfl) ?_|refine os rfl rfl ?_|refine ot rfl (by first|omega|(simp only [wr_length];omega)) ?_|refine O_nil ?_)|refine wo rfl ?_|refine wc rfl ?_|refine wg rfl ?_|refine go rfl ?_|refine gc rfl ?_|refine gg rfl ?_)))
            refine O_call rfl rfl Tb.k7 ⟨_, rfl, rfl⟩ rfl (suffixes0_c _ _ _) ?_
            rintro _ M' ⟨bl, rfl, hrk⟩
            refine O_weak hrk ?_
            clear hrk M'
            refine O_call rfl rfl Tb.k6 ⟨_, rfl, rfl⟩ rfl (right0_c _ _ _ _ _) ?_
            rintro _ M' ⟨rfl, hrk⟩
            refine O_weak hrk ?_
            clear hrk M'
            repeat' (first|(refine isO ?_;first|refine oo (Pc rfl) ?_|refine oo (Pa rfl (by omega) (by omega)) ?_|(refine ob rfl ?_ ?_<;>intro hq<;>try (exfalso;omega))|refine oo (Pi rfl (by first|omega|(simp only [wr_length];omega))) ?_|refine oo (Pz rfl (by omega) (by omega)) ?_|refine oo (Pl rfl) ?_|refine oo (Px rfl rfl) ?_|refine oo (Pj rfl (by omega) (by omega)) ?_|refine oo (Pk rfl (by omega) (by omega)) ?_|refine oo (Pf rfl) ?_|refine oo (Pv rfl (by omega) (by omega)) ?_|refine oo (Pn rfl) ?_|refine oo (Ph rfl) ?_|refine oo (Pg rfl (by omega) (by omega)) ?_|refine oo (Pe rfl (by omega) (by omega)) ?_|refine oo (Po rfl (by omega) (by omega)) ?_|refine oo (Pm rfl) ?_|refine os rfl rfl ?_|refine ot rfl (by first|omega|(simp only [wr_length];omega)) ?_|refine O_nil ?_)|refine wo rfl ?_|refine wc rfl ?_|refine wg rfl ?_|refine go rfl ?_|refine gc rfl ?_|refine gg rfl ?_)
            exact G_fin ⟨_, rfl, rfl, .rfl⟩
          · by_cases hat : at' < 600
            · repeat' (first|(refine isO ?_;first|refine oo (Pc rfl) ?_|refine oo (Pa rfl (by omega) (by omega)) ?_|(refine ob rfl ?_ ?_<;>intro hq<;>try (exfalso;omega))|refine oo (Pi rfl (by first|omega|(simp only [wr_length];omega))) ?_|refine oo (Pz rfl (by omega) (by omega)) ?_|refine oo (Pl rfl) ?_|refine oo (Px rfl rfl) ?_|refine oo (Pj rfl (by omega) (by omega)) ?_|refine oo (Pk rfl (by omega) (by omega)) ?_|refine oo (Pf rfl) ?_|refine oo (Pv rfl (by omega) (by omega)) ?_|refine oo (Pn rfl) ?_|refine oo (Ph rfl) ?_|refine oo (Pg rfl (by omega) (by omega)) ?_|refine oo (Pe rfl (by omega) (by omega)) ?_|refine oo (Po rfl (by omega) (by omega)) ?_|refine oo (Pm rfl) ?_|refine os rfl rfl ?_|refine ot rfl (by first|omega|(simp only [wr_length];omega)) ?_|refine O_nil ?_)|refine wo rfl ?_|refine wc rfl ?_|refine wg rfl ?_|refine go rfl ?_|refine gc rfl ?_|refine gg rfl ?_)
              refine O_pure (P_remN (a := at') (b := L.length) rfl rfl (by omega)) trivial rfl ?_
              have hml := Nat.mod_lt at' (show L.length > 0 by omega)
              generalize at' % L.length = r at *
              repeat' (first|(refine isO ?_;first|refine oo (Pc rfl) ?_|refine oo (Pa rfl (by omega) (by omega)) ?_|(refine ob rfl ?_ ?_<;>intro hq<;>try (exfalso;omega))|refine oo (Pi rfl (by first|omega|(simp only [wr_length];omega))) ?_|refine oo (Pz rfl (by omega) (by omega)) ?_|refine oo (Pl rfl) ?_|refine oo (Px rfl rfl) ?_|refine oo (Pj rfl (by omega) (by omega)) ?_|refine oo (Pk rfl (by omega) (by omega)) ?_|refine oo (Pf rfl) ?_|refine oo (Pv rfl (by omega) (by omega)) ?_|refine oo (Pn rfl) ?_|refine oo (Ph rfl) ?_|refine oo (Pg rfl (by omega) (by omega)) ?_|refine oo (Pe rfl (by omega) (by omega)) ?_|refine oo (Po rfl (by omega) (by omega)) ?_|refine oo (Pm rfl) ?_|refine os rfl rfl ?_|refine ot rfl (by first|omega|(simp only [wr_length];omega)) ?_|refine O_nil ?_)|refine wo rfl ?_|refine wc rfl ?_|refine wg rfl ?_|refine go rfl ?_|refine gc rfl ?_|refine gg rfl ?_)
              refine O_weak (M' := ⟨true, bz, 0, ints .u8 (L.map Nat.cast) ++ sp⟩ :: [⟨own, b, o, ints .u8 (T.map Nat.cast) ++ []⟩]) .rfl ?_
              refine O_store (o := 0) (n := ((r : Nat) : Int).toNat) Tb.c5 rfl rfl rfl trivial (by rw [List.length_append, ints_length, List.length_map]; omega) .head ?_
              rw [Int.toNat_natCast, set_row hml]
              have hn2 : (L.set r ot').length = L.length := List.length_set
              have hLt2 : ∀ x ∈ L.set r ot', x < 256 := fun x hx => (List.mem_or_eq_of_mem_set hx).elim (hLt x) (fun e => by omega)
              generalize L.set r ot' = L2 at *
              have hNe : Ne (⟨true, bz, 0, ints .u8 (L2.map Nat.cast) ++ sp⟩ :: [⟨own, b, o, ints .u8 (T.map Nat.cast) ++ []⟩]) := .cons (row_ne (by omega) _ (.head _)) hNe
              have hs := fun F h => suffixes_c L2 (txt256 (by omega) (by omega) hLt2) true bz 0 cz sp (⟨true, bz, 0, ints .u8 (L2.map Nat.cast) ++ sp⟩ :: F) (.head _) h
              have hr := fun X hX hS bl F => right_c L2 hLt2 (by omega) X hX hS true bz 0 cz bl sp F (by omega)
              rw [hn2] at hs hr
              repeat' (first|(refine isO ?_;first|refine oo (Pc rfl) ?_|refine oo (Pa rfl (by omega) (by omega)) ?_|(refine ob rfl ?_ ?_<;>intro hq<;>try (exfalso;omega))|refine oo (Pi rfl (by first|omega|(simp only [wr_length];omega))) ?_|refine oo (Pz rfl (by omega) (by omega)) ?_|refine oo (Pl rfl) ?_|refine oo (Px rfl rfl) ?_|refine oo (Pj rfl (by omega) (by omega)) ?_|refine oo (Pk rfl (by omega) (by omega)) ?_|refine oo (Pf rfl) ?_|refine oo (Pv rfl (by omega) (by omega)) ?_|refine oo (Pn rfl) ?_|refine oo (Ph rfl) ?_|refine oo (Pg rfl (by omega) (by omega)) ?_|refine oo (Pe rfl (by omega) (by omega)) ?_|refine oo (Po rfl (by omega) (by omega)) ?_|refine oo (Pm rfl) ?_|refine os rfl rfl ?_|refine ot rfl (by first|omega|(simp only [wr_length];omega)) ?_|refine O_nil ?_)|refine wo rfl ?_|refine wc rfl ?_|refine wg rfl ?_|refine go rfl ?_|refine gc rfl ?_|refine gg rfl ?_)
              (refine O_call rfl rfl Tb.k5 trivial rfl (awake_c _ hNe) ?_; rintro _ M' ⟨rfl, hrk⟩; refine O_weak hrk ?_; clear hrk M'; (repeat' (first|(refine isO ?_;first|refine oo (Pc rfl) ?_|refine oo (Pa rfl (by omega) (by omega)) ?_|(refine ob rfl ?_ ?_<;>intro hq<;>try (exfalso;omega))|refine oo (Pi rfl (by first|omega|(simp only [wr_length];omega))) ?_|refine oo (Pz rfl (by omega) (by omega)) ?_|refine oo (Pl rfl) ?_|refine oo (Px rfl rfl) ?_|refine oo (Pj rfl (by omega) (by omega)) ?_|refine oo (Pk rfl (by omega) (by omega)) ?_|refine oo (Pf rfl) ?_|refine oo (Pv rfl (by omega) (by omega)) ?_|refine oo (Pn rfl) ?_|refine oo (Ph rfl) ?_|refine oo (Pg rfl (by omega) (by omega)) ?_|refine oo (Pe rfl (by omega) (by omega)) ?_|refine oo (Po rfl (by omega) (by omega)) ?_|refine oo (Pm rfl) ?_|refine os rfl rfl ?_|refine ot rfl (by first|omega|(simp only [wr_length];omega)) ?_|refine O_nil ?_)|refine wo rfl ?_|refine wc rfl ?_|refine wg rfl ?_|refine go rfl ?_|refine gc rfl ?_|refine gg rfl ?_)))
              refine O_call rfl rfl Tb.k7 ⟨_, rfl, rfl⟩ rfl (hs _ hNe) ?_
              rintro _ M' ⟨bl, X, hXl, hX, rfl, hrk⟩
              refine O_weak (.trans hrk (.cons (.tail .head) (.cons .head .rfl))) ?_
              clear hrk M'
              refine O_call rfl rfl Tb.k6 ⟨_, rfl, rfl⟩ rfl (hr X hXl hX bl _) ?_
              rintro _ M' ⟨rfl, hrk⟩
              refine O_weak (.trans hrk (.drop (.drop .rfl))) ?_
              clear hrk M'
              repeat' (first|(refine isO ?_;first|refine oo (Pc rfl) ?_|refine oo (Pa rfl (by omega) (by omega)) ?_|(refine ob rfl ?_ ?_<;>intro hq<;>try (exfalso;omega))|refine oo (Pi rfl (by first|omega|(simp only [wr_length];omega))) ?_|refine oo (Pz rfl (by omega) (by omega)) ?_|refine oo (Pl rfl) ?_|refine oo (Px rfl rfl) ?_|refine oo (Pj rfl (by omega) (by omega)) ?_|refine oo (Pk rfl (by omega) (by omega)) ?_|refine oo (Pf rfl) ?_|refine oo (Pv rfl (by omega) (by omega)) ?_|refine oo (Pn rfl) ?_|refine oo (Ph rfl) ?_|refine oo (Pg rfl (by omega) (by omega)) ?_|refine oo (Pe rfl (by omega) (by omega)) ?_|refine oo (Po rfl (by omega) (by omega)) ?_|refine oo (Pm rfl) ?_|refine os rfl rfl ?_|refine ot rfl (by first|omega|(simp only [wr_length];omega)) ?_|refine O_nil ?_)|refine wo rfl ?_|refine wc rfl ?_|refine wg rfl ?_|refine go rfl ?_|refine gc rfl ?_|refine gg rfl ?_)
              exact G_fin ⟨_, rfl, rfl, .rfl⟩
            · generalize L = L2 at *
              have hn2 : L2.length = L2.length := rfl
              have hLt2 := hLt
              refine W_weak (L := [(0, .slice (some ⟨b, o, none⟩) T.length cap), (1, .int .u8 i), (2, .int .u16 at'), (3, .int .u8 ot'), (9, .slice (some ⟨bz, 0, none⟩) L2.length cz), (10, .int .i64 i)]) (M' := ⟨true, bz, 0, ints .u8 (L2.map Nat.cast) ++ sp⟩ :: [⟨own, b, o, ints .u8 (T.map Nat.cast) ++ []⟩]) (by (repeat (first | exact trivial | refine ⟨rfl, ?_⟩))) .rfl ?_
              have hNe : Ne (⟨true, bz, 0, ints .u8 (L2.map Nat.cast) ++ sp⟩ :: [⟨own, b, o, ints .u8 (T.map Nat.cast) ++ []⟩]) := .cons (row_ne (by omega) _ (.head _)) hNe
              have hs := fun F h => suffixes_c L2 (txt256 (by omega) (by omega) hLt2) true bz 0 cz sp (⟨true, bz, 0, ints .u8 (L2.map Nat.cast) ++ sp⟩ :: F) (.head _) h
              have hr := fun X hX hS bl F => right_c L2 hLt2 (by omega) X hX hS true bz 0 cz bl sp F (by omega)
              rw [hn2] at hs hr
              repeat' (first|(refine isO ?_;first|refine oo (Pc rfl) ?_|refine oo (Pa rfl (by omega) (by omega)) ?_|(refine ob rfl ?_ ?_<;>intro hq<;>try (exfalso;omega))|refine oo (Pi rfl (by first|omega|(simp only [wr_length];omega))) ?_|refine oo (Pz rfl (by omega) (by omega)) ?_|refine oo (Pl rfl) ?_|refine oo (Px rfl rfl) ?_|refine oo (Pj rfl (by omega) (by omega)) ?_|refine oo (Pk rfl (by omega) (by omega)) ?_|refine oo (Pf rfl) ?_|refine oo (Pv rfl (by omega) (by omega)) ?_|refine oo (Pn rfl) ?_|refine oo (Ph rfl) ?_|refine oo (Pg rfl (by omega) (by omega)) ?_|refine oo (Pe rfl (by omega) (by omega)) ?_|refine oo (Po rfl (by omega) (by omega)) ?_|refine oo (Pm rfl) ?_|refine os rfl rfl ?_|refine ot rfl (by first|omega|(simp only [wr_length];omega)) ?_|refine O_nil ?_)|refine wo rfl ?_|refine wc rfl ?_|refine wg rfl ?_|refine go rfl ?_|refine gc rfl ?_|refine gg rfl ?_)
              (refine O_call rfl rfl Tb.k5 trivial rfl (awake_c _ hNe) ?_; rintro _ M' ⟨rfl, hrk⟩; refine O_weak hrk ?_; clear hrk M'; (repeat' (first|(refine isO ?_;first|refine oo (Pc rfl) ?_|refine oo (Pa rfl (by omega) (by omega)) ?_|(refine ob rfl ?_ ?_<;>intro hq<;>try (exfalso;omega))|refine oo (Pi rfl (by first|omega|(simp only [wr_length];omega))) ?_|refine oo (Pz rfl (by omega) (by omega)) ?_|refine oo (Pl rfl) ?_|refine oo (Px rfl rfl) ?_|refine oo (Pj rfl (by omega) (by omega)) ?_|refine oo (Pk rfl (by omega) (by omega)) ?_|refine oo (Pf rfl) ?_|refine oo (Pv rfl (by omega) (by omega)) ?_|refine oo (Pn rfl) ?_|refine oo (Ph rfl) ?_|refine oo (Pg rfl (by omega) (by omega)) ?_|refine oo (Pe rfl (by omega) (by omega)) ?_|refine oo (Po rfl (by omega) (by omega)) ?_|refine oo (Pm rfl) ?_|refine os rfl rfl ?_|refine ot rfl (by first|omega|(simp only [wr_length];omega)) ?_|refine O_nil ?_)|refine wo rfl ?_|refine wc rfl ?_|refine wg rfl ?_|refine go rfl ?_|refine gc rfl ?_|refine gg rfl ?_)))
              refine O_call rfl rfl Tb.k7 ⟨_, rfl, rfl⟩ rfl (hs _ hNe) ?_
              rintro _ M' ⟨bl, X, hXl, hX, rfl, hrk⟩
              refine O_weak (.trans hrk (.cons (.tail .head) (.cons .head .rfl))) ?_
              clear hrk M'
              refine O_call rfl rfl Tb.k6 ⟨_, rfl, rfl⟩ rfl (hr X hXl hX bl _) ?_
              rintro _ M' ⟨rfl, hrk⟩
              refine O_weak (.trans hrk (.drop (.drop .rfl))) ?_
              clear hrk M'
              repeat' (first|(refine isO ?_;first|refine oo (Pc rfl) ?_|refine oo (Pa rfl (by omega) (by omega)) ?_|(refine ob rfl ?_ ?_<;>intro hq<;>try (exfalso;omega))|refine oo (Pi rfl (by first|omega|(simp only [wr_length];omega))) ?_|refine oo (Pz rfl (by omega) (by omega)) ?_|refine oo (Pl rfl) ?_|refine oo (Px rfl rfl) ?_|refine oo (Pj rfl (by omega) (by omega)) ?_|refine oo (Pk rfl (by omega) (by omega)) ?_|refine oo (Pf rfl) ?_|refine oo (Pv rfl (by omega) (by omega)) ?_|refine oo (Pn rfl) ?_|refine oo (Ph rfl) ?_|refine oo (Pg rfl (by omega) (by omega)) ?_|refine oo (Pe rfl (by omega) (by omega)) ?_|refine oo (Po rfl (by omega) (by omega)) ?_|refine oo (Pm rfl) ?_|refine os rfl rfl ?_|refine ot rfl (by first|omega|(simp only [wr_length];omega)) ?_|refine O_nil ?_)|refine wo rfl ?_|refine wc rfl ?_|refine wg rfl ?_|refine go rfl ?_|refine gc rfl ?_|refine gg rfl ?_)
              exact G_fin ⟨_, rfl, rfl, .rfl⟩
  · refine HC_of_W (fn := Try.f4) Try.func4 rfl rfl rfl rfl ?_
    repeat' (first|(refine isO ?_;first|refine oo (Pc rfl) ?_|refine oo (Pa rfl (by omega) (by omega)) ?_|(refine ob rfl ?_ ?_<;>intro hq<;>try (exfalso;omega))|refine oo (Pi rfl (by first|omega|(simp only [wr_length];omega))) ?_|refine oo (Pz rfl (by omega) (by omega)) ?_|refine oo (Pl rfl) ?_|refine oo (Px rfl rfl) ?_|refine oo (Pj rfl (by omega) (by omega)) ?_|refine oo (Pk rfl (by omega) (by omega)) ?_|refine oo (Pf rfl) ?_|refine oo (Pv rfl (by omega) (by omega)) ?_|refine oo (Pn rfl) ?_|refine oo (Ph rfl) ?_|refine oo (Pg rfl (by omega) (by omega)) ?_|refine oo (Pe rfl (by omega) (by omega)) ?_|refine oo (Po rfl (by omega) (by omega)) ?_|refine oo (Pm rfl) ?_|refine os rfl rfl ?_|refine ot rfl (by first|omega|(simp only [wr_length];omega)) ?_|refine O_nil ?_)|refine wo rfl ?_|refine wc rfl ?_|refine wg rfl ?_|refine go rfl ?_|refine gc rfl ?_|refine gg rfl ?_)
    · exact G_fin ⟨_, rfl, rfl, .rfl⟩
    · ((refine O_call rfl rfl Tb.k5 trivial rfl (awake_c _ hNe) ?_; rintro _ M' ⟨rfl, hrk⟩; refine O_weak hrk ?_; clear hrk M'; (repeat' (first|(refine isO ?_;first|refine oo (Pc rfl) ?_|refine oo (Pa rfl (by omega) (by omega)) ?_|(refine ob rfl ?_ ?_<;>intro hq<;>try (exfalso;omega))|refine oo (Pi rfl (by first|omega|(simp only [wr_length];omega))) ?_|refine oo (Pz rfl (by omega) (by omega)) ?_|refine oo (Pl rfl) ?_|refine oo (Px rfl rfl) ?_|refine oo (Pj rfl (by omega) (by omega)) ?_|refine oo (Pk rfl (by omega) (by omega)) ?_|refine oo (Pf rfl) ?_|refine oo (Pv rfl (by omega) (by omega)) ?_|refine oo (Pn rfl) ?_|refine oo (Ph rfl) ?_|refine oo (Pg rfl (by omega) (by omega)) ?_|refine oo (Pe rfl (by omega) (by omega)) ?_|refine oo (Po rfl (by omega) (by omega)) ?_|refine oo (Pm rfl) ?_|refine os rfl rfl ?_|refine ot rfl (by first|omega|(simp only [wr_length];omega)) ?_|refine O_nil ?_)|refine wo rfl ?_|refine wc rfl ?_|refine wg rfl ?_|refine go rfl ?_|refine gc rfl ?_|refine gg rfl ?_)));exact G_fin ⟨_, rfl, rfl, .rfl⟩)
theorem law4_c (s : Value) (T : List Nat) (M : Mem) (tm at' ot' : Nat) (h1 : tm < 256) (h2 : at' < 65536) (h3 : ot' < 256) (h : Bh s T false [] M) : HC Try.prog 4 #[s, .int .u8 tm, .int .u16 at', .int .u8 ot'] M (fun v M' => v = .bool true ∧ Rk M' M) := by
  obtain ⟨hT, ad, cap, rfl, hcap, ⟨rfl, rfl⟩ | ⟨h0, b, o, rfl, rfl⟩⟩ := h
  · exact law4_0 ad cap tm at' ot' h1 h2 h3
  · exact law4_s T hT h0 false b o cap hcap tm at' ot' h1 h2 h3
end Go.Proofs.Ytcibehgcibojnaa.Sai

/- impl.Suffixes of no bytes: a panic, recovered; no suffixes. No condition. Strings of bytes held against each other. No condition. -/
import Derived.Test.YtcibehgcibojnaaW4x31
import Derived.Test.YtcibehgcibojnaaW4x05

namespace Go.Proofs.Ytcibehgcibojnaa.Sai
open Go Go.RowKit Go.Proofs.Ytcibehgcibojnaa.Vm Go.Proofs.Ytcibehgcibojnaa.Sais Go.Proofs.Ytcibehgcibojnaa.Sf
theorem O_idxPanI {P : Program} {N : Fm} {Fin : Post} {k : List Kn} {E : Env} {M : Mem} {ops rest : List Oper} {d : Nat} {ty : TypeId} {pos : String} {after : Array Edge} {g : Option (Nat × Bool)} {t e : TypeId} {x i : Operand} {b : Addr} {len cap : Nat} {z : Int} (ht : Und P t (.slice e))
    (hx : ev E x = some (.slice (some b) len cap)) (hi : ev E i = some (.int .i64 z)) (hz : z < 0) (hg : On E ops g)
    (h : ∀ t x, Fin (.panic [{ v := .iface t x, recovered := false }]) E M) : WO false P N Fin ops (⟨some d, .indexAddr t x i, ty, pos, after, g⟩ :: rest) k E M := by
  refine ⟨⟨fun base w0 a w hA hS => ?_⟩⟩
  unfold wpList
  rw [if_pos (On.wanted (o := ⟨some d, .indexAddr t x i, ty, pos, after, g⟩) hg hA)]
  refine .inl ?_
  unfold Oper.wp
  have hno : ¬ (0 ≤ z ∧ z < len) := by omega
  have hp : (program : Sem Program).run P w = .ok P w := rfl
  have hz2 : ¬ (0 ≤ z ∧ z ≤ 31) := by omega
  have hr : ∃ tt xx, (execOp a.eval ⟨some d, .indexAddr t x i, ty, pos, after, g⟩).run P w = .halt (.panic (.iface tt xx)) w := by
    refine ⟨P.rt.boundsError, .agg #[.int .i64 (IntKind.i64.wrap z), .int .i64 len, .bool (IntKind.i64 != IntKind.u64), .int .u8 BoundsCode.index.toNat], ?_⟩
    simp [execOp, Instr.indexAt, hA.eval hx, hA.eval hi, asIntOf, ht.run, hno, boundsPanic, runtimePanic, hp, goPanic, hz2]
  obtain ⟨tt, xx, hr⟩ := hr
  rw [hr]
  exact ⟨E, M, hA, hS, post_pan k (h _ _)⟩
theorem counts0_c (s0 : Value) (C : List Int) (bC : Nat) (F : Mem) (hC : C.length = 256) :
    HC Try.prog 13 #[s0, .slice (some ⟨bC, 0, none⟩) 256 256, .int .i64 0, .int .i64 256] (⟨true, bC, 0, ints .i64 C⟩ :: F)
      (fun v M' => v = .tuple #[] ∧ ∃ C' : List Int, C'.length = 256 ∧ (∀ c : Nat, c < 256 → rd C' (c : Int) = 0) ∧ M' = ⟨true, bC, 0, ints .i64 C'⟩ :: F) := by
  refine HC_of_W (fn := Try.f13) Try.func13 rfl rfl rfl rfl ?_
  repeat' (first|(refine isO ?_;first|refine oo (Pc rfl) ?_|refine oo (Pa rfl (by omega) (by omega)) ?_|(refine ob rfl ?_ ?_<;>intro hq<;>try (exfalso;omega))|refine oo (Pi rfl (by first|omega|(simp only [wr_length];omega))) ?_|refine oo (Pz rfl (by omega) (by omega)) ?_|refine oo (Pl rfl) ?_|refine oo (Px rfl rfl) ?_|refine oo (Pj rfl (by omega) (by omega)) ?_|refine oo (Pk rfl (by omega) (by omega)) ?_|refine oo (Pf rfl) ?_|refine oo (Pv rfl (by omega) (by omega)) ?_|refine oo (Pn rfl) ?_|refine oo (Ph rfl) ?_|refine oo (Pg rfl (by omega) (by omega)) ?_|refine oo (Pe rfl (by omega) (by omega)) ?_|refine oo (Po rfl (by omega) (by omega)) ?_|refine oo (Pm rfl) ?_|refine os rfl rfl ?_|refine ot rfl (by first|omega|(simp only [wr_length];omega)) ?_|refine O_nil ?_)|refine wo rfl ?_|refine wc rfl ?_|refine wg rfl ?_|refine go rfl ?_|refine gc rfl ?_|refine gg rfl ?_)
  refine W_loop (α := Nat × List Int) (fun x => [(0, s0), (1, .slice (some ⟨bC, 0, none⟩) 256 256), (2, .int .i64 0), (3, .int .i64 256), (8, .int .i64 x.1)])
    (fun x => ⟨true, bC, 0, ints .i64 x.2⟩ :: F) (fun x => x.1 ≤ 256 ∧ x.2.length = 256 ∧ ∀ c : Nat, c < x.1 → rd x.2 (c : Int) = 0) (fun x => 256 - x.1) (0, C) ⟨by omega, hC, fun c hc => by omega⟩ (by (repeat (first | exact trivial | refine ⟨rfl, ?_⟩))) .rfl ?_
  rintro ⟨i, C1⟩ ⟨hi, hC1, hz⟩
  dsimp only at hi hC1 hz ⊢
  repeat' (first|(refine isO ?_;first|refine oo (Pc rfl) ?_|refine oo (Pa rfl (by omega) (by omega)) ?_|(refine ob rfl ?_ ?_<;>intro hq<;>try (exfalso;omega))|refine oo (Pi rfl (by first|omega|(simp only [wr_length];omega))) ?_|refine oo (Pz rfl (by omega) (by omega)) ?_|refine oo (Pl rfl) ?_|refine oo (Px rfl rfl) ?_|refine oo (Pj rfl (by omega) (by omega)) ?_|refine oo (Pk rfl (by omega) (by omega)) ?_|refine oo (Pf rfl) ?_|refine oo (Pv rfl (by omega) (by omega)) ?_|refine oo (Pn rfl) ?_|refine oo (Ph rfl) ?_|refine oo (Pg rfl (by omega) (by omega)) ?_|refine oo (Pe rfl (by omega) (by omega)) ?_|refine oo (Po rfl (by omega) (by omega)) ?_|refine oo (Pm rfl) ?_|refine os rfl rfl ?_|refine ot rfl (by first|omega|(simp only [wr_length];omega)) ?_|refine O_nil ?_)|refine wo rfl ?_|refine wc rfl ?_|refine wg rfl ?_|refine go rfl ?_|refine gc rfl ?_|refine gg rfl ?_)
  · refine G_stop ⟨(i + 1, wr C1 i 0), ⟨by dsimp only; omega, by rw [wr_length]; exact hC1, fun c hc => ?_⟩, by dsimp only; omega, by (repeat (first | exact trivial | refine ⟨rfl, ?_⟩)), .rfl⟩
    dsimp only at hc ⊢
    rw [Sais.rd_wr (by omega)]
    by_cases e : c = i
    · rw [if_pos e]
    · rw [if_neg e]; exact hz c (by omega)
  · refine W_loop (α := Unit) (fun _ => [(2, .int .i64 0), (8, .int .i64 0)]) (fun _ => ⟨true, bC, 0, ints .i64 C1⟩ :: F) (fun _ => True) (fun _ => 0) () trivial (by (repeat (first | exact trivial | refine ⟨rfl, ?_⟩))) .rfl ?_
    rintro _ _
    repeat' (first|(refine isO ?_;first|refine oo (Pc rfl) ?_|refine oo (Pa rfl (by omega) (by omega)) ?_|(refine ob rfl ?_ ?_<;>intro hq<;>try (exfalso;omega))|refine oo (Pi rfl (by first|omega|(simp only [wr_length];omega))) ?_|refine oo (Pz rfl (by omega) (by omega)) ?_|refine oo (Pl rfl) ?_|refine oo (Px rfl rfl) ?_|refine oo (Pj rfl (by omega) (by omega)) ?_|refine oo (Pk rfl (by omega) (by omega)) ?_|refine oo (Pf rfl) ?_|refine oo (Pv rfl (by omega) (by omega)) ?_|refine oo (Pn rfl) ?_|refine oo (Ph rfl) ?_|refine oo (Pg rfl (by omega) (by omega)) ?_|refine oo (Pe rfl (by omega) (by omega)) ?_|refine oo (Po rfl (by omega) (by omega)) ?_|refine oo (Pm rfl) ?_|refine os rfl rfl ?_|refine ot rfl (by first|omega|(simp only [wr_length];omega)) ?_|refine O_nil ?_)|refine wo rfl ?_|refine wc rfl ?_|refine wg rfl ?_|refine go rfl ?_|refine gc rfl ?_|refine gg rfl ?_)
    exact G_fin ⟨_, rfl, rfl, C1, hC1, fun c hc => hz c (by omega), rfl⟩
theorem ends0_c (C B : List Int) (bC bB : Nat) (F : Mem) (hC : C.length = 256) (hC0 : ∀ c : Nat, c < 256 → rd C (c : Int) = 0) (hB : B.length = 256) :
    HC Try.prog 14 #[.slice (some ⟨bC, 0, none⟩) 256 256, .slice (some ⟨bB, 0, none⟩) 256 256, .int .i64 256, .bool true]
      (⟨true, bC, 0, ints .i64 C⟩ :: ⟨true, bB, 0, ints .i64 B⟩ :: F)
      (fun v M' => v = .tuple #[] ∧ Rk M' F) := by
  refine HC_of_W (fn := Try.f14) Try.func14 rfl rfl rfl rfl ?_
  repeat' (first|(refine isO ?_;first|refine oo (Pc rfl) ?_|refine oo (Pa rfl (by omega) (by omega)) ?_|(refine ob rfl ?_ ?_<;>intro hq<;>try (exfalso;omega))|refine oo (Pi rfl (by first|omega|(simp only [wr_length];omega))) ?_|refine oo (Pz rfl (by omega) (by omega)) ?_|refine oo (Pl rfl) ?_|refine oo (Px rfl rfl) ?_|refine oo (Pj rfl (by omega) (by omega)) ?_|refine oo (Pk rfl (by omega) (by omega)) ?_|refine oo (Pf rfl) ?_|refine oo (Pv rfl (by omega) (by omega)) ?_|refine oo (Pn rfl) ?_|refine oo (Ph rfl) ?_|refine oo (Pg rfl (by omega) (by omega)) ?_|refine oo (Pe rfl (by omega) (by omega)) ?_|refine oo (Po rfl (by omega) (by omega)) ?_|refine oo (Pm rfl) ?_|refine os rfl rfl ?_|refine ot rfl (by first|omega|(simp only [wr_length];omega)) ?_|refine O_nil ?_)|refine wo rfl ?_|refine wc rfl ?_|refine wg rfl ?_|refine go rfl ?_|refine gc rfl ?_|refine gg rfl ?_)
  refine W_loop (α := Nat × List Int) (fun x => [(0, .slice (some ⟨bC, 0, none⟩) 256 256), (1, .slice (some ⟨bB, 0, none⟩) 256 256), (2, .int .i64 256), (8, .int .i64 x.1), (9, .int .i64 0)])
    (fun x => ⟨true, bC, 0, ints .i64 C⟩ :: ⟨true, bB, 0, ints .i64 x.2⟩ :: F) (fun x => x.1 ≤ 256 ∧ x.2.length = 256) (fun x => 256 - x.1) (0, B) ⟨by omega, hB⟩ (by (repeat (first | exact trivial | refine ⟨rfl, ?_⟩))) .rfl ?_
  rintro ⟨i, B1⟩ ⟨hi, hB1⟩
  dsimp only at hi hB1 ⊢
  by_cases hik : i < 256
  · have h5 := hC0 i hik
    have h6 : (0 : Int) + rd C i = 0 := by omega
    repeat' (first|(refine isO ?_;first|refine oo (Pc rfl) ?_|refine oo (Pa rfl (by omega) (by omega)) ?_|(refine ob rfl ?_ ?_<;>intro hq<;>try (exfalso;omega))|refine oo (Pi rfl (by first|omega|(simp only [wr_length];omega))) ?_|refine oo (Pz rfl (by omega) (by omega)) ?_|refine oo (Pl rfl) ?_|refine oo (Px rfl rfl) ?_|refine oo (Pj rfl (by omega) (by omega)) ?_|refine oo (Pk rfl (by omega) (by omega)) ?_|refine oo (Pf rfl) ?_|refine oo (Pv rfl (by omega) (by omega)) ?_|refine oo (Pn rfl) ?_|refine oo (Ph rfl) ?_|refine oo (Pg rfl (by omega) (by omega)) ?_|refine oo (Pe rfl (by omega) (by omega)) ?_|refine oo (Po rfl (by omega) (by omega)) ?_|refine oo (Pm rfl) ?_|refine os rfl rfl ?_|refine ot rfl (by first|omega|(simp only [wr_length];omega)) ?_|refine O_nil ?_)|refine wo rfl ?_|refine wc rfl ?_|refine wg rfl ?_|refine go rfl ?_|refine gc rfl ?_|refine gg rfl ?_)
    rw [h6]
    exact G_stop ⟨(i + 1, wr B1 i 0), ⟨by dsimp only; omega, by dsimp only; rw [wr_length]; exact hB1⟩, by dsimp only; omega, by (repeat (first | exact trivial | refine ⟨rfl, ?_⟩)), .rfl⟩
  · repeat' (first|(refine isO ?_;first|refine oo (Pc rfl) ?_|refine oo (Pa rfl (by omega) (by omega)) ?_|(refine ob rfl ?_ ?_<;>intro hq<;>try (exfalso;omega))|refine oo (Pi rfl (by first|omega|(simp only [wr_length];omega))) ?_|refine oo (Pz rfl (by omega) (by omega)) ?_|refine oo (Pl rfl) ?_|refine oo (Px rfl rfl) ?_|refine oo (Pj rfl (by omega) (by omega)) ?_|refine oo (Pk rfl (by omega) (by omega)) ?_|refine oo (Pf rfl) ?_|refine oo (Pv rfl (by omega) (by omega)) ?_|refine oo (Pn rfl) ?_|refine oo (Ph rfl) ?_|refine oo (Pg rfl (by omega) (by omega)) ?_|refine oo (Pe rfl (by omega) (by omega)) ?_|refine oo (Po rfl (by omega) (by omega)) ?_|refine oo (Pm rfl) ?_|refine os rfl rfl ?_|refine ot rfl (by first|omega|(simp only [wr_length];omega)) ?_|refine O_nil ?_)|refine wo rfl ?_|refine wc rfl ?_|refine wg rfl ?_|refine go rfl ?_|refine gc rfl ?_|refine gg rfl ?_)
    exact G_fin ⟨_, rfl, rfl, .drop (.drop .rfl)⟩
theorem csa0_x (bT oT cT : Nat) (s1 : Value) (M : Mem) :
    HX Try.prog 12 #[.slice (some ⟨bT, oT, none⟩) 0 cT, s1, .int .i64 0, .int .i64 0, .int .i64 256] M (fun _ _ => False) (fun M' => Rk M' M) := by
  refine HX_of_W (fn := Try.f12) Try.func12 rfl rfl rfl rfl ?_
  repeat' (first|(refine isO ?_;first|refine oo (Pc rfl) ?_|refine oo (Pa rfl (by omega) (by omega)) ?_|(refine ob rfl ?_ ?_<;>intro hq<;>try (exfalso;omega))|refine oo (Pi rfl (by first|omega|(simp only [wr_length];omega))) ?_|refine oo (Pz rfl (by omega) (by omega)) ?_|refine oo (Pl rfl) ?_|refine oo (Px rfl rfl) ?_|refine oo (Pj rfl (by omega) (by omega)) ?_|refine oo (Pk rfl (by omega) (by omega)) ?_|refine oo (Pf rfl) ?_|refine oo (Pv rfl (by omega) (by omega)) ?_|refine oo (Pn rfl) ?_|refine oo (Ph rfl) ?_|refine oo (Pg rfl (by omega) (by omega)) ?_|refine oo (Pe rfl (by omega) (by omega)) ?_|refine oo (Po rfl (by omega) (by omega)) ?_|refine oo (Pm rfl) ?_|refine os rfl rfl ?_|refine ot rfl (by first|omega|(simp only [wr_length];omega)) ?_|refine O_nil ?_)|refine wo rfl ?_|refine wc rfl ?_|refine wg rfl ?_|refine go rfl ?_|refine gc rfl ?_|refine gg rfl ?_)
  refine O_make25 (n := 256) rfl (by omega) trivial rfl fun bC _ => ?_
  repeat' (first|(refine isO ?_;first|refine oo (Pc rfl) ?_|refine oo (Pa rfl (by omega) (by omega)) ?_|(refine ob rfl ?_ ?_<;>intro hq<;>try (exfalso;omega))|refine oo (Pi rfl (by first|omega|(simp only [wr_length];omega))) ?_|refine oo (Pz rfl (by omega) (by omega)) ?_|refine oo (Pl rfl) ?_|refine oo (Px rfl rfl) ?_|refine oo (Pj rfl (by omega) (by omega)) ?_|refine oo (Pk rfl (by omega) (by omega)) ?_|refine oo (Pf rfl) ?_|refine oo (Pv rfl (by omega) (by omega)) ?_|refine oo (Pn rfl) ?_|refine oo (Ph rfl) ?_|refine oo (Pg rfl (by omega) (by omega)) ?_|refine oo (Pe rfl (by omega) (by omega)) ?_|refine oo (Po rfl (by omega) (by omega)) ?_|refine oo (Pm rfl) ?_|refine os rfl rfl ?_|refine ot rfl (by first|omega|(simp only [wr_length];omega)) ?_|refine O_nil ?_)|refine wo rfl ?_|refine wc rfl ?_|refine wg rfl ?_|refine go rfl ?_|refine gc rfl ?_|refine gg rfl ?_)
  refine O_make25 (n := 256) rfl (by omega) trivial rfl fun bB _ => ?_
  repeat' (first|(refine isO ?_;first|refine oo (Pc rfl) ?_|refine oo (Pa rfl (by omega) (by omega)) ?_|(refine ob rfl ?_ ?_<;>intro hq<;>try (exfalso;omega))|refine oo (Pi rfl (by first|omega|(simp only [wr_length];omega))) ?_|refine oo (Pz rfl (by omega) (by omega)) ?_|refine oo (Pl rfl) ?_|refine oo (Px rfl rfl) ?_|refine oo (Pj rfl (by omega) (by omega)) ?_|refine oo (Pk rfl (by omega) (by omega)) ?_|refine oo (Pf rfl) ?_|refine oo (Pv rfl (by omega) (by omega)) ?_|refine oo (Pn rfl) ?_|refine oo (Ph rfl) ?_|refine oo (Pg rfl (by omega) (by omega)) ?_|refine oo (Pe rfl (by omega) (by omega)) ?_|refine oo (Po rfl (by omega) (by omega)) ?_|refine oo (Pm rfl) ?_|refine os rfl rfl ?_|refine ot rfl (by first|omega|(simp only [wr_length];omega)) ?_|refine O_nil ?_)|refine wo rfl ?_|refine wc rfl ?_|refine wg rfl ?_|refine go rfl ?_|refine gc rfl ?_|refine gg rfl ?_)
  refine O_pure (P_quo rfl rfl (by omega) (by omega) (inK_i64 (by omega) (by omega))) ⟨_, rfl, rfl⟩ rfl ?_
  repeat' (first|(refine isO ?_;first|refine oo (Pc rfl) ?_|refine oo (Pa rfl (by omega) (by omega)) ?_|(refine ob rfl ?_ ?_<;>intro hq<;>try (exfalso;omega))|refine oo (Pi rfl (by first|omega|(simp only [wr_length];omega))) ?_|refine oo (Pz rfl (by omega) (by omega)) ?_|refine oo (Pl rfl) ?_|refine oo (Px rfl rfl) ?_|refine oo (Pj rfl (by omega) (by omega)) ?_|refine oo (Pk rfl (by omega) (by omega)) ?_|refine oo (Pf rfl) ?_|refine oo (Pv rfl (by omega) (by omega)) ?_|refine oo (Pn rfl) ?_|refine oo (Ph rfl) ?_|refine oo (Pg rfl (by omega) (by omega)) ?_|refine oo (Pe rfl (by omega) (by omega)) ?_|refine oo (Po rfl (by omega) (by omega)) ?_|refine oo (Pm rfl) ?_|refine os rfl rfl ?_|refine ot rfl (by first|omega|(simp only [wr_length];omega)) ?_|refine O_nil ?_)|refine wo rfl ?_|refine wc rfl ?_|refine wg rfl ?_|refine go rfl ?_|refine gc rfl ?_|refine gg rfl ?_)
  refine O_weak (M' := ⟨true, bC, 0, ints .i64 (List.replicate 256 0)⟩ :: ⟨true, bB, 0, ints .i64 (List.replicate 256 0)⟩ :: M) (.cons (.tail .head) .rfl) ?_
  refine O_call rfl rfl Tb.k13 trivial rfl (counts0_c _ _ bC _ List.length_replicate) ?_
  rintro _ _ ⟨rfl, C1, hC1, hC0, rfl⟩
  repeat' (first|(refine isO ?_;first|refine oo (Pc rfl) ?_|refine oo (Pa rfl (by omega) (by omega)) ?_|(refine ob rfl ?_ ?_<;>intro hq<;>try (exfalso;omega))|refine oo (Pi rfl (by first|omega|(simp only [wr_length];omega))) ?_|refine oo (Pz rfl (by omega) (by omega)) ?_|refine oo (Pl rfl) ?_|refine oo (Px rfl rfl) ?_|refine oo (Pj rfl (by omega) (by omega)) ?_|refine oo (Pk rfl (by omega) (by omega)) ?_|refine oo (Pf rfl) ?_|refine oo (Pv rfl (by omega) (by omega)) ?_|refine oo (Pn rfl) ?_|refine oo (Ph rfl) ?_|refine oo (Pg rfl (by omega) (by omega)) ?_|refine oo (Pe rfl (by omega) (by omega)) ?_|refine oo (Po rfl (by omega) (by omega)) ?_|refine oo (Pm rfl) ?_|refine os rfl rfl ?_|refine ot rfl (by first|omega|(simp only [wr_length];omega)) ?_|refine O_nil ?_)|refine wo rfl ?_|refine wc rfl ?_|refine wg rfl ?_|refine go rfl ?_|refine gc rfl ?_|refine gg rfl ?_)
  refine O_call rfl rfl Tb.k14 trivial rfl (ends0_c C1 _ bC bB M hC1 hC0 List.length_replicate) ?_
  rintro _ M' ⟨rfl, hrk⟩
  refine O_weak hrk ?_
  repeat' (first|(refine isO ?_;first|refine oo (Pc rfl) ?_|refine oo (Pa rfl (by omega) (by omega)) ?_|(refine ob rfl ?_ ?_<;>intro hq<;>try (exfalso;omega))|refine oo (Pi rfl (by first|omega|(simp only [wr_length];omega))) ?_|refine oo (Pz rfl (by omega) (by omega)) ?_|refine oo (Pl rfl) ?_|refine oo (Px rfl rfl) ?_|refine oo (Pj rfl (by omega) (by omega)) ?_|refine oo (Pk rfl (by omega) (by omega)) ?_|refine oo (Pf rfl) ?_|refine oo (Pv rfl (by omega) (by omega)) ?_|refine oo (Pn rfl) ?_|refine oo (Ph rfl) ?_|refine oo (Pg rfl (by omega) (by omega)) ?_|refine oo (Pe rfl (by omega) (by omega)) ?_|refine oo (Po rfl (by omega) (by omega)) ?_|refine oo (Pm rfl) ?_|refine os rfl rfl ?_|refine ot rfl (by first|omega|(simp only [wr_length];omega)) ?_|refine O_nil ?_)|refine wo rfl ?_|refine wc rfl ?_|refine wg rfl ?_|refine go rfl ?_|refine gc rfl ?_|refine gg rfl ?_)
  refine W_loop (α := Unit) (fun _ => [(0, .slice (some ⟨bT, oT, none⟩) 0 cT), (3, .int .i64 0), (16, .int .i64 0)]) (fun _ => M) (fun _ => True) (fun _ => 0) () trivial (by (repeat (first | exact trivial | refine ⟨rfl, ?_⟩))) .rfl ?_
  rintro _ _
  repeat' (first|(refine isO ?_;first|refine oo (Pc rfl) ?_|refine oo (Pa rfl (by omega) (by omega)) ?_|(refine ob rfl ?_ ?_<;>intro hq<;>try (exfalso;omega))|refine oo (Pi rfl (by first|omega|(simp only [wr_length];omega))) ?_|refine oo (Pz rfl (by omega) (by omega)) ?_|refine oo (Pl rfl) ?_|refine oo (Px rfl rfl) ?_|refine oo (Pj rfl (by omega) (by omega)) ?_|refine oo (Pk rfl (by omega) (by omega)) ?_|refine oo (Pf rfl) ?_|refine oo (Pv rfl (by omega) (by omega)) ?_|refine oo (Pn rfl) ?_|refine oo (Ph rfl) ?_|refine oo (Pg rfl (by omega) (by omega)) ?_|refine oo (Pe rfl (by omega) (by omega)) ?_|refine oo (Po rfl (by omega) (by omega)) ?_|refine oo (Pm rfl) ?_|refine os rfl rfl ?_|refine ot rfl (by first|omega|(simp only [wr_length];omega)) ?_|refine O_nil ?_)|refine wo rfl ?_|refine wc rfl ?_|refine wg rfl ?_|refine go rfl ?_|refine gc rfl ?_|refine gg rfl ?_)
  exact O_idxPanI Tb.u22 rfl rfl (by omega) trivial fun t x => ⟨⟨t, x, rfl⟩, .rfl⟩
theorem compute0_x (bT oT cT : Nat) (a1 : Option Addr) (c1 : Nat) (M : Mem) :
    HX Try.prog 10 #[.slice (some ⟨bT, oT, none⟩) 0 cT, .slice a1 0 c1] M (fun _ _ => False) (fun M' => Rk M' M) := by
  refine HX_of_W (fn := Try.f10) Try.func10 rfl rfl rfl rfl ?_
  repeat' (first|(refine isO ?_;first|refine oo (Pc rfl) ?_|refine oo (Pa rfl (by omega) (by omega)) ?_|(refine ob rfl ?_ ?_<;>intro hq<;>try (exfalso;omega))|refine oo (Pi rfl (by first|omega|(simp only [wr_length];omega))) ?_|refine oo (Pz rfl (by omega) (by omega)) ?_|refine oo (Pl rfl) ?_|refine oo (Px rfl rfl) ?_|refine oo (Pj rfl (by omega) (by omega)) ?_|refine oo (Pk rfl (by omega) (by omega)) ?_|refine oo (Pf rfl) ?_|refine oo (Pv rfl (by omega) (by omega)) ?_|refine oo (Pn rfl) ?_|refine oo (Ph rfl) ?_|refine oo (Pg rfl (by omega) (by omega)) ?_|refine oo (Pe rfl (by omega) (by omega)) ?_|refine oo (Po rfl (by omega) (by omega)) ?_|refine oo (Pm rfl) ?_|refine os rfl rfl ?_|refine ot rfl (by first|omega|(simp only [wr_length];omega)) ?_|refine O_nil ?_)|refine wo rfl ?_|refine wc rfl ?_|refine wg rfl ?_|refine go rfl ?_|refine gc rfl ?_|refine gg rfl ?_)
  exact O_callX rfl rfl Tb.k12 trivial rfl (csa0_x bT oT cT _ M) (fun v M' h => h.elim) fun t x M' h => ⟨⟨t, x, rfl⟩, h⟩
theorem P_append0 {P : Program} {N : Fm} {E : Env} {M : Mem} {t e t2 e2 : TypeId} {I : TypeInfo} {x y : Operand} {bd bs : Option Addr} {ln cn cx : Nat} (ht : Und P t (.slice e)) (ht2 : Und P t2 (.slice e2)) (hI : P.info? e = some I)
    (hx : ev E x = some (.slice bd ln cn)) (hy : ev E y = some (.slice bs 0 cx)) (hn : ln ≤ cn) : Pure P N E M (.call { callee := .builtin .append, args := #[x, y], argTypes := #[t, t2] }) (.slice bd ln cn) := by
  constructor
  intro pr base w0 a w hA hS d ty pos after g
  have h : (Builtin.append_ #[t, t2] ty #[.slice bd ln cn, .slice bs 0 cx]).run P w = .ok (.slice bd ln cn) w := by
    unfold Builtin.append_
    cases bd <;> cases bs <;> simp [ht.run, ht2.run, sizeOf, typeInfo, hI, Builtin.lenOf, Builtin.firstCells, loadCells, loadCellsFrom, storeCells, hn]
  simp [execOp, resolve, invoke, builtin, hA.eval hx, hA.eval hy, h]
theorem closure0_x (ab : Option Addr) (cap b1 b2 : Nat) (M : Mem) :
    HX Try.prog 9 #[.pointer (some ⟨b1, 0, none⟩), .pointer (some ⟨b2, 0, none⟩)] (⟨true, b1, 0, [.slice ab 0 cap]⟩ :: ⟨true, b2, 0, [.slice none 0 0]⟩ :: M)
      (fun _ _ => False) (fun M' => ∃ bl, Rk M' (⟨true, b2, 0, [.slice (some ⟨bl, 0, none⟩) 0 0]⟩ :: M)) := by
  obtain ⟨I, hI, hI1, hI2, hI3⟩ := info5'
  refine HX_of_W (fn := Try.f9) Try.func9 rfl rfl rfl rfl ?_
  repeat' (first|(refine isO ?_;first|refine oo (Pc rfl) ?_|refine oo (Pa rfl (by omega) (by omega)) ?_|(refine ob rfl ?_ ?_<;>intro hq<;>try (exfalso;omega))|refine oo (Pi rfl (by first|omega|(simp only [wr_length];omega))) ?_|refine oo (Pz rfl (by omega) (by omega)) ?_|refine oo (Pl rfl) ?_|refine oo (Px rfl rfl) ?_|refine oo (Pj rfl (by omega) (by omega)) ?_|refine oo (Pk rfl (by omega) (by omega)) ?_|refine oo (Pf rfl) ?_|refine oo (Pv rfl (by omega) (by omega)) ?_|refine oo (Pn rfl) ?_|refine oo (Ph rfl) ?_|refine oo (Pg rfl (by omega) (by omega)) ?_|refine oo (Pe rfl (by omega) (by omega)) ?_|refine oo (Po rfl (by omega) (by omega)) ?_|refine oo (Pm rfl) ?_|refine os rfl rfl ?_|refine ot rfl (by first|omega|(simp only [wr_length];omega)) ?_|refine O_nil ?_)|refine wo rfl ?_|refine wc rfl ?_|refine wg rfl ?_|refine go rfl ?_|refine gc rfl ?_|refine gg rfl ?_)
  refine O_make25 (n := 0) rfl (by omega) trivial rfl fun bl _ => ?_
  repeat' (first|(refine isO ?_;first|refine oo (Pc rfl) ?_|refine oo (Pa rfl (by omega) (by omega)) ?_|(refine ob rfl ?_ ?_<;>intro hq<;>try (exfalso;omega))|refine oo (Pi rfl (by first|omega|(simp only [wr_length];omega))) ?_|refine oo (Pz rfl (by omega) (by omega)) ?_|refine oo (Pl rfl) ?_|refine oo (Px rfl rfl) ?_|refine oo (Pj rfl (by omega) (by omega)) ?_|refine oo (Pk rfl (by omega) (by omega)) ?_|refine oo (Pf rfl) ?_|refine oo (Pv rfl (by omega) (by omega)) ?_|refine oo (Pn rfl) ?_|refine oo (Ph rfl) ?_|refine oo (Pg rfl (by omega) (by omega)) ?_|refine oo (Pe rfl (by omega) (by omega)) ?_|refine oo (Po rfl (by omega) (by omega)) ?_|refine oo (Pm rfl) ?_|refine os rfl rfl ?_|refine ot rfl (by first|omega|(simp only [wr_length];omega)) ?_|refine O_nil ?_)|refine wo rfl ?_|refine wc rfl ?_|refine wg rfl ?_|refine go rfl ?_|refine gc rfl ?_|refine gg rfl ?_)
  refine W_region_sp2 4 0 5 (fun v M' => ∃ b, v = .slice (some ⟨b, 0, none⟩) 0 0 ∧ M' = ⟨true, b, 0, []⟩ :: ⟨true, bl, 0, ints .i64 (List.replicate 0 0)⟩ :: ⟨true, b1, 0, [.slice ab 0 cap]⟩ :: ⟨true, b2, 0, [.slice (some ⟨bl, 0, none⟩) 0 0]⟩ :: M)
    2 7 (fun v1 v2 M2 => v2 = v1 ∧ Rk M2 (⟨true, bl, 0, ints .i64 (List.replicate 0 0)⟩ :: ⟨true, b1, 0, [.slice ab 0 cap]⟩ :: ⟨true, b2, 0, [.slice (some ⟨bl, 0, none⟩) 0 0]⟩ :: M))
    (by decide) (by decide) (by decide) Tb.mixed [[], [], [0, 1], [], [2, 3]] (by kernel_rfl) (by kernel_rfl) (by kernel_rfl) (by kernel_rfl) (by kernel_rfl) (by decide) (fun v M' ⟨b, _, h⟩ => by rw [h]; exact .drop .rfl) (fun v M' _ v2 M2 ⟨_, h⟩ => h) ?_
  simp only [List.take_succ_cons, List.take_zero, List.drop_succ_cons, List.drop_zero]
  repeat' (first | (refine isQE ?_; first | refine hh rfl rfl (Pc rfl) ?_ | refine hh rfl rfl (Pa rfl (by omega) (by omega)) ?_ | (refine hb rfl rfl rfl ?_ ?_ <;> intro hq <;> try (exfalso; omega)) | refine hh rfl rfl (Pi rfl (by omega)) ?_ | refine hh rfl rfl (Pl rfl) ?_ | refine hh rfl rfl (Px rfl rfl) ?_  | refine hh rfl rfl (Pj rfl (by omega) (by omega)) ?_ | refine hh rfl rfl (Pk rfl (by omega) (by omega)) ?_ | refine hh rfl rfl (Pf rfl) ?_ | refine hh rfl rfl (Pv rfl (by omega) (by omega)) ?_ | refine hh rfl rfl (Pn rfl) ?_ | refine hh rfl rfl (Pm rfl) ?_ | (refine QE_nil ⟨rfl, ?_⟩; simp only [List.reverse_cons, List.reverse_nil, List.nil_append, List.cons_append, somes])))
  refine hsp1 rfl (s_build rfl (fun w => empty22 w) trivial rfl) ?_
  repeat' (first | (refine isQE ?_; first | refine hh rfl rfl (Pc rfl) ?_ | refine hh rfl rfl (Pa rfl (by omega) (by omega)) ?_ | (refine hb rfl rfl rfl ?_ ?_ <;> intro hq <;> try (exfalso; omega)) | refine hh rfl rfl (Pi rfl (by omega)) ?_ | refine hh rfl rfl (Pl rfl) ?_ | refine hh rfl rfl (Px rfl rfl) ?_  | refine hh rfl rfl (Pj rfl (by omega) (by omega)) ?_ | refine hh rfl rfl (Pk rfl (by omega) (by omega)) ?_ | refine hh rfl rfl (Pf rfl) ?_ | refine hh rfl rfl (Pv rfl (by omega) (by omega)) ?_ | refine hh rfl rfl (Pn rfl) ?_ | refine hh rfl rfl (Pm rfl) ?_ | (refine QE_nil ⟨rfl, ?_⟩; simp only [List.reverse_cons, List.reverse_nil, List.nil_append, List.cons_append, somes])))
  refine hsp2 rfl rfl (fun v M2 h => by
    obtain ⟨b', rfl, rfl⟩ := h
    exact s_pure (fun E' M' hle => P_append0 Tb.u22 Tb.u22 hI (ev_le hle rfl) (ev_le hle rfl) (by omega)) trivial rfl ⟨rfl, .drop .rfl⟩) ?_
  repeat' (first | (refine isQE ?_; first | refine hh rfl rfl (Pc rfl) ?_ | refine hh rfl rfl (Pa rfl (by omega) (by omega)) ?_ | (refine hb rfl rfl rfl ?_ ?_ <;> intro hq <;> try (exfalso; omega)) | refine hh rfl rfl (Pi rfl (by omega)) ?_ | refine hh rfl rfl (Pl rfl) ?_ | refine hh rfl rfl (Px rfl rfl) ?_  | refine hh rfl rfl (Pj rfl (by omega) (by omega)) ?_ | refine hh rfl rfl (Pk rfl (by omega) (by omega)) ?_ | refine hh rfl rfl (Pf rfl) ?_ | refine hh rfl rfl (Pv rfl (by omega) (by omega)) ?_ | refine hh rfl rfl (Pn rfl) ?_ | refine hh rfl rfl (Pm rfl) ?_ | (refine QE_nil ⟨rfl, ?_⟩; simp only [List.reverse_cons, List.reverse_nil, List.nil_append, List.cons_append, somes])))
  rintro v1 M1 ⟨b5, rfl, rfl⟩ v2 M2 ⟨rfl, hrk⟩
  exact O_callX rfl rfl Tb.k10 trivial rfl (compute0_x b5 0 0 _ _ M2) (fun v M' h => h.elim) fun t x M' h => ⟨⟨t, x, rfl⟩, bl, .trans h (.trans hrk (.cons (.tail (.tail .head)) (.drop (.drop .rfl))))⟩
theorem suffixes0_c (ab : Option Addr) (cap : Nat) (M : Mem) :
    HC Try.prog 7 #[.slice ab 0 cap] M (fun v M' => ∃ bl, v = .slice (some ⟨bl, 0, none⟩) 0 0 ∧ Rk M' M) := by
  refine HC_of_WM (fn := Try.f7) Try.func7 rfl rfl rfl rfl ?_
  repeat' (first|(refine isO ?_;first|refine oo (Pc rfl) ?_|refine oo (Pa rfl (by omega) (by omega)) ?_|(refine ob rfl ?_ ?_<;>intro hq<;>try (exfalso;omega))|refine oo (Pi rfl (by first|omega|(simp only [wr_length];omega))) ?_|refine oo (Pz rfl (by omega) (by omega)) ?_|refine oo (Pl rfl) ?_|refine oo (Px rfl rfl) ?_|refine oo (Pj rfl (by omega) (by omega)) ?_|refine oo (Pk rfl (by omega) (by omega)) ?_|refine oo (Pf rfl) ?_|refine oo (Pv rfl (by omega) (by omega)) ?_|refine oo (Pn rfl) ?_|refine oo (Ph rfl) ?_|refine oo (Pg rfl (by omega) (by omega)) ?_|refine oo (Pe rfl (by omega) (by omega)) ?_|refine oo (Po rfl (by omega) (by omega)) ?_|refine oo (Pm rfl) ?_|refine os rfl rfl ?_|refine ot rfl (by first|omega|(simp only [wr_length];omega)) ?_|refine O_nil ?_)|refine wo rfl ?_|refine wc rfl ?_|refine wg rfl ?_|refine go rfl ?_|refine gc rfl ?_|refine gg rfl ?_)
  refine O_box rfl trivial rfl fun b1 => ?_
  refine O_alloc zero25 trivial rfl fun b2 => ?_
  repeat' (first|(refine isO ?_;first|refine oo (Pc rfl) ?_|refine oo (Pa rfl (by omega) (by omega)) ?_|(refine ob rfl ?_ ?_<;>intro hq<;>try (exfalso;omega))|refine oo (Pi rfl (by first|omega|(simp only [wr_length];omega))) ?_|refine oo (Pz rfl (by omega) (by omega)) ?_|refine oo (Pl rfl) ?_|refine oo (Px rfl rfl) ?_|refine oo (Pj rfl (by omega) (by omega)) ?_|refine oo (Pk rfl (by omega) (by omega)) ?_|refine oo (Pf rfl) ?_|refine oo (Pv rfl (by omega) (by omega)) ?_|refine oo (Pn rfl) ?_|refine oo (Ph rfl) ?_|refine oo (Pg rfl (by omega) (by omega)) ?_|refine oo (Pe rfl (by omega) (by omega)) ?_|refine oo (Po rfl (by omega) (by omega)) ?_|refine oo (Pm rfl) ?_|refine os rfl rfl ?_|refine ot rfl (by first|omega|(simp only [wr_length];omega)) ?_|refine O_nil ?_)|refine wo rfl ?_|refine wc rfl ?_|refine wg rfl ?_|refine go rfl ?_|refine gc rfl ?_|refine gg rfl ?_)
  refine O_call rfl rfl Tb.k8 trivial rfl (safe_x (f := 9) (R := fun _ => False) (X := fun M' => ∃ bl, Rk M' (⟨true, b2, 0, [.slice (some ⟨bl, 0, none⟩) 0 0]⟩ :: M)) Tb.k9 fun bs => ?_) ?_
  · refine (HX.take (L := ⟨true, b1, 0, [.slice ab 0 cap]⟩ :: ⟨true, b2, 0, [.slice none 0 0]⟩ :: ⟨true, bs, 0, [.bool false]⟩ :: M) (.cons (.tail (.tail .head)) (.cons (.tail .head) .rfl)) (closure0_x ab cap b1 b2 _)).mono (fun _ _ h => h.elim) ?_
    rintro M' ⟨bl, hrk⟩
    exact ⟨_, .trans hrk (.cons (.tail .head) .rfl), bl, .rfl⟩
  rintro v M' (⟨_, h⟩ | ⟨rfl, bl, hrk⟩)
  · exact h.elim
  · refine O_weak hrk ?_
    repeat' (first|(refine isO ?_;first|refine oo (Pc rfl) ?_|refine oo (Pa rfl (by omega) (by omega)) ?_|(refine ob rfl ?_ ?_<;>intro hq<;>try (exfalso;omega))|refine oo (Pi rfl (by first|omega|(simp only [wr_length];omega))) ?_|refine oo (Pz rfl (by omega) (by omega)) ?_|refine oo (Pl rfl) ?_|refine oo (Px rfl rfl) ?_|refine oo (Pj rfl (by omega) (by omega)) ?_|refine oo (Pk rfl (by omega) (by omega)) ?_|refine oo (Pf rfl) ?_|refine oo (Pv rfl (by omega) (by omega)) ?_|refine oo (Pn rfl) ?_|refine oo (Ph rfl) ?_|refine oo (Pg rfl (by omega) (by omega)) ?_|refine oo (Pe rfl (by omega) (by omega)) ?_|refine oo (Po rfl (by omega) (by omega)) ?_|refine oo (Pm rfl) ?_|refine os rfl rfl ?_|refine ot rfl (by first|omega|(simp only [wr_length];omega)) ?_|refine O_nil ?_)|refine wo rfl ?_|refine wc rfl ?_|refine wg rfl ?_|refine go rfl ?_|refine gc rfl ?_|refine gg rfl ?_)
    exact G_fin ⟨[.slice (some ⟨bl, 0, none⟩) 0 0], ⟨⟨_, _, _, _, _, rfl, TakeI.out.mem, Try.underlying25, rfl⟩, trivial⟩, bl, rfl, .drop .rfl⟩
end Go.Proofs.Ytcibehgcibojnaa.Sai

namespace Go.Proofs.Ytcibehgcibojnaa.Sai
open Go Go.RowKit Go.Proofs.Ytcibehgcibojnaa.Vm Go.Proofs.Ytcibehgcibojnaa.Sais
def strI (ys : List Int) : ByteArray := ys.foldl (fun s y => s.push (UInt8.ofNat y.toNat)) ByteArray.empty
theorem fold_data (ys : List Int) : ∀ s : ByteArray, (ys.foldl (fun s y => s.push (UInt8.ofNat y.toNat)) s).data.toList = s.data.toList ++ ys.map fun y => UInt8.ofNat y.toNat := by
  induction ys with
  | nil => intro s; simp
  | cons y ys ih =>
    intro s
    rw [List.foldl_cons, ih]
    simp [ByteArray.push]
theorem less_of (a b : List Nat) (ha : ∀ x ∈ a, x < 256) (hb : ∀ x ∈ b, x < 256) (h : a < b) : Op.bytesLess (a.map UInt8.ofNat) (b.map UInt8.ofNat) = true := by
  induction a generalizing b with
  | nil =>
    cases b with
    | nil => exact absurd h (List.lt_irrefl _)
    | cons y b => rfl
  | cons x a ih =>
    cases b with
    | nil => exact absurd h (List.not_lt_nil _)
    | cons y b =>
      have hx := ha x List.mem_cons_self
      have hy := hb y List.mem_cons_self
      show (decide (UInt8.ofNat x < UInt8.ofNat y) || (UInt8.ofNat x == UInt8.ofNat y && Op.bytesLess (a.map UInt8.ofNat) (b.map UInt8.ofNat))) = true
      rcases List.cons_lt_cons_iff.1 h with h1 | ⟨h1, h2⟩
      · have : UInt8.ofNat x < UInt8.ofNat y := by
          rw [UInt8.lt_iff_toNat_lt, UInt8.toNat_ofNat', UInt8.toNat_ofNat']
          omega
        simp [this]
      · subst h1
        rw [ih b (fun z hz => ha z (List.mem_cons_of_mem _ hz)) (fun z hz => hb z (List.mem_cons_of_mem _ hz)) h2]
        simp
theorem P_toStrAt {P : Program} {N : Fm} {E : Env} {M : Mem} {t t2 e : TypeId} {x : Operand} {b o a n cap v : Nat} {own : Bool} {l : List Value} {ys : List Int} (ht : Und P t (.slice e)) (he : Und P e (.int .u8)) (ht2 : Und P t2 .string) (hx : ev E x = some (.slice (some ⟨b, a, none⟩) n cap)) (ha : a = o + v)
    (hm : (⟨own, b, o, l⟩ : Sg) ∈ M) (hl : (l.drop v).take n = ints .u8 ys) (hn : v + n ≤ l.length) : Pure P N E M (.convert t t2 x) (.string (strI ys)) := by
  subst ha
  constructor
  intro pr base w0 ac w hA hS d ty pos after g
  have h1 : (loadCells ⟨b, o + v, none⟩ n).run P w = .ok (ints .u8 ys).toArray w := by
    have := Go.Proofs.Ytcibehgcibojnaa.Vm.run_loadCells (P := P) (i := v) (n := n) (hS.seg _ hm) (by simpa using hn)
    rw [← hl]
    simpa using this
  have h2 := run_b2s (c := cap) h1
  simp [execOp, hA.eval hx, convert, ht.run, ht2.run, he.run, h2, strI]
theorem P_geqStr {P : Program} {N : Fm} {E : Env} {M : Mem} {t t2 : TypeId} {x y : Operand} {s u : ByteArray} (hx : ev E x = some (.string s)) (hy : ev E y = some (.string u)) (h : Op.bytesLess s.toList u.toList = true) : Pure P N E M (.binOp .geq t x y t2) (.bool false) := by
  constructor
  intro pr base w0 a w hA hS d ty pos after g
  simp [execOp, hA.eval hx, hA.eval hy, binOp, eqGuard, Op.stringOp, h]
theorem less_sl {T : List Nat} (hT : ∀ x ∈ T, x < 256) {x y : Nat} (h : Sl T x y) : Op.bytesLess (strI ((T.drop x).map Nat.cast)).toList (strI ((T.drop y).map Nat.cast)).toList = true := by
  have e : ∀ z, (strI ((T.drop z).map Nat.cast)).toList = (T.drop z).map UInt8.ofNat := fun z => by
    rw [ByteArray.toList_eq]
    unfold strI
    rw [fold_data]
    simp [List.map_map, Function.comp_def]
  rw [e, e]
  exact less_of _ _ (fun z hz => hT z (List.mem_of_mem_drop hz)) (fun z hz => hT z (List.mem_of_mem_drop hz)) h
end Go.Proofs.Ytcibehgcibojnaa.Sai

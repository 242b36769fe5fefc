/- GeneratePrefixes, walked: for 2 to 60 codes with lengths from 1 to 20 and ascending symbols it gives the canonical values if nothing is left over, and is an error if not. -/
import Derived.Test.YtjkpfliaflmppaaW6x18
import Derived.Test.YtjkpfliaflmppaaW6x07

namespace Go.Proofs.Ytjkpfliaflmppaa.Pc
open Go Go.RowKit Go.Proofs.Ytjkpfliaflmppaa.Vm Go.Proofs.Ytjkpfliaflmppaa.Rev Go.Proofs.Ytjkpfliaflmppaa.Rv

theorem build129 (c : Int) (s t : ByteArray) (w : World) : (Instr.build 129 [(0, .int .i64 c), (1, .string s), (2, .string t)].toArray).run Try.prog w = .ok (.agg [.int .i64 c, .string s, .string t].toArray) w := by kernel_rfl

theorem errorf_c (c : Int) (f : ByteArray) (a : Value) (M : Mem) : HP Try.prog 90 #[.int .i64 c, .string f, a] M (.iface 129 (.agg [.int .i64 c, .string ⟨#[112, 114, 101, 102, 105, 120]⟩, .string f].toArray)) := by
  refine HP.of (HC_of_W (fn := Try.f90) Try.func90 rfl rfl rfl rfl ?_)
  repeat' (first | (refine isO ?_; first | refine oo (Pc rfl) ?_ | refine oo (Pa rfl (by omega) (by omega)) ?_ | (refine ob rfl ?_ ?_ <;> intro hq <;> try (exfalso; omega)) | refine oo (Pi rfl (by omega)) ?_ | refine oo (Pl rfl) ?_ | refine oo (Px rfl rfl) ?_ | refine oo (Pj rfl (by omega) (by omega)) ?_ | refine oo (Pk rfl (by omega) (by omega)) ?_ | refine oo (Pf rfl) ?_ | refine oo (Pv rfl (by omega) (by omega)) ?_ | refine oo (Pn rfl) ?_ | refine oo (Pm rfl) ?_ | refine os rfl rfl ?_ | refine ot rfl (by omega) ?_ | refine O_nil ?_) | refine wo rfl ?_ | refine wc rfl ?_ | refine wg rfl ?_ | refine go rfl ?_ | refine gc rfl ?_ | refine gg rfl ?_)
  refine O_pure (P_build rfl (build129 _ _ _)) trivial rfl ?_
  refine O_pure (P_mkiface Tb.n129 rfl) trivial rfl ?_
  repeat' (first | (refine isO ?_; first | refine oo (Pc rfl) ?_ | refine oo (Pa rfl (by omega) (by omega)) ?_ | (refine ob rfl ?_ ?_ <;> intro hq <;> try (exfalso; omega)) | refine oo (Pi rfl (by omega)) ?_ | refine oo (Pl rfl) ?_ | refine oo (Px rfl rfl) ?_ | refine oo (Pj rfl (by omega) (by omega)) ?_ | refine oo (Pk rfl (by omega) (by omega)) ?_ | refine oo (Pf rfl) ?_ | refine oo (Pv rfl (by omega) (by omega)) ?_ | refine oo (Pn rfl) ?_ | refine oo (Pm rfl) ?_ | refine os rfl rfl ?_ | refine ot rfl (by omega) ?_ | refine O_nil ?_) | refine wo rfl ?_ | refine wc rfl ?_ | refine wg rfl ?_ | refine go rfl ?_ | refine gc rfl ?_ | refine gg rfl ?_)
  exact G_fin ⟨_, rfl, rfl⟩

theorem zero148 : zeroOf Try.prog 148 = some (ints .u64 (row28 fun _ => 0)) := by kernel_rfl

/-- What is asked of codes. -/
structure Good (l : List Cd) : Prop where
  two : 2 ≤ l.length
  most : l.length ≤ 60
  len : ∀ c ∈ l, 1 ≤ c.len ∧ c.len ≤ 20
  sym : ∀ i, i + 1 < l.length → (l.getD i Cd.zero).sym < (l.getD (i + 1) Cd.zero).sym
  bound : ∀ c ∈ l, c.sym < 2 ^ 32

theorem Good.lenAt {l : List Cd} (h : Good l) {i : Nat} (hi : i < l.length) : 1 ≤ (l.getD i Cd.zero).len ∧ (l.getD i Cd.zero).len ≤ 20 := by
  have : l.getD i Cd.zero = l[i] := by simp [hi]
  rw [this]; exact h.len _ (List.getElem_mem hi)

set_option maxHeartbeats 4000000 in
theorem gp_c (cs : List Cd) (hG : Good cs) (b cap : Nat) (sp : List Value) (F : Mem) (hcap : (codesV cs ++ sp).length = cap * 4) :
    HC Try.prog 42 #[.slice (some ⟨b, 0, none⟩) cs.length cap] (⟨true, b, 0, codesV cs ++ sp⟩ :: F)
      (fun v M' => (whole cs ∧ v = .nilIface ∧ Rk M' (⟨true, b, 0, codesV (canon cs) ++ sp⟩ :: F)) ∨ (¬ whole cs ∧ (∃ t x, v = .iface t x) ∧ Rk M' (⟨true, b, 0, codesV cs ++ sp⟩ :: F))) := by
  have h2 := hG.two
  have h60 := hG.most
  have hl0 := hG.lenAt (i := 0) (by omega)
  obtain ⟨zs, zc, zl, zv, hz⟩ : ∃ s c n v, cs.getD 0 Cd.zero = ⟨s, c, n, v⟩ := ⟨_, _, _, _, rfl⟩
  rw [hz] at hl0
  dsimp only at hl0
  have hcl : cs.length ≤ cap := by simp only [List.length_append, codesV_length] at hcap; omega
  refine HC_of_W (fn := Try.f42) Try.func42 rfl rfl rfl rfl ?_
  repeat' (first | (refine isO ?_; first | refine oo (Pc rfl) ?_ | refine oo (Pa rfl (by omega) (by omega)) ?_ | (refine ob rfl ?_ ?_ <;> intro hq <;> try (exfalso; omega)) | refine oo (Pi rfl (by omega)) ?_ | refine oo (Pl rfl) ?_ | refine oo (Px rfl rfl) ?_ | refine oo (Pj rfl (by omega) (by omega)) ?_ | refine oo (Pk rfl (by omega) (by omega)) ?_ | refine oo (Pf rfl) ?_ | refine oo (Pv rfl (by omega) (by omega)) ?_ | refine oo (Pn rfl) ?_ | refine oo (Pm rfl) ?_ | refine os rfl rfl ?_ | refine ot rfl (by omega) ?_ | refine O_nil ?_) | refine wo rfl ?_ | refine wc rfl ?_ | refine wg rfl ?_ | refine go rfl ?_ | refine gc rfl ?_ | refine gg rfl ?_)
  refine O_alloc zero148 trivial rfl fun b1 => ?_
  repeat' (first | (refine isO ?_; first | refine oo (Pc rfl) ?_ | refine oo (Pa rfl (by omega) (by omega)) ?_ | (refine ob rfl ?_ ?_ <;> intro hq <;> try (exfalso; omega)) | refine oo (Pi rfl (by omega)) ?_ | refine oo (Pl rfl) ?_ | refine oo (Px rfl rfl) ?_ | refine oo (Pj rfl (by omega) (by omega)) ?_ | refine oo (Pk rfl (by omega) (by omega)) ?_ | refine oo (Pf rfl) ?_ | refine oo (Pv rfl (by omega) (by omega)) ?_ | refine oo (Pn rfl) ?_ | refine oo (Pm rfl) ?_ | refine os rfl rfl ?_ | refine ot rfl (by omega) ?_ | refine O_nil ?_) | refine wo rfl ?_ | refine wc rfl ?_ | refine wg rfl ?_ | refine go rfl ?_ | refine gc rfl ?_ | refine gg rfl ?_)
  refine O_pure (P_loadAggAt (o := 0) (i := 0) Tb.a146 Tb.c146 (by decide) rfl rfl (by exact TakeI.out.mem) (by rw [List.length_append, codesV_length]; omega) (codesV_lit' _ _ 0 (by omega) hz)) trivial rfl ?_
  refine O_alloc zero146 trivial rfl fun b2 => ?_
  refine O_storeAgg0 Tb.c146 (by decide) rfl rfl rfl (lit_one _ _ _ _) trivial (by exact TakeI.out) rfl ?_
  repeat' (first | (refine isO ?_; first | refine oo (Pc rfl) ?_ | refine oo (Pa rfl (by omega) (by omega)) ?_ | (refine ob rfl ?_ ?_ <;> intro hq <;> try (exfalso; omega)) | refine oo (Pi rfl (by omega)) ?_ | refine oo (Pl rfl) ?_ | refine oo (Px rfl rfl) ?_ | refine oo (Pj rfl (by omega) (by omega)) ?_ | refine oo (Pk rfl (by omega) (by omega)) ?_ | refine oo (Pf rfl) ?_ | refine oo (Pv rfl (by omega) (by omega)) ?_ | refine oo (Pn rfl) ?_ | refine oo (Pm rfl) ?_ | refine os rfl rfl ?_ | refine ot rfl (by omega) ?_ | refine O_nil ?_) | refine wo rfl ?_ | refine wc rfl ?_ | refine wg rfl ?_ | refine go rfl ?_ | refine gc rfl ?_ | refine gg rfl ?_)
  refine O_pure (P_is (P_loadi Tb.u49 rfl (by exact TakeI.out.mem) (by rw [row28_length]; omega)) (congrArg (Value.int .u64) (row28_rd _ _ (by omega)))) trivial rfl ?_
  refine O_pure (P_addE (p := 0) (q := 1) (r := cntL [] zl + 1) rfl rfl rfl rfl) trivial rfl ?_
  repeat' (first | (refine isO ?_; first | refine oo (Pc rfl) ?_ | refine oo (Pa rfl (by omega) (by omega)) ?_ | (refine ob rfl ?_ ?_ <;> intro hq <;> try (exfalso; omega)) | refine oo (Pi rfl (by omega)) ?_ | refine oo (Pl rfl) ?_ | refine oo (Px rfl rfl) ?_ | refine oo (Pj rfl (by omega) (by omega)) ?_ | refine oo (Pk rfl (by omega) (by omega)) ?_ | refine oo (Pf rfl) ?_ | refine oo (Pv rfl (by omega) (by omega)) ?_ | refine oo (Pn rfl) ?_ | refine oo (Pm rfl) ?_ | refine os rfl rfl ?_ | refine ot rfl (by omega) ?_ | refine O_nil ?_) | refine wo rfl ?_ | refine wc rfl ?_ | refine wg rfl ?_ | refine go rfl ?_ | refine gc rfl ?_ | refine gg rfl ?_)
  refine O_storeiE Tb.c49 rfl rfl (hist_snoc [] ⟨zs, zc, zl, zv⟩ (by dsimp only; omega)) trivial (by first | exact .head | exact .tail .head | exact .tail (.tail .head) | exact .tail (.tail (.tail .head)) | exact .tail (.tail (.tail (.tail .head)))) (by rw [row28_length]; omega) ?_
  repeat' (first | (refine isO ?_; first | refine oo (Pc rfl) ?_ | refine oo (Pa rfl (by omega) (by omega)) ?_ | (refine ob rfl ?_ ?_ <;> intro hq <;> try (exfalso; omega)) | refine oo (Pi rfl (by omega)) ?_ | refine oo (Pl rfl) ?_ | refine oo (Px rfl rfl) ?_ | refine oo (Pj rfl (by omega) (by omega)) ?_ | refine oo (Pk rfl (by omega) (by omega)) ?_ | refine oo (Pf rfl) ?_ | refine oo (Pv rfl (by omega) (by omega)) ?_ | refine oo (Pn rfl) ?_ | refine oo (Pm rfl) ?_ | refine os rfl rfl ?_ | refine ot rfl (by omega) ?_ | refine O_nil ?_) | refine wo rfl ?_ | refine wc rfl ?_ | refine wg rfl ?_ | refine go rfl ?_ | refine gc rfl ?_ | refine gg rfl ?_)
  refine W_region_still Tb.mixed (by kernel_rfl) ?_
  repeat' (first | (refine isS ?_; first | refine ss (Pc rfl) ?_ | refine ss (Pa rfl (by omega) (by omega)) ?_ | (refine sb rfl ?_ ?_ <;> intro hq <;> try (exfalso; omega)) | refine ss (Pi rfl (by omega)) ?_ | refine ss (Pl rfl) ?_ | refine ss (Px rfl rfl) ?_ | refine ss (Pj rfl (by omega) (by omega)) ?_ | refine ss (Pk rfl (by omega) (by omega)) ?_ | refine ss (Pf rfl) ?_ | refine ss (Pv rfl (by omega) (by omega)) ?_ | refine ss (Pn rfl) ?_ | refine ss (Pm rfl) ?_ | refine OS_nil ?_))
  repeat' (first | (refine isO ?_; first | refine oo (Pc rfl) ?_ | refine oo (Pa rfl (by omega) (by omega)) ?_ | (refine ob rfl ?_ ?_ <;> intro hq <;> try (exfalso; omega)) | refine oo (Pi rfl (by omega)) ?_ | refine oo (Pl rfl) ?_ | refine oo (Px rfl rfl) ?_ | refine oo (Pj rfl (by omega) (by omega)) ?_ | refine oo (Pk rfl (by omega) (by omega)) ?_ | refine oo (Pf rfl) ?_ | refine oo (Pv rfl (by omega) (by omega)) ?_ | refine oo (Pn rfl) ?_ | refine oo (Pm rfl) ?_ | refine os rfl rfl ?_ | refine ot rfl (by omega) ?_ | refine O_nil ?_) | refine wo rfl ?_ | refine wc rfl ?_ | refine wg rfl ?_ | refine go rfl ?_ | refine gc rfl ?_ | refine gg rfl ?_)
  refine O_pure (P_slice Tb.u79 Tb.c146 (by decide) rfl ⟨_, rfl⟩ rfl (by omega) (by omega) (by omega) (by omega)) trivial rfl ?_
  repeat' (first | (refine isO ?_; first | refine oo (Pc rfl) ?_ | refine oo (Pa rfl (by omega) (by omega)) ?_ | (refine ob rfl ?_ ?_ <;> intro hq <;> try (exfalso; omega)) | refine oo (Pi rfl (by omega)) ?_ | refine oo (Pl rfl) ?_ | refine oo (Px rfl rfl) ?_ | refine oo (Pj rfl (by omega) (by omega)) ?_ | refine oo (Pk rfl (by omega) (by omega)) ?_ | refine oo (Pf rfl) ?_ | refine oo (Pv rfl (by omega) (by omega)) ?_ | refine oo (Pn rfl) ?_ | refine oo (Pm rfl) ?_ | refine os rfl rfl ?_ | refine ot rfl (by omega) ?_ | refine O_nil ?_) | refine wo rfl ?_ | refine wc rfl ?_ | refine wg rfl ?_ | refine go rfl ?_ | refine gc rfl ?_ | refine gg rfl ?_)
  refine W_loop (α := Nat × Nat × Nat) (fun x => [(0, .slice (some ⟨b, 0, none⟩) cs.length cap), (3, .pointer (some ⟨b1, 0, none⟩)), (5, .int .u32 x.2.1), (6, .int .u32 x.2.2), (7, .int .u32 (cs.getD x.1 Cd.zero).sym), (46, .slice (some ⟨b, 4, none⟩) (cs.length - 1) (cap - 1)), (47, .int .i64 ((cs.length - 1 : Nat) : Int)), (48, .int .i64 x.1)])
    (fun x => ⟨true, b1, 0, ints .u64 (row28 (cntL (cs.take (x.1 + 1))))⟩ :: ⟨true, b, 0, codesV cs ++ sp⟩ :: F)
    (fun x => x.1 + 1 ≤ cs.length ∧ 1 ≤ x.2.1 ∧ x.2.2 ≤ 20 ∧ (∀ c ∈ cs.take (x.1 + 1), x.2.1 ≤ c.len ∧ c.len ≤ x.2.2)) (fun x => cs.length - x.1) (0, zl, zl) ?_ ⟨rfl, rfl, rfl, rfl, by dsimp only; rw [hz]; rfl, rfl, rfl, rfl, trivial⟩ ?_ ?_
  · refine ⟨by dsimp only; omega, hl0.1, hl0.2, ?_⟩
    try dsimp only
    rw [take_one cs (by omega)]
    intro c hc
    simp only [List.mem_singleton, hz] at hc
    subst hc
    exact ⟨Nat.le_refl _, Nat.le_refl _⟩
  · try dsimp only
    rw [take_one cs (by omega), hz]
    repeat (first | exact .rfl | exact .nil | (apply Rk.cons; (· exact TakeI.out)) | refine .drop ?_)
  rintro ⟨i, mn, mx⟩ ⟨hi, hmn, hmx, hall⟩
  dsimp only at hi hmn hmx hall ⊢
  repeat' (first | (refine isO ?_; first | refine oo (Pc rfl) ?_ | refine oo (Pa rfl (by omega) (by omega)) ?_ | (refine ob rfl ?_ ?_ <;> intro hq <;> try (exfalso; omega)) | refine oo (Pi rfl (by omega)) ?_ | refine oo (Pl rfl) ?_ | refine oo (Px rfl rfl) ?_ | refine oo (Pj rfl (by omega) (by omega)) ?_ | refine oo (Pk rfl (by omega) (by omega)) ?_ | refine oo (Pf rfl) ?_ | refine oo (Pv rfl (by omega) (by omega)) ?_ | refine oo (Pn rfl) ?_ | refine oo (Pm rfl) ?_ | refine os rfl rfl ?_ | refine ot rfl (by omega) ?_ | refine O_nil ?_) | refine wo rfl ?_ | refine wc rfl ?_ | refine wg rfl ?_ | refine go rfl ?_ | refine gc rfl ?_ | refine gg rfl ?_)
  · have hi1 : i + 1 < cs.length := by omega
    have hl1 := hG.lenAt hi1
    have hsym := hG.sym i hi1
    have htake := take_succ_getD cs (i + 1) hi1
    obtain ⟨ys, yc, yl, yv, hy⟩ : ∃ s c n v, cs.getD (i + 1) Cd.zero = ⟨s, c, n, v⟩ := ⟨_, _, _, _, rfl⟩
    rw [hy] at hl1 hsym htake
    dsimp only at hl1 hsym
    have hmem : ∀ c ∈ cs.take (i + 1 + 1), c ∈ cs.take (i + 1) ∨ c = ⟨ys, yc, yl, yv⟩ := by
      rw [htake]
      intro c hc
      simpa using hc
    refine O_pure (P_loadAggAt (o := 0) (i := (i + 1) * 4) Tb.a146 Tb.c146 (by decide) rfl (by omega) (by exact TakeI.out.mem) (by rw [List.length_append, codesV_length]; omega) (codesV_lit' _ _ _ hi1 hy)) trivial rfl ?_
    refine O_alloc zero146 trivial rfl fun b3 => ?_
    refine O_storeAgg0 Tb.c146 (by decide) rfl rfl rfl (lit_one _ _ _ _) trivial (by exact TakeI.out) rfl ?_
    repeat' (first | (refine isO ?_; first | refine oo (Pc rfl) ?_ | refine oo (Pa rfl (by omega) (by omega)) ?_ | (refine ob rfl ?_ ?_ <;> intro hq <;> try (exfalso; omega)) | refine oo (Pi rfl (by omega)) ?_ | refine oo (Pl rfl) ?_ | refine oo (Px rfl rfl) ?_ | refine oo (Pj rfl (by omega) (by omega)) ?_ | refine oo (Pk rfl (by omega) (by omega)) ?_ | refine oo (Pf rfl) ?_ | refine oo (Pv rfl (by omega) (by omega)) ?_ | refine oo (Pn rfl) ?_ | refine oo (Pm rfl) ?_ | refine os rfl rfl ?_ | refine ot rfl (by omega) ?_ | refine O_nil ?_) | refine wo rfl ?_ | refine wc rfl ?_ | refine wg rfl ?_ | refine go rfl ?_ | refine gc rfl ?_ | refine gg rfl ?_)
    all_goals
      refine O_pure (P_is (P_loadi Tb.u49 rfl (by exact TakeI.out.mem) (by rw [row28_length]; omega)) (congrArg (Value.int .u64) (row28_rd _ _ (by omega)))) trivial rfl ?_
      refine O_pure (P_addE (q := 1) (r := cntL (cs.take (i + 1)) yl + 1) rfl rfl rfl (by have := cntL_le (cs.take (i + 1)) yl; have h3 : (cs.take (i + 1)).length ≤ cs.length := List.length_take_le' _ _; simp only [IntKind.bits]; omega)) trivial rfl ?_
      repeat' (first | (refine isO ?_; first | refine oo (Pc rfl) ?_ | refine oo (Pa rfl (by omega) (by omega)) ?_ | (refine ob rfl ?_ ?_ <;> intro hq <;> try (exfalso; omega)) | refine oo (Pi rfl (by omega)) ?_ | refine oo (Pl rfl) ?_ | refine oo (Px rfl rfl) ?_ | refine oo (Pj rfl (by omega) (by omega)) ?_ | refine oo (Pk rfl (by omega) (by omega)) ?_ | refine oo (Pf rfl) ?_ | refine oo (Pv rfl (by omega) (by omega)) ?_ | refine oo (Pn rfl) ?_ | refine oo (Pm rfl) ?_ | refine os rfl rfl ?_ | refine ot rfl (by omega) ?_ | refine O_nil ?_) | refine wo rfl ?_ | refine wc rfl ?_ | refine wg rfl ?_ | refine go rfl ?_ | refine gc rfl ?_ | refine gg rfl ?_)
      refine O_storeiE Tb.c49 rfl rfl (hist_snoc _ ⟨ys, yc, yl, yv⟩ (by dsimp only; omega)) trivial (by first | exact .head | exact .tail .head | exact .tail (.tail .head) | exact .tail (.tail (.tail .head)) | exact .tail (.tail (.tail (.tail .head)))) (by rw [row28_length]; omega) ?_
      repeat' (first | (refine isO ?_; first | refine oo (Pc rfl) ?_ | refine oo (Pa rfl (by omega) (by omega)) ?_ | (refine ob rfl ?_ ?_ <;> intro hq <;> try (exfalso; omega)) | refine oo (Pi rfl (by omega)) ?_ | refine oo (Pl rfl) ?_ | refine oo (Px rfl rfl) ?_ | refine oo (Pj rfl (by omega) (by omega)) ?_ | refine oo (Pk rfl (by omega) (by omega)) ?_ | refine oo (Pf rfl) ?_ | refine oo (Pv rfl (by omega) (by omega)) ?_ | refine oo (Pn rfl) ?_ | refine oo (Pm rfl) ?_ | refine os rfl rfl ?_ | refine ot rfl (by omega) ?_ | refine O_nil ?_) | refine wo rfl ?_ | refine wc rfl ?_ | refine wg rfl ?_ | refine go rfl ?_ | refine gc rfl ?_ | refine gg rfl ?_)
      refine G_stop ⟨(i + 1, _, _), ⟨by dsimp only; omega, ?_, ?_, ?_⟩, by dsimp only; omega, ⟨rfl, rfl, rfl, rfl, by dsimp only; rw [hy]; rfl, rfl, rfl, rfl, trivial⟩, by dsimp only; rw [htake]; repeat (first | exact .rfl | exact .nil | (apply Rk.cons; (· exact TakeI.out)) | refine .drop ?_)⟩
      · dsimp only; omega
      · dsimp only; omega
      · dsimp only
        intro c hc
        rcases hmem c hc with h | rfl
        · have := hall c h; omega
        · dsimp only; omega
  obtain rfl : i = cs.length - 1 := by omega
  rw [show cs.length - 1 + 1 = cs.length by omega, List.take_length] at hall ⊢
  have hmm : mn ≤ mx := by
    have h0 : cs.getD 0 Cd.zero ∈ cs := by
      rw [show cs.getD 0 Cd.zero = cs[0] by simp [show 0 < cs.length by omega]]
      exact List.getElem_mem _
    have := hall _ h0
    omega
  have hlow : ∀ c ∈ cs, mn ≤ c.len := fun c hc => (hall c hc).1
  have hhigh : ∀ c ∈ cs, c.len ≤ mx := fun c hc => (hall c hc).2
  have hkr : ∀ n, n ≤ 20 → kr cs n < 2 ^ 32 := fun n hn => by
    have h1 := kr_le cs n
    have h3 : cs.length * 2 ^ n ≤ 60 * 2 ^ 20 := Nat.mul_le_mul h60 (Nat.pow_le_pow_right (by omega) hn)
    omega
  clear hall
  refine O_alloc zero148 trivial rfl fun b4 => ?_
  repeat' (first | (refine isO ?_; first | refine oo (Pc rfl) ?_ | refine oo (Pa rfl (by omega) (by omega)) ?_ | (refine ob rfl ?_ ?_ <;> intro hq <;> try (exfalso; omega)) | refine oo (Pi rfl (by omega)) ?_ | refine oo (Pl rfl) ?_ | refine oo (Px rfl rfl) ?_ | refine oo (Pj rfl (by omega) (by omega)) ?_ | refine oo (Pk rfl (by omega) (by omega)) ?_ | refine oo (Pf rfl) ?_ | refine oo (Pv rfl (by omega) (by omega)) ?_ | refine oo (Pn rfl) ?_ | refine oo (Pm rfl) ?_ | refine os rfl rfl ?_ | refine ot rfl (by omega) ?_ | refine O_nil ?_) | refine wo rfl ?_ | refine wc rfl ?_ | refine wg rfl ?_ | refine go rfl ?_ | refine gc rfl ?_ | refine gg rfl ?_)
  refine W_loop (α := Nat) (fun x => [(0, .slice (some ⟨b, 0, none⟩) cs.length cap), (3, .pointer (some ⟨b1, 0, none⟩)), (6, .int .u32 mx), (10, .pointer (some ⟨b4, 0, none⟩)), (11, .int .u64 (kr cs (x - 1) : Nat)), (12, .int .u32 x)])
    (fun x => ⟨true, b4, 0, ints .u64 (row28 (nxt cs mn x))⟩ :: ⟨true, b1, 0, ints .u64 (row28 (cntL cs))⟩ :: ⟨true, b, 0, codesV cs ++ sp⟩ :: F)
    (fun x => mn ≤ x ∧ x ≤ mx + 1) (fun x => mx + 1 - x) mn ⟨by omega, by omega⟩ ⟨rfl, rfl, rfl, rfl, by rw [kr_below cs mn (mn - 1) hlow (by omega)]; rfl, rfl, trivial⟩ ?_ ?_
  · try dsimp only
    rw [show row28 (nxt cs mn mn) = row28 (fun _ => 0) from row28_ext fun j _ => by unfold nxt; rw [if_neg (by omega)]]
    repeat (first | exact .rfl | exact .nil | (apply Rk.cons; (· exact TakeI.out)) | refine .drop ?_)
  rintro i ⟨hi1, hi2⟩
  try dsimp only
  repeat' (first | (refine isO ?_; first | refine oo (Pc rfl) ?_ | refine oo (Pa rfl (by omega) (by omega)) ?_ | (refine ob rfl ?_ ?_ <;> intro hq <;> try (exfalso; omega)) | refine oo (Pi rfl (by omega)) ?_ | refine oo (Pl rfl) ?_ | refine oo (Px rfl rfl) ?_ | refine oo (Pj rfl (by omega) (by omega)) ?_ | refine oo (Pk rfl (by omega) (by omega)) ?_ | refine oo (Pf rfl) ?_ | refine oo (Pv rfl (by omega) (by omega)) ?_ | refine oo (Pn rfl) ?_ | refine oo (Pm rfl) ?_ | refine os rfl rfl ?_ | refine ot rfl (by omega) ?_ | refine O_nil ?_) | refine wo rfl ?_ | refine wc rfl ?_ | refine wg rfl ?_ | refine go rfl ?_ | refine gc rfl ?_ | refine gg rfl ?_)
  · obtain ⟨j, rfl⟩ : ∃ j, i = j + 1 := ⟨i - 1, by omega⟩
    have hst : kr cs j * 2 = st cs (j + 1) := by simp only [st, st_kr]; omega
    have hk1 := hkr (j + 1) (by omega)
    have hk2 := st_kr cs (j + 1)
    refine O_pure (P_shlE (p := kr cs j) (q := 1) (r := st cs (j + 1)) rfl rfl rfl (by rw [Nat.pow_one, hst]; simp only [IntKind.bits]; omega)) trivial rfl ?_
    repeat' (first | (refine isO ?_; first | refine oo (Pc rfl) ?_ | refine oo (Pa rfl (by omega) (by omega)) ?_ | (refine ob rfl ?_ ?_ <;> intro hq <;> try (exfalso; omega)) | refine oo (Pi rfl (by omega)) ?_ | refine oo (Pl rfl) ?_ | refine oo (Px rfl rfl) ?_ | refine oo (Pj rfl (by omega) (by omega)) ?_ | refine oo (Pk rfl (by omega) (by omega)) ?_ | refine oo (Pf rfl) ?_ | refine oo (Pv rfl (by omega) (by omega)) ?_ | refine oo (Pn rfl) ?_ | refine oo (Pm rfl) ?_ | refine os rfl rfl ?_ | refine ot rfl (by omega) ?_ | refine O_nil ?_) | refine wo rfl ?_ | refine wc rfl ?_ | refine wg rfl ?_ | refine go rfl ?_ | refine gc rfl ?_ | refine gg rfl ?_)
    refine O_storeiE Tb.c49 rfl rfl (nxt_set cs mn (j + 1) (by omega) (by omega)) trivial (by first | exact .head | exact .tail .head | exact .tail (.tail .head) | exact .tail (.tail (.tail .head)) | exact .tail (.tail (.tail (.tail .head)))) (by rw [row28_length]; omega) ?_
    repeat' (first | (refine isO ?_; first | refine oo (Pc rfl) ?_ | refine oo (Pa rfl (by omega) (by omega)) ?_ | (refine ob rfl ?_ ?_ <;> intro hq <;> try (exfalso; omega)) | refine oo (Pi rfl (by omega)) ?_ | refine oo (Pl rfl) ?_ | refine oo (Px rfl rfl) ?_ | refine oo (Pj rfl (by omega) (by omega)) ?_ | refine oo (Pk rfl (by omega) (by omega)) ?_ | refine oo (Pf rfl) ?_ | refine oo (Pv rfl (by omega) (by omega)) ?_ | refine oo (Pn rfl) ?_ | refine oo (Pm rfl) ?_ | refine os rfl rfl ?_ | refine ot rfl (by omega) ?_ | refine O_nil ?_) | refine wo rfl ?_ | refine wc rfl ?_ | refine wg rfl ?_ | refine go rfl ?_ | refine gc rfl ?_ | refine gg rfl ?_)
    refine O_pure (P_is (P_loadi Tb.u49 rfl (by exact TakeI.out.mem) (by rw [row28_length]; omega)) (congrArg (Value.int .u64) (row28_rd _ _ (by omega)))) trivial rfl ?_
    refine O_pure (P_addE (p := st cs (j + 1)) (q := cntL cs (j + 1)) (r := kr cs (j + 1)) rfl rfl rfl (by rw [hk2]; simp only [IntKind.bits]; omega)) trivial rfl ?_
    repeat' (first | (refine isO ?_; first | refine oo (Pc rfl) ?_ | refine oo (Pa rfl (by omega) (by omega)) ?_ | (refine ob rfl ?_ ?_ <;> intro hq <;> try (exfalso; omega)) | refine oo (Pi rfl (by omega)) ?_ | refine oo (Pl rfl) ?_ | refine oo (Px rfl rfl) ?_ | refine oo (Pj rfl (by omega) (by omega)) ?_ | refine oo (Pk rfl (by omega) (by omega)) ?_ | refine oo (Pf rfl) ?_ | refine oo (Pv rfl (by omega) (by omega)) ?_ | refine oo (Pn rfl) ?_ | refine oo (Pm rfl) ?_ | refine os rfl rfl ?_ | refine ot rfl (by omega) ?_ | refine O_nil ?_) | refine wo rfl ?_ | refine wc rfl ?_ | refine wg rfl ?_ | refine go rfl ?_ | refine gc rfl ?_ | refine gg rfl ?_)
    exact G_stop ⟨j + 1 + 1, ⟨by omega, by omega⟩, by omega, ⟨rfl, rfl, rfl, rfl, rfl, rfl, trivial⟩, by repeat (first | exact .rfl | exact .nil | (apply Rk.cons; (· exact TakeI.out)) | refine .drop ?_)⟩
  obtain rfl : i = mx + 1 := by omega
  have hw := whole_iff cs mx hhigh hmx
  have hkm := hkr mx hmx
  have h2m : 2 ^ mx < 2 ^ 32 := Nat.pow_lt_pow_right (by omega) (by omega)
  refine O_pure (P_shlE (p := 1) (q := mx) (r := 2 ^ mx) rfl rfl rfl (by rw [Nat.one_mul]; exact Nat.mod_eq_of_lt (Nat.lt_trans h2m (by decide)))) trivial rfl ?_
  refine O_cmp (p := (kr cs mx : Nat)) rfl rfl rfl trivial rfl (fun hq => ?_) (fun hq => ?_) <;> simp only [yes, no] at hq
  · repeat' (first | (refine isO ?_; first | refine oo (Pc rfl) ?_ | refine oo (Pa rfl (by omega) (by omega)) ?_ | (refine ob rfl ?_ ?_ <;> intro hq <;> try (exfalso; omega)) | refine oo (Pi rfl (by omega)) ?_ | refine oo (Pl rfl) ?_ | refine oo (Px rfl rfl) ?_ | refine oo (Pj rfl (by omega) (by omega)) ?_ | refine oo (Pk rfl (by omega) (by omega)) ?_ | refine oo (Pf rfl) ?_ | refine oo (Pv rfl (by omega) (by omega)) ?_ | refine oo (Pn rfl) ?_ | refine oo (Pm rfl) ?_ | refine os rfl rfl ?_ | refine ot rfl (by omega) ?_ | refine O_nil ?_) | refine wo rfl ?_ | refine wc rfl ?_ | refine wg rfl ?_ | refine go rfl ?_ | refine gc rfl ?_ | refine gg rfl ?_)
    refine O_callP rfl rfl Tb.k90 trivial rfl (errorf_c _ _ _ _) ?_
    repeat' (first | (refine isO ?_; first | refine oo (Pc rfl) ?_ | refine oo (Pa rfl (by omega) (by omega)) ?_ | (refine ob rfl ?_ ?_ <;> intro hq <;> try (exfalso; omega)) | refine oo (Pi rfl (by omega)) ?_ | refine oo (Pl rfl) ?_ | refine oo (Px rfl rfl) ?_ | refine oo (Pj rfl (by omega) (by omega)) ?_ | refine oo (Pk rfl (by omega) (by omega)) ?_ | refine oo (Pf rfl) ?_ | refine oo (Pv rfl (by omega) (by omega)) ?_ | refine oo (Pn rfl) ?_ | refine oo (Pm rfl) ?_ | refine os rfl rfl ?_ | refine ot rfl (by omega) ?_ | refine O_nil ?_) | refine wo rfl ?_ | refine wc rfl ?_ | refine wg rfl ?_ | refine go rfl ?_ | refine gc rfl ?_ | refine gg rfl ?_)
    refine G_fin ⟨_, rfl, .inr ⟨fun h => hq (congrArg Nat.cast (hw.1 h)), ⟨_, _, rfl⟩, by repeat (first | exact .rfl | exact .nil | (apply Rk.cons; (· exact TakeI.out)) | refine .drop ?_)⟩⟩
  have hwhole : whole cs := hw.2 (Int.ofNat.inj hq)
  repeat' (first | (refine isO ?_; first | refine oo (Pc rfl) ?_ | refine oo (Pa rfl (by omega) (by omega)) ?_ | (refine ob rfl ?_ ?_ <;> intro hq <;> try (exfalso; omega)) | refine oo (Pi rfl (by omega)) ?_ | refine oo (Pl rfl) ?_ | refine oo (Px rfl rfl) ?_ | refine oo (Pj rfl (by omega) (by omega)) ?_ | refine oo (Pk rfl (by omega) (by omega)) ?_ | refine oo (Pf rfl) ?_ | refine oo (Pv rfl (by omega) (by omega)) ?_ | refine oo (Pn rfl) ?_ | refine oo (Pm rfl) ?_ | refine os rfl rfl ?_ | refine ot rfl (by omega) ?_ | refine O_nil ?_) | refine wo rfl ?_ | refine wc rfl ?_ | refine wg rfl ?_ | refine go rfl ?_ | refine gc rfl ?_ | refine gg rfl ?_)
  refine W_loop (α := Nat) (fun x => [(0, .slice (some ⟨b, 0, none⟩) cs.length cap), (10, .pointer (some ⟨b4, 0, none⟩)), (102, .slice (some ⟨b, 0, none⟩) cs.length cap), (103, .int .i64 cs.length), (104, .int .i64 x)])
    (fun x => ⟨true, b4, 0, ints .u64 (row28 (nx3 cs mn mx x))⟩ :: ⟨true, b, 0, codesV (canonTo cs x) ++ sp⟩ :: F)
    (fun x => x ≤ cs.length) (fun x => cs.length - x) 0 (by omega) ⟨rfl, rfl, rfl, rfl, rfl, trivial⟩ ?_ ?_
  · try dsimp only
    rw [← nx3_zero, canonTo_zero]
    repeat (first | exact .rfl | exact .nil | (apply Rk.cons; (· exact TakeI.out)) | refine .drop ?_)
  intro i hi
  try dsimp only
  repeat' (first | (refine isO ?_; first | refine oo (Pc rfl) ?_ | refine oo (Pa rfl (by omega) (by omega)) ?_ | (refine ob rfl ?_ ?_ <;> intro hq <;> try (exfalso; omega)) | refine oo (Pi rfl (by omega)) ?_ | refine oo (Pl rfl) ?_ | refine oo (Px rfl rfl) ?_ | refine oo (Pj rfl (by omega) (by omega)) ?_ | refine oo (Pk rfl (by omega) (by omega)) ?_ | refine oo (Pf rfl) ?_ | refine oo (Pv rfl (by omega) (by omega)) ?_ | refine oo (Pn rfl) ?_ | refine oo (Pm rfl) ?_ | refine os rfl rfl ?_ | refine ot rfl (by omega) ?_ | refine O_nil ?_) | refine wo rfl ?_ | refine wc rfl ?_ | refine wg rfl ?_ | refine go rfl ?_ | refine gc rfl ?_ | refine gg rfl ?_)
  · have hi1 : i < cs.length := by omega
    have hl1 := hG.lenAt hi1
    have hmem : cs.getD i Cd.zero ∈ cs := by
      rw [show cs.getD i Cd.zero = cs[i] by simp [hi1]]
      exact List.getElem_mem _
    have hll := hlow _ hmem
    have hlh := hhigh _ hmem
    have hfit := whole_fits cs hwhole (cs.getD i Cd.zero).len hl1.2
    have hcnt := cntL_take_lt cs i hi1
    have hset := nx3_set cs mn mx i hi1 hll hlh (by omega)
    have hval : valAt cs i = T (cs.getD i Cd.zero).len (nx3 cs mn mx i (cs.getD i Cd.zero).len) := by
      unfold valAt nx3; rw [if_pos (by omega)]
    have hnx : nx3 cs mn mx i (cs.getD i Cd.zero).len < 2 ^ (cs.getD i Cd.zero).len := by
      unfold nx3; rw [if_pos (by omega)]; omega
    have hcl := canonTo_length cs i hi
    have hcset := canonTo_set cs i hi1
    have hcget := canonTo_get cs i hi1
    obtain ⟨ys, yc, yl, yv, hy⟩ : ∃ s c n v, cs.getD i Cd.zero = ⟨s, c, n, v⟩ := ⟨_, _, _, _, rfl⟩
    rw [hy] at hl1 hll hlh hfit hcnt hset hval hnx hcget
    dsimp only at hl1 hll hlh hfit hcnt hset hval hnx
    have h2l : 2 ^ yl < 2 ^ 32 := Nat.pow_lt_pow_right (by omega) (by omega)
    refine O_pure (P_loadAggAt (o := 0) (i := i * 4) Tb.a146 Tb.c146 (by decide) rfl (by omega) (by exact TakeI.out.mem) (by rw [List.length_append, codesV_length, hcl]; omega) (codesV_lit' _ _ _ (by omega) hcget)) trivial rfl ?_
    refine O_alloc zero146 trivial rfl fun b5 => ?_
    repeat' (first | (refine isO ?_; first | refine oo (Pc rfl) ?_ | refine oo (Pa rfl (by omega) (by omega)) ?_ | (refine ob rfl ?_ ?_ <;> intro hq <;> try (exfalso; omega)) | refine oo (Pi rfl (by omega)) ?_ | refine oo (Pl rfl) ?_ | refine oo (Px rfl rfl) ?_ | refine oo (Pj rfl (by omega) (by omega)) ?_ | refine oo (Pk rfl (by omega) (by omega)) ?_ | refine oo (Pf rfl) ?_ | refine oo (Pv rfl (by omega) (by omega)) ?_ | refine oo (Pn rfl) ?_ | refine oo (Pm rfl) ?_ | refine os rfl rfl ?_ | refine ot rfl (by omega) ?_ | refine O_nil ?_) | refine wo rfl ?_ | refine wc rfl ?_ | refine wg rfl ?_ | refine go rfl ?_ | refine gc rfl ?_ | refine gg rfl ?_)
    refine O_storeAgg0 Tb.c146 (by decide) rfl rfl rfl (lit_one _ _ _ _) trivial (by exact TakeI.out) rfl ?_
    repeat' (first | (refine isO ?_; first | refine oo (Pc rfl) ?_ | refine oo (Pa rfl (by omega) (by omega)) ?_ | (refine ob rfl ?_ ?_ <;> intro hq <;> try (exfalso; omega)) | refine oo (Pi rfl (by omega)) ?_ | refine oo (Pl rfl) ?_ | refine oo (Px rfl rfl) ?_ | refine oo (Pj rfl (by omega) (by omega)) ?_ | refine oo (Pk rfl (by omega) (by omega)) ?_ | refine oo (Pf rfl) ?_ | refine oo (Pv rfl (by omega) (by omega)) ?_ | refine oo (Pn rfl) ?_ | refine oo (Pm rfl) ?_ | refine os rfl rfl ?_ | refine ot rfl (by omega) ?_ | refine O_nil ?_) | refine wo rfl ?_ | refine wc rfl ?_ | refine wg rfl ?_ | refine go rfl ?_ | refine gc rfl ?_ | refine gg rfl ?_)
    refine W_region_tail 13 Tb.mixed (by kernel_rfl) ?_
    simp only [List.take_succ_cons, List.take_zero, List.drop_succ_cons, List.drop_zero]
    repeat' (first | (refine isS ?_; first | refine ss (Pc rfl) ?_ | refine ss (Pa rfl (by omega) (by omega)) ?_ | (refine sb rfl ?_ ?_ <;> intro hq <;> try (exfalso; omega)) | refine ss (Pi rfl (by omega)) ?_ | refine ss (Pl rfl) ?_ | refine ss (Px rfl rfl) ?_ | refine ss (Pj rfl (by omega) (by omega)) ?_ | refine ss (Pk rfl (by omega) (by omega)) ?_ | refine ss (Pf rfl) ?_ | refine ss (Pv rfl (by omega) (by omega)) ?_ | refine ss (Pn rfl) ?_ | refine ss (Pm rfl) ?_ | refine OS_nil ?_))
    refine OS_pure (P_is (P_loadi Tb.u49 rfl (by exact TakeI.out.mem) (by rw [row28_length]; omega)) (congrArg (Value.int .u64) (row28_rd _ _ (by omega)))) trivial rfl ?_
    repeat' (first | (refine isS ?_; first | refine ss (Pc rfl) ?_ | refine ss (Pa rfl (by omega) (by omega)) ?_ | (refine sb rfl ?_ ?_ <;> intro hq <;> try (exfalso; omega)) | refine ss (Pi rfl (by omega)) ?_ | refine ss (Pl rfl) ?_ | refine ss (Px rfl rfl) ?_ | refine ss (Pj rfl (by omega) (by omega)) ?_ | refine ss (Pk rfl (by omega) (by omega)) ?_ | refine ss (Pf rfl) ?_ | refine ss (Pv rfl (by omega) (by omega)) ?_ | refine ss (Pn rfl) ?_ | refine ss (Pm rfl) ?_ | refine OS_nil ?_))
    refine OS_callP rfl rfl Tb.k91 trivial rfl (rev32N_c _ yl hl1.1 (by omega) hnx _) ?_
    repeat' (first | (refine isS ?_; first | refine ss (Pc rfl) ?_ | refine ss (Pa rfl (by omega) (by omega)) ?_ | (refine sb rfl ?_ ?_ <;> intro hq <;> try (exfalso; omega)) | refine ss (Pi rfl (by omega)) ?_ | refine ss (Pl rfl) ?_ | refine ss (Px rfl rfl) ?_ | refine ss (Pj rfl (by omega) (by omega)) ?_ | refine ss (Pk rfl (by omega) (by omega)) ?_ | refine ss (Pf rfl) ?_ | refine ss (Pv rfl (by omega) (by omega)) ?_ | refine ss (Pn rfl) ?_ | refine ss (Pm rfl) ?_ | refine OS_nil ?_))
    refine O_storeAt (o := 0) (n := i * 4 + 3) (l := codesV (canonTo cs i) ++ sp) Tb.c40 rfl (by omega) rfl rfl trivial (by rw [List.length_append, codesV_length, hcl]; omega) ((codesV_set (canonTo cs i) sp i (by omega) (T yl (nx3 cs mn mx i yl))).trans (by rw [← hval, hcset])) (by first | exact .head | exact .tail .head | exact .tail (.tail .head) | exact .tail (.tail (.tail .head)) | exact .tail (.tail (.tail (.tail .head)))) ?_
    repeat' (first | (refine isO ?_; first | refine oo (Pc rfl) ?_ | refine oo (Pa rfl (by omega) (by omega)) ?_ | (refine ob rfl ?_ ?_ <;> intro hq <;> try (exfalso; omega)) | refine oo (Pi rfl (by omega)) ?_ | refine oo (Pl rfl) ?_ | refine oo (Px rfl rfl) ?_ | refine oo (Pj rfl (by omega) (by omega)) ?_ | refine oo (Pk rfl (by omega) (by omega)) ?_ | refine oo (Pf rfl) ?_ | refine oo (Pv rfl (by omega) (by omega)) ?_ | refine oo (Pn rfl) ?_ | refine oo (Pm rfl) ?_ | refine os rfl rfl ?_ | refine ot rfl (by omega) ?_ | refine O_nil ?_) | refine wo rfl ?_ | refine wc rfl ?_ | refine wg rfl ?_ | refine go rfl ?_ | refine gc rfl ?_ | refine gg rfl ?_)
    refine O_pure (P_is (P_loadi Tb.u49 rfl (by exact TakeI.out.mem) (by rw [row28_length]; omega)) (congrArg (Value.int .u64) (row28_rd _ _ (by omega)))) trivial rfl ?_
    refine O_pure (P_addE (p := nx3 cs mn mx i yl) (q := 1) (r := nx3 cs mn mx i yl + 1) rfl rfl rfl (Nat.mod_eq_of_lt (Nat.lt_of_lt_of_le (Nat.lt_of_le_of_lt hnx h2l) (by decide)))) trivial rfl ?_
    repeat' (first | (refine isO ?_; first | refine oo (Pc rfl) ?_ | refine oo (Pa rfl (by omega) (by omega)) ?_ | (refine ob rfl ?_ ?_ <;> intro hq <;> try (exfalso; omega)) | refine oo (Pi rfl (by omega)) ?_ | refine oo (Pl rfl) ?_ | refine oo (Px rfl rfl) ?_ | refine oo (Pj rfl (by omega) (by omega)) ?_ | refine oo (Pk rfl (by omega) (by omega)) ?_ | refine oo (Pf rfl) ?_ | refine oo (Pv rfl (by omega) (by omega)) ?_ | refine oo (Pn rfl) ?_ | refine oo (Pm rfl) ?_ | refine os rfl rfl ?_ | refine ot rfl (by omega) ?_ | refine O_nil ?_) | refine wo rfl ?_ | refine wc rfl ?_ | refine wg rfl ?_ | refine go rfl ?_ | refine gc rfl ?_ | refine gg rfl ?_)
    refine O_storeiE Tb.c49 rfl rfl hset trivial (by first | exact .head | exact .tail .head | exact .tail (.tail .head) | exact .tail (.tail (.tail .head)) | exact .tail (.tail (.tail (.tail .head)))) (by rw [row28_length]; omega) ?_
    repeat' (first | (refine isO ?_; first | refine oo (Pc rfl) ?_ | refine oo (Pa rfl (by omega) (by omega)) ?_ | (refine ob rfl ?_ ?_ <;> intro hq <;> try (exfalso; omega)) | refine oo (Pi rfl (by omega)) ?_ | refine oo (Pl rfl) ?_ | refine oo (Px rfl rfl) ?_ | refine oo (Pj rfl (by omega) (by omega)) ?_ | refine oo (Pk rfl (by omega) (by omega)) ?_ | refine oo (Pf rfl) ?_ | refine oo (Pv rfl (by omega) (by omega)) ?_ | refine oo (Pn rfl) ?_ | refine oo (Pm rfl) ?_ | refine os rfl rfl ?_ | refine ot rfl (by omega) ?_ | refine O_nil ?_) | refine wo rfl ?_ | refine wc rfl ?_ | refine wg rfl ?_ | refine go rfl ?_ | refine gc rfl ?_ | refine gg rfl ?_)
    exact G_stop ⟨i + 1, by omega, by omega, ⟨rfl, rfl, rfl, rfl, rfl, trivial⟩, by repeat (first | exact .rfl | exact .nil | (apply Rk.cons; (· exact TakeI.out)) | refine .drop ?_)⟩
  · obtain rfl : i = cs.length := by omega
    rw [canonTo_all]
    exact G_fin ⟨_, rfl, .inl ⟨hwhole, rfl, by repeat (first | exact .rfl | exact .nil | (apply Rk.cons; (· exact TakeI.out)) | refine .drop ?_)⟩⟩
end Go.Proofs.Ytjkpfliaflmppaa.Pc

/- GeneratePrefixes, walked: for 2 to 60 codes with lengths from 1 to 20 and ascending symbols it gives the canonical values if nothing is left over, and is an error if not. Paths that meet again; append in place. No condition. Cells of fresh variables, by type. No condition. -/
import Derived.Test.YtjkpfliaflmppaaW9x13
import Derived.Test.YtjkpfliaflmppaaW9x10
import Derived.Test.YtjkpfliaflmppaaW9x12
import Derived.Test.YtjkpfliaflmppaaW9x03
import Derived.Test.YtjkpfliaflmppaaW9x05

namespace Go.Proofs.Ytjkpfliaflmppaa.Pc
open Go Go.RowKit Go.Proofs.Ytjkpfliaflmppaa.Vm Go.Proofs.Ytjkpfliaflmppaa.Rev Go.Proofs.Ytjkpfliaflmppaa.Rv

theorem build129 (c : Int) (s t : ByteArray) (w : World) : (Instr.build 129 [(0, .int .i64 c), (1, .string s), (2, .string t)].toArray).run Try.prog w = .ok (.agg [.int .i64 c, .string s, .string t].toArray) w := by kernel_rfl

theorem errorf_c (c : Int) (f : ByteArray) (a : Value) (M : Mem) : HP Try.prog 90 #[.int .i64 c, .string f, a] M (.iface 129 (.agg [.int .i64 c, .string ⟨#[112, 114, 101, 102, 105, 120]⟩, .string f].toArray)) := by
  refine HP.of (HC_of_W (fn := Try.f90) Try.func90 rfl rfl rfl rfl ?_)
  repeat' (first | (refine isO ?_; first | refine oo (Pc rfl) ?_ | refine oo (Pa rfl (by omega) (by omega)) ?_ | (refine ob rfl ?_ ?_ <;> intro hq <;> try (exfalso; omega)) | refine oo (Pi rfl (by omega)) ?_ | refine oo (Pl rfl) ?_ | refine oo (Px rfl rfl) ?_ | refine oo (Pj rfl (by omega) (by omega)) ?_ | refine oo (Pk rfl (by omega) (by omega)) ?_ | refine oo (Pf rfl) ?_ | refine oo (Pv rfl (by omega) (by omega)) ?_ | refine oo (Pn rfl) ?_ | refine oo (Pm rfl) ?_ | refine os rfl rfl ?_ | refine ot rfl (by omega) ?_ | refine O_nil ?_) | refine wo rfl ?_ | refine wc rfl ?_ | refine wg rfl ?_ | refine go rfl ?_ | refine gc rfl ?_ | refine gg rfl ?_)
  refine O_pure (P_build rfl (build129 _ _ _)) trivial rfl ?_
  refine O_pure (P_mkiface Tb.n129 rfl) trivial rfl ?_
  repeat' (first | (refine isO ?_; first | refine oo (Pc rfl) ?_ | refine oo (Pa rfl (by omega) (by omega)) ?_ | (refine ob rfl ?_ ?_ <;> intro hq <;> try (exfalso; omega)) | refine oo (Pi rfl (by omega)) ?_ | refine oo (Pl rfl) ?_ | refine oo (Px rfl rfl) ?_ | refine oo (Pj rfl (by omega) (by omega)) ?_ | refine oo (Pk rfl (by omega) (by omega)) ?_ | refine oo (Pf rfl) ?_ | refine oo (Pv rfl (by omega) (by omega)) ?_ | refine oo (Pn rfl) ?_ | refine oo (Pm rfl) ?_ | refine os rfl rfl ?_ | refine ot rfl (by omega) ?_ | refine O_nil ?_) | refine wo rfl ?_ | refine wc rfl ?_ | refine wg rfl ?_ | refine go rfl ?_ | refine gc rfl ?_ | refine gg rfl ?_)
  exact G_fin ⟨_, rfl, rfl⟩

theorem zero148 : zeroOf Try.prog 148 = some (ints .u64 (row28 fun _ => 0)) := by kernel_rfl

/-- What is asked of codes. -/
structure Good (l : List Cd) : Prop where
  two : 2 ≤ l.length
  most : l.length ≤ 60
  len : ∀ c ∈ l, 1 ≤ c.len ∧ c.len ≤ 20
  sym : ∀ i, i + 1 < l.length → (l.getD i Cd.zero).sym < (l.getD (i + 1) Cd.zero).sym
  bound : ∀ c ∈ l, c.sym < 2 ^ 32

theorem Good.lenAt {l : List Cd} (h : Good l) {i : Nat} (hi : i < l.length) : 1 ≤ (l.getD i Cd.zero).len ∧ (l.getD i Cd.zero).len ≤ 20 := by
  have : l.getD i Cd.zero = l[i] := by simp [hi]
  rw [this]; exact h.len _ (List.getElem_mem hi)

set_option maxHeartbeats 4000000 in
theorem gp_c (cs : List Cd) (hG : Good cs) (b cap : Nat) (sp : List Value) (F : Mem) (hcap : (codesV cs ++ sp).length = cap * 4) :
    HC Try.prog 42 #[.slice (some ⟨b, 0, none⟩) cs.length cap] (⟨true, b, 0, codesV cs ++ sp⟩ :: F)
      (fun v M' => (whole cs ∧ v = .nilIface ∧ Rk M' (⟨true, b, 0, codesV (canon cs) ++ sp⟩ :: F)) ∨ (¬ whole cs ∧ (∃ t x, v = .iface t x) ∧ Rk M' (⟨true, b, 0, codesV cs ++ sp⟩ :: F))) := by
  have h2 := hG.two
  have h60 := hG.most
  have hl0 := hG.lenAt (i := 0) (by omega)
  obtain ⟨zs, zc, zl, zv, hz⟩ : ∃ s c n v, cs.getD 0 Cd.zero = ⟨s, c, n, v⟩ := ⟨_, _, _, _, rfl⟩
  rw [hz] at hl0
  dsimp only at hl0
  have hcl : cs.length ≤ cap := by simp only [List.length_append, codesV_length] at hcap; omega
  refine HC_of_W (fn := Try.f42) Try.func42 rfl rfl rfl rfl ?_
  repeat' (first | (refine isO ?_; first | refine oo (Pc rfl) ?_ | refine oo (Pa rfl (by omega) (by omega)) ?_ | (refine ob rfl ?_ ?_ <;> intro hq <;> try (exfalso; omega)) | refine oo (Pi rfl (by omega)) ?_ | refine oo (Pl rfl) ?_ | refine oo (Px rfl rfl) ?_ | refine oo (Pj rfl (by omega) (by omega)) ?_ | refine oo (Pk rfl (by omega) (by omega)) ?_ | refine oo (Pf rfl) ?_ | refine oo (Pv rfl (by omega) (by omega)) ?_ | refine oo (Pn rfl) ?_ | refine oo (Pm rfl) ?_ | refine os rfl rfl ?_ | refine ot rfl (by omega) ?_ | refine O_nil ?_) | refine wo rfl ?_ | refine wc rfl ?_ | refine wg rfl ?_ | refine go rfl ?_ | refine gc rfl ?_ | refine gg rfl ?_)
  refine O_alloc zero148 trivial rfl fun b1 => ?_
  repeat' (first | (refine isO ?_; first | refine oo (Pc rfl) ?_ | refine oo (Pa rfl (by omega) (by omega)) ?_ | (refine ob rfl ?_ ?_ <;> intro hq <;> try (exfalso; omega)) | refine oo (Pi rfl (by omega)) ?_ | refine oo (Pl rfl) ?_ | refine oo (Px rfl rfl) ?_ | refine oo (Pj rfl (by omega) (by omega)) ?_ | refine oo (Pk rfl (by omega) (by omega)) ?_ | refine oo (Pf rfl) ?_ | refine oo (Pv rfl (by omega) (by omega)) ?_ | refine oo (Pn rfl) ?_ | refine oo (Pm rfl) ?_ | refine os rfl rfl ?_ | refine ot rfl (by omega) ?_ | refine O_nil ?_) | refine wo rfl ?_ | refine wc rfl ?_ | refine wg rfl ?_ | refine go rfl ?_ | refine gc rfl ?_ | refine gg rfl ?_)
  refine O_pure (P_loadAggAt (o := 0) (i := 0) Tb.a146 Tb.c146 (by decide) rfl rfl (by exact TakeI.out.mem) (by rw [List.length_append, codesV_length]; omega) (codesV_lit' _ _ 0 (by omega) hz)) trivial rfl ?_
  refine O_alloc zero146 trivial rfl fun b2 => ?_
  refine O_storeAgg0 Tb.c146 (by decide) rfl rfl rfl (lit_one _ _ _ _) trivial (by exact TakeI.out) rfl ?_
  repeat' (first | (refine isO ?_; first | refine oo (Pc rfl) ?_ | refine oo (Pa rfl (by omega) (by omega)) ?_ | (refine ob rfl ?_ ?_ <;> intro hq <;> try (exfalso; omega)) | refine oo (Pi rfl (by omega)) ?_ | refine oo (Pl rfl) ?_ | refine oo (Px rfl rfl) ?_ | refine oo (Pj rfl (by omega) (by omega)) ?_ | refine oo (Pk rfl (by omega) (by omega)) ?_ | refine oo (Pf rfl) ?_ | refine oo (Pv rfl (by omega) (by omega)) ?_ | refine oo (Pn rfl) ?_ | refine oo (Pm rfl) ?_ | refine os rfl rfl ?_ | refine ot rfl (by omega) ?_ | refine O_nil ?_) | refine wo rfl ?_ | refine wc rfl ?_ | refine wg rfl ?_ | refine go rfl ?_ | refine gc rfl ?_ | refine gg rfl ?_)
  refine O_pure (P_is (P_loadi Tb.u49 rfl (by exact TakeI.out.mem) (by rw [row28_length]; omega)) (congrArg (Value.int .u64) (row28_rd _ _ (by omega)))) trivial rfl ?_
  refine O_pure (P_addE (p := 0) (q := 1) (r := cntL [] zl + 1) rfl rfl rfl rfl) trivial rfl ?_
  repeat' (first | (refine isO ?_; first | refine oo (Pc rfl) ?_ | refine oo (Pa rfl (by omega) (by omega)) ?_ | (refine ob rfl ?_ ?_ <;> intro hq <;> try (exfalso; omega)) | refine oo (Pi rfl (by omega)) ?_ | refine oo (Pl rfl) ?_ | refine oo (Px rfl rfl) ?_ | refine oo (Pj rfl (by omega) (by omega)) ?_ | refine oo (Pk rfl (by omega) (by omega)) ?_ | refine oo (Pf rfl) ?_ | refine oo (Pv rfl (by omega) (by omega)) ?_ | refine oo (Pn rfl) ?_ | refine oo (Pm rfl) ?_ | refine os rfl rfl ?_ | refine ot rfl (by omega) ?_ | refine O_nil ?_) | refine wo rfl ?_ | refine wc rfl ?_ | refine wg rfl ?_ | refine go rfl ?_ | refine gc rfl ?_ | refine gg rfl ?_)
  refine O_storeiE Tb.c49 rfl rfl (hist_snoc [] ⟨zs, zc, zl, zv⟩ (by dsimp only; omega)) trivial (by first | exact .head | exact .tail .head | exact .tail (.tail .head) | exact .tail (.tail (.tail .head)) | exact .tail (.tail (.tail (.tail .head)))) (by rw [row28_length]; omega) ?_
  repeat' (first | (refine isO ?_; first | refine oo (Pc rfl) ?_ | refine oo (Pa rfl (by omega) (by omega)) ?_ | (refine ob rfl ?_ ?_ <;> intro hq <;> try (exfalso; omega)) | refine oo (Pi rfl (by omega)) ?_ | refine oo (Pl rfl) ?_ | refine oo (Px rfl rfl) ?_ | refine oo (Pj rfl (by omega) (by omega)) ?_ | refine oo (Pk rfl (by omega) (by omega)) ?_ | refine oo (Pf rfl) ?_ | refine oo (Pv rfl (by omega) (by omega)) ?_ | refine oo (Pn rfl) ?_ | refine oo (Pm rfl) ?_ | refine os rfl rfl ?_ | refine ot rfl (by omega) ?_ | refine O_nil ?_) | refine wo rfl ?_ | refine wc rfl ?_ | refine wg rfl ?_ | refine go rfl ?_ | refine gc rfl ?_ | refine gg rfl ?_)
  refine W_region_still Tb.mixed (by kernel_rfl) ?_
  repeat' (first | (refine isS ?_; first | refine ss (Pc rfl) ?_ | refine ss (Pa rfl (by omega) (by omega)) ?_ | (refine sb rfl ?_ ?_ <;> intro hq <;> try (exfalso; omega)) | refine ss (Pi rfl (by omega)) ?_ | refine ss (Pl rfl) ?_ | refine ss (Px rfl rfl) ?_ | refine ss (Pj rfl (by omega) (by omega)) ?_ | refine ss (Pk rfl (by omega) (by omega)) ?_ | refine ss (Pf rfl) ?_ | refine ss (Pv rfl (by omega) (by omega)) ?_ | refine ss (Pn rfl) ?_ | refine ss (Pm rfl) ?_ | refine OS_nil ?_))
  repeat' (first | (refine isO ?_; first | refine oo (Pc rfl) ?_ | refine oo (Pa rfl (by omega) (by omega)) ?_ | (refine ob rfl ?_ ?_ <;> intro hq <;> try (exfalso; omega)) | refine oo (Pi rfl (by omega)) ?_ | refine oo (Pl rfl) ?_ | refine oo (Px rfl rfl) ?_ | refine oo (Pj rfl (by omega) (by omega)) ?_ | refine oo (Pk rfl (by omega) (by omega)) ?_ | refine oo (Pf rfl) ?_ | refine oo (Pv rfl (by omega) (by omega)) ?_ | refine oo (Pn rfl) ?_ | refine oo (Pm rfl) ?_ | refine os rfl rfl ?_ | refine ot rfl (by omega) ?_ | refine O_nil ?_) | refine wo rfl ?_ | refine wc rfl ?_ | refine wg rfl ?_ | refine go rfl ?_ | refine gc rfl ?_ | refine gg rfl ?_)
  refine O_pure (P_slice Tb.u79 Tb.c146 (by decide) rfl ⟨_, rfl⟩ rfl (by omega) (by omega) (by omega) (by omega)) trivial rfl ?_
  repeat' (first | (refine isO ?_; first | refine oo (Pc rfl) ?_ | refine oo (Pa rfl (by omega) (by omega)) ?_ | (refine ob rfl ?_ ?_ <;> intro hq <;> try (exfalso; omega)) | refine oo (Pi rfl (by omega)) ?_ | refine oo (Pl rfl) ?_ | refine oo (Px rfl rfl) ?_ | refine oo (Pj rfl (by omega) (by omega)) ?_ | refine oo (Pk rfl (by omega) (by omega)) ?_ | refine oo (Pf rfl) ?_ | refine oo (Pv rfl (by omega) (by omega)) ?_ | refine oo (Pn rfl) ?_ | refine oo (Pm rfl) ?_ | refine os rfl rfl ?_ | refine ot rfl (by omega) ?_ | refine O_nil ?_) | refine wo rfl ?_ | refine wc rfl ?_ | refine wg rfl ?_ | refine go rfl ?_ | refine gc rfl ?_ | refine gg rfl ?_)
  refine W_loop (α := Nat × Nat × Nat) (fun x => [(0, .slice (some ⟨b, 0, none⟩) cs.length cap), (3, .pointer (some ⟨b1, 0, none⟩)), (5, .int .u32 x.2.1), (6, .int .u32 x.2.2), (7, .int .u32 (cs.getD x.1 Cd.zero).sym), (46, .slice (some ⟨b, 4, none⟩) (cs.length - 1) (cap - 1)), (47, .int .i64 ((cs.length - 1 : Nat) : Int)), (48, .int .i64 x.1)])
    (fun x => ⟨true, b1, 0, ints .u64 (row28 (cntL (cs.take (x.1 + 1))))⟩ :: ⟨true, b, 0, codesV cs ++ sp⟩ :: F)
    (fun x => x.1 + 1 ≤ cs.length ∧ 1 ≤ x.2.1 ∧ x.2.2 ≤ 20 ∧ (∀ c ∈ cs.take (x.1 + 1), x.2.1 ≤ c.len ∧ c.len ≤ x.2.2)) (fun x => cs.length - x.1) (0, zl, zl) ?_ ⟨rfl, rfl, rfl, rfl, by dsimp only; rw [hz]; rfl, rfl, rfl, rfl, trivial⟩ ?_ ?_
  · refine ⟨by dsimp only; omega, hl0.1, hl0.2, ?_⟩
    try dsimp only
    rw [take_one cs (by omega)]
    intro c hc
    simp only [List.mem_singleton, hz] at hc
    subst hc
    exact ⟨Nat.le_refl _, Nat.le_refl _⟩
  · try dsimp only
    rw [take_one cs (by omega), hz]
    repeat (first | exact .rfl | exact .nil | (apply Rk.cons; (· exact TakeI.out)) | refine .drop ?_)
  rintro ⟨i, mn, mx⟩ ⟨hi, hmn, hmx, hall⟩
  dsimp only at hi hmn hmx hall ⊢
  repeat' (first | (refine isO ?_; first | refine oo (Pc rfl) ?_ | refine oo (Pa rfl (by omega) (by omega)) ?_ | (refine ob rfl ?_ ?_ <;> intro hq <;> try (exfalso; omega)) | refine oo (Pi rfl (by omega)) ?_ | refine oo (Pl rfl) ?_ | refine oo (Px rfl rfl) ?_ | refine oo (Pj rfl (by omega) (by omega)) ?_ | refine oo (Pk rfl (by omega) (by omega)) ?_ | refine oo (Pf rfl) ?_ | refine oo (Pv rfl (by omega) (by omega)) ?_ | refine oo (Pn rfl) ?_ | refine oo (Pm rfl) ?_ | refine os rfl rfl ?_ | refine ot rfl (by omega) ?_ | refine O_nil ?_) | refine wo rfl ?_ | refine wc rfl ?_ | refine wg rfl ?_ | refine go rfl ?_ | refine gc rfl ?_ | refine gg rfl ?_)
  · have hi1 : i + 1 < cs.length := by omega
    have hl1 := hG.lenAt hi1
    have hsym := hG.sym i hi1
    have htake := take_succ_getD cs (i + 1) hi1
    obtain ⟨ys, yc, yl, yv, hy⟩ : ∃ s c n v, cs.getD (i + 1) Cd.zero = ⟨s, c, n, v⟩ := ⟨_, _, _, _, rfl⟩
    rw [hy] at hl1 hsym htake
    dsimp only at hl1 hsym
    have hmem : ∀ c ∈ cs.take (i + 1 + 1), c ∈ cs.take (i + 1) ∨ c = ⟨ys, yc, yl, yv⟩ := by
      rw [htake]
      intro c hc
      simpa using hc
    refine O_pure (P_loadAggAt (o := 0) (i := (i + 1) * 4) Tb.a146 Tb.c146 (by decide) rfl (by omega) (by exact TakeI.out.mem) (by rw [List.length_append, codesV_length]; omega) (codesV_lit' _ _ _ hi1 hy)) trivial rfl ?_
    refine O_alloc zero146 trivial rfl fun b3 => ?_
    refine O_storeAgg0 Tb.c146 (by decide) rfl rfl rfl (lit_one _ _ _ _) trivial (by exact TakeI.out) rfl ?_
    repeat' (first | (refine isO ?_; first | refine oo (Pc rfl) ?_ | refine oo (Pa rfl (by omega) (by omega)) ?_ | (refine ob rfl ?_ ?_ <;> intro hq <;> try (exfalso; omega)) | refine oo (Pi rfl (by omega)) ?_ | refine oo (Pl rfl) ?_ | refine oo (Px rfl rfl) ?_ | refine oo (Pj rfl (by omega) (by omega)) ?_ | refine oo (Pk rfl (by omega) (by omega)) ?_ | refine oo (Pf rfl) ?_ | refine oo (Pv rfl (by omega) (by omega)) ?_ | refine oo (Pn rfl) ?_ | refine oo (Pm rfl) ?_ | refine os rfl rfl ?_ | refine ot rfl (by omega) ?_ | refine O_nil ?_) | refine wo rfl ?_ | refine wc rfl ?_ | refine wg rfl ?_ | refine go rfl ?_ | refine gc rfl ?_ | refine gg rfl ?_)
    all_goals
      refine O_pure (P_is (P_loadi Tb.u49 rfl (by exact TakeI.out.mem) (by rw [row28_length]; omega)) (congrArg (Value.int .u64) (row28_rd _ _ (by omega)))) trivial rfl ?_
      refine O_pure (P_addE (q := 1) (r := cntL (cs.take (i + 1)) yl + 1) rfl rfl rfl (by have := cntL_le (cs.take (i + 1)) yl; have h3 : (cs.take (i + 1)).length ≤ cs.length := List.length_take_le' _ _; simp only [IntKind.bits]; omega)) trivial rfl ?_
      repeat' (first | (refine isO ?_; first | refine oo (Pc rfl) ?_ | refine oo (Pa rfl (by omega) (by omega)) ?_ | (refine ob rfl ?_ ?_ <;> intro hq <;> try (exfalso; omega)) | refine oo (Pi rfl (by omega)) ?_ | refine oo (Pl rfl) ?_ | refine oo (Px rfl rfl) ?_ | refine oo (Pj rfl (by omega) (by omega)) ?_ | refine oo (Pk rfl (by omega) (by omega)) ?_ | refine oo (Pf rfl) ?_ | refine oo (Pv rfl (by omega) (by omega)) ?_ | refine oo (Pn rfl) ?_ | refine oo (Pm rfl) ?_ | refine os rfl rfl ?_ | refine ot rfl (by omega) ?_ | refine O_nil ?_) | refine wo rfl ?_ | refine wc rfl ?_ | refine wg rfl ?_ | refine go rfl ?_ | refine gc rfl ?_ | refine gg rfl ?_)
      refine O_storeiE Tb.c49 rfl rfl (hist_snoc _ ⟨ys, yc, yl, yv⟩ (by dsimp only; omega)) trivial (by first | exact .head | exact .tail .head | exact .tail (.tail .head) | exact .tail (.tail (.tail .head)) | exact .tail (.tail (.tail (.tail .head)))) (by rw [row28_length]; omega) ?_
      repeat' (first | (refine isO ?_; first | refine oo (Pc rfl) ?_ | refine oo (Pa rfl (by omega) (by omega)) ?_ | (refine ob rfl ?_ ?_ <;> intro hq <;> try (exfalso; omega)) | refine oo (Pi rfl (by omega)) ?_ | refine oo (Pl rfl) ?_ | refine oo (Px rfl rfl) ?_ | refine oo (Pj rfl (by omega) (by omega)) ?_ | refine oo (Pk rfl (by omega) (by omega)) ?_ | refine oo (Pf rfl) ?_ | refine oo (Pv rfl (by omega) (by omega)) ?_ | refine oo (Pn rfl) ?_ | refine oo (Pm rfl) ?_ | refine os rfl rfl ?_ | refine ot rfl (by omega) ?_ | refine O_nil ?_) | refine wo rfl ?_ | refine wc rfl ?_ | refine wg rfl ?_ | refine go rfl ?_ | refine gc rfl ?_ | refine gg rfl ?_)
      refine G_stop ⟨(i + 1, _, _), ⟨by dsimp only; omega, ?_, ?_, ?_⟩, by dsimp only; omega, ⟨rfl, rfl, rfl, rfl, by dsimp only; rw [hy]; rfl, rfl, rfl, rfl, trivial⟩, by dsimp only; rw [htake]; repeat (first | exact .rfl | exact .nil | (apply Rk.cons; (· exact TakeI.out)) | refine .drop ?_)⟩
      · dsimp only; omega
      · dsimp only; omega
      · dsimp only
        intro c hc
        rcases hmem c hc with h | rfl
        · have := hall c h; omega
        · dsimp only; omega
  obtain rfl : i = cs.length - 1 := by omega
  rw [show cs.length - 1 + 1 = cs.length by omega, List.take_length] at hall ⊢
  have hmm : mn ≤ mx := by
    have h0 : cs.getD 0 Cd.zero ∈ cs := by
      rw [show cs.getD 0 Cd.zero = cs[0] by simp [show 0 < cs.length by omega]]
      exact List.getElem_mem _
    have := hall _ h0
    omega
  have hlow : ∀ c ∈ cs, mn ≤ c.len := fun c hc => (hall c hc).1
  have hhigh : ∀ c ∈ cs, c.len ≤ mx := fun c hc => (hall c hc).2
  have hkr : ∀ n, n ≤ 20 → kr cs n < 2 ^ 32 := fun n hn => by
    have h1 := kr_le cs n
    have h3 : cs.length * 2 ^ n ≤ 60 * 2 ^ 20 := Nat.mul_le_mul h60 (Nat.pow_le_pow_right (by omega) hn)
    omega
  clear hall
  refine O_alloc zero148 trivial rfl fun b4 => ?_
  repeat' (first | (refine isO ?_; first | refine oo (Pc rfl) ?_ | refine oo (Pa rfl (by omega) (by omega)) ?_ | (refine ob rfl ?_ ?_ <;> intro hq <;> try (exfalso; omega)) | refine oo (Pi rfl (by omega)) ?_ | refine oo (Pl rfl) ?_ | refine oo (Px rfl rfl) ?_ | refine oo (Pj rfl (by omega) (by omega)) ?_ | refine oo (Pk rfl (by omega) (by omega)) ?_ | refine oo (Pf rfl) ?_ | refine oo (Pv rfl (by omega) (by omega)) ?_ | refine oo (Pn rfl) ?_ | refine oo (Pm rfl) ?_ | refine os rfl rfl ?_ | refine ot rfl (by omega) ?_ | refine O_nil ?_) | refine wo rfl ?_ | refine wc rfl ?_ | refine wg rfl ?_ | refine go rfl ?_ | refine gc rfl ?_ | refine gg rfl ?_)
  refine W_loop (α := Nat) (fun x => [(0, .slice (some ⟨b, 0, none⟩) cs.length cap), (3, .pointer (some ⟨b1, 0, none⟩)), (6, .int .u32 mx), (10, .pointer (some ⟨b4, 0, none⟩)), (11, .int .u64 (kr cs (x - 1) : Nat)), (12, .int .u32 x)])
    (fun x => ⟨true, b4, 0, ints .u64 (row28 (nxt cs mn x))⟩ :: ⟨true, b1, 0, ints .u64 (row28 (cntL cs))⟩ :: ⟨true, b, 0, codesV cs ++ sp⟩ :: F)
    (fun x => mn ≤ x ∧ x ≤ mx + 1) (fun x => mx + 1 - x) mn ⟨by omega, by omega⟩ ⟨rfl, rfl, rfl, rfl, by rw [kr_below cs mn (mn - 1) hlow (by omega)]; rfl, rfl, trivial⟩ ?_ ?_
  · try dsimp only
    rw [show row28 (nxt cs mn mn) = row28 (fun _ => 0) from row28_ext fun j _ => by unfold nxt; rw [if_neg (by omega)]]
    repeat (first | exact .rfl | exact .nil | (apply Rk.cons; (· exact TakeI.out)) | refine .drop ?_)
  rintro i ⟨hi1, hi2⟩
  try dsimp only
  repeat' (first | (refine isO ?_; first | refine oo (Pc rfl) ?_ | refine oo (Pa rfl (by omega) (by omega)) ?_ | (refine ob rfl ?_ ?_ <;> intro hq <;> try (exfalso; omega)) | refine oo (Pi rfl (by omega)) ?_ | refine oo (Pl rfl) ?_ | refine oo (Px rfl rfl) ?_ | refine oo (Pj rfl (by omega) (by omega)) ?_ | refine oo (Pk rfl (by omega) (by omega)) ?_ | refine oo (Pf rfl) ?_ | refine oo (Pv rfl (by omega) (by omega)) ?_ | refine oo (Pn rfl) ?_ | refine oo (Pm rfl) ?_ | refine os rfl rfl ?_ | refine ot rfl (by omega) ?_ | refine O_nil ?_) | refine wo rfl ?_ | refine wc rfl ?_ | refine wg rfl ?_ | refine go rfl ?_ | refine gc rfl ?_ | refine gg rfl ?_)
  · obtain ⟨j, rfl⟩ : ∃ j, i = j + 1 := ⟨i - 1, by omega⟩
    have hst : kr cs j * 2 = st cs (j + 1) := by simp only [st, st_kr]; omega
    have hk1 := hkr (j + 1) (by omega)
    have hk2 := st_kr cs (j + 1)
    refine O_pure (P_shlE (p := kr cs j) (q := 1) (r := st cs (j + 1)) rfl rfl rfl (by rw [Nat.pow_one, hst]; simp only [IntKind.bits]; omega)) trivial rfl ?_
    repeat' (first | (refine isO ?_; first | refine oo (Pc rfl) ?_ | refine oo (Pa rfl (by omega) (by omega)) ?_ | (refine ob rfl ?_ ?_ <;> intro hq <;> try (exfalso; omega)) | refine oo (Pi rfl (by omega)) ?_ | refine oo (Pl rfl) ?_ | refine oo (Px rfl rfl) ?_ | refine oo (Pj rfl (by omega) (by omega)) ?_ | refine oo (Pk rfl (by omega) (by omega)) ?_ | refine oo (Pf rfl) ?_ | refine oo (Pv rfl (by omega) (by omega)) ?_ | refine oo (Pn rfl) ?_ | refine oo (Pm rfl) ?_ | refine os rfl rfl ?_ | refine ot rfl (by omega) ?_ | refine O_nil ?_) | refine wo rfl ?_ | refine wc rfl ?_ | refine wg rfl ?_ | refine go rfl ?_ | refine gc rfl ?_ | refine gg rfl ?_)
    refine O_storeiE Tb.c49 rfl rfl (nxt_set cs mn (j + 1) (by omega) (by omega)) trivial (by first | exact .head | exact .tail .head | exact .tail (.tail .head) | exact .tail (.tail (.tail .head)) | exact .tail (.tail (.tail (.tail .head)))) (by rw [row28_length]; omega) ?_
    repeat' (first | (refine isO ?_; first | refine oo (Pc rfl) ?_ | refine oo (Pa rfl (by omega) (by omega)) ?_ | (refine ob rfl ?_ ?_ <;> intro hq <;> try (exfalso; omega)) | refine oo (Pi rfl (by omega)) ?_ | refine oo (Pl rfl) ?_ | refine oo (Px rfl rfl) ?_ | refine oo (Pj rfl (by omega) (by omega)) ?_ | refine oo (Pk rfl (by omega) (by omega)) ?_ | refine oo (Pf rfl) ?_ | refine oo (Pv rfl (by omega) (by omega)) ?_ | refine oo (Pn rfl) ?_ | refine oo (Pm rfl) ?_ | refine os rfl rfl ?_ | refine ot rfl (by omega) ?_ | refine O_nil ?_) | refine wo rfl ?_ | refine wc rfl ?_ | refine wg rfl ?_ | refine go rfl ?_ | refine gc rfl ?_ | refine gg rfl ?_)
    refine O_pure (P_is (P_loadi Tb.u49 rfl (by exact TakeI.out.mem) (by rw [row28_length]; omega)) (congrArg (Value.int .u64) (row28_rd _ _ (by omega)))) trivial rfl ?_
    refine O_pure (P_addE (p := st cs (j + 1)) (q := cntL cs (j + 1)) (r := kr cs (j + 1)) rfl rfl rfl (by rw [hk2]; simp only [IntKind.bits]; omega)) trivial rfl ?_
    repeat' (first | (refine isO ?_; first | refine oo (Pc rfl) ?_ | refine oo (Pa rfl (by omega) (by omega)) ?_ | (refine ob rfl ?_ ?_ <;> intro hq <;> try (exfalso; omega)) | refine oo (Pi rfl (by omega)) ?_ | refine oo (Pl rfl) ?_ | refine oo (Px rfl rfl) ?_ | refine oo (Pj rfl (by omega) (by omega)) ?_ | refine oo (Pk rfl (by omega) (by omega)) ?_ | refine oo (Pf rfl) ?_ | refine oo (Pv rfl (by omega) (by omega)) ?_ | refine oo (Pn rfl) ?_ | refine oo (Pm rfl) ?_ | refine os rfl rfl ?_ | refine ot rfl (by omega) ?_ | refine O_nil ?_) | refine wo rfl ?_ | refine wc rfl ?_ | refine wg rfl ?_ | refine go rfl ?_ | refine gc rfl ?_ | refine gg rfl ?_)
    exact G_stop ⟨j + 1 + 1, ⟨by omega, by omega⟩, by omega, ⟨rfl, rfl, rfl, rfl, rfl, rfl, trivial⟩, by repeat (first | exact .rfl | exact .nil | (apply Rk.cons; (· exact TakeI.out)) | refine .drop ?_)⟩
  obtain rfl : i = mx + 1 := by omega
  have hw := whole_iff cs mx hhigh hmx
  have hkm := hkr mx hmx
  have h2m : 2 ^ mx < 2 ^ 32 := Nat.pow_lt_pow_right (by omega) (by omega)
  refine O_pure (P_shlE (p := 1) (q := mx) (r := 2 ^ mx) rfl rfl rfl (by rw [Nat.one_mul]; exact Nat.mod_eq_of_lt (Nat.lt_trans h2m (by decide)))) trivial rfl ?_
  refine O_cmp (p := (kr cs mx : Nat)) rfl rfl rfl trivial rfl (fun hq => ?_) (fun hq => ?_) <;> simp only [yes, no] at hq
  · repeat' (first | (refine isO ?_; first | refine oo (Pc rfl) ?_ | refine oo (Pa rfl (by omega) (by omega)) ?_ | (refine ob rfl ?_ ?_ <;> intro hq <;> try (exfalso; omega)) | refine oo (Pi rfl (by omega)) ?_ | refine oo (Pl rfl) ?_ | refine oo (Px rfl rfl) ?_ | refine oo (Pj rfl (by omega) (by omega)) ?_ | refine oo (Pk rfl (by omega) (by omega)) ?_ | refine oo (Pf rfl) ?_ | refine oo (Pv rfl (by omega) (by omega)) ?_ | refine oo (Pn rfl) ?_ | refine oo (Pm rfl) ?_ | refine os rfl rfl ?_ | refine ot rfl (by omega) ?_ | refine O_nil ?_) | refine wo rfl ?_ | refine wc rfl ?_ | refine wg rfl ?_ | refine go rfl ?_ | refine gc rfl ?_ | refine gg rfl ?_)
    refine O_callP rfl rfl Tb.k90 trivial rfl (errorf_c _ _ _ _) ?_
    repeat' (first | (refine isO ?_; first | refine oo (Pc rfl) ?_ | refine oo (Pa rfl (by omega) (by omega)) ?_ | (refine ob rfl ?_ ?_ <;> intro hq <;> try (exfalso; omega)) | refine oo (Pi rfl (by omega)) ?_ | refine oo (Pl rfl) ?_ | refine oo (Px rfl rfl) ?_ | refine oo (Pj rfl (by omega) (by omega)) ?_ | refine oo (Pk rfl (by omega) (by omega)) ?_ | refine oo (Pf rfl) ?_ | refine oo (Pv rfl (by omega) (by omega)) ?_ | refine oo (Pn rfl) ?_ | refine oo (Pm rfl) ?_ | refine os rfl rfl ?_ | refine ot rfl (by omega) ?_ | refine O_nil ?_) | refine wo rfl ?_ | refine wc rfl ?_ | refine wg rfl ?_ | refine go rfl ?_ | refine gc rfl ?_ | refine gg rfl ?_)
    refine G_fin ⟨_, rfl, .inr ⟨fun h => hq (congrArg Nat.cast (hw.1 h)), ⟨_, _, rfl⟩, by repeat (first | exact .rfl | exact .nil | (apply Rk.cons; (· exact TakeI.out)) | refine .drop ?_)⟩⟩
  have hwhole : whole cs := hw.2 (Int.ofNat.inj hq)
  repeat' (first | (refine isO ?_; first | refine oo (Pc rfl) ?_ | refine oo (Pa rfl (by omega) (by omega)) ?_ | (refine ob rfl ?_ ?_ <;> intro hq <;> try (exfalso; omega)) | refine oo (Pi rfl (by omega)) ?_ | refine oo (Pl rfl) ?_ | refine oo (Px rfl rfl) ?_ | refine oo (Pj rfl (by omega) (by omega)) ?_ | refine oo (Pk rfl (by omega) (by omega)) ?_ | refine oo (Pf rfl) ?_ | refine oo (Pv rfl (by omega) (by omega)) ?_ | refine oo (Pn rfl) ?_ | refine oo (Pm rfl) ?_ | refine os rfl rfl ?_ | refine ot rfl (by omega) ?_ | refine O_nil ?_) | refine wo rfl ?_ | refine wc rfl ?_ | refine wg rfl ?_ | refine go rfl ?_ | refine gc rfl ?_ | refine gg rfl ?_)
  refine W_loop (α := Nat) (fun x => [(0, .slice (some ⟨b, 0, none⟩) cs.length cap), (10, .pointer (some ⟨b4, 0, none⟩)), (102, .slice (some ⟨b, 0, none⟩) cs.length cap), (103, .int .i64 cs.length), (104, .int .i64 x)])
    (fun x => ⟨true, b4, 0, ints .u64 (row28 (nx3 cs mn mx x))⟩ :: ⟨true, b, 0, codesV (canonTo cs x) ++ sp⟩ :: F)
    (fun x => x ≤ cs.length) (fun x => cs.length - x) 0 (by omega) ⟨rfl, rfl, rfl, rfl, rfl, trivial⟩ ?_ ?_
  · try dsimp only
    rw [← nx3_zero, canonTo_zero]
    repeat (first | exact .rfl | exact .nil | (apply Rk.cons; (· exact TakeI.out)) | refine .drop ?_)
  intro i hi
  try dsimp only
  repeat' (first | (refine isO ?_; first | refine oo (Pc rfl) ?_ | refine oo (Pa rfl (by omega) (by omega)) ?_ | (refine ob rfl ?_ ?_ <;> intro hq <;> try (exfalso; omega)) | refine oo (Pi rfl (by omega)) ?_ | refine oo (Pl rfl) ?_ | refine oo (Px rfl rfl) ?_ | refine oo (Pj rfl (by omega) (by omega)) ?_ | refine oo (Pk rfl (by omega) (by omega)) ?_ | refine oo (Pf rfl) ?_ | refine oo (Pv rfl (by omega) (by omega)) ?_ | refine oo (Pn rfl) ?_ | refine oo (Pm rfl) ?_ | refine os rfl rfl ?_ | refine ot rfl (by omega) ?_ | refine O_nil ?_) | refine wo rfl ?_ | refine wc rfl ?_ | refine wg rfl ?_ | refine go rfl ?_ | refine gc rfl ?_ | refine gg rfl ?_)
  · have hi1 : i < cs.length := by omega
    have hl1 := hG.lenAt hi1
    have hmem : cs.getD i Cd.zero ∈ cs := by
      rw [show cs.getD i Cd.zero = cs[i] by simp [hi1]]
      exact List.getElem_mem _
    have hll := hlow _ hmem
    have hlh := hhigh _ hmem
    have hfit := whole_fits cs hwhole (cs.getD i Cd.zero).len hl1.2
    have hcnt := cntL_take_lt cs i hi1
    have hset := nx3_set cs mn mx i hi1 hll hlh (by omega)
    have hval : valAt cs i = T (cs.getD i Cd.zero).len (nx3 cs mn mx i (cs.getD i Cd.zero).len) := by
      unfold valAt nx3; rw [if_pos (by omega)]
    have hnx : nx3 cs mn mx i (cs.getD i Cd.zero).len < 2 ^ (cs.getD i Cd.zero).len := by
      unfold nx3; rw [if_pos (by omega)]; omega
    have hcl := canonTo_length cs i hi
    have hcset := canonTo_set cs i hi1
    have hcget := canonTo_get cs i hi1
    obtain ⟨ys, yc, yl, yv, hy⟩ : ∃ s c n v, cs.getD i Cd.zero = ⟨s, c, n, v⟩ := ⟨_, _, _, _, rfl⟩
    rw [hy] at hl1 hll hlh hfit hcnt hset hval hnx hcget
    dsimp only at hl1 hll hlh hfit hcnt hset hval hnx
    have h2l : 2 ^ yl < 2 ^ 32 := Nat.pow_lt_pow_right (by omega) (by omega)
    refine O_pure (P_loadAggAt (o := 0) (i := i * 4) Tb.a146 Tb.c146 (by decide) rfl (by omega) (by exact TakeI.out.mem) (by rw [List.length_append, codesV_length, hcl]; omega) (codesV_lit' _ _ _ (by omega) hcget)) trivial rfl ?_
    refine O_alloc zero146 trivial rfl fun b5 => ?_
    repeat' (first | (refine isO ?_; first | refine oo (Pc rfl) ?_ | refine oo (Pa rfl (by omega) (by omega)) ?_ | (refine ob rfl ?_ ?_ <;> intro hq <;> try (exfalso; omega)) | refine oo (Pi rfl (by omega)) ?_ | refine oo (Pl rfl) ?_ | refine oo (Px rfl rfl) ?_ | refine oo (Pj rfl (by omega) (by omega)) ?_ | refine oo (Pk rfl (by omega) (by omega)) ?_ | refine oo (Pf rfl) ?_ | refine oo (Pv rfl (by omega) (by omega)) ?_ | refine oo (Pn rfl) ?_ | refine oo (Pm rfl) ?_ | refine os rfl rfl ?_ | refine ot rfl (by omega) ?_ | refine O_nil ?_) | refine wo rfl ?_ | refine wc rfl ?_ | refine wg rfl ?_ | refine go rfl ?_ | refine gc rfl ?_ | refine gg rfl ?_)
    refine O_storeAgg0 Tb.c146 (by decide) rfl rfl rfl (lit_one _ _ _ _) trivial (by exact TakeI.out) rfl ?_
    repeat' (first | (refine isO ?_; first | refine oo (Pc rfl) ?_ | refine oo (Pa rfl (by omega) (by omega)) ?_ | (refine ob rfl ?_ ?_ <;> intro hq <;> try (exfalso; omega)) | refine oo (Pi rfl (by omega)) ?_ | refine oo (Pl rfl) ?_ | refine oo (Px rfl rfl) ?_ | refine oo (Pj rfl (by omega) (by omega)) ?_ | refine oo (Pk rfl (by omega) (by omega)) ?_ | refine oo (Pf rfl) ?_ | refine oo (Pv rfl (by omega) (by omega)) ?_ | refine oo (Pn rfl) ?_ | refine oo (Pm rfl) ?_ | refine os rfl rfl ?_ | refine ot rfl (by omega) ?_ | refine O_nil ?_) | refine wo rfl ?_ | refine wc rfl ?_ | refine wg rfl ?_ | refine go rfl ?_ | refine gc rfl ?_ | refine gg rfl ?_)
    refine W_region_tail 13 Tb.mixed (by kernel_rfl) ?_
    simp only [List.take_succ_cons, List.take_zero, List.drop_succ_cons, List.drop_zero]
    repeat' (first | (refine isS ?_; first | refine ss (Pc rfl) ?_ | refine ss (Pa rfl (by omega) (by omega)) ?_ | (refine sb rfl ?_ ?_ <;> intro hq <;> try (exfalso; omega)) | refine ss (Pi rfl (by omega)) ?_ | refine ss (Pl rfl) ?_ | refine ss (Px rfl rfl) ?_ | refine ss (Pj rfl (by omega) (by omega)) ?_ | refine ss (Pk rfl (by omega) (by omega)) ?_ | refine ss (Pf rfl) ?_ | refine ss (Pv rfl (by omega) (by omega)) ?_ | refine ss (Pn rfl) ?_ | refine ss (Pm rfl) ?_ | refine OS_nil ?_))
    refine OS_pure (P_is (P_loadi Tb.u49 rfl (by exact TakeI.out.mem) (by rw [row28_length]; omega)) (congrArg (Value.int .u64) (row28_rd _ _ (by omega)))) trivial rfl ?_
    repeat' (first | (refine isS ?_; first | refine ss (Pc rfl) ?_ | refine ss (Pa rfl (by omega) (by omega)) ?_ | (refine sb rfl ?_ ?_ <;> intro hq <;> try (exfalso; omega)) | refine ss (Pi rfl (by omega)) ?_ | refine ss (Pl rfl) ?_ | refine ss (Px rfl rfl) ?_ | refine ss (Pj rfl (by omega) (by omega)) ?_ | refine ss (Pk rfl (by omega) (by omega)) ?_ | refine ss (Pf rfl) ?_ | refine ss (Pv rfl (by omega) (by omega)) ?_ | refine ss (Pn rfl) ?_ | refine ss (Pm rfl) ?_ | refine OS_nil ?_))
    refine OS_callP rfl rfl Tb.k91 trivial rfl (rev32N_c _ yl hl1.1 (by omega) hnx _) ?_
    repeat' (first | (refine isS ?_; first | refine ss (Pc rfl) ?_ | refine ss (Pa rfl (by omega) (by omega)) ?_ | (refine sb rfl ?_ ?_ <;> intro hq <;> try (exfalso; omega)) | refine ss (Pi rfl (by omega)) ?_ | refine ss (Pl rfl) ?_ | refine ss (Px rfl rfl) ?_ | refine ss (Pj rfl (by omega) (by omega)) ?_ | refine ss (Pk rfl (by omega) (by omega)) ?_ | refine ss (Pf rfl) ?_ | refine ss (Pv rfl (by omega) (by omega)) ?_ | refine ss (Pn rfl) ?_ | refine ss (Pm rfl) ?_ | refine OS_nil ?_))
    refine O_storeAt (o := 0) (n := i * 4 + 3) (l := codesV (canonTo cs i) ++ sp) Tb.c40 rfl (by omega) rfl rfl trivial (by rw [List.length_append, codesV_length, hcl]; omega) ((codesV_set (canonTo cs i) sp i (by omega) (T yl (nx3 cs mn mx i yl))).trans (by rw [← hval, hcset])) (by first | exact .head | exact .tail .head | exact .tail (.tail .head) | exact .tail (.tail (.tail .head)) | exact .tail (.tail (.tail (.tail .head)))) ?_
    repeat' (first | (refine isO ?_; first | refine oo (Pc rfl) ?_ | refine oo (Pa rfl (by omega) (by omega)) ?_ | (refine ob rfl ?_ ?_ <;> intro hq <;> try (exfalso; omega)) | refine oo (Pi rfl (by omega)) ?_ | refine oo (Pl rfl) ?_ | refine oo (Px rfl rfl) ?_ | refine oo (Pj rfl (by omega) (by omega)) ?_ | refine oo (Pk rfl (by omega) (by omega)) ?_ | refine oo (Pf rfl) ?_ | refine oo (Pv rfl (by omega) (by omega)) ?_ | refine oo (Pn rfl) ?_ | refine oo (Pm rfl) ?_ | refine os rfl rfl ?_ | refine ot rfl (by omega) ?_ | refine O_nil ?_) | refine wo rfl ?_ | refine wc rfl ?_ | refine wg rfl ?_ | refine go rfl ?_ | refine gc rfl ?_ | refine gg rfl ?_)
    refine O_pure (P_is (P_loadi Tb.u49 rfl (by exact TakeI.out.mem) (by rw [row28_length]; omega)) (congrArg (Value.int .u64) (row28_rd _ _ (by omega)))) trivial rfl ?_
    refine O_pure (P_addE (p := nx3 cs mn mx i yl) (q := 1) (r := nx3 cs mn mx i yl + 1) rfl rfl rfl (Nat.mod_eq_of_lt (Nat.lt_of_lt_of_le (Nat.lt_of_le_of_lt hnx h2l) (by decide)))) trivial rfl ?_
    repeat' (first | (refine isO ?_; first | refine oo (Pc rfl) ?_ | refine oo (Pa rfl (by omega) (by omega)) ?_ | (refine ob rfl ?_ ?_ <;> intro hq <;> try (exfalso; omega)) | refine oo (Pi rfl (by omega)) ?_ | refine oo (Pl rfl) ?_ | refine oo (Px rfl rfl) ?_ | refine oo (Pj rfl (by omega) (by omega)) ?_ | refine oo (Pk rfl (by omega) (by omega)) ?_ | refine oo (Pf rfl) ?_ | refine oo (Pv rfl (by omega) (by omega)) ?_ | refine oo (Pn rfl) ?_ | refine oo (Pm rfl) ?_ | refine os rfl rfl ?_ | refine ot rfl (by omega) ?_ | refine O_nil ?_) | refine wo rfl ?_ | refine wc rfl ?_ | refine wg rfl ?_ | refine go rfl ?_ | refine gc rfl ?_ | refine gg rfl ?_)
    refine O_storeiE Tb.c49 rfl rfl hset trivial (by first | exact .head | exact .tail .head | exact .tail (.tail .head) | exact .tail (.tail (.tail .head)) | exact .tail (.tail (.tail (.tail .head)))) (by rw [row28_length]; omega) ?_
    repeat' (first | (refine isO ?_; first | refine oo (Pc rfl) ?_ | refine oo (Pa rfl (by omega) (by omega)) ?_ | (refine ob rfl ?_ ?_ <;> intro hq <;> try (exfalso; omega)) | refine oo (Pi rfl (by omega)) ?_ | refine oo (Pl rfl) ?_ | refine oo (Px rfl rfl) ?_ | refine oo (Pj rfl (by omega) (by omega)) ?_ | refine oo (Pk rfl (by omega) (by omega)) ?_ | refine oo (Pf rfl) ?_ | refine oo (Pv rfl (by omega) (by omega)) ?_ | refine oo (Pn rfl) ?_ | refine oo (Pm rfl) ?_ | refine os rfl rfl ?_ | refine ot rfl (by omega) ?_ | refine O_nil ?_) | refine wo rfl ?_ | refine wc rfl ?_ | refine wg rfl ?_ | refine go rfl ?_ | refine gc rfl ?_ | refine gg rfl ?_)
    exact G_stop ⟨i + 1, by omega, by omega, ⟨rfl, rfl, rfl, rfl, rfl, trivial⟩, by repeat (first | exact .rfl | exact .nil | (apply Rk.cons; (· exact TakeI.out)) | refine .drop ?_)⟩
  · obtain rfl : i = cs.length := by omega
    rw [canonTo_all]
    exact G_fin ⟨_, rfl, .inl ⟨hwhole, rfl, by repeat (first | exact .rfl | exact .nil | (apply Rk.cons; (· exact TakeI.out)) | refine .drop ?_)⟩⟩
end Go.Proofs.Ytjkpfliaflmppaa.Pc

namespace Go.Proofs.Ytjkpfliaflmppaa.Vm
open Go Go.RowKit

section
variable {pr : Bool} {P : Program} {N : Fm} {Fin : Post} {k : List Kn} {E : Env} {M : Mem}
variable {ops : List Oper} {rest : List Oper} {d : Nat} {op : Op} {ty : TypeId} {pos : String} {after : Array Edge} {g : Option (Nat × Bool)} {v : Value}

/-- All paths through c come to J. -/
theorem W_join {c : Code} (J : Env → Mem → Prop) (h1 : W pr P N Fin c (.stop J :: k) E M) (h2 : ∀ E' M', J E' M' → G pr P N Fin .normal k E' M') : W pr P N Fin c k E M := by
  refine ⟨V_mono h1.out fun e E' M' h => ?_⟩
  cases e with
  | normal => exact (h2 E' M' h).out
  | _ => exact h
/-- All paths through a region that only reads come to what E1 says. -/
theorem W_region_joinS {id : Nat} {l : List Oper} {c : Code} (E1 : Env) (hm : P.follows .mixedOrders = true) (hB : Region.lexB .any l.toArray = true)
    (hr : OS false P N l (fun E' => Sub E' E1) l E M) (h : W false P N Fin c k E1 M) : W false P N Fin (.region id l.toArray true) (.code c :: k) E M :=
  W_region_still hm hB (OS_mono (fun _ hs => G_code (W_weak hs .rfl h)) hr)

theorem P_sliceE {t e : TypeId} {x : Operand} {lo hi : Option Operand} {b o len cap n o' len' cap' : Nat} {l h : Int} (ht : Und P t (.slice e)) (he : Cel P e n) (hn : 0 < n)
    (hx : ev E x = some (.slice (some ⟨b, o, none⟩) len cap)) (hl : bnd E lo 0 l) (hh : bnd E hi len h) (h0 : 0 ≤ l) (h1 : l ≤ h) (h2 : h ≤ cap) (h3 : l < cap) (ho : o + l.toNat * n = o') (hln : h.toNat - l.toNat = len') (hc : cap - l.toNat = cap') :
    Pure P N E M (.slice t x lo hi none) (.slice (some ⟨b, o', none⟩) len' cap') := by
  subst ho; subst hln; subst hc
  exact P_slice ht he hn hx hl hh h0 h1 h2 h3
theorem P_sliceAE {t e : TypeId} {x : Operand} {lo hi : Option Operand} {b o len n o' len' cap' : Nat} {l h : Int} (ht : Und P t (.array len e)) (he : Cel P e n) (hn : 0 < n)
    (hx : ev E x = some (.pointer (some ⟨b, o, none⟩))) (hl : bnd E lo 0 l) (hh : bnd E hi len h) (h0 : 0 ≤ l) (h1 : l ≤ h) (h2 : h ≤ len) (h3 : l < len) (ho : o + l.toNat * n = o') (hln : h.toNat - l.toNat = len') (hc : len - l.toNat = cap') :
    Pure P N E M (.slice t x lo hi none) (.slice (some ⟨b, o', none⟩) len' cap') := by
  subst ho; subst hln; subst hc
  exact P_sliceA ht he hn hx hl hh h0 h1 h2 h3

/-- append of n elements where there is room behind the slice. -/
theorem O_appendIn {t e : TypeId} {I : TypeInfo} {s x : Operand} {t2 e2 : TypeId} {b ob bx ox n cx size len cap : Nat} {ownx : Bool} {l lx : List Value} {M0 : Mem} (ht : Und P t (.slice e)) (ht2 : Und P t2 (.slice e2))
    (hI : P.info? e = some I) (hsz : I.size = size) (hs : ev E s = some (.slice (some ⟨b, ob, none⟩) len cap)) (hx : ev E x = some (.slice (some ⟨bx, ox, none⟩) n cx))
    (hm : Take1 M ⟨true, b, 0, l⟩ M0) (hmx : (⟨ownx, bx, ox, lx⟩ : Sg) ∈ M) (hn : n * size ≤ lx.length) (hv : ∀ v ∈ lx, v.oneCell' = true) (hcap : len + n ≤ cap) (hroom : ob + len * size + n * size ≤ l.length) (hg : On E ops g) (hd : Nat.blt d N.n = true)
    (h : WO false P N Fin ops rest k ((d, .slice (some ⟨b, ob, none⟩) (len + n) cap) :: E) (⟨true, b, 0, putAt l (ob + len * size) (lx.take (n * size))⟩ :: M0)) :
    WO false P N Fin ops (⟨some d, .call { callee := .builtin .append, args := #[s, x], argTypes := #[t, t2] }, ty, pos, after, g⟩ :: rest) k E M := by
  refine ⟨⟨fun base w0 a w hA hS => ?_⟩⟩
  unfold wpList
  rw [if_pos (On.wanted (o := ⟨some d, .call { callee := .builtin .append, args := #[s, x], argTypes := #[t, t2] }, ty, pos, after, g⟩) hg hA)]
  refine .inl ?_
  unfold Oper.wp
  have hx1 : (loadCells ⟨bx, ox, none⟩ (n * size)).run P w = .ok (lx.take (n * size)).toArray w := by
    have := run_loadCells (P := P) (i := 0) (n := n * size) (hS.seg _ hmx) (by simpa using hn)
    simpa using this
  have hyl : (lx.take (n * size)).length = n * size := by rw [List.length_take]; omega
  obtain ⟨w', h2, h3⟩ := run_storeCells (P := P) (i := ob + len * size) (lx.take (n * size)) 0 l w (hS.rk (.cons hm .rfl)) (fun v hv' => hv v (List.mem_of_mem_take hv')) (by rw [hyl]; omega)
  have hr : (execOp a.eval ⟨some d, .call { callee := .builtin .append, args := #[s, x], argTypes := #[t, t2] }, ty, pos, after, g⟩).run P w = .ok (.value (.slice (some ⟨b, ob, none⟩) (len + n) cap)) w' := by
    simp only [Nat.zero_add] at h2
    simp [execOp, resolve, invoke, builtin, hA.eval hs, hA.eval hx, Builtin.append_, ht.run, ht2.run, sizeOf, typeInfo, hI, hsz, Builtin.lenOf, hcap, Builtin.firstCells, hx1, add_place, h2]
  rw [hr]
  rw [Nat.add_zero] at h3
  exact h.out.out base w0 _ _ (hA.put hd _) h3

theorem PutAt_store {l : List Oper} {M' : Mem} {t : TypeId} {p x : Operand} {b o n : Nat} {c : List Value} {v : Value} (ht : Cel P t 1) (hp : ev E p = some (.pointer (some ⟨b, o + n, none⟩))) (hx : ev E x = some v)
    (hv : v.oneCell' = true) (hg : On E l g) (hn : n < c.length) (hu : Upd1 M ⟨true, b, o, c⟩ (c.set n v) M') : PutAt P N l E M M' ⟨none, .store t p x, ty, pos, after, g⟩ := by
  refine ⟨fun base w0 a w1 hA hS F hF => ?_⟩
  have hs := hS.seg _ hu.mem
  have hcell := hs.cell (i := n) (v := c[n]) (List.getElem?_eq_getElem hn)
  have hf := hs.free rfl hn
  unfold wpList
  rw [if_pos (On.wanted (o := ⟨none, .store t p x, ty, pos, after, g⟩) hg hA)]
  refine .inl ?_
  unfold Oper.wp
  have hr : (execOp a.eval ⟨none, .store t p x, ty, pos, after, g⟩).run P w1 = .ok .skip (w1.setCell ⟨b, o + n, none⟩ v) := by
    simp only [execOp, Instr.storeAt, Instr.sureAddr, hA.eval hp, hA.eval hx]
    simp [run_storeVar1 ht hv hcell hf]
  rw [hr]
  exact hF _ (hS.set rfl hn hu)

theorem rlpure {l : List Oper} {M1 : Mem} {late : Nat → Bool} {c i e : Nat} {K : UEnv → Prop} {done : UEnv} {w : List Nat} {ws : List (List Nat)} (hi : Nat.beq i c = false) (hl : late i = true) (hp : Pure P N (pickR i done w ++ E) [] op v) (hg : On (pickR i done w ++ E) l g) (hd : Nat.blt e N.n = true)
    (h2 : QR P N l E M M1 late c K (i + 1) (some (e, v) :: done) ws rest) : QR P N l E M M1 late c K i done (w :: ws) (⟨some e, op, ty, pos, after, g⟩ :: rest) := rl hi hl ⟨rfl, hd, .inl ⟨hg, hp⟩⟩ h2
end
end Go.Proofs.Ytjkpfliaflmppaa.Vm

namespace Go.Proofs.Ytjkpfliaflmppaa.Pc
open Go Go.RowKit Go.Proofs.Ytjkpfliaflmppaa.Vm
theorem zero2 : zeroOf Try.prog 2 = some [.int .i64 0] := by kernel_rfl
theorem zero4 : zeroOf Try.prog 4 = some [.bool false] := by kernel_rfl
theorem zero22 : zeroOf Try.prog 22 = some [.slice none 0 0] := by kernel_rfl
theorem zero23 : zeroOf Try.prog 23 = some [.slice none 0 0] := by kernel_rfl
theorem zero94 : zeroOf Try.prog 94 = some [.slice none 0 0, .int .i64 0, .int .i8 0] := by kernel_rfl
theorem zero103 : zeroOf Try.prog 103 = some [.slice none 0 0, .int .u32 0, .int .u32 0] := by kernel_rfl
theorem zero76 : zeroOf Try.prog 76 = some [.int .i64 0, .int .u64 0, .int .u64 0, .slice none 0 0] := by kernel_rfl
theorem len99 : (zeroOf Try.prog 99).map (·.length) = some 518 := by kernel_rfl
theorem zero99 : ∃ c, zeroOf Try.prog 99 = some c ∧ c.length = 518 := by
  have h := len99
  cases hI : zeroOf Try.prog 99 with
  | none => simp [hI] at h
  | some I => simp [hI] at h; exact ⟨I, rfl, h⟩
theorem some109 : (zeroOf Try.prog 109).isSome = true := by kernel_rfl
theorem zero109 : ∃ c, zeroOf Try.prog 109 = some c := Option.isSome_iff_exists.1 some109
end Go.Proofs.Ytjkpfliaflmppaa.Pc

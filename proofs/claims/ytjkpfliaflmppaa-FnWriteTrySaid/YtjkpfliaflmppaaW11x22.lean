/- Parts as data: what is written. Their cells, slices of them; laws.zzFits and laws.light, walked. spec.CodeOf and laws.light, walked. Drawn regions: operations in any order up to place n, a forced chain from there on. No condition. -/
import Derived.Test.YtjkpfliaflmppaaW11x17
import Derived.Test.YtjkpfliaflmppaaW11x18
import Derived.Test.YtjkpfliaflmppaaW11x11

namespace Go.Proofs.Ytjkpfliaflmppaa.Pc
open Go Go.RowKit Go.Proofs.Ytjkpfliaflmppaa.Vm

/-- A part: its kind, its number, how many bits, its bytes (and the slice that bears them). -/
structure Pt where
  kind : Int
  v : Nat
  n : Nat
  s : List Nat
  sv : Value

def Pt.zero : Pt := ⟨0, 0, 0, [], .slice none 0 0⟩
def Pt.cells (p : Pt) : List Value := [.int .i64 p.kind, .int .u64 p.v, .int .u64 p.n, p.sv]
def putsV (l : List Pt) : List Value := l.flatMap Pt.cells
theorem putsV_nil : putsV [] = [] := rfl
theorem putsV_append (l m : List Pt) : putsV (l ++ m) = putsV l ++ putsV m := by simp [putsV]
theorem putsV_cons (c : Pt) (l : List Pt) : putsV (c :: l) = c.cells ++ putsV l := rfl
theorem putsV_length (l : List Pt) : (putsV l).length = l.length * 4 := by
  induction l with
  | nil => rfl
  | cons c l ih => rw [putsV_cons, List.length_append, ih]; simp [Pt.cells]; omega
theorem putsV_at (l : List Pt) (i : Nat) (h : i < l.length) : ∃ p q, putsV l = p ++ ((l.getD i Pt.zero).cells ++ q) ∧ p.length = i * 4 := by
  refine ⟨putsV (l.take i), putsV (l.drop (i + 1)), ?_, by rw [putsV_length]; simp; omega⟩
  have e : l = l.take i ++ (l.getD i Pt.zero) :: l.drop (i + 1) := by
    have h1 : l.getD i Pt.zero = l[i] := by simp [h]
    rw [h1]; simp
  conv => lhs; rw [e, putsV_append, putsV_cons]
theorem putsV_block (l : List Pt) (i : Nat) (h : i < l.length) {k : Int} {v n : Nat} {s : List Nat} {sv : Value} (he : l.getD i Pt.zero = ⟨k, v, n, s, sv⟩) : ((putsV l).drop (i * 4)).take 4 = [.int .i64 k, .int .u64 v, .int .u64 n, sv] := by
  obtain ⟨p, q, h1, h2⟩ := putsV_at l i h
  rw [h1, ← h2, he]
  simp [Pt.cells]
theorem putsV_get (l : List Pt) (i f : Nat) (h : i < l.length) (hf : f < 4) {k : Int} {v n : Nat} {s : List Nat} {sv : Value} (he : l.getD i Pt.zero = ⟨k, v, n, s, sv⟩) : (putsV l)[i * 4 + f]? = [Value.int .i64 k, .int .u64 v, .int .u64 n, sv][f]? := by
  obtain ⟨p, q, h1, h2⟩ := putsV_at l i h
  rw [h1, ← h2, List.getElem?_append_right (by omega), Nat.add_sub_cancel_left, List.getElem?_append_left (by simpa [Pt.cells] using hf), he]
  rfl
attribute [irreducible] putsV

/-- A part that was handed. -/
structure OkP (p : Pt) (M : Mem) : Prop where
  k1 : -9223372036854775808 ≤ p.kind
  k2 : p.kind ≤ 9223372036854775807
  v : p.v < 18446744073709551616
  n : p.n < 18446744073709551616
  s : Bs p.sv p.s M
/-- A handed slice of parts. -/
def Ps (s : Value) (l : List Pt) (M : Mem) : Prop :=
  (∃ ad cap, s = .slice ad l.length cap ∧ (l = [] ∨ ∃ b o, ad = some ⟨b, o, none⟩ ∧ (⟨false, b, o, putsV l⟩ : Sg) ∈ M)) ∧ ∀ i, i < l.length → OkP (l.getD i Pt.zero) M
theorem Ps.at {s : Value} {l : List Pt} {M : Mem} (h : Ps s l M) {i : Nat} (hi : i < l.length) :
    ∃ b o cap k v n bs ad c, s = .slice (some ⟨b, o, none⟩) l.length cap ∧ (⟨false, b, o, putsV l⟩ : Sg) ∈ M ∧ l.getD i Pt.zero = ⟨k, v, n, bs, .slice ad bs.length c⟩ ∧ OkP ⟨k, v, n, bs, .slice ad bs.length c⟩ M := by
  obtain ⟨⟨ad, cap, rfl, rfl | ⟨b, o, rfl, hm⟩⟩, hok⟩ := h
  · simp at hi
  · have h1 := hok i hi
    obtain ⟨h2, ad, c, h3, h4⟩ := h1.s
    generalize he : l.getD i Pt.zero = p at *
    obtain ⟨k, v, n, bs, sv⟩ := p
    dsimp only at h3
    subst h3
    exact ⟨b, o, cap, k, v, n, bs, ad, c, rfl, hm, rfl, h1⟩
theorem OkP.mono {p : Pt} {M M' : Mem} (h : OkP p M) (hm : ∀ x ∈ M, x ∈ M') : OkP p M' := by
  obtain ⟨h1, h2, h3, h4, h5, ad, cap, h6, h7⟩ := h
  exact ⟨h1, h2, h3, h4, h5, ad, cap, h6, h7.imp id fun ⟨b, o, h8, h9⟩ => ⟨b, o, h8, hm _ h9⟩⟩
theorem Ps.mono {s : Value} {l : List Pt} {M M' : Mem} (h : Ps s l M) (hm : ∀ x ∈ M, x ∈ M') : Ps s l M' := by
  obtain ⟨⟨ad, cap, h1, h2⟩, h3⟩ := h
  exact ⟨⟨ad, cap, h1, h2.imp id fun ⟨b, o, h8, h9⟩ => ⟨b, o, h8, hm _ h9⟩⟩, fun i hi => (h3 i hi).mono hm⟩

theorem lit4_one (k : Int) (v n : Nat) (ad : Option Addr) (l c : Nat) : ∀ x ∈ [Value.int .i64 k, .int .u64 v, .int .u64 n, .slice ad l c], x.oneCell' = true := by
  intro x hx
  simp at hx
  rcases hx with rfl | rfl | rfl | rfl <;> rfl
theorem zero76' : zeroOf Try.prog 76 = some [.int .i64 0, .int .u64 0, .int .u64 0, .slice none 0 0] := by kernel_rfl

theorem fits46_c (k : Int) (v n : Nat) (ad : Option Addr) (l c : Nat) (M : Mem) (hl : l ≤ 9223372036854775807) :
    HC Try.prog 46 #[.agg [.int .i64 k, .int .u64 v, .int .u64 n, .slice ad l c].toArray] M (fun r M' => r = .bool (decide (l ≤ 2147483647)) ∧ Rk M' M) := by
  refine HC_of_W (fn := Try.f46) Try.func46 rfl rfl rfl rfl ?_
  repeat' (first | (refine isO ?_; first | refine oo (Pc rfl) ?_ | refine oo (Pa rfl (by omega) (by omega)) ?_ | (refine ob rfl ?_ ?_ <;> intro hq <;> try (exfalso; omega)) | refine oo (Pi rfl (by omega)) ?_ | refine oo (Pl rfl) ?_ | refine oo (Px rfl rfl) ?_ | refine oo (Pj rfl (by omega) (by omega)) ?_ | refine oo (Pk rfl (by omega) (by omega)) ?_ | refine oo (Pf rfl) ?_ | refine oo (Pv rfl (by omega) (by omega)) ?_ | refine oo (Pn rfl) ?_ | refine oo (Pm rfl) ?_ | refine os rfl rfl ?_ | refine ot rfl (by omega) ?_ | refine O_nil ?_) | refine wo rfl ?_ | refine wc rfl ?_ | refine wg rfl ?_ | refine go rfl ?_ | refine gc rfl ?_ | refine gg rfl ?_)
  refine O_box rfl trivial rfl fun b => ?_
  refine O_weak (M' := ⟨true, b, 0, [.int .i64 k, .int .u64 v, .int .u64 n, .slice ad l c]⟩ :: M) .rfl ?_
  repeat' (first | (refine isO ?_; first | refine oo (Pc rfl) ?_ | refine oo (Pa rfl (by omega) (by omega)) ?_ | (refine ob rfl ?_ ?_ <;> intro hq <;> try (exfalso; omega)) | refine oo (Pi rfl (by omega)) ?_ | refine oo (Pl rfl) ?_ | refine oo (Px rfl rfl) ?_ | refine oo (Pj rfl (by omega) (by omega)) ?_ | refine oo (Pk rfl (by omega) (by omega)) ?_ | refine oo (Pf rfl) ?_ | refine oo (Pv rfl (by omega) (by omega)) ?_ | refine oo (Pn rfl) ?_ | refine oo (Pm rfl) ?_ | refine os rfl rfl ?_ | refine ot rfl (by omega) ?_ | refine O_nil ?_) | refine wo rfl ?_ | refine wc rfl ?_ | refine wg rfl ?_ | refine go rfl ?_ | refine gc rfl ?_ | refine gg rfl ?_)
  · exact G_fin ⟨_, rfl, by rw [decide_eq_false (by omega)], .drop .rfl⟩
  · exact G_fin ⟨_, rfl, by rw [decide_eq_true (by omega)], .drop .rfl⟩

/-- Sizes that are spoken of at all. -/
def FitsP (l : List Pt) : Prop := l.length ≤ 2147483647 ∧ ∀ i, i < l.length → (l.getD i Pt.zero).s.length ≤ 2147483647

open Classical in
theorem fits18_c (s : Value) (l : List Pt) (M : Mem) (hs : Ps s l M) (hmax : ∀ i, i < l.length → (l.getD i Pt.zero).s.length ≤ 9223372036854775807) :
    HC Try.prog 18 #[s] M (fun r M' => r = .bool (decide (FitsP l)) ∧ Rk M' M) := by
  obtain ⟨ad, cp, e⟩ : ∃ a c, s = .slice a l.length c := ⟨_, _, hs.1.choose_spec.choose_spec.1⟩
  subst e
  refine HC_of_W (fn := Try.f18) Try.func18 rfl rfl rfl rfl ?_
  repeat' (first | (refine isO ?_; first | refine oo (Pc rfl) ?_ | refine oo (Pa rfl (by omega) (by omega)) ?_ | (refine ob rfl ?_ ?_ <;> intro hq <;> try (exfalso; omega)) | refine oo (Pi rfl (by omega)) ?_ | refine oo (Pl rfl) ?_ | refine oo (Px rfl rfl) ?_ | refine oo (Pj rfl (by omega) (by omega)) ?_ | refine oo (Pk rfl (by omega) (by omega)) ?_ | refine oo (Pf rfl) ?_ | refine oo (Pv rfl (by omega) (by omega)) ?_ | refine oo (Pn rfl) ?_ | refine oo (Pm rfl) ?_ | refine os rfl rfl ?_ | refine ot rfl (by omega) ?_ | refine O_nil ?_) | refine wo rfl ?_ | refine wc rfl ?_ | refine wg rfl ?_ | refine go rfl ?_ | refine gc rfl ?_ | refine gg rfl ?_)
  · exact G_fin ⟨_, rfl, by rw [decide_eq_false (fun h => by have := h.1; omega)], .rfl⟩
  refine W_loop (α := Nat) (fun i => [(8, .slice ad l.length cp), (9, .int .i64 l.length), (10, .int .i64 i)]) (fun _ => M) (fun i => i ≤ l.length ∧ ∀ j, j < i → (l.getD j Pt.zero).s.length ≤ 2147483647) (fun i => l.length - i)
    0 ⟨by omega, fun j h => absurd h (Nat.not_lt_zero _)⟩ ⟨rfl, rfl, rfl, trivial⟩ .rfl ?_
  rintro i ⟨hi, hall⟩
  try dsimp only
  repeat' (first | (refine isO ?_; first | refine oo (Pc rfl) ?_ | refine oo (Pa rfl (by omega) (by omega)) ?_ | (refine ob rfl ?_ ?_ <;> intro hq <;> try (exfalso; omega)) | refine oo (Pi rfl (by omega)) ?_ | refine oo (Pl rfl) ?_ | refine oo (Px rfl rfl) ?_ | refine oo (Pj rfl (by omega) (by omega)) ?_ | refine oo (Pk rfl (by omega) (by omega)) ?_ | refine oo (Pf rfl) ?_ | refine oo (Pv rfl (by omega) (by omega)) ?_ | refine oo (Pn rfl) ?_ | refine oo (Pm rfl) ?_ | refine os rfl rfl ?_ | refine ot rfl (by omega) ?_ | refine O_nil ?_) | refine wo rfl ?_ | refine wc rfl ?_ | refine wg rfl ?_ | refine go rfl ?_ | refine gc rfl ?_ | refine gg rfl ?_)
  · have hil : i < l.length := by omega
    obtain ⟨b, o, cap, k, v, n, bs, ad', c, e, hm, hget, hok⟩ := hs.at hil
    cases e
    have hblk := putsV_block l i hil hget
    have hmx := hmax i hil
    rw [hget] at hmx
    dsimp only at hmx
    repeat' (first | (refine isO ?_; first | refine oo (Pc rfl) ?_ | refine oo (Pa rfl (by omega) (by omega)) ?_ | (refine ob rfl ?_ ?_ <;> intro hq <;> try (exfalso; omega)) | refine oo (Pi rfl (by omega)) ?_ | refine oo (Pl rfl) ?_ | refine oo (Px rfl rfl) ?_ | refine oo (Pj rfl (by omega) (by omega)) ?_ | refine oo (Pk rfl (by omega) (by omega)) ?_ | refine oo (Pf rfl) ?_ | refine oo (Pv rfl (by omega) (by omega)) ?_ | refine oo (Pn rfl) ?_ | refine oo (Pm rfl) ?_ | refine os rfl rfl ?_ | refine ot rfl (by omega) ?_ | refine O_nil ?_) | refine wo rfl ?_ | refine wc rfl ?_ | refine wg rfl ?_ | refine go rfl ?_ | refine gc rfl ?_ | refine gg rfl ?_)
    refine O_pure (P_loadAggAt (o := o) (i := i * 4) (cs := [.int .i64 k, .int .u64 v, .int .u64 n, .slice ad' bs.length c]) Tb.a76 Tb.c76 (by decide) rfl (by omega) hm (by rw [putsV_length]; omega) hblk) trivial rfl ?_
    refine O_alloc zero76' trivial rfl fun bx => ?_
    refine O_storeAgg0 Tb.c76 (by decide) rfl rfl rfl (lit4_one _ _ _ _ _ _) trivial .head rfl ?_
    repeat' (first | (refine isO ?_; first | refine oo (Pc rfl) ?_ | refine oo (Pa rfl (by omega) (by omega)) ?_ | (refine ob rfl ?_ ?_ <;> intro hq <;> try (exfalso; omega)) | refine oo (Pi rfl (by omega)) ?_ | refine oo (Pl rfl) ?_ | refine oo (Px rfl rfl) ?_ | refine oo (Pj rfl (by omega) (by omega)) ?_ | refine oo (Pk rfl (by omega) (by omega)) ?_ | refine oo (Pf rfl) ?_ | refine oo (Pv rfl (by omega) (by omega)) ?_ | refine oo (Pn rfl) ?_ | refine oo (Pm rfl) ?_ | refine os rfl rfl ?_ | refine ot rfl (by omega) ?_ | refine O_nil ?_) | refine wo rfl ?_ | refine wc rfl ?_ | refine wg rfl ?_ | refine go rfl ?_ | refine gc rfl ?_ | refine gg rfl ?_)
    refine O_pure (P_loadAggAt (o := 0) (i := 0) (cs := [.int .i64 k, .int .u64 v, .int .u64 n, .slice ad' bs.length c]) Tb.a76 Tb.c76 (by decide) rfl rfl (.head _) (Nat.le_refl _) rfl) trivial rfl ?_
    refine O_call rfl rfl Tb.k46 trivial rfl (fits46_c k v n ad' bs.length c _ hmx) ?_
    rintro _ M' ⟨rfl, hrk⟩
    refine O_weak hrk ?_
    clear hrk
    by_cases hb : bs.length ≤ 2147483647
    · rw [decide_eq_true hb]
      repeat' (first | (refine isO ?_; first | refine oo (Pc rfl) ?_ | refine oo (Pa rfl (by omega) (by omega)) ?_ | (refine ob rfl ?_ ?_ <;> intro hq <;> try (exfalso; omega)) | refine oo (Pi rfl (by omega)) ?_ | refine oo (Pl rfl) ?_ | refine oo (Px rfl rfl) ?_ | refine oo (Pj rfl (by omega) (by omega)) ?_ | refine oo (Pk rfl (by omega) (by omega)) ?_ | refine oo (Pf rfl) ?_ | refine oo (Pv rfl (by omega) (by omega)) ?_ | refine oo (Pn rfl) ?_ | refine oo (Pm rfl) ?_ | refine os rfl rfl ?_ | refine ot rfl (by omega) ?_ | refine O_nil ?_) | refine wo rfl ?_ | refine wc rfl ?_ | refine wg rfl ?_ | refine go rfl ?_ | refine gc rfl ?_ | refine gg rfl ?_)
      refine G_stop ⟨i + 1, ⟨by omega, fun j hj => ?_⟩, by omega, ⟨rfl, rfl, rfl, trivial⟩, .drop .rfl⟩
      by_cases hji : j = i
      · subst hji; rw [hget]; exact hb
      · exact hall j (by omega)
    · rw [decide_eq_false hb]
      repeat' (first | (refine isO ?_; first | refine oo (Pc rfl) ?_ | refine oo (Pa rfl (by omega) (by omega)) ?_ | (refine ob rfl ?_ ?_ <;> intro hq <;> try (exfalso; omega)) | refine oo (Pi rfl (by omega)) ?_ | refine oo (Pl rfl) ?_ | refine oo (Px rfl rfl) ?_ | refine oo (Pj rfl (by omega) (by omega)) ?_ | refine oo (Pk rfl (by omega) (by omega)) ?_ | refine oo (Pf rfl) ?_ | refine oo (Pv rfl (by omega) (by omega)) ?_ | refine oo (Pn rfl) ?_ | refine oo (Pm rfl) ?_ | refine os rfl rfl ?_ | refine ot rfl (by omega) ?_ | refine O_nil ?_) | refine wo rfl ?_ | refine wc rfl ?_ | refine wg rfl ?_ | refine go rfl ?_ | refine gc rfl ?_ | refine gg rfl ?_)
      refine G_fin ⟨_, rfl, ?_, .drop .rfl⟩
      rw [decide_eq_false]
      intro h
      have := h.2 i hil
      rw [hget] at this
      exact hb this
  · obtain rfl : i = l.length := by omega
    exact G_fin ⟨_, rfl, by rw [decide_eq_true ⟨by omega, hall⟩], .rfl⟩
end Go.Proofs.Ytjkpfliaflmppaa.Pc

namespace Go.Proofs.Ytjkpfliaflmppaa.Pc
open Go Go.RowKit Go.Proofs.Ytjkpfliaflmppaa.Vm

theorem build42z (w : World) : (Instr.build 42 [].toArray).run Try.prog w = .ok (.agg [.int .u32 0, .int .u32 0, .int .u32 0, .int .u32 0].toArray) w := by kernel_rfl

/-- What CodeOf says. -/
def codeAt (cs : List Cd) (v : Nat) : List Value := if v < cs.length then [.int .u32 v, .int .u32 (cs.getD v Cd.zero).cnt, .int .u32 (cs.getD v Cd.zero).len, .int .u32 (cs.getD v Cd.zero).val] else [.int .u32 0, .int .u32 0, .int .u32 0, .int .u32 0]

theorem codeOf26_c (cs : List Cd) (hN : Numbered cs) (v b cap : Nat) (own : Bool) (sp : List Value) (M : Mem) (hm : (⟨own, b, 0, codesV cs ++ sp⟩ : Sg) ∈ M) :
    HC Try.prog 26 #[.slice (some ⟨b, 0, none⟩) cs.length cap, .int .u64 v] M (fun r M' => r = .tuple #[.agg (codeAt cs v).toArray, .bool (decide (v < cs.length))] ∧ Rk M' M) := by
  have h60 := hN.most
  refine HC_of_WR (fn := Try.f26) Try.func26 rfl rfl rfl rfl ?_
  repeat' (first | (refine isO ?_; first | refine oo (Pc rfl) ?_ | refine oo (Pa rfl (by omega) (by omega)) ?_ | (refine ob rfl ?_ ?_ <;> intro hq <;> try (exfalso; omega)) | refine oo (Pi rfl (by omega)) ?_ | refine oo (Pl rfl) ?_ | refine oo (Px rfl rfl) ?_ | refine oo (Pj rfl (by omega) (by omega)) ?_ | refine oo (Pk rfl (by omega) (by omega)) ?_ | refine oo (Pf rfl) ?_ | refine oo (Pv rfl (by omega) (by omega)) ?_ | refine oo (Pn rfl) ?_ | refine oo (Pm rfl) ?_ | refine os rfl rfl ?_ | refine ot rfl (by omega) ?_ | refine O_nil ?_) | refine wo rfl ?_ | refine wc rfl ?_ | refine wg rfl ?_ | refine go rfl ?_ | refine gc rfl ?_ | refine gg rfl ?_)
  refine O_alloc zero42 trivial rfl fun b4 => ?_
  repeat' (first | (refine isO ?_; first | refine oo (Pc rfl) ?_ | refine oo (Pa rfl (by omega) (by omega)) ?_ | (refine ob rfl ?_ ?_ <;> intro hq <;> try (exfalso; omega)) | refine oo (Pi rfl (by omega)) ?_ | refine oo (Pl rfl) ?_ | refine oo (Px rfl rfl) ?_ | refine oo (Pj rfl (by omega) (by omega)) ?_ | refine oo (Pk rfl (by omega) (by omega)) ?_ | refine oo (Pf rfl) ?_ | refine oo (Pv rfl (by omega) (by omega)) ?_ | refine oo (Pn rfl) ?_ | refine oo (Pm rfl) ?_ | refine os rfl rfl ?_ | refine ot rfl (by omega) ?_ | refine O_nil ?_) | refine wo rfl ?_ | refine wc rfl ?_ | refine wg rfl ?_ | refine go rfl ?_ | refine gc rfl ?_ | refine gg rfl ?_)
  refine W_loop (α := Nat) (fun i => [(0, .slice (some ⟨b, 0, none⟩) cs.length cap), (1, .int .u64 v), (4, .pointer (some ⟨b4, 0, none⟩)), (6, .int .i64 i)]) (fun _ => ⟨true, b4, 0, [.int .u32 0, .int .u32 0, .int .u32 0, .int .u32 0]⟩ :: M) (fun i => i ≤ cs.length ∧ i ≤ v) (fun i => cs.length - i)
    0 ⟨by omega, by omega⟩ ⟨rfl, rfl, rfl, rfl, trivial⟩ .rfl ?_
  rintro i ⟨hi, hiv⟩
  try dsimp only
  repeat' (first | (refine isO ?_; first | refine oo (Pc rfl) ?_ | refine oo (Pa rfl (by omega) (by omega)) ?_ | (refine ob rfl ?_ ?_ <;> intro hq <;> try (exfalso; omega)) | refine oo (Pi rfl (by omega)) ?_ | refine oo (Pl rfl) ?_ | refine oo (Px rfl rfl) ?_ | refine oo (Pj rfl (by omega) (by omega)) ?_ | refine oo (Pk rfl (by omega) (by omega)) ?_ | refine oo (Pf rfl) ?_ | refine oo (Pv rfl (by omega) (by omega)) ?_ | refine oo (Pn rfl) ?_ | refine oo (Pm rfl) ?_ | refine os rfl rfl ?_ | refine ot rfl (by omega) ?_ | refine O_nil ?_) | refine wo rfl ?_ | refine wc rfl ?_ | refine wg rfl ?_ | refine go rfl ?_ | refine gc rfl ?_ | refine gg rfl ?_)
  · have hil : i < cs.length := by omega
    have hsym := hN.sym i hil
    have hcell := cd_eta hsym
    have hblk := codesV_lit' cs sp i hil hcell
    have hg0 := codesV_get cs sp i 0 hil (by omega)
    rw [hcell] at hg0
    refine O_pure (P_loadAt (o := 0) (n := i * 4 + 0) (v := .int .u32 (i : Int)) Tb.p40 rfl (by omega) (.tail _ hm) hg0) trivial rfl ?_
    repeat' (first | (refine isO ?_; first | refine oo (Pc rfl) ?_ | refine oo (Pa rfl (by omega) (by omega)) ?_ | (refine ob rfl ?_ ?_ <;> intro hq <;> try (exfalso; omega)) | refine oo (Pi rfl (by omega)) ?_ | refine oo (Pl rfl) ?_ | refine oo (Px rfl rfl) ?_ | refine oo (Pj rfl (by omega) (by omega)) ?_ | refine oo (Pk rfl (by omega) (by omega)) ?_ | refine oo (Pf rfl) ?_ | refine oo (Pv rfl (by omega) (by omega)) ?_ | refine oo (Pn rfl) ?_ | refine oo (Pm rfl) ?_ | refine os rfl rfl ?_ | refine ot rfl (by omega) ?_ | refine O_nil ?_) | refine wo rfl ?_ | refine wc rfl ?_ | refine wg rfl ?_ | refine go rfl ?_ | refine gc rfl ?_ | refine gg rfl ?_)
    · obtain rfl : i = v := by omega
      refine O_pure (P_loadAggAt (o := 0) (i := i * 4) (cs := codeAt cs i) Tb.a42 Tb.c42 (by decide) rfl (by omega) (.tail _ hm) (by rw [List.length_append, codesV_length]; omega) (by rw [hblk]; unfold codeAt; rw [if_pos hil])) trivial rfl ?_
      have hlen4 : (codeAt cs i).length = 4 := by unfold codeAt; rw [if_pos hil]; rfl
      have hone : ∀ x ∈ codeAt cs i, x.oneCell' = true := by unfold codeAt; rw [if_pos hil]; exact lit_one _ _ _ _
      refine O_storeAgg0 (cs := codeAt cs i) Tb.c42 (by decide) rfl rfl hlen4 hone trivial .head rfl ?_
      repeat' (first | (refine isO ?_; first | refine oo (Pc rfl) ?_ | refine oo (Pa rfl (by omega) (by omega)) ?_ | (refine ob rfl ?_ ?_ <;> intro hq <;> try (exfalso; omega)) | refine oo (Pi rfl (by omega)) ?_ | refine oo (Pl rfl) ?_ | refine oo (Px rfl rfl) ?_ | refine oo (Pj rfl (by omega) (by omega)) ?_ | refine oo (Pk rfl (by omega) (by omega)) ?_ | refine oo (Pf rfl) ?_ | refine oo (Pv rfl (by omega) (by omega)) ?_ | refine oo (Pn rfl) ?_ | refine oo (Pm rfl) ?_ | refine os rfl rfl ?_ | refine ot rfl (by omega) ?_ | refine O_nil ?_) | refine wo rfl ?_ | refine wc rfl ?_ | refine wg rfl ?_ | refine go rfl ?_ | refine gc rfl ?_ | refine gg rfl ?_)
      refine G_fin ⟨[.agg (codeAt cs i).toArray, .bool true], ⟨ResV.agg rfl (.head _) Tb.a42 Tb.c42 (by decide) hlen4, ResV.tmp rfl, trivial⟩, ?_, .drop .rfl⟩
      rw [decide_eq_true hil]; rfl
    · exact G_stop ⟨i + 1, ⟨by omega, by omega⟩, by omega, ⟨rfl, rfl, rfl, rfl, trivial⟩, .rfl⟩
  · have hnv : ¬ v < cs.length := by omega
    refine O_pure (P_build rfl build42z) trivial rfl ?_
    refine O_storeAgg0 (cs := codeAt cs v) Tb.c42 (by decide) rfl (by unfold codeAt; rw [if_neg hnv]; rfl) (by unfold codeAt; rw [if_neg hnv]; rfl) (by unfold codeAt; rw [if_neg hnv]; exact lit_one 0 0 0 0) trivial .head rfl ?_
    repeat' (first | (refine isO ?_; first | refine oo (Pc rfl) ?_ | refine oo (Pa rfl (by omega) (by omega)) ?_ | (refine ob rfl ?_ ?_ <;> intro hq <;> try (exfalso; omega)) | refine oo (Pi rfl (by omega)) ?_ | refine oo (Pl rfl) ?_ | refine oo (Px rfl rfl) ?_ | refine oo (Pj rfl (by omega) (by omega)) ?_ | refine oo (Pk rfl (by omega) (by omega)) ?_ | refine oo (Pf rfl) ?_ | refine oo (Pv rfl (by omega) (by omega)) ?_ | refine oo (Pn rfl) ?_ | refine oo (Pm rfl) ?_ | refine os rfl rfl ?_ | refine ot rfl (by omega) ?_ | refine O_nil ?_) | refine wo rfl ?_ | refine wc rfl ?_ | refine wg rfl ?_ | refine go rfl ?_ | refine gc rfl ?_ | refine gg rfl ?_)
    refine G_fin ⟨[.agg (codeAt cs v).toArray, .bool false], ⟨ResV.agg rfl (.head _) Tb.a42 Tb.c42 (by decide) (by unfold codeAt; rw [if_neg hnv]; rfl), ResV.tmp rfl, trivial⟩, ?_, .drop .rfl⟩
    rw [decide_eq_false hnv]; rfl

/-- A part that is spoken of. -/
def OkW (p : Pt) : Prop := 0 ≤ p.kind ∧ p.kind ≤ 4 ∧ (p.kind = 0 → p.n ≤ 32) ∧ p.s.length ≤ 40 ∧ (p.kind = 4 → p.n ≤ 40)
def LightP (l : List Pt) : Prop := l.length ≤ 60 ∧ ∀ i, i < l.length → OkW (l.getD i Pt.zero)

set_option maxHeartbeats 2000000 in
open Classical in
theorem light20_c (s : Value) (l : List Pt) (M : Mem) (hs : Ps s l M) (hfit : FitsP l) : HC Try.prog 20 #[s] M (fun r M' => r = .bool (decide (LightP l)) ∧ Rk M' M) := by
  obtain ⟨ad, cp, e⟩ : ∃ a c, s = .slice a l.length c := ⟨_, _, hs.1.choose_spec.choose_spec.1⟩
  subst e
  refine HC_of_W (fn := Try.f20) Try.func20 rfl rfl rfl rfl ?_
  repeat' (first | (refine isO ?_; first | refine oo (Pc rfl) ?_ | refine oo (Pa rfl (by omega) (by omega)) ?_ | (refine ob rfl ?_ ?_ <;> intro hq <;> try (exfalso; omega)) | refine oo (Pi rfl (by omega)) ?_ | refine oo (Pl rfl) ?_ | refine oo (Px rfl rfl) ?_ | refine oo (Pj rfl (by omega) (by omega)) ?_ | refine oo (Pk rfl (by omega) (by omega)) ?_ | refine oo (Pf rfl) ?_ | refine oo (Pv rfl (by omega) (by omega)) ?_ | refine oo (Pn rfl) ?_ | refine oo (Pm rfl) ?_ | refine os rfl rfl ?_ | refine ot rfl (by omega) ?_ | refine O_nil ?_) | refine wo rfl ?_ | refine wc rfl ?_ | refine wg rfl ?_ | refine go rfl ?_ | refine gc rfl ?_ | refine gg rfl ?_)
  · exact G_fin ⟨_, rfl, by rw [decide_eq_false (fun h => by have := h.1; omega)], .rfl⟩
  refine W_loop (α := Nat) (fun i => [(0, .slice ad l.length cp), (3, .int .i64 i)]) (fun _ => M) (fun i => i ≤ l.length ∧ ∀ j, j < i → OkW (l.getD j Pt.zero)) (fun i => l.length - i) 0 ⟨by omega, fun j h => absurd h (Nat.not_lt_zero _)⟩ ⟨rfl, rfl, trivial⟩ .rfl ?_
  rintro i ⟨hi, hall⟩
  try dsimp only
  repeat' (first | (refine isO ?_; first | refine oo (Pc rfl) ?_ | refine oo (Pa rfl (by omega) (by omega)) ?_ | (refine ob rfl ?_ ?_ <;> intro hq <;> try (exfalso; omega)) | refine oo (Pi rfl (by omega)) ?_ | refine oo (Pl rfl) ?_ | refine oo (Px rfl rfl) ?_ | refine oo (Pj rfl (by omega) (by omega)) ?_ | refine oo (Pk rfl (by omega) (by omega)) ?_ | refine oo (Pf rfl) ?_ | refine oo (Pv rfl (by omega) (by omega)) ?_ | refine oo (Pn rfl) ?_ | refine oo (Pm rfl) ?_ | refine os rfl rfl ?_ | refine ot rfl (by omega) ?_ | refine O_nil ?_) | refine wo rfl ?_ | refine wc rfl ?_ | refine wg rfl ?_ | refine go rfl ?_ | refine gc rfl ?_ | refine gg rfl ?_)
  · have hil : i < l.length := by omega
    obtain ⟨b, o, cap, k, v, n, bs, ad', c, e, hm, hget, hok⟩ := hs.at hil
    cases e
    have hg0 := putsV_get l i 0 hil (by omega) hget
    have hg2 := putsV_get l i 2 hil (by omega) hget
    have hg3 := putsV_get l i 3 hil (by omega) hget
    have hfi := hfit.2 i hil
    have hnext : OkW (l.getD i Pt.zero) → ∀ j, j < i + 1 → OkW (l.getD j Pt.zero) := by
      intro h j hj
      by_cases hji : j = i
      · subst hji; exact h
      · exact hall j (by omega)
    have hbad : ¬ OkW (l.getD i Pt.zero) → ¬ LightP l := fun h h2 => h (h2.2 i hil)
    have hk := hok.k1
    have hk2 := hok.k2
    have hn := hok.n
    rw [hget] at hfi hnext hbad
    unfold OkW at hnext hbad
    dsimp only at hfi hnext hbad hk hk2 hn
    repeat' (first | (refine isO ?_; first | refine oo (Pc rfl) ?_ | refine oo (Pa rfl (by omega) (by omega)) ?_ | (refine ob rfl ?_ ?_ <;> intro hq <;> try (exfalso; omega)) | refine oo (Pi rfl (by omega)) ?_ | refine oo (Pl rfl) ?_ | refine oo (Px rfl rfl) ?_ | refine oo (Pj rfl (by omega) (by omega)) ?_ | refine oo (Pk rfl (by omega) (by omega)) ?_ | refine oo (Pf rfl) ?_ | refine oo (Pv rfl (by omega) (by omega)) ?_ | refine oo (Pn rfl) ?_ | refine oo (Pm rfl) ?_ | refine O_nil ?_ | refine O_pure (P_loadAt (o := o) (n := i * 4 + 0) Tb.p3 rfl (by omega) hm hg0) (by first | exact trivial | exact ⟨_, rfl, rfl⟩) rfl ?_ | refine O_pure (P_loadAt (o := o) (n := i * 4 + 2) Tb.p49 rfl (by omega) hm hg2) (by first | exact trivial | exact ⟨_, rfl, rfl⟩) rfl ?_ | refine O_pure (P_loadAt (o := o) (n := i * 4 + 3) Tb.p22 rfl (by omega) hm hg3) (by first | exact trivial | exact ⟨_, rfl, rfl⟩) rfl ?_) | refine wo rfl ?_ | refine wc rfl ?_ | refine wg rfl ?_ | refine go rfl ?_ | refine gc rfl ?_ | refine gg rfl ?_)
    all_goals first
      | exact G_stop ⟨i + 1, ⟨by omega, hnext (by omega)⟩, by omega, ⟨rfl, rfl, trivial⟩, .rfl⟩
      | exact G_fin ⟨_, rfl, by rw [decide_eq_false (hbad (by omega))], .rfl⟩
  · obtain rfl : i = l.length := by omega
    exact G_fin ⟨_, rfl, by rw [decide_eq_true ⟨by omega, hall⟩], .rfl⟩
end Go.Proofs.Ytjkpfliaflmppaa.Pc

namespace Go.Proofs.Ytjkpfliaflmppaa.Vm
open Go Go.RowKit

/-- From n on each operation waits for the one ahead of it. -/
def chainB (ws : List (List Nat)) (n len : Nat) : Bool := (List.range len).all fun j => !Nat.blt n j || (ws.getD j []).any fun x => Nat.beq x (j - 1)
def canonL (n : Nat) : Nat → List Bool
  | 0 => []
  | m + 1 => canonL n m ++ [Nat.blt m n]
def canonA (n len : Nat) : Array Bool := (canonL n len).toArray
theorem canonL_length (n : Nat) : ∀ m, (canonL n m).length = m
  | 0 => rfl
  | m + 1 => by simp [canonL, canonL_length n m]
theorem canonL_get (n : Nat) : ∀ m i, i < m → (canonL n m)[i]? = some (Nat.blt i n)
  | m + 1, i, h => by
    simp only [canonL]
    by_cases hi : i < m
    · rw [List.getElem?_append_left (by rw [canonL_length]; exact hi)]; exact canonL_get n m i hi
    · obtain rfl : i = m := by omega
      rw [List.getElem?_append_right (by rw [canonL_length]; omega), canonL_length]; simp
theorem left_canon {listed : Array Bool} {n : Nat} (h1 : ∀ i, i < n → listed.getD i true = true) : ∀ m, (∀ j, n ≤ j → j < m → listed.getD j true = false) → left listed m = m - n
  | 0, _ => by simp [left]
  | m + 1, h2 => by
    simp only [left]
    rw [left_canon h1 m (fun j hj hm => h2 j hj (by omega))]
    by_cases hm : m < n
    · rw [if_pos (h1 m hm)]; omega
    · have := h2 m (by omega) (by omega)
      rw [this]; simp; omega

section
variable {P : Program} {N : Fm} {Fin : Post} {k : List Kn} {l : List Oper}

theorem OA_pre (n : Nat) (hn : n < l.length) (ws : List (List Nat)) (hw : ((List.range l.length).all fun i => (ws.getD i []).all fun j => Region.waitsFor .any l.toArray i j) = true)
    (hac : earlierB l.toArray = true) (hcov : covB ws n = true) (hchain : chainB ws n l.length = true) (hseq : Region.seqB .any l.toArray (l.drop n).length n (canonA n l.length) = true)
    (I : (Nat → Bool) → Env → Mem → Prop)
    (hstep : ∀ i, i < n → ∀ (done : Nat → Bool) E M, I done E M → done i = false → (∀ j ∈ ws.getD i [], done j = true) →
      WO false P N (fun e E2 M2 => e = .normal ∧ I (fun j => if j = i then true else done j) E2 M2) l ((l.drop i).take 1) [] E M)
    (hend : ∀ (done : Nat → Bool) E M, I done E M → (∀ i, i < n → done i = true) → ∃ E2 M2, Le E E2 ∧ Rk M M2 ∧ WO false P N Fin l (l.drop n) k E2 M2) :
    ∀ f listed E M, listed.size = l.length → left listed l.length = f → (∀ j, n ≤ j → listed.getD j false = false) → (∀ i, listed.getD i false = true → ∀ j ∈ ws.getD i [], listed.getD j false = true) →
      I (fun j => listed.getD j false) E M → OA P N Fin k l f listed E M := by
  have both : ∀ {listed : Array Bool} {i : Nat}, listed.size = l.length → i < l.length → listed.getD i true = listed.getD i false := by
    intro listed i hs hi; simp [show i < listed.size by omega]
  have hfin : ∀ f listed E M, listed.size = l.length → left listed l.length = f → (∀ j, n ≤ j → listed.getD j false = false) → (∀ i, i < n → listed.getD i false = true) → I (fun j => listed.getD j false) E M → OA P N Fin k l f listed E M := by
    intro f listed E M hsz hf hno hall hI
    obtain ⟨E2, M2, q1, q2, q3⟩ := hend _ E M hI hall
    have hl : listed = canonA n l.length := by
      apply Array.ext
      · simp [canonA, canonL_length, hsz]
      · intro i h1 h2
        have e1 : listed[i] = listed.getD i false := by simp [h1]
        have e2 : (canonA n l.length)[i] = Nat.blt i n := by
          have := canonL_get n l.length i (by omega)
          simp only [canonA, List.getElem_toArray]
          exact (List.getElem?_eq_some_iff.1 this).2
        rw [e1, e2]
        by_cases hi : i < n
        · rw [hall i hi]; simpa [Nat.blt_eq] using hi
        · rw [hno i (by omega)]
          cases hb : Nat.blt i n with
          | false => rfl
          | true => exact absurd (by simpa [Nat.blt_eq] using hb) hi
    have hlf : (l.drop n).length = f := by
      rw [List.length_drop, ← hf]
      exact (left_canon (fun i hi => by rw [both hsz (by omega)]; exact hall i hi) l.length (fun j hj hm => by rw [both hsz hm]; exact hno j hj)).symm
    subst hl
    refine OA_seq n hseq hlf ?_
    exact ⟨⟨fun base w0 a w hA hS => q3.out.out base w0 a w (q1.ag hA) (hS.rk q2)⟩⟩
  intro f
  induction f with
  | zero =>
    intro listed E M hsz hf hno hcl hI
    refine hfin 0 listed E M hsz hf hno (fun i hi => ?_) hI
    cases hl : listed.getD i true with
    | true => rw [both hsz (by omega)] at hl; exact hl
    | false =>
      have := left_set hl (by omega) l.length (by omega)
      omega
  | succ f ih =>
    intro listed E M hsz hf hno hcl hI
    by_cases hall : ∀ i, i < n → listed.getD i false = true
    · exact hfin _ listed E M hsz hf hno hall hI
    refine ⟨fun base w0 a w hA hS => ⟨fun hr => ?_, fun i hi => ?_⟩⟩
    · exfalso
      exact hall fun i hi => by rw [← both hsz (by omega)]; exact none_left hac (by simpa using hsz) hr i (by simp; omega)
    · obtain ⟨h1, o, ho, hdep⟩ := mem_ready.1 hi
      have hil : i < l.length := by have := (Array.getElem?_eq_some_iff.1 ho).1; simpa using this
      have his : i < listed.size := by omega
      have hdo : listed.getD i false = false := getD_both h1
      have hws : ∀ j ∈ ws.getD i [], listed.getD j false = true := by
        intro j hj
        have h2 := List.all_eq_true.1 (List.all_eq_true.1 hw i (List.mem_range.2 hil)) j hj
        obtain ⟨o', ho', e, he, hb, hon⟩ := Region.waitsFor_spec h2
        obtain rfl : o' = o := Option.some.inj (ho'.symm.trans ho)
        rw [← hon]
        exact hdep e he hb
      have hin : i < n := by
        rcases Nat.lt_trichotomy i n with h | h | h
        · exact h
        · exfalso
          subst h
          exact hall fun j hj => cov_all hcov hcl hws i j (by omega) hj
        · exfalso
          have h3 := List.all_eq_true.1 hchain i (List.mem_range.2 hil)
          have h4 : Nat.blt n i = true := by simpa [Nat.blt_eq] using h
          rw [h4] at h3
          simp only [Bool.not_true, Bool.false_or] at h3
          obtain ⟨x, hx, h5⟩ := List.any_eq_true.1 h3
          have := Nat.eq_of_beq_eq_true h5
          subst this
          have h6 := hws _ hx
          rw [hno (i - 1) (by omega)] at h6
          cases h6
      have h := hstep i hin _ E M hI hdo hws
      have h1' := h.out.out base w0 a w hA hS
      have hone : (l.drop i).take 1 = [l[i]] := by rw [List.drop_eq_getElem_cons hil]; rfl
      rw [hone] at h1'
      unfold wpOp
      rw [show l.toArray[i]? = some l[i] by simp [hil]]
      have key : ∀ a2 w2, wpList P l.toArray (Lift false base N w0 (post false P N (fun e E2 M2 => e = .normal ∧ I (fun j => if j = i then true else listed.getD j false) E2 M2) [])) [] a2 w2 →
          wpAny P .any l.toArray (Lift false base N w0 (post false P N Fin k)) f (listed.setIfInBounds i true) a2 w2 := by
        intro a2 w2 h2
        obtain ⟨E2, M2, hA2, hS2, _, hI2⟩ := h2
        have e2 : (fun j => (listed.setIfInBounds i true).getD j false) = fun j => if j = i then true else listed.getD j false := by
          funext j
          by_cases hij : i = j
          · subst hij; simp [his]
          · rw [getD_set_ne false hij, if_neg (Ne.symm hij)]
        have e3 : ∀ j, (listed.setIfInBounds i true).getD j false = if j = i then true else listed.getD j false := fun j => congrFun e2 j
        refine (ih (listed.setIfInBounds i true) E2 M2 (by simpa using hsz) (by have := left_set h1 his l.length hil; omega) (fun j hj => ?_) (fun i' hi' j hj => ?_) ?_).out base w0 a2 w2 hA2 hS2
        · rw [e3, if_neg (by omega)]; exact hno j hj
        · rw [e3] at hi' ⊢
          by_cases hji : j = i
          · rw [if_pos hji]
          · rw [if_neg hji]
            by_cases hii : i' = i
            · subst hii; exact hws j hj
            · rw [if_neg hii] at hi'; exact hcl i' hi' j hj
        · rw [e2]; exact hI2
      unfold wpList at h1'
      have hnn : ∀ e a w, e ≠ .normal → ¬ Lift false base N w0 (post false P N (fun e E2 M2 => e = .normal ∧ I (fun j => if j = i then true else listed.getD j false) E2 M2) []) e a w := by
        rintro e a w hne ⟨E2, M2, _, _, h3, _⟩
        exact hne h3
      dsimp only
      split
      · rename_i hw'
        rw [if_pos hw'] at h1'
        rcases h1' with h1' | ⟨_, a2, w2, h2⟩
        · exact .inl (wp_other key hnn h1')
        · exact absurd h2 (hnn _ _ _ (by simp))
      · rename_i hw'
        rw [if_neg hw'] at h1'
        exact key _ _ h1'

/-- Operations that only read, one call among them (at c), and a forced chain from n on. -/
theorem W_region_callt {E : Env} {M : Mem} {id : Nat} (n c d : Nat) (R : Value → Mem → Prop) (hn : n < l.length) (hcn : c < n) (hm : P.follows .mixedOrders = true) (ws : List (List Nat)) (hw : ((List.range l.length).all fun i => (ws.getD i []).all fun j => Region.waitsFor .any l.toArray i j) = true)
    (hac : earlierB l.toArray = true) (hcov : covB ws n = true) (hchain : chainB ws n l.length = true) (hseq : Region.seqB .any l.toArray (l.drop n).length n (canonA n l.length) = true) (hRM : ∀ v M', R v M' → Rk M' M)
    (h : QC P N l E M c d R (fun done => chkU E (some (d, undef) :: done) = true ∧ ∀ v M', R v M' → WO false P N Fin l (l.drop n) k ((d, v) :: (somes done ++ E)) M') 0 [] ws (l.take n)) : W false P N Fin (.region id l.toArray true) k E M := by
  obtain ⟨full, hlen, ⟨hchk, hG⟩, hq⟩ := QC_all h.out
  simp only [List.nil_append] at hchk hG hq
  have hlen' : full.length = n := by rw [hlen, List.length_take]; omega
  obtain ⟨hf1, hf2⟩ := chkU_spec hchk
  have hE1 : ∀ p, some p ∈ full → E.get? p.1 = none := fun p hp => hf1 p (.tail _ hp)
  have hEd : E.get? d = none := hf1 (d, undef) (.head _)
  have hdis : ∀ (i j : Nat) (p q : Nat × Value), full[i]? = some (some p) → full[j]? = some (some q) → i ≠ j → p.1 ≠ q.1 := fun i j p q hi hj hij => hf2 (i + 1) (j + 1) p q (by simpa using hi) (by simpa using hj) (by omega)
  have hdd : ∀ (i : Nat) (p : Nat × Value), full[i]? = some (some p) → p.1 ≠ d := fun i p hi => hf2 (i + 1) 0 p (d, undef) (by simpa using hi) (by simp) (by omega)
  have hrep : ∀ i, (Array.replicate l.toArray.size false).getD i false = false := fun i => getD_replicate_false _ _
  refine W_region_any hm (OA_pre n hn ws hw hac hcov hchain hseq (fun done E' M' => Le E' E ∧ (∀ (i : Nat) (p : Nat × Value), full[i]? = some (some p) → done i = true → E'.get? p.1 = some p.2) ∧
      (done c = false → Rk M' M) ∧ (done c = true → ∃ v M2, E'.get? d = some v ∧ R v M2 ∧ Rk M' M2)) ?_ ?_ l.toArray.size (Array.replicate l.toArray.size false) E M (by simp) ?_ (fun j _ => hrep j) (fun i hi => (by rw [hrep] at hi; cases hi))
      ⟨fun _ _ h => h, fun i p _ h => (by dsimp only at h; rw [hrep] at h; cases h), fun _ => .rfl, fun h => (by dsimp only at h; rw [hrep] at h; cases h)⟩)
  · intro i hi done E' M' ⟨hs, hd, hm1, hm2⟩ hno hdone
    have hil : i < l.length := by omega
    have hone : (l.drop i).take 1 = [l[i]] := by rw [List.drop_eq_getElem_cons hil]; rfl
    rw [hone]
    have hif : i < full.length := by omega
    have hit : i < (l.take n).length := by rw [List.length_take]; omega
    obtain ⟨hqc, hqp⟩ := hq i hit hif
    rw [Nat.zero_add] at hqc hqp
    have hli : (l.take n)[i] = l[i] := List.getElem_take
    have hfi : full[i]? = some full[i] := List.getElem?_eq_getElem hif
    have hpk : ∀ p ∈ pick (full.take i) (ws.getD i []), E'.get? p.1 = some p.2 := by
      intro p hp
      obtain ⟨j, hj, hjp⟩ := mem_pick hp
      refine hd j p ?_ (hdone j hj)
      rw [List.getElem?_take] at hjp
      split at hjp
      · exact hjp
      · cases hjp
    by_cases hic : i = c
    · obtain ⟨hnone, hcall⟩ := hqc hic
      rw [hli] at hcall
      subst hic
      refine ⟨⟨fun base w0 a w hA hS => hcall.out base w0 a w (Le.ag (Le.app hpk hs) hA) (hS.rk (hm1 hno)) _ fun v M2 w' hR hS' => ?_⟩⟩
      refine ⟨(d, v) :: E', M2, hA.put hcall.hd _, hS', rfl, hs.cons hEd, ?_, fun h => (by simp at h), fun _ => ⟨v, M2, get_eq, hR, .rfl⟩⟩
      intro j p hj hdj
      by_cases hji : j = i
      · subst hji; rw [hfi, hnone] at hj; cases hj
      · have hdj' : done j = true := by simpa [hji] using hdj
        rw [get_ne (fun e => hdd j p hj e.symm)]
        exact hd j p hj hdj'
    · obtain ⟨e, v, hev, hps⟩ := hqp hic
      rw [hli] at hps
      have hci : ¬ c = i := fun e => hic e.symm
      rw [hev] at hfi
      have hMM : Rk M' M := by
        cases hdc : done c with
        | false => exact hm1 hdc
        | true => obtain ⟨v2, M2, _, hR, hrk⟩ := hm2 hdc; exact .trans hrk (hRM v2 M2 hR)
      refine ⟨⟨fun base w0 a w hA hS => hps.run (Le.ag (Le.app hpk hs) hA) (hS.rk hMM) ?_⟩⟩
      refine ⟨(e, v) :: E', M', hA.put hps.lt _, hS, rfl, hs.cons (hE1 (e, v) (List.mem_of_getElem? hfi)), ?_, fun h => hm1 (by simpa [hci] using h), fun h => ?_⟩
      · intro j p hj hdj
        by_cases hji : j = i
        · subst hji; rw [hfi] at hj; cases hj; exact get_eq
        · have hdj' : done j = true := by simpa [hji] using hdj
          rw [get_ne (fun e' => hdis j i p (e, v) hj hfi hji e'.symm)]
          exact hd j p hj hdj'
      · obtain ⟨v2, M2, k1, k2, k3⟩ := hm2 (by simpa [hci] using h)
        exact ⟨v2, M2, by rw [get_ne (hdd i (e, v) hfi)]; exact k1, k2, k3⟩
  · intro done E' M' ⟨hs, hd, _, hc2⟩ hall
    obtain ⟨v, M2, hv, hR, hrk⟩ := hc2 (hall c hcn)
    refine ⟨(d, v) :: (somes full ++ E), M2, ?_, hrk, hG v M2 hR⟩
    have h0 : Le E' (somes full ++ E) := Le.app (fun p hp => by
      obtain ⟨j, hj, hjp⟩ := List.mem_iff_getElem.1 (mem_somes hp)
      exact hd j p (by rw [List.getElem?_eq_getElem hj, hjp]) (hall j (by omega))) hs
    exact Le.app (A := [(d, v)]) (fun p hp => by rw [List.mem_singleton] at hp; subst hp; exact hv) h0
  · have e : ∀ m, m ≤ l.toArray.size → left (Array.replicate l.toArray.size false) m = m := by
      intro m
      induction m with
      | zero => intro _; rfl
      | succ m ih =>
        intro hm'
        have : (Array.replicate l.toArray.size false).getD m true = false := by
          have hs : m < l.length := by simp at hm'; omega
          simp [Array.getD_eq_getD_getElem?, hs]
        simp only [left, ih (by omega), this]
        simp
    have := e l.toArray.size (Nat.le_refl _)
    simpa using this
end
end Go.Proofs.Ytjkpfliaflmppaa.Vm

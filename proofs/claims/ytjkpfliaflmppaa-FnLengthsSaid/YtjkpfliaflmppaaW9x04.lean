/- Codes as data: their cells, and what is known of rows of them. No condition. The tree of the two least ones, put together again and again: what is put together, on which level each one stands. No condition. The tree of the two least ones: levels, their sums, their order. For at least two codes. Rules for unsigned numbers, told as natural numbers. No condition. -/
import Derived.Test.YtjkpfliaflmppaaW9x03
import Derived.Test.YtjkpfliaflmppaaW9x02

namespace Go.Proofs.Ytjkpfliaflmppaa.Pc
open Go Go.RowKit Go.Proofs.Ytjkpfliaflmppaa.Vm

/-- A code: symbol, count, length, value. -/
structure Cd where
  sym : Nat
  cnt : Nat
  len : Nat
  val : Nat

def Cd.zero : Cd := ⟨0, 0, 0, 0⟩
def Cd.cells (c : Cd) : List Value := [.int .u32 c.sym, .int .u32 c.cnt, .int .u32 c.len, .int .u32 c.val]
def codesV (l : List Cd) : List Value := l.flatMap Cd.cells

theorem codesV_nil : codesV [] = [] := rfl
theorem codesV_append (l m : List Cd) : codesV (l ++ m) = codesV l ++ codesV m := by simp [codesV]
theorem codesV_cons (c : Cd) (l : List Cd) : codesV (c :: l) = c.cells ++ codesV l := rfl
theorem codesV_length (l : List Cd) : (codesV l).length = l.length * 4 := by
  induction l with
  | nil => rfl
  | cons c l ih => rw [codesV_cons, List.length_append, ih]; simp [Cd.cells]; omega

theorem codesV_at (l : List Cd) (sp : List Value) (i : Nat) (h : i < l.length) : ∃ p q, codesV l ++ sp = p ++ ((l.getD i Cd.zero).cells ++ q) ∧ p.length = i * 4 ∧ p = codesV (l.take i) ∧ q = codesV (l.drop (i + 1)) ++ sp := by
  refine ⟨codesV (l.take i), codesV (l.drop (i + 1)) ++ sp, ?_, by rw [codesV_length]; simp; omega, rfl, rfl⟩
  have e : l = l.take i ++ (l.getD i Cd.zero) :: l.drop (i + 1) := by
    have h1 : l.getD i Cd.zero = l[i] := by simp [h]
    rw [h1]; simp
  conv => lhs; rw [e, codesV_append, codesV_cons]
  simp

theorem codesV_block (l : List Cd) (sp : List Value) (i : Nat) (h : i < l.length) : ((codesV l ++ sp).drop (i * 4)).take 4 = (l.getD i Cd.zero).cells := by
  obtain ⟨p, q, h1, h2, _⟩ := codesV_at l sp i h
  rw [h1, ← h2]
  simp [Cd.cells]

theorem codesV_lit (l : List Cd) (sp : List Value) (i : Nat) (h : i < l.length) : ((codesV l ++ sp).drop (i * 4)).take 4 =
    [.int .u32 (l.getD i Cd.zero).sym, .int .u32 (l.getD i Cd.zero).cnt, .int .u32 (l.getD i Cd.zero).len, .int .u32 (l.getD i Cd.zero).val] := codesV_block l sp i h
theorem codesV_lit' (l : List Cd) (sp : List Value) (i : Nat) (h : i < l.length) {s c n v : Nat} (he : l.getD i Cd.zero = ⟨s, c, n, v⟩) : ((codesV l ++ sp).drop (i * 4)).take 4 =
    [.int .u32 s, .int .u32 c, .int .u32 n, .int .u32 v] := by rw [codesV_block l sp i h, he]; rfl
theorem lit_one (a b c d : Int) : ∀ v ∈ [Value.int .u32 a, .int .u32 b, .int .u32 c, .int .u32 d], v.oneCell' = true := by
  intro v hv
  simp at hv
  rcases hv with rfl | rfl | rfl | rfl <;> rfl

theorem codesV_get (l : List Cd) (sp : List Value) (i f : Nat) (h : i < l.length) (hf : f < 4) : (codesV l ++ sp)[i * 4 + f]? = (l.getD i Cd.zero).cells[f]? := by
  obtain ⟨p, q, h1, h2, _⟩ := codesV_at l sp i h
  rw [h1, ← h2, List.getElem?_append_right (by omega), Nat.add_sub_cancel_left, List.getElem?_append_left (by simpa [Cd.cells] using hf)]

theorem Cd.cells_one (c : Cd) : ∀ v ∈ c.cells, v.oneCell' = true := by
  intro v hv
  simp [Cd.cells] at hv
  rcases hv with rfl | rfl | rfl | rfl <;> rfl

theorem codesV_one (l : List Cd) : ∀ v ∈ codesV l, v.oneCell' = true := by
  intro v hv
  simp only [codesV, List.mem_flatMap] at hv
  obtain ⟨c, _, hc⟩ := hv
  exact c.cells_one v hc

theorem take_succ_getD (l : List Cd) (i : Nat) (h : i < l.length) : l.take (i + 1) = l.take i ++ [l.getD i Cd.zero] := by
  have h1 : l.getD i Cd.zero = l[i] := by simp [h]
  rw [h1, List.take_succ_eq_append_getElem h]

theorem codesV_take (l : List Cd) (i : Nat) (h : i < l.length) : codesV (l.take i) ++ ((l.getD i Cd.zero).cells).take (1 * 4) = codesV (l.take (i + 1)) := by
  rw [take_succ_getD l i h, codesV_append]
  rfl

theorem codesV_set (l : List Cd) (sp : List Value) (i : Nat) (h : i < l.length) (v : Nat) : (codesV l ++ sp).set (i * 4 + 3) (.int .u32 v) = codesV (l.set i { l.getD i Cd.zero with val := v }) ++ sp := by
  obtain ⟨p, q, h1, h2, h3, h4⟩ := codesV_at l sp i h
  rw [h1, ← h2, List.set_append_right _ _ (by omega), Nat.add_sub_cancel_left, List.set_append_left _ _ (by simp [Cd.cells])]
  have e : l.set i { l.getD i Cd.zero with val := v } = l.take i ++ { l.getD i Cd.zero with val := v } :: l.drop (i + 1) := by
    rw [List.set_eq_take_append_cons_drop, if_pos h]
  rw [e, codesV_append, codesV_cons, h3, h4]
  simp [Cd.cells]

/-- The tables' rows of the two types of codes. -/
theorem zero42 : zeroOf Try.prog 42 = some [.int .u32 0, .int .u32 0, .int .u32 0, .int .u32 0] := by kernel_rfl
theorem zero146 : zeroOf Try.prog 146 = some [.int .u32 0, .int .u32 0, .int .u32 0, .int .u32 0] := by kernel_rfl
theorem build146 (a b c d : Int) (w : World) : (Instr.build 146 [(0, .int .u32 a), (1, .int .u32 b), (2, .int .u32 c), (3, .int .u32 d)].toArray).run Try.prog w = .ok (.agg [.int .u32 a, .int .u32 b, .int .u32 c, .int .u32 d].toArray) w := by kernel_rfl
theorem build42 (a b c d : Int) (w : World) : (Instr.build 42 [(0, .int .u32 a), (1, .int .u32 b), (2, .int .u32 c), (3, .int .u32 d)].toArray).run Try.prog w = .ok (.agg [.int .u32 a, .int .u32 b, .int .u32 c, .int .u32 d].toArray) w := by kernel_rfl
theorem row79_0 (w : World) : (Instr.buildSlice 79 0 [].toArray).run Try.prog w = .ok (.slice (some ⟨w.heap.size, 0, none⟩) 0 0) (w.alloc (.cells [].toArray 146)) := by kernel_rfl
theorem row79_1 (a b c d : Value) (w : World) : (Instr.buildSlice 79 1 [(0, .agg [a, b, c, d].toArray)].toArray).run Try.prog w = .ok (.slice (some ⟨w.heap.size, 0, none⟩) 1 1) (w.alloc (.cells [a, b, c, d].toArray 146)) := by kernel_rfl
theorem row23_1 (a b c d : Value) (w : World) : (Instr.buildSlice 23 1 [(0, .agg [a, b, c, d].toArray)].toArray).run Try.prog w = .ok (.slice (some ⟨w.heap.size, 0, none⟩) 1 1) (w.alloc (.cells [a, b, c, d].toArray 42)) := by kernel_rfl

theorem of_info {P : Program} {t : TypeId} {a b : Nat} {z : Option Value} (h : (P.info? t).map (fun i => (i.size, i.bytes, i.zero)) = some (a, b, z)) : ∃ I, P.info? t = some I ∧ I.size = a ∧ I.bytes = b ∧ I.zero = z := by
  cases hI : P.info? t with
  | none => simp [hI] at h
  | some I => simp [hI] at h; exact ⟨I, rfl, h⟩
theorem info42 : (Try.prog.info? 42).map (fun i => (i.size, i.bytes, i.zero)) = some (4, 16, some (.agg #[.int .u32 0, .int .u32 0, .int .u32 0, .int .u32 0])) := by kernel_rfl
theorem info146 : (Try.prog.info? 146).map (fun i => (i.size, i.bytes, i.zero)) = some (4, 16, some (.agg #[.int .u32 0, .int .u32 0, .int .u32 0, .int .u32 0])) := by kernel_rfl
attribute [irreducible] codesV
end Go.Proofs.Ytjkpfliaflmppaa.Pc

namespace Go.Proofs.Ytjkpfliaflmppaa.Hu
open Go Go.RowKit Go.Proofs.Ytjkpfliaflmppaa.Vm Go.Proofs.Ytjkpfliaflmppaa.Pc

/-- What is made: its weight, and what it is made of (a code, or what was made before). -/
structure Nd where
  w : Nat
  la : Bool
  a : Nat
  lb : Bool
  b : Nat
def Nd.zero : Nd := ⟨0, false, 0, false, 0⟩
/-- Whether a code is taken next. -/
def tkL (c : List Nat) (nds : List Nd) (f q : Nat) : Bool := decide (q = nds.length ∨ (f < c.length ∧ c.getD f 0 ≤ (nds.getD q Nd.zero).w))
def tkW (c : List Nat) (nds : List Nd) (f q : Nat) : Nat := if tkL c nds f q then c.getD f 0 else (nds.getD q Nd.zero).w
def tkI (c : List Nat) (nds : List Nd) (f q : Nat) : Nat := if tkL c nds f q then f else q
def tkF (c : List Nat) (nds : List Nd) (f q : Nat) : Nat := if tkL c nds f q then f + 1 else f
def tkQ (c : List Nat) (nds : List Nd) (f q : Nat) : Nat := if tkL c nds f q then q else q + 1
structure Bst where
  f : Nat
  q : Nat
  nds : List Nd
def mkN (c : List Nat) (nds : List Nd) (f q : Nat) : Nd :=
  ⟨tkW c nds f q + tkW c nds (tkF c nds f q) (tkQ c nds f q), tkL c nds f q, tkI c nds f q, tkL c nds (tkF c nds f q) (tkQ c nds f q), tkI c nds (tkF c nds f q) (tkQ c nds f q)⟩
def Bst.step (c : List Nat) (s : Bst) : Bst :=
  ⟨tkF c s.nds (tkF c s.nds s.f s.q) (tkQ c s.nds s.f s.q), tkQ c s.nds (tkF c s.nds s.f s.q) (tkQ c s.nds s.f s.q), s.nds ++ [mkN c s.nds s.f s.q]⟩
def bld (c : List Nat) : Nat → Bst
  | 0 => ⟨0, 0, []⟩
  | k + 1 => (bld c k).step c
/-- What is made at step k. -/
def nd (c : List Nat) (k : Nat) : Nd := mkN c (bld c k).nds (bld c k).f (bld c k).q
theorem bld_len (c : List Nat) : ∀ k, (bld c k).nds.length = k
  | 0 => rfl
  | k + 1 => by show ((bld c k).nds ++ [_]).length = _; rw [List.length_append, bld_len c k]; rfl
theorem bld_get (c : List Nat) : ∀ k j, j < k → (bld c k).nds.getD j Nd.zero = nd c j
  | k + 1, j, h => by
    show ((bld c k).nds ++ [nd c k]).getD j Nd.zero = _
    rw [List.getD_eq_getElem?_getD]
    by_cases hj : j < k
    · rw [List.getElem?_append_left (by rw [bld_len]; exact hj), ← List.getD_eq_getElem?_getD]
      exact bld_get c k j hj
    · obtain rfl : j = k := by omega
      rw [List.getElem?_append_right (by rw [bld_len]; omega), bld_len]
      simp

/-- One taking: what is known of it. -/
theorem tk_cases (c : List Nat) (nds : List Nd) (f q : Nat) (hq : q ≤ nds.length) (hf : f ≤ c.length) (h : f < c.length ∨ q < nds.length) :
    (tkL c nds f q = true ∧ f < c.length ∧ tkI c nds f q = f ∧ tkF c nds f q = f + 1 ∧ tkQ c nds f q = q ∧ tkW c nds f q = c.getD f 0) ∨
    (tkL c nds f q = false ∧ q < nds.length ∧ tkI c nds f q = q ∧ tkF c nds f q = f ∧ tkQ c nds f q = q + 1 ∧ tkW c nds f q = (nds.getD q Nd.zero).w) := by
  unfold tkI tkF tkQ tkW
  cases hb : tkL c nds f q with
  | true =>
    refine .inl ⟨rfl, ?_, rfl, rfl, rfl, rfl⟩
    unfold tkL at hb
    have := of_decide_eq_true hb
    omega
  | false =>
    refine .inr ⟨rfl, ?_, rfl, rfl, rfl, rfl⟩
    unfold tkL at hb
    have := of_decide_eq_false hb
    omega

structure Inv (c : List Nat) (k : Nat) : Prop where
  sum : (bld c k).f + (bld c k).q = 2 * k
  f : (bld c k).f ≤ c.length
  q : (bld c k).q ≤ k - 1
/-- What is taken at step k: numbers of codes and of what was made, and what stands where. -/
structure Took (c : List Nat) (k : Nat) : Prop where
  a : ((nd c k).la = true ∧ (bld c k).f < c.length ∧ (nd c k).a = (bld c k).f) ∨ ((nd c k).la = false ∧ (bld c k).q < k ∧ (nd c k).a = (bld c k).q)
  b : ((nd c k).lb = true ∧ (nd c k).b < c.length ∧ (nd c k).b = (bld c k).f + (if (nd c k).la then 1 else 0)) ∨ ((nd c k).lb = false ∧ (nd c k).b < k ∧ (nd c k).b = (bld c k).q + (if (nd c k).la then 0 else 1))
  f : (bld c (k + 1)).f = (bld c k).f + (if (nd c k).la then 1 else 0) + (if (nd c k).lb then 1 else 0)
  q : (bld c (k + 1)).q = (bld c k).q + (if (nd c k).la then 0 else 1) + (if (nd c k).lb then 0 else 1)
  w : (nd c k).w = (if (nd c k).la then c.getD (nd c k).a 0 else (nd c (nd c k).a).w) + (if (nd c k).lb then c.getD (nd c k).b 0 else (nd c (nd c k).b).w)
theorem took_of (c : List Nat) (k : Nat) (hk : k + 1 < c.length) (h : Inv c k) : Took c k ∧ Inv c (k + 1) := by
  obtain ⟨h1, h2, h3⟩ := h
  have hl := bld_len c k
  have hg := bld_get c k
  have hF : (bld c (k + 1)).f = tkF c (bld c k).nds (tkF c (bld c k).nds (bld c k).f (bld c k).q) (tkQ c (bld c k).nds (bld c k).f (bld c k).q) := rfl
  have hQ : (bld c (k + 1)).q = tkQ c (bld c k).nds (tkF c (bld c k).nds (bld c k).f (bld c k).q) (tkQ c (bld c k).nds (bld c k).f (bld c k).q) := rfl
  have hw : (nd c k).w = tkW c (bld c k).nds (bld c k).f (bld c k).q + tkW c (bld c k).nds (tkF c (bld c k).nds (bld c k).f (bld c k).q) (tkQ c (bld c k).nds (bld c k).f (bld c k).q) := rfl
  have hla : (nd c k).la = tkL c (bld c k).nds (bld c k).f (bld c k).q := rfl
  have ha : (nd c k).a = tkI c (bld c k).nds (bld c k).f (bld c k).q := rfl
  have hlb : (nd c k).lb = tkL c (bld c k).nds (tkF c (bld c k).nds (bld c k).f (bld c k).q) (tkQ c (bld c k).nds (bld c k).f (bld c k).q) := rfl
  have hb : (nd c k).b = tkI c (bld c k).nds (tkF c (bld c k).nds (bld c k).f (bld c k).q) (tkQ c (bld c k).nds (bld c k).f (bld c k).q) := rfl
  generalize hs : bld c k = s at *
  have hqk : k = 0 → s.q = 0 := fun e => by omega
  rcases tk_cases c s.nds s.f s.q (by omega) h2 (by omega) with ⟨e1, e2, e3, e4, e5, e6⟩ | ⟨e1, e2, e3, e4, e5, e6⟩
  · rw [e4, e5] at hF hQ hw hlb hb
    rcases tk_cases c s.nds (s.f + 1) s.q (by omega) (by omega) (by omega) with ⟨g1, g2, g3, g4, g5, g6⟩ | ⟨g1, g2, g3, g4, g5, g6⟩
    · (rw [e1] at hla; rw [g1] at hlb; rw [e3] at ha; rw [g3] at hb; rw [g4] at hF; rw [g5] at hQ; rw [e6, g6] at hw; (try rw [hl] at e2); (try rw [hl] at g2); clear e1 e3 e4 e5 e6 g1 g3 g4 g5 g6; refine ⟨⟨?_, ?_, ?_, ?_, ?_⟩, ⟨?_, ?_, ?_⟩⟩ <;> simp only [hs, hla, hlb, ha, hb, hF, hQ, hw, if_true, if_false, Bool.false_eq_true, Bool.true_eq_false, true_and, false_and, false_or, or_false, and_true] <;> (try omega))
    · (rw [e1] at hla; rw [g1] at hlb; rw [e3] at ha; rw [g3] at hb; rw [g4] at hF; rw [g5] at hQ; rw [e6, g6] at hw; (try rw [hl] at e2); (try rw [hl] at g2); clear e1 e3 e4 e5 e6 g1 g3 g4 g5 g6; refine ⟨⟨?_, ?_, ?_, ?_, ?_⟩, ⟨?_, ?_, ?_⟩⟩ <;> simp only [hs, hla, hlb, ha, hb, hF, hQ, hw, if_true, if_false, Bool.false_eq_true, Bool.true_eq_false, true_and, false_and, false_or, or_false, and_true] <;> (try omega))
      rw [hg s.q (by omega)]
  · rw [e4, e5] at hF hQ hw hlb hb
    rcases tk_cases c s.nds s.f (s.q + 1) (by omega) (by omega) (by omega) with ⟨g1, g2, g3, g4, g5, g6⟩ | ⟨g1, g2, g3, g4, g5, g6⟩
    · (rw [e1] at hla; rw [g1] at hlb; rw [e3] at ha; rw [g3] at hb; rw [g4] at hF; rw [g5] at hQ; rw [e6, g6] at hw; (try rw [hl] at e2); (try rw [hl] at g2); clear e1 e3 e4 e5 e6 g1 g3 g4 g5 g6; refine ⟨⟨?_, ?_, ?_, ?_, ?_⟩, ⟨?_, ?_, ?_⟩⟩ <;> simp only [hs, hla, hlb, ha, hb, hF, hQ, hw, if_true, if_false, Bool.false_eq_true, Bool.true_eq_false, true_and, false_and, false_or, or_false, and_true] <;> (try omega))
      rw [hg s.q (by omega)]
    · (rw [e1] at hla; rw [g1] at hlb; rw [e3] at ha; rw [g3] at hb; rw [g4] at hF; rw [g5] at hQ; rw [e6, g6] at hw; (try rw [hl] at e2); (try rw [hl] at g2); clear e1 e3 e4 e5 e6 g1 g3 g4 g5 g6; refine ⟨⟨?_, ?_, ?_, ?_, ?_⟩, ⟨?_, ?_, ?_⟩⟩ <;> simp only [hs, hla, hlb, ha, hb, hF, hQ, hw, if_true, if_false, Bool.false_eq_true, Bool.true_eq_false, true_and, false_and, false_or, or_false, and_true] <;> (try omega))
      rw [hg s.q (by omega), hg (s.q + 1) (by omega)]

theorem inv_all (c : List Nat) (hn : 1 ≤ c.length) : ∀ k, k + 1 ≤ c.length → Inv c k
  | 0, _ => ⟨rfl, Nat.zero_le _, Nat.le_refl _⟩
  | k + 1, h => (took_of c k (by omega) (inv_all c hn k (by omega))).2
theorem took (c : List Nat) {k : Nat} (h : k + 1 < c.length) : Took c k := (took_of c k h (inv_all c (by omega) k (by omega))).1
theorem Took.mf {c : List Nat} {k : Nat} (h : Took c k) : (bld c k).f ≤ (bld c (k + 1)).f := by rw [h.f]; omega
theorem Took.mq {c : List Nat} {k : Nat} (h : Took c k) : (bld c k).q ≤ (bld c (k + 1)).q := by rw [h.q]; omega
theorem mono_f (c : List Nat) : ∀ m k, k + m + 1 ≤ c.length → (bld c k).f ≤ (bld c (k + m)).f
  | 0, k, _ => Nat.le_refl _
  | m + 1, k, h => Nat.le_trans (mono_f c m k (by omega)) (took c (k := k + m) (by omega)).mf
theorem mono_q (c : List Nat) : ∀ m k, k + m + 1 ≤ c.length → (bld c k).q ≤ (bld c (k + m)).q
  | 0, k, _ => Nat.le_refl _
  | m + 1, k, h => Nat.le_trans (mono_q c m k (by omega)) (took c (k := k + m) (by omega)).mq
/-- At the end all codes are taken, and all that was made but the last one. -/
theorem bld_end (c : List Nat) (hn : 2 ≤ c.length) : (bld c (c.length - 1)).f = c.length ∧ (bld c (c.length - 1)).q = c.length - 2 := by
  obtain ⟨h1, h2, h3⟩ := inv_all c (by omega) (c.length - 1) (by omega)
  omega

/-! ### Sums over a part of the numbers -/
def sm (g : Nat → Nat) (lo hi : Nat) : Nat := ((List.range' lo (hi - lo)).map g).sum
theorem sm_head {g : Nat → Nat} {lo hi : Nat} (h : lo < hi) : sm g lo hi = g lo + sm g (lo + 1) hi := by
  unfold sm
  rw [show hi - lo = (hi - (lo + 1)) + 1 by omega, List.range'_succ, List.map_cons, List.sum_cons]
theorem sm_last {g : Nat → Nat} {lo hi : Nat} (h : lo ≤ hi) : sm g lo (hi + 1) = sm g lo hi + g hi := by
  unfold sm
  rw [show hi + 1 - lo = (hi - lo) + 1 by omega, List.range'_concat, List.map_append, List.sum_append]
  simp only [List.map_cons, List.map_nil, List.sum_cons, List.sum_nil, Nat.add_zero, Nat.mul_one, Nat.one_mul]
  rw [show lo + (hi - lo) = hi by omega]
theorem sm_nil {g : Nat → Nat} {lo hi : Nat} (h : hi ≤ lo) : sm g lo hi = 0 := by
  unfold sm
  rw [show hi - lo = 0 by omega]
  rfl
/-- What a child counts. -/
def cv (gf gq : Nat → Nat) (l : Bool) (i : Nat) : Nat := if l then gf i else gq i
/-- One step: what is put together leaves, what is made comes. -/
theorem step_sum (c : List Nat) (gf gq : Nat → Nat) {k : Nat} (hk : k + 1 < c.length) :
    sm gf (bld c k).f c.length + sm gq (bld c k).q k + gq k = sm gf (bld c (k + 1)).f c.length + sm gq (bld c (k + 1)).q (k + 1) + cv gf gq (nd c k).la (nd c k).a + cv gf gq (nd c k).lb (nd c k).b := by
  obtain ⟨ha, hb, hf, hq, _⟩ := took c hk
  have hinv := (inv_all c (by omega) k (by omega)).q
  rw [hf, hq]
  unfold cv
  generalize (bld c k).f = f at *
  generalize (bld c k).q = q at *
  rcases ha with ⟨e1, e2, e3⟩ | ⟨e1, e2, e3⟩ <;> rcases hb with ⟨g1, g2, g3⟩ | ⟨g1, g2, g3⟩ <;> rw [e1] at g3 ⊢ <;> rw [g1, e3, g3] <;> simp only [if_true, if_false, Bool.false_eq_true, Nat.add_zero] at g3 ⊢
  · rw [sm_head (g := gf) (lo := f) (by omega), sm_head (g := gf) (lo := f + 1) (by omega), sm_last (g := gq) (lo := q) (hi := k) (by omega)]; omega
  · rw [sm_head (g := gf) (lo := f) (by omega), sm_head (g := gq) (lo := q) (by omega), sm_last (g := gq) (lo := q + 1) (hi := k) (by omega)]; omega
  · rw [sm_head (g := gf) (lo := f) (by omega), sm_head (g := gq) (lo := q) (by omega), sm_last (g := gq) (lo := q + 1) (hi := k) (by omega)]; omega
  · rw [sm_head (g := gq) (lo := q) (by omega), sm_head (g := gq) (lo := q + 1) (by omega), sm_last (g := gq) (lo := q + 1 + 1) (hi := k) (by omega)]; omega
end Go.Proofs.Ytjkpfliaflmppaa.Hu

namespace Go.Proofs.Ytjkpfliaflmppaa.Hu
open Go Go.RowKit Go.Proofs.Ytjkpfliaflmppaa.Vm Go.Proofs.Ytjkpfliaflmppaa.Pc

def srch (p : Nat → Bool) : Nat → Nat → Nat
  | 0, i => i
  | m + 1, i => if p i then i else srch p m (i + 1)
theorem srch_eq {p : Nat → Bool} {k : Nat} : ∀ m i, (∀ j, i ≤ j → j < k → p j = false) → p k = true → i ≤ k → k < i + m → srch p m i = k
  | 0, i, _, _, _, _ => by omega
  | m + 1, i, h1, h2, h3, h4 => by
    unfold srch
    by_cases e : i = k
    · subst e; rw [if_pos h2]
    · rw [h1 i (Nat.le_refl _) (by omega), if_neg (by simp)]
      exact srch_eq m (i + 1) (fun j q1 q2 => h1 j (by omega) q2) h2 (by omega) (by omega)
theorem srch_mono {p p' : Nat → Bool} (h : ∀ j, p' j = true → p j = true) : ∀ m i, srch p m i ≤ srch p' m i
  | 0, i => Nat.le_refl _
  | m + 1, i => by
    have hle : ∀ m i, i ≤ srch p' m i := by
      intro m
      induction m with
      | zero => intro i; exact Nat.le_refl _
      | succ m ih =>
        intro i
        unfold srch
        split
        · exact Nat.le_refl _
        · exact Nat.le_trans (Nat.le_succ i) (ih (i + 1))
    cases e : p i with
    | true =>
      have e2 : srch p (m + 1) i = i := by simp [srch, e]
      rw [e2]
      exact hle _ _
    | false =>
      have e' : p' i = false := by
        cases e' : p' i with
        | false => rfl
        | true => rw [h i e'] at e; cases e
      have e2 : srch p (m + 1) i = srch p m (i + 1) := by simp [srch, e]
      have e3 : srch p' (m + 1) i = srch p' m (i + 1) := by simp [srch, e']
      rw [e2, e3]
      exact srch_mono h m (i + 1)
theorem srch_spec {p : Nat → Bool} : ∀ m i, srch p m i = i + m ∨ (p (srch p m i) = true ∧ srch p m i < i + m)
  | 0, i => .inl rfl
  | m + 1, i => by
    unfold srch
    cases e : p i with
    | true => rw [if_pos rfl]; exact .inr ⟨e, by omega⟩
    | false =>
      rw [if_neg (by simp)]
      rcases srch_spec (p := p) m (i + 1) with h | ⟨h1, h2⟩
      · exact .inl (by omega)
      · exact .inr ⟨h1, by omega⟩

/-- The step that takes a code, and the one that takes what was made. -/
def pf (c : List Nat) (x : Nat) : Nat := srch (fun k => decide (x < (bld c (k + 1)).f)) (c.length - 1) 0
def pq (c : List Nat) (j : Nat) : Nat := srch (fun k => decide (j < (bld c (k + 1)).q)) (c.length - 1) 0
theorem pf_at {c : List Nat} {k x : Nat} (hk : k + 1 < c.length) (h1 : (bld c k).f ≤ x) (h2 : x < (bld c (k + 1)).f) : pf c x = k := by
  refine srch_eq _ _ (fun j _ hj => ?_) (decide_eq_true h2) (Nat.zero_le _) (by omega)
  have := mono_f c (k - (j + 1)) (j + 1) (by omega)
  rw [show j + 1 + (k - (j + 1)) = k by omega] at this
  exact decide_eq_false (by omega)
theorem pq_at {c : List Nat} {k j : Nat} (hk : k + 1 < c.length) (h1 : (bld c k).q ≤ j) (h2 : j < (bld c (k + 1)).q) : pq c j = k := by
  refine srch_eq _ _ (fun i _ hi => ?_) (decide_eq_true h2) (Nat.zero_le _) (by omega)
  have := mono_q c (k - (i + 1)) (i + 1) (by omega)
  rw [show i + 1 + (k - (i + 1)) = k by omega] at this
  exact decide_eq_false (by omega)
theorem pf_mono {c : List Nat} {x y : Nat} (h : x ≤ y) : pf c x ≤ pf c y := srch_mono (fun k hk => decide_eq_true (by have := of_decide_eq_true hk; omega)) _ _
theorem pq_mono {c : List Nat} {x y : Nat} (h : x ≤ y) : pq c x ≤ pq c y := srch_mono (fun k hk => decide_eq_true (by have := of_decide_eq_true hk; omega)) _ _
theorem pf_lt {c : List Nat} (hn : 2 ≤ c.length) {x : Nat} (h : x < c.length) : pf c x < c.length - 1 := by
  have he := (bld_end c hn).1
  refine Nat.lt_of_not_le fun hle => ?_
  rcases srch_spec (p := fun k => decide (x < (bld c (k + 1)).f)) (c.length - 1) 0 with e | ⟨_, e⟩
  · have h1 := srch_mono (p := fun k => decide (c.length - 2 ≤ k)) (p' := fun k => decide (x < (bld c (k + 1)).f))
    have h2 : srch (fun k => decide (x < (bld c (k + 1)).f)) (c.length - 1) 0 ≤ srch (fun k => decide (c.length - 2 = k)) (c.length - 1) 0 := srch_mono (fun k hk => by
      have := of_decide_eq_true hk
      subst this
      rw [show c.length - 2 + 1 = c.length - 1 by omega, he]
      exact decide_eq_true h) _ _
    have h3 : srch (fun k => decide (c.length - 2 = k)) (c.length - 1) 0 = c.length - 2 := srch_eq _ _ (fun j _ hj => decide_eq_false (by omega)) (decide_eq_true rfl) (Nat.zero_le _) (by omega)
    omega
  · unfold pf at hle; omega
theorem pq_gt {c : List Nat} {j : Nat} (h : j + 1 < c.length) : j < pq c j := by
  rcases srch_spec (p := fun k => decide (j < (bld c (k + 1)).q)) (c.length - 1) 0 with e | ⟨e1, e2⟩
  · unfold pq; omega
  · have h1 := of_decide_eq_true e1
    have h2 := (inv_all c (by omega) (srch (fun k => decide (j < (bld c (k + 1)).q)) (c.length - 1) 0 + 1) (by omega)).q
    unfold pq
    omega
theorem pq_le (c : List Nat) (j : Nat) : pq c j ≤ c.length - 1 := by
  rcases srch_spec (p := fun k => decide (j < (bld c (k + 1)).q)) (c.length - 1) 0 with e | ⟨e1, e2⟩ <;> unfold pq <;> omega

/-- The levels: of what was made (where its own parts stand), and of codes. -/
def Lq (c : List Nat) (j : Nat) : Nat := if h : j < pq c j ∧ pq c j < c.length - 1 then Lq c (pq c j) + 1 else 1
termination_by c.length - j
decreasing_by omega
def Lf (c : List Nat) (x : Nat) : Nat := Lq c (pf c x)
theorem Lq_pos (c : List Nat) (j : Nat) : 1 ≤ Lq c j := by unfold Lq; split <;> omega
theorem Lq_le (c : List Nat) : ∀ (m j : Nat), c.length - 1 - j ≤ m → j + 1 < c.length → Lq c j ≤ c.length - 1 - j
  | 0, j, h1, h2 => by omega
  | m + 1, j, h1, h2 => by
    unfold Lq
    split
    · rename_i h
      have := Lq_le c m (pq c j) (by omega) (by omega)
      omega
    · omega
theorem Lq_root (c : List Nat) (hn : 2 ≤ c.length) : Lq c (c.length - 2) = 1 := by
  have := pq_gt (c := c) (j := c.length - 2) (by omega)
  unfold Lq
  rw [dif_neg (by omega)]
theorem Lq_mono (c : List Nat) : ∀ (m i j : Nat), c.length - i ≤ m → i ≤ j → j + 1 < c.length → Lq c j ≤ Lq c i
  | 0, i, j, h1, h2, h3 => by omega
  | m + 1, i, j, h1, h2, h3 => by
    have hp := pq_mono (c := c) h2
    have hg := pq_gt (c := c) (j := i) (by omega)
    have h1' := Lq_pos c i
    conv => lhs; unfold Lq
    split
    · rename_i h
      conv => rhs; unfold Lq
      rw [dif_pos ⟨hg, by omega⟩]
      have := Lq_mono c m (pq c i) (pq c j) (by omega) hp (by omega)
      omega
    · exact h1'
theorem Lf_mono {c : List Nat} (hn : 2 ≤ c.length) {x y : Nat} (h : x ≤ y) (hy : y < c.length) : Lf c y ≤ Lf c x := by
  have := pf_lt hn hy
  exact Lq_mono c _ _ _ (Nat.le_refl _) (pf_mono h) (by omega)
theorem Lf_pos (c : List Nat) (x : Nat) : 1 ≤ Lf c x := Lq_pos _ _
theorem Lf_le {c : List Nat} (hn : 2 ≤ c.length) {x : Nat} (h : x < c.length) : Lf c x ≤ c.length - 1 := by
  have := pf_lt hn h
  have := Lq_le c _ (pf c x) (Nat.le_refl _) (by omega)
  unfold Lf
  omega
/-- Where the parts of what is made at step k stand. -/
theorem lev_a {c : List Nat} {k : Nat} (hk : k + 1 < c.length) : ((nd c k).la = true → Lf c (nd c k).a = Lq c k) ∧ ((nd c k).la = false → Lq c (nd c k).a = Lq c k + 1) := by
  have ht := took c hk
  have ha := ht.a
  have hf := ht.f
  have hq := ht.q
  rcases ha with ⟨e1, e2, e3⟩ | ⟨e1, e2, e3⟩
  · refine ⟨fun _ => ?_, fun h => (by rw [e1] at h; cases h)⟩
    unfold Lf
    rw [pf_at hk (by omega) (by rw [hf, e1, e3, if_pos rfl]; omega)]
  · refine ⟨fun h => (by rw [e1] at h; cases h), fun _ => ?_⟩
    have hp : pq c (nd c k).a = k := pq_at hk (by omega) (by rw [hq, e1, e3, if_neg (by simp)]; omega)
    conv => lhs; unfold Lq
    rw [hp, dif_pos ⟨by omega, by omega⟩]
theorem lev_b {c : List Nat} {k : Nat} (hk : k + 1 < c.length) : ((nd c k).lb = true → Lf c (nd c k).b = Lq c k) ∧ ((nd c k).lb = false → Lq c (nd c k).b = Lq c k + 1) := by
  have ht := took c hk
  have hb := ht.b
  have hf := ht.f
  have hq := ht.q
  rcases hb with ⟨e1, e2, e3⟩ | ⟨e1, e2, e3⟩
  · refine ⟨fun _ => ?_, fun h => (by rw [e1] at h; cases h)⟩
    unfold Lf
    rw [pf_at hk (by omega) (by rw [hf, e1, e3, if_pos rfl]; omega)]
  · refine ⟨fun h => (by rw [e1] at h; cases h), fun _ => ?_⟩
    have hp : pq c (nd c k).b = k := pq_at hk (by omega) (by rw [hq, e1, e3]; simp)
    conv => lhs; unfold Lq
    rw [hp, dif_pos ⟨by omega, by omega⟩]

/-! ### Sums over all steps -/
theorem all_sum (c : List Nat) (hn : 2 ≤ c.length) (gf gq : Nat → Nat) : ∀ m, m + 1 ≤ c.length →
    sm gf 0 c.length + sm gq 0 m = sm gf (bld c m).f c.length + sm gq (bld c m).q m + sm (fun k => cv gf gq (nd c k).la (nd c k).a + cv gf gq (nd c k).lb (nd c k).b) 0 m
  | 0, _ => by rw [sm_nil (g := gq) (Nat.le_refl 0), sm_nil (g := fun k => _) (Nat.le_refl 0)]; show _ = sm gf 0 _ + sm gq 0 0 + 0; rw [sm_nil (g := gq) (Nat.le_refl 0)]
  | m + 1, h => by
    have ih := all_sum c hn gf gq m (by omega)
    have hs := step_sum c gf gq (k := m) (by omega)
    rw [sm_last (g := gq) (Nat.zero_le m), sm_last (g := fun k => _) (Nat.zero_le m)]
    omega
theorem sm_congr {g g' : Nat → Nat} {lo hi : Nat} (h : ∀ x, lo ≤ x → x < hi → g x = g' x) : sm g lo hi = sm g' lo hi := by
  unfold sm
  congr 1
  apply List.map_congr_left
  intro x hx
  rw [List.mem_range'_1] at hx
  exact h x hx.1 (by omega)
theorem sm_add (g g' : Nat → Nat) : ∀ m, sm (fun x => g x + g' x) 0 m = sm g 0 m + sm g' 0 m
  | 0 => rfl
  | m + 1 => by rw [sm_last (Nat.zero_le m), sm_last (Nat.zero_le m), sm_last (Nat.zero_le m), sm_add g g' m]; omega
theorem sm_one {g : Nat → Nat} {lo : Nat} : sm g lo (lo + 1) = g lo := by rw [sm_last (Nat.le_refl lo), sm_nil (Nat.le_refl lo), Nat.zero_add]

/-- The codes' lengths leave nothing over. -/
theorem kraft_lev (c : List Nat) (hn : 2 ≤ c.length) (M : Nat) (hM : c.length ≤ M) : sm (fun x => 2 ^ (M - Lf c x)) 0 c.length = 2 ^ M := by
  have h := all_sum c hn (fun x => 2 ^ (M - Lf c x)) (fun j => 2 ^ (M + 1 - Lq c j)) (c.length - 1) (by omega)
  obtain ⟨e1, e2⟩ := bld_end c hn
  rw [e1, e2, sm_nil (Nat.le_refl c.length), Nat.zero_add] at h
  have h3 : sm (fun j => 2 ^ (M + 1 - Lq c j)) (c.length - 2) (c.length - 1) = 2 ^ M := by
    rw [show c.length - 1 = c.length - 2 + 1 by omega, sm_one, Lq_root c hn, Nat.add_sub_cancel]
  have h4 : sm (fun k => cv (fun x => 2 ^ (M - Lf c x)) (fun j => 2 ^ (M + 1 - Lq c j)) (nd c k).la (nd c k).a + cv (fun x => 2 ^ (M - Lf c x)) (fun j => 2 ^ (M + 1 - Lq c j)) (nd c k).lb (nd c k).b) 0 (c.length - 1) = sm (fun j => 2 ^ (M + 1 - Lq c j)) 0 (c.length - 1) := by
    apply sm_congr
    intro k _ hk
    obtain ⟨a1, a2⟩ := lev_a (c := c) (k := k) (by omega)
    obtain ⟨b1, b2⟩ := lev_b (c := c) (k := k) (by omega)
    have hl := Lq_le c _ k (Nat.le_refl _) (by omega)
    have hpw : 2 ^ (M + 1 - Lq c k) = 2 ^ (M - Lq c k) + 2 ^ (M - Lq c k) := by
      rw [show M + 1 - Lq c k = (M - Lq c k) + 1 by omega, Nat.pow_succ]; omega
    have ca : cv (fun x => 2 ^ (M - Lf c x)) (fun j => 2 ^ (M + 1 - Lq c j)) (nd c k).la (nd c k).a = 2 ^ (M - Lq c k) := by
      unfold cv
      cases hla : (nd c k).la with
      | true => show 2 ^ (M - Lf c _) = _; rw [a1 hla]
      | false => show 2 ^ (M + 1 - Lq c _) = _; rw [a2 hla]; congr 1; omega
    have cb : cv (fun x => 2 ^ (M - Lf c x)) (fun j => 2 ^ (M + 1 - Lq c j)) (nd c k).lb (nd c k).b = 2 ^ (M - Lq c k) := by
      unfold cv
      cases hlb : (nd c k).lb with
      | true => show 2 ^ (M - Lf c _) = _; rw [b1 hlb]
      | false => show 2 ^ (M + 1 - Lq c _) = _; rw [b2 hlb]; congr 1; omega
    rw [ca, cb, hpw]
  rw [h3, h4] at h
  omega
/-- The cost is the sum of all that is made. -/
theorem cost_lev (c : List Nat) (hn : 2 ≤ c.length) : sm (fun x => c.getD x 0 * Lf c x) 0 c.length = sm (fun k => (nd c k).w) 0 (c.length - 1) := by
  have h := all_sum c hn (fun x => c.getD x 0 * Lf c x) (fun j => (nd c j).w * (Lq c j - 1)) (c.length - 1) (by omega)
  obtain ⟨e1, e2⟩ := bld_end c hn
  rw [e1, e2, sm_nil (Nat.le_refl c.length), Nat.zero_add] at h
  have h3 : sm (fun j => (nd c j).w * (Lq c j - 1)) (c.length - 2) (c.length - 1) = 0 := by
    rw [show c.length - 1 = c.length - 2 + 1 by omega, sm_one, Lq_root c hn, Nat.sub_self, Nat.mul_zero]
  have h4 : sm (fun k => cv (fun x => c.getD x 0 * Lf c x) (fun j => (nd c j).w * (Lq c j - 1)) (nd c k).la (nd c k).a + cv (fun x => c.getD x 0 * Lf c x) (fun j => (nd c j).w * (Lq c j - 1)) (nd c k).lb (nd c k).b) 0 (c.length - 1) =
      sm (fun k => (nd c k).w * (Lq c k - 1) + (nd c k).w) 0 (c.length - 1) := by
    apply sm_congr
    intro k _ hk
    obtain ⟨a1, a2⟩ := lev_a (c := c) (k := k) (by omega)
    obtain ⟨b1, b2⟩ := lev_b (c := c) (k := k) (by omega)
    have hw := (took c (k := k) (by omega)).w
    have hp := Lq_pos c k
    have ca : cv (fun x => c.getD x 0 * Lf c x) (fun j => (nd c j).w * (Lq c j - 1)) (nd c k).la (nd c k).a = (if (nd c k).la then c.getD (nd c k).a 0 else (nd c (nd c k).a).w) * Lq c k := by
      unfold cv
      cases hla : (nd c k).la with
      | true => show _ * Lf c _ = _ * _; rw [a1 hla]; rfl
      | false => show _ * (Lq c _ - 1) = _ * _; rw [a2 hla, Nat.add_sub_cancel]; rfl
    have cb : cv (fun x => c.getD x 0 * Lf c x) (fun j => (nd c j).w * (Lq c j - 1)) (nd c k).lb (nd c k).b = (if (nd c k).lb then c.getD (nd c k).b 0 else (nd c (nd c k).b).w) * Lq c k := by
      unfold cv
      cases hlb : (nd c k).lb with
      | true => show _ * Lf c _ = _ * _; rw [b1 hlb]; rfl
      | false => show _ * (Lq c _ - 1) = _ * _; rw [b2 hlb, Nat.add_sub_cancel]; rfl
    rw [ca, cb, ← Nat.add_mul, ← hw]
    obtain ⟨l, hl⟩ : ∃ l, Lq c k = l + 1 := ⟨Lq c k - 1, by omega⟩
    rw [hl, Nat.add_sub_cancel, Nat.mul_succ]
  rw [h3, h4, sm_add] at h
  omega
/-- What is made is not above the sum of all. -/
theorem weight_le (c : List Nat) (hn : 2 ≤ c.length) {k : Nat} (hk : k + 1 < c.length) : (nd c k).w ≤ sm (fun x => c.getD x 0) 0 c.length := by
  have h := all_sum c hn (fun x => c.getD x 0) (fun j => (nd c j).w) (k + 1) (by omega)
  have h4 : sm (fun k => cv (fun x => c.getD x 0) (fun j => (nd c j).w) (nd c k).la (nd c k).a + cv (fun x => c.getD x 0) (fun j => (nd c j).w) (nd c k).lb (nd c k).b) 0 (k + 1) = sm (fun j => (nd c j).w) 0 (k + 1) := by
    apply sm_congr
    intro j _ hj
    rw [(took c (k := j) (by omega)).w]
    rfl
  rw [h4] at h
  have hq := (inv_all c (by omega) (k + 1) (by omega)).q
  have : sm (fun j => (nd c j).w) (bld c (k + 1)).q (k + 1) = sm (fun j => (nd c j).w) (bld c (k + 1)).q k + (nd c k).w := sm_last (by omega)
  omega
end Go.Proofs.Ytjkpfliaflmppaa.Hu

namespace Go.Proofs.Ytjkpfliaflmppaa.Vm
open Go Go.RowKit

section
variable {pr : Bool} {P : Program} {N : Fm} {E : Env} {M : Mem}

theorem wrap_nat {k : IntKind} (hk : k.signed = false) (n : Nat) : k.wrap (n : Int) = ((n % 2 ^ k.bits : Nat) : Int) := by
  cases k <;> simp [IntKind.signed] at hk <;> simp [IntKind.wrap, IntKind.signed, IntKind.bits]

theorem wrap_nat_lt {k : IntKind} (hk : k.signed = false) {n : Nat} (h : n < 2 ^ k.bits) : k.wrap (n : Int) = (n : Int) := by
  rw [wrap_nat hk, Nat.mod_eq_of_lt h]

/-- '&', '|', '^' of natural numbers. -/
def bitN : BinOp → Nat → Nat → Option Nat
  | .and, p, q => some (p &&& q)
  | .or, p, q => some (p ||| q)
  | .xor, p, q => some (p ^^^ q)
  | _, _, _ => none

theorem ofInt_nat (n p : Nat) (h : p < 2 ^ n) : (BitVec.ofInt n (p : Int)).toNat = p := by
  rw [BitVec.ofInt_natCast, BitVec.toNat_ofNat, Nat.mod_eq_of_lt h]

theorem P_bitN {op : BinOp} {t t2 : TypeId} {x y : Operand} {k : IntKind} {p q r : Nat} (hx : ev E x = some (.int k (p : Int))) (hy : ev E y = some (.int k (q : Int))) (hr : bitN op p q = some r) (hk : k.signed = false)
    (hp : p < 2 ^ k.bits) (hq : q < 2 ^ k.bits) : Pure P N E M (.binOp op t x y t2) (.int k (r : Int)) := by
  cases op <;> simp [bitN] at hr <;> subst hr
  · have := P_bits (P := P) (N := N) (M := M) (op := .and) (t := t) (t2 := t2) hx hy rfl
    rw [BitVec.toNat_and, ofInt_nat _ _ hp, ofInt_nat _ _ hq, wrap_nat_lt hk (Nat.lt_of_le_of_lt Nat.and_le_left hp)] at this
    exact this
  · have := P_bits (P := P) (N := N) (M := M) (op := .or) (t := t) (t2 := t2) hx hy rfl
    rw [BitVec.toNat_or, ofInt_nat _ _ hp, ofInt_nat _ _ hq, wrap_nat_lt hk (Nat.or_lt_two_pow hp hq)] at this
    exact this
  · have := P_bits (P := P) (N := N) (M := M) (op := .xor) (t := t) (t2 := t2) hx hy rfl
    rw [BitVec.toNat_xor, ofInt_nat _ _ hp, ofInt_nat _ _ hq, wrap_nat_lt hk (Nat.xor_lt_two_pow hp hq)] at this
    exact this

theorem P_shrN {t t2 : TypeId} {x y : Operand} {k k2 : IntKind} {p q : Nat} (hx : ev E x = some (.int k (p : Int))) (hy : ev E y = some (.int k2 (q : Int))) (hp : p < 2 ^ k.bits) :
    Pure P N E M (.binOp .shr t x y t2) (.int k ((p / 2 ^ q : Nat) : Int)) := by
  have := P_shr (P := P) (N := N) (M := M) (t := t) (t2 := t2) hx hy (by omega)
  have e : (p : Int).fdiv (2 ^ min (q : Int).toNat k.bits) = ((p / 2 ^ q : Nat) : Int) := by
    simp only [Int.toNat_natCast]
    rw [Int.fdiv_eq_ediv_of_nonneg _ (by exact Int.le_of_lt (Int.pow_pos (by omega)))]
    have h2 : ((p : Int) / 2 ^ min q k.bits) = ((p / 2 ^ min q k.bits : Nat) : Int) := by simp
    rw [h2]
    congr 1
    rcases Nat.le_total q k.bits with h | h
    · rw [Nat.min_eq_left h]
    · rw [Nat.min_eq_right h, Nat.div_eq_of_lt hp, Nat.div_eq_of_lt (Nat.lt_of_lt_of_le hp (Nat.pow_le_pow_right (by omega) h))]
  rw [e] at this
  exact this

theorem P_shlN {t t2 : TypeId} {x y : Operand} {k k2 : IntKind} {p q : Nat} (hx : ev E x = some (.int k (p : Int))) (hy : ev E y = some (.int k2 (q : Int))) (hk : k.signed = false) :
    Pure P N E M (.binOp .shl t x y t2) (.int k ((p * 2 ^ q % 2 ^ k.bits : Nat) : Int)) := by
  have := P_shl (P := P) (N := N) (M := M) (t := t) (t2 := t2) hx hy (by omega)
  have e : k.wrap ((p : Int) * 2 ^ min (q : Int).toNat k.bits) = ((p * 2 ^ q % 2 ^ k.bits : Nat) : Int) := by
    simp only [Int.toNat_natCast]
    have h2 : ((p : Int) * 2 ^ min q k.bits) = ((p * 2 ^ min q k.bits : Nat) : Int) := by simp
    rw [h2, wrap_nat hk]
    congr 1
    rcases Nat.le_total q k.bits with h | h
    · rw [Nat.min_eq_left h]
    · rw [Nat.min_eq_right h]
      have h3 : 2 ^ q = 2 ^ k.bits * 2 ^ (q - k.bits) := by rw [← Nat.pow_add]; congr 1; omega
      rw [h3, ← Nat.mul_assoc, Nat.mul_mod_left, Nat.mul_right_comm, Nat.mul_mod_left]
  rw [e] at this
  exact this

theorem P_convN {s t : TypeId} {x : Operand} {k k2 : IntKind} {p : Nat} (hs : Und P s (.int k)) (ht : Und P t (.int k2)) (hx : ev E x = some (.int k (p : Int))) (hk : k2.signed = false) :
    Pure P N E M (.convert s t x) (.int k2 ((p % 2 ^ k2.bits : Nat) : Int)) := by
  have := P_conv (P := P) (N := N) (M := M) hs ht hx
  rw [wrap_nat hk] at this
  exact this

/-- Sums, differences and products, told as natural numbers and cut to their kind. -/
theorem P_addN {t t2 : TypeId} {x y : Operand} {k : IntKind} {p q : Nat} (hx : ev E x = some (.int k (p : Int))) (hy : ev E y = some (.int k (q : Int))) (hk : k.signed = false) :
    Pure P N E M (.binOp .add t x y t2) (.int k (((p + q) % 2 ^ k.bits : Nat) : Int)) := by
  have := P_arw (P := P) (N := N) (M := M) (op := .add) (t := t) (t2 := t2) hx hy rfl
  have e : k.wrap ((p : Int) + q) = (((p + q) % 2 ^ k.bits : Nat) : Int) := by rw [← wrap_nat hk]; simp
  rw [e] at this
  exact this
/-- .. with the result as one says it. -/
theorem P_shlE {t t2 : TypeId} {x y : Operand} {k k2 : IntKind} {p q r : Nat} (hx : ev E x = some (.int k (p : Int))) (hy : ev E y = some (.int k2 (q : Int))) (hk : k.signed = false) (hr : p * 2 ^ q % 2 ^ k.bits = r) :
    Pure P N E M (.binOp .shl t x y t2) (.int k (r : Int)) := by subst hr; exact P_shlN hx hy hk
theorem P_shrE {t t2 : TypeId} {x y : Operand} {k k2 : IntKind} {p q r : Nat} (hx : ev E x = some (.int k (p : Int))) (hy : ev E y = some (.int k2 (q : Int))) (hp : p < 2 ^ k.bits) (hr : p / 2 ^ q = r) :
    Pure P N E M (.binOp .shr t x y t2) (.int k (r : Int)) := by subst hr; exact P_shrN hx hy hp
theorem P_addE {t t2 : TypeId} {x y : Operand} {k : IntKind} {p q r : Nat} (hx : ev E x = some (.int k (p : Int))) (hy : ev E y = some (.int k (q : Int))) (hk : k.signed = false) (hr : (p + q) % 2 ^ k.bits = r) :
    Pure P N E M (.binOp .add t x y t2) (.int k (r : Int)) := by subst hr; exact P_addN hx hy hk
/-- Any result that is equal. -/
theorem P_is {op : Op} {v v' : Value} (h : Pure P N E M op v) (e : v = v') : Pure P N E M op v' := e ▸ h

/-! ### Places that are told by a sum -/

theorem P_loadAt {t : TypeId} {x : Operand} {own : Bool} {b p o n : Nat} {l : List Value} {v : Value} (ht : PlainT P t)
    (hx : ev E x = some (.pointer (some ⟨b, p, none⟩))) (hp : p = o + n) (hm : (⟨own, b, o, l⟩ : Sg) ∈ M) (hv : l[n]? = some v) : Pure P N E M (.load t x) v := by
  subst hp; exact P_load ht hx hm hv

theorem P_loadAggAt {t : TypeId} {x : Operand} {own : Bool} {b p o n i : Nat} {l cs : List Value} (ht : AggT P t) (hn : Cel P t n) (hn0 : 0 < n)
    (hx : ev E x = some (.pointer (some ⟨b, p, none⟩))) (hp : p = o + i) (hm : (⟨own, b, o, l⟩ : Sg) ∈ M) (hl : i + n ≤ l.length) (hc : (l.drop i).take n = cs) : Pure P N E M (.load t x) (.agg cs.toArray) := by
  subst hp; exact P_loadAgg ht hn hn0 hx hm hl hc

variable {Fin : Post} {k : List Kn} {ops : List Oper} {rest : List Oper} {d : Nat} {op : Op} {ty : TypeId} {pos : String} {after : Array Edge} {g : Option (Nat × Bool)} {v : Value}

theorem O_storeAt {t : TypeId} {p x : Operand} {b q o n : Nat} {l l' : List Value} {v : Value} {M' : Mem} (ht : Cel P t 1) (hp : ev E p = some (.pointer (some ⟨b, q, none⟩))) (hq : q = o + n) (hx : ev E x = some v)
    (hv : v.oneCell' = true) (hg : On E ops g) (hn : n < l.length) (hl : l.set n v = l') (hu : Upd1 M ⟨true, b, o, l⟩ l' M') (h : WO false P N Fin ops rest k E M') : WO false P N Fin ops (⟨none, .store t p x, ty, pos, after, g⟩ :: rest) k E M := by
  subst hq; subst hl; exact O_store ht hp hx hv hg hn hu h
theorem O_storeiE {t : TypeId} {p x : Operand} {b o : Nat} {l l' : List Int} {kd : IntKind} {z v : Int} {M' : Mem} (ht : Cel P t 1) (hp : ev E p = some (.pointer (some ⟨b, o + z.toNat, none⟩)))
    (hx : ev E x = some (.int kd v)) (hl : wr l z v = l') (hg : On E ops g) (hu : Upd1 M ⟨true, b, o, ints kd l⟩ (ints kd l') M') (hn : z.toNat < l.length) (h : WO false P N Fin ops rest k E M') :
    WO false P N Fin ops (⟨none, .store t p x, ty, pos, after, g⟩ :: rest) k E M := by
  subst hl; exact O_storei ht hp hx hg hu hn h
end
end Go.Proofs.Ytjkpfliaflmppaa.Vm

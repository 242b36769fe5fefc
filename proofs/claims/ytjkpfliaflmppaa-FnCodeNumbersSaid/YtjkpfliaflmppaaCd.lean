/- Codes as data: their cells, and what is known of rows of them. No condition. -/
import Derived.Test.YtjkpfliaflmppaaTb
namespace Go.Proofs.Ytjkpfliaflmppaa.Pc
open Go Go.RowKit Go.Proofs.Ytjkpfliaflmppaa.Vm

/-- A code: symbol, count, length, value. -/
structure Cd where
  sym : Nat
  cnt : Nat
  len : Nat
  val : Nat

def Cd.zero : Cd := ⟨0, 0, 0, 0⟩
def Cd.cells (c : Cd) : List Value := [.int .u32 c.sym, .int .u32 c.cnt, .int .u32 c.len, .int .u32 c.val]
def codesV (l : List Cd) : List Value := l.flatMap Cd.cells

theorem codesV_nil : codesV [] = [] := rfl
theorem codesV_append (l m : List Cd) : codesV (l ++ m) = codesV l ++ codesV m := by simp [codesV]
theorem codesV_cons (c : Cd) (l : List Cd) : codesV (c :: l) = c.cells ++ codesV l := rfl
theorem codesV_length (l : List Cd) : (codesV l).length = l.length * 4 := by
  induction l with
  | nil => rfl
  | cons c l ih => rw [codesV_cons, List.length_append, ih]; simp [Cd.cells]; omega

theorem codesV_at (l : List Cd) (sp : List Value) (i : Nat) (h : i < l.length) : ∃ p q, codesV l ++ sp = p ++ ((l.getD i Cd.zero).cells ++ q) ∧ p.length = i * 4 ∧ p = codesV (l.take i) ∧ q = codesV (l.drop (i + 1)) ++ sp := by
  refine ⟨codesV (l.take i), codesV (l.drop (i + 1)) ++ sp, ?_, by rw [codesV_length]; simp; omega, rfl, rfl⟩
  have e : l = l.take i ++ (l.getD i Cd.zero) :: l.drop (i + 1) := by
    have h1 : l.getD i Cd.zero = l[i] := by simp [h]
    rw [h1]; simp
  conv => lhs; rw [e, codesV_append, codesV_cons]
  simp

theorem codesV_block (l : List Cd) (sp : List Value) (i : Nat) (h : i < l.length) : ((codesV l ++ sp).drop (i * 4)).take 4 = (l.getD i Cd.zero).cells := by
  obtain ⟨p, q, h1, h2, _⟩ := codesV_at l sp i h
  rw [h1, ← h2]
  simp [Cd.cells]

theorem codesV_lit (l : List Cd) (sp : List Value) (i : Nat) (h : i < l.length) : ((codesV l ++ sp).drop (i * 4)).take 4 =
    [.int .u32 (l.getD i Cd.zero).sym, .int .u32 (l.getD i Cd.zero).cnt, .int .u32 (l.getD i Cd.zero).len, .int .u32 (l.getD i Cd.zero).val] := codesV_block l sp i h
theorem codesV_lit' (l : List Cd) (sp : List Value) (i : Nat) (h : i < l.length) {s c n v : Nat} (he : l.getD i Cd.zero = ⟨s, c, n, v⟩) : ((codesV l ++ sp).drop (i * 4)).take 4 =
    [.int .u32 s, .int .u32 c, .int .u32 n, .int .u32 v] := by rw [codesV_block l sp i h, he]; rfl
theorem lit_one (a b c d : Int) : ∀ v ∈ [Value.int .u32 a, .int .u32 b, .int .u32 c, .int .u32 d], v.oneCell' = true := by
  intro v hv
  simp at hv
  rcases hv with rfl | rfl | rfl | rfl <;> rfl

theorem codesV_get (l : List Cd) (sp : List Value) (i f : Nat) (h : i < l.length) (hf : f < 4) : (codesV l ++ sp)[i * 4 + f]? = (l.getD i Cd.zero).cells[f]? := by
  obtain ⟨p, q, h1, h2, _⟩ := codesV_at l sp i h
  rw [h1, ← h2, List.getElem?_append_right (by omega), Nat.add_sub_cancel_left, List.getElem?_append_left (by simpa [Cd.cells] using hf)]

theorem Cd.cells_one (c : Cd) : ∀ v ∈ c.cells, v.oneCell' = true := by
  intro v hv
  simp [Cd.cells] at hv
  rcases hv with rfl | rfl | rfl | rfl <;> rfl

theorem codesV_one (l : List Cd) : ∀ v ∈ codesV l, v.oneCell' = true := by
  intro v hv
  simp only [codesV, List.mem_flatMap] at hv
  obtain ⟨c, _, hc⟩ := hv
  exact c.cells_one v hc

theorem take_succ_getD (l : List Cd) (i : Nat) (h : i < l.length) : l.take (i + 1) = l.take i ++ [l.getD i Cd.zero] := by
  have h1 : l.getD i Cd.zero = l[i] := by simp [h]
  rw [h1, List.take_succ_eq_append_getElem h]

theorem codesV_take (l : List Cd) (i : Nat) (h : i < l.length) : codesV (l.take i) ++ ((l.getD i Cd.zero).cells).take (1 * 4) = codesV (l.take (i + 1)) := by
  rw [take_succ_getD l i h, codesV_append]
  rfl

theorem codesV_set (l : List Cd) (sp : List Value) (i : Nat) (h : i < l.length) (v : Nat) : (codesV l ++ sp).set (i * 4 + 3) (.int .u32 v) = codesV (l.set i { l.getD i Cd.zero with val := v }) ++ sp := by
  obtain ⟨p, q, h1, h2, h3, h4⟩ := codesV_at l sp i h
  rw [h1, ← h2, List.set_append_right _ _ (by omega), Nat.add_sub_cancel_left, List.set_append_left _ _ (by simp [Cd.cells])]
  have e : l.set i { l.getD i Cd.zero with val := v } = l.take i ++ { l.getD i Cd.zero with val := v } :: l.drop (i + 1) := by
    rw [List.set_eq_take_append_cons_drop, if_pos h]
  rw [e, codesV_append, codesV_cons, h3, h4]
  simp [Cd.cells]

/-- The tables' rows of the two types of codes. -/
theorem zero42 : zeroOf Try.prog 42 = some [.int .u32 0, .int .u32 0, .int .u32 0, .int .u32 0] := by kernel_rfl
theorem zero146 : zeroOf Try.prog 146 = some [.int .u32 0, .int .u32 0, .int .u32 0, .int .u32 0] := by kernel_rfl
theorem build146 (a b c d : Int) (w : World) : (Instr.build 146 [(0, .int .u32 a), (1, .int .u32 b), (2, .int .u32 c), (3, .int .u32 d)].toArray).run Try.prog w = .ok (.agg [.int .u32 a, .int .u32 b, .int .u32 c, .int .u32 d].toArray) w := by kernel_rfl
theorem build42 (a b c d : Int) (w : World) : (Instr.build 42 [(0, .int .u32 a), (1, .int .u32 b), (2, .int .u32 c), (3, .int .u32 d)].toArray).run Try.prog w = .ok (.agg [.int .u32 a, .int .u32 b, .int .u32 c, .int .u32 d].toArray) w := by kernel_rfl
theorem row79_0 (w : World) : (Instr.buildSlice 79 0 [].toArray).run Try.prog w = .ok (.slice (some ⟨w.heap.size, 0, none⟩) 0 0) (w.alloc (.cells [].toArray 146)) := by kernel_rfl
theorem row79_1 (a b c d : Value) (w : World) : (Instr.buildSlice 79 1 [(0, .agg [a, b, c, d].toArray)].toArray).run Try.prog w = .ok (.slice (some ⟨w.heap.size, 0, none⟩) 1 1) (w.alloc (.cells [a, b, c, d].toArray 146)) := by kernel_rfl
theorem row23_1 (a b c d : Value) (w : World) : (Instr.buildSlice 23 1 [(0, .agg [a, b, c, d].toArray)].toArray).run Try.prog w = .ok (.slice (some ⟨w.heap.size, 0, none⟩) 1 1) (w.alloc (.cells [a, b, c, d].toArray 42)) := by kernel_rfl

theorem of_info {P : Program} {t : TypeId} {a b : Nat} {z : Option Value} (h : (P.info? t).map (fun i => (i.size, i.bytes, i.zero)) = some (a, b, z)) : ∃ I, P.info? t = some I ∧ I.size = a ∧ I.bytes = b ∧ I.zero = z := by
  cases hI : P.info? t with
  | none => simp [hI] at h
  | some I => simp [hI] at h; exact ⟨I, rfl, h⟩
theorem info42 : (Try.prog.info? 42).map (fun i => (i.size, i.bytes, i.zero)) = some (4, 16, some (.agg #[.int .u32 0, .int .u32 0, .int .u32 0, .int .u32 0])) := by kernel_rfl
theorem info146 : (Try.prog.info? 146).map (fun i => (i.size, i.bytes, i.zero)) = some (4, 16, some (.agg #[.int .u32 0, .int .u32 0, .int .u32 0, .int .u32 0])) := by kernel_rfl
attribute [irreducible] codesV
end Go.Proofs.Ytjkpfliaflmppaa.Pc

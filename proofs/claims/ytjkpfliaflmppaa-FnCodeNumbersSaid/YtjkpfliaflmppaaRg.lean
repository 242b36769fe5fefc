/- Ranges as data: their cells, slices of them, and ranges that stand one behind the other. No condition. -/
import Derived.Test.YtjkpfliaflmppaaCd
namespace Go.Proofs.Ytjkpfliaflmppaa.Pc
open Go Go.RowKit Go.Proofs.Ytjkpfliaflmppaa.Vm

/-- A range: where it begins, and its bits. -/
structure Rg where
  base : Nat
  len : Nat

def Rg.zero : Rg := ⟨0, 0⟩
def Rg.cells (c : Rg) : List Value := [.int .u32 c.base, .int .u32 c.len]
def rangesV (l : List Rg) : List Value := l.flatMap Rg.cells

theorem rangesV_nil : rangesV [] = [] := rfl
theorem rangesV_append (l m : List Rg) : rangesV (l ++ m) = rangesV l ++ rangesV m := by simp [rangesV]
theorem rangesV_cons (c : Rg) (l : List Rg) : rangesV (c :: l) = c.cells ++ rangesV l := rfl
theorem rangesV_length (l : List Rg) : (rangesV l).length = l.length * 2 := by
  induction l with
  | nil => rfl
  | cons c l ih => rw [rangesV_cons, List.length_append, ih]; simp [Rg.cells]; omega

theorem rangesV_at (l : List Rg) (sp : List Value) (i : Nat) (h : i < l.length) : ∃ p q, rangesV l ++ sp = p ++ ((l.getD i Rg.zero).cells ++ q) ∧ p.length = i * 2 := by
  refine ⟨rangesV (l.take i), rangesV (l.drop (i + 1)) ++ sp, ?_, by rw [rangesV_length]; simp; omega⟩
  have e : l = l.take i ++ (l.getD i Rg.zero) :: l.drop (i + 1) := by
    have h1 : l.getD i Rg.zero = l[i] := by simp [h]
    rw [h1]; simp
  conv => lhs; rw [e, rangesV_append, rangesV_cons]
  simp

theorem rangesV_block (l : List Rg) (sp : List Value) (i : Nat) (h : i < l.length) {p n : Nat} (he : l.getD i Rg.zero = ⟨p, n⟩) : ((rangesV l ++ sp).drop (i * 2)).take 2 = [.int .u32 p, .int .u32 n] := by
  obtain ⟨p, q, h1, h2⟩ := rangesV_at l sp i h
  rw [h1, ← h2, he]
  simp [Rg.cells]
theorem rangesV_get (l : List Rg) (sp : List Value) (i f : Nat) (h : i < l.length) (hf : f < 2) : (rangesV l ++ sp)[i * 2 + f]? = (l.getD i Rg.zero).cells[f]? := by
  obtain ⟨p, q, h1, h2⟩ := rangesV_at l sp i h
  rw [h1, ← h2, List.getElem?_append_right (by omega), Nat.add_sub_cancel_left, List.getElem?_append_left (by simpa [Rg.cells] using hf)]
theorem lit2_one (a b : Int) : ∀ v ∈ [Value.int .u32 a, .int .u32 b], v.oneCell' = true := by
  intro v hv
  simp at hv
  rcases hv with rfl | rfl <;> rfl
theorem rtake_succ (l : List Rg) (i : Nat) (h : i < l.length) : l.take (i + 1) = l.take i ++ [l.getD i Rg.zero] := by
  have h1 : l.getD i Rg.zero = l[i] := by simp [h]
  rw [h1, List.take_succ_eq_append_getElem h]
theorem rangesV_take (l : List Rg) (i : Nat) (h : i < l.length) {p n : Nat} (he : l.getD i Rg.zero = ⟨p, n⟩) : rangesV (l.take i) ++ [Value.int .u32 p, .int .u32 n].take (1 * 2) = rangesV (l.take (i + 1)) := by
  rw [rtake_succ l i h, rangesV_append, he]
  rfl

/-! ### Ranges one behind the other -/

def rAt (a : Nat) (ls : List Nat) : Nat → Nat
  | 0 => a
  | i + 1 => rAt a ls i + 2 ^ ls.getD i 0
def mkR (a : Nat) (ls : List Nat) : List Rg := (List.range ls.length).map fun i => ⟨rAt a ls i, ls.getD i 0⟩
theorem mkR_length (a : Nat) (ls : List Nat) : (mkR a ls).length = ls.length := by simp [mkR]
theorem mkR_get (a : Nat) (ls : List Nat) (i : Nat) (h : i < ls.length) : (mkR a ls).getD i Rg.zero = ⟨rAt a ls i, ls.getD i 0⟩ := by simp [mkR, h]
/-- Lengths that are spoken of. -/
def OkN (ls : List Nat) : Prop := ls.length ≤ 30 ∧ ∀ i, i < ls.length → ls.getD i 0 ≤ 20
theorem rAt_le {a : Nat} {ls : List Nat} (h : OkN ls) : ∀ i, i ≤ ls.length → rAt a ls i ≤ a + i * 1048576
  | 0, _ => by simp [rAt]
  | i + 1, hi => by
    have ih := rAt_le (a := a) h i (by omega)
    have h1 := h.2 i (by omega)
    have h2 : 2 ^ ls.getD i 0 ≤ 2 ^ 20 := Nat.pow_le_pow_right (by omega) h1
    have h3 := Nat.add_le_add ih h2
    show rAt a ls i + 2 ^ ls.getD i 0 ≤ _
    omega
theorem rAt_mono {a : Nat} {ls : List Nat} : ∀ i j, i ≤ j → rAt a ls i ≤ rAt a ls j
  | i, 0, h => by
    obtain rfl : i = 0 := by omega
    exact Nat.le_refl _
  | i, j + 1, h => by
    by_cases hij : i = j + 1
    · subst hij; exact Nat.le_refl _
    · have := rAt_mono (a := a) (ls := ls) i j (by omega)
      exact Nat.le_trans this (Nat.le_add_right _ _)
theorem rAt_lt {a : Nat} {ls : List Nat} (i j : Nat) (h : i < j) : rAt a ls i < rAt a ls j := by
  have h1 := rAt_mono (a := a) (ls := ls) (i + 1) j h
  exact Nat.lt_of_lt_of_le (Nat.lt_add_of_pos_right (Nat.two_pow_pos _)) h1
theorem pow20 {n : Nat} (h : n ≤ 20) : 2 ^ n ≤ 1048576 ∧ 1 ≤ 2 ^ n := ⟨Nat.pow_le_pow_right (n := 2) (by omega) h, Nat.two_pow_pos _⟩

/-! ### Slices of numbers and of ranges -/

/-- A slice of u64 numbers. -/
def Us (s : Value) (ls : List Nat) (M : Mem) : Prop :=
  ∃ ad cap, s = .slice ad ls.length cap ∧ (ls = [] ∨ ∃ b own sp, ad = some ⟨b, 0, none⟩ ∧ (⟨own, b, 0, ints .u64 (ls.map Nat.cast) ++ sp⟩ : Sg) ∈ M)
theorem Us.at {s : Value} {ls : List Nat} {M : Mem} {i : Nat} (h : Us s ls M) (hi : i < ls.length) :
    ∃ b own sp cap, s = .slice (some ⟨b, 0, none⟩) ls.length cap ∧ (⟨own, b, 0, ints .u64 (ls.map Nat.cast) ++ sp⟩ : Sg) ∈ M ∧ (ints .u64 (ls.map Nat.cast) ++ sp)[i]? = some (.int .u64 (ls.getD i 0 : Nat)) := by
  obtain ⟨ad, cap, rfl, rfl | ⟨b, own, sp, rfl, hm⟩⟩ := h
  · simp at hi
  · refine ⟨b, own, sp, cap, rfl, hm, ?_⟩
    rw [List.getElem?_append_left (by rw [ints_length]; simpa using hi), ints_get (by simpa using hi)]
    simp [hi]
theorem Us.mono {s : Value} {xs : List Nat} {M M' : Mem} (h : Us s xs M) (hm : ∀ x ∈ M, x ∈ M') : Us s xs M' := by
  obtain ⟨ad, cap, h2, h3⟩ := h
  exact ⟨ad, cap, h2, h3.imp id fun ⟨b, o, sp, h4, h5⟩ => ⟨b, o, sp, h4, hm _ h5⟩⟩
theorem Us.of_own {s : Value} {ls : List Nat} {m : Mem} (h : Own s 1 (ints .u64 (ls.map Nat.cast)) m) : Us s ls m := by
  rcases h with ⟨rfl, h, rfl⟩ | ⟨b, len, cap, sp, rfl, rfl, h1, h2⟩
  · have : ls = [] := by
      have := congrArg List.length h
      rw [ints_length, List.length_map] at this
      exact List.eq_nil_of_length_eq_zero this
    subst this
    exact ⟨none, 0, rfl, .inl rfl⟩
  · obtain rfl : len = ls.length := by rw [ints_length, List.length_map] at h1; omega
    exact ⟨_, cap, rfl, .inr ⟨b, true, sp, rfl, .head _⟩⟩

/-- A slice of ranges. -/
def Rs (s : Value) (l : List Rg) (M : Mem) : Prop :=
  ∃ ad cap, s = .slice ad l.length cap ∧ (l = [] ∨ ∃ b own sp, ad = some ⟨b, 0, none⟩ ∧ (rangesV l ++ sp).length = cap * 2 ∧ (⟨own, b, 0, rangesV l ++ sp⟩ : Sg) ∈ M)
theorem Rs.at {s : Value} {l : List Rg} {M : Mem} (h : Rs s l M) (hl : 0 < l.length) :
    ∃ b own sp cap, s = .slice (some ⟨b, 0, none⟩) l.length cap ∧ (rangesV l ++ sp).length = cap * 2 ∧ (⟨own, b, 0, rangesV l ++ sp⟩ : Sg) ∈ M := by
  obtain ⟨ad, cap, rfl, rfl | ⟨b, own, sp, rfl, hc, hm⟩⟩ := h
  · simp at hl
  · exact ⟨b, own, sp, cap, rfl, hc, hm⟩
theorem Rs.mono {s : Value} {xs : List Rg} {M M' : Mem} (h : Rs s xs M) (hm : ∀ x ∈ M, x ∈ M') : Rs s xs M' := by
  obtain ⟨ad, cap, h2, h3⟩ := h
  exact ⟨ad, cap, h2, h3.imp id fun ⟨b, o, sp, h4, h6, h5⟩ => ⟨b, o, sp, h4, h6, hm _ h5⟩⟩
theorem Rs.of_own {s : Value} {l : List Rg} {m : Mem} (h : Own s 2 (rangesV l) m) : Rs s l m := by
  rcases h with ⟨rfl, h, rfl⟩ | ⟨b, len, cap, sp, rfl, rfl, h1, h2⟩
  · have : l = [] := by
      have := congrArg List.length h
      rw [rangesV_length] at this
      exact List.eq_nil_of_length_eq_zero (by simp only [List.length_nil] at this; omega)
    subst this
    exact ⟨none, 0, rfl, .inl rfl⟩
  · obtain rfl : len = l.length := by rw [rangesV_length] at h1; omega
    exact ⟨_, cap, rfl, .inr ⟨b, true, sp, rfl, h2, .head _⟩⟩

theorem zero69 : zeroOf Try.prog 69 = some [.int .u32 0, .int .u32 0] := by kernel_rfl
theorem zero141 : zeroOf Try.prog 141 = some [.int .u32 0, .int .u32 0] := by kernel_rfl
theorem build69 (a b : Int) (w : World) : (Instr.build 69 [(0, .int .u32 a), (1, .int .u32 b)].toArray).run Try.prog w = .ok (.agg [.int .u32 a, .int .u32 b].toArray) w := by kernel_rfl
theorem build141 (a b : Int) (w : World) : (Instr.build 141 [(0, .int .u32 a), (1, .int .u32 b)].toArray).run Try.prog w = .ok (.agg [.int .u32 a, .int .u32 b].toArray) w := by kernel_rfl
theorem row34_1 (a b : Value) (w : World) : (Instr.buildSlice 34 1 [(0, .agg [a, b].toArray)].toArray).run Try.prog w = .ok (.slice (some ⟨w.heap.size, 0, none⟩) 1 1) (w.alloc (.cells [a, b].toArray 69)) := by kernel_rfl
theorem row106_1 (a b : Value) (w : World) : (Instr.buildSlice 106 1 [(0, .agg [a, b].toArray)].toArray).run Try.prog w = .ok (.slice (some ⟨w.heap.size, 0, none⟩) 1 1) (w.alloc (.cells [a, b].toArray 141)) := by kernel_rfl
theorem row63_1 (a : Int) (w : World) : (Instr.buildSlice 63 1 [(0, .int .u64 a)].toArray).run Try.prog w = .ok (.slice (some ⟨w.heap.size, 0, none⟩) 1 1) (w.alloc (.cells [.int .u64 a].toArray 49)) := by kernel_rfl
theorem info69 : (Try.prog.info? 69).map (fun i => (i.size, i.bytes, i.zero)) = some (2, 8, some (.agg #[.int .u32 0, .int .u32 0])) := by kernel_rfl
theorem info141 : (Try.prog.info? 141).map (fun i => (i.size, i.bytes, i.zero)) = some (2, 8, some (.agg #[.int .u32 0, .int .u32 0])) := by kernel_rfl
theorem info49 : (Try.prog.info? 49).map (fun i => (i.size, i.bytes, i.zero)) = some (1, 8, some (.int .u64 0)) := by kernel_rfl
attribute [irreducible] rangesV
end Go.Proofs.Ytjkpfliaflmppaa.Pc

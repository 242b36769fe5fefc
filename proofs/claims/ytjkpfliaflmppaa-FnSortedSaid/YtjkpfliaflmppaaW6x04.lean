/- Codes as data: their cells, and what is known of rows of them. No condition. Rows of codes that are swapped: what stays, what is in order. No condition. Rules for unsigned numbers, told as natural numbers. No condition. More rules of the engine: rows split and put together, methods called through interfaces, copy, make with room to spare. No condition. A function that defers one call, which does nothing in the end. No condition. -/
import Derived.Test.YtjkpfliaflmppaaW6x03
import Derived.Test.YtjkpfliaflmppaaW6x02
import Derived.Recover

namespace Go.Proofs.Ytjkpfliaflmppaa.Pc
open Go Go.RowKit Go.Proofs.Ytjkpfliaflmppaa.Vm

/-- A code: symbol, count, length, value. -/
structure Cd where
  sym : Nat
  cnt : Nat
  len : Nat
  val : Nat

def Cd.zero : Cd := ⟨0, 0, 0, 0⟩
def Cd.cells (c : Cd) : List Value := [.int .u32 c.sym, .int .u32 c.cnt, .int .u32 c.len, .int .u32 c.val]
def codesV (l : List Cd) : List Value := l.flatMap Cd.cells

theorem codesV_nil : codesV [] = [] := rfl
theorem codesV_append (l m : List Cd) : codesV (l ++ m) = codesV l ++ codesV m := by simp [codesV]
theorem codesV_cons (c : Cd) (l : List Cd) : codesV (c :: l) = c.cells ++ codesV l := rfl
theorem codesV_length (l : List Cd) : (codesV l).length = l.length * 4 := by
  induction l with
  | nil => rfl
  | cons c l ih => rw [codesV_cons, List.length_append, ih]; simp [Cd.cells]; omega

theorem codesV_at (l : List Cd) (sp : List Value) (i : Nat) (h : i < l.length) : ∃ p q, codesV l ++ sp = p ++ ((l.getD i Cd.zero).cells ++ q) ∧ p.length = i * 4 ∧ p = codesV (l.take i) ∧ q = codesV (l.drop (i + 1)) ++ sp := by
  refine ⟨codesV (l.take i), codesV (l.drop (i + 1)) ++ sp, ?_, by rw [codesV_length]; simp; omega, rfl, rfl⟩
  have e : l = l.take i ++ (l.getD i Cd.zero) :: l.drop (i + 1) := by
    have h1 : l.getD i Cd.zero = l[i] := by simp [h]
    rw [h1]; simp
  conv => lhs; rw [e, codesV_append, codesV_cons]
  simp

theorem codesV_block (l : List Cd) (sp : List Value) (i : Nat) (h : i < l.length) : ((codesV l ++ sp).drop (i * 4)).take 4 = (l.getD i Cd.zero).cells := by
  obtain ⟨p, q, h1, h2, _⟩ := codesV_at l sp i h
  rw [h1, ← h2]
  simp [Cd.cells]

theorem codesV_lit (l : List Cd) (sp : List Value) (i : Nat) (h : i < l.length) : ((codesV l ++ sp).drop (i * 4)).take 4 =
    [.int .u32 (l.getD i Cd.zero).sym, .int .u32 (l.getD i Cd.zero).cnt, .int .u32 (l.getD i Cd.zero).len, .int .u32 (l.getD i Cd.zero).val] := codesV_block l sp i h
theorem codesV_lit' (l : List Cd) (sp : List Value) (i : Nat) (h : i < l.length) {s c n v : Nat} (he : l.getD i Cd.zero = ⟨s, c, n, v⟩) : ((codesV l ++ sp).drop (i * 4)).take 4 =
    [.int .u32 s, .int .u32 c, .int .u32 n, .int .u32 v] := by rw [codesV_block l sp i h, he]; rfl
theorem lit_one (a b c d : Int) : ∀ v ∈ [Value.int .u32 a, .int .u32 b, .int .u32 c, .int .u32 d], v.oneCell' = true := by
  intro v hv
  simp at hv
  rcases hv with rfl | rfl | rfl | rfl <;> rfl

theorem codesV_get (l : List Cd) (sp : List Value) (i f : Nat) (h : i < l.length) (hf : f < 4) : (codesV l ++ sp)[i * 4 + f]? = (l.getD i Cd.zero).cells[f]? := by
  obtain ⟨p, q, h1, h2, _⟩ := codesV_at l sp i h
  rw [h1, ← h2, List.getElem?_append_right (by omega), Nat.add_sub_cancel_left, List.getElem?_append_left (by simpa [Cd.cells] using hf)]

theorem Cd.cells_one (c : Cd) : ∀ v ∈ c.cells, v.oneCell' = true := by
  intro v hv
  simp [Cd.cells] at hv
  rcases hv with rfl | rfl | rfl | rfl <;> rfl

theorem codesV_one (l : List Cd) : ∀ v ∈ codesV l, v.oneCell' = true := by
  intro v hv
  simp only [codesV, List.mem_flatMap] at hv
  obtain ⟨c, _, hc⟩ := hv
  exact c.cells_one v hc

theorem take_succ_getD (l : List Cd) (i : Nat) (h : i < l.length) : l.take (i + 1) = l.take i ++ [l.getD i Cd.zero] := by
  have h1 : l.getD i Cd.zero = l[i] := by simp [h]
  rw [h1, List.take_succ_eq_append_getElem h]

theorem codesV_take (l : List Cd) (i : Nat) (h : i < l.length) : codesV (l.take i) ++ ((l.getD i Cd.zero).cells).take (1 * 4) = codesV (l.take (i + 1)) := by
  rw [take_succ_getD l i h, codesV_append]
  rfl

theorem codesV_set (l : List Cd) (sp : List Value) (i : Nat) (h : i < l.length) (v : Nat) : (codesV l ++ sp).set (i * 4 + 3) (.int .u32 v) = codesV (l.set i { l.getD i Cd.zero with val := v }) ++ sp := by
  obtain ⟨p, q, h1, h2, h3, h4⟩ := codesV_at l sp i h
  rw [h1, ← h2, List.set_append_right _ _ (by omega), Nat.add_sub_cancel_left, List.set_append_left _ _ (by simp [Cd.cells])]
  have e : l.set i { l.getD i Cd.zero with val := v } = l.take i ++ { l.getD i Cd.zero with val := v } :: l.drop (i + 1) := by
    rw [List.set_eq_take_append_cons_drop, if_pos h]
  rw [e, codesV_append, codesV_cons, h3, h4]
  simp [Cd.cells]

/-- The tables' rows of the two types of codes. -/
theorem zero42 : zeroOf Try.prog 42 = some [.int .u32 0, .int .u32 0, .int .u32 0, .int .u32 0] := by kernel_rfl
theorem zero146 : zeroOf Try.prog 146 = some [.int .u32 0, .int .u32 0, .int .u32 0, .int .u32 0] := by kernel_rfl
theorem build146 (a b c d : Int) (w : World) : (Instr.build 146 [(0, .int .u32 a), (1, .int .u32 b), (2, .int .u32 c), (3, .int .u32 d)].toArray).run Try.prog w = .ok (.agg [.int .u32 a, .int .u32 b, .int .u32 c, .int .u32 d].toArray) w := by kernel_rfl
theorem build42 (a b c d : Int) (w : World) : (Instr.build 42 [(0, .int .u32 a), (1, .int .u32 b), (2, .int .u32 c), (3, .int .u32 d)].toArray).run Try.prog w = .ok (.agg [.int .u32 a, .int .u32 b, .int .u32 c, .int .u32 d].toArray) w := by kernel_rfl
theorem row79_0 (w : World) : (Instr.buildSlice 79 0 [].toArray).run Try.prog w = .ok (.slice (some ⟨w.heap.size, 0, none⟩) 0 0) (w.alloc (.cells [].toArray 146)) := by kernel_rfl
theorem row79_1 (a b c d : Value) (w : World) : (Instr.buildSlice 79 1 [(0, .agg [a, b, c, d].toArray)].toArray).run Try.prog w = .ok (.slice (some ⟨w.heap.size, 0, none⟩) 1 1) (w.alloc (.cells [a, b, c, d].toArray 146)) := by kernel_rfl
theorem row23_1 (a b c d : Value) (w : World) : (Instr.buildSlice 23 1 [(0, .agg [a, b, c, d].toArray)].toArray).run Try.prog w = .ok (.slice (some ⟨w.heap.size, 0, none⟩) 1 1) (w.alloc (.cells [a, b, c, d].toArray 42)) := by kernel_rfl

theorem of_info {P : Program} {t : TypeId} {a b : Nat} {z : Option Value} (h : (P.info? t).map (fun i => (i.size, i.bytes, i.zero)) = some (a, b, z)) : ∃ I, P.info? t = some I ∧ I.size = a ∧ I.bytes = b ∧ I.zero = z := by
  cases hI : P.info? t with
  | none => simp [hI] at h
  | some I => simp [hI] at h; exact ⟨I, rfl, h⟩
theorem info42 : (Try.prog.info? 42).map (fun i => (i.size, i.bytes, i.zero)) = some (4, 16, some (.agg #[.int .u32 0, .int .u32 0, .int .u32 0, .int .u32 0])) := by kernel_rfl
theorem info146 : (Try.prog.info? 146).map (fun i => (i.size, i.bytes, i.zero)) = some (4, 16, some (.agg #[.int .u32 0, .int .u32 0, .int .u32 0, .int .u32 0])) := by kernel_rfl
attribute [irreducible] codesV
end Go.Proofs.Ytjkpfliaflmppaa.Pc

namespace Go.Proofs.Ytjkpfliaflmppaa.Pc
open Go Go.RowKit Go.Proofs.Ytjkpfliaflmppaa.Vm

/-- Two codes change places. -/
def swp (cs : List Cd) (i j : Int) : List Cd := (cs.set i.toNat (cs.getD j.toNat Cd.zero)).set j.toNat (cs.getD i.toNat Cd.zero)
/-- The key of the code at a place. -/
def kk (key : Cd → Nat) (cs : List Cd) (x : Int) : Nat := key (cs.getD x.toNat Cd.zero)

theorem swp_length (cs : List Cd) (i j : Int) : (swp cs i j).length = cs.length := by simp [swp]
theorem swp_get {cs : List Cd} {i j : Int} (hi : 0 ≤ i) (hi2 : i < cs.length) (hj : 0 ≤ j) (hj2 : j < cs.length) {x : Int} (hx : 0 ≤ x) :
    (swp cs i j).getD x.toNat Cd.zero = if x = j then cs.getD i.toNat Cd.zero else if x = i then cs.getD j.toNat Cd.zero else cs.getD x.toNat Cd.zero := by
  unfold swp
  simp only [List.getD_eq_getElem?_getD, List.getElem?_set, List.length_set]
  by_cases h1 : x = j
  · subst h1
    rw [if_pos rfl, if_pos (by omega), if_pos rfl]
    rfl
  · rw [if_neg (by omega), if_neg h1]
    by_cases h2 : x = i
    · subst h2
      rw [if_pos rfl, if_pos (by omega), if_pos rfl]
      rfl
    · rw [if_neg (by omega), if_neg h2]
theorem swpc (key : Cd → Nat) {cs : List Cd} {i j : Int} (hi : 0 ≤ i) (hi2 : i < cs.length) (hj : 0 ≤ j) (hj2 : j < cs.length) {x : Int} (hx : 0 ≤ x) :
    (x = j ∧ kk key (swp cs i j) x = kk key cs i) ∨ (x = i ∧ kk key (swp cs i j) x = kk key cs j) ∨ (x ≠ i ∧ x ≠ j ∧ kk key (swp cs i j) x = kk key cs x) := by
  unfold kk
  rw [swp_get hi hi2 hj hj2 hx]
  by_cases h1 : x = j
  · rw [if_pos h1]; exact .inl ⟨h1, rfl⟩
  · rw [if_neg h1]
    by_cases h2 : x = i
    · rw [if_pos h2]; exact .inr (.inl ⟨h2, rfl⟩)
    · rw [if_neg h2]; exact .inr (.inr ⟨h2, h1, rfl⟩)
theorem swp_perm {cs : List Cd} {i j : Int} (hi : 0 ≤ i) (hi2 : i < cs.length) (hj : 0 ≤ j) (hj2 : j < cs.length) : (swp cs i j).Perm cs := by
  have h1 : i.toNat < cs.length := by omega
  have h2 : j.toNat < cs.length := by omega
  have e1 : cs.getD j.toNat Cd.zero = cs[j.toNat] := by simp [h2]
  have e2 : cs.getD i.toNat Cd.zero = cs[i.toNat] := by simp [h1]
  unfold swp
  rw [e1, e2]
  exact List.set_set_perm h1 h2

/-- Codes moved within a part of the row. -/
structure Ran (a b : Int) (cs cs' : List Cd) : Prop where
  perm : cs'.Perm cs
  out : ∀ x : Int, 0 ≤ x → x < a ∨ b ≤ x → cs'.getD x.toNat Cd.zero = cs.getD x.toNat Cd.zero
  ins : ∀ x : Int, a ≤ x → x < b → ∃ y : Int, a ≤ y ∧ y < b ∧ cs'.getD x.toNat Cd.zero = cs.getD y.toNat Cd.zero
theorem Ran.len {a b : Int} {cs cs' : List Cd} (h : Ran a b cs cs') : cs'.length = cs.length := h.perm.length_eq
theorem Ran.refl (a b : Int) (cs : List Cd) : Ran a b cs cs := ⟨.refl _, fun _ _ _ => rfl, fun x h1 h2 => ⟨x, h1, h2, rfl⟩⟩
theorem Ran.trans {a b : Int} {cs cs' cs'' : List Cd} (h : Ran a b cs cs') (h' : Ran a b cs' cs'') : Ran a b cs cs'' :=
  ⟨h'.perm.trans h.perm, fun x h0 hx => (h'.out x h0 hx).trans (h.out x h0 hx), fun x h1 h2 => by
    obtain ⟨y, h3, h4, e⟩ := h'.ins x h1 h2
    obtain ⟨z, h5, h6, e2⟩ := h.ins y h3 h4
    exact ⟨z, h5, h6, e.trans e2⟩⟩
theorem Ran.wide {a b a' b' : Int} {cs cs' : List Cd} (h : Ran a b cs cs') (h0 : 0 ≤ a') (ha : a' ≤ a) (hb : b ≤ b') : Ran a' b' cs cs' :=
  ⟨h.perm, fun x h0 hx => h.out x h0 (by omega), fun x h1 h2 => by
    by_cases hx : a ≤ x ∧ x < b
    · obtain ⟨y, h3, h4, e⟩ := h.ins x hx.1 hx.2
      exact ⟨y, by omega, by omega, e⟩
    · exact ⟨x, h1, h2, h.out x (by omega) (by omega)⟩⟩
theorem Ran.swp {a b : Int} {cs : List Cd} {i j : Int} (h0 : 0 ≤ a) (hn : b ≤ cs.length) (hi : a ≤ i) (hi2 : i < b) (hj : a ≤ j) (hj2 : j < b) : Ran a b cs (swp cs i j) := by
  refine ⟨swp_perm (by omega) (by omega) (by omega) (by omega), fun x h0 hx => ?_, fun x h1 h2 => ?_⟩
  · rw [swp_get (by omega) (by omega) (by omega) (by omega) h0, if_neg (by omega), if_neg (by omega)]
  · rw [swp_get (by omega) (by omega) (by omega) (by omega) (by omega)]
    by_cases h3 : x = j
    · rw [if_pos h3]; exact ⟨i, hi, hi2, rfl⟩
    · rw [if_neg h3]
      by_cases h4 : x = i
      · rw [if_pos h4]; exact ⟨j, hj, hj2, rfl⟩
      · rw [if_neg h4]; exact ⟨x, h1, h2, rfl⟩
/-- What is said of all keys of the part stays. -/
theorem Ran.all {key : Cd → Nat} {a b : Int} {cs cs' : List Cd} (h : Ran a b cs cs') {p : Nat → Prop} (hp : ∀ x : Int, a ≤ x → x < b → p (kk key cs x)) : ∀ x : Int, a ≤ x → x < b → p (kk key cs' x) := by
  intro x h1 h2
  obtain ⟨y, h3, h4, e⟩ := h.ins x h1 h2
  unfold kk
  rw [e]
  exact hp y h3 h4
theorem Ran.kout {key : Cd → Nat} {a b : Int} {cs cs' : List Cd} (h : Ran a b cs cs') {x : Int} (h0 : 0 ≤ x) (hx : x < a ∨ b ≤ x) : kk key cs' x = kk key cs x := by
  unfold kk; rw [h.out x h0 hx]

/-- The keys of a part are in order. -/
def Asc (key : Cd → Nat) (a b : Int) (cs : List Cd) : Prop := ∀ x y : Int, a ≤ x → x < y → y < b → kk key cs x ≤ kk key cs y

/-! ### Insertion -/
def Ins (key : Cd → Nat) (a i j : Int) (cs : List Cd) : Prop := ∀ x y : Int, a ≤ x → x < y → y < i → y ≠ j → kk key cs x ≤ kk key cs y
theorem ins_step {key : Cd → Nat} {a i j : Int} {cs : List Cd} (h : Ins key a i j cs) (h0 : 0 ≤ a) (ha : a < j) (hj : j < i) (hn : i ≤ cs.length) (hlt : kk key cs j < kk key cs (j - 1)) : Ins key a i (j - 1) (swp cs j (j - 1)) := by
  intro x y h1 h2 h3 h4
  have q1 := swpc key (cs := cs) (i := j) (j := j - 1) (by omega) (by omega) (by omega) (by omega) (x := x) (by omega)
  have q2 := swpc key (cs := cs) (i := j) (j := j - 1) (by omega) (by omega) (by omega) (by omega) (x := y) (by omega)
  have g1 := h x y
  have g2 := h x (j - 1)
  have g3 := h (j - 1) y
  have g4 := h j y
  rcases q1 with ⟨e, e1⟩ | ⟨e, e1⟩ | ⟨h5, h6, e1⟩ <;> rcases q2 with ⟨e', e2⟩ | ⟨e', e2⟩ | ⟨h7, h8, e2⟩ <;> omega
theorem ins_end {key : Cd → Nat} {a i j : Int} {cs : List Cd} (h : Ins key a i j cs) (hj : a ≤ j) (hle : a < j → kk key cs (j - 1) ≤ kk key cs j) : Asc key a i cs := by
  intro x y h1 h2 h3
  have g1 := h x y
  have g2 := h x (j - 1)
  by_cases e : y = j
  · subst e
    have : x = y - 1 ∨ x < y - 1 := by omega
    rcases this with rfl | h5
    · exact hle (by omega)
    · exact Nat.le_trans (g2 h1 h5 (by omega) (by omega)) (hle (by omega))
  · exact g1 h1 h2 h3 e

/-! ### Heaps -/
def Hp (key : Cd → Nat) (f lo hi r : Int) (cs : List Cd) : Prop := ∀ p c : Int, lo ≤ p → (c = 2 * p + 1 ∨ c = 2 * p + 2) → c < hi → p ≠ r → kk key cs (f + c) ≤ kk key cs (f + p)
def Hq (key : Cd → Nat) (f lo hi r : Int) (cs : List Cd) : Prop := ∀ p c : Int, lo ≤ p → (r = 2 * p + 1 ∨ r = 2 * p + 2) → (c = 2 * r + 1 ∨ c = 2 * r + 2) → c < hi → kk key cs (f + c) ≤ kk key cs (f + p)
theorem hp_step {key : Cd → Nat} {f lo hi r c : Int} {cs : List Cd} (h : Hp key f lo hi r cs) (h' : Hq key f lo hi r cs) (hlo : 0 ≤ lo) (hr : lo ≤ r) (hf : 0 ≤ f) (hn : f + hi ≤ cs.length) (hc : c = 2 * r + 1 ∨ c = 2 * r + 2) (hch : c < hi) (hlt : kk key cs (f + r) < kk key cs (f + c))
    (hmax : ∀ c2, (c2 = 2 * r + 1 ∨ c2 = 2 * r + 2) → c2 < hi → kk key cs (f + c2) ≤ kk key cs (f + c)) :
    Hp key f lo hi c (swp cs (f + r) (f + c)) ∧ Hq key f lo hi c (swp cs (f + r) (f + c)) := by
  have q := fun x (hx : 0 ≤ x) => swpc key (cs := cs) (i := f + r) (j := f + c) (by omega) (by omega) (by omega) (by omega) (x := x) hx
  constructor
  · intro p d h1 h2 h3 h4
    have q1 := q (f + p) (by omega)
    have q2 := q (f + d) (by omega)
    have g1 := h p d h1 h2 h3
    have g2 := h' p c h1
    have g3 := hmax d
    rcases q1 with ⟨e, e1⟩ | ⟨e, e1⟩ | ⟨h5, h6, e1⟩ <;> rcases q2 with ⟨e', e2⟩ | ⟨e', e2⟩ | ⟨h7, h8, e2⟩ <;> omega
  · intro p d h1 h2 h3 h4
    have q1 := q (f + p) (by omega)
    have q2 := q (f + d) (by omega)
    have g1 := h c d (by omega) h3 h4
    have : p = r := by omega
    subst this
    rcases q1 with ⟨e, e1⟩ | ⟨e, e1⟩ | ⟨h5, h6, e1⟩ <;> rcases q2 with ⟨e', e2⟩ | ⟨e', e2⟩ | ⟨h7, h8, e2⟩ <;> omega
/-- A whole heap. -/
def Heap (key : Cd → Nat) (f lo hi : Int) (cs : List Cd) : Prop := ∀ p c : Int, lo ≤ p → (c = 2 * p + 1 ∨ c = 2 * p + 2) → c < hi → kk key cs (f + c) ≤ kk key cs (f + p)
theorem hp_end {key : Cd → Nat} {f lo hi r : Int} {cs : List Cd} (h : Hp key f lo hi r cs) (hm : ∀ c, (c = 2 * r + 1 ∨ c = 2 * r + 2) → c < hi → kk key cs (f + c) ≤ kk key cs (f + r)) : Heap key f lo hi cs := by
  intro p c h1 h2 h3
  by_cases e : p = r
  · subst e; exact hm c h2 h3
  · exact h p c h1 h2 h3 e
theorem heap_top {key : Cd → Nat} {f hi : Int} {cs : List Cd} (h : Heap key f 0 hi cs) : ∀ (n : Nat) (x : Int), x < n → 0 ≤ x → x < hi → kk key cs (f + x) ≤ kk key cs f := by
  intro n
  induction n with
  | zero => intro x h1 h2; omega
  | succ n ih =>
    intro x h1 h2 h3
    by_cases e : x = 0
    · subst e; rw [Int.add_zero]; exact Nat.le_refl _
    · have := ih ((x - 1) / 2) (by omega) (by omega) (by omega)
      have g := h ((x - 1) / 2) x (by omega) (by omega) h3
      omega

/-! ### Parts of a row that is sorted by parts -/
/-- All is in order but within a part. -/
def Mid (key : Cd → Nat) (a0 b0 a b : Int) (cs : List Cd) : Prop := ∀ x y : Int, a0 ≤ x → x < y → y < b0 → x < a ∨ b ≤ y → kk key cs x ≤ kk key cs y
theorem Mid.ran {key : Cd → Nat} {a0 b0 a b : Int} {cs cs' : List Cd} (h : Mid key a0 b0 a b cs) (h0 : 0 ≤ a0) (ha : a0 ≤ a) (hb : b ≤ b0) (hr : Ran a b cs cs') : Mid key a0 b0 a b cs' := by
  have key : ∀ x : Int, a0 ≤ x → x < b0 → ∃ z : Int, kk key cs' x = kk key cs z ∧ ((z = x ∧ (x < a ∨ b ≤ x)) ∨ (a ≤ x ∧ x < b ∧ a ≤ z ∧ z < b)) := by
    intro x h1 h2
    by_cases hx : a ≤ x ∧ x < b
    · obtain ⟨y, h3, h4, e⟩ := hr.ins x hx.1 hx.2
      exact ⟨y, by unfold kk; rw [e], .inr ⟨hx.1, hx.2, h3, h4⟩⟩
    · exact ⟨x, hr.kout (by omega) (by omega), .inl ⟨rfl, by omega⟩⟩
  intro x y h1 h2 h3 h4
  obtain ⟨x', e1, hx⟩ := key x h1 (by omega)
  obtain ⟨y', e2, hy⟩ := key y (by omega) h3
  rw [e1, e2]
  exact h x' y' (by omega) (by omega) (by omega) (by omega)
theorem Mid.done {key : Cd → Nat} {a0 b0 a b : Int} {cs : List Cd} (h : Mid key a0 b0 a b cs) (hs : Asc key a b cs) : Asc key a0 b0 cs := by
  intro x y h1 h2 h3
  have g1 := h x y h1 h2 h3
  have g2 := hs x y
  by_cases hx : x < a ∨ b ≤ y
  · exact g1 hx
  · exact g2 (by omega) h2 (by omega)
/-- Behind a part that is in order and not above what follows it. -/
theorem Mid.right {key : Cd → Nat} {a0 b0 a b m : Int} {cs : List Cd} (h : Mid key a0 b0 a b cs) (hs : Asc key a m cs) (hle : ∀ x y : Int, a ≤ x → x < m → m ≤ y → y < b → kk key cs x ≤ kk key cs y) : Mid key a0 b0 m b cs := by
  intro x y h1 h2 h3 h4
  have g1 := h x y h1 h2 h3
  have g2 := hs x y
  have g3 := hle x y
  by_cases hx : x < a ∨ b ≤ y
  · exact g1 hx
  · by_cases hy : y < m
    · exact g2 (by omega) h2 hy
    · exact g3 (by omega) (by omega) (by omega) (by omega)
theorem Mid.left {key : Cd → Nat} {a0 b0 a b m : Int} {cs : List Cd} (h : Mid key a0 b0 a b cs) (hs : Asc key m b cs) (hle : ∀ x y : Int, a ≤ x → x < m → m ≤ y → y < b → kk key cs x ≤ kk key cs y) : Mid key a0 b0 a m cs := by
  intro x y h1 h2 h3 h4
  have g1 := h x y h1 h2 h3
  have g2 := hs x y
  have g3 := hle x y
  by_cases hx : x < a ∨ b ≤ y
  · exact g1 hx
  · by_cases hy : m ≤ x
    · exact g2 hy h2 (by omega)
    · exact g3 (by omega) (by omega) (by omega) (by omega)
end Go.Proofs.Ytjkpfliaflmppaa.Pc

namespace Go.Proofs.Ytjkpfliaflmppaa.Vm
open Go Go.RowKit

section
variable {pr : Bool} {P : Program} {N : Fm} {E : Env} {M : Mem}

theorem wrap_nat {k : IntKind} (hk : k.signed = false) (n : Nat) : k.wrap (n : Int) = ((n % 2 ^ k.bits : Nat) : Int) := by
  cases k <;> simp [IntKind.signed] at hk <;> simp [IntKind.wrap, IntKind.signed, IntKind.bits]

theorem wrap_nat_lt {k : IntKind} (hk : k.signed = false) {n : Nat} (h : n < 2 ^ k.bits) : k.wrap (n : Int) = (n : Int) := by
  rw [wrap_nat hk, Nat.mod_eq_of_lt h]

/-- '&', '|', '^' of natural numbers. -/
def bitN : BinOp → Nat → Nat → Option Nat
  | .and, p, q => some (p &&& q)
  | .or, p, q => some (p ||| q)
  | .xor, p, q => some (p ^^^ q)
  | _, _, _ => none

theorem ofInt_nat (n p : Nat) (h : p < 2 ^ n) : (BitVec.ofInt n (p : Int)).toNat = p := by
  rw [BitVec.ofInt_natCast, BitVec.toNat_ofNat, Nat.mod_eq_of_lt h]

theorem P_bitN {op : BinOp} {t t2 : TypeId} {x y : Operand} {k : IntKind} {p q r : Nat} (hx : ev E x = some (.int k (p : Int))) (hy : ev E y = some (.int k (q : Int))) (hr : bitN op p q = some r) (hk : k.signed = false)
    (hp : p < 2 ^ k.bits) (hq : q < 2 ^ k.bits) : Pure P N E M (.binOp op t x y t2) (.int k (r : Int)) := by
  cases op <;> simp [bitN] at hr <;> subst hr
  · have := P_bits (P := P) (N := N) (M := M) (op := .and) (t := t) (t2 := t2) hx hy rfl
    rw [BitVec.toNat_and, ofInt_nat _ _ hp, ofInt_nat _ _ hq, wrap_nat_lt hk (Nat.lt_of_le_of_lt Nat.and_le_left hp)] at this
    exact this
  · have := P_bits (P := P) (N := N) (M := M) (op := .or) (t := t) (t2 := t2) hx hy rfl
    rw [BitVec.toNat_or, ofInt_nat _ _ hp, ofInt_nat _ _ hq, wrap_nat_lt hk (Nat.or_lt_two_pow hp hq)] at this
    exact this
  · have := P_bits (P := P) (N := N) (M := M) (op := .xor) (t := t) (t2 := t2) hx hy rfl
    rw [BitVec.toNat_xor, ofInt_nat _ _ hp, ofInt_nat _ _ hq, wrap_nat_lt hk (Nat.xor_lt_two_pow hp hq)] at this
    exact this

theorem P_shrN {t t2 : TypeId} {x y : Operand} {k k2 : IntKind} {p q : Nat} (hx : ev E x = some (.int k (p : Int))) (hy : ev E y = some (.int k2 (q : Int))) (hp : p < 2 ^ k.bits) :
    Pure P N E M (.binOp .shr t x y t2) (.int k ((p / 2 ^ q : Nat) : Int)) := by
  have := P_shr (P := P) (N := N) (M := M) (t := t) (t2 := t2) hx hy (by omega)
  have e : (p : Int).fdiv (2 ^ min (q : Int).toNat k.bits) = ((p / 2 ^ q : Nat) : Int) := by
    simp only [Int.toNat_natCast]
    rw [Int.fdiv_eq_ediv_of_nonneg _ (by exact Int.le_of_lt (Int.pow_pos (by omega)))]
    have h2 : ((p : Int) / 2 ^ min q k.bits) = ((p / 2 ^ min q k.bits : Nat) : Int) := by simp
    rw [h2]
    congr 1
    rcases Nat.le_total q k.bits with h | h
    · rw [Nat.min_eq_left h]
    · rw [Nat.min_eq_right h, Nat.div_eq_of_lt hp, Nat.div_eq_of_lt (Nat.lt_of_lt_of_le hp (Nat.pow_le_pow_right (by omega) h))]
  rw [e] at this
  exact this

theorem P_shlN {t t2 : TypeId} {x y : Operand} {k k2 : IntKind} {p q : Nat} (hx : ev E x = some (.int k (p : Int))) (hy : ev E y = some (.int k2 (q : Int))) (hk : k.signed = false) :
    Pure P N E M (.binOp .shl t x y t2) (.int k ((p * 2 ^ q % 2 ^ k.bits : Nat) : Int)) := by
  have := P_shl (P := P) (N := N) (M := M) (t := t) (t2 := t2) hx hy (by omega)
  have e : k.wrap ((p : Int) * 2 ^ min (q : Int).toNat k.bits) = ((p * 2 ^ q % 2 ^ k.bits : Nat) : Int) := by
    simp only [Int.toNat_natCast]
    have h2 : ((p : Int) * 2 ^ min q k.bits) = ((p * 2 ^ min q k.bits : Nat) : Int) := by simp
    rw [h2, wrap_nat hk]
    congr 1
    rcases Nat.le_total q k.bits with h | h
    · rw [Nat.min_eq_left h]
    · rw [Nat.min_eq_right h]
      have h3 : 2 ^ q = 2 ^ k.bits * 2 ^ (q - k.bits) := by rw [← Nat.pow_add]; congr 1; omega
      rw [h3, ← Nat.mul_assoc, Nat.mul_mod_left, Nat.mul_right_comm, Nat.mul_mod_left]
  rw [e] at this
  exact this

theorem P_convN {s t : TypeId} {x : Operand} {k k2 : IntKind} {p : Nat} (hs : Und P s (.int k)) (ht : Und P t (.int k2)) (hx : ev E x = some (.int k (p : Int))) (hk : k2.signed = false) :
    Pure P N E M (.convert s t x) (.int k2 ((p % 2 ^ k2.bits : Nat) : Int)) := by
  have := P_conv (P := P) (N := N) (M := M) hs ht hx
  rw [wrap_nat hk] at this
  exact this

/-- Sums, differences and products, told as natural numbers and cut to their kind. -/
theorem P_addN {t t2 : TypeId} {x y : Operand} {k : IntKind} {p q : Nat} (hx : ev E x = some (.int k (p : Int))) (hy : ev E y = some (.int k (q : Int))) (hk : k.signed = false) :
    Pure P N E M (.binOp .add t x y t2) (.int k (((p + q) % 2 ^ k.bits : Nat) : Int)) := by
  have := P_arw (P := P) (N := N) (M := M) (op := .add) (t := t) (t2 := t2) hx hy rfl
  have e : k.wrap ((p : Int) + q) = (((p + q) % 2 ^ k.bits : Nat) : Int) := by rw [← wrap_nat hk]; simp
  rw [e] at this
  exact this
/-- .. with the result as one says it. -/
theorem P_shlE {t t2 : TypeId} {x y : Operand} {k k2 : IntKind} {p q r : Nat} (hx : ev E x = some (.int k (p : Int))) (hy : ev E y = some (.int k2 (q : Int))) (hk : k.signed = false) (hr : p * 2 ^ q % 2 ^ k.bits = r) :
    Pure P N E M (.binOp .shl t x y t2) (.int k (r : Int)) := by subst hr; exact P_shlN hx hy hk
theorem P_shrE {t t2 : TypeId} {x y : Operand} {k k2 : IntKind} {p q r : Nat} (hx : ev E x = some (.int k (p : Int))) (hy : ev E y = some (.int k2 (q : Int))) (hp : p < 2 ^ k.bits) (hr : p / 2 ^ q = r) :
    Pure P N E M (.binOp .shr t x y t2) (.int k (r : Int)) := by subst hr; exact P_shrN hx hy hp
theorem P_addE {t t2 : TypeId} {x y : Operand} {k : IntKind} {p q r : Nat} (hx : ev E x = some (.int k (p : Int))) (hy : ev E y = some (.int k (q : Int))) (hk : k.signed = false) (hr : (p + q) % 2 ^ k.bits = r) :
    Pure P N E M (.binOp .add t x y t2) (.int k (r : Int)) := by subst hr; exact P_addN hx hy hk
/-- Any result that is equal. -/
theorem P_is {op : Op} {v v' : Value} (h : Pure P N E M op v) (e : v = v') : Pure P N E M op v' := e ▸ h

/-! ### Places that are told by a sum -/

theorem P_loadAt {t : TypeId} {x : Operand} {own : Bool} {b p o n : Nat} {l : List Value} {v : Value} (ht : PlainT P t)
    (hx : ev E x = some (.pointer (some ⟨b, p, none⟩))) (hp : p = o + n) (hm : (⟨own, b, o, l⟩ : Sg) ∈ M) (hv : l[n]? = some v) : Pure P N E M (.load t x) v := by
  subst hp; exact P_load ht hx hm hv

theorem P_loadAggAt {t : TypeId} {x : Operand} {own : Bool} {b p o n i : Nat} {l cs : List Value} (ht : AggT P t) (hn : Cel P t n) (hn0 : 0 < n)
    (hx : ev E x = some (.pointer (some ⟨b, p, none⟩))) (hp : p = o + i) (hm : (⟨own, b, o, l⟩ : Sg) ∈ M) (hl : i + n ≤ l.length) (hc : (l.drop i).take n = cs) : Pure P N E M (.load t x) (.agg cs.toArray) := by
  subst hp; exact P_loadAgg ht hn hn0 hx hm hl hc

variable {Fin : Post} {k : List Kn} {ops : List Oper} {rest : List Oper} {d : Nat} {op : Op} {ty : TypeId} {pos : String} {after : Array Edge} {g : Option (Nat × Bool)} {v : Value}

theorem O_storeAt {t : TypeId} {p x : Operand} {b q o n : Nat} {l l' : List Value} {v : Value} {M' : Mem} (ht : Cel P t 1) (hp : ev E p = some (.pointer (some ⟨b, q, none⟩))) (hq : q = o + n) (hx : ev E x = some v)
    (hv : v.oneCell' = true) (hg : On E ops g) (hn : n < l.length) (hl : l.set n v = l') (hu : Upd1 M ⟨true, b, o, l⟩ l' M') (h : WO false P N Fin ops rest k E M') : WO false P N Fin ops (⟨none, .store t p x, ty, pos, after, g⟩ :: rest) k E M := by
  subst hq; subst hl; exact O_store ht hp hx hv hg hn hu h
theorem O_storeiE {t : TypeId} {p x : Operand} {b o : Nat} {l l' : List Int} {kd : IntKind} {z v : Int} {M' : Mem} (ht : Cel P t 1) (hp : ev E p = some (.pointer (some ⟨b, o + z.toNat, none⟩)))
    (hx : ev E x = some (.int kd v)) (hl : wr l z v = l') (hg : On E ops g) (hu : Upd1 M ⟨true, b, o, ints kd l⟩ (ints kd l') M') (hn : z.toNat < l.length) (h : WO false P N Fin ops rest k E M') :
    WO false P N Fin ops (⟨none, .store t p x, ty, pos, after, g⟩ :: rest) k E M := by
  subst hl; exact O_storei ht hp hx hg hu hn h
end
end Go.Proofs.Ytjkpfliaflmppaa.Vm

namespace Go.Proofs.Ytjkpfliaflmppaa.Vm
open Go Go.RowKit

theorem Rk.app {M L : Mem} (m : Mem) (h : Rk M L) : Rk (m ++ M) (m ++ L) := by
  induction m with
  | nil => exact h
  | cons s m ih => exact .cons .head ih
theorem Rk.left (m M : Mem) : Rk (M ++ m) M := by
  induction M with
  | nil => exact .nil
  | cons s M ih => exact .cons .head ih
theorem Rk.right (m M : Mem) : Rk (m ++ M) M := by
  induction m with
  | nil => exact .rfl
  | cons s m ih => exact .drop ih

theorem Sim.split {pr : Bool} {base : Nat} {w0 w : World} {M : Mem} {own : Bool} {b o o2 : Nat} {xs ys : List Value} (h : Sim pr base w0 w (⟨own, b, o, xs ++ ys⟩ :: M)) (ho : o2 = o + xs.length) :
    Sim pr base w0 w (⟨own, b, o, xs⟩ :: ⟨own, b, o2, ys⟩ :: M) := by
  subst ho
  obtain ⟨c, T, lo, hi, hh, h1, h2, h3⟩ := h.seg _ (.head _)
  simp only [List.length_append] at h1 h2 h3
  have hd := h.dis
  cases hd with
  | cons hd1 hd2 =>
    refine ⟨h.bel, h.hb, ?_, ?_, h.same⟩
    · intro s hs
      cases hs with
      | head =>
        refine ⟨c, T, lo, hi, hh, by simp only; omega, fun i hi => ?_, fun ho => ⟨(h3 ho).1, fun i hi => (h3 ho).2 i (by simp only at hi; omega)⟩⟩
        have := h2 i (by simp only at hi; omega)
        rw [List.getElem?_append_left hi] at this
        exact this
      | tail _ hs =>
        cases hs with
        | head =>
          refine ⟨c, T, lo, hi, hh, by simp only; omega, fun i hi => ?_, fun ho => ⟨(h3 ho).1, fun i hi => ?_⟩⟩
          · have := h2 (xs.length + i) (by simp only at hi; omega)
            rw [List.getElem?_append_right (by omega), Nat.add_sub_cancel_left] at this
            rw [Nat.add_assoc]; exact this
          · have := (h3 ho).2 (xs.length + i) (by simp only at hi; omega)
            simp only at this ⊢
            omega
        | tail _ hs => exact h.seg s (.tail _ hs)
    · refine .cons (fun t ht => ?_) (.cons (fun t ht => ?_) hd2)
      · cases ht with
        | head => exact .inr (.inr (.inl (Nat.le_refl _)))
        | tail _ ht =>
          have := hd1 t ht
          unfold Sg.apart at *
          simp only [List.length_append] at this ⊢
          rcases this with h | h | h | h
          · exact .inl h
          · exact .inr (.inl h)
          · exact .inr (.inr (.inl (by omega)))
          · exact .inr (.inr (.inr (by omega)))
      · have := hd1 t ht
        unfold Sg.apart at *
        simp only [List.length_append] at this ⊢
        rcases this with h | h | h | h
        · exact .inl h
        · exact .inr (.inl h)
        · exact .inr (.inr (.inl (by omega)))
        · exact .inr (.inr (.inr (by omega)))

section
variable {pr : Bool} {P : Program} {N : Fm} {Fin : Post} {k : List Kn} {E : Env} {M : Mem} {Q : Post}
variable {ops : List Oper} {rest : List Oper} {d : Nat} {op : Op} {ty : TypeId} {pos : String} {after : Array Edge} {g : Option (Nat × Bool)} {v : Value}

theorem O_split {own : Bool} {b o o2 : Nat} {xs ys l : List Value} (hl : l = xs ++ ys) (ho : o2 = o + xs.length) (h : WO pr P N Fin ops rest k E (⟨own, b, o, xs⟩ :: ⟨own, b, o2, ys⟩ :: M)) :
    WO pr P N Fin ops rest k E (⟨own, b, o, l⟩ :: M) := by
  subst hl
  exact ⟨⟨fun base w0 a w hA hS => h.out.out base w0 a w hA (hS.split ho)⟩⟩

/-! ### Methods called through interfaces -/

theorem OL_invoke {r : Operand} {nm : String} {rv : Value} {xs : List Operand} {ts : Array TypeId} {f : FuncId} {args : Array Value} {vs : List Value} {R : Value → Mem → Prop}
    (hc : ev E r = some rv) (hx : evs E xs = some vs) (hm : ∀ w, (callMethod rv nm vs.toArray).run P w = .ok (.enter f args) w) (hg : On E ops g) (hd : Nat.blt d N.n = true)
    (hR : HC P f args M R) (h : ∀ v M', R v M' → OL false P N ops Q rest ((d, v) :: E) M') :
    OL false P N ops Q (⟨some d, .call { callee := .invoke r nm, args := xs.toArray, argTypes := ts }, ty, pos, after, g⟩ :: rest) E M := by
  constructor
  intro base w0 a w hA hS
  unfold wpList
  rw [if_pos (On.wanted (o := ⟨some d, .call { callee := .invoke r nm, args := xs.toArray, argTypes := ts }, ty, pos, after, g⟩) hg hA)]
  refine .inl ?_
  unfold Oper.wp
  have hr : (execOp a.eval ⟨some d, .call { callee := .invoke r nm, args := xs.toArray, argTypes := ts }, ty, pos, after, g⟩).run P w = .ok (.enter f args) w := by
    have e : xs.toArray.map a.eval = vs.toArray := by simp [hA.evals hx]
    simp [execOp, resolve, e, hA.eval hc, invoke]
    exact hm w
  rw [hr]
  refine (hR.out base w0 w hS).mono fun e w' ⟨v, M', he, hS', hv⟩ => ?_
  subst he
  exact (h v M' hv).out base w0 _ w' (hA.put hd v) hS'

theorem O_invoke {r : Operand} {nm : String} {rv : Value} {xs : List Operand} {ts : Array TypeId} {f : FuncId} {args : Array Value} {vs : List Value} {R : Value → Mem → Prop}
    (hc : ev E r = some rv) (hx : evs E xs = some vs) (hm : ∀ w, (callMethod rv nm vs.toArray).run P w = .ok (.enter f args) w) (hg : On E ops g) (hd : Nat.blt d N.n = true)
    (hR : HC P f args M R) (h : ∀ v M', R v M' → WO false P N Fin ops rest k ((d, v) :: E) M') :
    WO false P N Fin ops (⟨some d, .call { callee := .invoke r nm, args := xs.toArray, argTypes := ts }, ty, pos, after, g⟩ :: rest) k E M := ⟨OL_invoke hc hx hm hg hd hR fun v M' hv => (h v M' hv).out⟩

/-! ### copy -/

/-- 'copy' of n elements' cells ys into a row from place i on. -/
theorem run_copy {t e t2 ty : TypeId} {I : TypeInfo} {base : Nat} {w0 : World} {b o bx ox ln cn n lx cx size i : Nat} {l ys : List Value} {w : World} (ht : Und P t (.slice e))
    (hI : P.info? e = some I) (hsz : I.size = size) (hn : min lx ln = n) (hx : (loadCells ⟨bx, ox, none⟩ (n * size)).run P w = .ok ys.toArray w)
    (hS : Sim false base w0 w (⟨true, b, o, l⟩ :: M)) (hv : ∀ v ∈ ys, v.oneCell' = true) (hl : i + ys.length ≤ l.length) :
    ∃ w', (Builtin.copy_ #[t, t2] ty #[.slice (some ⟨b, o + i, none⟩) ln cn, .slice (some ⟨bx, ox, none⟩) lx cx]).run P w = .ok (.int .i64 n) w' ∧ Sim false base w0 w' (⟨true, b, o, putAt l i ys⟩ :: M) := by
  obtain ⟨w', h1, h2⟩ := run_storeCells (P := P) (i := i) ys 0 l w hS hv (by omega)
  refine ⟨w', ?_, h2⟩
  unfold Builtin.copy_
  have hn' : Nat.min lx ln = n := hn
  simp [ht.run, sizeOf, typeInfo, hI, hsz, Builtin.lenOf, Builtin.firstCells, hn', hx, h1, goInt]

/-- 'copy' where one of both is empty. -/
theorem run_copy0 {t e t2 ty : TypeId} {I : TypeInfo} {bd bs : Option Addr} {ln cn lx cx : Nat} {w : World} (ht : Und P t (.slice e))
    (hI : P.info? e = some I) (hn : min lx ln = 0) :
    (Builtin.copy_ #[t, t2] ty #[.slice bd ln cn, .slice bs lx cx]).run P w = .ok (.int .i64 0) w := by
  unfold Builtin.copy_
  have hn' : Nat.min lx ln = 0 := hn
  cases bd <;> cases bs <;> simp [ht.run, sizeOf, typeInfo, hI, Builtin.lenOf, Builtin.firstCells, hn', goInt, loadCells, loadCellsFrom, storeCells]

theorem P_copy0 {t e t2 : TypeId} {I : TypeInfo} {x y : Operand} {bd bs : Option Addr} {ln cn lx cx : Nat} (ht : Und P t (.slice e)) (hI : P.info? e = some I)
    (hx : ev E x = some (.slice bd ln cn)) (hy : ev E y = some (.slice bs lx cx)) (hn : min lx ln = 0) :
    Pure P N E M (.call { callee := .builtin .copy, args := #[x, y], argTypes := #[t, t2] }) (.int .i64 0) := by
  constructor
  intro pr base w0 a w hA hS d ty pos after g
  simp [execOp, resolve, invoke, builtin, hA.eval hx, hA.eval hy, run_copy0 ht hI hn]

theorem O_copy {t e t2 : TypeId} {I : TypeInfo} {x y : Operand} {b o p bx ox px ln cn n lx cx size i j : Nat} {l l' lsrc : List Value} {ownx : Bool} {M0 : Mem} (ht : Und P t (.slice e))
    (hI : P.info? e = some I) (hsz : I.size = size) (hx : ev E x = some (.slice (some ⟨b, p, none⟩) ln cn)) (hy : ev E y = some (.slice (some ⟨bx, px, none⟩) lx cx)) (hn : min lx ln = n)
    (hp : p = o + i) (hpx : px = ox + j) (hm : Take1 M ⟨true, b, o, l⟩ M0) (hmx : (⟨ownx, bx, ox, lsrc⟩ : Sg) ∈ M) (hj : j + n * size ≤ lsrc.length) (hv : ∀ v ∈ lsrc, v.oneCell' = true)
    (hl : i + n * size ≤ l.length) (hl' : putAt l i ((lsrc.drop j).take (n * size)) = l') (hg : On E ops g) (hd : Nat.blt d N.n = true)
    (h : WO false P N Fin ops rest k ((d, .int .i64 n) :: E) (⟨true, b, o, l'⟩ :: M0)) :
    WO false P N Fin ops (⟨some d, .call { callee := .builtin .copy, args := #[x, y], argTypes := #[t, t2] }, ty, pos, after, g⟩ :: rest) k E M := by
  subst hp; subst hpx; subst hl'
  refine ⟨⟨?_⟩⟩
  intro base w0 a w hA hS
  unfold wpList
  rw [if_pos (On.wanted (o := ⟨some d, .call { callee := .builtin .copy, args := #[x, y], argTypes := #[t, t2] }, ty, pos, after, g⟩) hg hA)]
  refine .inl ?_
  unfold Oper.wp
  have h1 := run_loadCells (P := P) (hS.seg _ hmx) hj
  have hlen : i + ((lsrc.drop j).take (n * size)).length ≤ l.length := by
    have : ((lsrc.drop j).take (n * size)).length ≤ n * size := List.length_take_le _ _
    omega
  obtain ⟨w', h2, h3⟩ := run_copy (P := P) (t2 := t2) (ty := ty) (o := o) (i := i) (cn := cn) (cx := cx) (ys := (lsrc.drop j).take (n * size)) ht hI hsz hn h1 (hS.rk (.cons hm .rfl)) (fun v hv' => hv v (List.mem_of_mem_drop (List.mem_of_mem_take hv'))) hlen
  have hr : (execOp a.eval ⟨some d, .call { callee := .builtin .copy, args := #[x, y], argTypes := #[t, t2] }, ty, pos, after, g⟩).run P w = .ok (.value (.int .i64 n)) w' := by
    simp [execOp, resolve, invoke, builtin, hA.eval hx, hA.eval hy, h2]
  rw [hr]
  exact h.out.out base w0 _ _ (hA.put hd _) h3

/-! ### make with room to spare, empty structs, slices held against nil -/

theorem O_makeCap {t e : TypeId} {I : TypeInfo} {x y : Operand} {kd kd2 : IntKind} {n c : Nat} {v : Value} (ht : Und P t (.slice e)) (hI : P.info? e = some I) (hs : I.size = 1) (hz : I.zero = some v)
    (hv : v.cells = #[v]) (hx : ev E x = some (.int kd (n : Int))) (hy : ev E y = some (.int kd2 (c : Int))) (hn : n ≤ c) (hc : 0 < c) (h1 : I.bytes * c ≤ 281474976710656) (h2 : c ≤ 9223372036854775807) (hg : On E ops g) (hd : Nat.blt d N.n = true)
    (h : ∀ b, WO false P N Fin ops rest k ((d, .slice (some ⟨b, 0, none⟩) n c) :: E) (⟨true, b, 0, List.replicate c v⟩ :: M)) : WO false P N Fin ops (⟨some d, .makeSlice t x y, ty, pos, after, g⟩ :: rest) k E M := by
  refine ⟨⟨?_⟩⟩
  intro base w0 a w hA hS
  unfold wpList
  rw [if_pos (On.wanted (o := ⟨some d, .makeSlice t x y, ty, pos, after, g⟩) hg hA)]
  refine .inl ?_
  unfold Oper.wp
  have hw : ∀ z : Nat, z ≤ c → IntKind.i64.wrap (z : Int) = z := fun z hz => wrap_id (k := .i64) (by simp only [IntKind.min, IntKind.signed, IntKind.bits]; omega) (by simp [IntKind.max, IntKind.signed, IntKind.bits]; omega)
  have hr : (execOp a.eval ⟨some d, .makeSlice t x y, ty, pos, after, g⟩).run P w = .ok (.value (.slice (some ⟨w.heap.size, 0, none⟩) n c)) (w.alloc (.cells (Array.replicate c v) e)) := by
    have c2 : ¬ (281474976710656 : Int) < I.bytes * c := by
      have : (I.bytes : Int) * c = ((I.bytes * c : Nat) : Int) := by simp
      omega
    have c3 : ¬ (c : Int) < n := by omega
    have c4 : ¬ c < n := by omega
    have hc0 : ¬ c = 0 := by omega
    have hc2 : ¬ (c : Int) < 0 := by omega
    have hn2 : ¬ (n : Int) < 0 := by omega
    simp [execOp, Instr.makeSlice, hA.eval hx, hA.eval hy, ht.run, asInt, asIntOf, typeInfo, hI, hw n hn, hw c (Nat.le_refl _), c2, c3, c4, sizeOf, hs, hc0, hc2, hn2, newRow, zeroValue, hz, hv, range_map_const]
  rw [hr]
  have := hS.alloc (Array.replicate c v) e
  simp only [Array.toList_replicate] at this
  exact (h w.heap.size).out.out base w0 _ _ (hA.put hd _) this

/-- A struct without cells. -/
theorem P_load_empty {t : TypeId} {I : TypeInfo} {x : Operand} {ad : Addr} (ht : AggT P t) (hI : P.info? t = some I) (hs : I.size = 0) (hx : ev E x = some (.pointer (some ad))) : Pure P N E M (.load t x) (.agg #[]) := by
  constructor
  intro pr base w0 a w hA hS d ty pos after g
  obtain ⟨D, ht, hD⟩ := ht.out
  cases D <;> simp [isAggD] at hD <;> simp [execOp, Instr.loadAt, Instr.sureAddr, hA.eval hx, loadVar, isAgg, run_under ht, sizeOf, typeInfo, hI, hs, loadCells, loadCellsFrom]

/-- Is the slice nil? -/
def NilS : Value → Bool → Prop
  | .slice none _ _, r => r = true
  | .slice (some _) _ _, r => r = false
  | _, _ => False

theorem run_equalIn_snil {t e : TypeId} (ht : Und P t (.slice e)) (dp : Nat) (v : Value) (r : Bool) (hr : NilS v r) (w : World) :
    (Op.equalIn (dp + 1) t v (.slice none 0 0)).run P w = .ok r w := by
  match v, hr with
  | .slice none l c, hr => simp [NilS] at hr; subst hr; simp [Op.equalIn, ht.run]
  | .slice (some ad) l c, hr => simp [NilS] at hr; subst hr; simp [Op.equalIn, ht.run]

theorem P_snil {t e t2 : TypeId} {x : Operand} {v : Value} {r : Bool} (ht : Und P t (.slice e)) (hx : ev E x = some v) (hr : NilS v r) : Pure P N E M (.binOp .eql t x (.const (.slice none 0 0)) t2) (.bool r) := by
  constructor
  intro pr base w0 a w hA hS d ty pos after g
  have h1 : (Op.equal t v (.slice none 0 0)).run P w = .ok r w := run_equalIn_snil ht 9999 v r hr w
  have h2 : (eqGuard .eql t x (.const (.slice none 0 0)) v (.slice none 0 0)).run P w = .ok () w := by cases v <;> simp [NilS] at hr <;> simp [eqGuard]
  have h3 : binOp .eql t v (.slice none 0 0) = (do pure (.bool (← Op.equal t v (.slice none 0 0)))) := by cases v <;> simp [NilS] at hr <;> rfl
  have he : a.eval (.const (.slice none 0 0)) = .slice none 0 0 := rfl
  simp only [execOp, hA.eval hx, he, h3]
  simp [h1, h2]
end
end Go.Proofs.Ytjkpfliaflmppaa.Vm

namespace Go.Proofs.Ytjkpfliaflmppaa.Vm
open Go Go.RowKit

section
variable {pr : Bool} {P : Program} {M : Mem}

/-- What a deferred call leaves as it was. -/
def Idle (P : Program) (g : FuncId) : Prop := ∀ w, CallsD P g #[] .returning w fun e u' w' => e = .returned (.tuple #[]) ∧ u' = .returning ∧ w' = w

theorem HC_of_W_defer {f gf : FuncId} {fn : Func} {c0 c : Code} {id : Nat} {ty : TypeId} {pos : String} {after : Array Edge} {vs : List Value} {R : Value → Mem → Prop} {rs : List ResultVar} {n : Nat}
    (hf : P.funcs[f]? = some fn) (hb : fn.body = some (.seq c0 (.seq (.region id #[⟨none, .defer { callee := .value (.func gf), args := #[], argTypes := #[] }, ty, pos, after, none⟩] false) c))) (hN : fn.ntmps = n)
    (hrs : fn.results.toList = rs) (hs : Nat.ble vs.length n = true) (hi : Idle P gf) (hc : Callable P gf)
    (h : W pr P ⟨n, []⟩ (fun e E M => e = .normal ∧ W pr P ⟨n, [⟨.fn (.func gf) #[], #[]⟩]⟩ (Ends rs R) c [] E M) c0 [] (zipEnv 0 vs) M) : HCp pr P f vs.toArray M R := by
  constructor
  intro base w0 w hS
  have hle : vs.length ≤ n := by simpa using hs
  refine calls_of_wp_defers hf hb (wp_seq (wp_mono (h.out.out base w0 _ w ⟨rfl, by simp [hN]; omega, fun i v hv => ?_⟩ hS) ?_))
  · obtain ⟨h1, h2⟩ := zipEnv_get vs 0 i v hv
    simp only [Nat.sub_zero] at h2
    have hi : i < vs.length := by
      rcases Nat.lt_or_ge i vs.length with h | h
      · exact h
      · simp [List.getElem?_eq_none h] at h2
    rw [Array.getElem?_append_left (by simpa using hi)]
    simpa using h2
  · rintro e a w' ⟨E', M', hA', hS', rfl, hW⟩
    show Code.wp P _ _ a w'
    refine wp_seq (wp_region ?_)
    have hA2 : Ag ⟨n, [⟨.fn (.func gf) #[], #[]⟩]⟩ E' { a with defers := ⟨.fn (.func gf) #[], #[]⟩ :: a.defers } := ⟨by rw [hA'.defers], hA'.size, hA'.val⟩
    have hfin := wp_mono (hW.out.out base w0 _ w' hA2 hS') (Q' := bodyPostD P fn fun e w' => ∃ v M', e = .returned v ∧ Sim pr base w0 w' M' ∧ R v M') (by
      rintro e a2 w2 ⟨E2, M2, hA3, hS3, hq⟩
      have hend : (∃ v, resOf E2 rs = some v ∧ R v M2) → Leaves P fn a2.tmps (fun e w' => ∃ v M', e = .returned v ∧ Sim pr base w0 w' M' ∧ R v M') a2.defers .returning w2 := by
        rintro ⟨v, hv, hR⟩
        rw [hA3.defers]
        refine leaves_cons (f := gf) (args := #[]) (by simp) (by simp [invoke, run_callFunc hc]) ?_
        refine (hi w2).mono ?_
        rintro e u' w'' ⟨rfl, rfl, rfl⟩
        exact ⟨v, run_results hA3 (by rw [hrs]; exact hv), v, M2, rfl, hS3, hR⟩
      cases e with
      | normal => exact hend hq
      | ret => exact hend hq
      | _ => exact hq.elim)
    show wpOps P _ _ [0] a w'
    simp only [wpOps, List.getElem?_toArray, List.getElem?_cons_zero]
    rw [if_pos (by simp [Region.wanted])]
    refine .inl ?_
    unfold Oper.wp
    have hr : (execOp a.eval ⟨none, .defer { callee := .value (.func gf), args := #[], argTypes := #[] }, ty, pos, after, none⟩).run P w' = .ok (.defer ⟨.fn (.func gf) #[], #[]⟩) w' := by
      simp [execOp, resolve, Deferred.ofValue, Act.eval]
    rw [hr]
    exact hfin
end

/-- A row of cells in which one is another. -/
inductive SetAt : List Value → Nat → Value → List Value → Prop where
  | zero {u v : Value} {l : List Value} : SetAt (u :: l) 0 v (v :: l)
  | succ {x v : Value} {n : Nat} {l l' : List Value} : SetAt l n v l' → SetAt (x :: l) (n + 1) v (x :: l')
theorem SetAt.eq {l l' : List Value} {n : Nat} {v : Value} (h : SetAt l n v l') : l' = l.set n v ∧ n < l.length := by
  induction h with
  | zero => exact ⟨rfl, by simp⟩
  | succ _ ih => exact ⟨by rw [ih.1]; rfl, by simpa using ih.2⟩

section
variable {P : Program} {N : Fm} {Fin : Post} {k : List Kn} {E : Env} {M : Mem}
variable {ops : List Oper} {rest : List Oper} {ty : TypeId} {pos : String} {after : Array Edge} {g : Option (Nat × Bool)}
inductive UpdC : Mem → Nat → Nat → Nat → Value → Mem → Prop where
  | head {M : Mem} {b o n : Nat} {v : Value} {l l' : List Value} : SetAt l n v l' → UpdC (⟨true, b, o, l⟩ :: M) b o n v (⟨true, b, o, l'⟩ :: M)
  | tail {M M' : Mem} {x : Sg} {b o n : Nat} {v : Value} : UpdC M b o n v M' → UpdC (x :: M) b o n v (x :: M')
theorem UpdC.upd {M M' : Mem} {b o n : Nat} {v : Value} (h : UpdC M b o n v M') : ∃ l l', SetAt l n v l' ∧ Upd1 M ⟨true, b, o, l⟩ l' M' := by
  induction h with
  | head hs => exact ⟨_, _, hs, .head⟩
  | tail _ ih => obtain ⟨l, l', h1, h2⟩ := ih; exact ⟨l, l', h1, .tail h2⟩
theorem O_storeC {t : TypeId} {p x : Operand} {b o n : Nat} {v : Value} {M' : Mem} (ht : Cel P t 1) (hp : ev E p = some (.pointer (some ⟨b, o + n, none⟩))) (hx : ev E x = some v)
    (hv : v.oneCell' = true) (hg : On E ops g) (hu : UpdC M b o n v M') (h : WO false P N Fin ops rest k E M') : WO false P N Fin ops (⟨none, .store t p x, ty, pos, after, g⟩ :: rest) k E M := by
  obtain ⟨l, l', hs, hu⟩ := hu.upd
  obtain ⟨h1, h2⟩ := hs.eq
  subst h1
  exact O_store ht hp hx hv hg h2 hu h
end

section
variable {P : Program} {N : Fm} {E : Env} {M : Mem}
/-- A slice expression, its result told as one likes it. -/
theorem P_slice1E {t e : TypeId} {x : Operand} {lo hi : Option Operand} {b o len cap o' len' cap' : Nat} {l h : Int} (ht : Und P t (.slice e)) (he : Cel P e 1)
    (hx : ev E x = some (.slice (some ⟨b, o, none⟩) len cap)) (hl : bnd E lo 0 l) (hh : bnd E hi len h) (h0 : 0 ≤ l) (h1 : l ≤ h) (h2 : h ≤ cap) (h3 : l < cap) (ho : o + l.toNat = o') (hn : h.toNat - l.toNat = len') (hc : cap - l.toNat = cap') :
    Pure P N E M (.slice t x lo hi none) (.slice (some ⟨b, o', none⟩) len' cap') := by
  subst ho; subst hn; subst hc
  exact P_slice1 ht he hx hl hh h0 h1 h2 h3
/-- .. of an array. -/
theorem P_sliceA1E {t e : TypeId} {x : Operand} {lo hi : Option Operand} {b o len o' len' cap' : Nat} {l h : Int} (ht : Und P t (.array len e)) (he : Cel P e 1)
    (hx : ev E x = some (.pointer (some ⟨b, o, none⟩))) (hl : bnd E lo 0 l) (hh : bnd E hi len h) (h0 : 0 ≤ l) (h1 : l ≤ h) (h2 : h ≤ len) (h3 : l < len) (ho : o + l.toNat = o') (hn : h.toNat - l.toNat = len') (hc : len - l.toNat = cap') :
    Pure P N E M (.slice t x lo hi none) (.slice (some ⟨b, o', none⟩) len' cap') := by
  subst ho; subst hn; subst hc
  have := P_sliceA (N := N) (M := M) ht he (by omega) hx hl hh h0 h1 h2 h3
  simpa using this
end
end Go.Proofs.Ytjkpfliaflmppaa.Vm

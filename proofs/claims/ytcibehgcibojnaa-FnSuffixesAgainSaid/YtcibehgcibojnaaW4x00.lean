/- An engine for walks: named slots and disjoint rows of cells over the kit's weakest preconditions. No condition. The engine's rules for operations that only compute or read. No condition. Suffixes in order, their types. No condition. -/
import Derived.Calls
import Derived.Tactics
import Derived.LoopN
import Derived.StillTail
import Derived.Below
import Derived.KernelRfl

namespace Go.Proofs.Ytcibehgcibojnaa.Vm
open Go Go.RowKit
abbrev Env := List (Nat × Value)
def Env.get? : Env → Nat → Option Value
  | [], _ => none
  | (k, v) :: E, n => bif Nat.beq k n then some v else Env.get? E n
structure Fm where
  n : Nat
  D : List Deferred
structure Ag (N : Fm) (E : Env) (a : Act) : Prop where
  defers : a.defers = N.D
  size : a.tmps.size = N.n
  val : ∀ n v, E.get? n = some v → a.tmps[n]? = some v
def ev (E : Env) : Operand → Option Value
  | .tmp t => E.get? t
  | .const v => some v
  | .global g => some (.pointer (some ⟨g, 0, none⟩))
  | .func f => some (.func (.func f) #[] #[])
theorem Ag.eval {N : Fm} {E : Env} {a : Act} (h : Ag N E a) {x : Operand} {v : Value} (hx : ev E x = some v) : a.eval x = v := by
  cases x with
  | tmp t =>
    have := h.val t v hx
    simp [Act.eval, Array.getD_eq_getD_getElem?, this]
  | const c => simp [ev] at hx; simp [Act.eval, hx]
  | global g => simp [ev] at hx; simp [Act.eval, hx]
  | func f => simp [ev] at hx; simp [Act.eval, hx]
theorem Ag.put {N : Fm} {E : Env} {a : Act} (h : Ag N E a) {d : Nat} (hd : Nat.blt d N.n = true) (v : Value) : Ag N ((d, v) :: E) (a.put (some d) v) := by
  have hd' : d < N.n := by simpa [Nat.blt_eq] using hd
  refine ⟨h.defers, by simp [Act.put, h.size], fun n u hu => ?_⟩
  simp only [Env.get?] at hu
  by_cases hn : d = n
  · subst hn
    simp at hu
    subst hu
    simp [Act.put, h.size, hd']
  · have : Nat.beq d n = false := by
      cases hb : Nat.beq d n with
      | false => rfl
      | true => exact absurd (Nat.eq_of_beq_eq_true hb) hn
    simp only [this, cond_false] at hu
    have := h.val n u hu
    simp only [Act.put]
    rw [Array.getElem?_setIfInBounds_ne hn]
    exact this
def Sub (E : Env) : Env → Prop
  | [] => True
  | (n, v) :: L => E.get? n = some v ∧ Sub E L
theorem Sub.get {E : Env} : ∀ {L : Env}, Sub E L → ∀ {n : Nat} {v : Value}, L.get? n = some v → E.get? n = some v
  | [], _, n, v, h => by simp [Env.get?] at h
  | (k, u) :: L, hs, n, v, h => by
    simp only [Env.get?] at h
    cases hb : Nat.beq k n with
    | true =>
      rw [hb] at h
      simp at h
      have := Nat.eq_of_beq_eq_true hb
      subst this; subst h
      exact hs.1
    | false =>
      rw [hb] at h
      simp at h
      exact hs.2.get h
theorem Ag.sub {N : Fm} {E L : Env} {a : Act} (h : Ag N E a) (hs : Sub E L) : Ag N L a :=
  ⟨h.defers, h.size, fun _ _ hv => h.val _ _ (hs.get hv)⟩
structure Sg where
  own : Bool
  b : Nat
  o : Nat
  l : List Value
def Sg.lies (base : Nat) (w : World) (s : Sg) : Prop :=
  ∃ c T lo hi, w.heap[s.b]? = some (.cells c T (lo, hi)) ∧ s.o + s.l.length ≤ c.size ∧ (∀ i, i < s.l.length → c[s.o + i]? = s.l[i]?) ∧
    (s.own = true → base ≤ s.b ∧ hi ≤ lo)
def Sg.apart (s t : Sg) : Prop :=
  (s.own = false ∧ t.own = false) ∨ s.b ≠ t.b ∨ s.o + s.l.length ≤ t.o ∨ t.o + t.l.length ≤ s.o
theorem Sg.apart_comm {s t : Sg} (h : s.apart t) : t.apart s := by
  unfold Sg.apart at *
  rcases h with h | h | h | h
  · exact .inl ⟨h.2, h.1⟩
  · exact .inr (.inl (Ne.symm h))
  · exact .inr (.inr (.inr h))
  · exact .inr (.inr (.inl h))
abbrev Mem := List Sg
structure Sim (pr : Bool) (base : Nat) (w0 w : World) (M : Mem) : Prop where
  bel : Below base w0 w
  hb : base ≤ w.heap.size
  seg : ∀ s ∈ M, s.lies base w
  dis : M.Pairwise Sg.apart
  same : pr = true → w = w0
theorem Sg.lies.cell {base : Nat} {w : World} {s : Sg} (h : s.lies base w) {i : Nat} {v : Value} (hv : s.l[i]? = some v) :
    w.cell? ⟨s.b, s.o + i, none⟩ = some v := by
  obtain ⟨c, T, lo, hi, hh, _, hc, _⟩ := h
  have hi : i < s.l.length := by
    rcases Nat.lt_or_ge i s.l.length with h | h
    · exact h
    · simp [List.getElem?_eq_none h] at hv
  simp only [World.cell?, hh]
  simp [hc i hi, hv]
theorem Sg.lies.free {base : Nat} {w : World} {s : Sg} (h : s.lies base w) (ho : s.own = true) {i : Nat} (hi : i < s.l.length) :
    w.frozen? ⟨s.b, s.o + i, none⟩ = false := by
  obtain ⟨c, T, lo, hi', hh, _, hc, hw⟩ := h
  have := (hw ho).2
  simp only [World.frozen?, hh]
  simp only [Bool.and_eq_false_iff, decide_eq_false_iff_not]
  omega
theorem Sg.lies.block {base : Nat} {w : World} {s : Sg} (h : s.lies base w) : s.b < w.heap.size := by
  obtain ⟨c, T, lo, hi, hh, _⟩ := h
  exact (Array.getElem?_eq_some_iff.1 hh).1
theorem Sim.drew {base : Nat} {w0 w : World} {M : Mem} (h : Sim false base w0 w M) : Sim false base w0 { w with drawn := w.drawn + 1 } M :=
  ⟨⟨h.bel.os, h.bel.tape, h.bel.output, h.bel.size, h.bel.block⟩, h.hb, h.seg, h.dis, by simp⟩
theorem lies_alloc {base : Nat} {w : World} {s : Sg} (h : s.lies base w) (o : Obj) : s.lies base (w.alloc o) := by
  have hb := h.block
  obtain ⟨c, T, lo, hi, hh, h1, h2, h3⟩ := h
  refine ⟨c, T, lo, hi, ?_, h1, h2, h3⟩
  rw [Below.heap_alloc _ _ _ hb]
  exact hh
theorem Sim.alloc {base : Nat} {w0 w : World} {M : Mem} (h : Sim false base w0 w M) (c : Array Value) (T : TypeId) :
    Sim false base w0 (w.alloc (.cells c T)) (⟨true, w.heap.size, 0, c.toList⟩ :: M) := by
  refine ⟨h.bel.alloc h.hb _, by simp; exact Nat.le_succ_of_le h.hb, ?_, ?_, by simp⟩
  · intro s hs
    cases hs with
    | head =>
      refine ⟨c, T, 0, 0, by show (w.heap.push _)[w.heap.size]? = _; simp, by simp, fun i hi => by simp, fun _ => ⟨h.hb, Nat.le_refl _⟩⟩
    | tail _ hs => exact lies_alloc (h.seg s hs) _
  · refine List.Pairwise.cons (fun s hs => ?_) h.dis
    have := (h.seg s hs).block
    exact .inr (.inl (by simp; omega))
inductive Upd1 : Mem → Sg → List Value → Mem → Prop where
  | head {M : Mem} {own : Bool} {b o : Nat} {l0 l : List Value} : Upd1 (⟨own, b, o, l0⟩ :: M) ⟨own, b, o, l0⟩ l (⟨own, b, o, l⟩ :: M)
  | tail {M M' : Mem} {x s : Sg} {l : List Value} : Upd1 M s l M' → Upd1 (x :: M) s l (x :: M')
theorem Upd1.mem {M M' : Mem} {s : Sg} {l : List Value} (h : Upd1 M s l M') : s ∈ M := by
  induction h with
  | head => exact .head _
  | tail _ ih => exact .tail _ ih
theorem Upd1.old {M M' : Mem} {s : Sg} {l : List Value} (h : Upd1 M s l M') (hl : l.length = s.l.length) :
    ∀ t ∈ M', ∃ t' ∈ M, t'.own = t.own ∧ t'.b = t.b ∧ t'.o = t.o ∧ t'.l.length = t.l.length := by
  induction h with
  | head =>
    intro t ht
    cases ht with
    | head => exact ⟨_, .head _, rfl, rfl, rfl, hl.symm⟩
    | tail _ ht => exact ⟨t, .tail _ ht, rfl, rfl, rfl, rfl⟩
  | tail _ ih =>
    intro t ht
    cases ht with
    | head => exact ⟨_, .head _, rfl, rfl, rfl, rfl⟩
    | tail _ ht =>
      obtain ⟨t', h1, h2⟩ := ih hl t ht
      exact ⟨t', .tail _ h1, h2⟩
theorem apart_like {s t s' t' : Sg} (h : s'.apart t') (h1 : s'.own = s.own ∧ s'.b = s.b ∧ s'.o = s.o ∧ s'.l.length = s.l.length)
    (h2 : t'.own = t.own ∧ t'.b = t.b ∧ t'.o = t.o ∧ t'.l.length = t.l.length) : s.apart t := by
  unfold Sg.apart at *
  rw [h1.1, h1.2.1, h1.2.2.1, h1.2.2.2, h2.1, h2.2.1, h2.2.2.1, h2.2.2.2] at h
  exact h
theorem Upd1.pairwise {M M' : Mem} {s : Sg} {l : List Value} (h : Upd1 M s l M') (hl : l.length = s.l.length) (hd : M.Pairwise Sg.apart) : M'.Pairwise Sg.apart := by
  induction h with
  | head =>
    cases hd with
    | cons h1 h2 =>
      exact .cons (fun t ht => apart_like (h1 t ht) ⟨rfl, rfl, rfl, hl.symm⟩ ⟨rfl, rfl, rfl, rfl⟩) h2
  | tail hu ih =>
    cases hd with
    | cons h1 h2 =>
      refine .cons (fun t ht => ?_) (ih hl h2)
      obtain ⟨t', h3, h4⟩ := hu.old hl t ht
      exact apart_like (h1 t' h3) ⟨rfl, rfl, rfl, rfl⟩ h4
theorem Upd1.cases {M M' : Mem} {s : Sg} {l : List Value} (h : Upd1 M s l M') (hd : M.Pairwise Sg.apart) :
    ∀ t ∈ M', t = ⟨s.own, s.b, s.o, l⟩ ∨ (t ∈ M ∧ t.apart s) := by
  induction h with
  | head =>
    intro t ht
    cases hd with
    | cons h1 h2 =>
      cases ht with
      | head => exact .inl rfl
      | tail _ ht => exact .inr ⟨.tail _ ht, Sg.apart_comm (h1 t ht)⟩
  | tail hu ih =>
    intro t ht
    cases hd with
    | cons h1 h2 =>
      cases ht with
      | head => exact .inr ⟨.head _, h1 _ hu.mem⟩
      | tail _ ht =>
        rcases ih h2 t ht with h | h
        · exact .inl h
        · exact .inr ⟨.tail _ h.1, h.2⟩
theorem heap_setCell_same {w : World} {b o : Nat} {v : Value} {c : Array Value} {T : TypeId} {f : Nat × Nat} (h : w.heap[b]? = some (.cells c T f)) :
    (w.setCell ⟨b, o, none⟩ v).heap[b]? = some (.cells (c.setIfInBounds o v) T f) := by
  simp [World.setCell, Array.getElem?_modify, h]
theorem Sim.set {base : Nat} {w0 w : World} {M M' : Mem} {s : Sg} {i : Nat} {v : Value} (h : Sim false base w0 w M) (ho : s.own = true) (hi : i < s.l.length)
    (hu : Upd1 M s (s.l.set i v) M') : Sim false base w0 (w.setCell ⟨s.b, s.o + i, none⟩ v) M' := by
  have hs := h.seg s hu.mem
  obtain ⟨c, T, lo, hi', hh, h1, h2, h3⟩ := hs
  have h4 := h3 ho
  refine ⟨h.bel.setCell h4.1 _, by simp [World.setCell]; exact h.hb, ?_, hu.pairwise (by simp) h.dis, by simp⟩
  intro t ht
  rcases hu.cases h.dis t ht with rfl | ⟨htM, hap⟩
  · refine ⟨_, T, lo, hi', heap_setCell_same hh, by simpa using h1, fun j hj => ?_, fun _ => ⟨h4.1, h4.2⟩⟩
    simp only [List.length_set] at hj
    simp only [Array.getElem?_setIfInBounds, List.getElem?_set]
    by_cases hij : i = j
    · subst hij
      have : s.o + i < c.size := by omega
      simp [this, hi]
    · have h5 := h2 j hj
      have : ¬ (s.o + i = s.o + j) := by omega
      simp [this, hij]; exact h5
  · by_cases hb : t.b = s.b
    · obtain ⟨c', T', lo', hi'', hh', k1, k2, k3⟩ := h.seg t htM
      have he : w.heap[s.b]? = some (.cells c' T' (lo', hi'')) := by rw [← hb]; exact hh'
      rw [hh] at he
      simp at he
      obtain ⟨rfl, rfl, rfl, rfl⟩ := he
      refine ⟨_, T, lo, hi', by rw [hb]; exact heap_setCell_same hh, by simpa using k1, fun j hj => ?_, k3⟩
      have : ¬ (s.o + i = t.o + j) := by
        rcases hap with hap | hap | hap | hap
        · rw [ho] at hap; simp at hap
        · exact absurd hb hap
        · omega
        · omega
      rw [Array.getElem?_setIfInBounds]
      simp [this]
      exact k2 j hj
    · obtain ⟨c', T', lo', hi'', hh', k1, k2, k3⟩ := h.seg t htM
      refine ⟨c', T', lo', hi'', ?_, k1, k2, k3⟩
      rw [Below.heap_setCell _ _ _ _ hb]
      exact hh'
inductive Take1 : Mem → Sg → Mem → Prop where
  | head {M : Mem} {s : Sg} : Take1 (s :: M) s M
  | tail {M M' : Mem} {x s : Sg} : Take1 M s M' → Take1 (x :: M) s (x :: M')
inductive Rk : Mem → Mem → Prop where
  | nil {M : Mem} : Rk M []
  | rfl {M : Mem} : Rk M M
  | cons {M M1 L : Mem} {s : Sg} : Take1 M s M1 → Rk M1 L → Rk M (s :: L)
  | drop {M L : Mem} {s : Sg} : Rk M L → Rk (s :: M) L
  | perm {M L : Mem} : List.Perm M L → Rk M L
  | trans {M L K : Mem} : Rk M L → Rk L K → Rk M K
theorem Take1.mem {M M' : Mem} {s : Sg} (h : Take1 M s M') : s ∈ M := by
  induction h with
  | head => exact .head _
  | tail _ ih => exact .tail _ ih
theorem Take1.sub {M M' : Mem} {s : Sg} (h : Take1 M s M') : ∀ t ∈ M', t ∈ M := by
  induction h with
  | head => exact fun t ht => .tail _ ht
  | tail _ ih =>
    intro t ht
    cases ht with
    | head => exact .head _
    | tail _ ht => exact .tail _ (ih t ht)
theorem Take1.pair {M M' : Mem} {s : Sg} (h : Take1 M s M') (hd : M.Pairwise Sg.apart) : (s :: M').Pairwise Sg.apart := by
  induction h with
  | head => exact hd
  | tail ht ih =>
    cases hd with
    | cons h1 h2 =>
      have h3 := ih h2
      cases h3 with
      | cons h4 h5 =>
        refine .cons (fun t htm => ?_) (.cons (fun t htm => h1 t (ht.sub t htm)) h5)
        cases htm with
        | head => exact Sg.apart_comm (h1 _ ht.mem)
        | tail _ htm => exact h4 t htm
theorem Rk.all {M L : Mem} (h : Rk M L) : (∀ t ∈ L, t ∈ M) ∧ (M.Pairwise Sg.apart → L.Pairwise Sg.apart) := by
  induction h with
  | nil => exact ⟨fun t ht => (by cases ht), fun _ => .nil⟩
  | rfl => exact ⟨fun t ht => ht, fun h => h⟩
  | cons h1 h2 ih =>
    refine ⟨fun t ht => ?_, fun hd => ?_⟩
    · cases ht with
      | head => exact h1.mem
      | tail _ ht => exact h1.sub t (ih.1 t ht)
    · cases h1.pair hd with
      | cons h4 h5 => exact .cons (fun t ht => h4 t (ih.1 t ht)) (ih.2 h5)
  | drop h1 ih => exact ⟨fun t ht => .tail _ (ih.1 t ht), fun hd => by cases hd with | cons _ h5 => exact ih.2 h5⟩
  | perm h1 => exact ⟨fun t ht => h1.symm.subset ht, fun hd => h1.pairwise hd (fun h => Sg.apart_comm h)⟩
  | trans _ _ ih1 ih2 => exact ⟨fun t ht => ih1.1 t (ih2.1 t ht), fun hd => ih2.2 (ih1.2 hd)⟩
theorem Sim.rk {pr : Bool} {base : Nat} {w0 w : World} {M L : Mem} (h : Sim pr base w0 w M) (ht : Rk M L) : Sim pr base w0 w L :=
  ⟨h.bel, h.hb, fun s hs => h.seg s (ht.all.1 s hs), ht.all.2 h.dis, h.same⟩
theorem Sim.of_mem {pr : Bool} {base : Nat} {w0 w : World} {M L : Mem} (h : Sim pr base w0 w M) (hs : ∀ t ∈ L, t ∈ M) (hd : L.Pairwise Sg.apart) : Sim pr base w0 w L :=
  ⟨h.bel, h.hb, fun s hm => h.seg s (hs s hm), hd, h.same⟩
theorem Sim.drop {pr : Bool} {base : Nat} {w0 w : World} {M : Mem} {s : Sg} (h : Sim pr base w0 w (s :: M)) : Sim pr base w0 w M :=
  h.of_mem (fun _ ht => .tail _ ht) (by cases h.dis with | cons _ h => exact h)
abbrev Post := Exit → Env → Mem → Prop
def Lift (pr : Bool) (base : Nat) (N : Fm) (w0 : World) (Q : Post) : Exit → Act → World → Prop := fun e a w => ∃ E M, Ag N E a ∧ Sim pr base w0 w M ∧ Q e E M
structure V (pr : Bool) (P : Program) (N : Fm) (c : Code) (Q : Post) (E : Env) (M : Mem) : Prop where
  out : ∀ base w0 a w, Ag N E a → Sim pr base w0 w M → c.wp P (Lift pr base N w0 Q) a w
structure OL (pr : Bool) (P : Program) (N : Fm) (ops : List Oper) (Q : Post) (rest : List Oper) (E : Env) (M : Mem) : Prop where
  out : ∀ base w0 a w, Ag N E a → Sim pr base w0 w M → wpList P ops.toArray (Lift pr base N w0 Q) rest a w
structure OS (pr : Bool) (P : Program) (N : Fm) (ops : List Oper) (K : Env → Prop) (rest : List Oper) (E : Env) (M : Mem) : Prop where
  out : ∀ base w0 a w, Ag N E a → Sim pr base w0 w M → wpStill P ops.toArray w (fun a' => ∃ E', Ag N E' a' ∧ K E') rest a
structure HCp (pr : Bool) (P : Program) (f : FuncId) (args : Array Value) (M : Mem) (R : Value → Mem → Prop) : Prop where
  out : ∀ base w0 w, Sim pr base w0 w M → Calls P f args w fun e w' => ∃ v M', e = .returned v ∧ Sim pr base w0 w' M' ∧ R v M'
abbrev HC := HCp false
def Then (K : Env → Mem → Prop) (Q : Post) : Post
  | .normal, E, M => K E M
  | e, E, M => Q e E M
def InBlock (id : Nat) (Q : Post) : Post
  | .exit id', E, M => if id' = id then Q .normal E M else Q (.exit id') E M
  | e, E, M => Q e E M
section
variable {pr : Bool} {P : Program} {N : Fm} {Q : Post} {E : Env} {M : Mem}
theorem V_mono {c : Code} {Q' : Post} (h : V pr P N c Q E M) (hq : ∀ e E M, Q e E M → Q' e E M) : V pr P N c Q' E M :=
  ⟨fun base w0 a w hA hS => wp_mono (h.out base w0 a w hA hS) fun _ _ _ ⟨E', M', h1, h2, h3⟩ => ⟨E', M', h1, h2, hq _ _ _ h3⟩⟩
theorem V_weak {c : Code} {L : Env} {M' : Mem} (hs : Sub E L) (ht : Rk M M') (h : V pr P N c Q L M') : V pr P N c Q E M :=
  ⟨fun base w0 a w hA hS => h.out base w0 a w (hA.sub hs) (hS.rk ht)⟩
theorem V_seq {x y : Code} (h : V pr P N x (Then (V pr P N y Q) Q) E M) : V pr P N (.seq x y) Q E M :=
  ⟨fun base w0 a w hA hS => wp_seq (wp_mono (h.out base w0 a w hA hS) fun e a' w' ⟨E', M', h1, h2, h3⟩ => by
    cases e with
    | normal => exact h3.out base w0 a' w' h1 h2
    | _ => exact ⟨E', M', h1, h2, h3⟩)⟩
theorem V_skip (h : Q .normal E M) : V pr P N .skip Q E M := ⟨fun _ _ _ _ hA hS => wp_skip ⟨E, M, hA, hS, h⟩⟩
theorem V_exit {id : Nat} (h : Q (.exit id) E M) : V pr P N (.exit id) Q E M := ⟨fun _ _ _ _ hA hS => wp_exit ⟨E, M, hA, hS, h⟩⟩
theorem V_ret (h : Q .ret E M) : V pr P N .ret Q E M := ⟨fun _ _ _ _ hA hS => wp_ret ⟨E, M, hA, hS, h⟩⟩
theorem V_cond_t {c : Operand} {x y : Code} (hc : ev E c = some (.bool true)) (h : V pr P N x Q E M) : V pr P N (.cond c x y) Q E M :=
  ⟨fun base w0 a w hA hS => wp_cond_true (hA.eval hc) (h.out base w0 a w hA hS)⟩
theorem V_cond_f {c : Operand} {x y : Code} (hc : ev E c = some (.bool false)) (h : V pr P N y Q E M) : V pr P N (.cond c x y) Q E M :=
  ⟨fun base w0 a w hA hS => wp_cond_false (hA.eval hc) (h.out base w0 a w hA hS)⟩
theorem V_block {id : Nat} {c : Code} (h : V pr P N c (InBlock id Q) E M) : V pr P N (.block id c) Q E M :=
  ⟨fun base w0 a w hA hS => wp_block (wp_mono (h.out base w0 a w hA hS) fun e a' w' ⟨E', M', h1, h2, h3⟩ => by
    cases e with
    | exit id' =>
      simp only [Exit.inBlock, InBlock] at *
      split
      · rename_i hid; rw [if_pos hid] at h3; exact ⟨E', M', h1, h2, h3⟩
      · rename_i hid; rw [if_neg hid] at h3; exact ⟨E', M', h1, h2, h3⟩
    | _ => exact ⟨E', M', h1, h2, h3⟩)⟩
theorem V_loop {α : Type} {c : Code} (St : α → Env) (Ms : α → Mem) (inv : α → Prop) (μ : α → Nat) (x0 : α) (h0 : inv x0) (hE : Sub E (St x0)) (hM : Rk M (Ms x0))
    (round : ∀ x, inv x → V pr P N c (Then (fun E' M' => ∃ x', inv x' ∧ μ x' < μ x ∧ Sub E' (St x') ∧ Rk M' (Ms x')) Q) (St x) (Ms x)) : V pr P N (.loop c) Q E M := by
  constructor
  intro base w0 a w hA hS
  have key : ∀ n x a w, μ x < n → inv x → Ag N (St x) a → Sim pr base w0 w (Ms x) → Code.rounds P c (Lift pr base N w0 Q) n a w := by
    intro n
    induction n with
    | zero => intro x a w h; omega
    | succ n ih =>
      intro x a w hn hx hA hS
      rw [rounds_succ]
      refine wp_mono ((round x hx).out base w0 a w hA hS) fun e a' w' ⟨E', M', h1, h2, h3⟩ => ?_
      cases e with
      | normal =>
        obtain ⟨x', h4, h5, h6, h7⟩ := h3
        exact ih x' a' w' (by omega) h4 (h1.sub h6) (h2.rk h7)
      | _ => exact ⟨E', M', h1, h2, h3⟩
  exact wp_loop_rounds (μ x0 + 1) (key _ x0 a w (by omega) h0 (hA.sub hE) (hS.rk hM))
theorem V_region {id : Nat} {l : List Oper} (h : OL pr P N l Q l E M) : V pr P N (.region id l.toArray false) Q E M :=
  ⟨fun base w0 a w hA hS => wp_region_lit (h.out base w0 a w hA hS)⟩
theorem V_region_still {id : Nat} {l : List Oper} (hm : P.follows .mixedOrders = true) (hB : Region.lexB .any l.toArray = true)
    (h : OS false P N l (fun E' => Q .normal E' M) l E M) : V false P N (.region id l.toArray true) Q E M :=
  ⟨fun base w0 a w hA hS => wp_region_still hm hB (by
    have h1 := h.out base w0 a { w with drawn := w.drawn + 1 } hA hS.drew
    have h2 : ∀ (l' : List Oper) (a' : Act), wpStill P l.toArray { w with drawn := w.drawn + 1 } (fun a' => ∃ E', Ag N E' a' ∧ Q .normal E' M) l' a' →
        wpStill P l.toArray { w with drawn := w.drawn + 1 } (fun a' => Lift false base N w0 Q .normal a' { w with drawn := w.drawn + 1 }) l' a' := by
      intro l'
      induction l' with
      | nil => exact fun a' ⟨E', k1, k2⟩ => ⟨E', M, k1, hS.drew, k2⟩
      | cons o l' ih =>
        intro a' k
        unfold wpStill at k ⊢
        split
        · rename_i hw; rw [if_pos hw] at k; exact Oper.still_mono (fun a k => ih a k) k
        · rename_i hw; rw [if_neg hw] at k; exact ih _ k
    exact h2 l.toArray.toList a (by simpa using h1))⟩
theorem wpStill_mono {ops : Array Oper} {w : World} {K K' : Act → Prop} (hK : ∀ a, K a → K' a) : ∀ (l : List Oper) (a : Act), wpStill P ops w K l a → wpStill P ops w K' l a
  | [], a, h => hK a h
  | o :: l, a, h => by
    unfold wpStill at h ⊢
    split
    · rename_i hw; rw [if_pos hw] at h; exact Oper.still_mono (fun a k => wpStill_mono hK l a k) h
    · rename_i hw; rw [if_neg hw] at h; exact wpStill_mono hK l _ h
theorem OL_nil {ops : List Oper} (h : Q .normal E M) : OL pr P N ops Q [] E M := ⟨fun _ _ _ _ hA hS => wpList_nil ⟨E, M, hA, hS, h⟩⟩
theorem OS_nil {ops : List Oper} {K : Env → Prop} (h : K E) : OS pr P N ops K [] E M := ⟨fun _ _ _ _ hA _ => wpStill_nil ⟨E, hA, h⟩⟩
structure Pure (P : Program) (N : Fm) (E : Env) (M : Mem) (op : Op) (v : Value) : Prop where
  out : ∀ pr base w0 a w, Ag N E a → Sim pr base w0 w M → ∀ d ty pos after g, (execOp a.eval ⟨d, op, ty, pos, after, g⟩).run P w = .ok (.value v) w
def On (E : Env) (ops : List Oper) : Option (Nat × Bool) → Prop
  | none => True
  | some (j, t) => ∃ d, (ops[j]?).bind (·.dst) = some d ∧ E.get? d = some (.bool t)
def Off (E : Env) (ops : List Oper) : Option (Nat × Bool) → Prop
  | none => False
  | some (j, t) => ∃ d v, (ops[j]?).bind (·.dst) = some d ∧ E.get? d = some v ∧ match v with | .bool b => b ≠ t | _ => True
theorem On.wanted {ops : List Oper} {a : Act} {o : Oper} (h : On E ops o.guard) (hA : Ag N E a) : Region.wanted o (yielded ops.toArray a.tmps) = true := by
  unfold Region.wanted
  cases hg : o.guard with
  | none => rfl
  | some jt =>
    obtain ⟨j, t⟩ := jt
    rw [hg] at h
    obtain ⟨d, h1, h2⟩ := h
    have h3 := hA.val _ _ h2
    simp [yielded, h1, h3]
theorem Off.wanted {ops : List Oper} {a : Act} {o : Oper} (h : Off E ops o.guard) (hA : Ag N E a) : Region.wanted o (yielded ops.toArray a.tmps) = false := by
  unfold Region.wanted
  cases hg : o.guard with
  | none => rw [hg] at h; exact h.elim
  | some jt =>
    obtain ⟨j, t⟩ := jt
    rw [hg] at h
    obtain ⟨d, v, h1, h2, h3⟩ := h
    have h4 := hA.val _ _ h2
    simp only [yielded, List.getElem?_toArray, h1, Option.bind_some, h4]
    cases v <;> simp_all
variable {ops : List Oper} {rest : List Oper} {d : Nat} {op : Op} {ty : TypeId} {pos : String} {after : Array Edge} {g : Option (Nat × Bool)} {v : Value}
theorem OL_pure (hp : Pure P N E M op v) (hg : On E ops g) (hd : Nat.blt d N.n = true) (h : OL pr P N ops Q rest ((d, v) :: E) M) : OL pr P N ops Q (⟨some d, op, ty, pos, after, g⟩ :: rest) E M := by
  constructor
  intro base w0 a w hA hS
  unfold wpList
  rw [if_pos (On.wanted (o := ⟨some d, op, ty, pos, after, g⟩) hg hA)]
  refine .inl ?_
  unfold Oper.wp
  rw [hp.out pr base w0 a w hA hS]
  exact h.out base w0 _ w (hA.put hd v) hS
theorem OS_pure {K : Env → Prop} (hp : Pure P N E M op v) (hg : On E ops g) (hd : Nat.blt d N.n = true) (h : OS pr P N ops K rest ((d, v) :: E) M) : OS pr P N ops K (⟨some d, op, ty, pos, after, g⟩ :: rest) E M := by
  constructor
  intro base w0 a w hA hS
  unfold wpStill
  rw [if_pos (On.wanted (o := ⟨some d, op, ty, pos, after, g⟩) hg hA)]
  unfold Oper.still
  rw [hp.out pr base w0 a w hA hS]
  exact ⟨rfl, h.out base w0 _ w (hA.put hd v) hS⟩
theorem OL_off (hg : Off E ops g) (hd : Nat.blt d N.n = true) (h : OL pr P N ops Q rest ((d, undef) :: E) M) : OL pr P N ops Q (⟨some d, op, ty, pos, after, g⟩ :: rest) E M := by
  constructor
  intro base w0 a w hA hS
  unfold wpList
  rw [if_neg (by rw [Off.wanted (o := ⟨some d, op, ty, pos, after, g⟩) hg hA]; simp)]
  exact h.out base w0 _ w (hA.put hd _) hS
theorem OS_off {K : Env → Prop} (hg : Off E ops g) (hd : Nat.blt d N.n = true) (h : OS pr P N ops K rest ((d, undef) :: E) M) : OS pr P N ops K (⟨some d, op, ty, pos, after, g⟩ :: rest) E M := by
  constructor
  intro base w0 a w hA hS
  unfold wpStill
  rw [if_neg (by rw [Off.wanted (o := ⟨some d, op, ty, pos, after, g⟩) hg hA]; simp)]
  exact h.out base w0 _ w (hA.put hd _) hS
end
end Go.Proofs.Ytcibehgcibojnaa.Vm

namespace Go.Proofs.Ytcibehgcibojnaa.Vm
open Go Go.RowKit
section
variable {pr : Bool} {P : Program} {N : Fm} {E : Env} {M : Mem}
def isAggD : TypeDesc → Bool
  | .struct _ => true
  | .array _ _ => true
  | _ => false
def isIface : TypeDesc → Bool
  | .interface _ => true
  | _ => false
theorem P_move {x : Operand} {v : Value} (h : ev E x = some v) : Pure P N E M (.move x) v := by
  constructor
  intro pr base w0 a w hA hS d ty pos after g
  simp [execOp, hA.eval h, Sem.run, pure]
theorem P_assign {x : Operand} {v : Value} (h : ev E x = some v) : Pure P N E M (.assign x) v := by
  constructor
  intro pr base w0 a w hA hS d ty pos after g
  simp [execOp, hA.eval h, Sem.run, pure]
theorem P_pick_t {c x y : Operand} {v : Value} (hc : ev E c = some (.bool true)) (h : ev E x = some v) : Pure P N E M (.pick c x y) v := by
  constructor
  intro pr base w0 a w hA hS d ty pos after g
  simp [execOp, hA.eval h, hA.eval hc, Sem.run, pure, bind, Sem.bind, asBool]
theorem P_pick_f {c x y : Operand} {v : Value} (hc : ev E c = some (.bool false)) (h : ev E y = some v) : Pure P N E M (.pick c x y) v := by
  constructor
  intro pr base w0 a w hA hS d ty pos after g
  simp [execOp, hA.eval h, hA.eval hc, Sem.run, pure, bind, Sem.bind, asBool]
theorem wrap_id {k : IntKind} {n : Int} (h1 : k.min ≤ n) (h2 : n ≤ k.max) : k.wrap n = n := by
  cases k <;> simp [IntKind.wrap, IntKind.min, IntKind.max, IntKind.signed, IntKind.bits] at * <;> omega
structure inK (k : IntKind) (n : Int) : Prop where
  lo : k.min ≤ n
  hi : n ≤ k.max
theorem inK_i64 {n : Int} (h1 : -9223372036854775808 ≤ n) (h2 : n ≤ 9223372036854775807) : inK .i64 n := ⟨h1, h2⟩
theorem inK_u64 {n : Int} (h1 : 0 ≤ n) (h2 : n ≤ 18446744073709551615) : inK .u64 n := ⟨h1, h2⟩
theorem inK_u32 {n : Int} (h1 : 0 ≤ n) (h2 : n ≤ 4294967295) : inK .u32 n := ⟨h1, h2⟩
theorem inK_u8 {n : Int} (h1 : 0 ≤ n) (h2 : n ≤ 255) : inK .u8 n := ⟨h1, h2⟩
theorem inK_u16 {n : Int} (h1 : 0 ≤ n) (h2 : n ≤ 65535) : inK .u16 n := ⟨h1, h2⟩
theorem inK_i32 {n : Int} (h1 : -2147483648 ≤ n) (h2 : n ≤ 2147483647) : inK .i32 n := ⟨h1, h2⟩
def ar : BinOp → Int → Int → Option Int
  | .add, x, y => some (x + y)
  | .sub, x, y => some (x - y)
  | .mul, x, y => some (x * y)
  | _, _, _ => none
theorem P_ar {op : BinOp} {t t2 : TypeId} {x y : Operand} {k : IntKind} {p q r : Int} (hx : ev E x = some (.int k p)) (hy : ev E y = some (.int k q)) (hr : ar op p q = some r) (h : inK k r) :
    Pure P N E M (.binOp op t x y t2) (.int k r) := by
  constructor
  intro pr base w0 a w hA hS d ty pos after g
  have hw := wrap_id h.lo h.hi
  cases op <;> simp [ar] at hr <;> subst hr <;>
    simp [execOp, hA.eval hx, hA.eval hy, Sem.run, pure, bind, Sem.bind, eqGuard, binOp, Op.intArith, hw]
def cmp : BinOp → Int → Int → Option Bool
  | .eql, x, y => some (x == y)
  | .neq, x, y => some (x != y)
  | .lss, x, y => some (decide (x < y))
  | .leq, x, y => some (decide (x ≤ y))
  | .gtr, x, y => some (decide (x > y))
  | .geq, x, y => some (decide (x ≥ y))
  | _, _, _ => none
theorem P_cmp {op : BinOp} {t t2 : TypeId} {x y : Operand} {k : IntKind} {p q : Int} {r : Bool} (hx : ev E x = some (.int k p)) (hy : ev E y = some (.int k q)) (hr : cmp op p q = some r) :
    Pure P N E M (.binOp op t x y t2) (.bool r) := by
  constructor
  intro pr base w0 a w hA hS d ty pos after g
  cases op <;> simp [cmp] at hr <;> subst hr <;>
    simp [execOp, hA.eval hx, hA.eval hy, Sem.run, pure, bind, Sem.bind, eqGuard, binOp, Op.intCmp]
theorem P_quo {t t2 : TypeId} {x y : Operand} {k : IntKind} {p q : Int} (hx : ev E x = some (.int k p)) (hy : ev E y = some (.int k q)) (h0 : 0 ≤ p) (h1 : 0 < q) (h2 : inK k p) :
    Pure P N E M (.binOp .quo t x y t2) (.int k (p / q)) := by
  constructor
  intro pr base w0 a w hA hS d ty pos after g
  have hq : q ≠ 0 := by omega
  have hw : k.wrap (p.tdiv q) = p / q := by
    rw [Int.tdiv_eq_ediv_of_nonneg h0]
    have h3 : 0 ≤ p / q := Int.ediv_nonneg h0 (by omega)
    have h4 : p / q ≤ p := Int.ediv_le_self _ h0
    have h5 : k.min ≤ 0 := by cases k <;> decide
    exact wrap_id (Int.le_trans h5 h3) (Int.le_trans h4 h2.hi)
  simp [execOp, hA.eval hx, hA.eval hy, Sem.run, pure, bind, Sem.bind, eqGuard, binOp, Op.intDiv, hq, hw]
theorem P_rem {t t2 : TypeId} {x y : Operand} {k : IntKind} {p q : Int} (hx : ev E x = some (.int k p)) (hy : ev E y = some (.int k q)) (h0 : 0 ≤ p) (h1 : 0 < q) :
    Pure P N E M (.binOp .rem t x y t2) (.int k (p % q)) := by
  constructor
  intro pr base w0 a w hA hS d ty pos after g
  have hq : q ≠ 0 := by omega
  simp [execOp, hA.eval hx, hA.eval hy, Sem.run, pure, bind, Sem.bind, eqGuard, binOp, Op.intDiv, hq, Int.tmod_eq_emod_of_nonneg h0]
theorem P_shl {t t2 : TypeId} {x y : Operand} {k k2 : IntKind} {p q : Int} (hx : ev E x = some (.int k p)) (hy : ev E y = some (.int k2 q)) (h0 : 0 ≤ q) :
    Pure P N E M (.binOp .shl t x y t2) (.int k (k.wrap (p * 2 ^ min q.toNat k.bits))) := by
  constructor
  intro pr base w0 a w hA hS d ty pos after g
  have hq : ¬ q < 0 := by omega
  simp [execOp, hA.eval hx, hA.eval hy, Sem.run, pure, bind, Sem.bind, eqGuard, binOp, Op.shift, hq]
theorem P_shr {t t2 : TypeId} {x y : Operand} {k k2 : IntKind} {p q : Int} (hx : ev E x = some (.int k p)) (hy : ev E y = some (.int k2 q)) (h0 : 0 ≤ q) :
    Pure P N E M (.binOp .shr t x y t2) (.int k (p.fdiv (2 ^ min q.toNat k.bits))) := by
  constructor
  intro pr base w0 a w hA hS d ty pos after g
  have hq : ¬ q < 0 := by omega
  simp [execOp, hA.eval hx, hA.eval hy, Sem.run, pure, bind, Sem.bind, eqGuard, binOp, Op.shift, hq]
def bitop (op : BinOp) (k : IntKind) (p q : Int) : Option Int :=
  match op with
  | .and => some (k.wrap (BitVec.ofInt k.bits p &&& BitVec.ofInt k.bits q).toNat)
  | .or => some (k.wrap (BitVec.ofInt k.bits p ||| BitVec.ofInt k.bits q).toNat)
  | .xor => some (k.wrap (BitVec.ofInt k.bits p ^^^ BitVec.ofInt k.bits q).toNat)
  | _ => none
theorem P_bits {op : BinOp} {t t2 : TypeId} {x y : Operand} {k : IntKind} {p q r : Int} (hx : ev E x = some (.int k p)) (hy : ev E y = some (.int k q)) (hr : bitop op k p q = some r) :
    Pure P N E M (.binOp op t x y t2) (.int k r) := by
  constructor
  intro pr base w0 a w hA hS d ty pos after g
  cases op <;> simp [bitop] at hr <;> subst hr <;>
    simp [execOp, hA.eval hx, hA.eval hy, Sem.run, pure, bind, Sem.bind, eqGuard, binOp, Op.intBits]
theorem P_inv {t : TypeId} {x : Operand} {p : Int} (hx : ev E x = some (.int .i64 p)) (h : inK .i64 p) : Pure P N E M (.unOp .xor t x) (.int .i64 (-1 - p)) := by
  constructor
  intro pr base w0 a w hA hS d ty pos after g
  have e : IntKind.i64.wrap ((BitVec.ofInt 64 (-1) ^^^ BitVec.ofInt 64 p).toNat : Int) = -1 - p := by
    have h1 : (BitVec.ofInt 64 (-1) ^^^ BitVec.ofInt 64 p) = ~~~ (BitVec.ofInt 64 p) := by
      have : (BitVec.ofInt 64 (-1)) = BitVec.allOnes 64 := by decide
      rw [this, BitVec.allOnes_xor]
    rw [h1]
    have h2 : (~~~ (BitVec.ofInt 64 p)).toNat = 2 ^ 64 - 1 - (BitVec.ofInt 64 p).toNat := by simp [BitVec.toNat_not]
    have h3 : ((BitVec.ofInt 64 p).toNat : Int) = p % 2 ^ 64 := by
      rw [BitVec.toNat_ofInt]; simp; omega
    have h5 : (BitVec.ofInt 64 p).toNat < 2 ^ 64 := (BitVec.ofInt 64 p).isLt
    have h4 : IntKind.i64.min ≤ p ∧ p ≤ IntKind.i64.max := ⟨h.lo, h.hi⟩
    simp only [IntKind.min, IntKind.max, IntKind.signed, IntKind.bits] at h4
    rw [h2]
    simp only [IntKind.wrap, IntKind.signed, IntKind.bits]
    simp at h4 h3 h5 ⊢
    omega
  simp [execOp, hA.eval hx, Sem.run, pure, bind, Sem.bind, Op.unary, Op.intBits, IntKind.signed]
  simpa [IntKind.bits] using e
theorem P_not {t : TypeId} {x : Operand} {p : Bool} (hx : ev E x = some (.bool p)) : Pure P N E M (.unOp .not t x) (.bool (!p)) := by
  constructor
  intro pr base w0 a w hA hS d ty pos after g
  simp [execOp, hA.eval hx, Sem.run, pure, bind, Sem.bind, Op.unary]
structure Und (P : Program) (t : TypeId) (D : TypeDesc) : Prop where
  out : P.underlying t = some D
structure Cel (P : Program) (t : TypeId) (n : Nat) : Prop where
  out : P.cellsOf t = n
structure PlainT (P : Program) (t : TypeId) : Prop where
  out : ∃ D, P.underlying t = some D ∧ isAggD D = false
structure AggT (P : Program) (t : TypeId) : Prop where
  out : ∃ D, P.underlying t = some D ∧ isAggD D = true
structure IfT (P : Program) (t : TypeId) : Prop where
  out : ∃ D, P.underlying t = some D ∧ isIface D = true
structure NonIfT (P : Program) (t : TypeId) : Prop where
  out : ∃ D, P.underlying t = some D ∧ isIface D = false
theorem run_under {t : TypeId} {D : TypeDesc} (h : P.underlying t = some D) (w : World) : (underlying t).run P w = .ok D w := by
  simp [underlying, program, Sem.run, bind, Sem.bind, pure, h]
theorem Und.run {t : TypeId} {D : TypeDesc} (h : Und P t D) (w : World) : (underlying t).run P w = .ok D w := run_under h.out w
theorem P_conv {s t : TypeId} {x : Operand} {k k2 : IntKind} {p : Int} (hs : Und P s (.int k)) (ht : Und P t (.int k2)) (hx : ev E x = some (.int k p)) :
    Pure P N E M (.convert s t x) (.int k2 (k2.wrap p)) := by
  constructor
  intro pr base w0 a w hA hS d ty pos after g
  simp [execOp, hA.eval hx, Sem.run, pure, bind, Sem.bind, convert, underlying, program, hs.out, ht.out, Conv.intToInt]
theorem P_convk {s t : TypeId} {x : Operand} {k k2 : IntKind} {p : Int} (hs : Und P s (.int k)) (ht : Und P t (.int k2)) (hx : ev E x = some (.int k p)) (h : inK k2 p) :
    Pure P N E M (.convert s t x) (.int k2 p) := by
  have := P_conv (M := M) (N := N) hs ht hx
  rwa [wrap_id h.lo h.hi] at this
theorem size_of {t : TypeId} {n : Nat} (h : P.cellsOf t = n) (h0 : 0 < n) : ∃ i, P.info? t = some i ∧ i.size = n := by
  unfold Program.cellsOf at h
  cases hi : P.info? t with
  | none => rw [hi] at h; simp at h; omega
  | some i => rw [hi] at h; simp at h; exact ⟨i, rfl, h⟩
theorem P_index {t e : TypeId} {x i : Operand} {b o len cap n : Nat} {k : IntKind} {z : Int} (ht : Und P t (.slice e)) (he : Cel P e n) (hn : 0 < n)
    (hx : ev E x = some (.slice (some ⟨b, o, none⟩) len cap)) (hi : ev E i = some (.int k z)) (h0 : 0 ≤ z) (h1 : z < len) :
    Pure P N E M (.indexAddr t x i) (.pointer (some ⟨b, o + z.toNat * n, none⟩)) := by
  constructor
  intro pr base w0 a w hA hS d ty pos after g
  obtain ⟨I, hI, hs⟩ := size_of he.out hn
  have : (Addr.add ⟨b, o, none⟩ (z.toNat * n)) = ⟨b, o + z.toNat * n, none⟩ := by
    unfold Addr.add; split
    · rename_i h; simp [h]
    · rfl
  simp [execOp, hA.eval hx, hA.eval hi, Instr.indexAt, asIntOf, underlying, program, ht.out, sizeOf, typeInfo, hI, hs, h0, h1, this, Sem.run, pure, bind, Sem.bind]
theorem run_loadVar {t : TypeId} {D : TypeDesc} (ht : P.underlying t = some D) (hD : isAggD D = false) {w : World} {ad : Addr} {v : Value} (h : w.cell? ad = some v) : (loadVar t ad).run P w = .ok v w := by
  cases D <;> simp [isAggD] at hD <;> simp [loadVar, isAgg, underlying, program, ht, load, Sem.run, pure, bind, Sem.bind, h]
theorem P_load {t : TypeId} {x : Operand} {own : Bool} {b o n : Nat} {l : List Value} {v : Value} (ht : PlainT P t)
    (hx : ev E x = some (.pointer (some ⟨b, o + n, none⟩))) (hm : (⟨own, b, o, l⟩ : Sg) ∈ M) (hv : l[n]? = some v) : Pure P N E M (.load t x) v := by
  constructor
  intro pr base w0 a w hA hS d ty pos after g
  have hc := (hS.seg _ hm).cell hv
  obtain ⟨D, ht, hD⟩ := ht.out
  have := run_loadVar ht hD hc
  simp only [execOp, Instr.loadAt, Instr.sureAddr, hA.eval hx]
  simp [this]
def ints (k : IntKind) (l : List Int) : List Value := l.map (.int k)
theorem ints_length (k : IntKind) (l : List Int) : (ints k l).length = l.length := by simp [ints]
theorem ints_get {k : IntKind} {l : List Int} {i : Nat} (h : i < l.length) : (ints k l)[i]? = some (.int k (l.getD i 0)) := by
  simp [ints, h]
theorem ints_set (k : IntKind) (l : List Int) (i : Nat) (z : Int) : (ints k l).set i (.int k z) = ints k (l.set i z) := by
  simp [ints, List.map_set]
def rd (l : List Int) (z : Int) : Int := l.getD z.toNat 0
def wr (l : List Int) (z v : Int) : List Int := l.set z.toNat v
theorem wr_length (l : List Int) (z v : Int) : (wr l z v).length = l.length := by simp [wr]
theorem P_loadi {t : TypeId} {x : Operand} {own : Bool} {b o : Nat} {l : List Int} {k : IntKind} {z : Int} (ht : Und P t (.int k))
    (hx : ev E x = some (.pointer (some ⟨b, o + z.toNat, none⟩))) (hm : (⟨own, b, o, ints k l⟩ : Sg) ∈ M) (h : z.toNat < l.length) : Pure P N E M (.load t x) (.int k (rd l z)) :=
  P_load ⟨_, ht.out, rfl⟩ hx hm (ints_get h)
theorem P_nil {x : Operand} {ad : Addr} (hx : ev E x = some (.pointer (some ad))) : Pure P N E M (.nilCheck x) (.pointer (some ad)) := by
  constructor
  intro pr base w0 a w hA hS d ty pos after g
  simp [execOp, hA.eval hx, Sem.run, pure]
end
attribute [irreducible] ints
end Go.Proofs.Ytcibehgcibojnaa.Vm

namespace Go.Proofs.Ytcibehgcibojnaa.Sais
def ch (T : List Nat) (i : Nat) : Nat := T.getD i 0
theorem drop_ch (T : List Nat) {i : Nat} (h : i < T.length) : T.drop i = ch T i :: T.drop (i + 1) := by
  rw [List.drop_eq_getElem_cons h]
  simp [ch, h]
def Sl (T : List Nat) (i j : Nat) : Prop := T.drop i < T.drop j
theorem sl_iff (T : List Nat) {i j : Nat} (hi : i < T.length) (hj : j < T.length) : Sl T i j ↔ ch T i < ch T j ∨ (ch T i = ch T j ∧ Sl T (i + 1) (j + 1)) := by
  unfold Sl
  rw [drop_ch T hi, drop_ch T hj, List.cons_lt_cons_iff]
theorem sl_end (T : List Nat) {i j : Nat} (hi : T.length ≤ i) : Sl T i j ↔ j < T.length := by
  unfold Sl
  rw [List.drop_eq_nil_of_le hi]
  constructor
  · intro h
    refine Nat.lt_of_not_le fun hj => ?_
    rw [List.drop_eq_nil_of_le hj] at h
    exact absurd h (List.lt_irrefl _)
  · intro hj
    rw [drop_ch T hj]
    exact List.nil_lt_cons _ _
theorem sl_irrefl (T : List Nat) (i : Nat) : ¬ Sl T i i := List.lt_irrefl _
theorem sl_trans {T : List Nat} {i j k : Nat} (h1 : Sl T i j) (h2 : Sl T j k) : Sl T i k := List.lt_trans h1 h2
theorem sl_asymm {T : List Nat} {i j : Nat} (h1 : Sl T i j) : ¬ Sl T j i := fun h2 => sl_irrefl T i (sl_trans h1 h2)
theorem sl_total (T : List Nat) {i j : Nat} (hi : i ≤ T.length) (hj : j ≤ T.length) (h : i ≠ j) : Sl T i j ∨ Sl T j i := by
  have hne : T.drop i ≠ T.drop j := fun e => by
    have := congrArg List.length e
    rw [List.length_drop, List.length_drop] at this
    omega
  unfold Sl
  rcases Nat.lt_trichotomy 0 0 with _ | _ | _
  · omega
  · by_cases h1 : T.drop i < T.drop j
    · exact .inl h1
    · refine .inr ?_
      have h2 : T.drop j ≤ T.drop i := h1
      rcases List.le_iff_lt_or_eq.1 h2 with h3 | h3
      · exact h3
      · exact absurd h3.symm hne
  · omega
def St (T : List Nat) (i : Nat) : Prop := Sl T i (i + 1)
theorem st_iff (T : List Nat) {i : Nat} (h : i + 1 < T.length) : St T i ↔ ch T i < ch T (i + 1) ∨ (ch T i = ch T (i + 1) ∧ St T (i + 1)) := sl_iff T (by omega) h
theorem st_last (T : List Nat) {i : Nat} (h : T.length ≤ i + 1) : ¬ St T i := by
  unfold St
  intro h1
  by_cases hi : i < T.length
  · have h2 : Sl T (i + 1) i := (sl_end T h).2 hi
    exact sl_asymm h1 h2
  · have := (sl_end T (j := i + 1) (by omega)).1 h1
    omega
theorem l_lt_s (T : List Nat) : ∀ (m x y : Nat), T.length - x ≤ m → x < T.length → y < T.length → ch T x = ch T y → ¬ St T x → St T y → Sl T x y
  | 0, x, y, hm, hx, _, _, _, _ => by omega
  | m + 1, x, y, hm, hx, hy, hc, h1, h2 => by
    have hy1 : y + 1 < T.length := Nat.lt_of_not_le fun h => st_last T h h2
    refine (sl_iff T hx hy).2 (.inr ⟨hc, ?_⟩)
    by_cases hx1 : x + 1 < T.length
    · have h3 := mt (st_iff T hx1).2 h1
      have h4 := (st_iff T hy1).1 h2
      by_cases h5 : ch T (x + 1) < ch T (y + 1)
      · exact (sl_iff T hx1 hy1).2 (.inl h5)
      · have h6 : ch T x = ch T (x + 1) ∧ ch T y = ch T (y + 1) := by
          rcases h4 with h4 | h4 <;> refine ⟨?_, ?_⟩ <;> omega
        have h7 : ¬ St T (x + 1) := fun h => h3 (.inr ⟨h6.1, h⟩)
        have h8 : St T (y + 1) := by
          rcases h4 with h4 | h4
          · omega
          · exact h4.2
        exact l_lt_s T m (x + 1) (y + 1) (by omega) hx1 hy1 (by omega) h7 h8
    · exact (sl_end T (by omega)).2 hy1
def Lms (T : List Nat) (i : Nat) : Prop := 0 < i ∧ St T i ∧ ¬ St T (i - 1)
theorem lms_lt {T : List Nat} {i : Nat} (h : Lms T i) : i + 1 < T.length := Nat.lt_of_not_le fun h1 => st_last T h1 h.2.1
theorem lms_apart {T : List Nat} {i : Nat} (h : Lms T i) : ¬ Lms T (i + 1) := fun h2 => h2.2.2 (by rw [Nat.add_sub_cancel]; exact h.2.1)
theorem ch_l (T : List Nat) {i : Nat} (h : i + 1 < T.length) (h1 : ¬ St T i) : ch T (i + 1) ≤ ch T i := by
  have := mt (st_iff T h).2 h1
  omega
theorem ch_s (T : List Nat) {i : Nat} (h1 : St T i) : ch T i ≤ ch T (i + 1) := by
  have h : i + 1 < T.length := Nat.lt_of_not_le fun h => st_last T h h1
  rcases (st_iff T h).1 h1 with h2 | h2 <;> omega
end Go.Proofs.Ytcibehgcibojnaa.Sais

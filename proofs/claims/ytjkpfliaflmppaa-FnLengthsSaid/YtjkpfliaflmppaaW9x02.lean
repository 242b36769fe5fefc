/- More rules of the engine: rows of cells read and written whole, append, results in memory, errors held against nil. No condition. -/
import Derived.Test.YtjkpfliaflmppaaW9x01

namespace Go.Proofs.Ytjkpfliaflmppaa.Vm
open Go Go.RowKit

section
variable {pr : Bool} {P : Program} {N : Fm} {Fin : Post} {k : List Kn} {E : Env} {M : Mem} {Q : Post}
variable {ops : List Oper} {rest : List Oper} {d : Nat} {op : Op} {ty : TypeId} {pos : String} {after : Array Edge} {g : Option (Nat × Bool)} {v : Value}

/-! ### Many cells -/

theorem run_loadCellsFrom {w : World} {b o : Nat} {l : List Value} : ∀ (n i : Nat) (acc : Array Value), (∀ j, j < n → w.cell? ⟨b, o + (i + j), none⟩ = l[j]?) → n ≤ l.length →
    (loadCellsFrom ⟨b, o, none⟩ i n acc).run P w = .ok (acc ++ (l.take n).toArray) w
  | 0, i, acc, _, _ => by simp [loadCellsFrom]
  | n + 1, i, acc, hc, hn => by
    cases l with
    | nil => simp at hn
    | cons v l =>
      have h0 := hc 0 (by omega)
      simp only [Nat.add_zero, List.getElem?_cons_zero] at h0
      have hrec := run_loadCellsFrom (b := b) (o := o) (l := l) n (i + 1) (acc.push v) (fun j hj => by
        have := hc (j + 1) (by omega)
        simp only [List.getElem?_cons_succ] at this
        rw [← this]; congr 2; omega) (by simpa using hn)
      simp only [loadCellsFrom, add_place]
      simp [h0, hrec]

theorem run_loadCells {base : Nat} {w : World} {s : Sg} (hs : s.lies base w) {i n : Nat} (hn : i + n ≤ s.l.length) :
    (loadCells ⟨s.b, s.o + i, none⟩ n).run P w = .ok ((s.l.drop i).take n).toArray w := by
  have := run_loadCellsFrom (P := P) (w := w) (b := s.b) (o := s.o + i) (l := s.l.drop i) n 0 #[] (fun j hj => by
    have h1 : j + i < s.l.length := by omega
    rw [List.getElem?_drop]
    have h2 : s.l[i + j]? = some s.l[i + j] := by simp
    rw [h2]
    have := hs.cell h2
    rw [← this]; congr 2; omega) (by simp; omega)
  simpa [loadCells] using this

/-- Some values laid over a row, from place i on. -/
def putAt : List Value → Nat → List Value → List Value
  | l, _, [] => l
  | l, i, v :: vs => putAt (l.set i v) (i + 1) vs

theorem putAt_length : ∀ (vs l : List Value) (i : Nat), (putAt l i vs).length = l.length
  | [], _, _ => rfl
  | v :: vs, l, i => by simp [putAt, putAt_length vs]

theorem putAt_append : ∀ (ys xs zs : List Value), ys.length ≤ zs.length → putAt (xs ++ zs) xs.length ys = xs ++ ys ++ zs.drop ys.length
  | [], xs, zs, _ => by simp [putAt]
  | y :: ys, xs, zs, h => by
    cases zs with
    | nil => simp at h
    | cons z zs =>
      have e : (xs ++ z :: zs).set xs.length y = (xs ++ [y]) ++ zs := by simp
      have := putAt_append ys (xs ++ [y]) zs (by simpa using h)
      simp only [List.length_append, List.length_cons, List.length_nil] at this
      simp only [putAt, e]
      rw [show xs.length + 1 = xs.length + (0 + 1) by omega, this]
      simp

theorem run_storeCells {base : Nat} {w0 : World} {b o i : Nat} : ∀ (vs : List Value) (j : Nat) (l : List Value) (w : World), Sim false base w0 w (⟨true, b, o, l⟩ :: M) → (∀ v ∈ vs, v.oneCell' = true) → i + j + vs.length ≤ l.length →
    ∃ w', (storeCells ⟨b, o + i, none⟩ vs j).run P w = .ok () w' ∧ Sim false base w0 w' (⟨true, b, o, putAt l (i + j) vs⟩ :: M)
  | [], j, l, w, hS, _, _ => ⟨w, by simp [storeCells], hS⟩
  | v :: vs, j, l, w, hS, hv, hl => by
    simp only [List.length_cons] at hl
    have hi : i + j < l.length := by omega
    have hs := hS.seg _ (.head _)
    have hc := hs.cell (i := i + j) (v := l[i + j]) (by simp [hi])
    have hf := hs.free rfl hi
    have hS' : Sim false base w0 (w.setCell ⟨b, o + (i + j), none⟩ v) (⟨true, b, o, l.set (i + j) v⟩ :: M) := hS.set (s := ⟨true, b, o, l⟩) rfl hi .head
    obtain ⟨w', h1, h2⟩ := run_storeCells (o := o) (i := i) vs (j + 1) (l.set (i + j) v) _ hS' (fun u hu => hv u (.tail _ hu)) (by simp; omega)
    refine ⟨w', ?_, h2⟩
    simp only [storeCells, add_place]
    have e : o + i + j = o + (i + j) := by omega
    rw [e]
    simp only at hc hf
    simp [run_store P w _ v .plain (hv v (.head _)), hc, hf, h1]

/-- A struct read whole. -/
theorem P_loadAgg {t : TypeId} {x : Operand} {own : Bool} {b o n i : Nat} {l cs : List Value} (ht : AggT P t) (hn : Cel P t n) (hn0 : 0 < n)
    (hx : ev E x = some (.pointer (some ⟨b, o + i, none⟩))) (hm : (⟨own, b, o, l⟩ : Sg) ∈ M) (hl : i + n ≤ l.length) (hc : (l.drop i).take n = cs) : Pure P N E M (.load t x) (.agg cs.toArray) := by
  constructor
  intro pr base w0 a w hA hS d ty pos after g
  obtain ⟨I, hI, hs⟩ := size_of hn.out hn0
  have h1 := run_loadCells (P := P) (hS.seg _ hm) hl
  simp only [hc] at h1
  obtain ⟨D, ht, hD⟩ := ht.out
  cases D <;> simp [isAggD] at hD <;> simp [execOp, Instr.loadAt, Instr.sureAddr, hA.eval hx, loadVar, isAgg, run_under ht, sizeOf, typeInfo, hI, hs, h1]

/-- A struct stored whole. -/
theorem OL_storeAgg {t : TypeId} {p x : Operand} {b o n i : Nat} {l cs : List Value} {M0 : Mem} (hn : Cel P t n) (hn0 : 0 < n) (hp : ev E p = some (.pointer (some ⟨b, o + i, none⟩)))
    (hx : ev E x = some (.agg cs.toArray)) (hcs : cs.length = n) (hv : ∀ v ∈ cs, v.oneCell' = true) (hg : On E ops g) (hm : Take1 M ⟨true, b, o, l⟩ M0) (hl : i + n ≤ l.length)
    (h : OL false P N ops Q rest E (⟨true, b, o, putAt l i cs⟩ :: M0)) : OL false P N ops Q (⟨none, .store t p x, ty, pos, after, g⟩ :: rest) E M := by
  constructor
  intro base w0 a w hA hS
  unfold wpList
  rw [if_pos (On.wanted (o := ⟨none, .store t p x, ty, pos, after, g⟩) hg hA)]
  refine .inl ?_
  unfold Oper.wp
  obtain ⟨I, hI, hs⟩ := size_of hn.out hn0
  obtain ⟨w', h1, h2⟩ := run_storeCells (P := P) (i := i) cs 0 l w (hS.rk (.cons hm .rfl)) hv (by omega)
  have hr : (execOp a.eval ⟨none, .store t p x, ty, pos, after, g⟩).run P w = .ok .skip w' := by
    simp only [execOp, Instr.storeAt, Instr.sureAddr, hA.eval hp, hA.eval hx]
    simp [storeVar, Value.cells, sizeOf, typeInfo, hI, hs, hcs, h1]
  rw [hr]
  exact h.out base w0 _ _ hA h2

/-! ### append -/

theorem growBy_le (n : Nat) : ∀ (r c : Nat), c ≤ 2 * n + 192 → Builtin.growBy n r c ≤ 2 * n + 192
  | 0, c, h => h
  | r + 1, c, h => by
    unfold Builtin.growBy
    split
    · exact h
    · exact growBy_le n r _ (by omega)

theorem nextslicecap_le {n c : Nat} (h : c < n) : Builtin.nextslicecap n c ≤ 2 * n + 192 := by
  unfold Builtin.nextslicecap
  split
  · omega
  · split
    · omega
    · exact growBy_le n 4 c (by omega)

/-- A slice of the call's own: its elements' cells, and what memory bears it. -/
def Own (s : Value) (size : Nat) (xs : List Value) (m : Mem) : Prop :=
  (s = .slice none 0 0 ∧ xs = [] ∧ m = []) ∨
  ∃ b len cap sp, s = .slice (some ⟨b, 0, none⟩) len cap ∧ m = [⟨true, b, 0, xs ++ sp⟩] ∧ xs.length = len * size ∧ (xs ++ sp).length = cap * size

theorem Own.of_new {size b len : Nat} {xs : List Value} (h : xs.length = len * size) : Own (.slice (some ⟨b, 0, none⟩) len len) size xs [⟨true, b, 0, xs⟩] :=
  .inr ⟨b, len, len, [], rfl, by simp, h, by simpa using h⟩

theorem zeroCells_length (z : Array Value) (n : Nat) : (Builtin.zeroCells z n).size = n * z.size := by simp [Builtin.zeroCells]

theorem run_append_grow {t e t2 e2 ty : TypeId} {I : TypeInfo} {z : Value} {sb : Option Addr} {bx ox n cx size len cap : Nat} {xs ys : List Value} {w : World} (ht : Und P t (.slice e)) (ht2 : Und P t2 (.slice e2))
    (hI : P.info? e = some I) (hsz : I.size = size) (hs0 : 0 < I.bytes) (hz : I.zero = some z) (hcap : cap < len + n)
    (hfirst : (Builtin.firstCells size len (.slice sb len cap)).run P w.drew = .ok xs.toArray w.drew) (hx : (loadCells ⟨bx, ox, none⟩ (n * size)).run P w.drew = .ok ys.toArray w.drew)
    (hroom : (2 * (len + n) + 192) * I.bytes ≤ 281474976710656) :
    ∃ q, len + n ≤ q ∧ (Builtin.append_ #[t, t2] ty #[.slice sb len cap, .slice (some ⟨bx, ox, none⟩) n cx]).run P w =
      .ok (.slice (some ⟨w.heap.size, 0, none⟩) (len + n) q) (w.drew.alloc (.cells (xs.toArray ++ ys.toArray ++ Builtin.zeroCells z.cells (q - (len + n))) e)) := by
  have hnc : ¬ len + n ≤ cap := by omega
  have hcaps := nextslicecap_le hcap
  have hbig : ¬ 281474976710656 < Builtin.nextslicecap (len + n) cap * I.bytes := by
    have := Nat.mul_le_mul_right I.bytes hcaps
    omega
  have hb : ¬ I.bytes = 0 := by omega
  refine ⟨Question.cut (.appendCap (len + n) cap e) (w.tape w.drawn (.appendCap (len + n) cap e)), by simp [Question.cut], ?_⟩
  have hfx : (Builtin.firstCells size n (.slice (some ⟨bx, ox, none⟩) n cx)).run P w.drew = .ok ys.toArray w.drew := hx
  unfold Builtin.append_
  simp [ht.run, ht2.run, sizeOf, typeInfo, hI, hsz, Builtin.lenOf, hnc, hbig, hb, hfirst, zeroValue, hz, hfx, newRow, Question.forced]
  exact congrArg (fun c => w.drew.alloc (.cells c e)) (Array.ext' (by simp))

theorem run_append_fit {t e t2 e2 ty : TypeId} {I : TypeInfo} {base : Nat} {w0 : World} {b bx ox n cx size len cap : Nat} {xs ys sp : List Value} {w : World} (ht : Und P t (.slice e)) (ht2 : Und P t2 (.slice e2))
    (hI : P.info? e = some I) (hsz : I.size = size) (hcap : len + n ≤ cap) (hlen : xs.length = len * size) (hsp : (xs ++ sp).length = cap * size) (hys : ys.length = n * size)
    (hx : (loadCells ⟨bx, ox, none⟩ (n * size)).run P w = .ok ys.toArray w) (hS : Sim false base w0 w (⟨true, b, 0, xs ++ sp⟩ :: M)) (hv : ∀ v ∈ ys, v.oneCell' = true) :
    ∃ w', (Builtin.append_ #[t, t2] ty #[.slice (some ⟨b, 0, none⟩) len cap, .slice (some ⟨bx, ox, none⟩) n cx]).run P w = .ok (.slice (some ⟨b, 0, none⟩) (len + n) cap) w' ∧
      Sim false base w0 w' (⟨true, b, 0, (xs ++ ys) ++ sp.drop ys.length⟩ :: M) := by
  have h0 : len * size + n * size ≤ cap * size := by rw [← Nat.add_mul]; exact Nat.mul_le_mul_right _ hcap
  have h1 : ys.length ≤ sp.length := by simp only [List.length_append] at hsp; omega
  obtain ⟨w', h2, h3⟩ := run_storeCells (P := P) (i := len * size) ys 0 (xs ++ sp) w hS hv (by rw [hsp]; omega)
  refine ⟨w', ?_, ?_⟩
  · unfold Builtin.append_
    simp only [Nat.zero_add] at h2
    simp [ht.run, ht2.run, sizeOf, typeInfo, hI, hsz, Builtin.lenOf, hcap, Builtin.firstCells, hx, add_place, h2]
  · rw [Nat.add_zero, ← hlen, putAt_append ys xs sp h1] at h3
    exact h3

theorem OL_append {t e : TypeId} {I : TypeInfo} {z : Value} {s x : Operand} {t2 e2 : TypeId} {sv : Value} {bx ox n cx size : Nat} {ownx : Bool} {lx xs : List Value} {m M0 : Mem} {len : Nat} (ht : Und P t (.slice e)) (ht2 : Und P t2 (.slice e2))
    (hI : P.info? e = some I) (hsz : I.size = size) (hs0 : 0 < size) (hb0 : 0 < I.bytes) (hz : I.zero = some z) (hzs : z.cells.size = size) (hs : ev E s = some sv) (hx : ev E x = some (.slice (some ⟨bx, ox, none⟩) n cx))
    (hown : Own sv size xs m) (hM : Rk M (m ++ M0)) (hlen : xs.length = len * size) (hm : (⟨ownx, bx, ox, lx⟩ : Sg) ∈ M0) (hn : n * size ≤ lx.length) (hv : ∀ v ∈ lx, v.oneCell' = true) (hn0 : 0 < n ∨ sv ≠ .slice none 0 0)
    (hroom : (2 * (len + n) + 192) * I.bytes ≤ 281474976710656) (hg : On E ops g) (hd : Nat.blt d N.n = true)
    (h : ∀ b cap sp, ((xs ++ lx.take (n * size)) ++ sp).length = cap * size → OL false P N ops Q rest ((d, .slice (some ⟨b, 0, none⟩) (len + n) cap) :: E) (⟨true, b, 0, (xs ++ lx.take (n * size)) ++ sp⟩ :: M0)) :
    OL false P N ops Q (⟨some d, .call { callee := .builtin .append, args := #[s, x], argTypes := #[t, t2] }, ty, pos, after, g⟩ :: rest) E M := by
  constructor
  intro base w0 a w hA hS
  unfold wpList
  rw [if_pos (On.wanted (o := ⟨some d, .call { callee := .builtin .append, args := #[s, x], argTypes := #[t, t2] }, ty, pos, after, g⟩) hg hA)]
  refine .inl ?_
  unfold Oper.wp
  have hS1 := hS.rk hM
  have hx1 : (loadCells ⟨bx, ox, none⟩ (n * size)).run P w = .ok (lx.take (n * size)).toArray w := by
    have := run_loadCells (P := P) (i := 0) (n := n * size) (hS1.seg _ (List.mem_append_right _ hm)) (by simpa using hn)
    simpa using this
  have hx2 : (loadCells ⟨bx, ox, none⟩ (n * size)).run P w.drew = .ok (lx.take (n * size)).toArray w.drew := by
    have := run_loadCells (P := P) (i := 0) (n := n * size) ((hS1.drew).seg _ (List.mem_append_right _ hm)) (by simpa using hn)
    simpa using this
  have hyl : (lx.take (n * size)).length = n * size := by simp; omega
  have hM0 : Sim false base w0 w M0 := by
    refine hS1.of_mem (fun _ h => List.mem_append_right _ h) ?_
    exact hS1.dis.sublist (List.sublist_append_right m M0)
  have key : ∃ w' b cap sp, (Builtin.append_ #[t, t2] ty #[sv, .slice (some ⟨bx, ox, none⟩) n cx]).run P w = .ok (.slice (some ⟨b, 0, none⟩) (len + n) cap) w' ∧
      ((xs ++ lx.take (n * size)) ++ sp).length = cap * size ∧ Sim false base w0 w' (⟨true, b, 0, (xs ++ lx.take (n * size)) ++ sp⟩ :: M0) := by
    have grown : ∀ q, len + n ≤ q → ((xs ++ lx.take (n * size)) ++ (Builtin.zeroCells z.cells (q - (len + n))).toList).length = q * size ∧
        Sim false base w0 (w.drew.alloc (.cells (xs.toArray ++ (lx.take (n * size)).toArray ++ Builtin.zeroCells z.cells (q - (len + n))) e)) (⟨true, w.heap.size, 0, (xs ++ lx.take (n * size)) ++ (Builtin.zeroCells z.cells (q - (len + n))).toList⟩ :: M0) := by
      intro q hq
      refine ⟨?_, ?_⟩
      · simp only [List.length_append, hyl, hlen, Array.length_toList, zeroCells_length, hzs]
        rw [← Nat.add_mul, ← Nat.add_mul]
        congr 1
        omega
      · have := (Sim.drew hM0).alloc (xs.toArray ++ (lx.take (n * size)).toArray ++ Builtin.zeroCells z.cells (q - (len + n))) e
        simpa using this
    rcases hown with ⟨rfl, rfl, rfl⟩ | ⟨b, len', cap, sp, rfl, rfl, hl', hc'⟩
    · have hl0 : len = 0 := by
        rcases Nat.eq_zero_or_pos len with h | h
        · exact h
        · have := Nat.mul_pos h hs0; simp at hlen; omega
      subst hl0
      have hn1 : 0 < n := by
        rcases hn0 with h | h
        · exact h
        · exact absurd rfl h
      obtain ⟨q, hq, hr⟩ := run_append_grow (ty := ty) (P := P) (sb := none) (cap := 0) (xs := []) (cx := cx) ht ht2 hI hsz hb0 hz (by omega) (by simp [Builtin.firstCells]) hx2 hroom
      exact ⟨_, _, q, _, hr, (grown q hq).1, (grown q hq).2⟩
    · have hll : len' = len := Nat.eq_of_mul_eq_mul_right hs0 (by omega)
      subst hll
      by_cases hfit : len' + n ≤ cap
      · obtain ⟨w', h1, h2⟩ := run_append_fit (ty := ty) (P := P) (cx := cx) ht ht2 hI hsz hfit hl' hc' hyl hx1 hS1 (fun v hv' => hv v (List.mem_of_mem_take hv'))
        refine ⟨w', b, cap, _, h1, ?_, h2⟩
        simp only [List.length_append, List.length_drop, hyl] at hc' ⊢
        have h0 : len' * size + n * size ≤ cap * size := by rw [← Nat.add_mul]; exact Nat.mul_le_mul_right _ hfit
        omega
      · have hfirst : (Builtin.firstCells size len' (.slice (some ⟨b, 0, none⟩) len' cap)).run P w.drew = .ok xs.toArray w.drew := by
          have := run_loadCells (P := P) (i := 0) (n := len' * size) ((hS1.drew).seg _ (.head _)) (by simp; omega)
          simp only [Nat.add_zero, List.drop_zero] at this
          simp only [Builtin.firstCells]
          have e : (xs ++ sp).take (len' * size) = xs := by rw [← hl']; simp
          rw [e] at this
          exact this
        obtain ⟨q, hq, hr⟩ := run_append_grow (ty := ty) (P := P) (cx := cx) ht ht2 hI hsz hb0 hz (by omega) hfirst hx2 hroom
        exact ⟨_, _, q, _, hr, (grown q hq).1, (grown q hq).2⟩
  obtain ⟨w', b, cap, sp, h1, h2, h3⟩ := key
  have hr : (execOp a.eval ⟨some d, .call { callee := .builtin .append, args := #[s, x], argTypes := #[t, t2] }, ty, pos, after, g⟩).run P w = .ok (.value (.slice (some ⟨b, 0, none⟩) (len + n) cap)) w' := by
    simp [execOp, resolve, invoke, builtin, hA.eval hs, hA.eval hx, h1]
  rw [hr]
  exact (h b cap sp h2).out base w0 _ _ (hA.put hd _) h3

theorem O_append {t e : TypeId} {I : TypeInfo} {z : Value} {s x : Operand} {t2 e2 : TypeId} {sv : Value} {bx ox n cx size : Nat} {ownx : Bool} {lx xs : List Value} {m M0 : Mem} {len : Nat} (ht : Und P t (.slice e)) (ht2 : Und P t2 (.slice e2))
    (hI : P.info? e = some I) (hsz : I.size = size) (hs0 : 0 < size) (hb0 : 0 < I.bytes) (hz : I.zero = some z) (hzs : z.cells.size = size) (hs : ev E s = some sv) (hx : ev E x = some (.slice (some ⟨bx, ox, none⟩) n cx))
    (hown : Own sv size xs m) (hM : Rk M (m ++ M0)) (hlen : xs.length = len * size) (hm : (⟨ownx, bx, ox, lx⟩ : Sg) ∈ M0) (hn : n * size ≤ lx.length) (hv : ∀ v ∈ lx, v.oneCell' = true) (hn0 : 0 < n ∨ sv ≠ .slice none 0 0)
    (hroom : (2 * (len + n) + 192) * I.bytes ≤ 281474976710656) (hg : On E ops g) (hd : Nat.blt d N.n = true)
    (h : ∀ b cap sp, ((xs ++ lx.take (n * size)) ++ sp).length = cap * size → WO false P N Fin ops rest k ((d, .slice (some ⟨b, 0, none⟩) (len + n) cap) :: E) (⟨true, b, 0, (xs ++ lx.take (n * size)) ++ sp⟩ :: M0)) :
    WO false P N Fin ops (⟨some d, .call { callee := .builtin .append, args := #[s, x], argTypes := #[t, t2] }, ty, pos, after, g⟩ :: rest) k E M :=
  ⟨OL_append ht ht2 hI hsz hs0 hb0 hz hzs hs hx hown hM hlen hm hn hv hn0 hroom hg hd fun b cap sp hh => (h b cap sp hh).out⟩

theorem O_storeAgg {t : TypeId} {p x : Operand} {b o n i : Nat} {l cs : List Value} {M0 : Mem} (hn : Cel P t n) (hn0 : 0 < n) (hp : ev E p = some (.pointer (some ⟨b, o + i, none⟩)))
    (hx : ev E x = some (.agg cs.toArray)) (hcs : cs.length = n) (hv : ∀ v ∈ cs, v.oneCell' = true) (hg : On E ops g) (hm : Take1 M ⟨true, b, o, l⟩ M0) (hl : i + n ≤ l.length)
    (h : WO false P N Fin ops rest k E (⟨true, b, o, putAt l i cs⟩ :: M0)) : WO false P N Fin ops (⟨none, .store t p x, ty, pos, after, g⟩ :: rest) k E M :=
  ⟨OL_storeAgg hn hn0 hp hx hcs hv hg hm hl h.out⟩

/-- A struct stored whole into a row that is just as long. -/
theorem O_storeAgg0 {t : TypeId} {p x : Operand} {b o n : Nat} {l cs : List Value} {M0 : Mem} (hn : Cel P t n) (hn0 : 0 < n) (hp : ev E p = some (.pointer (some ⟨b, o, none⟩)))
    (hx : ev E x = some (.agg cs.toArray)) (hcs : cs.length = n) (hv : ∀ v ∈ cs, v.oneCell' = true) (hg : On E ops g) (hm : Take1 M ⟨true, b, o, l⟩ M0) (hl : l.length = n)
    (h : WO false P N Fin ops rest k E (⟨true, b, o, cs⟩ :: M0)) : WO false P N Fin ops (⟨none, .store t p x, ty, pos, after, g⟩ :: rest) k E M := by
  refine O_storeAgg (i := 0) hn hn0 hp hx hcs hv hg hm (by omega) ?_
  have := putAt_append cs [] l (by omega)
  simp only [List.nil_append, List.length_nil] at this
  rw [this, List.drop_eq_nil_of_le (by omega), List.append_nil]
  exact h

/-! ### Errors held against nil -/

/-- An interface value: is it nil? -/
def NilIs : Value → Bool → Prop
  | .nilIface, r => r = true
  | .iface _ _, r => r = false
  | _, _ => False

theorem run_equalIn_nil {t : TypeId} (ht : IfT P t) (dp : Nat) (v : Value) (r : Bool) (hr : NilIs v r) (w : World) :
    (Op.equalIn (dp + 1) t v .nilIface).run P w = .ok r w := by
  obtain ⟨D, ht, hD⟩ := ht.out
  cases D <;> simp [isIface] at hD
  cases v <;> simp [NilIs] at hr <;> subst hr <;> simp [Op.equalIn, run_under ht]

theorem run_eq_nil {t : TypeId} (ht : IfT P t) (v : Value) (r : Bool) (hr : NilIs v r) (w : World) :
    (Op.equal t v .nilIface).run P w = .ok r w := run_equalIn_nil ht 9999 v r hr w

theorem run_guard_nil {op : BinOp} {t : TypeId} {x : Operand} {v c : Value} (hv : match v with | .nilIface => True | .iface _ _ => True | _ => False) (w : World) :
    (eqGuard op t x (.const c) v .nilIface).run P w = .ok () w := by
  cases op <;> cases v <;> simp at hv <;> simp [eqGuard]

theorem P_err_eq {t t2 : TypeId} {x : Operand} {v : Value} {r : Bool} (ht : IfT P t) (hx : ev E x = some v)
    (hr : NilIs v r) : Pure P N E M (.binOp .eql t x (.const .nilIface) t2) (.bool r) := by
  constructor
  intro pr base w0 a w hA hS d ty pos after g
  have h1 := run_eq_nil ht v r hr w
  have h2 := run_guard_nil (P := P) (op := .eql) (t := t) (x := x) (v := v) (c := .nilIface) (by cases v <;> simp_all [NilIs]) w
  have h3 : binOp .eql t v .nilIface = (do pure (.bool (← Op.equal t v .nilIface))) := by cases v <;> simp [NilIs] at hr <;> rfl
  have he : a.eval (.const .nilIface) = .nilIface := rfl
  simp only [execOp, hA.eval hx, he, h3]
  simp [h1, h2]

theorem P_err_ne {t t2 : TypeId} {x : Operand} {v : Value} {r : Bool} (ht : IfT P t) (hx : ev E x = some v)
    (hr : NilIs v r) : Pure P N E M (.binOp .neq t x (.const .nilIface) t2) (.bool (!r)) := by
  constructor
  intro pr base w0 a w hA hS d ty pos after g
  have h1 := run_eq_nil ht v r hr w
  have h2 := run_guard_nil (P := P) (op := .neq) (t := t) (x := x) (v := v) (c := .nilIface) (by cases v <;> simp_all [NilIs]) w
  have h3 : binOp .neq t v .nilIface = (do pure (.bool (!(← Op.equal t v .nilIface)))) := by cases v <;> simp [NilIs] at hr <;> rfl
  have he : a.eval (.const .nilIface) = .nilIface := rfl
  simp only [execOp, hA.eval hx, he, h3]
  simp [h1, h2]

/-! ### Results that lie in memory -/

def ResL (P : Program) (E : Env) (M : Mem) : List ResultVar → List Value → Prop
  | [], [] => True
  | .tmp t :: rs, v :: vs => E.get? t = some v ∧ ResL P E M rs vs
  | .cell p t :: rs, v :: vs => (∃ own b o D l, E.get? p = some (.pointer (some ⟨b, o, none⟩)) ∧ (⟨own, b, o, v :: l⟩ : Sg) ∈ M ∧ P.underlying t = some D ∧ isAggD D = false) ∧ ResL P E M rs vs
  | _, _ => False

theorem mapM_resL {pr : Bool} {base : Nat} {w0 w : World} {a : Act} (h : Ag N E a) (hS : Sim pr base w0 w M) : ∀ (rs : List ResultVar) (vs : List Value), ResL P E M rs vs → (rs.mapM (resAt a.tmps)).run P w = .ok vs w
  | [], [], _ => by simp
  | [], v :: vs, hv => by simp [ResL] at hv
  | .tmp t :: rs, [], hv => by simp [ResL] at hv
  | .cell p t :: rs, [], hv => by simp [ResL] at hv
  | .tmp t :: rs, v :: vs, hv => by
    have h3 := h.val _ _ hv.1
    have h4 := mapM_resL h hS rs vs hv.2
    have h5 : (resAt a.tmps (.tmp t)).run P w = .ok v w := by simp [resAt, Array.getD_eq_getD_getElem?, h3]
    rw [List.mapM_cons, Sem.run_bind, h5, Result.andThen_ok, Sem.run_bind, h4]
    rfl
  | .cell p t :: rs, v :: vs, hv => by
    obtain ⟨⟨own, b, o, D, l, h1, h2, h3, h6⟩, hv2⟩ := hv
    have h4 := mapM_resL h hS rs vs hv2
    have h7 := h.val _ _ h1
    have hc := (hS.seg _ h2).cell (i := 0) (v := v) rfl
    have h5 : (resAt a.tmps (.cell p t)).run P w = .ok v w := by
      simp [resAt, Array.getD_eq_getD_getElem?, h7, asAddr]
      exact run_loadVar h3 h6 hc
    rw [List.mapM_cons, Sem.run_bind, h5, Result.andThen_ok, Sem.run_bind, h4]
    rfl

def tupled : List Value → Value
  | [v] => v
  | vs => .tuple vs.toArray

def EndsM (P : Program) (rs : List ResultVar) (R : Value → Mem → Prop) : Post
  | .normal, E, M | .ret, E, M => ∃ vs, ResL P E M rs vs ∧ R (tupled vs) M
  | _, _, _ => False

theorem HC_of_WM {f : FuncId} {fn : Func} {c : Code} {vs : List Value} {R : Value → Mem → Prop} {rs : List ResultVar} {n : Nat} (hf : P.funcs[f]? = some fn) (hb : fn.body = some c) (hN : fn.ntmps = n)
    (hrs : fn.results.toList = rs) (hs : Nat.ble vs.length n = true) (h : W pr P ⟨n, []⟩ (EndsM P rs R) c [] (zipEnv 0 vs) M) : HCp pr P f vs.toArray M R := by
  constructor
  intro base w0 w hS
  have hle : vs.length ≤ n := by simpa using hs
  have hend : ∀ (a : Act) (E' : Env) (M' : Mem) (w' : World), Ag ⟨n, []⟩ E' a → Sim pr base w0 w' M' → (∃ vs, ResL P E' M' rs vs ∧ R (tupled vs) M') →
      a.defers = [] ∧ ∃ v, (results fn a.tmps).run P w' = .ok v w' ∧ ∃ v' M', Ending.returned v = .returned v' ∧ Sim pr base w0 w' M' ∧ R v' M' := by
    intro a E' M' w' hA' hS' ⟨us, h1, h2⟩
    refine ⟨hA'.defers, tupled us, ?_, _, M', rfl, hS', h2⟩
    rw [results_eq, Sem.run_bind]
    have h3 : (fn.results.mapM (resAt a.tmps)).run P w' = .ok us.toArray w' := by
      rw [Array.mapM_eq_mapM_toList]
      simp only [Sem.run_map, hrs, mapM_resL hA' hS' _ _ h1]
      rfl
    rw [h3]
    match us with
    | [] => simp [tupled]
    | [u] => simp [tupled]
    | u :: u2 :: us => simp [tupled]
  refine calls_of_wp hf hb (wp_mono (h.out.out base w0 _ w ⟨rfl, by simp [hN]; omega, fun i v hv => ?_⟩ hS) ?_)
  · obtain ⟨h1, h2⟩ := zipEnv_get vs 0 i v hv
    simp only [Nat.sub_zero] at h2
    have hi : i < vs.length := by
      rcases Nat.lt_or_ge i vs.length with h | h
      · exact h
      · simp [List.getElem?_eq_none h] at h2
    rw [Array.getElem?_append_left (by simpa using hi)]
    simpa using h2
  · intro e a w' ⟨E', M', hA', hS', hq⟩
    cases e with
    | normal => exact hend a E' M' w' hA' hS' hq
    | ret => exact hend a E' M' w' hA' hS' hq
    | _ => exact hq.elim
end
end Go.Proofs.Ytjkpfliaflmppaa.Vm

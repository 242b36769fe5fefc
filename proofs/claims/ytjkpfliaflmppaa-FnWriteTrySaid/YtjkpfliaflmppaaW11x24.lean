/- spec.WriteAll, walked: the bits of parts. -/
import Derived.Test.YtjkpfliaflmppaaW11x22
import Derived.Test.YtjkpfliaflmppaaW11x20
import Derived.Test.YtjkpfliaflmppaaW11x18
import Derived.Test.YtjkpfliaflmppaaW11x19
import Derived.Test.YtjkpfliaflmppaaW11x11
import Derived.Test.YtjkpfliaflmppaaW11x23

namespace Go.Proofs.Ytjkpfliaflmppaa.Pc
open Go Go.RowKit Go.Proofs.Ytjkpfliaflmppaa.Vm Go.Proofs.Ytjkpfliaflmppaa.Bu

open Classical in
/-- The number of the range that has an offset. -/
noncomputable def rfind (a : Nat) (xs : List Nat) (v : Nat) : Option Nat := if h : ∃ i, i < xs.length ∧ rAt a xs i ≤ v ∧ v < rAt a xs (i + 1) then some h.choose else none
theorem rfind_some {a v i : Nat} {xs : List Nat} (h1 : i < xs.length) (h2 : rAt a xs i ≤ v) (h3 : v < rAt a xs (i + 1)) : rfind a xs v = some i := by
  have h : ∃ i, i < xs.length ∧ rAt a xs i ≤ v ∧ v < rAt a xs (i + 1) := ⟨i, h1, h2, h3⟩
  unfold rfind
  rw [dif_pos h]
  obtain ⟨_, k2, k3⟩ := h.choose_spec
  rw [rAt_uniq k2 k3 h2 h3]
theorem rfind_none {a v : Nat} {xs : List Nat} (h : ∀ i, i < xs.length → v < rAt a xs i ∨ rAt a xs (i + 1) ≤ v) : rfind a xs v = none := by
  unfold rfind
  rw [dif_neg]
  rintro ⟨i, h1, h2, h3⟩
  rcases h i h1 with h4 | h4 <;> omega

/-- What one part adds to the bits: none if it cannot be written. -/
noncomputable def wstep (cs : List Cd) (xs : List Nat) (big : Bool) (b : List Nat) (p : Pt) : Option (List Nat) :=
  if p.kind = 0 then (if p.v / 2 ^ p.n = 0 then some (b ++ bitsOf p.v p.n) else none)
  else if p.kind = 1 then (if p.v < cs.length then some (b ++ bitsOf (cs.getD p.v Cd.zero).val (cs.getD p.v Cd.zero).len) else none)
  else if p.kind = 2 then (match rfind 0 xs p.v with
    | some i => if i < cs.length then some (b ++ bitsOf (cs.getD i Cd.zero).val (cs.getD i Cd.zero).len ++ bitsOf (p.v - rAt 0 xs i) (xs.getD i 0)) else none
    | none => none)
  else if p.kind = 3 then (if p.v / 2 ^ ((8 - b.length % 8) % 8) = 0 then some (b ++ bitsOf p.v ((8 - b.length % 8) % 8)) else none)
  else if p.kind = 4 then (if b.length % 8 = 0 then some (b ++ unp big p.s) else none)
  else none
noncomputable def wTo (cs : List Cd) (xs : List Nat) (big : Bool) (l : List Pt) : Nat → Option (List Nat)
  | 0 => some []
  | i + 1 => match wTo cs xs big l i with
    | some b => wstep cs xs big b (l.getD i Pt.zero)
    | none => none
theorem wTo_none {cs : List Cd} {xs : List Nat} {big : Bool} {l : List Pt} {i : Nat} (h : wTo cs xs big l i = none) (j : Nat) (hj : i ≤ j) : wTo cs xs big l j = none := by
  induction j with
  | zero => have e : i = 0 := by omega
            rw [e] at h; exact h
  | succ j ih =>
    by_cases hij : i = j + 1
    · rw [hij] at h; exact h
    · simp only [wTo, ih (by omega)]
/-- Bits and no more than so many. -/
def Bits (b : List Nat) (i : Nat) : Prop := b.length ≤ 320 * i ∧ ∀ k, b.getD k 0 ≤ 1
theorem bit_getD {x y : List Nat} (hx : ∀ k, x.getD k 0 ≤ 1) (hy : ∀ k, y.getD k 0 ≤ 1) (k : Nat) : (x ++ y).getD k 0 ≤ 1 := by
  by_cases h : k < x.length
  · have := hx k
    rwa [List.getD_eq_getElem?_getD, List.getElem?_append_left h, ← List.getD_eq_getElem?_getD]
  · have := hy (k - x.length)
    rwa [List.getD_eq_getElem?_getD, List.getElem?_append_right (by omega), ← List.getD_eq_getElem?_getD]
theorem map_bit {f : Nat → Nat} (n : Nat) (hf : ∀ k, f k ≤ 1) (k : Nat) : ((List.range n).map f).getD k 0 ≤ 1 := by
  by_cases h : k < n
  · simp [h]; exact hf k
  · simp [h]
theorem bitsOf_bit (v n k : Nat) : (bitsOf v n).getD k 0 ≤ 1 := map_bit n (fun k => by have := Nat.mod_lt (v / 2 ^ k) (show 0 < 2 by omega); omega) k
theorem unp_bit (big : Bool) (s : List Nat) (k : Nat) : (unp big s).getD k 0 ≤ 1 := by
  induction s generalizing k with
  | nil => simp [unp]
  | cons b s ih =>
    show ((byteBits big b 8) ++ unp big s).getD k 0 ≤ 1
    exact bit_getD (fun k => map_bit 8 (fun k => by have := Nat.mod_lt (b / 2 ^ (if big then 7 - k else k)) (show 0 < 2 by omega); omega) k) ih k
theorem Bits.add {b y : List Nat} {i : Nat} (h : Bits b i) (hy : y.length ≤ 320) (hb : ∀ k, y.getD k 0 ≤ 1) : Bits (b ++ y) (i + 1) := ⟨by rw [List.length_append]; have := h.1; omega, bit_getD h.2 hb⟩

theorem wstep0 {cs : List Cd} {xs b : List Nat} {big : Bool} {p : Pt} (hk : p.kind = 0) : wstep cs xs big b p = if p.v / 2 ^ p.n = 0 then some (b ++ bitsOf p.v p.n) else none := by
  unfold wstep; rw [if_pos hk]
theorem wstep1 {cs : List Cd} {xs b : List Nat} {big : Bool} {p : Pt} (hk : p.kind = 1) : wstep cs xs big b p = if p.v < cs.length then some (b ++ bitsOf (cs.getD p.v Cd.zero).val (cs.getD p.v Cd.zero).len) else none := by
  unfold wstep; rw [if_neg (by omega), if_pos hk]
theorem wstep2 {cs : List Cd} {xs b : List Nat} {big : Bool} {p : Pt} (hk : p.kind = 2) : wstep cs xs big b p = (match rfind 0 xs p.v with
    | some i => if i < cs.length then some (b ++ bitsOf (cs.getD i Cd.zero).val (cs.getD i Cd.zero).len ++ bitsOf (p.v - rAt 0 xs i) (xs.getD i 0)) else none
    | none => none) := by
  unfold wstep; rw [if_neg (by omega), if_neg (by omega), if_pos hk]
theorem wstep3 {cs : List Cd} {xs b : List Nat} {big : Bool} {p : Pt} (hk : p.kind = 3) : wstep cs xs big b p = if p.v / 2 ^ ((8 - b.length % 8) % 8) = 0 then some (b ++ bitsOf p.v ((8 - b.length % 8) % 8)) else none := by
  unfold wstep; rw [if_neg (by omega), if_neg (by omega), if_neg (by omega), if_pos hk]
theorem wstep4 {cs : List Cd} {xs b : List Nat} {big : Bool} {p : Pt} (hk : p.kind = 4) : wstep cs xs big b p = if b.length % 8 = 0 then some (b ++ unp big p.s) else none := by
  unfold wstep; rw [if_neg (by omega), if_neg (by omega), if_neg (by omega), if_neg (by omega), if_pos hk]

theorem rkIn (A : Mem) {b : Sg} {m M : Mem} : Rk (A ++ (b :: (m ++ M))) (b :: (m ++ (A ++ M))) :=
  .perm (List.perm_middle.trans (.cons _ (List.perm_append_comm_assoc A m M)))
theorem rkOut (A : Mem) {b : Sg} {m M : Mem} : Rk (b :: (m ++ (A ++ M))) (b :: (m ++ M)) := by
  refine .cons .head (.trans (.perm (List.perm_append_comm_assoc m A M)) (Rk.right A _))
theorem rkBack (A : Mem) {b : Sg} {m M : Mem} : Rk (b :: (m ++ (A ++ M))) (A ++ (b :: (m ++ M))) :=
  .perm (List.Perm.symm (List.perm_middle.trans (.cons _ (List.perm_append_comm_assoc A m M))))

theorem P_append0 {P : Program} {N : Fm} {E : Env} {M : Mem} {t e t2 e2 : TypeId} {I : TypeInfo} {x y : Operand} {bd bs : Option Addr} {ln cn cx : Nat} (ht : Und P t (.slice e)) (ht2 : Und P t2 (.slice e2)) (hI : P.info? e = some I)
    (hx : ev E x = some (.slice bd ln cn)) (hy : ev E y = some (.slice bs 0 cx)) (hn : ln ≤ cn) : Pure P N E M (.call { callee := .builtin .append, args := #[x, y], argTypes := #[t, t2] }) (.slice bd ln cn) := by
  constructor
  intro pr base w0 a w hA hS d ty pos after g
  have h : (Builtin.append_ #[t, t2] ty #[.slice bd ln cn, .slice bs 0 cx]).run P w = .ok (.slice bd ln cn) w := by
    unfold Builtin.append_
    cases bd <;> cases bs <;> simp [ht.run, ht2.run, sizeOf, typeInfo, hI, Builtin.lenOf, Builtin.firstCells, loadCells, loadCellsFrom, storeCells, hn]
  simp [execOp, resolve, invoke, builtin, hA.eval hx, hA.eval hy, h]

theorem own_form {s : Value} {xs : List Nat} {m : Mem} (h : Own s 1 (ib xs) m) : ∃ a c, s = .slice a xs.length c ∧ xs.length ≤ c := by
  rcases h with ⟨rfl, h, _⟩ | ⟨b, len, cap, sp, rfl, rfl, h1, h2⟩
  · have h4 := congrArg List.length h
    rw [ib_length] at h4
    simp only [List.length_nil] at h4
    exact ⟨none, 0, by rw [h4], by omega⟩
  · rw [List.length_append] at h2
    rw [ib_length] at h1 h2
    obtain rfl : len = xs.length := by omega
    exact ⟨_, _, rfl, by omega⟩
theorem P_negL {P : Program} {N : Fm} {E : Env} {M : Mem} {t : TypeId} {x : Operand} {L : Nat} (hx : ev E x = some (.int .i64 (L : Int))) (hL : L ≤ 1000000) : Pure P N E M (.unOp .neg t x) (.int .i64 (-(L : Int))) := by
  have h := P_neg (P := P) (N := N) (M := M) (t := t) hx
  have h0 : (0 : Int) - (L : Int) = -(L : Int) := by omega
  have hi : inK .i64 (-(L : Int)) := inK_i64 (by omega) (by omega)
  rw [h0, wrap_id hi.lo hi.hi] at h; exact h
theorem P_and7 {P : Program} {N : Fm} {E : Env} {M : Mem} {t t2 : TypeId} {x y : Operand} {L : Nat} (hx : ev E x = some (.int .i64 (-(L : Int)))) (hy : ev E y = some (.int .i64 7)) (hL : L ≤ 1000000) : Pure P N E M (.binOp .and t x y t2) (.int .i64 ((8 - L % 8) % 8 : Nat)) := by
  have h := P_bits (P := P) (N := N) (M := M) (op := .and) (t := t) (t2 := t2) hx hy rfl
  have hw : IntKind.i64.wrap ((BitVec.ofInt IntKind.i64.bits (-(L : Int)) &&& BitVec.ofInt IntKind.i64.bits 7).toNat : Int) = ((8 - L % 8) % 8 : Nat) := by
    have h7 : (BitVec.ofInt IntKind.i64.bits (7 : Int)).toNat = 2 ^ 3 - 1 := rfl
    have h64 : (BitVec.ofInt IntKind.i64.bits (-(L : Int))).toNat = ((-(L : Int)) % 18446744073709551616).toNat := BitVec.toNat_ofInt ..
    rw [BitVec.toNat_and, h7, Nat.and_two_pow_sub_one_eq_mod, h64]
    have h8 : ((-(L : Int)) % 18446744073709551616).toNat % 2 ^ 3 = (8 - L % 8) % 8 := by omega
    rw [h8]
    have h9 : (8 - L % 8) % 8 < 8 := Nat.mod_lt _ (by omega)
    generalize (8 - L % 8) % 8 = q at *
    have hi : inK .i64 (q : Int) := inK_i64 (by omega) (by omega)
    exact wrap_id hi.lo hi.hi
  rw [hw] at h; exact h

theorem put47_z (pb v n : Nat) (a c : Int) (ha : a = v) (hc : c = n) (s : Value) (xs : List Nat) (m F : Mem) (hown : Own s 1 (ib xs) m) (hn : n ≤ 64) (hx : xs.length ≤ 100000) (hv : v < 2 ^ 64) :
    HC Try.prog 47 #[.pointer (some ⟨pb, 0, none⟩), .int .u64 a, .int .u64 c] (⟨true, pb, 0, [s]⟩ :: (m ++ F)) (fun _ M' => ∃ s' m', Own s' 1 (ib (xs ++ bitsOf v n)) m' ∧ Rk M' (⟨true, pb, 0, [s']⟩ :: (m' ++ F))) := by
  subst ha; subst hc; exact put47_c pb v n s xs m F hown hn hx hv
theorem codeOf_yes (cs : List Cd) (hN : Numbered cs) (v b cap : Nat) (own : Bool) (sp : List Value) (M : Mem) (hm : (⟨own, b, 0, codesV cs ++ sp⟩ : Sg) ∈ M) (h : v < cs.length) :
    HC Try.prog 26 #[.slice (some ⟨b, 0, none⟩) cs.length cap, .int .u64 v] M (fun r M' => r = .tuple #[.agg [.int .u32 v, .int .u32 (cs.getD v Cd.zero).cnt, .int .u32 (cs.getD v Cd.zero).len, .int .u32 (cs.getD v Cd.zero).val].toArray, .bool true] ∧ Rk M' M) :=
  (codeOf26_c cs hN v b cap own sp M hm).mono fun r M' ⟨h1, h2⟩ => ⟨by rw [h1]; unfold codeAt; rw [if_pos h, decide_eq_true h], h2⟩
theorem codeOf_no (cs : List Cd) (hN : Numbered cs) (v b cap : Nat) (own : Bool) (sp : List Value) (M : Mem) (hm : (⟨own, b, 0, codesV cs ++ sp⟩ : Sg) ∈ M) (h : ¬ v < cs.length) :
    HC Try.prog 26 #[.slice (some ⟨b, 0, none⟩) cs.length cap, .int .u64 v] M (fun r M' => r = .tuple #[.agg [.int .u32 0, .int .u32 0, .int .u32 0, .int .u32 0].toArray, .bool false] ∧ Rk M' M) :=
  (codeOf26_c cs hN v b cap own sp M hm).mono fun r M' ⟨h1, h2⟩ => ⟨by rw [h1]; unfold codeAt; rw [if_neg h, decide_eq_false h], h2⟩

theorem zero87 : zeroOf Try.prog 87 = some [.slice none 0 0] := by kernel_rfl
set_option maxHeartbeats 4000000 in
theorem writeAll21_c (l : List Pt) (cs : List Cd) (xs : List Nat) (big : Bool) (s0 s2 : Value) (cb cap : Nat) (own : Bool) (sp : List Value) (M : Mem) (hs : Ps s0 l M) (hL : LightP l) (hN : Numbered cs) (hm : (⟨own, cb, 0, codesV cs ++ sp⟩ : Sg) ∈ M) (hr : Rs s2 (mkR 0 xs) M) (hok : OkN xs) :
    HC Try.prog 21 #[s0, .slice (some ⟨cb, 0, none⟩) cs.length cap, s2, .bool big] M (fun v M' =>
      (∃ bits b, wTo cs xs big l l.length = some bits ∧ Bits bits l.length ∧ v = .tuple #[.slice (some ⟨b, 0, none⟩) ((bits.length + 7) / 8) ((bits.length + 7) / 8), .int .i64 bits.length, .bool true] ∧ Rk M' (⟨true, b, 0, ib (pkL big bits ((bits.length + 7) / 8) bits.length)⟩ :: M)) ∨
      (wTo cs xs big l l.length = none ∧ v = .tuple #[.slice none 0 0, .int .i64 0, .bool false] ∧ Rk M' M)) := by
  obtain ⟨ad, cp, e⟩ : ∃ a c, s0 = .slice a l.length c := ⟨_, _, hs.1.choose_spec.choose_spec.1⟩
  subst e
  have h60 := hL.1
  obtain ⟨I, hI, hI1, hI2, hI3⟩ := of_info info5z
  refine HC_of_W (fn := Try.f21) Try.func21 rfl rfl rfl rfl ?_
  repeat' (first | (refine isO ?_; first | refine oo (Pc rfl) ?_ | refine oo (Pa rfl (by omega) (by omega)) ?_ | (refine ob rfl ?_ ?_ <;> intro hq <;> try (exfalso; omega)) | refine oo (Pi rfl (by omega)) ?_ | refine oo (Pl rfl) ?_ | refine oo (Px rfl rfl) ?_ | refine oo (Pj rfl (by omega) (by omega)) ?_ | refine oo (Pk rfl (by omega) (by omega)) ?_ | refine oo (Pf rfl) ?_ | refine oo (Pv rfl (by omega) (by omega)) ?_ | refine oo (Pn rfl) ?_ | refine oo (Pm rfl) ?_ | refine os rfl rfl ?_ | refine ot rfl (by omega) ?_ | refine O_nil ?_) | refine wo rfl ?_ | refine wc rfl ?_ | refine wg rfl ?_ | refine go rfl ?_ | refine gc rfl ?_ | refine gg rfl ?_)
  refine O_alloc zero87 trivial rfl fun pb => ?_
  repeat' (first | (refine isO ?_; first | refine oo (Pc rfl) ?_ | refine oo (Pa rfl (by omega) (by omega)) ?_ | (refine ob rfl ?_ ?_ <;> intro hq <;> try (exfalso; omega)) | refine oo (Pi rfl (by omega)) ?_ | refine oo (Pl rfl) ?_ | refine oo (Px rfl rfl) ?_ | refine oo (Pj rfl (by omega) (by omega)) ?_ | refine oo (Pk rfl (by omega) (by omega)) ?_ | refine oo (Pf rfl) ?_ | refine oo (Pv rfl (by omega) (by omega)) ?_ | refine oo (Pn rfl) ?_ | refine oo (Pm rfl) ?_ | refine os rfl rfl ?_ | refine ot rfl (by omega) ?_ | refine O_nil ?_) | refine wo rfl ?_ | refine wc rfl ?_ | refine wg rfl ?_ | refine go rfl ?_ | refine gc rfl ?_ | refine gg rfl ?_)
  refine W_loop (α := Nat × Value × Mem × List Nat) (fun x => [(0, .slice ad l.length cp), (1, .slice (some ⟨cb, 0, none⟩) cs.length cap), (2, s2), (3, .bool big), (11, .pointer (some ⟨pb, 0, none⟩)), (12, .int .i64 x.1)]) (fun x => ⟨true, pb, 0, [x.2.1]⟩ :: (x.2.2.1 ++ M))
    (fun x => x.1 ≤ l.length ∧ Own x.2.1 1 (ib x.2.2.2) x.2.2.1 ∧ wTo cs xs big l x.1 = some x.2.2.2 ∧ Bits x.2.2.2 x.1) (fun x => l.length - x.1) (0, .slice none 0 0, [], []) ⟨by omega, .inl ⟨rfl, by simp [ib, ints], rfl⟩, rfl, Nat.le_refl _, by simp⟩ ⟨rfl, rfl, rfl, rfl, rfl, rfl, trivial⟩ .rfl ?_
  rintro ⟨i, sb, m, bits⟩ ⟨hi, hown, hw, hbits⟩
  dsimp only at hi hown hw hbits ⊢
  have hbl := hbits.1
  repeat' (first | (refine isO ?_; first | refine oo (Pc rfl) ?_ | refine oo (Pa rfl (by omega) (by omega)) ?_ | (refine ob rfl ?_ ?_ <;> intro hq <;> try (exfalso; omega)) | refine oo (Pi rfl (by omega)) ?_ | refine oo (Pl rfl) ?_ | refine oo (Px rfl rfl) ?_ | refine oo (Pj rfl (by omega) (by omega)) ?_ | refine oo (Pk rfl (by omega) (by omega)) ?_ | refine oo (Pf rfl) ?_ | refine oo (Pv rfl (by omega) (by omega)) ?_ | refine oo (Pn rfl) ?_ | refine oo (Pm rfl) ?_ | refine os rfl rfl ?_ | refine ot rfl (by omega) ?_ | refine O_nil ?_) | refine wo rfl ?_ | refine wc rfl ?_ | refine wg rfl ?_ | refine go rfl ?_ | refine gc rfl ?_ | refine gg rfl ?_)
  · have hil : i < l.length := by omega
    obtain ⟨b, o, cap', k, v, n, bs, ad', c, e, hmp, hget, hokp⟩ := hs.at hil
    cases e
    have hblk := putsV_block l i hil hget
    have hw1 : wTo cs xs big l (i + 1) = wstep cs xs big bits ⟨k, v, n, bs, .slice ad' bs.length c⟩ := by simp only [wTo, hw, hget]
    have hbad : wstep cs xs big bits ⟨k, v, n, bs, .slice ad' bs.length c⟩ = none → wTo cs xs big l l.length = none := fun h => wTo_none (hw1.trans h) _ (by omega)
    have hlt := hL.2 i hil
    rw [hget] at hlt
    obtain ⟨g0, g1, g2, g3, g4⟩ := hlt
    dsimp only at g0 g1 g2 g3 g4
    have hv := hokp.v
    have hbs := hokp.s
    dsimp only at hv hbs
    repeat' (first | (refine isO ?_; first | refine oo (Pc rfl) ?_ | refine oo (Pa rfl (by omega) (by omega)) ?_ | (refine ob rfl ?_ ?_ <;> intro hq <;> try (exfalso; omega)) | refine oo (Pi rfl (by omega)) ?_ | refine oo (Pl rfl) ?_ | refine oo (Px rfl rfl) ?_ | refine oo (Pj rfl (by omega) (by omega)) ?_ | refine oo (Pk rfl (by omega) (by omega)) ?_ | refine oo (Pf rfl) ?_ | refine oo (Pv rfl (by omega) (by omega)) ?_ | refine oo (Pn rfl) ?_ | refine oo (Pm rfl) ?_ | refine os rfl rfl ?_ | refine ot rfl (by omega) ?_ | refine O_nil ?_) | refine wo rfl ?_ | refine wc rfl ?_ | refine wg rfl ?_ | refine go rfl ?_ | refine gc rfl ?_ | refine gg rfl ?_)
    refine O_pure (P_loadAggAt (o := o) (i := i * 4) (cs := [.int .i64 k, .int .u64 v, .int .u64 n, .slice ad' bs.length c]) Tb.a76 Tb.c76 (by decide) rfl (by omega) (.tail _ (List.mem_append_right _ hmp)) (by rw [putsV_length]; omega) hblk) trivial rfl ?_
    refine O_alloc zero76' trivial rfl fun bx => ?_
    refine O_storeAgg0 Tb.c76 (by decide) rfl rfl rfl (lit4_one _ _ _ _ _ _) trivial .head rfl ?_
    repeat' (first | (refine isO ?_; first | refine oo (Pc rfl) ?_ | refine oo (Pa rfl (by omega) (by omega)) ?_ | (refine ob rfl ?_ ?_ <;> intro hq <;> try (exfalso; omega)) | refine oo (Pi rfl (by omega)) ?_ | refine oo (Pl rfl) ?_ | refine oo (Px rfl rfl) ?_ | refine oo (Pj rfl (by omega) (by omega)) ?_ | refine oo (Pk rfl (by omega) (by omega)) ?_ | refine oo (Pf rfl) ?_ | refine oo (Pv rfl (by omega) (by omega)) ?_ | refine oo (Pn rfl) ?_ | refine oo (Pm rfl) ?_ | refine os rfl rfl ?_ | refine ot rfl (by omega) ?_ | refine O_nil ?_) | refine wo rfl ?_ | refine wc rfl ?_ | refine wg rfl ?_ | refine go rfl ?_ | refine gc rfl ?_ | refine gg rfl ?_)
    · have hk : k = 0 := by omega
      have hst := wstep0 (cs := cs) (xs := xs) (b := bits) (big := big) (p := ⟨k, v, n, bs, .slice ad' bs.length c⟩) hk
      dsimp only at hst
      have hn := g2 hk
      refine O_pure (P_shrE (p := v) (q := n) (r := v / 2 ^ n) rfl rfl hv rfl) trivial rfl ?_
      generalize v / 2 ^ n = q at *
      repeat' (first | (refine isO ?_; first | refine oo (Pc rfl) ?_ | refine oo (Pa rfl (by omega) (by omega)) ?_ | (refine ob rfl ?_ ?_ <;> intro hq <;> try (exfalso; omega)) | refine oo (Pi rfl (by omega)) ?_ | refine oo (Pl rfl) ?_ | refine oo (Px rfl rfl) ?_ | refine oo (Pj rfl (by omega) (by omega)) ?_ | refine oo (Pk rfl (by omega) (by omega)) ?_ | refine oo (Pf rfl) ?_ | refine oo (Pv rfl (by omega) (by omega)) ?_ | refine oo (Pn rfl) ?_ | refine oo (Pm rfl) ?_ | refine os rfl rfl ?_ | refine ot rfl (by omega) ?_ | refine O_nil ?_) | refine wo rfl ?_ | refine wc rfl ?_ | refine wg rfl ?_ | refine go rfl ?_ | refine gc rfl ?_ | refine gg rfl ?_)
      · exact G_fin ⟨_, rfl, .inr ⟨hbad (hst.trans (if_neg (by omega))), rfl, .drop (.drop (Rk.right m M))⟩⟩
      · refine O_call rfl rfl Tb.k47 trivial rfl (HCp.take (rkIn [_]) (put47_c pb v n sb bits m _ hown (by omega) (by omega) hv)) ?_
        rintro _ M' ⟨s', m', hown', hrk⟩
        refine O_weak (.trans hrk (rkOut [_])) ?_
        repeat' (first | (refine isO ?_; first | refine oo (Pc rfl) ?_ | refine oo (Pa rfl (by omega) (by omega)) ?_ | (refine ob rfl ?_ ?_ <;> intro hq <;> try (exfalso; omega)) | refine oo (Pi rfl (by omega)) ?_ | refine oo (Pl rfl) ?_ | refine oo (Px rfl rfl) ?_ | refine oo (Pj rfl (by omega) (by omega)) ?_ | refine oo (Pk rfl (by omega) (by omega)) ?_ | refine oo (Pf rfl) ?_ | refine oo (Pv rfl (by omega) (by omega)) ?_ | refine oo (Pn rfl) ?_ | refine oo (Pm rfl) ?_ | refine os rfl rfl ?_ | refine ot rfl (by omega) ?_ | refine O_nil ?_) | refine wo rfl ?_ | refine wc rfl ?_ | refine wg rfl ?_ | refine go rfl ?_ | refine gc rfl ?_ | refine gg rfl ?_)
        exact G_stop ⟨(i + 1, s', m', bits ++ bitsOf v n), ⟨by omega, hown', hw1.trans (hst.trans (if_pos (by omega))), hbits.add (by rw [bitsOf_length]; omega) (bitsOf_bit v n)⟩, by dsimp only; omega, ⟨rfl, rfl, rfl, rfl, rfl, rfl, trivial⟩, .rfl⟩
    · have hk : k = 1 := by omega
      have hst := wstep1 (cs := cs) (xs := xs) (b := bits) (big := big) (p := ⟨k, v, n, bs, .slice ad' bs.length c⟩) hk
      dsimp only at hst
      by_cases hvl : v < cs.length
      · rw [if_pos hvl] at hst
        refine O_call rfl rfl Tb.k26 trivial rfl (codeOf_yes cs hN v cb cap own sp _ (.tail _ (.tail _ (List.mem_append_right _ hm))) hvl) ?_
        rintro _ M' ⟨rfl, hrk⟩
        refine O_weak hrk ?_
        clear hrk
        have h1 := hN.len v hvl
        have h2 := hN.val v hvl
        generalize (cs.getD v Cd.zero).val = cv at *
        generalize (cs.getD v Cd.zero).len = cl at *
        repeat' (first | (refine isO ?_; first | refine oo (Pc rfl) ?_ | refine oo (Pa rfl (by omega) (by omega)) ?_ | (refine ob rfl ?_ ?_ <;> intro hq <;> try (exfalso; omega)) | refine oo (Pi rfl (by omega)) ?_ | refine oo (Pl rfl) ?_ | refine oo (Px rfl rfl) ?_ | refine oo (Pj rfl (by omega) (by omega)) ?_ | refine oo (Pk rfl (by omega) (by omega)) ?_ | refine oo (Pf rfl) ?_ | refine oo (Pv rfl (by omega) (by omega)) ?_ | refine oo (Pn rfl) ?_ | refine oo (Pm rfl) ?_ | refine os rfl rfl ?_ | refine ot rfl (by omega) ?_ | refine O_nil ?_) | refine wo rfl ?_ | refine wc rfl ?_ | refine wg rfl ?_ | refine go rfl ?_ | refine gc rfl ?_ | refine gg rfl ?_)
        refine O_alloc zero42 trivial rfl fun b4 => ?_
        refine O_storeAgg0 Tb.c42 (by decide) rfl rfl rfl (lit_one _ _ _ _) trivial .head rfl ?_
        repeat' (first | (refine isO ?_; first | refine oo (Pc rfl) ?_ | refine oo (Pa rfl (by omega) (by omega)) ?_ | (refine ob rfl ?_ ?_ <;> intro hq <;> try (exfalso; omega)) | refine oo (Pi rfl (by omega)) ?_ | refine oo (Pl rfl) ?_ | refine oo (Px rfl rfl) ?_ | refine oo (Pj rfl (by omega) (by omega)) ?_ | refine oo (Pk rfl (by omega) (by omega)) ?_ | refine oo (Pf rfl) ?_ | refine oo (Pv rfl (by omega) (by omega)) ?_ | refine oo (Pn rfl) ?_ | refine oo (Pm rfl) ?_ | refine os rfl rfl ?_ | refine ot rfl (by omega) ?_ | refine O_nil ?_) | refine wo rfl ?_ | refine wc rfl ?_ | refine wg rfl ?_ | refine go rfl ?_ | refine gc rfl ?_ | refine gg rfl ?_)
        refine O_call rfl rfl Tb.k47 trivial rfl (HCp.take (rkIn [_, _]) (put47_c pb cv cl sb bits m _ hown (by omega) (by omega) (by omega))) ?_
        rintro _ M' ⟨s', m', hown', hrk⟩
        refine O_weak (.trans hrk (rkOut [_, _])) ?_
        repeat' (first | (refine isO ?_; first | refine oo (Pc rfl) ?_ | refine oo (Pa rfl (by omega) (by omega)) ?_ | (refine ob rfl ?_ ?_ <;> intro hq <;> try (exfalso; omega)) | refine oo (Pi rfl (by omega)) ?_ | refine oo (Pl rfl) ?_ | refine oo (Px rfl rfl) ?_ | refine oo (Pj rfl (by omega) (by omega)) ?_ | refine oo (Pk rfl (by omega) (by omega)) ?_ | refine oo (Pf rfl) ?_ | refine oo (Pv rfl (by omega) (by omega)) ?_ | refine oo (Pn rfl) ?_ | refine oo (Pm rfl) ?_ | refine os rfl rfl ?_ | refine ot rfl (by omega) ?_ | refine O_nil ?_) | refine wo rfl ?_ | refine wc rfl ?_ | refine wg rfl ?_ | refine go rfl ?_ | refine gc rfl ?_ | refine gg rfl ?_)
        exact G_stop ⟨(i + 1, s', m', bits ++ bitsOf cv cl), ⟨by omega, hown', hw1.trans hst, hbits.add (by rw [bitsOf_length]; omega) (bitsOf_bit cv cl)⟩, by dsimp only; omega, ⟨rfl, rfl, rfl, rfl, rfl, rfl, trivial⟩, .rfl⟩
      · rw [if_neg hvl] at hst
        refine O_call rfl rfl Tb.k26 trivial rfl (codeOf_no cs hN v cb cap own sp _ (.tail _ (.tail _ (List.mem_append_right _ hm))) hvl) ?_
        rintro _ M' ⟨rfl, hrk⟩
        refine O_weak hrk ?_
        clear hrk
        repeat' (first | (refine isO ?_; first | refine oo (Pc rfl) ?_ | refine oo (Pa rfl (by omega) (by omega)) ?_ | (refine ob rfl ?_ ?_ <;> intro hq <;> try (exfalso; omega)) | refine oo (Pi rfl (by omega)) ?_ | refine oo (Pl rfl) ?_ | refine oo (Px rfl rfl) ?_ | refine oo (Pj rfl (by omega) (by omega)) ?_ | refine oo (Pk rfl (by omega) (by omega)) ?_ | refine oo (Pf rfl) ?_ | refine oo (Pv rfl (by omega) (by omega)) ?_ | refine oo (Pn rfl) ?_ | refine oo (Pm rfl) ?_ | refine os rfl rfl ?_ | refine ot rfl (by omega) ?_ | refine O_nil ?_) | refine wo rfl ?_ | refine wc rfl ?_ | refine wg rfl ?_ | refine go rfl ?_ | refine gc rfl ?_ | refine gg rfl ?_)
        refine O_alloc zero42 trivial rfl fun b4 => ?_
        refine O_storeAgg0 Tb.c42 (by decide) rfl rfl rfl (lit_one 0 0 0 0) trivial .head rfl ?_
        repeat' (first | (refine isO ?_; first | refine oo (Pc rfl) ?_ | refine oo (Pa rfl (by omega) (by omega)) ?_ | (refine ob rfl ?_ ?_ <;> intro hq <;> try (exfalso; omega)) | refine oo (Pi rfl (by omega)) ?_ | refine oo (Pl rfl) ?_ | refine oo (Px rfl rfl) ?_ | refine oo (Pj rfl (by omega) (by omega)) ?_ | refine oo (Pk rfl (by omega) (by omega)) ?_ | refine oo (Pf rfl) ?_ | refine oo (Pv rfl (by omega) (by omega)) ?_ | refine oo (Pn rfl) ?_ | refine oo (Pm rfl) ?_ | refine os rfl rfl ?_ | refine ot rfl (by omega) ?_ | refine O_nil ?_) | refine wo rfl ?_ | refine wc rfl ?_ | refine wg rfl ?_ | refine go rfl ?_ | refine gc rfl ?_ | refine gg rfl ?_)
        exact G_fin ⟨_, rfl, .inr ⟨hbad hst, rfl, .drop (.drop (.drop (Rk.right m M)))⟩⟩
    · have hk : k = 2 := by omega
      have hst := wstep2 (cs := cs) (xs := xs) (b := bits) (big := big) (p := ⟨k, v, n, bs, .slice ad' bs.length c⟩) hk
      dsimp only at hst
      refine O_call rfl rfl Tb.k36 trivial rfl (of36_c 0 v s2 xs _ (by omega) (hr.mono fun x hx => .tail _ (.tail _ (List.mem_append_right _ hx))) hok) ?_
      rintro _ M' ⟨⟨f, hf, hf1, hf2, rfl⟩ | ⟨hno, rfl⟩, hrk⟩
      · rw [rfind_some hf hf1 hf2] at hst
        dsimp only at hst
        obtain ⟨rb, rown, rsp, rcap, hs2, hrc, rm⟩ := hr.at (by rw [mkR_length]; omega)
        rw [mkR_length] at hs2
        subst hs2
        refine O_weak hrk ?_
        clear hrk
        repeat' (first | (refine isO ?_; first | refine oo (Pc rfl) ?_ | refine oo (Pa rfl (by omega) (by omega)) ?_ | (refine ob rfl ?_ ?_ <;> intro hq <;> try (exfalso; omega)) | refine oo (Pi rfl (by omega)) ?_ | refine oo (Pl rfl) ?_ | refine oo (Px rfl rfl) ?_ | refine oo (Pj rfl (by omega) (by omega)) ?_ | refine oo (Pk rfl (by omega) (by omega)) ?_ | refine oo (Pf rfl) ?_ | refine oo (Pv rfl (by omega) (by omega)) ?_ | refine oo (Pn rfl) ?_ | refine oo (Pm rfl) ?_ | refine os rfl rfl ?_ | refine ot rfl (by omega) ?_ | refine O_nil ?_) | refine wo rfl ?_ | refine wc rfl ?_ | refine wg rfl ?_ | refine go rfl ?_ | refine gc rfl ?_ | refine gg rfl ?_)
        by_cases hvl : f < cs.length
        · rw [if_pos hvl] at hst
          refine O_call rfl rfl Tb.k26 trivial rfl (codeOf_yes cs hN f cb cap own sp _ (.tail _ (.tail _ (List.mem_append_right _ hm))) hvl) ?_
          rintro _ M' ⟨rfl, hrk⟩
          refine O_weak hrk ?_
          clear hrk
          have h1 := hN.len f hvl
          have h2 := hN.val f hvl
          have h3 := hok.2 f hf
          have hg0 := rget0 rsp (by rw [mkR_length]; exact hf) (mkR_get 0 xs f hf)
          have hg1 := rget1 rsp (by rw [mkR_length]; exact hf) (mkR_get 0 xs f hf)
          generalize (cs.getD f Cd.zero).val = cv at *
          generalize (cs.getD f Cd.zero).len = cl at *
          repeat' (first | (refine isO ?_; first | refine oo (Pc rfl) ?_ | refine oo (Pa rfl (by omega) (by omega)) ?_ | (refine ob rfl ?_ ?_ <;> intro hq <;> try (exfalso; omega)) | refine oo (Pi rfl (by omega)) ?_ | refine oo (Pl rfl) ?_ | refine oo (Px rfl rfl) ?_ | refine oo (Pj rfl (by omega) (by omega)) ?_ | refine oo (Pk rfl (by omega) (by omega)) ?_ | refine oo (Pf rfl) ?_ | refine oo (Pv rfl (by omega) (by omega)) ?_ | refine oo (Pn rfl) ?_ | refine oo (Pm rfl) ?_ | refine os rfl rfl ?_ | refine ot rfl (by omega) ?_ | refine O_nil ?_) | refine wo rfl ?_ | refine wc rfl ?_ | refine wg rfl ?_ | refine go rfl ?_ | refine gc rfl ?_ | refine gg rfl ?_)
          refine O_alloc zero42 trivial rfl fun b4 => ?_
          refine O_storeAgg0 Tb.c42 (by decide) rfl rfl rfl (lit_one _ _ _ _) trivial .head rfl ?_
          repeat' (first | (refine isO ?_; first | refine oo (Pc rfl) ?_ | refine oo (Pa rfl (by omega) (by omega)) ?_ | (refine ob rfl ?_ ?_ <;> intro hq <;> try (exfalso; omega)) | refine oo (Pi rfl (by omega)) ?_ | refine oo (Pl rfl) ?_ | refine oo (Px rfl rfl) ?_ | refine oo (Pj rfl (by omega) (by omega)) ?_ | refine oo (Pk rfl (by omega) (by omega)) ?_ | refine oo (Pf rfl) ?_ | refine oo (Pv rfl (by omega) (by omega)) ?_ | refine oo (Pn rfl) ?_ | refine oo (Pm rfl) ?_ | refine os rfl rfl ?_ | refine ot rfl (by omega) ?_ | refine O_nil ?_) | refine wo rfl ?_ | refine wc rfl ?_ | refine wg rfl ?_ | refine go rfl ?_ | refine gc rfl ?_ | refine gg rfl ?_)
          refine O_call rfl rfl Tb.k47 trivial rfl (HCp.take (rkIn [_, _]) (put47_c pb cv cl sb bits m _ hown (by omega) (by omega) (by omega))) ?_
          rintro _ M' ⟨s', m', hown', hrk⟩
          refine O_weak (.trans hrk (rkBack [_, _])) ?_
          repeat' (first | (refine isO ?_; first | refine oo (Pc rfl) ?_ | refine oo (Pa rfl (by omega) (by omega)) ?_ | (refine ob rfl ?_ ?_ <;> intro hq <;> try (exfalso; omega)) | refine oo (Pi rfl (by omega)) ?_ | refine oo (Pl rfl) ?_ | refine oo (Px rfl rfl) ?_ | refine oo (Pj rfl (by omega) (by omega)) ?_ | refine oo (Pk rfl (by omega) (by omega)) ?_ | refine oo (Pf rfl) ?_ | refine oo (Pv rfl (by omega) (by omega)) ?_ | refine oo (Pn rfl) ?_ | refine oo (Pm rfl) ?_ | refine os rfl rfl ?_ | refine ot rfl (by omega) ?_ | refine O_nil ?_) | refine wo rfl ?_ | refine wc rfl ?_ | refine wg rfl ?_ | refine go rfl ?_ | refine gc rfl ?_ | refine gg rfl ?_)
          have hrl := rAt_le (a := 0) hok f (by omega)
          refine W_region_tail 15 Tb.mixed (by kernel_rfl) ?_
          simp only [List.take_succ_cons, List.take_zero, List.drop_succ_cons, List.drop_zero]
          repeat' (first | (refine isS ?_; first | refine ss (Pc rfl) ?_ | refine ss (Pa rfl (by omega) (by omega)) ?_ | (refine sb rfl ?_ ?_ <;> intro hq <;> try (exfalso; omega)) | refine ss (Pi rfl (by omega)) ?_ | refine ss (Pl rfl) ?_ | refine ss (Px rfl rfl) ?_ | refine ss (Pj rfl (by omega) (by omega)) ?_ | refine ss (Pk rfl (by omega) (by omega)) ?_ | refine ss (Pf rfl) ?_ | refine ss (Pv rfl (by omega) (by omega)) ?_ | refine ss (Pn rfl) ?_ | refine ss (Pm rfl) ?_ | refine OS_nil ?_))
          refine OS_pure (P_loadAt (o := 0) (n := f * 2 + 0) (v := .int .u32 (rAt 0 xs f : Nat)) Tb.p40 rfl (by omega) (.tail _ (.tail _ (.tail _ (List.mem_append_right _ rm)))) hg0) trivial rfl ?_
          repeat' (first | (refine isS ?_; first | refine ss (Pc rfl) ?_ | refine ss (Pa rfl (by omega) (by omega)) ?_ | (refine sb rfl ?_ ?_ <;> intro hq <;> try (exfalso; omega)) | refine ss (Pi rfl (by omega)) ?_ | refine ss (Pl rfl) ?_ | refine ss (Px rfl rfl) ?_ | refine ss (Pj rfl (by omega) (by omega)) ?_ | refine ss (Pk rfl (by omega) (by omega)) ?_ | refine ss (Pf rfl) ?_ | refine ss (Pv rfl (by omega) (by omega)) ?_ | refine ss (Pn rfl) ?_ | refine ss (Pm rfl) ?_ | refine OS_nil ?_))
          refine OS_pure (P_loadAt (o := 0) (n := f * 2 + 1) (v := .int .u32 (xs.getD f 0 : Nat)) Tb.p40 rfl (by omega) (.tail _ (.tail _ (.tail _ (List.mem_append_right _ rm)))) hg1) trivial rfl ?_
          repeat' (first | (refine isS ?_; first | refine ss (Pc rfl) ?_ | refine ss (Pa rfl (by omega) (by omega)) ?_ | (refine sb rfl ?_ ?_ <;> intro hq <;> try (exfalso; omega)) | refine ss (Pi rfl (by omega)) ?_ | refine ss (Pl rfl) ?_ | refine ss (Px rfl rfl) ?_ | refine ss (Pj rfl (by omega) (by omega)) ?_ | refine ss (Pk rfl (by omega) (by omega)) ?_ | refine ss (Pf rfl) ?_ | refine ss (Pv rfl (by omega) (by omega)) ?_ | refine ss (Pn rfl) ?_ | refine ss (Pm rfl) ?_ | refine OS_nil ?_))
          refine O_call rfl rfl Tb.k47 trivial rfl (HCp.take (rkIn [_, _]) (put47_z pb (v - rAt 0 xs f) (xs.getD f 0) _ _ (by omega) rfl s' (bits ++ bitsOf cv cl) m' _ hown' (by omega) (by rw [List.length_append, bitsOf_length]; omega) (by omega))) ?_
          rintro _ M' ⟨s2, m2, hown2, hrk⟩
          refine O_weak (.trans hrk (rkOut [_, _])) ?_
          repeat' (first | (refine isO ?_; first | refine oo (Pc rfl) ?_ | refine oo (Pa rfl (by omega) (by omega)) ?_ | (refine ob rfl ?_ ?_ <;> intro hq <;> try (exfalso; omega)) | refine oo (Pi rfl (by omega)) ?_ | refine oo (Pl rfl) ?_ | refine oo (Px rfl rfl) ?_ | refine oo (Pj rfl (by omega) (by omega)) ?_ | refine oo (Pk rfl (by omega) (by omega)) ?_ | refine oo (Pf rfl) ?_ | refine oo (Pv rfl (by omega) (by omega)) ?_ | refine oo (Pn rfl) ?_ | refine oo (Pm rfl) ?_ | refine os rfl rfl ?_ | refine ot rfl (by omega) ?_ | refine O_nil ?_) | refine wo rfl ?_ | refine wc rfl ?_ | refine wg rfl ?_ | refine go rfl ?_ | refine gc rfl ?_ | refine gg rfl ?_)
          refine G_stop ⟨(i + 1, s2, m2, bits ++ bitsOf cv cl ++ bitsOf (v - rAt 0 xs f) (xs.getD f 0)), ⟨by omega, hown2, hw1.trans hst, ?_⟩, by dsimp only; omega, ⟨rfl, rfl, rfl, rfl, rfl, rfl, trivial⟩, .rfl⟩
          rw [List.append_assoc]
          exact hbits.add (by rw [List.length_append, bitsOf_length, bitsOf_length]; omega) (bit_getD (bitsOf_bit _ _) (bitsOf_bit _ _))
        · rw [if_neg hvl] at hst
          refine O_call rfl rfl Tb.k26 trivial rfl (codeOf_no cs hN f cb cap own sp _ (.tail _ (.tail _ (List.mem_append_right _ hm))) hvl) ?_
          rintro _ M' ⟨rfl, hrk⟩
          refine O_weak hrk ?_
          clear hrk
          repeat' (first | (refine isO ?_; first | refine oo (Pc rfl) ?_ | refine oo (Pa rfl (by omega) (by omega)) ?_ | (refine ob rfl ?_ ?_ <;> intro hq <;> try (exfalso; omega)) | refine oo (Pi rfl (by omega)) ?_ | refine oo (Pl rfl) ?_ | refine oo (Px rfl rfl) ?_ | refine oo (Pj rfl (by omega) (by omega)) ?_ | refine oo (Pk rfl (by omega) (by omega)) ?_ | refine oo (Pf rfl) ?_ | refine oo (Pv rfl (by omega) (by omega)) ?_ | refine oo (Pn rfl) ?_ | refine oo (Pm rfl) ?_ | refine os rfl rfl ?_ | refine ot rfl (by omega) ?_ | refine O_nil ?_) | refine wo rfl ?_ | refine wc rfl ?_ | refine wg rfl ?_ | refine go rfl ?_ | refine gc rfl ?_ | refine gg rfl ?_)
          refine O_alloc zero42 trivial rfl fun b4 => ?_
          refine O_storeAgg0 Tb.c42 (by decide) rfl rfl rfl (lit_one 0 0 0 0) trivial .head rfl ?_
          repeat' (first | (refine isO ?_; first | refine oo (Pc rfl) ?_ | refine oo (Pa rfl (by omega) (by omega)) ?_ | (refine ob rfl ?_ ?_ <;> intro hq <;> try (exfalso; omega)) | refine oo (Pi rfl (by omega)) ?_ | refine oo (Pl rfl) ?_ | refine oo (Px rfl rfl) ?_ | refine oo (Pj rfl (by omega) (by omega)) ?_ | refine oo (Pk rfl (by omega) (by omega)) ?_ | refine oo (Pf rfl) ?_ | refine oo (Pv rfl (by omega) (by omega)) ?_ | refine oo (Pn rfl) ?_ | refine oo (Pm rfl) ?_ | refine os rfl rfl ?_ | refine ot rfl (by omega) ?_ | refine O_nil ?_) | refine wo rfl ?_ | refine wc rfl ?_ | refine wg rfl ?_ | refine go rfl ?_ | refine gc rfl ?_ | refine gg rfl ?_)
          exact G_fin ⟨_, rfl, .inr ⟨hbad hst, rfl, .drop (.drop (.drop (Rk.right m M)))⟩⟩
      · rw [rfind_none hno] at hst
        refine O_weak hrk ?_
        clear hrk
        repeat' (first | (refine isO ?_; first | refine oo (Pc rfl) ?_ | refine oo (Pa rfl (by omega) (by omega)) ?_ | (refine ob rfl ?_ ?_ <;> intro hq <;> try (exfalso; omega)) | refine oo (Pi rfl (by omega)) ?_ | refine oo (Pl rfl) ?_ | refine oo (Px rfl rfl) ?_ | refine oo (Pj rfl (by omega) (by omega)) ?_ | refine oo (Pk rfl (by omega) (by omega)) ?_ | refine oo (Pf rfl) ?_ | refine oo (Pv rfl (by omega) (by omega)) ?_ | refine oo (Pn rfl) ?_ | refine oo (Pm rfl) ?_ | refine os rfl rfl ?_ | refine ot rfl (by omega) ?_ | refine O_nil ?_) | refine wo rfl ?_ | refine wc rfl ?_ | refine wg rfl ?_ | refine go rfl ?_ | refine gc rfl ?_ | refine gg rfl ?_)
        exact G_fin ⟨_, rfl, .inr ⟨hbad hst, rfl, .drop (.drop (Rk.right m M))⟩⟩
    · have hk : k = 3 := by omega
      have hst := wstep3 (cs := cs) (xs := xs) (b := bits) (big := big) (p := ⟨k, v, n, bs, .slice ad' bs.length c⟩) hk
      dsimp only at hst
      have hb0 := bitsOf_length v ((8 - bits.length % 8) % 8)
      have hb7 : (8 - bits.length % 8) % 8 < 8 := Nat.mod_lt _ (by omega)
      obtain ⟨sa, sc, rfl, hsc⟩ := own_form hown
      repeat' (first | (refine isO ?_; first | refine oo (Pc rfl) ?_ | refine oo (Pa rfl (by omega) (by omega)) ?_ | (refine ob rfl ?_ ?_ <;> intro hq <;> try (exfalso; omega)) | refine oo (Pi rfl (by omega)) ?_ | refine oo (Pl rfl) ?_ | refine oo (Px rfl rfl) ?_ | refine oo (Pj rfl (by omega) (by omega)) ?_ | refine oo (Pk rfl (by omega) (by omega)) ?_ | refine oo (Pf rfl) ?_ | refine oo (Pv rfl (by omega) (by omega)) ?_ | refine oo (Pn rfl) ?_ | refine oo (Pm rfl) ?_ | refine os rfl rfl ?_ | refine ot rfl (by omega) ?_ | refine O_nil ?_) | refine wo rfl ?_ | refine wc rfl ?_ | refine wg rfl ?_ | refine go rfl ?_ | refine gc rfl ?_ | refine gg rfl ?_)
      refine O_pure (P_negL (L := bits.length) rfl (by omega)) trivial rfl ?_
      refine O_pure (P_and7 (L := bits.length) rfl rfl (by omega)) trivial rfl ?_
      generalize hpn : (8 - bits.length % 8) % 8 = pn at *
      repeat' (first | (refine isO ?_; first | refine oo (Pc rfl) ?_ | refine oo (Pa rfl (by omega) (by omega)) ?_ | (refine ob rfl ?_ ?_ <;> intro hq <;> try (exfalso; omega)) | refine oo (Pi rfl (by omega)) ?_ | refine oo (Pl rfl) ?_ | refine oo (Px rfl rfl) ?_ | refine oo (Pj rfl (by omega) (by omega)) ?_ | refine oo (Pk rfl (by omega) (by omega)) ?_ | refine oo (Pf rfl) ?_ | refine oo (Pv rfl (by omega) (by omega)) ?_ | refine oo (Pn rfl) ?_ | refine oo (Pm rfl) ?_ | refine os rfl rfl ?_ | refine ot rfl (by omega) ?_ | refine O_nil ?_) | refine wo rfl ?_ | refine wc rfl ?_ | refine wg rfl ?_ | refine go rfl ?_ | refine gc rfl ?_ | refine gg rfl ?_)
      refine O_pure (P_shrE (p := v) (q := pn) (r := v / 2 ^ pn) rfl rfl hv rfl) trivial rfl ?_
      generalize v / 2 ^ pn = q at *
      repeat' (first | (refine isO ?_; first | refine oo (Pc rfl) ?_ | refine oo (Pa rfl (by omega) (by omega)) ?_ | (refine ob rfl ?_ ?_ <;> intro hq <;> try (exfalso; omega)) | refine oo (Pi rfl (by omega)) ?_ | refine oo (Pl rfl) ?_ | refine oo (Px rfl rfl) ?_ | refine oo (Pj rfl (by omega) (by omega)) ?_ | refine oo (Pk rfl (by omega) (by omega)) ?_ | refine oo (Pf rfl) ?_ | refine oo (Pv rfl (by omega) (by omega)) ?_ | refine oo (Pn rfl) ?_ | refine oo (Pm rfl) ?_ | refine os rfl rfl ?_ | refine ot rfl (by omega) ?_ | refine O_nil ?_) | refine wo rfl ?_ | refine wc rfl ?_ | refine wg rfl ?_ | refine go rfl ?_ | refine gc rfl ?_ | refine gg rfl ?_)
      · exact G_fin ⟨_, rfl, .inr ⟨hbad (hst.trans (if_neg (by omega))), rfl, .drop (.drop (Rk.right m M))⟩⟩
      · refine O_call rfl rfl Tb.k47 trivial rfl (HCp.take (rkIn [_]) (put47_c pb v pn _ bits m _ hown (by omega) (by omega) hv)) ?_
        rintro _ M' ⟨s', m', hown', hrk⟩
        refine O_weak (.trans hrk (rkOut [_])) ?_
        repeat' (first | (refine isO ?_; first | refine oo (Pc rfl) ?_ | refine oo (Pa rfl (by omega) (by omega)) ?_ | (refine ob rfl ?_ ?_ <;> intro hq <;> try (exfalso; omega)) | refine oo (Pi rfl (by omega)) ?_ | refine oo (Pl rfl) ?_ | refine oo (Px rfl rfl) ?_ | refine oo (Pj rfl (by omega) (by omega)) ?_ | refine oo (Pk rfl (by omega) (by omega)) ?_ | refine oo (Pf rfl) ?_ | refine oo (Pv rfl (by omega) (by omega)) ?_ | refine oo (Pn rfl) ?_ | refine oo (Pm rfl) ?_ | refine os rfl rfl ?_ | refine ot rfl (by omega) ?_ | refine O_nil ?_) | refine wo rfl ?_ | refine wc rfl ?_ | refine wg rfl ?_ | refine go rfl ?_ | refine gc rfl ?_ | refine gg rfl ?_)
        exact G_stop ⟨(i + 1, s', m', bits ++ bitsOf v pn), ⟨by omega, hown', hw1.trans (hst.trans (if_pos (by omega))), hbits.add (by omega) (bitsOf_bit v pn)⟩, by dsimp only; omega, ⟨rfl, rfl, rfl, rfl, rfl, rfl, trivial⟩, .rfl⟩
    · have hk : k = 4 := by omega
      have hst := wstep4 (cs := cs) (xs := xs) (b := bits) (big := big) (p := ⟨k, v, n, bs, .slice ad' bs.length c⟩) hk
      dsimp only at hst
      have hul := unp_length big bs
      obtain ⟨sa, sc, e, hsc⟩ := own_form hown
      subst e
      repeat' (first | (refine isO ?_; first | refine oo (Pc rfl) ?_ | refine oo (Pa rfl (by omega) (by omega)) ?_ | (refine ob rfl ?_ ?_ <;> intro hq <;> try (exfalso; omega)) | refine oo (Pi rfl (by omega)) ?_ | refine oo (Pl rfl) ?_ | refine oo (Px rfl rfl) ?_ | refine oo (Pj rfl (by omega) (by omega)) ?_ | refine oo (Pk rfl (by omega) (by omega)) ?_ | refine oo (Pf rfl) ?_ | refine oo (Pv rfl (by omega) (by omega)) ?_ | refine oo (Pn rfl) ?_ | refine oo (Pm rfl) ?_ | refine os rfl rfl ?_ | refine ot rfl (by omega) ?_ | refine O_nil ?_) | refine wo rfl ?_ | refine wc rfl ?_ | refine wg rfl ?_ | refine go rfl ?_ | refine gc rfl ?_ | refine gg rfl ?_)
      refine O_pure (P_remS (p := bits.length) (q := 8) rfl rfl rfl rfl (by omega) (inK_i64 (by omega) (by omega))) trivial rfl ?_
      generalize bits.length % 8 = q at *
      repeat' (first | (refine isO ?_; first | refine oo (Pc rfl) ?_ | refine oo (Pa rfl (by omega) (by omega)) ?_ | (refine ob rfl ?_ ?_ <;> intro hq <;> try (exfalso; omega)) | refine oo (Pi rfl (by omega)) ?_ | refine oo (Pl rfl) ?_ | refine oo (Px rfl rfl) ?_ | refine oo (Pj rfl (by omega) (by omega)) ?_ | refine oo (Pk rfl (by omega) (by omega)) ?_ | refine oo (Pf rfl) ?_ | refine oo (Pv rfl (by omega) (by omega)) ?_ | refine oo (Pn rfl) ?_ | refine oo (Pm rfl) ?_ | refine os rfl rfl ?_ | refine ot rfl (by omega) ?_ | refine O_nil ?_) | refine wo rfl ?_ | refine wc rfl ?_ | refine wg rfl ?_ | refine go rfl ?_ | refine gc rfl ?_ | refine gg rfl ?_)
      · exact G_fin ⟨_, rfl, .inr ⟨hbad (hst.trans (if_neg (by omega))), rfl, .drop (.drop (Rk.right m M))⟩⟩
      · rw [if_pos (by omega)] at hst
        have hnext := hw1.trans hst
        have hbits' := hbits.add (y := unp big bs) (by omega) (unp_bit big bs)
        refine W_region_callt 5 4 131 (fun r M' => ∃ m4, Own r 1 (ib (unp big bs)) m4 ∧ Rk M' (m4 ++ (⟨true, bx, 0, [.int .i64 k, .int .u64 v, .int .u64 n, .slice ad' bs.length c]⟩ :: ⟨true, pb, 0, [.slice sa bits.length sc]⟩ :: (m ++ M)))) (by decide) (by decide) Tb.mixed
          [[], [], [1], [], [2, 3], [0, 4], [5]] (by kernel_rfl) (by kernel_rfl) (by kernel_rfl) (by kernel_rfl) (by kernel_rfl) ?_ ?_
        · rintro v M' ⟨m4, _, h⟩
          exact .trans h (Rk.right _ _)
        simp only [List.take_succ_cons, List.take_zero, List.drop_succ_cons, List.drop_zero]
        refine QD_start ?_
        repeat' (first | (refine isQD ?_; first | refine dd rfl (Pc rfl) ?_ | refine dd rfl (Pa rfl (by omega) (by omega)) ?_ | (refine db rfl rfl ?_ ?_ <;> intro hq <;> try (exfalso; omega)) | refine dd rfl (Pi rfl (by omega)) ?_ | refine dd rfl (Pl rfl) ?_ | refine dd rfl (Px rfl rfl) ?_  | refine dd rfl (Pj rfl (by omega) (by omega)) ?_ | refine dd rfl (Pk rfl (by omega) (by omega)) ?_ | refine dd rfl (Pf rfl) ?_ | refine dd rfl (Pv rfl (by omega) (by omega)) ?_ | refine dd rfl (Pn rfl) ?_ | refine dd rfl (Pm rfl) ?_ | (refine QD_nil ⟨rfl, ?_⟩; simp only [List.reverse_cons, List.reverse_nil, List.nil_append, List.cons_append, somes])))
        refine dcall rfl rfl rfl Tb.k48 trivial rfl (unpacked48_c _ bs big _ (Bs.into hbs fun x hx => .tail _ (.tail _ (List.mem_append_right _ hx))) (by omega)) ?_
        repeat' (first | (refine isQD ?_; first | refine dd rfl (Pc rfl) ?_ | refine dd rfl (Pa rfl (by omega) (by omega)) ?_ | (refine db rfl rfl ?_ ?_ <;> intro hq <;> try (exfalso; omega)) | refine dd rfl (Pi rfl (by omega)) ?_ | refine dd rfl (Pl rfl) ?_ | refine dd rfl (Px rfl rfl) ?_  | refine dd rfl (Pj rfl (by omega) (by omega)) ?_ | refine dd rfl (Pk rfl (by omega) (by omega)) ?_ | refine dd rfl (Pf rfl) ?_ | refine dd rfl (Pv rfl (by omega) (by omega)) ?_ | refine dd rfl (Pn rfl) ?_ | refine dd rfl (Pm rfl) ?_ | (refine QD_nil ⟨rfl, ?_⟩; simp only [List.reverse_cons, List.reverse_nil, List.nil_append, List.cons_append, somes])))
        rintro v1 M' ⟨m4, h4, hrk⟩
        refine O_weak (M' := ⟨true, pb, 0, [.slice sa bits.length sc]⟩ :: (m ++ (m4 ++ M))) (.trans hrk (.trans (.perm (List.perm_append_comm_assoc m4 [_, _] (m ++ M))) (.drop (.cons .head (.perm (List.perm_append_comm_assoc m4 m M)))))) ?_
        rcases Nat.eq_zero_or_pos bs.length with h0 | h0
        · have hnil : unp big bs = [] := List.length_eq_zero_iff.1 (by omega)
          rw [hnil] at h4 hnext hbits'
          obtain ⟨a4, c4, rfl, _⟩ := own_form h4
          refine O_pure (P_append0 Tb.u87 Tb.u87 hI rfl rfl hsc) trivial rfl ?_
          repeat' (first | (refine isO ?_; first | refine oo (Pc rfl) ?_ | refine oo (Pa rfl (by omega) (by omega)) ?_ | (refine ob rfl ?_ ?_ <;> intro hq <;> try (exfalso; omega)) | refine oo (Pi rfl (by omega)) ?_ | refine oo (Pl rfl) ?_ | refine oo (Px rfl rfl) ?_ | refine oo (Pj rfl (by omega) (by omega)) ?_ | refine oo (Pk rfl (by omega) (by omega)) ?_ | refine oo (Pf rfl) ?_ | refine oo (Pv rfl (by omega) (by omega)) ?_ | refine oo (Pn rfl) ?_ | refine oo (Pm rfl) ?_ | refine os rfl rfl ?_ | refine ot rfl (by omega) ?_ | refine O_nil ?_) | refine wo rfl ?_ | refine wc rfl ?_ | refine wg rfl ?_ | refine go rfl ?_ | refine gc rfl ?_ | refine gg rfl ?_)
          refine G_stop ⟨(i + 1, .slice sa bits.length sc, m, bits), ⟨by omega, hown, by simpa using hnext, by simpa using hbits'⟩, by dsimp only; omega, ⟨rfl, rfl, rfl, rfl, rfl, rfl, trivial⟩, .cons .head (.trans (.perm (List.perm_append_comm_assoc m m4 M)) (Rk.right m4 _))⟩
        · rcases h4 with ⟨_, h, _⟩ | ⟨b4, l4, c4, sp4, rfl, rfl, h5, h6⟩
          · exfalso
            have h7 := congrArg List.length h
            rw [ib_length] at h7
            simp only [List.length_nil] at h7
            omega
          rw [ib_length] at h5
          refine O_weak (M' := ⟨true, b4, 0, ib (unp big bs) ++ sp4⟩ :: ⟨true, pb, 0, [.slice sa bits.length sc]⟩ :: (m ++ M)) (.perm ((List.Perm.cons _ List.perm_middle).trans (.swap _ _ _))) ?_
          refine O_split rfl rfl ?_
          refine O_weak (M' := ⟨true, b4, 0, ib (unp big bs)⟩ :: ⟨true, pb, 0, [.slice sa bits.length sc]⟩ :: (m ++ M)) (.cons .head (.drop .rfl)) ?_
          refine O_append (m := m) (M0 := ⟨true, b4, 0, ib (unp big bs)⟩ :: ⟨true, pb, 0, [.slice sa bits.length sc]⟩ :: M) (len := bits.length) Tb.u87 Tb.u87 hI hI1 (by decide) (by omega) hI3 rfl rfl rfl hown (.perm (List.perm_append_comm_assoc [_, _] m M)) (by rw [ib_length]; omega) (.head _) (by rw [ib_length]; omega)
            (ints_one) (.inl (by omega)) (by rw [hI2]; omega) trivial rfl fun b2 c2 s2 h2 => ?_
          have htk : (ib (unp big bs)).take (l4 * 1) = ib (unp big bs) := List.take_of_length_le (by rw [ib_length]; omega)
          rw [htk, ← ib_append] at h2 ⊢
          repeat' (first | (refine isO ?_; first | refine oo (Pc rfl) ?_ | refine oo (Pa rfl (by omega) (by omega)) ?_ | (refine ob rfl ?_ ?_ <;> intro hq <;> try (exfalso; omega)) | refine oo (Pi rfl (by omega)) ?_ | refine oo (Pl rfl) ?_ | refine oo (Px rfl rfl) ?_ | refine oo (Pj rfl (by omega) (by omega)) ?_ | refine oo (Pk rfl (by omega) (by omega)) ?_ | refine oo (Pf rfl) ?_ | refine oo (Pv rfl (by omega) (by omega)) ?_ | refine oo (Pn rfl) ?_ | refine oo (Pm rfl) ?_ | refine os rfl rfl ?_ | refine ot rfl (by omega) ?_ | refine O_nil ?_) | refine wo rfl ?_ | refine wc rfl ?_ | refine wg rfl ?_ | refine go rfl ?_ | refine gc rfl ?_ | refine gg rfl ?_)
          exact G_stop ⟨(i + 1, .slice (some ⟨b2, 0, none⟩) (bits.length + l4) c2, [⟨true, b2, 0, ib (bits ++ unp big bs) ++ s2⟩], bits ++ unp big bs), ⟨by omega, .inr ⟨b2, _, c2, s2, rfl, rfl, by rw [ib_length, List.length_append]; omega, h2⟩, hnext, hbits'⟩, by dsimp only; omega, ⟨rfl, rfl, rfl, rfl, rfl, rfl, trivial⟩, .cons (.tail (.tail .head)) (.cons .head (.drop .rfl))⟩
  · obtain rfl : i = l.length := by omega
    obtain ⟨sa, sc, e, hsc⟩ := own_form hown
    subst e
    refine W_region_callm 7 2 135 5 8 (fun v M' => ∃ b, v = .slice (some ⟨b, 0, none⟩) ((bits.length + 7) / 8) ((bits.length + 7) / 8) ∧ Rk M' (⟨true, b, 0, ib (pkL big bits ((bits.length + 7) / 8) bits.length)⟩ :: (m ++ (⟨true, pb, 0, [.slice sa bits.length sc]⟩ :: M)))) rfl (by decide) (by decide) (by decide) Tb.mixed
      [[], [], [0, 1], [], [3], [2], [4, 5], [6]] (by decide) (by kernel_rfl) (by kernel_rfl) (by kernel_rfl) ?_ ?_
    · rintro v M' ⟨b, _, h⟩
      exact .trans h (.drop (.perm List.perm_middle))
    simp only [List.take_succ_cons, List.take_zero, List.drop_succ_cons, List.drop_zero]
    refine mm rfl rfl (Pl rfl) ?_
    refine mm rfl rfl (Pc rfl) ?_
    refine mcall rfl rfl Tb.k49 trivial rfl (HCp.take (.perm List.perm_middle.symm) (packed49_c _ bits big m (⟨true, pb, 0, [.slice sa bits.length sc]⟩ :: M) hown (by omega) hbits.2)) ?_
    refine mm rfl rfl (Pl rfl) ?_
    refine mm rfl rfl (Pn rfl) ?_
    refine mq rfl rfl (fun v => Pc rfl) ?_
    refine mm rfl rfl (Pc rfl) ?_
    refine QM_nil ⟨rfl, ?_⟩
    simp only [List.nil_append, List.cons_append, somes]
    rintro v1 M' ⟨b, rfl, hrk⟩
    refine O_weak hrk ?_
    repeat' (first | (refine isO ?_; first | refine oo (Pc rfl) ?_ | refine oo (Pa rfl (by omega) (by omega)) ?_ | (refine ob rfl ?_ ?_ <;> intro hq <;> try (exfalso; omega)) | refine oo (Pi rfl (by omega)) ?_ | refine oo (Pl rfl) ?_ | refine oo (Px rfl rfl) ?_ | refine oo (Pj rfl (by omega) (by omega)) ?_ | refine oo (Pk rfl (by omega) (by omega)) ?_ | refine oo (Pf rfl) ?_ | refine oo (Pv rfl (by omega) (by omega)) ?_ | refine oo (Pn rfl) ?_ | refine oo (Pm rfl) ?_ | refine os rfl rfl ?_ | refine ot rfl (by omega) ?_ | refine O_nil ?_) | refine wo rfl ?_ | refine wc rfl ?_ | refine wg rfl ?_ | refine go rfl ?_ | refine gc rfl ?_ | refine gg rfl ?_)
    refine G_fin ⟨rfl, ?_⟩
    repeat' (first | (refine isO ?_; first | refine oo (Pc rfl) ?_ | refine oo (Pa rfl (by omega) (by omega)) ?_ | (refine ob rfl ?_ ?_ <;> intro hq <;> try (exfalso; omega)) | refine oo (Pi rfl (by omega)) ?_ | refine oo (Pl rfl) ?_ | refine oo (Px rfl rfl) ?_ | refine oo (Pj rfl (by omega) (by omega)) ?_ | refine oo (Pk rfl (by omega) (by omega)) ?_ | refine oo (Pf rfl) ?_ | refine oo (Pv rfl (by omega) (by omega)) ?_ | refine oo (Pn rfl) ?_ | refine oo (Pm rfl) ?_ | refine os rfl rfl ?_ | refine ot rfl (by omega) ?_ | refine O_nil ?_) | refine wo rfl ?_ | refine wc rfl ?_ | refine wg rfl ?_ | refine go rfl ?_ | refine gc rfl ?_ | refine gg rfl ?_)
    exact G_fin ⟨_, rfl, .inl ⟨bits, b, hw, hbits, rfl, .cons .head (.trans (Rk.right m _) (.drop .rfl))⟩⟩
end Go.Proofs.Ytjkpfliaflmppaa.Pc

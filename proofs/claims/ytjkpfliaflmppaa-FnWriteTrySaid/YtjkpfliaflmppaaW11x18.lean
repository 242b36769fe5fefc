/- spec's bits: put and unpacked, and CodeOf, walked. spec's packed, walked: bytes of bits. Bits of numbers and of bytes: a number's bytes, each turned round or not, have its bits. No condition. Ranges as data: their cells, slices of them, and ranges that stand one behind the other. No condition. -/
import Derived.Test.YtjkpfliaflmppaaW11x13
import Derived.Test.YtjkpfliaflmppaaW11x08
import Derived.Test.YtjkpfliaflmppaaW11x17
import Derived.Test.YtjkpfliaflmppaaW11x11
import Derived.Test.YtjkpfliaflmppaaW11x10
import Derived.Test.YtjkpfliaflmppaaW11x12

namespace Go.Proofs.Ytjkpfliaflmppaa.Pc
open Go Go.RowKit Go.Proofs.Ytjkpfliaflmppaa.Vm Go.Proofs.Ytjkpfliaflmppaa.Bu

/-- Bits as cells. -/
abbrev ib (xs : List Nat) : List Value := ints .u8 (xs.map Nat.cast)
/-- The lowest n bits of a number, the lowest one first. -/
def bitsOf (v n : Nat) : List Nat := (List.range n).map fun i => v / 2 ^ i % 2
theorem bitsOf_length (v n : Nat) : (bitsOf v n).length = n := by simp [bitsOf]
theorem bitsOf_succ (v n : Nat) : bitsOf v (n + 1) = bitsOf v n ++ [v / 2 ^ n % 2] := by simp [bitsOf, List.range_succ]
theorem ib_append (xs ys : List Nat) : ib (xs ++ ys) = ib xs ++ ib ys := by simp [ib, ints]
theorem ib_length (xs : List Nat) : (ib xs).length = xs.length := by rw [ints_length, List.length_map]
theorem row87_1 (a : Int) (w : World) : (Instr.buildSlice 87 1 [(0, .int .u8 a)].toArray).run Try.prog w = .ok (.slice (some ⟨w.heap.size, 0, none⟩) 1 1) (w.alloc (.cells [.int .u8 a].toArray 5)) := by kernel_rfl
theorem info5z : (Try.prog.info? 5).map (fun i => (i.size, i.bytes, i.zero)) = some (1, 1, some (.int .u8 0)) := by kernel_rfl
theorem ib_one (xs : List Nat) (b : Nat) : ib xs ++ [Value.int .u8 (b : Int)].take (1 * 1) = ib (xs ++ [b]) := by simp [ib, ints]
theorem one8 (b : Int) : ∀ v ∈ [Value.int .u8 b], v.oneCell' = true := by intro v hv; rw [List.mem_singleton] at hv; subst hv; rfl

theorem P_shrX2 {P : Program} {N : Fm} {E : Env} {M : Mem} {t t2 : TypeId} {x y : Operand} {k k2 : IntKind} {Y : Int} {p q r : Nat} (hx : ev E x = some (.int k (p : Int))) (hy : ev E y = some (.int k2 Y)) (hY : Y = (q : Int)) (hp : p < 2 ^ k.bits) (hr : p / 2 ^ q = r) :
    Pure P N E M (.binOp .shr t x y t2) (.int k (r : Int)) := by subst hY; exact P_shrE hx hy hp hr
theorem put47_c (pb v n : Nat) (s : Value) (xs : List Nat) (m F : Mem) (hown : Own s 1 (ib xs) m) (hn : n ≤ 64) (hx : xs.length ≤ 100000) (hv : v < 2 ^ 64) :
    HC Try.prog 47 #[.pointer (some ⟨pb, 0, none⟩), .int .u64 v, .int .u64 n] (⟨true, pb, 0, [s]⟩ :: (m ++ F)) (fun _ M' => ∃ s' m', Own s' 1 (ib (xs ++ bitsOf v n)) m' ∧ Rk M' (⟨true, pb, 0, [s']⟩ :: (m' ++ F))) := by
  obtain ⟨I, hI, hI1, hI2, hI3⟩ := of_info info5z
  refine HC_of_W (fn := Try.f47) Try.func47 rfl rfl rfl rfl ?_
  repeat' (first | (refine isO ?_; first | refine oo (Pc rfl) ?_ | refine oo (Pa rfl (by omega) (by omega)) ?_ | (refine ob rfl ?_ ?_ <;> intro hq <;> try (exfalso; omega)) | refine oo (Pi rfl (by omega)) ?_ | refine oo (Pl rfl) ?_ | refine oo (Px rfl rfl) ?_ | refine oo (Pj rfl (by omega) (by omega)) ?_ | refine oo (Pk rfl (by omega) (by omega)) ?_ | refine oo (Pf rfl) ?_ | refine oo (Pv rfl (by omega) (by omega)) ?_ | refine oo (Pn rfl) ?_ | refine oo (Pm rfl) ?_ | refine os rfl rfl ?_ | refine ot rfl (by omega) ?_ | refine O_nil ?_) | refine wo rfl ?_ | refine wc rfl ?_ | refine wg rfl ?_ | refine go rfl ?_ | refine gc rfl ?_ | refine gg rfl ?_)
  refine W_loop (α := Nat × Value × Mem) (fun x => [(0, .pointer (some ⟨pb, 0, none⟩)), (1, .int .u64 v), (2, .int .u64 n), (6, .int .u64 x.1)]) (fun x => ⟨true, pb, 0, [x.2.1]⟩ :: (x.2.2 ++ F))
    (fun x => x.1 ≤ n ∧ Own x.2.1 1 (ib (xs ++ bitsOf v x.1)) x.2.2) (fun x => n - x.1) (0, s, m) ⟨by omega, by simpa [bitsOf] using hown⟩ ⟨rfl, rfl, rfl, rfl, trivial⟩ .rfl ?_
  rintro ⟨i, s, m⟩ ⟨hi, hown⟩
  dsimp only at hi hown ⊢
  repeat' (first | (refine isO ?_; first | refine oo (Pc rfl) ?_ | refine oo (Pa rfl (by omega) (by omega)) ?_ | (refine ob rfl ?_ ?_ <;> intro hq <;> try (exfalso; omega)) | refine oo (Pi rfl (by omega)) ?_ | refine oo (Pl rfl) ?_ | refine oo (Px rfl rfl) ?_ | refine oo (Pj rfl (by omega) (by omega)) ?_ | refine oo (Pk rfl (by omega) (by omega)) ?_ | refine oo (Pf rfl) ?_ | refine oo (Pv rfl (by omega) (by omega)) ?_ | refine oo (Pn rfl) ?_ | refine oo (Pm rfl) ?_ | refine os rfl rfl ?_ | refine ot rfl (by omega) ?_ | refine O_nil ?_) | refine wo rfl ?_ | refine wc rfl ?_ | refine wg rfl ?_ | refine go rfl ?_ | refine gc rfl ?_ | refine gg rfl ?_)
  · have hdv : v / 2 ^ i < 2 ^ 64 := Nat.lt_of_le_of_lt (Nat.div_le_self _ _) hv
    have hb2 : v / 2 ^ i % 2 < 2 := Nat.mod_lt _ (by omega)
    refine O_pure (P_shrE (p := v) (q := i) (r := v / 2 ^ i) rfl rfl hv rfl) trivial rfl ?_
    refine O_pure (P_is (P_bitN (p := v / 2 ^ i) (q := 1) rfl rfl rfl rfl hdv (by decide)) (congrArg (fun y : Nat => Value.int .u64 (y : Int)) (Nat.and_one_is_mod (v / 2 ^ i)))) trivial rfl ?_
    have hbs := bitsOf_succ v i
    generalize v / 2 ^ i % 2 = bt at *
    repeat' (first | (refine isO ?_; first | refine oo (Pc rfl) ?_ | refine oo (Pa rfl (by omega) (by omega)) ?_ | (refine ob rfl ?_ ?_ <;> intro hq <;> try (exfalso; omega)) | refine oo (Pi rfl (by omega)) ?_ | refine oo (Pl rfl) ?_ | refine oo (Px rfl rfl) ?_ | refine oo (Pj rfl (by omega) (by omega)) ?_ | refine oo (Pk rfl (by omega) (by omega)) ?_ | refine oo (Pf rfl) ?_ | refine oo (Pv rfl (by omega) (by omega)) ?_ | refine oo (Pn rfl) ?_ | refine oo (Pm rfl) ?_ | refine os rfl rfl ?_ | refine ot rfl (by omega) ?_ | refine O_nil ?_) | refine wo rfl ?_ | refine wc rfl ?_ | refine wg rfl ?_ | refine go rfl ?_ | refine gc rfl ?_ | refine gg rfl ?_)
    refine O_buildSlice rfl (row87_1 _) trivial rfl fun by1 => ?_
    refine O_append (m := m) (M0 := ⟨true, by1, 0, [.int .u8 (bt : Int)]⟩ :: ⟨true, pb, 0, [s]⟩ :: F) Tb.u87 Tb.u87 hI hI1 (by decide) (by omega) hI3 rfl rfl rfl hown (.perm (List.perm_append_comm_assoc [_, _] m F)) (len := xs.length + i) (by rw [ib_length, List.length_append, bitsOf_length]; omega) (.head _) (Nat.le_refl 1)
      (one8 _) (.inl (by omega)) (by rw [hI2]; omega) trivial rfl fun b2 c2 s2 h2 => ?_
    rw [ib_one, List.append_assoc, ← hbs] at h2 ⊢
    repeat' (first | (refine isO ?_; first | refine oo (Pc rfl) ?_ | refine oo (Pa rfl (by omega) (by omega)) ?_ | (refine ob rfl ?_ ?_ <;> intro hq <;> try (exfalso; omega)) | refine oo (Pi rfl (by omega)) ?_ | refine oo (Pl rfl) ?_ | refine oo (Px rfl rfl) ?_ | refine oo (Pj rfl (by omega) (by omega)) ?_ | refine oo (Pk rfl (by omega) (by omega)) ?_ | refine oo (Pf rfl) ?_ | refine oo (Pv rfl (by omega) (by omega)) ?_ | refine oo (Pn rfl) ?_ | refine oo (Pm rfl) ?_ | refine os rfl rfl ?_ | refine ot rfl (by omega) ?_ | refine O_nil ?_) | refine wo rfl ?_ | refine wc rfl ?_ | refine wg rfl ?_ | refine go rfl ?_ | refine gc rfl ?_ | refine gg rfl ?_)
    exact G_stop ⟨(i + 1, .slice (some ⟨b2, 0, none⟩) (xs.length + i + 1) c2, [⟨true, b2, 0, ib (xs ++ bitsOf v (i + 1)) ++ s2⟩]), ⟨by omega, .inr ⟨b2, _, c2, s2, rfl, rfl, by rw [ib_length, List.length_append, bitsOf_length]; omega, h2⟩⟩, by dsimp only; omega, ⟨rfl, rfl, rfl, rfl, trivial⟩, .cons (.tail (.tail .head)) (.cons .head (.drop .rfl))⟩
  · obtain rfl : i = n := by omega
    exact G_fin ⟨_, rfl, s, m, hown, .rfl⟩

/-- A byte's bits: from the lowest one on, or (big) from the highest one on. -/
def byteBits (big : Bool) (b n : Nat) : List Nat := (List.range n).map fun k => b / 2 ^ (if big then 7 - k else k) % 2
def unp (big : Bool) (s : List Nat) : List Nat := s.flatMap fun b => byteBits big b 8
theorem byteBits_length (big : Bool) (b n : Nat) : (byteBits big b n).length = n := by simp [byteBits]
theorem byteBits_succ (big : Bool) (b n : Nat) : byteBits big b (n + 1) = byteBits big b n ++ [b / 2 ^ (if big then 7 - n else n) % 2] := by simp [byteBits, List.range_succ]
theorem unp_length (big : Bool) (s : List Nat) : (unp big s).length = 8 * s.length := by
  induction s with
  | nil => rfl
  | cons b s ih => simp only [unp, List.flatMap_cons, List.length_append, byteBits_length, List.length_cons] at ih ⊢; omega
theorem unp_take (big : Bool) (s : List Nat) (i : Nat) (h : i < s.length) : unp big (s.take (i + 1)) = unp big (s.take i) ++ byteBits big (s.getD i 0) 8 := by
  have h1 : s.getD i 0 = s[i] := by simp [h]
  rw [h1, List.take_succ_eq_append_getElem h]
  simp only [unp, List.flatMap_append, List.flatMap_cons, List.flatMap_nil, List.append_nil]

theorem unpacked48_c (s : Value) (bs : List Nat) (big : Bool) (M : Mem) (hb : Bs s bs M) (hl : bs.length ≤ 1000) :
    HC Try.prog 48 #[s, .bool big] M (fun v M' => ∃ m, Own v 1 (ib (unp big bs)) m ∧ Rk M' (m ++ M)) := by
  obtain ⟨I, hI, hI1, hI2, hI3⟩ := of_info info5z
  obtain ⟨ad, cp, e⟩ : ∃ a c, s = .slice a bs.length c := ⟨_, _, hb.2.choose_spec.choose_spec.1⟩
  subst e
  refine HC_of_W (fn := Try.f48) Try.func48 rfl rfl rfl rfl ?_
  repeat' (first | (refine isO ?_; first | refine oo (Pc rfl) ?_ | refine oo (Pa rfl (by omega) (by omega)) ?_ | (refine ob rfl ?_ ?_ <;> intro hq <;> try (exfalso; omega)) | refine oo (Pi rfl (by omega)) ?_ | refine oo (Pl rfl) ?_ | refine oo (Px rfl rfl) ?_ | refine oo (Pj rfl (by omega) (by omega)) ?_ | refine oo (Pk rfl (by omega) (by omega)) ?_ | refine oo (Pf rfl) ?_ | refine oo (Pv rfl (by omega) (by omega)) ?_ | refine oo (Pn rfl) ?_ | refine oo (Pm rfl) ?_ | refine os rfl rfl ?_ | refine ot rfl (by omega) ?_ | refine O_nil ?_) | refine wo rfl ?_ | refine wc rfl ?_ | refine wg rfl ?_ | refine go rfl ?_ | refine gc rfl ?_ | refine gg rfl ?_)
  refine W_loop (α := Nat × Value × Mem) (fun x => [(0, .slice ad bs.length cp), (1, .bool big), (5, x.2.1), (6, .int .i64 x.1)]) (fun x => x.2.2 ++ M)
    (fun x => x.1 ≤ bs.length ∧ Own x.2.1 1 (ib (unp big (bs.take x.1))) x.2.2) (fun x => bs.length - x.1) (0, .slice none 0 0, []) ⟨by omega, .inl ⟨rfl, by simp [unp, ib, ints], rfl⟩⟩ ⟨rfl, rfl, rfl, rfl, trivial⟩ .rfl ?_
  rintro ⟨i, sv, m⟩ ⟨hi, hown⟩
  dsimp only at hi hown ⊢
  repeat' (first | (refine isO ?_; first | refine oo (Pc rfl) ?_ | refine oo (Pa rfl (by omega) (by omega)) ?_ | (refine ob rfl ?_ ?_ <;> intro hq <;> try (exfalso; omega)) | refine oo (Pi rfl (by omega)) ?_ | refine oo (Pl rfl) ?_ | refine oo (Px rfl rfl) ?_ | refine oo (Pj rfl (by omega) (by omega)) ?_ | refine oo (Pk rfl (by omega) (by omega)) ?_ | refine oo (Pf rfl) ?_ | refine oo (Pv rfl (by omega) (by omega)) ?_ | refine oo (Pn rfl) ?_ | refine oo (Pm rfl) ?_ | refine os rfl rfl ?_ | refine ot rfl (by omega) ?_ | refine O_nil ?_) | refine wo rfl ?_ | refine wc rfl ?_ | refine wg rfl ?_ | refine go rfl ?_ | refine gc rfl ?_ | refine gg rfl ?_)
  · have hil : i < bs.length := by omega
    obtain ⟨b, o, cap, e, hm, hg, hlt⟩ := hb.at hil
    cases e
    have htk := unp_take big bs i hil
    have hul : (unp big (bs.take i)).length = 8 * i := by rw [unp_length, List.length_take]; omega
    generalize bs.getD i 0 = z at *
    generalize hpre : unp big (bs.take i) = pre at *
    refine W_loop (α := Nat × Value × Mem) (fun x => [(0, .slice (some ⟨b, o, none⟩) bs.length cp), (1, .bool big), (5, x.2.1), (6, .int .i64 i), (7, .int .u64 x.1)]) (fun x => x.2.2 ++ M)
      (fun x => x.1 ≤ 8 ∧ Own x.2.1 1 (ib (pre ++ byteBits big z x.1)) x.2.2) (fun x => 8 - x.1) (0, sv, m) ⟨by omega, by simpa [byteBits] using hown⟩ ⟨rfl, rfl, rfl, rfl, rfl, trivial⟩ .rfl ?_
    clear hown
    rintro ⟨j, sv, m⟩ ⟨hj, hown⟩
    dsimp only at hj hown ⊢
    have hm' : (⟨false, b, o, ints .u8 (bs.map Nat.cast)⟩ : Sg) ∈ m ++ M := List.mem_append_right _ hm
    have hbs := byteBits_succ big z j
    cases big
    all_goals
      repeat' (first | (refine isO ?_; first | refine oo (Pc rfl) ?_ | refine oo (Pa rfl (by omega) (by omega)) ?_ | (refine ob rfl ?_ ?_ <;> intro hq <;> try (exfalso; omega)) | refine oo (Pi rfl (by omega)) ?_ | refine oo (Pl rfl) ?_ | refine oo (Px rfl rfl) ?_ | refine oo (Pj rfl (by omega) (by omega)) ?_ | refine oo (Pk rfl (by omega) (by omega)) ?_ | refine oo (Pf rfl) ?_ | refine oo (Pv rfl (by omega) (by omega)) ?_ | refine oo (Pn rfl) ?_ | refine oo (Pm rfl) ?_ | refine os rfl rfl ?_ | refine ot rfl (by omega) ?_ | refine O_nil ?_) | refine wo rfl ?_ | refine wc rfl ?_ | refine wg rfl ?_ | refine go rfl ?_ | refine gc rfl ?_ | refine gg rfl ?_)
      · first | rw [if_neg (by decide)] at hbs | rw [if_pos rfl] at hbs
        refine O_pure (P_loadAt (o := o) (n := i) Tb.p5 rfl (by omega) hm' hg) trivial rfl ?_
        repeat' (first | (refine isO ?_; first | refine oo (Pc rfl) ?_ | refine oo (Pa rfl (by omega) (by omega)) ?_ | (refine ob rfl ?_ ?_ <;> intro hq <;> try (exfalso; omega)) | refine oo (Pi rfl (by omega)) ?_ | refine oo (Pl rfl) ?_ | refine oo (Px rfl rfl) ?_ | refine oo (Pj rfl (by omega) (by omega)) ?_ | refine oo (Pk rfl (by omega) (by omega)) ?_ | refine oo (Pf rfl) ?_ | refine oo (Pv rfl (by omega) (by omega)) ?_ | refine oo (Pn rfl) ?_ | refine oo (Pm rfl) ?_ | refine os rfl rfl ?_ | refine ot rfl (by omega) ?_ | refine O_nil ?_) | refine wo rfl ?_ | refine wc rfl ?_ | refine wg rfl ?_ | refine go rfl ?_ | refine gc rfl ?_ | refine gg rfl ?_)
        first
          | refine O_pure (P_shrE (p := z) (q := j) (r := z / 2 ^ j) rfl rfl hlt rfl) trivial rfl ?_
          | refine O_pure (P_shrX2 (p := z) (q := 7 - j) (r := z / 2 ^ (7 - j)) rfl rfl (by omega) hlt rfl) trivial rfl ?_
        refine O_pure (P_is (P_bitN (q := 1) rfl rfl rfl rfl (Nat.lt_of_le_of_lt (Nat.div_le_self _ _) hlt) (by decide)) (congrArg (fun y : Nat => Value.int .u8 (y : Int)) (Nat.and_one_is_mod _))) trivial rfl ?_
        refine O_buildSlice rfl (row87_1 _) trivial rfl fun by1 => ?_
        refine O_append (m := m) (M0 := ⟨true, by1, 0, _⟩ :: M) Tb.u87 Tb.u87 hI hI1 (by decide) (by omega) hI3 rfl rfl rfl hown (.perm List.perm_middle.symm) (len := 8 * i + j) (by rw [ib_length, List.length_append, byteBits_length]; omega) (.head _) (Nat.le_refl 1)
          (one8 _) (.inl (by omega)) (by rw [hI2]; omega) trivial rfl fun b2 c2 s2 h2 => ?_
        rw [ib_one, List.append_assoc, ← hbs] at h2 ⊢
        repeat' (first | (refine isO ?_; first | refine oo (Pc rfl) ?_ | refine oo (Pa rfl (by omega) (by omega)) ?_ | (refine ob rfl ?_ ?_ <;> intro hq <;> try (exfalso; omega)) | refine oo (Pi rfl (by omega)) ?_ | refine oo (Pl rfl) ?_ | refine oo (Px rfl rfl) ?_ | refine oo (Pj rfl (by omega) (by omega)) ?_ | refine oo (Pk rfl (by omega) (by omega)) ?_ | refine oo (Pf rfl) ?_ | refine oo (Pv rfl (by omega) (by omega)) ?_ | refine oo (Pn rfl) ?_ | refine oo (Pm rfl) ?_ | refine os rfl rfl ?_ | refine ot rfl (by omega) ?_ | refine O_nil ?_) | refine wo rfl ?_ | refine wc rfl ?_ | refine wg rfl ?_ | refine go rfl ?_ | refine gc rfl ?_ | refine gg rfl ?_)
        exact G_stop ⟨(j + 1, .slice (some ⟨b2, 0, none⟩) (8 * i + j + 1) c2, [⟨true, b2, 0, ib (pre ++ byteBits _ z (j + 1)) ++ s2⟩]), ⟨by dsimp only; omega, .inr ⟨b2, _, c2, s2, rfl, rfl, by rw [ib_length, List.length_append, byteBits_length]; omega, h2⟩⟩, by dsimp only; omega, ⟨rfl, rfl, rfl, rfl, rfl, trivial⟩, .cons .head (.drop .rfl)⟩
      · obtain rfl : j = 8 := by omega
        exact G_stop ⟨(i + 1, sv, m), ⟨by dsimp only; omega, by dsimp only; rw [htk]; exact hown⟩, by dsimp only; omega, ⟨rfl, rfl, rfl, rfl, trivial⟩, .rfl⟩
  · obtain rfl : i = bs.length := by omega
    rw [List.take_length] at hown
    exact G_fin ⟨_, rfl, m, hown, .rfl⟩
end Go.Proofs.Ytjkpfliaflmppaa.Pc

namespace Go.Proofs.Ytjkpfliaflmppaa.Pc
open Go Go.RowKit Go.Proofs.Ytjkpfliaflmppaa.Vm Go.Proofs.Ytjkpfliaflmppaa.Bu

theorem P_remS {P : Program} {N : Fm} {E : Env} {M : Mem} {t t2 : TypeId} {x y : Operand} {k : IntKind} {X Y : Int} {p q : Nat} (hx : ev E x = some (.int k X)) (hy : ev E y = some (.int k Y)) (hX : X = (p : Int)) (hY : Y = (q : Int)) (hq : 0 < q) (h : inK k ((p % q : Nat) : Int)) :
    Pure P N E M (.binOp .rem t x y t2) (.int k ((p % q : Nat) : Int)) := by
  subst hX; subst hY
  constructor
  intro pr base w0 a w hA hS d ty pos after g
  have hw := wrap_id h.lo h.hi
  have e : Int.tmod (p : Int) (q : Int) = ((p % q : Nat) : Int) := rfl
  simp [execOp, hA.eval hx, hA.eval hy, Sem.run, pure, bind, Sem.bind, eqGuard, binOp, Op.intArith, Op.intDiv, e, hw, show q ≠ 0 by omega]
theorem P_shlX {P : Program} {N : Fm} {E : Env} {M : Mem} {t t2 : TypeId} {x y : Operand} {k k2 : IntKind} {X Y : Int} {p q r : Nat} (hx : ev E x = some (.int k X)) (hy : ev E y = some (.int k2 Y)) (hX : X = (p : Int)) (hY : Y = (q : Int)) (hk : k.signed = false) (hr : p * 2 ^ q % 2 ^ k.bits = r) :
    Pure P N E M (.binOp .shl t x y t2) (.int k (r : Int)) := by subst hX; subst hY; exact P_shlE hx hy hk hr
theorem P_bitX {P : Program} {N : Fm} {E : Env} {M : Mem} {op : BinOp} {t t2 : TypeId} {x y : Operand} {k : IntKind} {X Y : Int} {p q r : Nat} (hx : ev E x = some (.int k X)) (hy : ev E y = some (.int k Y)) (hX : X = (p : Int)) (hY : Y = (q : Int)) (hr : bitN op p q = some r) (hk : k.signed = false)
    (hp : p < 2 ^ k.bits) (hq : q < 2 ^ k.bits) : Pure P N E M (.binOp op t x y t2) (.int k (r : Int)) := by subst hX; subst hY; exact P_bitN hx hy hr hk hp hq

/-- Where in its byte a bit stands. -/
def atB (big : Bool) (i : Nat) : Nat := if big then 7 - i % 8 else i % 8
/-- Byte k, once i bits are laid. -/
def pkTo (big : Bool) (bits : List Nat) : Nat → Nat → Nat
  | 0, _ => 0
  | i + 1, k => if k = i / 8 then pkTo big bits i k ||| bits.getD i 0 * 2 ^ atB big i else pkTo big bits i k
def pkL (big : Bool) (bits : List Nat) (L i : Nat) : List Nat := (List.range L).map (pkTo big bits i)
theorem atB_lt (big : Bool) (i : Nat) : atB big i ≤ 7 := by
  unfold atB
  have := Nat.mod_lt i (show 0 < 8 by omega)
  split <;> omega
theorem bit_at (b a : Nat) (hb : b ≤ 1) (ha : a ≤ 7) : b * 2 ^ a < 256 := by
  have h1 : 2 ^ a ≤ 2 ^ 7 := Nat.pow_le_pow_right (by omega) ha
  have h2 : b * 2 ^ a ≤ 1 * 2 ^ a := Nat.mul_le_mul_right _ hb
  omega
theorem pkTo_lt (big : Bool) (bits : List Nat) (hb : ∀ i, bits.getD i 0 ≤ 1) : ∀ i k, pkTo big bits i k < 256
  | 0, k => by simp [pkTo]
  | i + 1, k => by
    simp only [pkTo]
    have ih := pkTo_lt big bits hb i k
    split
    · exact Nat.or_lt_two_pow (n := 8) ih (bit_at _ _ (hb i) (atB_lt big i))
    · exact ih
theorem pkL_length (big : Bool) (bits : List Nat) (L i : Nat) : (pkL big bits L i).length = L := by simp [pkL]
theorem pkL_get (big : Bool) (bits : List Nat) (L i k : Nat) (h : k < L) : (pkL big bits L i).getD k 0 = pkTo big bits i k := by simp [pkL, h]
theorem pkL_zero (big : Bool) (bits : List Nat) (L : Nat) : pkL big bits L 0 = List.replicate L 0 := by
  apply List.ext_getElem
  · simp [pkL]
  · intro k h1 h2; simp [pkL, pkTo]
theorem pkL_succ (big : Bool) (bits : List Nat) (L i : Nat) (h : i / 8 < L) :
    ((pkL big bits L i).map Nat.cast).set (i / 8) ((pkTo big bits i (i / 8) ||| bits.getD i 0 * 2 ^ atB big i : Nat) : Int) = ((pkL big bits L (i + 1)).map Nat.cast : List Int) := by
  apply List.ext_getElem
  · simp [pkL]
  · intro k h1 h2
    simp only [List.getElem_set, pkL, List.map_map, List.getElem_map, List.getElem_range, Function.comp_apply, pkTo]
    by_cases hk : i / 8 = k
    · rw [if_pos hk, if_pos hk.symm, hk]
    · rw [if_neg hk, if_neg (fun e => hk e.symm)]

set_option maxHeartbeats 1000000 in
theorem packed49_c (s : Value) (bits : List Nat) (big : Bool) (m F : Mem) (hown : Own s 1 (ib bits) m) (hl : bits.length ≤ 100000) (hb : ∀ i, bits.getD i 0 ≤ 1) :
    HC Try.prog 49 #[s, .bool big] (m ++ F) (fun v M' => ∃ b, v = .slice (some ⟨b, 0, none⟩) ((bits.length + 7) / 8) ((bits.length + 7) / 8) ∧ Rk M' (⟨true, b, 0, ib (pkL big bits ((bits.length + 7) / 8) bits.length)⟩ :: (m ++ F))) := by
  obtain ⟨I, hI, hI1, hI2, hI3⟩ := of_info info5z
  obtain ⟨ad, cp, hs⟩ : ∃ a c, s = .slice a bits.length c := by
    rcases hown with ⟨rfl, h, _⟩ | ⟨b, len, cap, sp, rfl, rfl, h1, h2⟩
    · have h4 := congrArg List.length h
      rw [ib_length] at h4
      simp only [List.length_nil] at h4
      exact ⟨none, 0, by rw [h4]⟩
    · rw [ib_length] at h1
      obtain rfl : len = bits.length := by omega
      exact ⟨_, _, rfl⟩
  subst hs
  refine HC_of_W (fn := Try.f49) Try.func49 rfl rfl rfl rfl ?_
  repeat' (first | (refine isO ?_; first | refine oo (Pc rfl) ?_ | refine oo (Pa rfl (by omega) (by omega)) ?_ | (refine ob rfl ?_ ?_ <;> intro hq <;> try (exfalso; omega)) | refine oo (Pi rfl (by omega)) ?_ | refine oo (Pl rfl) ?_ | refine oo (Px rfl rfl) ?_ | refine oo (Pj rfl (by omega) (by omega)) ?_ | refine oo (Pk rfl (by omega) (by omega)) ?_ | refine oo (Pf rfl) ?_ | refine oo (Pv rfl (by omega) (by omega)) ?_ | refine oo (Pn rfl) ?_ | refine oo (Pm rfl) ?_ | refine os rfl rfl ?_ | refine ot rfl (by omega) ?_ | refine O_nil ?_) | refine wo rfl ?_ | refine wc rfl ?_ | refine wg rfl ?_ | refine go rfl ?_ | refine gc rfl ?_ | refine gg rfl ?_)
  refine O_pure (P_quoE (p := bits.length + 7) (q := 8) rfl rfl (by omega) rfl (by omega) (inK_i64 (by omega) (by omega))) trivial rfl ?_
  obtain ⟨L, hL⟩ : ∃ L, L = (bits.length + 7) / 8 := ⟨_, rfl⟩
  rw [← hL]
  have hLb : ∀ i, i < bits.length → i / 8 < L := fun i hi => by omega
  refine O_make1 (z := (L : Int)) Tb.u22 hI hI1 hI3 rfl rfl (by omega) (by rw [hI2]; omega) (by omega) trivial rfl fun b => ?_
  rw [Int.toNat_natCast, ints_rep]
  refine O_weak (M' := ⟨true, b, 0, ib (pkL big bits L 0)⟩ :: (m ++ F)) (by rw [pkL_zero]; simp only [ib, List.map_replicate]; exact .rfl) ?_
  repeat' (first | (refine isO ?_; first | refine oo (Pc rfl) ?_ | refine oo (Pa rfl (by omega) (by omega)) ?_ | (refine ob rfl ?_ ?_ <;> intro hq <;> try (exfalso; omega)) | refine oo (Pi rfl (by omega)) ?_ | refine oo (Pl rfl) ?_ | refine oo (Px rfl rfl) ?_ | refine oo (Pj rfl (by omega) (by omega)) ?_ | refine oo (Pk rfl (by omega) (by omega)) ?_ | refine oo (Pf rfl) ?_ | refine oo (Pv rfl (by omega) (by omega)) ?_ | refine oo (Pn rfl) ?_ | refine oo (Pm rfl) ?_ | refine os rfl rfl ?_ | refine ot rfl (by omega) ?_ | refine O_nil ?_) | refine wo rfl ?_ | refine wc rfl ?_ | refine wg rfl ?_ | refine go rfl ?_ | refine gc rfl ?_ | refine gg rfl ?_)
  refine W_loop (α := Nat) (fun i => [(0, .slice ad bits.length cp), (1, .bool big), (5, .slice (some ⟨b, 0, none⟩) L L), (6, .int .i64 i)]) (fun i => ⟨true, b, 0, ib (pkL big bits L i)⟩ :: (m ++ F)) (fun i => i ≤ bits.length) (fun i => bits.length - i) 0 (by omega) ⟨rfl, rfl, rfl, rfl, trivial⟩ .rfl ?_
  intro i hi
  try dsimp only
  repeat' (first | (refine isO ?_; first | refine oo (Pc rfl) ?_ | refine oo (Pa rfl (by omega) (by omega)) ?_ | (refine ob rfl ?_ ?_ <;> intro hq <;> try (exfalso; omega)) | refine oo (Pi rfl (by omega)) ?_ | refine oo (Pl rfl) ?_ | refine oo (Px rfl rfl) ?_ | refine oo (Pj rfl (by omega) (by omega)) ?_ | refine oo (Pk rfl (by omega) (by omega)) ?_ | refine oo (Pf rfl) ?_ | refine oo (Pv rfl (by omega) (by omega)) ?_ | refine oo (Pn rfl) ?_ | refine oo (Pm rfl) ?_ | refine os rfl rfl ?_ | refine ot rfl (by omega) ?_ | refine O_nil ?_) | refine wo rfl ?_ | refine wc rfl ?_ | refine wg rfl ?_ | refine go rfl ?_ | refine gc rfl ?_ | refine gg rfl ?_)
  · have hil : i < bits.length := by omega
    have hil8 := hLb i hil
    rcases hown with ⟨_, h, _⟩ | ⟨b', len, cap, sp, e, rfl, h1, h2⟩
    · have h4 := congrArg List.length h
      rw [ib_length] at h4
      simp only [List.length_nil] at h4
      omega
    cases e
    have hgb : (ib bits ++ sp)[i]? = some (.int .u8 (bits.getD i 0 : Nat)) := by
      rw [List.getElem?_append_left (by rw [ib_length]; exact hil), ib, ints_get (by simpa using hil)]
      simp [hil]
    have hrd : rd ((pkL big bits L i).map Nat.cast) ((i / 8 : Nat) : Int) = ((pkTo big bits i (i / 8) : Nat) : Int) := by
      unfold rd
      rw [Int.toNat_natCast, ← pkL_get big bits L i (i / 8) hil8]
      simp [pkL_length, hil8]
    have hset := pkL_succ big bits L i hil8
    have hbi := hb i
    have hpl := pkTo_lt big bits hb i (i / 8)
    have hat : atB big i = if big then 7 - i % 8 else i % 8 := rfl
    have hatl := bit_at _ _ hbi (atB_lt big i)
    have ham := Nat.mod_lt i (show 0 < 8 by omega)
    generalize hw : atB big i = a at *
    refine O_pure (P_remS (p := i) (q := 8) rfl rfl rfl rfl (by omega) (inK_i64 (by omega) (by omega))) trivial rfl ?_
    generalize i % 8 = im at *
    cases big
    all_goals
      first | rw [if_neg (by decide)] at hat | rw [if_pos rfl] at hat
      repeat' (first | (refine isO ?_; first | refine oo (Pc rfl) ?_ | refine oo (Pa rfl (by omega) (by omega)) ?_ | (refine ob rfl ?_ ?_ <;> intro hq <;> try (exfalso; omega)) | refine oo (Pi rfl (by omega)) ?_ | refine oo (Pl rfl) ?_ | refine oo (Px rfl rfl) ?_ | refine oo (Pj rfl (by omega) (by omega)) ?_ | refine oo (Pk rfl (by omega) (by omega)) ?_ | refine oo (Pf rfl) ?_ | refine oo (Pv rfl (by omega) (by omega)) ?_ | refine oo (Pn rfl) ?_ | refine oo (Pm rfl) ?_ | refine os rfl rfl ?_ | refine ot rfl (by omega) ?_ | refine O_nil ?_) | refine wo rfl ?_ | refine wc rfl ?_ | refine wg rfl ?_ | refine go rfl ?_ | refine gc rfl ?_ | refine gg rfl ?_)
      refine W_region_tail 13 Tb.mixed (by kernel_rfl) ?_
      simp only [List.take_succ_cons, List.take_zero, List.drop_succ_cons, List.drop_zero]
      repeat' (first | (refine isS ?_; first | refine ss (Pc rfl) ?_ | refine ss (Pa rfl (by omega) (by omega)) ?_ | (refine sb rfl ?_ ?_ <;> intro hq <;> try (exfalso; omega)) | refine ss (Pi rfl (by omega)) ?_ | refine ss (Pl rfl) ?_ | refine ss (Px rfl rfl) ?_ | refine ss (Pj rfl (by omega) (by omega)) ?_ | refine ss (Pk rfl (by omega) (by omega)) ?_ | refine ss (Pf rfl) ?_ | refine ss (Pv rfl (by omega) (by omega)) ?_ | refine ss (Pn rfl) ?_ | refine ss (Pm rfl) ?_ | refine OS_nil ?_))
      refine OS_pure (P_quoE (p := i) (q := 8) rfl rfl rfl rfl (by omega) (inK_i64 (by omega) (by omega))) trivial rfl ?_
      repeat' (first | (refine isS ?_; first | refine ss (Pc rfl) ?_ | refine ss (Pa rfl (by omega) (by omega)) ?_ | (refine sb rfl ?_ ?_ <;> intro hq <;> try (exfalso; omega)) | refine ss (Pi rfl (by omega)) ?_ | refine ss (Pl rfl) ?_ | refine ss (Px rfl rfl) ?_ | refine ss (Pj rfl (by omega) (by omega)) ?_ | refine ss (Pk rfl (by omega) (by omega)) ?_ | refine ss (Pf rfl) ?_ | refine ss (Pv rfl (by omega) (by omega)) ?_ | refine ss (Pn rfl) ?_ | refine ss (Pm rfl) ?_ | refine OS_nil ?_))
      refine OS_pure (P_loadi (k := .u8) (z := ((i / 8 : Nat) : Int)) (o := 0) (l := (pkL _ bits L i).map Nat.cast) Tb.u5 rfl (.head _) (by rw [List.length_map, pkL_length]; omega)) trivial rfl ?_
      repeat' (first | (refine isS ?_; first | refine ss (Pc rfl) ?_ | refine ss (Pa rfl (by omega) (by omega)) ?_ | (refine sb rfl ?_ ?_ <;> intro hq <;> try (exfalso; omega)) | refine ss (Pi rfl (by omega)) ?_ | refine ss (Pl rfl) ?_ | refine ss (Px rfl rfl) ?_ | refine ss (Pj rfl (by omega) (by omega)) ?_ | refine ss (Pk rfl (by omega) (by omega)) ?_ | refine ss (Pf rfl) ?_ | refine ss (Pv rfl (by omega) (by omega)) ?_ | refine ss (Pn rfl) ?_ | refine ss (Pm rfl) ?_ | refine OS_nil ?_))
      refine OS_pure (P_loadAt (o := 0) (n := i) Tb.p5 rfl (by omega) (.tail _ (.head _)) hgb) trivial rfl ?_
      repeat' (first | (refine isS ?_; first | refine ss (Pc rfl) ?_ | refine ss (Pa rfl (by omega) (by omega)) ?_ | (refine sb rfl ?_ ?_ <;> intro hq <;> try (exfalso; omega)) | refine ss (Pi rfl (by omega)) ?_ | refine ss (Pl rfl) ?_ | refine ss (Px rfl rfl) ?_ | refine ss (Pj rfl (by omega) (by omega)) ?_ | refine ss (Pk rfl (by omega) (by omega)) ?_ | refine ss (Pf rfl) ?_ | refine ss (Pv rfl (by omega) (by omega)) ?_ | refine ss (Pn rfl) ?_ | refine ss (Pm rfl) ?_ | refine OS_nil ?_))
      refine OS_pure (P_shlX (p := bits.getD i 0) (q := a) (r := bits.getD i 0 * 2 ^ a) rfl rfl rfl (by omega) rfl (Nat.mod_eq_of_lt hatl)) trivial rfl ?_
      refine OS_pure (P_bitX (p := pkTo _ bits i (i / 8)) (q := bits.getD i 0 * 2 ^ a) rfl rfl hrd rfl rfl rfl hpl hatl) trivial rfl ?_
      repeat' (first | (refine isS ?_; first | refine ss (Pc rfl) ?_ | refine ss (Pa rfl (by omega) (by omega)) ?_ | (refine sb rfl ?_ ?_ <;> intro hq <;> try (exfalso; omega)) | refine ss (Pi rfl (by omega)) ?_ | refine ss (Pl rfl) ?_ | refine ss (Px rfl rfl) ?_ | refine ss (Pj rfl (by omega) (by omega)) ?_ | refine ss (Pk rfl (by omega) (by omega)) ?_ | refine ss (Pf rfl) ?_ | refine ss (Pv rfl (by omega) (by omega)) ?_ | refine ss (Pn rfl) ?_ | refine ss (Pm rfl) ?_ | refine OS_nil ?_))
      refine O_storeiE (z := ((i / 8 : Nat) : Int)) (o := 0) Tb.c5 rfl rfl (l' := (pkL _ bits L (i + 1)).map Nat.cast) (by unfold wr; rw [Int.toNat_natCast]; exact hset) trivial .head (by rw [List.length_map, pkL_length]; omega) ?_
      repeat' (first | (refine isO ?_; first | refine oo (Pc rfl) ?_ | refine oo (Pa rfl (by omega) (by omega)) ?_ | (refine ob rfl ?_ ?_ <;> intro hq <;> try (exfalso; omega)) | refine oo (Pi rfl (by omega)) ?_ | refine oo (Pl rfl) ?_ | refine oo (Px rfl rfl) ?_ | refine oo (Pj rfl (by omega) (by omega)) ?_ | refine oo (Pk rfl (by omega) (by omega)) ?_ | refine oo (Pf rfl) ?_ | refine oo (Pv rfl (by omega) (by omega)) ?_ | refine oo (Pn rfl) ?_ | refine oo (Pm rfl) ?_ | refine os rfl rfl ?_ | refine ot rfl (by omega) ?_ | refine O_nil ?_) | refine wo rfl ?_ | refine wc rfl ?_ | refine wg rfl ?_ | refine go rfl ?_ | refine gc rfl ?_ | refine gg rfl ?_)
      exact G_stop ⟨i + 1, by omega, by omega, ⟨rfl, rfl, rfl, rfl, trivial⟩, .rfl⟩
  · obtain rfl : i = bits.length := by omega
    refine G_fin ⟨_, rfl, b, rfl, .rfl⟩
end Go.Proofs.Ytjkpfliaflmppaa.Pc

namespace Go.Proofs.Ytjkpfliaflmppaa.Pc
open Go Go.RowKit Go.Proofs.Ytjkpfliaflmppaa.Vm Go.Proofs.Ytjkpfliaflmppaa.Bu Go.Proofs.Ytjkpfliaflmppaa.Wr

theorem maskA : ∀ k, k < 64 → Nat.testBit 12297829382473034410 k = decide (k % 2 = 1) := by decide
theorem maskB : ∀ k, k < 64 → Nat.testBit 6148914691236517205 k = decide (k % 2 = 0) := by decide
theorem maskC : ∀ k, k < 64 → Nat.testBit 14757395258967641292 k = decide (2 ≤ k % 4) := by decide
theorem maskD : ∀ k, k < 64 → Nat.testBit 3689348814741910323 k = decide (k % 4 < 2) := by decide
theorem maskE : ∀ k, k < 64 → Nat.testBit 17361641481138401520 k = decide (4 ≤ k % 8) := by decide
theorem maskF : ∀ k, k < 64 → Nat.testBit 1085102592571150095 k = decide (k % 8 < 4) := by decide

theorem sw1_bit (u k : Nat) (hk : k < 64) : (sw1 u).testBit k = u.testBit (if k % 2 = 0 then k + 1 else k - 1) := by
  unfold sw1
  rw [Nat.testBit_or, Nat.testBit_div_two_pow, Nat.testBit_mod_two_pow, Nat.testBit_mul_two_pow, Nat.testBit_and, Nat.testBit_and, decide_eq_true hk, Bool.true_and]
  by_cases h : k % 2 = 0
  · rw [if_pos h, maskA (k + 1) (by omega), decide_eq_true (show (k + 1) % 2 = 1 by omega), Bool.and_true]
    by_cases h1 : 1 ≤ k
    · rw [maskB (k - 1) (by omega), decide_eq_false (show ¬ (k - 1) % 2 = 0 by omega)]; simp
    · rw [decide_eq_false h1]; simp
  · rw [if_neg h, maskB (k - 1) (by omega), decide_eq_true (show (k - 1) % 2 = 0 by omega), decide_eq_true (show 1 ≤ k by omega)]
    by_cases h1 : k + 1 < 64
    · rw [maskA (k + 1) h1, decide_eq_false (show ¬ (k + 1) % 2 = 1 by omega)]; simp
    · obtain rfl : k = 63 := by omega
      simp [Nat.testBit_lt_two_pow (show 12297829382473034410 < 2 ^ (63 + 1) by decide)]
theorem sw2_bit (u k : Nat) (hk : k < 64) : (sw2 u).testBit k = u.testBit (if k % 4 < 2 then k + 2 else k - 2) := by
  unfold sw2
  rw [Nat.testBit_or, Nat.testBit_div_two_pow, Nat.testBit_mod_two_pow, Nat.testBit_mul_two_pow, Nat.testBit_and, Nat.testBit_and, decide_eq_true hk, Bool.true_and]
  by_cases h : k % 4 < 2
  · rw [if_pos h, maskC (k + 2) (by omega), decide_eq_true (show 2 ≤ (k + 2) % 4 by omega), Bool.and_true]
    by_cases h1 : 2 ≤ k
    · rw [maskD (k - 2) (by omega), decide_eq_false (show ¬ (k - 2) % 4 < 2 by omega)]; simp
    · rw [decide_eq_false h1]; simp
  · rw [if_neg h, maskD (k - 2) (by omega), decide_eq_true (show (k - 2) % 4 < 2 by omega), decide_eq_true (show 2 ≤ k by omega)]
    by_cases h1 : k + 2 < 64
    · rw [maskC (k + 2) h1, decide_eq_false (show ¬ 2 ≤ (k + 2) % 4 by omega)]; simp
    · rw [Nat.testBit_lt_two_pow (x := 14757395258967641292) (i := k + 2) (Nat.lt_of_lt_of_le (show 14757395258967641292 < 2 ^ 64 by decide) (Nat.pow_le_pow_right (by omega) (by omega)))]; simp
theorem sw4_bit (u k : Nat) (hk : k < 64) : (sw4 u).testBit k = u.testBit (if k % 8 < 4 then k + 4 else k - 4) := by
  unfold sw4
  rw [Nat.testBit_or, Nat.testBit_div_two_pow, Nat.testBit_mod_two_pow, Nat.testBit_mul_two_pow, Nat.testBit_and, Nat.testBit_and, decide_eq_true hk, Bool.true_and]
  by_cases h : k % 8 < 4
  · rw [if_pos h, maskE (k + 4) (by omega), decide_eq_true (show 4 ≤ (k + 4) % 8 by omega), Bool.and_true]
    by_cases h1 : 4 ≤ k
    · rw [maskF (k - 4) (by omega), decide_eq_false (show ¬ (k - 4) % 8 < 4 by omega)]; simp
    · rw [decide_eq_false h1]; simp
  · rw [if_neg h, maskF (k - 4) (by omega), decide_eq_true (show (k - 4) % 8 < 4 by omega), decide_eq_true (show 4 ≤ k by omega)]
    by_cases h1 : k + 4 < 64
    · rw [maskE (k + 4) h1, decide_eq_false (show ¬ 4 ≤ (k + 4) % 8 by omega)]; simp
    · rw [Nat.testBit_lt_two_pow (x := 17361641481138401520) (i := k + 4) (Nat.lt_of_lt_of_le (show 17361641481138401520 < 2 ^ 64 by decide) (Nat.pow_le_pow_right (by omega) (by omega)))]; simp

theorem sw_bit (big : Bool) (u j k : Nat) (hj : j < 8) (hk : k < 8) : (sw big u).testBit (8 * j + (if big then 7 - k else k)) = u.testBit (8 * j + k) := by
  cases big with
  | false => simp [sw]
  | true =>
    simp only [sw, if_true]
    rw [sw4_bit _ _ (by omega), sw2_bit _ _ (by split <;> omega), sw1_bit _ _ (by split <;> split <;> omega)]
    congr 1
    split <;> split <;> split <;> omega

/-- Byte j of a number. -/
def byt (u j : Nat) : Nat := u / 2 ^ (8 * j) % 256
theorem byt_lt (u j : Nat) : byt u j < 256 := Nat.mod_lt _ (by omega)
theorem byt_bit (u j k : Nat) (hk : k < 8) : byt u j / 2 ^ k % 2 = u / 2 ^ (8 * j + k) % 2 := by
  rw [← Nat.toNat_testBit, ← Nat.toNat_testBit]
  unfold byt
  rw [show (256 : Nat) = 2 ^ 8 from rfl, Nat.testBit_mod_two_pow, decide_eq_true hk, Bool.true_and, Nat.testBit_div_two_pow, Nat.add_comm]
theorem bitsOf_app (v m n : Nat) : bitsOf v (m + n) = bitsOf v m ++ bitsOf (v / 2 ^ m) n := by
  unfold bitsOf
  rw [List.range_add, List.map_append, List.map_map]
  congr 1
  apply List.map_congr_left
  intro k _
  show v / 2 ^ (m + k) % 2 = v / 2 ^ m / 2 ^ k % 2
  rw [Nat.div_div_eq_div_mul, Nat.pow_add]
theorem byteBits_sw (big : Bool) (v j : Nat) (hj : j < 8) : byteBits big (byt (sw big v) j) 8 = bitsOf (v / 2 ^ (8 * j)) 8 := by
  unfold byteBits bitsOf
  apply List.map_congr_left
  intro k hk
  rw [List.mem_range] at hk
  have h7 : (if big then 7 - k else k) < 8 := by split <;> omega
  rw [byt_bit _ _ _ h7, ← Nat.toNat_testBit, sw_bit big v j k hj hk, Nat.toNat_testBit, Nat.div_div_eq_div_mul, Nat.pow_add]
theorem unp_sw (big : Bool) (v : Nat) : ∀ q, q ≤ 8 → unp big ((List.range q).map (byt (sw big v))) = bitsOf v (8 * q)
  | 0, _ => rfl
  | q + 1, h => by
    rw [List.range_succ, List.map_append]
    have h1 : unp big ((List.range q).map (byt (sw big v)) ++ [q].map (byt (sw big v))) = unp big ((List.range q).map (byt (sw big v))) ++ byteBits big (byt (sw big v) q) 8 := by
      simp only [unp, List.flatMap_append, List.map_cons, List.map_nil, List.flatMap_cons, List.flatMap_nil, List.append_nil]
    rw [h1, unp_sw big v q (by omega), byteBits_sw big v q (by omega), show 8 * (q + 1) = 8 * q + 8 by omega, bitsOf_app]
theorem unp_app (big : Bool) (x y : List Nat) : unp big (x ++ y) = unp big x ++ unp big y := by simp [unp]

theorem bitsOf_or (a x m n : Nat) (ha : a < 2 ^ m) : bitsOf (a ||| x * 2 ^ m) (m + n) = bitsOf a m ++ bitsOf x n := by
  rw [bitsOf_app]
  have h : (a ||| x * 2 ^ m) / 2 ^ m = x := by
    apply Nat.eq_of_testBit_eq
    intro i
    rw [Nat.testBit_div_two_pow, Nat.testBit_or, Nat.testBit_mul_two_pow, Nat.testBit_lt_two_pow (Nat.lt_of_lt_of_le ha (Nat.pow_le_pow_right (by omega) (by omega)))]
    simp
  rw [h]
  congr 1
  unfold bitsOf
  apply List.map_congr_left
  intro k hk
  rw [List.mem_range] at hk
  rw [← Nat.toNat_testBit, ← Nat.toNat_testBit, Nat.testBit_or, Nat.testBit_mul_two_pow, decide_eq_false (show ¬ m ≤ k by omega)]
  simp
theorem or_lt (a x m n : Nat) (ha : a < 2 ^ m) (hx : x < 2 ^ n) : a ||| x * 2 ^ m < 2 ^ (m + n) := by
  apply Nat.or_lt_two_pow
  · exact Nat.lt_of_lt_of_le ha (Nat.pow_le_pow_right (by omega) (by omega))
  · rw [Nat.pow_add, Nat.mul_comm]; exact (Nat.mul_lt_mul_left (Nat.two_pow_pos m)).2 hx
theorem shl_lt (x m n : Nat) (hx : x < 2 ^ n) (h : m + n ≤ 64) : x * 2 ^ m % 2 ^ 64 = x * 2 ^ m := by
  apply Nat.mod_eq_of_lt
  refine Nat.lt_of_lt_of_le ?_ (Nat.pow_le_pow_right (n := 2) (by omega) h)
  rw [Nat.pow_add, Nat.mul_comm]; exact (Nat.mul_lt_mul_left (Nat.two_pow_pos m)).2 hx
theorem div_pow_lt {v nb : Nat} (hv : v < 2 ^ nb) : v / 2 ^ (8 * (nb / 8)) < 2 ^ (nb % 8) := by
  apply Nat.div_lt_of_lt_mul
  rw [← Nat.pow_add, show 8 * (nb / 8) + nb % 8 = nb by omega]; exact hv

theorem lay8_take (buf : List Int) (cnt u q : Nat) (hq : q ≤ 8) (h : cnt + 8 ≤ buf.length) : (lay8 buf cnt u).take (cnt + q) = buf.take cnt ++ ((List.range q).map (byt u)).map Nat.cast := by
  apply List.ext_getElem
  · rw [List.length_take, lay8_length, List.length_append, List.length_take, List.length_map, List.length_map, List.length_range]; omega
  · intro i h1 h2
    rw [List.length_take, lay8_length] at h1
    rw [List.getElem_take]
    by_cases hi : i < cnt
    · rw [List.getElem_append_left (by rw [List.length_take]; omega), List.getElem_take]
      unfold lay8
      simp only [List.getElem_set]
      repeat rw [if_neg (by omega)]
    · rw [List.getElem_append_right (by rw [List.length_take]; omega)]
      simp only [List.getElem_map, List.getElem_range]
      have e : i - (List.take cnt buf).length = i - cnt := by rw [List.length_take]; omega
      rw [e]
      unfold lay8 byt
      simp only [List.getElem_set]
      have h8 : i - cnt = 0 ∨ i - cnt = 1 ∨ i - cnt = 2 ∨ i - cnt = 3 ∨ i - cnt = 4 ∨ i - cnt = 5 ∨ i - cnt = 6 ∨ i - cnt = 7 := by omega
      rcases h8 with h8 | h8 | h8 | h8 | h8 | h8 | h8 | h8
      all_goals
        rw [h8]
        repeat rw [if_neg (by omega)]
        rw [if_pos (by omega)]
      simp
end Go.Proofs.Ytjkpfliaflmppaa.Pc

namespace Go.Proofs.Ytjkpfliaflmppaa.Pc
open Go Go.RowKit Go.Proofs.Ytjkpfliaflmppaa.Vm

/-- A range: where it begins, and its bits. -/
structure Rg where
  base : Nat
  len : Nat

def Rg.zero : Rg := ⟨0, 0⟩
def Rg.cells (c : Rg) : List Value := [.int .u32 c.base, .int .u32 c.len]
def rangesV (l : List Rg) : List Value := l.flatMap Rg.cells

theorem rangesV_nil : rangesV [] = [] := rfl
theorem rangesV_append (l m : List Rg) : rangesV (l ++ m) = rangesV l ++ rangesV m := by simp [rangesV]
theorem rangesV_cons (c : Rg) (l : List Rg) : rangesV (c :: l) = c.cells ++ rangesV l := rfl
theorem rangesV_length (l : List Rg) : (rangesV l).length = l.length * 2 := by
  induction l with
  | nil => rfl
  | cons c l ih => rw [rangesV_cons, List.length_append, ih]; simp [Rg.cells]; omega

theorem rangesV_at (l : List Rg) (sp : List Value) (i : Nat) (h : i < l.length) : ∃ p q, rangesV l ++ sp = p ++ ((l.getD i Rg.zero).cells ++ q) ∧ p.length = i * 2 := by
  refine ⟨rangesV (l.take i), rangesV (l.drop (i + 1)) ++ sp, ?_, by rw [rangesV_length]; simp; omega⟩
  have e : l = l.take i ++ (l.getD i Rg.zero) :: l.drop (i + 1) := by
    have h1 : l.getD i Rg.zero = l[i] := by simp [h]
    rw [h1]; simp
  conv => lhs; rw [e, rangesV_append, rangesV_cons]
  simp

theorem rangesV_block (l : List Rg) (sp : List Value) (i : Nat) (h : i < l.length) {p n : Nat} (he : l.getD i Rg.zero = ⟨p, n⟩) : ((rangesV l ++ sp).drop (i * 2)).take 2 = [.int .u32 p, .int .u32 n] := by
  obtain ⟨p, q, h1, h2⟩ := rangesV_at l sp i h
  rw [h1, ← h2, he]
  simp [Rg.cells]
theorem rangesV_get (l : List Rg) (sp : List Value) (i f : Nat) (h : i < l.length) (hf : f < 2) : (rangesV l ++ sp)[i * 2 + f]? = (l.getD i Rg.zero).cells[f]? := by
  obtain ⟨p, q, h1, h2⟩ := rangesV_at l sp i h
  rw [h1, ← h2, List.getElem?_append_right (by omega), Nat.add_sub_cancel_left, List.getElem?_append_left (by simpa [Rg.cells] using hf)]
theorem lit2_one (a b : Int) : ∀ v ∈ [Value.int .u32 a, .int .u32 b], v.oneCell' = true := by
  intro v hv
  simp at hv
  rcases hv with rfl | rfl <;> rfl
theorem rtake_succ (l : List Rg) (i : Nat) (h : i < l.length) : l.take (i + 1) = l.take i ++ [l.getD i Rg.zero] := by
  have h1 : l.getD i Rg.zero = l[i] := by simp [h]
  rw [h1, List.take_succ_eq_append_getElem h]
theorem rangesV_take (l : List Rg) (i : Nat) (h : i < l.length) {p n : Nat} (he : l.getD i Rg.zero = ⟨p, n⟩) : rangesV (l.take i) ++ [Value.int .u32 p, .int .u32 n].take (1 * 2) = rangesV (l.take (i + 1)) := by
  rw [rtake_succ l i h, rangesV_append, he]
  rfl

/-! ### Ranges one behind the other -/

def rAt (a : Nat) (ls : List Nat) : Nat → Nat
  | 0 => a
  | i + 1 => rAt a ls i + 2 ^ ls.getD i 0
def mkR (a : Nat) (ls : List Nat) : List Rg := (List.range ls.length).map fun i => ⟨rAt a ls i, ls.getD i 0⟩
theorem mkR_length (a : Nat) (ls : List Nat) : (mkR a ls).length = ls.length := by simp [mkR]
theorem mkR_get (a : Nat) (ls : List Nat) (i : Nat) (h : i < ls.length) : (mkR a ls).getD i Rg.zero = ⟨rAt a ls i, ls.getD i 0⟩ := by simp [mkR, h]
/-- Lengths that are spoken of. -/
def OkN (ls : List Nat) : Prop := ls.length ≤ 30 ∧ ∀ i, i < ls.length → ls.getD i 0 ≤ 20
theorem rAt_le {a : Nat} {ls : List Nat} (h : OkN ls) : ∀ i, i ≤ ls.length → rAt a ls i ≤ a + i * 1048576
  | 0, _ => by simp [rAt]
  | i + 1, hi => by
    have ih := rAt_le (a := a) h i (by omega)
    have h1 := h.2 i (by omega)
    have h2 : 2 ^ ls.getD i 0 ≤ 2 ^ 20 := Nat.pow_le_pow_right (by omega) h1
    have h3 := Nat.add_le_add ih h2
    show rAt a ls i + 2 ^ ls.getD i 0 ≤ _
    omega
theorem rAt_mono {a : Nat} {ls : List Nat} : ∀ i j, i ≤ j → rAt a ls i ≤ rAt a ls j
  | i, 0, h => by
    obtain rfl : i = 0 := by omega
    exact Nat.le_refl _
  | i, j + 1, h => by
    by_cases hij : i = j + 1
    · subst hij; exact Nat.le_refl _
    · have := rAt_mono (a := a) (ls := ls) i j (by omega)
      exact Nat.le_trans this (Nat.le_add_right _ _)
theorem rAt_lt {a : Nat} {ls : List Nat} (i j : Nat) (h : i < j) : rAt a ls i < rAt a ls j := by
  have h1 := rAt_mono (a := a) (ls := ls) (i + 1) j h
  exact Nat.lt_of_lt_of_le (Nat.lt_add_of_pos_right (Nat.two_pow_pos _)) h1
theorem pow20 {n : Nat} (h : n ≤ 20) : 2 ^ n ≤ 1048576 ∧ 1 ≤ 2 ^ n := ⟨Nat.pow_le_pow_right (n := 2) (by omega) h, Nat.two_pow_pos _⟩

/-! ### Slices of numbers and of ranges -/

/-- A slice of u64 numbers. -/
def Us (s : Value) (ls : List Nat) (M : Mem) : Prop :=
  ∃ ad cap, s = .slice ad ls.length cap ∧ (ls = [] ∨ ∃ b own sp, ad = some ⟨b, 0, none⟩ ∧ (⟨own, b, 0, ints .u64 (ls.map Nat.cast) ++ sp⟩ : Sg) ∈ M)
theorem Us.at {s : Value} {ls : List Nat} {M : Mem} {i : Nat} (h : Us s ls M) (hi : i < ls.length) :
    ∃ b own sp cap, s = .slice (some ⟨b, 0, none⟩) ls.length cap ∧ (⟨own, b, 0, ints .u64 (ls.map Nat.cast) ++ sp⟩ : Sg) ∈ M ∧ (ints .u64 (ls.map Nat.cast) ++ sp)[i]? = some (.int .u64 (ls.getD i 0 : Nat)) := by
  obtain ⟨ad, cap, rfl, rfl | ⟨b, own, sp, rfl, hm⟩⟩ := h
  · simp at hi
  · refine ⟨b, own, sp, cap, rfl, hm, ?_⟩
    rw [List.getElem?_append_left (by rw [ints_length]; simpa using hi), ints_get (by simpa using hi)]
    simp [hi]
theorem Us.mono {s : Value} {xs : List Nat} {M M' : Mem} (h : Us s xs M) (hm : ∀ x ∈ M, x ∈ M') : Us s xs M' := by
  obtain ⟨ad, cap, h2, h3⟩ := h
  exact ⟨ad, cap, h2, h3.imp id fun ⟨b, o, sp, h4, h5⟩ => ⟨b, o, sp, h4, hm _ h5⟩⟩
theorem Us.of_own {s : Value} {ls : List Nat} {m : Mem} (h : Own s 1 (ints .u64 (ls.map Nat.cast)) m) : Us s ls m := by
  rcases h with ⟨rfl, h, rfl⟩ | ⟨b, len, cap, sp, rfl, rfl, h1, h2⟩
  · have : ls = [] := by
      have := congrArg List.length h
      rw [ints_length, List.length_map] at this
      exact List.eq_nil_of_length_eq_zero this
    subst this
    exact ⟨none, 0, rfl, .inl rfl⟩
  · obtain rfl : len = ls.length := by rw [ints_length, List.length_map] at h1; omega
    exact ⟨_, cap, rfl, .inr ⟨b, true, sp, rfl, .head _⟩⟩

/-- A slice of ranges. -/
def Rs (s : Value) (l : List Rg) (M : Mem) : Prop :=
  ∃ ad cap, s = .slice ad l.length cap ∧ (l = [] ∨ ∃ b own sp, ad = some ⟨b, 0, none⟩ ∧ (rangesV l ++ sp).length = cap * 2 ∧ (⟨own, b, 0, rangesV l ++ sp⟩ : Sg) ∈ M)
theorem Rs.at {s : Value} {l : List Rg} {M : Mem} (h : Rs s l M) (hl : 0 < l.length) :
    ∃ b own sp cap, s = .slice (some ⟨b, 0, none⟩) l.length cap ∧ (rangesV l ++ sp).length = cap * 2 ∧ (⟨own, b, 0, rangesV l ++ sp⟩ : Sg) ∈ M := by
  obtain ⟨ad, cap, rfl, rfl | ⟨b, own, sp, rfl, hc, hm⟩⟩ := h
  · simp at hl
  · exact ⟨b, own, sp, cap, rfl, hc, hm⟩
theorem Rs.mono {s : Value} {xs : List Rg} {M M' : Mem} (h : Rs s xs M) (hm : ∀ x ∈ M, x ∈ M') : Rs s xs M' := by
  obtain ⟨ad, cap, h2, h3⟩ := h
  exact ⟨ad, cap, h2, h3.imp id fun ⟨b, o, sp, h4, h6, h5⟩ => ⟨b, o, sp, h4, h6, hm _ h5⟩⟩
theorem Rs.of_own {s : Value} {l : List Rg} {m : Mem} (h : Own s 2 (rangesV l) m) : Rs s l m := by
  rcases h with ⟨rfl, h, rfl⟩ | ⟨b, len, cap, sp, rfl, rfl, h1, h2⟩
  · have : l = [] := by
      have := congrArg List.length h
      rw [rangesV_length] at this
      exact List.eq_nil_of_length_eq_zero (by simp only [List.length_nil] at this; omega)
    subst this
    exact ⟨none, 0, rfl, .inl rfl⟩
  · obtain rfl : len = l.length := by rw [rangesV_length] at h1; omega
    exact ⟨_, cap, rfl, .inr ⟨b, true, sp, rfl, h2, .head _⟩⟩

theorem zero69 : zeroOf Try.prog 69 = some [.int .u32 0, .int .u32 0] := by kernel_rfl
theorem zero141 : zeroOf Try.prog 141 = some [.int .u32 0, .int .u32 0] := by kernel_rfl
theorem build69 (a b : Int) (w : World) : (Instr.build 69 [(0, .int .u32 a), (1, .int .u32 b)].toArray).run Try.prog w = .ok (.agg [.int .u32 a, .int .u32 b].toArray) w := by kernel_rfl
theorem build141 (a b : Int) (w : World) : (Instr.build 141 [(0, .int .u32 a), (1, .int .u32 b)].toArray).run Try.prog w = .ok (.agg [.int .u32 a, .int .u32 b].toArray) w := by kernel_rfl
theorem row34_1 (a b : Value) (w : World) : (Instr.buildSlice 34 1 [(0, .agg [a, b].toArray)].toArray).run Try.prog w = .ok (.slice (some ⟨w.heap.size, 0, none⟩) 1 1) (w.alloc (.cells [a, b].toArray 69)) := by kernel_rfl
theorem row106_1 (a b : Value) (w : World) : (Instr.buildSlice 106 1 [(0, .agg [a, b].toArray)].toArray).run Try.prog w = .ok (.slice (some ⟨w.heap.size, 0, none⟩) 1 1) (w.alloc (.cells [a, b].toArray 141)) := by kernel_rfl
theorem row63_1 (a : Int) (w : World) : (Instr.buildSlice 63 1 [(0, .int .u64 a)].toArray).run Try.prog w = .ok (.slice (some ⟨w.heap.size, 0, none⟩) 1 1) (w.alloc (.cells [.int .u64 a].toArray 49)) := by kernel_rfl
theorem info69 : (Try.prog.info? 69).map (fun i => (i.size, i.bytes, i.zero)) = some (2, 8, some (.agg #[.int .u32 0, .int .u32 0])) := by kernel_rfl
theorem info141 : (Try.prog.info? 141).map (fun i => (i.size, i.bytes, i.zero)) = some (2, 8, some (.agg #[.int .u32 0, .int .u32 0])) := by kernel_rfl
theorem info49 : (Try.prog.info? 49).map (fun i => (i.size, i.bytes, i.zero)) = some (1, 8, some (.int .u64 0)) := by kernel_rfl
attribute [irreducible] rangesV
end Go.Proofs.Ytjkpfliaflmppaa.Pc

/- spec's bits: put and unpacked, and CodeOf, walked. spec's packed, walked: bytes of bits. -/
import Derived.Test.YtjkpfliaflmppaaW6x23
import Derived.Test.YtjkpfliaflmppaaW6x15
import Derived.Test.YtjkpfliaflmppaaW6x22
import Derived.Test.YtjkpfliaflmppaaW6x07

namespace Go.Proofs.Ytjkpfliaflmppaa.Pc
open Go Go.RowKit Go.Proofs.Ytjkpfliaflmppaa.Vm Go.Proofs.Ytjkpfliaflmppaa.Bu

/-- Bits as cells. -/
abbrev ib (xs : List Nat) : List Value := ints .u8 (xs.map Nat.cast)
/-- The lowest n bits of a number, the lowest one first. -/
def bitsOf (v n : Nat) : List Nat := (List.range n).map fun i => v / 2 ^ i % 2
theorem bitsOf_length (v n : Nat) : (bitsOf v n).length = n := by simp [bitsOf]
theorem bitsOf_succ (v n : Nat) : bitsOf v (n + 1) = bitsOf v n ++ [v / 2 ^ n % 2] := by simp [bitsOf, List.range_succ]
theorem ib_append (xs ys : List Nat) : ib (xs ++ ys) = ib xs ++ ib ys := by simp [ib, ints]
theorem ib_length (xs : List Nat) : (ib xs).length = xs.length := by rw [ints_length, List.length_map]
theorem row87_1 (a : Int) (w : World) : (Instr.buildSlice 87 1 [(0, .int .u8 a)].toArray).run Try.prog w = .ok (.slice (some ⟨w.heap.size, 0, none⟩) 1 1) (w.alloc (.cells [.int .u8 a].toArray 5)) := by kernel_rfl
theorem info5z : (Try.prog.info? 5).map (fun i => (i.size, i.bytes, i.zero)) = some (1, 1, some (.int .u8 0)) := by kernel_rfl
theorem ib_one (xs : List Nat) (b : Nat) : ib xs ++ [Value.int .u8 (b : Int)].take (1 * 1) = ib (xs ++ [b]) := by simp [ib, ints]
theorem one8 (b : Int) : ∀ v ∈ [Value.int .u8 b], v.oneCell' = true := by intro v hv; rw [List.mem_singleton] at hv; subst hv; rfl

theorem P_shrX2 {P : Program} {N : Fm} {E : Env} {M : Mem} {t t2 : TypeId} {x y : Operand} {k k2 : IntKind} {Y : Int} {p q r : Nat} (hx : ev E x = some (.int k (p : Int))) (hy : ev E y = some (.int k2 Y)) (hY : Y = (q : Int)) (hp : p < 2 ^ k.bits) (hr : p / 2 ^ q = r) :
    Pure P N E M (.binOp .shr t x y t2) (.int k (r : Int)) := by subst hY; exact P_shrE hx hy hp hr
theorem put47_c (pb v n : Nat) (s : Value) (xs : List Nat) (m F : Mem) (hown : Own s 1 (ib xs) m) (hn : n ≤ 64) (hx : xs.length ≤ 100000) (hv : v < 2 ^ 64) :
    HC Try.prog 47 #[.pointer (some ⟨pb, 0, none⟩), .int .u64 v, .int .u64 n] (⟨true, pb, 0, [s]⟩ :: (m ++ F)) (fun _ M' => ∃ s' m', Own s' 1 (ib (xs ++ bitsOf v n)) m' ∧ Rk M' (⟨true, pb, 0, [s']⟩ :: (m' ++ F))) := by
  obtain ⟨I, hI, hI1, hI2, hI3⟩ := of_info info5z
  refine HC_of_W (fn := Try.f47) Try.func47 rfl rfl rfl rfl ?_
  repeat' (first | (refine isO ?_; first | refine oo (Pc rfl) ?_ | refine oo (Pa rfl (by omega) (by omega)) ?_ | (refine ob rfl ?_ ?_ <;> intro hq <;> try (exfalso; omega)) | refine oo (Pi rfl (by omega)) ?_ | refine oo (Pl rfl) ?_ | refine oo (Px rfl rfl) ?_ | refine oo (Pj rfl (by omega) (by omega)) ?_ | refine oo (Pk rfl (by omega) (by omega)) ?_ | refine oo (Pf rfl) ?_ | refine oo (Pv rfl (by omega) (by omega)) ?_ | refine oo (Pn rfl) ?_ | refine oo (Pm rfl) ?_ | refine os rfl rfl ?_ | refine ot rfl (by omega) ?_ | refine O_nil ?_) | refine wo rfl ?_ | refine wc rfl ?_ | refine wg rfl ?_ | refine go rfl ?_ | refine gc rfl ?_ | refine gg rfl ?_)
  refine W_loop (α := Nat × Value × Mem) (fun x => [(0, .pointer (some ⟨pb, 0, none⟩)), (1, .int .u64 v), (2, .int .u64 n), (6, .int .u64 x.1)]) (fun x => ⟨true, pb, 0, [x.2.1]⟩ :: (x.2.2 ++ F))
    (fun x => x.1 ≤ n ∧ Own x.2.1 1 (ib (xs ++ bitsOf v x.1)) x.2.2) (fun x => n - x.1) (0, s, m) ⟨by omega, by simpa [bitsOf] using hown⟩ ⟨rfl, rfl, rfl, rfl, trivial⟩ .rfl ?_
  rintro ⟨i, s, m⟩ ⟨hi, hown⟩
  dsimp only at hi hown ⊢
  repeat' (first | (refine isO ?_; first | refine oo (Pc rfl) ?_ | refine oo (Pa rfl (by omega) (by omega)) ?_ | (refine ob rfl ?_ ?_ <;> intro hq <;> try (exfalso; omega)) | refine oo (Pi rfl (by omega)) ?_ | refine oo (Pl rfl) ?_ | refine oo (Px rfl rfl) ?_ | refine oo (Pj rfl (by omega) (by omega)) ?_ | refine oo (Pk rfl (by omega) (by omega)) ?_ | refine oo (Pf rfl) ?_ | refine oo (Pv rfl (by omega) (by omega)) ?_ | refine oo (Pn rfl) ?_ | refine oo (Pm rfl) ?_ | refine os rfl rfl ?_ | refine ot rfl (by omega) ?_ | refine O_nil ?_) | refine wo rfl ?_ | refine wc rfl ?_ | refine wg rfl ?_ | refine go rfl ?_ | refine gc rfl ?_ | refine gg rfl ?_)
  · have hdv : v / 2 ^ i < 2 ^ 64 := Nat.lt_of_le_of_lt (Nat.div_le_self _ _) hv
    have hb2 : v / 2 ^ i % 2 < 2 := Nat.mod_lt _ (by omega)
    refine O_pure (P_shrE (p := v) (q := i) (r := v / 2 ^ i) rfl rfl hv rfl) trivial rfl ?_
    refine O_pure (P_is (P_bitN (p := v / 2 ^ i) (q := 1) rfl rfl rfl rfl hdv (by decide)) (congrArg (fun y : Nat => Value.int .u64 (y : Int)) (Nat.and_one_is_mod (v / 2 ^ i)))) trivial rfl ?_
    have hbs := bitsOf_succ v i
    generalize v / 2 ^ i % 2 = bt at *
    repeat' (first | (refine isO ?_; first | refine oo (Pc rfl) ?_ | refine oo (Pa rfl (by omega) (by omega)) ?_ | (refine ob rfl ?_ ?_ <;> intro hq <;> try (exfalso; omega)) | refine oo (Pi rfl (by omega)) ?_ | refine oo (Pl rfl) ?_ | refine oo (Px rfl rfl) ?_ | refine oo (Pj rfl (by omega) (by omega)) ?_ | refine oo (Pk rfl (by omega) (by omega)) ?_ | refine oo (Pf rfl) ?_ | refine oo (Pv rfl (by omega) (by omega)) ?_ | refine oo (Pn rfl) ?_ | refine oo (Pm rfl) ?_ | refine os rfl rfl ?_ | refine ot rfl (by omega) ?_ | refine O_nil ?_) | refine wo rfl ?_ | refine wc rfl ?_ | refine wg rfl ?_ | refine go rfl ?_ | refine gc rfl ?_ | refine gg rfl ?_)
    refine O_buildSlice rfl (row87_1 _) trivial rfl fun by1 => ?_
    refine O_append (m := m) (M0 := ⟨true, by1, 0, [.int .u8 (bt : Int)]⟩ :: ⟨true, pb, 0, [s]⟩ :: F) Tb.u87 Tb.u87 hI hI1 (by decide) (by omega) hI3 rfl rfl rfl hown (.perm (List.perm_append_comm_assoc [_, _] m F)) (len := xs.length + i) (by rw [ib_length, List.length_append, bitsOf_length]; omega) (.head _) (Nat.le_refl 1)
      (one8 _) (.inl (by omega)) (by rw [hI2]; omega) trivial rfl fun b2 c2 s2 h2 => ?_
    rw [ib_one, List.append_assoc, ← hbs] at h2 ⊢
    repeat' (first | (refine isO ?_; first | refine oo (Pc rfl) ?_ | refine oo (Pa rfl (by omega) (by omega)) ?_ | (refine ob rfl ?_ ?_ <;> intro hq <;> try (exfalso; omega)) | refine oo (Pi rfl (by omega)) ?_ | refine oo (Pl rfl) ?_ | refine oo (Px rfl rfl) ?_ | refine oo (Pj rfl (by omega) (by omega)) ?_ | refine oo (Pk rfl (by omega) (by omega)) ?_ | refine oo (Pf rfl) ?_ | refine oo (Pv rfl (by omega) (by omega)) ?_ | refine oo (Pn rfl) ?_ | refine oo (Pm rfl) ?_ | refine os rfl rfl ?_ | refine ot rfl (by omega) ?_ | refine O_nil ?_) | refine wo rfl ?_ | refine wc rfl ?_ | refine wg rfl ?_ | refine go rfl ?_ | refine gc rfl ?_ | refine gg rfl ?_)
    exact G_stop ⟨(i + 1, .slice (some ⟨b2, 0, none⟩) (xs.length + i + 1) c2, [⟨true, b2, 0, ib (xs ++ bitsOf v (i + 1)) ++ s2⟩]), ⟨by omega, .inr ⟨b2, _, c2, s2, rfl, rfl, by rw [ib_length, List.length_append, bitsOf_length]; omega, h2⟩⟩, by dsimp only; omega, ⟨rfl, rfl, rfl, rfl, trivial⟩, .cons (.tail (.tail .head)) (.cons .head (.drop .rfl))⟩
  · obtain rfl : i = n := by omega
    exact G_fin ⟨_, rfl, s, m, hown, .rfl⟩

/-- A byte's bits: from the lowest one on, or (big) from the highest one on. -/
def byteBits (big : Bool) (b n : Nat) : List Nat := (List.range n).map fun k => b / 2 ^ (if big then 7 - k else k) % 2
def unp (big : Bool) (s : List Nat) : List Nat := s.flatMap fun b => byteBits big b 8
theorem byteBits_length (big : Bool) (b n : Nat) : (byteBits big b n).length = n := by simp [byteBits]
theorem byteBits_succ (big : Bool) (b n : Nat) : byteBits big b (n + 1) = byteBits big b n ++ [b / 2 ^ (if big then 7 - n else n) % 2] := by simp [byteBits, List.range_succ]
theorem unp_length (big : Bool) (s : List Nat) : (unp big s).length = 8 * s.length := by
  induction s with
  | nil => rfl
  | cons b s ih => simp only [unp, List.flatMap_cons, List.length_append, byteBits_length, List.length_cons] at ih ⊢; omega
theorem unp_take (big : Bool) (s : List Nat) (i : Nat) (h : i < s.length) : unp big (s.take (i + 1)) = unp big (s.take i) ++ byteBits big (s.getD i 0) 8 := by
  have h1 : s.getD i 0 = s[i] := by simp [h]
  rw [h1, List.take_succ_eq_append_getElem h]
  simp only [unp, List.flatMap_append, List.flatMap_cons, List.flatMap_nil, List.append_nil]

theorem unpacked48_c (s : Value) (bs : List Nat) (big : Bool) (M : Mem) (hb : Bs s bs M) (hl : bs.length ≤ 1000) :
    HC Try.prog 48 #[s, .bool big] M (fun v M' => ∃ m, Own v 1 (ib (unp big bs)) m ∧ Rk M' (m ++ M)) := by
  obtain ⟨I, hI, hI1, hI2, hI3⟩ := of_info info5z
  obtain ⟨ad, cp, e⟩ : ∃ a c, s = .slice a bs.length c := ⟨_, _, hb.2.choose_spec.choose_spec.1⟩
  subst e
  refine HC_of_W (fn := Try.f48) Try.func48 rfl rfl rfl rfl ?_
  repeat' (first | (refine isO ?_; first | refine oo (Pc rfl) ?_ | refine oo (Pa rfl (by omega) (by omega)) ?_ | (refine ob rfl ?_ ?_ <;> intro hq <;> try (exfalso; omega)) | refine oo (Pi rfl (by omega)) ?_ | refine oo (Pl rfl) ?_ | refine oo (Px rfl rfl) ?_ | refine oo (Pj rfl (by omega) (by omega)) ?_ | refine oo (Pk rfl (by omega) (by omega)) ?_ | refine oo (Pf rfl) ?_ | refine oo (Pv rfl (by omega) (by omega)) ?_ | refine oo (Pn rfl) ?_ | refine oo (Pm rfl) ?_ | refine os rfl rfl ?_ | refine ot rfl (by omega) ?_ | refine O_nil ?_) | refine wo rfl ?_ | refine wc rfl ?_ | refine wg rfl ?_ | refine go rfl ?_ | refine gc rfl ?_ | refine gg rfl ?_)
  refine W_loop (α := Nat × Value × Mem) (fun x => [(0, .slice ad bs.length cp), (1, .bool big), (5, x.2.1), (6, .int .i64 x.1)]) (fun x => x.2.2 ++ M)
    (fun x => x.1 ≤ bs.length ∧ Own x.2.1 1 (ib (unp big (bs.take x.1))) x.2.2) (fun x => bs.length - x.1) (0, .slice none 0 0, []) ⟨by omega, .inl ⟨rfl, by simp [unp, ib, ints], rfl⟩⟩ ⟨rfl, rfl, rfl, rfl, trivial⟩ .rfl ?_
  rintro ⟨i, sv, m⟩ ⟨hi, hown⟩
  dsimp only at hi hown ⊢
  repeat' (first | (refine isO ?_; first | refine oo (Pc rfl) ?_ | refine oo (Pa rfl (by omega) (by omega)) ?_ | (refine ob rfl ?_ ?_ <;> intro hq <;> try (exfalso; omega)) | refine oo (Pi rfl (by omega)) ?_ | refine oo (Pl rfl) ?_ | refine oo (Px rfl rfl) ?_ | refine oo (Pj rfl (by omega) (by omega)) ?_ | refine oo (Pk rfl (by omega) (by omega)) ?_ | refine oo (Pf rfl) ?_ | refine oo (Pv rfl (by omega) (by omega)) ?_ | refine oo (Pn rfl) ?_ | refine oo (Pm rfl) ?_ | refine os rfl rfl ?_ | refine ot rfl (by omega) ?_ | refine O_nil ?_) | refine wo rfl ?_ | refine wc rfl ?_ | refine wg rfl ?_ | refine go rfl ?_ | refine gc rfl ?_ | refine gg rfl ?_)
  · have hil : i < bs.length := by omega
    obtain ⟨b, o, cap, e, hm, hg, hlt⟩ := hb.at hil
    cases e
    have htk := unp_take big bs i hil
    have hul : (unp big (bs.take i)).length = 8 * i := by rw [unp_length, List.length_take]; omega
    generalize bs.getD i 0 = z at *
    generalize hpre : unp big (bs.take i) = pre at *
    refine W_loop (α := Nat × Value × Mem) (fun x => [(0, .slice (some ⟨b, o, none⟩) bs.length cp), (1, .bool big), (5, x.2.1), (6, .int .i64 i), (7, .int .u64 x.1)]) (fun x => x.2.2 ++ M)
      (fun x => x.1 ≤ 8 ∧ Own x.2.1 1 (ib (pre ++ byteBits big z x.1)) x.2.2) (fun x => 8 - x.1) (0, sv, m) ⟨by omega, by simpa [byteBits] using hown⟩ ⟨rfl, rfl, rfl, rfl, rfl, trivial⟩ .rfl ?_
    clear hown
    rintro ⟨j, sv, m⟩ ⟨hj, hown⟩
    dsimp only at hj hown ⊢
    have hm' : (⟨false, b, o, ints .u8 (bs.map Nat.cast)⟩ : Sg) ∈ m ++ M := List.mem_append_right _ hm
    have hbs := byteBits_succ big z j
    cases big
    all_goals
      repeat' (first | (refine isO ?_; first | refine oo (Pc rfl) ?_ | refine oo (Pa rfl (by omega) (by omega)) ?_ | (refine ob rfl ?_ ?_ <;> intro hq <;> try (exfalso; omega)) | refine oo (Pi rfl (by omega)) ?_ | refine oo (Pl rfl) ?_ | refine oo (Px rfl rfl) ?_ | refine oo (Pj rfl (by omega) (by omega)) ?_ | refine oo (Pk rfl (by omega) (by omega)) ?_ | refine oo (Pf rfl) ?_ | refine oo (Pv rfl (by omega) (by omega)) ?_ | refine oo (Pn rfl) ?_ | refine oo (Pm rfl) ?_ | refine os rfl rfl ?_ | refine ot rfl (by omega) ?_ | refine O_nil ?_) | refine wo rfl ?_ | refine wc rfl ?_ | refine wg rfl ?_ | refine go rfl ?_ | refine gc rfl ?_ | refine gg rfl ?_)
      · first | rw [if_neg (by decide)] at hbs | rw [if_pos rfl] at hbs
        refine O_pure (P_loadAt (o := o) (n := i) Tb.p5 rfl (by omega) hm' hg) trivial rfl ?_
        repeat' (first | (refine isO ?_; first | refine oo (Pc rfl) ?_ | refine oo (Pa rfl (by omega) (by omega)) ?_ | (refine ob rfl ?_ ?_ <;> intro hq <;> try (exfalso; omega)) | refine oo (Pi rfl (by omega)) ?_ | refine oo (Pl rfl) ?_ | refine oo (Px rfl rfl) ?_ | refine oo (Pj rfl (by omega) (by omega)) ?_ | refine oo (Pk rfl (by omega) (by omega)) ?_ | refine oo (Pf rfl) ?_ | refine oo (Pv rfl (by omega) (by omega)) ?_ | refine oo (Pn rfl) ?_ | refine oo (Pm rfl) ?_ | refine os rfl rfl ?_ | refine ot rfl (by omega) ?_ | refine O_nil ?_) | refine wo rfl ?_ | refine wc rfl ?_ | refine wg rfl ?_ | refine go rfl ?_ | refine gc rfl ?_ | refine gg rfl ?_)
        first
          | refine O_pure (P_shrE (p := z) (q := j) (r := z / 2 ^ j) rfl rfl hlt rfl) trivial rfl ?_
          | refine O_pure (P_shrX2 (p := z) (q := 7 - j) (r := z / 2 ^ (7 - j)) rfl rfl (by omega) hlt rfl) trivial rfl ?_
        refine O_pure (P_is (P_bitN (q := 1) rfl rfl rfl rfl (Nat.lt_of_le_of_lt (Nat.div_le_self _ _) hlt) (by decide)) (congrArg (fun y : Nat => Value.int .u8 (y : Int)) (Nat.and_one_is_mod _))) trivial rfl ?_
        refine O_buildSlice rfl (row87_1 _) trivial rfl fun by1 => ?_
        refine O_append (m := m) (M0 := ⟨true, by1, 0, _⟩ :: M) Tb.u87 Tb.u87 hI hI1 (by decide) (by omega) hI3 rfl rfl rfl hown (.perm List.perm_middle.symm) (len := 8 * i + j) (by rw [ib_length, List.length_append, byteBits_length]; omega) (.head _) (Nat.le_refl 1)
          (one8 _) (.inl (by omega)) (by rw [hI2]; omega) trivial rfl fun b2 c2 s2 h2 => ?_
        rw [ib_one, List.append_assoc, ← hbs] at h2 ⊢
        repeat' (first | (refine isO ?_; first | refine oo (Pc rfl) ?_ | refine oo (Pa rfl (by omega) (by omega)) ?_ | (refine ob rfl ?_ ?_ <;> intro hq <;> try (exfalso; omega)) | refine oo (Pi rfl (by omega)) ?_ | refine oo (Pl rfl) ?_ | refine oo (Px rfl rfl) ?_ | refine oo (Pj rfl (by omega) (by omega)) ?_ | refine oo (Pk rfl (by omega) (by omega)) ?_ | refine oo (Pf rfl) ?_ | refine oo (Pv rfl (by omega) (by omega)) ?_ | refine oo (Pn rfl) ?_ | refine oo (Pm rfl) ?_ | refine os rfl rfl ?_ | refine ot rfl (by omega) ?_ | refine O_nil ?_) | refine wo rfl ?_ | refine wc rfl ?_ | refine wg rfl ?_ | refine go rfl ?_ | refine gc rfl ?_ | refine gg rfl ?_)
        exact G_stop ⟨(j + 1, .slice (some ⟨b2, 0, none⟩) (8 * i + j + 1) c2, [⟨true, b2, 0, ib (pre ++ byteBits _ z (j + 1)) ++ s2⟩]), ⟨by dsimp only; omega, .inr ⟨b2, _, c2, s2, rfl, rfl, by rw [ib_length, List.length_append, byteBits_length]; omega, h2⟩⟩, by dsimp only; omega, ⟨rfl, rfl, rfl, rfl, rfl, trivial⟩, .cons .head (.drop .rfl)⟩
      · obtain rfl : j = 8 := by omega
        exact G_stop ⟨(i + 1, sv, m), ⟨by dsimp only; omega, by dsimp only; rw [htk]; exact hown⟩, by dsimp only; omega, ⟨rfl, rfl, rfl, rfl, trivial⟩, .rfl⟩
  · obtain rfl : i = bs.length := by omega
    rw [List.take_length] at hown
    exact G_fin ⟨_, rfl, m, hown, .rfl⟩
end Go.Proofs.Ytjkpfliaflmppaa.Pc

namespace Go.Proofs.Ytjkpfliaflmppaa.Pc
open Go Go.RowKit Go.Proofs.Ytjkpfliaflmppaa.Vm Go.Proofs.Ytjkpfliaflmppaa.Bu

theorem P_remS {P : Program} {N : Fm} {E : Env} {M : Mem} {t t2 : TypeId} {x y : Operand} {k : IntKind} {X Y : Int} {p q : Nat} (hx : ev E x = some (.int k X)) (hy : ev E y = some (.int k Y)) (hX : X = (p : Int)) (hY : Y = (q : Int)) (hq : 0 < q) (h : inK k ((p % q : Nat) : Int)) :
    Pure P N E M (.binOp .rem t x y t2) (.int k ((p % q : Nat) : Int)) := by
  subst hX; subst hY
  constructor
  intro pr base w0 a w hA hS d ty pos after g
  have hw := wrap_id h.lo h.hi
  have e : Int.tmod (p : Int) (q : Int) = ((p % q : Nat) : Int) := rfl
  simp [execOp, hA.eval hx, hA.eval hy, Sem.run, pure, bind, Sem.bind, eqGuard, binOp, Op.intArith, Op.intDiv, e, hw, show q ≠ 0 by omega]
theorem P_shlX {P : Program} {N : Fm} {E : Env} {M : Mem} {t t2 : TypeId} {x y : Operand} {k k2 : IntKind} {X Y : Int} {p q r : Nat} (hx : ev E x = some (.int k X)) (hy : ev E y = some (.int k2 Y)) (hX : X = (p : Int)) (hY : Y = (q : Int)) (hk : k.signed = false) (hr : p * 2 ^ q % 2 ^ k.bits = r) :
    Pure P N E M (.binOp .shl t x y t2) (.int k (r : Int)) := by subst hX; subst hY; exact P_shlE hx hy hk hr
theorem P_bitX {P : Program} {N : Fm} {E : Env} {M : Mem} {op : BinOp} {t t2 : TypeId} {x y : Operand} {k : IntKind} {X Y : Int} {p q r : Nat} (hx : ev E x = some (.int k X)) (hy : ev E y = some (.int k Y)) (hX : X = (p : Int)) (hY : Y = (q : Int)) (hr : bitN op p q = some r) (hk : k.signed = false)
    (hp : p < 2 ^ k.bits) (hq : q < 2 ^ k.bits) : Pure P N E M (.binOp op t x y t2) (.int k (r : Int)) := by subst hX; subst hY; exact P_bitN hx hy hr hk hp hq

/-- Where in its byte a bit stands. -/
def atB (big : Bool) (i : Nat) : Nat := if big then 7 - i % 8 else i % 8
/-- Byte k, once i bits are laid. -/
def pkTo (big : Bool) (bits : List Nat) : Nat → Nat → Nat
  | 0, _ => 0
  | i + 1, k => if k = i / 8 then pkTo big bits i k ||| bits.getD i 0 * 2 ^ atB big i else pkTo big bits i k
def pkL (big : Bool) (bits : List Nat) (L i : Nat) : List Nat := (List.range L).map (pkTo big bits i)
theorem atB_lt (big : Bool) (i : Nat) : atB big i ≤ 7 := by
  unfold atB
  have := Nat.mod_lt i (show 0 < 8 by omega)
  split <;> omega
theorem bit_at (b a : Nat) (hb : b ≤ 1) (ha : a ≤ 7) : b * 2 ^ a < 256 := by
  have h1 : 2 ^ a ≤ 2 ^ 7 := Nat.pow_le_pow_right (by omega) ha
  have h2 : b * 2 ^ a ≤ 1 * 2 ^ a := Nat.mul_le_mul_right _ hb
  omega
theorem pkTo_lt (big : Bool) (bits : List Nat) (hb : ∀ i, bits.getD i 0 ≤ 1) : ∀ i k, pkTo big bits i k < 256
  | 0, k => by simp [pkTo]
  | i + 1, k => by
    simp only [pkTo]
    have ih := pkTo_lt big bits hb i k
    split
    · exact Nat.or_lt_two_pow (n := 8) ih (bit_at _ _ (hb i) (atB_lt big i))
    · exact ih
theorem pkL_length (big : Bool) (bits : List Nat) (L i : Nat) : (pkL big bits L i).length = L := by simp [pkL]
theorem pkL_get (big : Bool) (bits : List Nat) (L i k : Nat) (h : k < L) : (pkL big bits L i).getD k 0 = pkTo big bits i k := by simp [pkL, h]
theorem pkL_zero (big : Bool) (bits : List Nat) (L : Nat) : pkL big bits L 0 = List.replicate L 0 := by
  apply List.ext_getElem
  · simp [pkL]
  · intro k h1 h2; simp [pkL, pkTo]
theorem pkL_succ (big : Bool) (bits : List Nat) (L i : Nat) (h : i / 8 < L) :
    ((pkL big bits L i).map Nat.cast).set (i / 8) ((pkTo big bits i (i / 8) ||| bits.getD i 0 * 2 ^ atB big i : Nat) : Int) = ((pkL big bits L (i + 1)).map Nat.cast : List Int) := by
  apply List.ext_getElem
  · simp [pkL]
  · intro k h1 h2
    simp only [List.getElem_set, pkL, List.map_map, List.getElem_map, List.getElem_range, Function.comp_apply, pkTo]
    by_cases hk : i / 8 = k
    · rw [if_pos hk, if_pos hk.symm, hk]
    · rw [if_neg hk, if_neg (fun e => hk e.symm)]

set_option maxHeartbeats 1000000 in
theorem packed49_c (s : Value) (bits : List Nat) (big : Bool) (m F : Mem) (hown : Own s 1 (ib bits) m) (hl : bits.length ≤ 100000) (hb : ∀ i, bits.getD i 0 ≤ 1) :
    HC Try.prog 49 #[s, .bool big] (m ++ F) (fun v M' => ∃ b, v = .slice (some ⟨b, 0, none⟩) ((bits.length + 7) / 8) ((bits.length + 7) / 8) ∧ Rk M' (⟨true, b, 0, ib (pkL big bits ((bits.length + 7) / 8) bits.length)⟩ :: (m ++ F))) := by
  obtain ⟨I, hI, hI1, hI2, hI3⟩ := of_info info5z
  obtain ⟨ad, cp, hs⟩ : ∃ a c, s = .slice a bits.length c := by
    rcases hown with ⟨rfl, h, _⟩ | ⟨b, len, cap, sp, rfl, rfl, h1, h2⟩
    · have h4 := congrArg List.length h
      rw [ib_length] at h4
      simp only [List.length_nil] at h4
      exact ⟨none, 0, by rw [h4]⟩
    · rw [ib_length] at h1
      obtain rfl : len = bits.length := by omega
      exact ⟨_, _, rfl⟩
  subst hs
  refine HC_of_W (fn := Try.f49) Try.func49 rfl rfl rfl rfl ?_
  repeat' (first | (refine isO ?_; first | refine oo (Pc rfl) ?_ | refine oo (Pa rfl (by omega) (by omega)) ?_ | (refine ob rfl ?_ ?_ <;> intro hq <;> try (exfalso; omega)) | refine oo (Pi rfl (by omega)) ?_ | refine oo (Pl rfl) ?_ | refine oo (Px rfl rfl) ?_ | refine oo (Pj rfl (by omega) (by omega)) ?_ | refine oo (Pk rfl (by omega) (by omega)) ?_ | refine oo (Pf rfl) ?_ | refine oo (Pv rfl (by omega) (by omega)) ?_ | refine oo (Pn rfl) ?_ | refine oo (Pm rfl) ?_ | refine os rfl rfl ?_ | refine ot rfl (by omega) ?_ | refine O_nil ?_) | refine wo rfl ?_ | refine wc rfl ?_ | refine wg rfl ?_ | refine go rfl ?_ | refine gc rfl ?_ | refine gg rfl ?_)
  refine O_pure (P_quoE (p := bits.length + 7) (q := 8) rfl rfl (by omega) rfl (by omega) (inK_i64 (by omega) (by omega))) trivial rfl ?_
  obtain ⟨L, hL⟩ : ∃ L, L = (bits.length + 7) / 8 := ⟨_, rfl⟩
  rw [← hL]
  have hLb : ∀ i, i < bits.length → i / 8 < L := fun i hi => by omega
  refine O_make1 (z := (L : Int)) Tb.u22 hI hI1 hI3 rfl rfl (by omega) (by rw [hI2]; omega) (by omega) trivial rfl fun b => ?_
  rw [Int.toNat_natCast, ints_rep]
  refine O_weak (M' := ⟨true, b, 0, ib (pkL big bits L 0)⟩ :: (m ++ F)) (by rw [pkL_zero]; simp only [ib, List.map_replicate]; exact .rfl) ?_
  repeat' (first | (refine isO ?_; first | refine oo (Pc rfl) ?_ | refine oo (Pa rfl (by omega) (by omega)) ?_ | (refine ob rfl ?_ ?_ <;> intro hq <;> try (exfalso; omega)) | refine oo (Pi rfl (by omega)) ?_ | refine oo (Pl rfl) ?_ | refine oo (Px rfl rfl) ?_ | refine oo (Pj rfl (by omega) (by omega)) ?_ | refine oo (Pk rfl (by omega) (by omega)) ?_ | refine oo (Pf rfl) ?_ | refine oo (Pv rfl (by omega) (by omega)) ?_ | refine oo (Pn rfl) ?_ | refine oo (Pm rfl) ?_ | refine os rfl rfl ?_ | refine ot rfl (by omega) ?_ | refine O_nil ?_) | refine wo rfl ?_ | refine wc rfl ?_ | refine wg rfl ?_ | refine go rfl ?_ | refine gc rfl ?_ | refine gg rfl ?_)
  refine W_loop (α := Nat) (fun i => [(0, .slice ad bits.length cp), (1, .bool big), (5, .slice (some ⟨b, 0, none⟩) L L), (6, .int .i64 i)]) (fun i => ⟨true, b, 0, ib (pkL big bits L i)⟩ :: (m ++ F)) (fun i => i ≤ bits.length) (fun i => bits.length - i) 0 (by omega) ⟨rfl, rfl, rfl, rfl, trivial⟩ .rfl ?_
  intro i hi
  try dsimp only
  repeat' (first | (refine isO ?_; first | refine oo (Pc rfl) ?_ | refine oo (Pa rfl (by omega) (by omega)) ?_ | (refine ob rfl ?_ ?_ <;> intro hq <;> try (exfalso; omega)) | refine oo (Pi rfl (by omega)) ?_ | refine oo (Pl rfl) ?_ | refine oo (Px rfl rfl) ?_ | refine oo (Pj rfl (by omega) (by omega)) ?_ | refine oo (Pk rfl (by omega) (by omega)) ?_ | refine oo (Pf rfl) ?_ | refine oo (Pv rfl (by omega) (by omega)) ?_ | refine oo (Pn rfl) ?_ | refine oo (Pm rfl) ?_ | refine os rfl rfl ?_ | refine ot rfl (by omega) ?_ | refine O_nil ?_) | refine wo rfl ?_ | refine wc rfl ?_ | refine wg rfl ?_ | refine go rfl ?_ | refine gc rfl ?_ | refine gg rfl ?_)
  · have hil : i < bits.length := by omega
    have hil8 := hLb i hil
    rcases hown with ⟨_, h, _⟩ | ⟨b', len, cap, sp, e, rfl, h1, h2⟩
    · have h4 := congrArg List.length h
      rw [ib_length] at h4
      simp only [List.length_nil] at h4
      omega
    cases e
    have hgb : (ib bits ++ sp)[i]? = some (.int .u8 (bits.getD i 0 : Nat)) := by
      rw [List.getElem?_append_left (by rw [ib_length]; exact hil), ib, ints_get (by simpa using hil)]
      simp [hil]
    have hrd : rd ((pkL big bits L i).map Nat.cast) ((i / 8 : Nat) : Int) = ((pkTo big bits i (i / 8) : Nat) : Int) := by
      unfold rd
      rw [Int.toNat_natCast, ← pkL_get big bits L i (i / 8) hil8]
      simp [pkL_length, hil8]
    have hset := pkL_succ big bits L i hil8
    have hbi := hb i
    have hpl := pkTo_lt big bits hb i (i / 8)
    have hat : atB big i = if big then 7 - i % 8 else i % 8 := rfl
    have hatl := bit_at _ _ hbi (atB_lt big i)
    have ham := Nat.mod_lt i (show 0 < 8 by omega)
    generalize hw : atB big i = a at *
    refine O_pure (P_remS (p := i) (q := 8) rfl rfl rfl rfl (by omega) (inK_i64 (by omega) (by omega))) trivial rfl ?_
    generalize i % 8 = im at *
    cases big
    all_goals
      first | rw [if_neg (by decide)] at hat | rw [if_pos rfl] at hat
      repeat' (first | (refine isO ?_; first | refine oo (Pc rfl) ?_ | refine oo (Pa rfl (by omega) (by omega)) ?_ | (refine ob rfl ?_ ?_ <;> intro hq <;> try (exfalso; omega)) | refine oo (Pi rfl (by omega)) ?_ | refine oo (Pl rfl) ?_ | refine oo (Px rfl rfl) ?_ | refine oo (Pj rfl (by omega) (by omega)) ?_ | refine oo (Pk rfl (by omega) (by omega)) ?_ | refine oo (Pf rfl) ?_ | refine oo (Pv rfl (by omega) (by omega)) ?_ | refine oo (Pn rfl) ?_ | refine oo (Pm rfl) ?_ | refine os rfl rfl ?_ | refine ot rfl (by omega) ?_ | refine O_nil ?_) | refine wo rfl ?_ | refine wc rfl ?_ | refine wg rfl ?_ | refine go rfl ?_ | refine gc rfl ?_ | refine gg rfl ?_)
      refine W_region_tail 13 Tb.mixed (by kernel_rfl) ?_
      simp only [List.take_succ_cons, List.take_zero, List.drop_succ_cons, List.drop_zero]
      repeat' (first | (refine isS ?_; first | refine ss (Pc rfl) ?_ | refine ss (Pa rfl (by omega) (by omega)) ?_ | (refine sb rfl ?_ ?_ <;> intro hq <;> try (exfalso; omega)) | refine ss (Pi rfl (by omega)) ?_ | refine ss (Pl rfl) ?_ | refine ss (Px rfl rfl) ?_ | refine ss (Pj rfl (by omega) (by omega)) ?_ | refine ss (Pk rfl (by omega) (by omega)) ?_ | refine ss (Pf rfl) ?_ | refine ss (Pv rfl (by omega) (by omega)) ?_ | refine ss (Pn rfl) ?_ | refine ss (Pm rfl) ?_ | refine OS_nil ?_))
      refine OS_pure (P_quoE (p := i) (q := 8) rfl rfl rfl rfl (by omega) (inK_i64 (by omega) (by omega))) trivial rfl ?_
      repeat' (first | (refine isS ?_; first | refine ss (Pc rfl) ?_ | refine ss (Pa rfl (by omega) (by omega)) ?_ | (refine sb rfl ?_ ?_ <;> intro hq <;> try (exfalso; omega)) | refine ss (Pi rfl (by omega)) ?_ | refine ss (Pl rfl) ?_ | refine ss (Px rfl rfl) ?_ | refine ss (Pj rfl (by omega) (by omega)) ?_ | refine ss (Pk rfl (by omega) (by omega)) ?_ | refine ss (Pf rfl) ?_ | refine ss (Pv rfl (by omega) (by omega)) ?_ | refine ss (Pn rfl) ?_ | refine ss (Pm rfl) ?_ | refine OS_nil ?_))
      refine OS_pure (P_loadi (k := .u8) (z := ((i / 8 : Nat) : Int)) (o := 0) (l := (pkL _ bits L i).map Nat.cast) Tb.u5 rfl (.head _) (by rw [List.length_map, pkL_length]; omega)) trivial rfl ?_
      repeat' (first | (refine isS ?_; first | refine ss (Pc rfl) ?_ | refine ss (Pa rfl (by omega) (by omega)) ?_ | (refine sb rfl ?_ ?_ <;> intro hq <;> try (exfalso; omega)) | refine ss (Pi rfl (by omega)) ?_ | refine ss (Pl rfl) ?_ | refine ss (Px rfl rfl) ?_ | refine ss (Pj rfl (by omega) (by omega)) ?_ | refine ss (Pk rfl (by omega) (by omega)) ?_ | refine ss (Pf rfl) ?_ | refine ss (Pv rfl (by omega) (by omega)) ?_ | refine ss (Pn rfl) ?_ | refine ss (Pm rfl) ?_ | refine OS_nil ?_))
      refine OS_pure (P_loadAt (o := 0) (n := i) Tb.p5 rfl (by omega) (.tail _ (.head _)) hgb) trivial rfl ?_
      repeat' (first | (refine isS ?_; first | refine ss (Pc rfl) ?_ | refine ss (Pa rfl (by omega) (by omega)) ?_ | (refine sb rfl ?_ ?_ <;> intro hq <;> try (exfalso; omega)) | refine ss (Pi rfl (by omega)) ?_ | refine ss (Pl rfl) ?_ | refine ss (Px rfl rfl) ?_ | refine ss (Pj rfl (by omega) (by omega)) ?_ | refine ss (Pk rfl (by omega) (by omega)) ?_ | refine ss (Pf rfl) ?_ | refine ss (Pv rfl (by omega) (by omega)) ?_ | refine ss (Pn rfl) ?_ | refine ss (Pm rfl) ?_ | refine OS_nil ?_))
      refine OS_pure (P_shlX (p := bits.getD i 0) (q := a) (r := bits.getD i 0 * 2 ^ a) rfl rfl rfl (by omega) rfl (Nat.mod_eq_of_lt hatl)) trivial rfl ?_
      refine OS_pure (P_bitX (p := pkTo _ bits i (i / 8)) (q := bits.getD i 0 * 2 ^ a) rfl rfl hrd rfl rfl rfl hpl hatl) trivial rfl ?_
      repeat' (first | (refine isS ?_; first | refine ss (Pc rfl) ?_ | refine ss (Pa rfl (by omega) (by omega)) ?_ | (refine sb rfl ?_ ?_ <;> intro hq <;> try (exfalso; omega)) | refine ss (Pi rfl (by omega)) ?_ | refine ss (Pl rfl) ?_ | refine ss (Px rfl rfl) ?_ | refine ss (Pj rfl (by omega) (by omega)) ?_ | refine ss (Pk rfl (by omega) (by omega)) ?_ | refine ss (Pf rfl) ?_ | refine ss (Pv rfl (by omega) (by omega)) ?_ | refine ss (Pn rfl) ?_ | refine ss (Pm rfl) ?_ | refine OS_nil ?_))
      refine O_storeiE (z := ((i / 8 : Nat) : Int)) (o := 0) Tb.c5 rfl rfl (l' := (pkL _ bits L (i + 1)).map Nat.cast) (by unfold wr; rw [Int.toNat_natCast]; exact hset) trivial .head (by rw [List.length_map, pkL_length]; omega) ?_
      repeat' (first | (refine isO ?_; first | refine oo (Pc rfl) ?_ | refine oo (Pa rfl (by omega) (by omega)) ?_ | (refine ob rfl ?_ ?_ <;> intro hq <;> try (exfalso; omega)) | refine oo (Pi rfl (by omega)) ?_ | refine oo (Pl rfl) ?_ | refine oo (Px rfl rfl) ?_ | refine oo (Pj rfl (by omega) (by omega)) ?_ | refine oo (Pk rfl (by omega) (by omega)) ?_ | refine oo (Pf rfl) ?_ | refine oo (Pv rfl (by omega) (by omega)) ?_ | refine oo (Pn rfl) ?_ | refine oo (Pm rfl) ?_ | refine os rfl rfl ?_ | refine ot rfl (by omega) ?_ | refine O_nil ?_) | refine wo rfl ?_ | refine wc rfl ?_ | refine wg rfl ?_ | refine go rfl ?_ | refine gc rfl ?_ | refine gg rfl ?_)
      exact G_stop ⟨i + 1, by omega, by omega, ⟨rfl, rfl, rfl, rfl, trivial⟩, .rfl⟩
  · obtain rfl : i = bits.length := by omega
    refine G_fin ⟨_, rfl, b, rfl, .rfl⟩
end Go.Proofs.Ytjkpfliaflmppaa.Pc

/- Encoder.Init, walked: for codes whose symbols are numbered from 0 on. impl.safe carries a function out and tells that it did not panic: for every function that returns. Numbers with their bits turned round. No condition. The functions that turn bits round, walked: for every byte; for every number of 32 bits; for every number of n bits, n from 1 to 32. -/
import Derived.Test.YtjkpfliaflmppaaW11x12
import Derived.Test.YtjkpfliaflmppaaW11x01
import Derived.Test.YtjkpfliaflmppaaProg
import Derived.WalkKit
import Derived.Recover
import Derived.Laws.Pointers
import Derived.Test.YtjkpfliaflmppaaW11x03
import Derived.Test.YtjkpfliaflmppaaW11x04
import Derived.Test.YtjkpfliaflmppaaW11x07

namespace Go.Proofs.Ytjkpfliaflmppaa.Pc
open Go Go.RowKit Go.Proofs.Ytjkpfliaflmppaa.Vm

theorem P_quoE {P : Program} {N : Fm} {E : Env} {M : Mem} {t t2 : TypeId} {x y : Operand} {k : IntKind} {X Y : Int} {p q : Nat} (hx : ev E x = some (.int k X)) (hy : ev E y = some (.int k Y)) (hX : X = (p : Int)) (hY : Y = (q : Int)) (hq : 0 < q) (h : inK k ((p / q : Nat) : Int)) :
    Pure P N E M (.binOp .quo t x y t2) (.int k ((p / q : Nat) : Int)) := by
  subst hX; subst hY
  constructor
  intro pr base w0 a w hA hS d ty pos after g
  have hw := wrap_id h.lo h.hi
  have hw' : k.wrap ((p : Int) / (q : Int)) = (p : Int) / (q : Int) := by rw [Int.natCast_ediv] at hw; exact hw
  have e : Int.tdiv (p : Int) (q : Int) = ((p / q : Nat) : Int) := rfl
  simp [execOp, hA.eval hx, hA.eval hy, Sem.run, pure, bind, Sem.bind, eqGuard, binOp, Op.intArith, Op.intDiv, e, hw', show q ≠ 0 by omega]

theorem info40 : (Try.prog.info? 40).map (fun i => (i.size, i.bytes, i.zero)) = some (1, 4, some (.int .u32 0)) := by kernel_rfl
theorem ints_rep (k : IntKind) (c : Nat) : List.replicate c (Value.int k 0) = ints k (List.replicate c 0) := by simp [ints]

theorem alloc96_c (n : Nat) (M : Mem) (h1 : 1 ≤ n) (h2 : n ≤ 1048576) : HC Try.prog 96 #[.slice none 0 0, .int .i64 n] M (fun v M' => ∃ b, v = .slice (some ⟨b, 0, none⟩) n (n * 3 / 2) ∧ Rk M' (⟨true, b, 0, ints .u32 (List.replicate (n * 3 / 2) 0)⟩ :: M)) := by
  obtain ⟨I, hI, hI1, hI2, hI3⟩ := of_info info40
  refine HC_of_W (fn := Try.f96) Try.func96 rfl rfl rfl rfl ?_
  repeat' (first | (refine isO ?_; first | refine oo (Pc rfl) ?_ | refine oo (Pa rfl (by omega) (by omega)) ?_ | (refine ob rfl ?_ ?_ <;> intro hq <;> try (exfalso; omega)) | refine oo (Pi rfl (by omega)) ?_ | refine oo (Pl rfl) ?_ | refine oo (Px rfl rfl) ?_ | refine oo (Pj rfl (by omega) (by omega)) ?_ | refine oo (Pk rfl (by omega) (by omega)) ?_ | refine oo (Pf rfl) ?_ | refine oo (Pv rfl (by omega) (by omega)) ?_ | refine oo (Pn rfl) ?_ | refine oo (Pm rfl) ?_ | refine os rfl rfl ?_ | refine ot rfl (by omega) ?_ | refine O_nil ?_) | refine wo rfl ?_ | refine wc rfl ?_ | refine wg rfl ?_ | refine go rfl ?_ | refine gc rfl ?_ | refine gg rfl ?_)
  refine O_pure (P_cap Tb.u46 rfl) trivial rfl ?_
  repeat' (first | (refine isO ?_; first | refine oo (Pc rfl) ?_ | refine oo (Pa rfl (by omega) (by omega)) ?_ | (refine ob rfl ?_ ?_ <;> intro hq <;> try (exfalso; omega)) | refine oo (Pi rfl (by omega)) ?_ | refine oo (Pl rfl) ?_ | refine oo (Px rfl rfl) ?_ | refine oo (Pj rfl (by omega) (by omega)) ?_ | refine oo (Pk rfl (by omega) (by omega)) ?_ | refine oo (Pf rfl) ?_ | refine oo (Pv rfl (by omega) (by omega)) ?_ | refine oo (Pn rfl) ?_ | refine oo (Pm rfl) ?_ | refine os rfl rfl ?_ | refine ot rfl (by omega) ?_ | refine O_nil ?_) | refine wo rfl ?_ | refine wc rfl ?_ | refine wg rfl ?_ | refine go rfl ?_ | refine gc rfl ?_ | refine gg rfl ?_)
  refine O_pure (P_quoE (p := n * 3) (q := 2) rfl rfl (by omega) rfl (by omega) (inK_i64 (by omega) (by omega))) trivial rfl ?_
  refine O_makeCap (n := n) (c := n * 3 / 2) Tb.u46 hI hI1 hI3 rfl rfl rfl (by omega) (by omega) (by rw [hI2]; omega) (by omega) trivial rfl fun b => ?_
  rw [ints_rep]
  repeat' (first | (refine isO ?_; first | refine oo (Pc rfl) ?_ | refine oo (Pa rfl (by omega) (by omega)) ?_ | (refine ob rfl ?_ ?_ <;> intro hq <;> try (exfalso; omega)) | refine oo (Pi rfl (by omega)) ?_ | refine oo (Pl rfl) ?_ | refine oo (Px rfl rfl) ?_ | refine oo (Pj rfl (by omega) (by omega)) ?_ | refine oo (Pk rfl (by omega) (by omega)) ?_ | refine oo (Pf rfl) ?_ | refine oo (Pv rfl (by omega) (by omega)) ?_ | refine oo (Pn rfl) ?_ | refine oo (Pm rfl) ?_ | refine os rfl rfl ?_ | refine ot rfl (by omega) ?_ | refine O_nil ?_) | refine wo rfl ?_ | refine wc rfl ?_ | refine wg rfl ?_ | refine go rfl ?_ | refine gc rfl ?_ | refine gg rfl ?_)
  exact G_fin ⟨_, rfl, b, rfl, .rfl⟩

theorem wr_rep (c : Nat) (z : Int) : wr (List.replicate c 0) z 0 = List.replicate c 0 := by
  unfold wr
  apply List.ext_getElem
  · simp
  · intro i h1 h2
    simp only [List.getElem_set, List.getElem_replicate]
    split <;> rfl
theorem rd_wr {l : List Int} {p v : Int} {k : Nat} (hl : p.toNat < l.length) : (wr l p v).getD k 0 = if k = p.toNat then v else l.getD k 0 := by
  unfold wr
  rw [List.getD_eq_getElem?_getD, List.getD_eq_getElem?_getD, List.getElem?_set]
  by_cases h : k = p.toNat
  · subst h; simp [hl]
  · rw [if_neg (fun e => h e.symm), if_neg h]

/-- What a code's cell of the encoder's table holds. -/
def chunkOf (c : Cd) : Nat := c.val * 32 ||| c.len
/-- Codes that are numbered from 0 on. -/
structure Numbered (cs : List Cd) : Prop where
  two : 2 ≤ cs.length
  most : cs.length ≤ 60
  sym : ∀ i, i < cs.length → (cs.getD i Cd.zero).sym = i
  len : ∀ i, i < cs.length → 1 ≤ (cs.getD i Cd.zero).len ∧ (cs.getD i Cd.zero).len ≤ 20
  val : ∀ i, i < cs.length → (cs.getD i Cd.zero).val < 1048576

theorem cd_eta {c : Cd} {x : Nat} (h : c.sym = x) : c = ⟨x, c.cnt, c.len, c.val⟩ := by subst h; rfl
/-- The encoder's row and its table. -/
def EncR (eb n j cb cc : Nat) : Sg := ⟨true, eb, 0, [.slice (some ⟨cb, 0, none⟩) (2 ^ j) cc, .int .u32 (2 ^ j - 1 : Nat), .int .u32 n]⟩
def EncT (cs : List Cd) (j cc : Nat) (ch : List Int) : Prop := j ≤ 6 ∧ cs.length ≤ 2 ^ j ∧ 2 ^ j ≤ cc ∧ ch.length = cc ∧ ∀ i, i < cs.length → ch.getD i 0 = chunkOf (cs.getD i Cd.zero)

theorem and_mask {i j : Nat} (h : i < 2 ^ j) : i &&& (2 ^ j - 1) = i := by
  rw [Nat.and_two_pow_sub_one_eq_mod]; exact Nat.mod_eq_of_lt h
theorem pow6 {j : Nat} (h : j ≤ 6) : 2 ^ j ≤ 64 ∧ 1 ≤ 2 ^ j := ⟨Nat.pow_le_pow_right (n := 2) (by omega) h, Nat.two_pow_pos _⟩

set_option maxHeartbeats 1000000 in
theorem enc52_c (cs : List Cd) (hN : Numbered cs) (eb b cap : Nat) (own : Bool) (sp : List Value) (M : Mem) :
    HC Try.prog 52 #[.pointer (some ⟨eb, 0, none⟩), .slice (some ⟨b, 0, none⟩) cs.length cap] (⟨true, eb, 0, [.slice none 0 0, .int .u32 0, .int .u32 0]⟩ :: ⟨own, b, 0, codesV cs ++ sp⟩ :: M)
      (fun _ M' => ∃ j cb cc ch, EncT cs j cc ch ∧ Rk M' (EncR eb cs.length j cb cc :: ⟨true, cb, 0, ints .u32 ch⟩ :: ⟨own, b, 0, codesV cs ++ sp⟩ :: M)) := by
  have h2 := hN.two
  have h60 := hN.most
  refine HC_of_W (fn := Try.f52) Try.func52 rfl rfl rfl rfl ?_
  repeat' (first | (refine isO ?_; first | refine oo (Pc rfl) ?_ | refine oo (Pa rfl (by omega) (by omega)) ?_ | (refine ob rfl ?_ ?_ <;> intro hq <;> try (exfalso; omega)) | refine oo (Pi rfl (by omega)) ?_ | refine oo (Pl rfl) ?_ | refine oo (Px rfl rfl) ?_ | refine oo (Pj rfl (by omega) (by omega)) ?_ | refine oo (Pk rfl (by omega) (by omega)) ?_ | refine oo (Pf rfl) ?_ | refine oo (Pv rfl (by omega) (by omega)) ?_ | refine oo (Pn rfl) ?_ | refine oo (Pm rfl) ?_ | refine os rfl rfl ?_ | refine ot rfl (by omega) ?_ | refine O_nil ?_) | refine wo rfl ?_ | refine wc rfl ?_ | refine wg rfl ?_ | refine go rfl ?_ | refine gc rfl ?_ | refine gg rfl ?_)
  refine W_scope (α := Unit) 0 rfl (fun _ => []) (fun _ => []) (fun _ => False) (fun _ => 0) ?_ (fun _ h => h.elim)
  repeat' (first | (refine isO ?_; first | refine oo (Pc rfl) ?_ | refine oo (Pa rfl (by omega) (by omega)) ?_ | (refine ob rfl ?_ ?_ <;> intro hq <;> try (exfalso; omega)) | refine oo (Pi rfl (by omega)) ?_ | refine oo (Pl rfl) ?_ | refine oo (Px rfl rfl) ?_ | refine oo (Pj rfl (by omega) (by omega)) ?_ | refine oo (Pk rfl (by omega) (by omega)) ?_ | refine oo (Pf rfl) ?_ | refine oo (Pv rfl (by omega) (by omega)) ?_ | refine oo (Pn rfl) ?_ | refine oo (Pm rfl) ?_ | refine os rfl rfl ?_ | refine ot rfl (by omega) ?_ | refine O_nil ?_) | refine wo rfl ?_ | refine wc rfl ?_ | refine wg rfl ?_ | refine go rfl ?_ | refine gc rfl ?_ | refine gg rfl ?_)
  refine W_loop (α := Nat) (fun j => [(0, .pointer (some ⟨eb, 0, none⟩)), (1, .slice (some ⟨b, 0, none⟩) cs.length cap), (4, .int .i64 (2 ^ j : Nat)), (5, .int .i64 ((cs.length - 1) / 2 ^ j : Nat))])
    (fun _ => ⟨true, eb, 0, [.slice none 0 0, .int .u32 0, .int .u32 0]⟩ :: ⟨own, b, 0, codesV cs ++ sp⟩ :: M) (fun j => j ≤ 6) (fun j => 6 - j) 0 (by omega) ⟨rfl, rfl, rfl, congrArg (fun q => some (Value.int .i64 q)) (by simp; omega), trivial⟩ .rfl ?_
  intro j hj
  try dsimp only
  have hp := pow6 hj
  repeat' (first | (refine isO ?_; first | refine oo (Pc rfl) ?_ | refine oo (Pa rfl (by omega) (by omega)) ?_ | (refine ob rfl ?_ ?_ <;> intro hq <;> try (exfalso; omega)) | refine oo (Pi rfl (by omega)) ?_ | refine oo (Pl rfl) ?_ | refine oo (Px rfl rfl) ?_ | refine oo (Pj rfl (by omega) (by omega)) ?_ | refine oo (Pk rfl (by omega) (by omega)) ?_ | refine oo (Pf rfl) ?_ | refine oo (Pv rfl (by omega) (by omega)) ?_ | refine oo (Pn rfl) ?_ | refine oo (Pm rfl) ?_ | refine os rfl rfl ?_ | refine ot rfl (by omega) ?_ | refine O_nil ?_) | refine wo rfl ?_ | refine wc rfl ?_ | refine wg rfl ?_ | refine go rfl ?_ | refine gc rfl ?_ | refine gg rfl ?_)
  · have hj5 : j ≤ 5 := by
      by_cases h6 : j = 6
      · subst h6
        have : (cs.length - 1) / 2 ^ 6 = 0 := Nat.div_eq_of_lt (by omega)
        omega
      · omega
    refine O_pure (P_is (P_shl (p := (2 ^ j : Nat)) (q := 1) rfl rfl (by omega)) (congrArg (Value.int .i64) (?_ : _ = ((2 ^ (j + 1) : Nat) : Int)))) trivial rfl ?_
    · show IntKind.i64.wrap (((2 ^ j : Nat) : Int) * 2 ^ min 1 64) = _
      have e : ((2 ^ j : Nat) : Int) * 2 ^ min 1 64 = ((2 ^ (j + 1) : Nat) : Int) := by rw [Nat.pow_succ]; simp
      rw [e]
      have := pow6 (show j + 1 ≤ 6 by omega)
      exact wrap_id (show (-9223372036854775808 : Int) ≤ _ by omega) (show _ ≤ (9223372036854775807 : Int) by omega)
    repeat' (first | (refine isO ?_; first | refine oo (Pc rfl) ?_ | refine oo (Pa rfl (by omega) (by omega)) ?_ | (refine ob rfl ?_ ?_ <;> intro hq <;> try (exfalso; omega)) | refine oo (Pi rfl (by omega)) ?_ | refine oo (Pl rfl) ?_ | refine oo (Px rfl rfl) ?_ | refine oo (Pj rfl (by omega) (by omega)) ?_ | refine oo (Pk rfl (by omega) (by omega)) ?_ | refine oo (Pf rfl) ?_ | refine oo (Pv rfl (by omega) (by omega)) ?_ | refine oo (Pn rfl) ?_ | refine oo (Pm rfl) ?_ | refine os rfl rfl ?_ | refine ot rfl (by omega) ?_ | refine O_nil ?_) | refine wo rfl ?_ | refine wc rfl ?_ | refine wg rfl ?_ | refine go rfl ?_ | refine gc rfl ?_ | refine gg rfl ?_)
    have hlt : (cs.length - 1) / 2 ^ j ≤ cs.length - 1 := Nat.div_le_self _ _
    refine O_pure (P_shrE (p := (cs.length - 1) / 2 ^ j) (q := 1) (r := (cs.length - 1) / 2 ^ (j + 1)) rfl rfl (by simp only [IntKind.bits]; omega) (by rw [Nat.div_div_eq_div_mul, ← Nat.pow_add])) trivial rfl ?_
    repeat' (first | (refine isO ?_; first | refine oo (Pc rfl) ?_ | refine oo (Pa rfl (by omega) (by omega)) ?_ | (refine ob rfl ?_ ?_ <;> intro hq <;> try (exfalso; omega)) | refine oo (Pi rfl (by omega)) ?_ | refine oo (Pl rfl) ?_ | refine oo (Px rfl rfl) ?_ | refine oo (Pj rfl (by omega) (by omega)) ?_ | refine oo (Pk rfl (by omega) (by omega)) ?_ | refine oo (Pf rfl) ?_ | refine oo (Pv rfl (by omega) (by omega)) ?_ | refine oo (Pn rfl) ?_ | refine oo (Pm rfl) ?_ | refine os rfl rfl ?_ | refine ot rfl (by omega) ?_ | refine O_nil ?_) | refine wo rfl ?_ | refine wc rfl ?_ | refine wg rfl ?_ | refine go rfl ?_ | refine gc rfl ?_ | refine gg rfl ?_)
    exact G_stop ⟨j + 1, by omega, by omega, ⟨rfl, rfl, rfl, rfl, trivial⟩, .rfl⟩
  have hnj : cs.length ≤ 2 ^ j := by
    have h0 : (cs.length - 1) / 2 ^ j = 0 := Nat.le_zero.1 (Int.ofNat_le.1 hq)
    have := (Nat.div_eq_zero_iff).1 h0
    omega
  repeat' (first | (refine isO ?_; first | refine oo (Pc rfl) ?_ | refine oo (Pa rfl (by omega) (by omega)) ?_ | (refine ob rfl ?_ ?_ <;> intro hq <;> try (exfalso; omega)) | refine oo (Pi rfl (by omega)) ?_ | refine oo (Pl rfl) ?_ | refine oo (Px rfl rfl) ?_ | refine oo (Pj rfl (by omega) (by omega)) ?_ | refine oo (Pk rfl (by omega) (by omega)) ?_ | refine oo (Pf rfl) ?_ | refine oo (Pv rfl (by omega) (by omega)) ?_ | refine oo (Pn rfl) ?_ | refine oo (Pm rfl) ?_ | refine os rfl rfl ?_ | refine ot rfl (by omega) ?_ | refine O_nil ?_) | refine wo rfl ?_ | refine wc rfl ?_ | refine wg rfl ?_ | refine go rfl ?_ | refine gc rfl ?_ | refine gg rfl ?_)
  refine O_call rfl rfl Tb.k96 trivial rfl (alloc96_c (2 ^ j) _ (by omega) (by omega)) ?_
  rintro _ M' ⟨cb, rfl, hrk⟩
  refine O_weak hrk ?_
  clear hrk
  have hcc : 2 ^ j ≤ 2 ^ j * 3 / 2 := by omega
  generalize 2 ^ j * 3 / 2 = cc at *
  repeat' (first | (refine isO ?_; first | refine oo (Pc rfl) ?_ | refine oo (Pa rfl (by omega) (by omega)) ?_ | (refine ob rfl ?_ ?_ <;> intro hq <;> try (exfalso; omega)) | refine oo (Pi rfl (by omega)) ?_ | refine oo (Pl rfl) ?_ | refine oo (Px rfl rfl) ?_ | refine oo (Pj rfl (by omega) (by omega)) ?_ | refine oo (Pk rfl (by omega) (by omega)) ?_ | refine oo (Pf rfl) ?_ | refine oo (Pv rfl (by omega) (by omega)) ?_ | refine oo (Pn rfl) ?_ | refine oo (Pm rfl) ?_ | refine os rfl rfl ?_ | refine ot rfl (by omega) ?_ | refine O_nil ?_) | refine wo rfl ?_ | refine wc rfl ?_ | refine wg rfl ?_ | refine go rfl ?_ | refine gc rfl ?_ | refine gg rfl ?_)
  rw [show ((2 ^ j : Nat) : Int) - 1 = ((2 ^ j - 1 : Nat) : Int) by omega]
  refine W_loop (α := Nat) (fun i => [(0, .pointer (some ⟨eb, 0, none⟩)), (1, .slice (some ⟨b, 0, none⟩) cs.length cap), (111, .int .i64 (2 ^ j : Nat)), (112, .int .i64 i)])
    (fun _ => ⟨true, eb, 0, [.slice (some ⟨cb, 0, none⟩) (2 ^ j) cc, .int .u32 (2 ^ j - 1 : Nat), .int .u32 cs.length]⟩ :: ⟨true, cb, 0, ints .u32 (List.replicate cc 0)⟩ :: ⟨own, b, 0, codesV cs ++ sp⟩ :: M) (fun i => i ≤ 2 ^ j) (fun i => 2 ^ j - i) 0 (by omega) ⟨rfl, rfl, rfl, rfl, trivial⟩ (by repeat (first | exact .rfl | exact .nil | (apply Rk.cons; (· exact TakeI.out)) | refine .drop ?_)) ?_
  · intro i hi
    try dsimp only
    have hcl : (List.replicate cc (0 : Int)).length = cc := List.length_replicate
    repeat' (first | (refine isO ?_; first | refine oo (Pc rfl) ?_ | refine oo (Pa rfl (by omega) (by omega)) ?_ | (refine ob rfl ?_ ?_ <;> intro hq <;> try (exfalso; omega)) | refine oo (Pi rfl (by omega)) ?_ | refine oo (Pl rfl) ?_ | refine oo (Px rfl rfl) ?_ | refine oo (Pj rfl (by omega) (by omega)) ?_ | refine oo (Pk rfl (by omega) (by omega)) ?_ | refine oo (Pf rfl) ?_ | refine oo (Pv rfl (by omega) (by omega)) ?_ | refine oo (Pn rfl) ?_ | refine oo (Pm rfl) ?_ | refine os rfl rfl ?_ | refine ot rfl (by omega) ?_ | refine O_nil ?_) | refine wo rfl ?_ | refine wc rfl ?_ | refine wg rfl ?_ | refine go rfl ?_ | refine gc rfl ?_ | refine gg rfl ?_)
    · rw [wr_rep]
      repeat' (first | (refine isO ?_; first | refine oo (Pc rfl) ?_ | refine oo (Pa rfl (by omega) (by omega)) ?_ | (refine ob rfl ?_ ?_ <;> intro hq <;> try (exfalso; omega)) | refine oo (Pi rfl (by omega)) ?_ | refine oo (Pl rfl) ?_ | refine oo (Px rfl rfl) ?_ | refine oo (Pj rfl (by omega) (by omega)) ?_ | refine oo (Pk rfl (by omega) (by omega)) ?_ | refine oo (Pf rfl) ?_ | refine oo (Pv rfl (by omega) (by omega)) ?_ | refine oo (Pn rfl) ?_ | refine oo (Pm rfl) ?_ | refine os rfl rfl ?_ | refine ot rfl (by omega) ?_ | refine O_nil ?_) | refine wo rfl ?_ | refine wc rfl ?_ | refine wg rfl ?_ | refine go rfl ?_ | refine gc rfl ?_ | refine gg rfl ?_)
      exact G_stop ⟨i + 1, by omega, by omega, ⟨rfl, rfl, rfl, rfl, trivial⟩, by repeat (first | exact .rfl | exact .nil | (apply Rk.cons; (· exact TakeI.out)) | refine .drop ?_)⟩
    refine W_loop (α := Nat × List Int) (fun x => [(0, .pointer (some ⟨eb, 0, none⟩)), (122, .slice (some ⟨b, 0, none⟩) cs.length cap), (123, .int .i64 cs.length), (124, .int .i64 x.1)])
      (fun x => ⟨true, eb, 0, [.slice (some ⟨cb, 0, none⟩) (2 ^ j) cc, .int .u32 (2 ^ j - 1 : Nat), .int .u32 cs.length]⟩ :: ⟨true, cb, 0, ints .u32 x.2⟩ :: ⟨own, b, 0, codesV cs ++ sp⟩ :: M)
      (fun x => x.1 ≤ cs.length ∧ x.2.length = cc ∧ (∀ i, i < x.1 → x.2.getD i 0 = chunkOf (cs.getD i Cd.zero)) ∧ ∀ i, x.1 ≤ i → x.2.getD i 0 = 0) (fun x => cs.length - x.1)
      (0, List.replicate cc 0) ⟨by omega, hcl, fun i h => by omega, fun i _ => ?_⟩ ⟨rfl, rfl, rfl, rfl, trivial⟩ .rfl ?_
    · by_cases h : i < cc
      · simp [h]
      · simp [h]
    rintro ⟨x, ch⟩ ⟨hx, hch, hdone, hrest⟩
    dsimp only at hx hch hdone hrest ⊢
    repeat' (first | (refine isO ?_; first | refine oo (Pc rfl) ?_ | refine oo (Pa rfl (by omega) (by omega)) ?_ | (refine ob rfl ?_ ?_ <;> intro hq <;> try (exfalso; omega)) | refine oo (Pi rfl (by omega)) ?_ | refine oo (Pl rfl) ?_ | refine oo (Px rfl rfl) ?_ | refine oo (Pj rfl (by omega) (by omega)) ?_ | refine oo (Pk rfl (by omega) (by omega)) ?_ | refine oo (Pf rfl) ?_ | refine oo (Pv rfl (by omega) (by omega)) ?_ | refine oo (Pn rfl) ?_ | refine oo (Pm rfl) ?_ | refine os rfl rfl ?_ | refine ot rfl (by omega) ?_ | refine O_nil ?_) | refine wo rfl ?_ | refine wc rfl ?_ | refine wg rfl ?_ | refine go rfl ?_ | refine gc rfl ?_ | refine gg rfl ?_)
    · have hxl : x < cs.length := by omega
      have hsym := hN.sym x hxl
      have hlen := hN.len x hxl
      have hval := hN.val x hxl
      have hcell : (cs.getD x Cd.zero) = ⟨x, (cs.getD x Cd.zero).cnt, (cs.getD x Cd.zero).len, (cs.getD x Cd.zero).val⟩ := cd_eta hsym
      have hk : chunkOf (cs.getD x Cd.zero) = (cs.getD x Cd.zero).val * 32 ||| (cs.getD x Cd.zero).len := rfl
      have hblk := codesV_lit' cs sp x hxl hcell
      generalize (cs.getD x Cd.zero).val = v at *
      generalize (cs.getD x Cd.zero).len = n at *
      generalize (cs.getD x Cd.zero).cnt = cn at *
      have hand := and_mask (show x < 2 ^ j by omega)
      have hz : rd ch (x : Int) = 0 := by unfold rd; rw [Int.toNat_natCast]; exact hrest x (Nat.le_refl _)
      refine O_pure (P_loadAggAt (o := 0) (i := x * 4) (cs := [.int .u32 x, .int .u32 cn, .int .u32 n, .int .u32 v]) Tb.a146 Tb.c146 (by decide) rfl (by omega) (.tail _ (.tail _ (.head _))) (by rw [List.length_append, codesV_length]; omega) hblk) trivial rfl ?_
      refine O_alloc zero146 trivial rfl fun bx => ?_
      refine O_storeAgg0 Tb.c146 (by decide) rfl rfl rfl (lit_one _ _ _ _) trivial .head rfl ?_
      repeat' (first | (refine isO ?_; first | refine oo (Pc rfl) ?_ | refine oo (Pa rfl (by omega) (by omega)) ?_ | (refine ob rfl ?_ ?_ <;> intro hq <;> try (exfalso; omega)) | refine oo (Pi rfl (by omega)) ?_ | refine oo (Pl rfl) ?_ | refine oo (Px rfl rfl) ?_ | refine oo (Pj rfl (by omega) (by omega)) ?_ | refine oo (Pk rfl (by omega) (by omega)) ?_ | refine oo (Pf rfl) ?_ | refine oo (Pv rfl (by omega) (by omega)) ?_ | refine oo (Pn rfl) ?_ | refine oo (Pm rfl) ?_ | refine os rfl rfl ?_ | refine ot rfl (by omega) ?_ | refine O_nil ?_) | refine wo rfl ?_ | refine wc rfl ?_ | refine wg rfl ?_ | refine go rfl ?_ | refine gc rfl ?_ | refine gg rfl ?_)
      refine W_region_still Tb.mixed (by kernel_rfl) ?_
      repeat' (first | (refine isS ?_; first | refine ss (Pc rfl) ?_ | refine ss (Pa rfl (by omega) (by omega)) ?_ | (refine sb rfl ?_ ?_ <;> intro hq <;> try (exfalso; omega)) | refine ss (Pi rfl (by omega)) ?_ | refine ss (Pl rfl) ?_ | refine ss (Px rfl rfl) ?_ | refine ss (Pj rfl (by omega) (by omega)) ?_ | refine ss (Pk rfl (by omega) (by omega)) ?_ | refine ss (Pf rfl) ?_ | refine ss (Pv rfl (by omega) (by omega)) ?_ | refine ss (Pn rfl) ?_ | refine ss (Pm rfl) ?_ | refine OS_nil ?_))
      refine OS_pure (P_is (P_bitN (p := x) (q := 2 ^ j - 1) rfl rfl rfl rfl (by simp only [IntKind.bits]; omega) (by simp only [IntKind.bits]; omega)) (congrArg (fun y : Nat => Value.int .u32 (y : Int)) hand)) trivial rfl ?_
      repeat' (first | (refine isS ?_; first | refine ss (Pc rfl) ?_ | refine ss (Pa rfl (by omega) (by omega)) ?_ | (refine sb rfl ?_ ?_ <;> intro hq <;> try (exfalso; omega)) | refine ss (Pi rfl (by omega)) ?_ | refine ss (Pl rfl) ?_ | refine ss (Px rfl rfl) ?_ | refine ss (Pj rfl (by omega) (by omega)) ?_ | refine ss (Pk rfl (by omega) (by omega)) ?_ | refine ss (Pf rfl) ?_ | refine ss (Pv rfl (by omega) (by omega)) ?_ | refine ss (Pn rfl) ?_ | refine ss (Pm rfl) ?_ | refine OS_nil ?_))
      repeat' (first | (refine isO ?_; first | refine oo (Pc rfl) ?_ | refine oo (Pa rfl (by omega) (by omega)) ?_ | (refine ob rfl ?_ ?_ <;> intro hq <;> try (exfalso; omega)) | refine oo (Pi rfl (by omega)) ?_ | refine oo (Pl rfl) ?_ | refine oo (Px rfl rfl) ?_ | refine oo (Pj rfl (by omega) (by omega)) ?_ | refine oo (Pk rfl (by omega) (by omega)) ?_ | refine oo (Pf rfl) ?_ | refine oo (Pv rfl (by omega) (by omega)) ?_ | refine oo (Pn rfl) ?_ | refine oo (Pm rfl) ?_ | refine os rfl rfl ?_ | refine ot rfl (by omega) ?_ | refine O_nil ?_) | refine wo rfl ?_ | refine wc rfl ?_ | refine wg rfl ?_ | refine go rfl ?_ | refine gc rfl ?_ | refine gg rfl ?_)
      refine W_region_tail 18 Tb.mixed (by kernel_rfl) ?_
      simp only [List.take_succ_cons, List.take_zero, List.drop_succ_cons, List.drop_zero]
      repeat' (first | (refine isS ?_; first | refine ss (Pc rfl) ?_ | refine ss (Pa rfl (by omega) (by omega)) ?_ | (refine sb rfl ?_ ?_ <;> intro hq <;> try (exfalso; omega)) | refine ss (Pi rfl (by omega)) ?_ | refine ss (Pl rfl) ?_ | refine ss (Px rfl rfl) ?_ | refine ss (Pj rfl (by omega) (by omega)) ?_ | refine ss (Pk rfl (by omega) (by omega)) ?_ | refine ss (Pf rfl) ?_ | refine ss (Pv rfl (by omega) (by omega)) ?_ | refine ss (Pn rfl) ?_ | refine ss (Pm rfl) ?_ | refine OS_nil ?_))
      refine OS_pure (P_is (P_bitN (p := x) (q := 2 ^ j - 1) rfl rfl rfl rfl (by simp only [IntKind.bits]; omega) (by simp only [IntKind.bits]; omega)) (congrArg (fun y : Nat => Value.int .u32 (y : Int)) hand)) trivial rfl ?_
      repeat' (first | (refine isS ?_; first | refine ss (Pc rfl) ?_ | refine ss (Pa rfl (by omega) (by omega)) ?_ | (refine sb rfl ?_ ?_ <;> intro hq <;> try (exfalso; omega)) | refine ss (Pi rfl (by omega)) ?_ | refine ss (Pl rfl) ?_ | refine ss (Px rfl rfl) ?_ | refine ss (Pj rfl (by omega) (by omega)) ?_ | refine ss (Pk rfl (by omega) (by omega)) ?_ | refine ss (Pf rfl) ?_ | refine ss (Pv rfl (by omega) (by omega)) ?_ | refine ss (Pn rfl) ?_ | refine ss (Pm rfl) ?_ | refine OS_nil ?_))
      refine OS_pure (P_shlE (p := v) (q := 5) (r := v * 32) rfl rfl rfl (Nat.mod_eq_of_lt (by simp only [IntKind.bits]; omega))) trivial rfl ?_
      repeat' (first | (refine isS ?_; first | refine ss (Pc rfl) ?_ | refine ss (Pa rfl (by omega) (by omega)) ?_ | (refine sb rfl ?_ ?_ <;> intro hq <;> try (exfalso; omega)) | refine ss (Pi rfl (by omega)) ?_ | refine ss (Pl rfl) ?_ | refine ss (Px rfl rfl) ?_ | refine ss (Pj rfl (by omega) (by omega)) ?_ | refine ss (Pk rfl (by omega) (by omega)) ?_ | refine ss (Pf rfl) ?_ | refine ss (Pv rfl (by omega) (by omega)) ?_ | refine ss (Pn rfl) ?_ | refine ss (Pm rfl) ?_ | refine OS_nil ?_))
      refine OS_pure (P_bitN (p := v * 32) (q := n) rfl rfl rfl rfl (by simp only [IntKind.bits]; omega) (by simp only [IntKind.bits]; omega)) trivial rfl ?_
      repeat' (first | (refine isS ?_; first | refine ss (Pc rfl) ?_ | refine ss (Pa rfl (by omega) (by omega)) ?_ | (refine sb rfl ?_ ?_ <;> intro hq <;> try (exfalso; omega)) | refine ss (Pi rfl (by omega)) ?_ | refine ss (Pl rfl) ?_ | refine ss (Px rfl rfl) ?_ | refine ss (Pj rfl (by omega) (by omega)) ?_ | refine ss (Pk rfl (by omega) (by omega)) ?_ | refine ss (Pf rfl) ?_ | refine ss (Pv rfl (by omega) (by omega)) ?_ | refine ss (Pn rfl) ?_ | refine ss (Pm rfl) ?_ | refine OS_nil ?_))
      repeat' (first | (refine isO ?_; first | refine oo (Pc rfl) ?_ | refine oo (Pa rfl (by omega) (by omega)) ?_ | (refine ob rfl ?_ ?_ <;> intro hq <;> try (exfalso; omega)) | refine oo (Pi rfl (by omega)) ?_ | refine oo (Pl rfl) ?_ | refine oo (Px rfl rfl) ?_ | refine oo (Pj rfl (by omega) (by omega)) ?_ | refine oo (Pk rfl (by omega) (by omega)) ?_ | refine oo (Pf rfl) ?_ | refine oo (Pv rfl (by omega) (by omega)) ?_ | refine oo (Pn rfl) ?_ | refine oo (Pm rfl) ?_ | refine os rfl rfl ?_ | refine ot rfl (by omega) ?_ | refine O_nil ?_) | refine wo rfl ?_ | refine wc rfl ?_ | refine wg rfl ?_ | refine go rfl ?_ | refine gc rfl ?_ | refine gg rfl ?_)
      have hxc : (x : Int).toNat < ch.length := by omega
      refine G_stop ⟨(x + 1, wr ch x (v * 32 ||| n : Nat)), ⟨by dsimp only; omega, by rw [wr_length]; exact hch, fun i hi => ?_, fun i hi => ?_⟩, by dsimp only; omega, ⟨rfl, rfl, rfl, rfl, trivial⟩, by dsimp only; repeat (first | exact .rfl | exact .nil | (apply Rk.cons; (· exact TakeI.out)) | refine .drop ?_)⟩
      · rw [rd_wr hxc]
        split
        · rename_i h; rw [Int.toNat_natCast] at h; subst h; rw [hk]
        · rename_i h; exact hdone i (by dsimp only at hi; omega)
      · rw [rd_wr hxc]
        split
        · rename_i h; dsimp only at hi; omega
        · exact hrest i (by dsimp only at hi; omega)
    · obtain rfl : x = cs.length := by omega
      refine G_leave (fun _ h => by cases h) ?_
      exact G_fin ⟨_, rfl, j, cb, cc, ch, ⟨hj, hnj, hcc, hch, hdone⟩, .rfl⟩
end Go.Proofs.Ytjkpfliaflmppaa.Pc

namespace Go.Proofs.Ytjkpfliaflmppaa.Sf
open Go Go.RowKit Go.Proofs.Ytjkpfliaflmppaa.Vm

theorem catch_idle (p : Addr) (w : World) (hc : ∃ v, w.cell? p = some v) (hz : w.frozen? p = false) :
    CallsD Try.prog 89 #[.pointer (some p)] .returning w fun e u' w' => e = .returned (.tuple #[]) ∧ u' = .returning ∧ w' = w.setCell p (.bool true) := by
  obtain ⟨v, hc⟩ := hc
  refine callsD_of_wpS Try.func89 rfl fun c₀ cs hu => ?_
  apply wpS_region
  simp [wpOpsS, go_sem, recoverD, hu, Try.ntmps89, hc, hz]
  cases c₀
  simp_all [bodyPostS, results, Try.results89]

theorem safe_c {f : FuncId} {first captured : Array Value} {M : Mem} {R : Mem → Prop} (hf : Callable Try.prog f)
    (h : ∀ b, HC Try.prog f (first ++ captured) (⟨true, b, 0, [.bool false]⟩ :: M) (fun _ M' => ∃ M1, Rk M' (⟨true, b, 0, [.bool false]⟩ :: M1) ∧ R M1)) :
    HC Try.prog 39 #[.func (.func f) first captured] M (fun v M' => v = .bool true ∧ R M') := by
  constructor
  intro base w0 w hS
  have hmf : ∀ (fn : Fn) (first cap : Array Value) (w : World), (Instr.makeFunc fn first cap).run Try.prog w = .ok (.func fn first cap) w := fun _ _ _ _ => rfl
  have hcf : ∀ (w : World) (args : Array Value), (callFunc f args).run Try.prog w = .ok (.enter f args) w := fun w args => run_callFunc hf
  have hS1 := hS.alloc #[.bool false] 4
  have hc := (h w.heap.size).out base w0 _ hS1
  go_enter_defers Try.func39, Try.ntmps39
  go_wp2_with fail
  refine hc.mono ?_
  rintro e w' ⟨v, M', rfl, hS', M1, hrk, hR⟩
  have hSr := hS'.rk hrk
  have hcell : w'.cell? ⟨w.heap.size, 0, none⟩ = some (.bool false) := (hSr.seg _ (.head _)).cell (i := 0) rfl
  have hfree : w'.frozen? ⟨w.heap.size, 0, none⟩ = false := (hSr.seg _ (.head _)).free rfl (i := 0) (by simp)
  have hS2 : Sim false base w0 (w'.setCell ⟨w.heap.size, 0, none⟩ (.bool true)) (⟨true, w.heap.size, 0, [.bool true]⟩ :: M1) := hSr.set (s := ⟨true, w.heap.size, 0, [.bool false]⟩) (i := 0) rfl (by simp) .head
  have hc2 : (w'.setCell ⟨w.heap.size, 0, none⟩ (.bool true)).cell? ⟨w.heap.size, 0, none⟩ = some (.bool true) := (hS2.seg _ (.head _)).cell (i := 0) rfl
  have hf2 : (w'.setCell ⟨w.heap.size, 0, none⟩ (.bool true)).frozen? ⟨w.heap.size, 0, none⟩ = false := (hS2.seg _ (.head _)).free rfl (i := 0) (by simp)
  have hS3 : Sim false base w0 ((w'.setCell ⟨w.heap.size, 0, none⟩ (.bool true)).setCell ⟨w.heap.size, 0, none⟩ (.bool true)) (⟨true, w.heap.size, 0, [.bool true]⟩ :: M1) := hS2.set (s := ⟨true, w.heap.size, 0, [.bool true]⟩) (i := 0) rfl (by simp) .head
  have hS4 : Sim false base w0 _ M1 := hS3.drop
  have hc4 : ((w'.setCell ⟨w.heap.size, 0, none⟩ (.bool true)).setCell ⟨w.heap.size, 0, none⟩ (.bool true)).cell? ⟨w.heap.size, 0, none⟩ = some (.bool true) := (hS3.seg _ (.head _)).cell (i := 0) rfl
  clear hS' hS1 hS2 hS3 hSr hS hc h hmf
  go_wp2
  refine leaves_cons (f := 89) (args := #[.pointer (some ⟨w.heap.size, 0, none⟩)]) (by simp) (by simp [go_sem]) ?_
  refine (catch_idle ⟨w.heap.size, 0, none⟩ _ ⟨_, hc2⟩ hf2).mono ?_
  rintro e u' w'' ⟨rfl, rfl, rfl⟩
  refine ⟨.bool true, ?_, .bool true, M1, rfl, hS4, rfl, hR⟩
  simp [results, Try.results39, go_sem, hc4]
end Go.Proofs.Ytjkpfliaflmppaa.Sf

namespace Go.Proofs.Ytjkpfliaflmppaa.Rev

/-- The lowest n bits of v, the first one last. -/
def T : Nat → Nat → Nat
  | 0, _ => 0
  | n + 1, v => 2 * T n v + v / 2 ^ n % 2

theorem T_lt : ∀ (n v : Nat), T n v < 2 ^ n
  | 0, v => by simp [T]
  | n + 1, v => by
    have := T_lt n v
    have h : v / 2 ^ n % 2 < 2 := Nat.mod_lt _ (by omega)
    simp only [T, Nat.pow_succ]; omega

theorem T_mod : ∀ (n m v : Nat), n ≤ m → T n (v % 2 ^ m) = T n v
  | 0, _, _, _ => rfl
  | n + 1, m, v, h => by
    simp only [T, T_mod n m v (by omega)]
    congr 1
    have h1 : v % 2 ^ m / 2 ^ n % 2 = v / 2 ^ n % 2 := by
      have h2 : 2 ^ m = 2 ^ n * (2 * 2 ^ (m - n - 1)) := by rw [← Nat.pow_succ', ← Nat.pow_add]; congr 1; omega
      rw [h2, Nat.mod_mul_right_div_self, Nat.mod_mul_right_mod]
    exact h1

/-- A number of m bits with b above it. -/
theorem T_add : ∀ (n m a b : Nat), a < 2 ^ m → T (m + n) (a + 2 ^ m * b) = T m a * 2 ^ n + T n b
  | 0, m, a, b, h => by
    have : T m (a + 2 ^ m * b) = T m a := by
      rw [← T_mod m m (a + 2 ^ m * b) (Nat.le_refl _)]
      rw [Nat.add_mul_mod_self_left, T_mod _ _ _ (Nat.le_refl _)]
    simp [T, this]
  | n + 1, m, a, b, h => by
    have h1 := T_add n m a b h
    have h2 : (a + 2 ^ m * b) / 2 ^ (m + n) % 2 = b / 2 ^ n % 2 := by
      rw [Nat.pow_add, ← Nat.div_div_eq_div_mul, Nat.add_mul_div_left _ _ (Nat.two_pow_pos m), Nat.div_eq_of_lt h, Nat.zero_add]
    rw [← Nat.add_assoc]
    simp only [T, h1, h2, Nat.pow_succ]
    rw [Nat.mul_add, ← Nat.mul_assoc, Nat.mul_comm 2 (T m a), Nat.mul_assoc, Nat.mul_comm 2 (2 ^ n), Nat.add_assoc]

theorem T_zero : ∀ n, T n 0 = 0
  | 0 => rfl
  | n + 1 => by simp [T, T_zero n]

/-- Moved up, a number is turned as a longer one. -/
theorem T_shift (n k v : Nat) : T (k + n) (v * 2 ^ k) = T n v := by
  have := T_add n k 0 v (Nat.two_pow_pos k)
  rw [T_zero, Nat.zero_mul, Nat.zero_add, Nat.zero_add, Nat.mul_comm] at this
  exact this

/-- Four bytes, each turned, in the other order. -/
theorem T_bytes (x : Nat) (h : x < 2 ^ 32) : T 32 x = T 8 (x % 256) * 2 ^ 24 + T 8 (x / 256 % 256) * 2 ^ 16 + T 8 (x / 65536 % 256) * 2 ^ 8 + T 8 (x / 16777216 % 256) := by
  have e1 : x = x % 256 + 2 ^ 8 * (x / 256) := by omega
  have e2 : x / 256 = x / 256 % 256 + 2 ^ 8 * (x / 65536) := by omega
  have e3 : x / 65536 = x / 65536 % 256 + 2 ^ 8 * (x / 16777216) := by omega
  have e4 : x / 16777216 = x / 16777216 % 256 := by omega
  have a1 := T_add 24 8 (x % 256) (x / 256) (by omega)
  have a2 := T_add 16 8 (x / 256 % 256) (x / 65536) (by omega)
  have a3 := T_add 8 8 (x / 65536 % 256) (x / 16777216) (by omega)
  rw [← e1] at a1
  rw [← e2] at a2
  rw [← e3] at a3
  rw [a1, a2, a3, ← e4]
  omega

theorem or_add (a b i : Nat) (h : b < 2 ^ i) : a * 2 ^ i ||| b = a * 2 ^ i + b := by
  rw [Nat.mul_comm, ← Nat.two_pow_add_eq_or_of_lt h]

theorem or4 (a b c d : Nat) (ha : a < 256) (hb : b < 256) (hc : c < 256) (hd : d < 256) :
    (((0 ||| a * 2 ^ 24 % 2 ^ 32) ||| b * 2 ^ 16 % 2 ^ 32) ||| c * 2 ^ 8 % 2 ^ 32) ||| d * 2 ^ 0 % 2 ^ 32 = a * 2 ^ 24 + b * 2 ^ 16 + c * 2 ^ 8 + d := by
  have h1 : a * 2 ^ 24 % 2 ^ 32 = a * 2 ^ 24 := Nat.mod_eq_of_lt (by omega)
  have h2 : b * 2 ^ 16 % 2 ^ 32 = b * 2 ^ 16 := Nat.mod_eq_of_lt (by omega)
  have h3 : c * 2 ^ 8 % 2 ^ 32 = c * 2 ^ 8 := Nat.mod_eq_of_lt (by omega)
  have h4 : d * 2 ^ 0 % 2 ^ 32 = d := by rw [Nat.pow_zero, Nat.mul_one]; exact Nat.mod_eq_of_lt (by omega)
  have g1 : a * 2 ^ 24 ||| b * 2 ^ 16 = (a * 2 ^ 8 + b) * 2 ^ 16 := (or_add a (b * 2 ^ 16) 24 (by omega)).trans (by omega)
  have g2 : (a * 2 ^ 8 + b) * 2 ^ 16 ||| c * 2 ^ 8 = ((a * 2 ^ 8 + b) * 2 ^ 8 + c) * 2 ^ 8 := (or_add _ (c * 2 ^ 8) 16 (by omega)).trans (by omega)
  have g3 : ((a * 2 ^ 8 + b) * 2 ^ 8 + c) * 2 ^ 8 ||| d = a * 2 ^ 24 + b * 2 ^ 16 + c * 2 ^ 8 + d := (or_add _ d 8 (by omega)).trans (by omega)
  rw [h1, h2, h3, h4, Nat.zero_or, g1, g2, g3]
end Go.Proofs.Ytjkpfliaflmppaa.Rev

namespace Go.Proofs.Ytjkpfliaflmppaa.Rv
open Go Go.RowKit Go.Proofs.Ytjkpfliaflmppaa.Vm Go.Proofs.Ytjkpfliaflmppaa.Rev

theorem lut_c (b : Nat) (hb : b < 256) (M : Mem) : HP Try.prog 109 #[.int .u8 b] M (.int .u8 (T 8 b : Nat)) := by
  refine HP.of (HC_of_W (fn := Try.f109) Try.func109 rfl rfl rfl rfl ?_)
  repeat' (first | (refine isO ?_; first | refine oo (Pc rfl) ?_ | refine oo (Pa rfl (by omega) (by omega)) ?_ | (refine ob rfl ?_ ?_ <;> intro hq <;> try (exfalso; omega)) | refine oo (Pi rfl (by omega)) ?_ | refine oo (Pl rfl) ?_ | refine oo (Px rfl rfl) ?_ | refine oo (Pj rfl (by omega) (by omega)) ?_ | refine oo (Pk rfl (by omega) (by omega)) ?_ | refine oo (Pf rfl) ?_ | refine oo (Pv rfl (by omega) (by omega)) ?_ | refine oo (Pn rfl) ?_ | refine oo (Pm rfl) ?_ | refine os rfl rfl ?_ | refine ot rfl (by omega) ?_ | refine O_nil ?_) | refine wo rfl ?_ | refine wc rfl ?_ | refine wg rfl ?_ | refine go rfl ?_ | refine gc rfl ?_ | refine gg rfl ?_)
  refine O_pure (P_bits rfl rfl rfl) trivial rfl ?_
  refine O_pure (P_shr rfl rfl (by decide)) trivial rfl ?_
  repeat' (first | (refine isO ?_; first | refine oo (Pc rfl) ?_ | refine oo (Pa rfl (by omega) (by omega)) ?_ | (refine ob rfl ?_ ?_ <;> intro hq <;> try (exfalso; omega)) | refine oo (Pi rfl (by omega)) ?_ | refine oo (Pl rfl) ?_ | refine oo (Px rfl rfl) ?_ | refine oo (Pj rfl (by omega) (by omega)) ?_ | refine oo (Pk rfl (by omega) (by omega)) ?_ | refine oo (Pf rfl) ?_ | refine oo (Pv rfl (by omega) (by omega)) ?_ | refine oo (Pn rfl) ?_ | refine oo (Pm rfl) ?_ | refine os rfl rfl ?_ | refine ot rfl (by omega) ?_ | refine O_nil ?_) | refine wo rfl ?_ | refine wc rfl ?_ | refine wg rfl ?_ | refine go rfl ?_ | refine gc rfl ?_ | refine gg rfl ?_)
  refine O_pure (P_bits rfl rfl rfl) trivial rfl ?_
  refine O_pure (P_shl rfl rfl (by decide)) trivial rfl ?_
  refine O_pure (P_bits rfl rfl rfl) trivial rfl ?_
  repeat' (first | (refine isO ?_; first | refine oo (Pc rfl) ?_ | refine oo (Pa rfl (by omega) (by omega)) ?_ | (refine ob rfl ?_ ?_ <;> intro hq <;> try (exfalso; omega)) | refine oo (Pi rfl (by omega)) ?_ | refine oo (Pl rfl) ?_ | refine oo (Px rfl rfl) ?_ | refine oo (Pj rfl (by omega) (by omega)) ?_ | refine oo (Pk rfl (by omega) (by omega)) ?_ | refine oo (Pf rfl) ?_ | refine oo (Pv rfl (by omega) (by omega)) ?_ | refine oo (Pn rfl) ?_ | refine oo (Pm rfl) ?_ | refine os rfl rfl ?_ | refine ot rfl (by omega) ?_ | refine O_nil ?_) | refine wo rfl ?_ | refine wc rfl ?_ | refine wg rfl ?_ | refine go rfl ?_ | refine gc rfl ?_ | refine gg rfl ?_)
  refine O_pure (P_bits rfl rfl rfl) trivial rfl ?_
  refine O_pure (P_shr rfl rfl (by decide)) trivial rfl ?_
  repeat' (first | (refine isO ?_; first | refine oo (Pc rfl) ?_ | refine oo (Pa rfl (by omega) (by omega)) ?_ | (refine ob rfl ?_ ?_ <;> intro hq <;> try (exfalso; omega)) | refine oo (Pi rfl (by omega)) ?_ | refine oo (Pl rfl) ?_ | refine oo (Px rfl rfl) ?_ | refine oo (Pj rfl (by omega) (by omega)) ?_ | refine oo (Pk rfl (by omega) (by omega)) ?_ | refine oo (Pf rfl) ?_ | refine oo (Pv rfl (by omega) (by omega)) ?_ | refine oo (Pn rfl) ?_ | refine oo (Pm rfl) ?_ | refine os rfl rfl ?_ | refine ot rfl (by omega) ?_ | refine O_nil ?_) | refine wo rfl ?_ | refine wc rfl ?_ | refine wg rfl ?_ | refine go rfl ?_ | refine gc rfl ?_ | refine gg rfl ?_)
  refine O_pure (P_bits rfl rfl rfl) trivial rfl ?_
  refine O_pure (P_shl rfl rfl (by decide)) trivial rfl ?_
  refine O_pure (P_bits rfl rfl rfl) trivial rfl ?_
  repeat' (first | (refine isO ?_; first | refine oo (Pc rfl) ?_ | refine oo (Pa rfl (by omega) (by omega)) ?_ | (refine ob rfl ?_ ?_ <;> intro hq <;> try (exfalso; omega)) | refine oo (Pi rfl (by omega)) ?_ | refine oo (Pl rfl) ?_ | refine oo (Px rfl rfl) ?_ | refine oo (Pj rfl (by omega) (by omega)) ?_ | refine oo (Pk rfl (by omega) (by omega)) ?_ | refine oo (Pf rfl) ?_ | refine oo (Pv rfl (by omega) (by omega)) ?_ | refine oo (Pn rfl) ?_ | refine oo (Pm rfl) ?_ | refine os rfl rfl ?_ | refine ot rfl (by omega) ?_ | refine O_nil ?_) | refine wo rfl ?_ | refine wc rfl ?_ | refine wg rfl ?_ | refine go rfl ?_ | refine gc rfl ?_ | refine gg rfl ?_)
  refine O_pure (P_bits rfl rfl rfl) trivial rfl ?_
  refine O_pure (P_shr rfl rfl (by decide)) trivial rfl ?_
  repeat' (first | (refine isO ?_; first | refine oo (Pc rfl) ?_ | refine oo (Pa rfl (by omega) (by omega)) ?_ | (refine ob rfl ?_ ?_ <;> intro hq <;> try (exfalso; omega)) | refine oo (Pi rfl (by omega)) ?_ | refine oo (Pl rfl) ?_ | refine oo (Px rfl rfl) ?_ | refine oo (Pj rfl (by omega) (by omega)) ?_ | refine oo (Pk rfl (by omega) (by omega)) ?_ | refine oo (Pf rfl) ?_ | refine oo (Pv rfl (by omega) (by omega)) ?_ | refine oo (Pn rfl) ?_ | refine oo (Pm rfl) ?_ | refine os rfl rfl ?_ | refine ot rfl (by omega) ?_ | refine O_nil ?_) | refine wo rfl ?_ | refine wc rfl ?_ | refine wg rfl ?_ | refine go rfl ?_ | refine gc rfl ?_ | refine gg rfl ?_)
  refine O_pure (P_bits rfl rfl rfl) trivial rfl ?_
  refine O_pure (P_shl rfl rfl (by decide)) trivial rfl ?_
  refine O_pure (P_bits rfl rfl rfl) trivial rfl ?_
  repeat' (first | (refine isO ?_; first | refine oo (Pc rfl) ?_ | refine oo (Pa rfl (by omega) (by omega)) ?_ | (refine ob rfl ?_ ?_ <;> intro hq <;> try (exfalso; omega)) | refine oo (Pi rfl (by omega)) ?_ | refine oo (Pl rfl) ?_ | refine oo (Px rfl rfl) ?_ | refine oo (Pj rfl (by omega) (by omega)) ?_ | refine oo (Pk rfl (by omega) (by omega)) ?_ | refine oo (Pf rfl) ?_ | refine oo (Pv rfl (by omega) (by omega)) ?_ | refine oo (Pn rfl) ?_ | refine oo (Pm rfl) ?_ | refine os rfl rfl ?_ | refine ot rfl (by omega) ?_ | refine O_nil ?_) | refine wo rfl ?_ | refine wc rfl ?_ | refine wg rfl ?_ | refine go rfl ?_ | refine gc rfl ?_ | refine gg rfl ?_)
  refine G_fin ⟨_, rfl, congrArg (Value.int .u8) ?_⟩
  revert b
  decide +kernel

theorem T8_in (y : Nat) : inK .u32 ((T 8 y : Nat) : Int) := by
  have := T_lt 8 y
  exact inK_u32 (by omega) (by omega)

theorem rev32_c (x : Nat) (hx : x < 2 ^ 32) (M : Mem) : HP Try.prog 105 #[.int .u32 x] M (.int .u32 (T 32 x : Nat)) := by
  refine HP.of (HC_of_W (fn := Try.f105) Try.func105 rfl rfl rfl rfl ?_)
  repeat' (first | (refine isO ?_; first | refine oo (Pc rfl) ?_ | refine oo (Pa rfl (by omega) (by omega)) ?_ | (refine ob rfl ?_ ?_ <;> intro hq <;> try (exfalso; omega)) | refine oo (Pi rfl (by omega)) ?_ | refine oo (Pl rfl) ?_ | refine oo (Px rfl rfl) ?_ | refine oo (Pj rfl (by omega) (by omega)) ?_ | refine oo (Pk rfl (by omega) (by omega)) ?_ | refine oo (Pf rfl) ?_ | refine oo (Pv rfl (by omega) (by omega)) ?_ | refine oo (Pn rfl) ?_ | refine oo (Pm rfl) ?_ | refine os rfl rfl ?_ | refine ot rfl (by omega) ?_ | refine O_nil ?_) | refine wo rfl ?_ | refine wc rfl ?_ | refine wg rfl ?_ | refine go rfl ?_ | refine gc rfl ?_ | refine gg rfl ?_)
  refine O_pure (P_shrN (p := x) (q := 0) rfl rfl hx) trivial rfl ?_
  refine O_pure (P_convN Tb.u40 Tb.u5 rfl rfl) trivial rfl ?_
  refine O_callP rfl rfl Tb.k109 trivial rfl (lut_c _ (Nat.mod_lt _ (by decide)) _) ?_
  refine O_pure (P_convk Tb.u5 Tb.u40 rfl (T8_in _)) trivial rfl ?_
  refine O_pure (P_shlN (q := 24) rfl rfl rfl) trivial rfl ?_
  refine O_pure (P_bitN (p := 0) rfl rfl rfl rfl (by decide) (Nat.mod_lt _ (by decide))) trivial rfl ?_
  repeat' (first | (refine isO ?_; first | refine oo (Pc rfl) ?_ | refine oo (Pa rfl (by omega) (by omega)) ?_ | (refine ob rfl ?_ ?_ <;> intro hq <;> try (exfalso; omega)) | refine oo (Pi rfl (by omega)) ?_ | refine oo (Pl rfl) ?_ | refine oo (Px rfl rfl) ?_ | refine oo (Pj rfl (by omega) (by omega)) ?_ | refine oo (Pk rfl (by omega) (by omega)) ?_ | refine oo (Pf rfl) ?_ | refine oo (Pv rfl (by omega) (by omega)) ?_ | refine oo (Pn rfl) ?_ | refine oo (Pm rfl) ?_ | refine os rfl rfl ?_ | refine ot rfl (by omega) ?_ | refine O_nil ?_) | refine wo rfl ?_ | refine wc rfl ?_ | refine wg rfl ?_ | refine go rfl ?_ | refine gc rfl ?_ | refine gg rfl ?_)
  refine O_pure (P_shrN (p := x) (q := 8) rfl rfl hx) trivial rfl ?_
  refine O_pure (P_convN Tb.u40 Tb.u5 rfl rfl) trivial rfl ?_
  refine O_callP rfl rfl Tb.k109 trivial rfl (lut_c _ (Nat.mod_lt _ (by decide)) _) ?_
  refine O_pure (P_convk Tb.u5 Tb.u40 rfl (T8_in _)) trivial rfl ?_
  refine O_pure (P_shlN (q := 16) rfl rfl rfl) trivial rfl ?_
  refine O_pure (P_bitN rfl rfl rfl rfl (by first | exact Nat.or_lt_two_pow (by decide) (Nat.mod_lt _ (by decide)) | exact Nat.or_lt_two_pow (Nat.or_lt_two_pow (by decide) (Nat.mod_lt _ (by decide))) (Nat.mod_lt _ (by decide)) | exact Nat.or_lt_two_pow (Nat.or_lt_two_pow (Nat.or_lt_two_pow (by decide) (Nat.mod_lt _ (by decide))) (Nat.mod_lt _ (by decide))) (Nat.mod_lt _ (by decide))) (Nat.mod_lt _ (by decide))) trivial rfl ?_
  repeat' (first | (refine isO ?_; first | refine oo (Pc rfl) ?_ | refine oo (Pa rfl (by omega) (by omega)) ?_ | (refine ob rfl ?_ ?_ <;> intro hq <;> try (exfalso; omega)) | refine oo (Pi rfl (by omega)) ?_ | refine oo (Pl rfl) ?_ | refine oo (Px rfl rfl) ?_ | refine oo (Pj rfl (by omega) (by omega)) ?_ | refine oo (Pk rfl (by omega) (by omega)) ?_ | refine oo (Pf rfl) ?_ | refine oo (Pv rfl (by omega) (by omega)) ?_ | refine oo (Pn rfl) ?_ | refine oo (Pm rfl) ?_ | refine os rfl rfl ?_ | refine ot rfl (by omega) ?_ | refine O_nil ?_) | refine wo rfl ?_ | refine wc rfl ?_ | refine wg rfl ?_ | refine go rfl ?_ | refine gc rfl ?_ | refine gg rfl ?_)
  refine O_pure (P_shrN (p := x) (q := 16) rfl rfl hx) trivial rfl ?_
  refine O_pure (P_convN Tb.u40 Tb.u5 rfl rfl) trivial rfl ?_
  refine O_callP rfl rfl Tb.k109 trivial rfl (lut_c _ (Nat.mod_lt _ (by decide)) _) ?_
  refine O_pure (P_convk Tb.u5 Tb.u40 rfl (T8_in _)) trivial rfl ?_
  refine O_pure (P_shlN (q := 8) rfl rfl rfl) trivial rfl ?_
  refine O_pure (P_bitN rfl rfl rfl rfl (by first | exact Nat.or_lt_two_pow (by decide) (Nat.mod_lt _ (by decide)) | exact Nat.or_lt_two_pow (Nat.or_lt_two_pow (by decide) (Nat.mod_lt _ (by decide))) (Nat.mod_lt _ (by decide)) | exact Nat.or_lt_two_pow (Nat.or_lt_two_pow (Nat.or_lt_two_pow (by decide) (Nat.mod_lt _ (by decide))) (Nat.mod_lt _ (by decide))) (Nat.mod_lt _ (by decide))) (Nat.mod_lt _ (by decide))) trivial rfl ?_
  repeat' (first | (refine isO ?_; first | refine oo (Pc rfl) ?_ | refine oo (Pa rfl (by omega) (by omega)) ?_ | (refine ob rfl ?_ ?_ <;> intro hq <;> try (exfalso; omega)) | refine oo (Pi rfl (by omega)) ?_ | refine oo (Pl rfl) ?_ | refine oo (Px rfl rfl) ?_ | refine oo (Pj rfl (by omega) (by omega)) ?_ | refine oo (Pk rfl (by omega) (by omega)) ?_ | refine oo (Pf rfl) ?_ | refine oo (Pv rfl (by omega) (by omega)) ?_ | refine oo (Pn rfl) ?_ | refine oo (Pm rfl) ?_ | refine os rfl rfl ?_ | refine ot rfl (by omega) ?_ | refine O_nil ?_) | refine wo rfl ?_ | refine wc rfl ?_ | refine wg rfl ?_ | refine go rfl ?_ | refine gc rfl ?_ | refine gg rfl ?_)
  refine O_pure (P_shrN (p := x) (q := 24) rfl rfl hx) trivial rfl ?_
  refine O_pure (P_convN Tb.u40 Tb.u5 rfl rfl) trivial rfl ?_
  refine O_callP rfl rfl Tb.k109 trivial rfl (lut_c _ (Nat.mod_lt _ (by decide)) _) ?_
  refine O_pure (P_convk Tb.u5 Tb.u40 rfl (T8_in _)) trivial rfl ?_
  refine O_pure (P_shlN (q := 0) rfl rfl rfl) trivial rfl ?_
  refine O_pure (P_bitN rfl rfl rfl rfl (by first | exact Nat.or_lt_two_pow (by decide) (Nat.mod_lt _ (by decide)) | exact Nat.or_lt_two_pow (Nat.or_lt_two_pow (by decide) (Nat.mod_lt _ (by decide))) (Nat.mod_lt _ (by decide)) | exact Nat.or_lt_two_pow (Nat.or_lt_two_pow (Nat.or_lt_two_pow (by decide) (Nat.mod_lt _ (by decide))) (Nat.mod_lt _ (by decide))) (Nat.mod_lt _ (by decide))) (Nat.mod_lt _ (by decide))) trivial rfl ?_
  repeat' (first | (refine isO ?_; first | refine oo (Pc rfl) ?_ | refine oo (Pa rfl (by omega) (by omega)) ?_ | (refine ob rfl ?_ ?_ <;> intro hq <;> try (exfalso; omega)) | refine oo (Pi rfl (by omega)) ?_ | refine oo (Pl rfl) ?_ | refine oo (Px rfl rfl) ?_ | refine oo (Pj rfl (by omega) (by omega)) ?_ | refine oo (Pk rfl (by omega) (by omega)) ?_ | refine oo (Pf rfl) ?_ | refine oo (Pv rfl (by omega) (by omega)) ?_ | refine oo (Pn rfl) ?_ | refine oo (Pm rfl) ?_ | refine os rfl rfl ?_ | refine ot rfl (by omega) ?_ | refine O_nil ?_) | refine wo rfl ?_ | refine wc rfl ?_ | refine wg rfl ?_ | refine go rfl ?_ | refine gc rfl ?_ | refine gg rfl ?_)
  refine G_fin ⟨_, rfl, congrArg (Value.int .u32) (congrArg Nat.cast ?_)⟩
  refine (or4 _ _ _ _ (T_lt 8 _) (T_lt 8 _) (T_lt 8 _) (T_lt 8 _)).trans ?_
  rw [T_bytes x hx, Nat.pow_zero, Nat.div_one]

theorem rev32N_c (v n : Nat) (hn : 1 ≤ n) (hn2 : n ≤ 32) (hv : v < 2 ^ n) (M : Mem) : HP Try.prog 91 #[.int .u32 v, .int .u64 n] M (.int .u32 (T n v : Nat)) := by
  refine HP.of (HC_of_W (fn := Try.f91) Try.func91 rfl rfl rfl rfl ?_)
  repeat' (first | (refine isO ?_; first | refine oo (Pc rfl) ?_ | refine oo (Pa rfl (by omega) (by omega)) ?_ | (refine ob rfl ?_ ?_ <;> intro hq <;> try (exfalso; omega)) | refine oo (Pi rfl (by omega)) ?_ | refine oo (Pl rfl) ?_ | refine oo (Px rfl rfl) ?_ | refine oo (Pj rfl (by omega) (by omega)) ?_ | refine oo (Pk rfl (by omega) (by omega)) ?_ | refine oo (Pf rfl) ?_ | refine oo (Pv rfl (by omega) (by omega)) ?_ | refine oo (Pn rfl) ?_ | refine oo (Pm rfl) ?_ | refine os rfl rfl ?_ | refine ot rfl (by omega) ?_ | refine O_nil ?_) | refine wo rfl ?_ | refine wc rfl ?_ | refine wg rfl ?_ | refine go rfl ?_ | refine gc rfl ?_ | refine gg rfl ?_)
  refine O_pure (P_shlN (q := 32 - n) rfl (by simp only [ev, Env.get?]; rw [show (32 : Int) - n = ((32 - n : Nat) : Int) by omega]; rfl) rfl) trivial rfl ?_
  have hlt : v * 2 ^ (32 - n) < 2 ^ 32 := by
    have h1 : v * 2 ^ (32 - n) < 2 ^ n * 2 ^ (32 - n) := Nat.mul_lt_mul_of_pos_right hv (Nat.two_pow_pos _)
    rw [← Nat.pow_add, show n + (32 - n) = 32 by omega] at h1
    exact h1
  refine O_callP rfl rfl Tb.k105 trivial rfl (rev32_c _ (Nat.mod_lt _ (by decide)) _) ?_
  repeat' (first | (refine isO ?_; first | refine oo (Pc rfl) ?_ | refine oo (Pa rfl (by omega) (by omega)) ?_ | (refine ob rfl ?_ ?_ <;> intro hq <;> try (exfalso; omega)) | refine oo (Pi rfl (by omega)) ?_ | refine oo (Pl rfl) ?_ | refine oo (Px rfl rfl) ?_ | refine oo (Pj rfl (by omega) (by omega)) ?_ | refine oo (Pk rfl (by omega) (by omega)) ?_ | refine oo (Pf rfl) ?_ | refine oo (Pv rfl (by omega) (by omega)) ?_ | refine oo (Pn rfl) ?_ | refine oo (Pm rfl) ?_ | refine os rfl rfl ?_ | refine ot rfl (by omega) ?_ | refine O_nil ?_) | refine wo rfl ?_ | refine wc rfl ?_ | refine wg rfl ?_ | refine go rfl ?_ | refine gc rfl ?_ | refine gg rfl ?_)
  refine G_fin ⟨_, rfl, congrArg (Value.int .u32) (congrArg Nat.cast ?_)⟩
  show T 32 (v * 2 ^ (32 - n) % 2 ^ 32) = T n v
  rw [Nat.mod_eq_of_lt hlt]
  have := T_shift n (32 - n) v
  rw [show 32 - n + n = 32 by omega] at this
  exact this
end Go.Proofs.Ytjkpfliaflmppaa.Rv

/- Encoder.Init, walked: for codes whose symbols are numbered from 0 on. -/
import Derived.Test.YtjkpfliaflmppaaCodes
namespace Go.Proofs.Ytjkpfliaflmppaa.Pc
open Go Go.RowKit Go.Proofs.Ytjkpfliaflmppaa.Vm

theorem P_quoE {P : Program} {N : Fm} {E : Env} {M : Mem} {t t2 : TypeId} {x y : Operand} {k : IntKind} {X Y : Int} {p q : Nat} (hx : ev E x = some (.int k X)) (hy : ev E y = some (.int k Y)) (hX : X = (p : Int)) (hY : Y = (q : Int)) (hq : 0 < q) (h : inK k ((p / q : Nat) : Int)) :
    Pure P N E M (.binOp .quo t x y t2) (.int k ((p / q : Nat) : Int)) := by
  subst hX; subst hY
  constructor
  intro pr base w0 a w hA hS d ty pos after g
  have hw := wrap_id h.lo h.hi
  have hw' : k.wrap ((p : Int) / (q : Int)) = (p : Int) / (q : Int) := by rw [Int.natCast_ediv] at hw; exact hw
  have e : Int.tdiv (p : Int) (q : Int) = ((p / q : Nat) : Int) := rfl
  simp [execOp, hA.eval hx, hA.eval hy, Sem.run, pure, bind, Sem.bind, eqGuard, binOp, Op.intArith, Op.intDiv, e, hw', show q ≠ 0 by omega]

theorem info40 : (Try.prog.info? 40).map (fun i => (i.size, i.bytes, i.zero)) = some (1, 4, some (.int .u32 0)) := by kernel_rfl
theorem ints_rep (k : IntKind) (c : Nat) : List.replicate c (Value.int k 0) = ints k (List.replicate c 0) := by simp [ints]

theorem alloc96_c (n : Nat) (M : Mem) (h1 : 1 ≤ n) (h2 : n ≤ 1048576) : HC Try.prog 96 #[.slice none 0 0, .int .i64 n] M (fun v M' => ∃ b, v = .slice (some ⟨b, 0, none⟩) n (n * 3 / 2) ∧ Rk M' (⟨true, b, 0, ints .u32 (List.replicate (n * 3 / 2) 0)⟩ :: M)) := by
  obtain ⟨I, hI, hI1, hI2, hI3⟩ := of_info info40
  refine HC_of_W (fn := Try.f96) Try.func96 rfl rfl rfl rfl ?_
  repeat' (first | (refine isO ?_; first | refine oo (Pc rfl) ?_ | refine oo (Pa rfl (by omega) (by omega)) ?_ | (refine ob rfl ?_ ?_ <;> intro hq <;> try (exfalso; omega)) | refine oo (Pi rfl (by omega)) ?_ | refine oo (Pl rfl) ?_ | refine oo (Px rfl rfl) ?_ | refine oo (Pj rfl (by omega) (by omega)) ?_ | refine oo (Pk rfl (by omega) (by omega)) ?_ | refine oo (Pf rfl) ?_ | refine oo (Pv rfl (by omega) (by omega)) ?_ | refine oo (Pn rfl) ?_ | refine oo (Pm rfl) ?_ | refine os rfl rfl ?_ | refine ot rfl (by omega) ?_ | refine O_nil ?_) | refine wo rfl ?_ | refine wc rfl ?_ | refine wg rfl ?_ | refine go rfl ?_ | refine gc rfl ?_ | refine gg rfl ?_)
  refine O_pure (P_cap Tb.u46 rfl) trivial rfl ?_
  repeat' (first | (refine isO ?_; first | refine oo (Pc rfl) ?_ | refine oo (Pa rfl (by omega) (by omega)) ?_ | (refine ob rfl ?_ ?_ <;> intro hq <;> try (exfalso; omega)) | refine oo (Pi rfl (by omega)) ?_ | refine oo (Pl rfl) ?_ | refine oo (Px rfl rfl) ?_ | refine oo (Pj rfl (by omega) (by omega)) ?_ | refine oo (Pk rfl (by omega) (by omega)) ?_ | refine oo (Pf rfl) ?_ | refine oo (Pv rfl (by omega) (by omega)) ?_ | refine oo (Pn rfl) ?_ | refine oo (Pm rfl) ?_ | refine os rfl rfl ?_ | refine ot rfl (by omega) ?_ | refine O_nil ?_) | refine wo rfl ?_ | refine wc rfl ?_ | refine wg rfl ?_ | refine go rfl ?_ | refine gc rfl ?_ | refine gg rfl ?_)
  refine O_pure (P_quoE (p := n * 3) (q := 2) rfl rfl (by omega) rfl (by omega) (inK_i64 (by omega) (by omega))) trivial rfl ?_
  refine O_makeCap (n := n) (c := n * 3 / 2) Tb.u46 hI hI1 hI3 rfl rfl rfl (by omega) (by omega) (by rw [hI2]; omega) (by omega) trivial rfl fun b => ?_
  rw [ints_rep]
  repeat' (first | (refine isO ?_; first | refine oo (Pc rfl) ?_ | refine oo (Pa rfl (by omega) (by omega)) ?_ | (refine ob rfl ?_ ?_ <;> intro hq <;> try (exfalso; omega)) | refine oo (Pi rfl (by omega)) ?_ | refine oo (Pl rfl) ?_ | refine oo (Px rfl rfl) ?_ | refine oo (Pj rfl (by omega) (by omega)) ?_ | refine oo (Pk rfl (by omega) (by omega)) ?_ | refine oo (Pf rfl) ?_ | refine oo (Pv rfl (by omega) (by omega)) ?_ | refine oo (Pn rfl) ?_ | refine oo (Pm rfl) ?_ | refine os rfl rfl ?_ | refine ot rfl (by omega) ?_ | refine O_nil ?_) | refine wo rfl ?_ | refine wc rfl ?_ | refine wg rfl ?_ | refine go rfl ?_ | refine gc rfl ?_ | refine gg rfl ?_)
  exact G_fin ⟨_, rfl, b, rfl, .rfl⟩

theorem wr_rep (c : Nat) (z : Int) : wr (List.replicate c 0) z 0 = List.replicate c 0 := by
  unfold wr
  apply List.ext_getElem
  · simp
  · intro i h1 h2
    simp only [List.getElem_set, List.getElem_replicate]
    split <;> rfl
theorem rd_wr {l : List Int} {p v : Int} {k : Nat} (hl : p.toNat < l.length) : (wr l p v).getD k 0 = if k = p.toNat then v else l.getD k 0 := by
  unfold wr
  rw [List.getD_eq_getElem?_getD, List.getD_eq_getElem?_getD, List.getElem?_set]
  by_cases h : k = p.toNat
  · subst h; simp [hl]
  · rw [if_neg (fun e => h e.symm), if_neg h]

/-- What a code's cell of the encoder's table holds. -/
def chunkOf (c : Cd) : Nat := c.val * 32 ||| c.len
/-- Codes that are numbered from 0 on. -/
structure Numbered (cs : List Cd) : Prop where
  two : 2 ≤ cs.length
  most : cs.length ≤ 60
  sym : ∀ i, i < cs.length → (cs.getD i Cd.zero).sym = i
  len : ∀ i, i < cs.length → 1 ≤ (cs.getD i Cd.zero).len ∧ (cs.getD i Cd.zero).len ≤ 20
  val : ∀ i, i < cs.length → (cs.getD i Cd.zero).val < 1048576

theorem cd_eta {c : Cd} {x : Nat} (h : c.sym = x) : c = ⟨x, c.cnt, c.len, c.val⟩ := by subst h; rfl
/-- The encoder's row and its table. -/
def EncR (eb n j cb cc : Nat) : Sg := ⟨true, eb, 0, [.slice (some ⟨cb, 0, none⟩) (2 ^ j) cc, .int .u32 (2 ^ j - 1 : Nat), .int .u32 n]⟩
def EncT (cs : List Cd) (j cc : Nat) (ch : List Int) : Prop := j ≤ 6 ∧ cs.length ≤ 2 ^ j ∧ 2 ^ j ≤ cc ∧ ch.length = cc ∧ ∀ i, i < cs.length → ch.getD i 0 = chunkOf (cs.getD i Cd.zero)

theorem and_mask {i j : Nat} (h : i < 2 ^ j) : i &&& (2 ^ j - 1) = i := by
  rw [Nat.and_two_pow_sub_one_eq_mod]; exact Nat.mod_eq_of_lt h
theorem pow6 {j : Nat} (h : j ≤ 6) : 2 ^ j ≤ 64 ∧ 1 ≤ 2 ^ j := ⟨Nat.pow_le_pow_right (n := 2) (by omega) h, Nat.two_pow_pos _⟩

set_option maxHeartbeats 1000000 in
theorem enc52_c (cs : List Cd) (hN : Numbered cs) (eb b cap : Nat) (own : Bool) (sp : List Value) (M : Mem) :
    HC Try.prog 52 #[.pointer (some ⟨eb, 0, none⟩), .slice (some ⟨b, 0, none⟩) cs.length cap] (⟨true, eb, 0, [.slice none 0 0, .int .u32 0, .int .u32 0]⟩ :: ⟨own, b, 0, codesV cs ++ sp⟩ :: M)
      (fun _ M' => ∃ j cb cc ch, EncT cs j cc ch ∧ Rk M' (EncR eb cs.length j cb cc :: ⟨true, cb, 0, ints .u32 ch⟩ :: ⟨own, b, 0, codesV cs ++ sp⟩ :: M)) := by
  have h2 := hN.two
  have h60 := hN.most
  refine HC_of_W (fn := Try.f52) Try.func52 rfl rfl rfl rfl ?_
  repeat' (first | (refine isO ?_; first | refine oo (Pc rfl) ?_ | refine oo (Pa rfl (by omega) (by omega)) ?_ | (refine ob rfl ?_ ?_ <;> intro hq <;> try (exfalso; omega)) | refine oo (Pi rfl (by omega)) ?_ | refine oo (Pl rfl) ?_ | refine oo (Px rfl rfl) ?_ | refine oo (Pj rfl (by omega) (by omega)) ?_ | refine oo (Pk rfl (by omega) (by omega)) ?_ | refine oo (Pf rfl) ?_ | refine oo (Pv rfl (by omega) (by omega)) ?_ | refine oo (Pn rfl) ?_ | refine oo (Pm rfl) ?_ | refine os rfl rfl ?_ | refine ot rfl (by omega) ?_ | refine O_nil ?_) | refine wo rfl ?_ | refine wc rfl ?_ | refine wg rfl ?_ | refine go rfl ?_ | refine gc rfl ?_ | refine gg rfl ?_)
  refine W_scope (α := Unit) 0 rfl (fun _ => []) (fun _ => []) (fun _ => False) (fun _ => 0) ?_ (fun _ h => h.elim)
  repeat' (first | (refine isO ?_; first | refine oo (Pc rfl) ?_ | refine oo (Pa rfl (by omega) (by omega)) ?_ | (refine ob rfl ?_ ?_ <;> intro hq <;> try (exfalso; omega)) | refine oo (Pi rfl (by omega)) ?_ | refine oo (Pl rfl) ?_ | refine oo (Px rfl rfl) ?_ | refine oo (Pj rfl (by omega) (by omega)) ?_ | refine oo (Pk rfl (by omega) (by omega)) ?_ | refine oo (Pf rfl) ?_ | refine oo (Pv rfl (by omega) (by omega)) ?_ | refine oo (Pn rfl) ?_ | refine oo (Pm rfl) ?_ | refine os rfl rfl ?_ | refine ot rfl (by omega) ?_ | refine O_nil ?_) | refine wo rfl ?_ | refine wc rfl ?_ | refine wg rfl ?_ | refine go rfl ?_ | refine gc rfl ?_ | refine gg rfl ?_)
  refine W_loop (α := Nat) (fun j => [(0, .pointer (some ⟨eb, 0, none⟩)), (1, .slice (some ⟨b, 0, none⟩) cs.length cap), (4, .int .i64 (2 ^ j : Nat)), (5, .int .i64 ((cs.length - 1) / 2 ^ j : Nat))])
    (fun _ => ⟨true, eb, 0, [.slice none 0 0, .int .u32 0, .int .u32 0]⟩ :: ⟨own, b, 0, codesV cs ++ sp⟩ :: M) (fun j => j ≤ 6) (fun j => 6 - j) 0 (by omega) ⟨rfl, rfl, rfl, congrArg (fun q => some (Value.int .i64 q)) (by simp; omega), trivial⟩ .rfl ?_
  intro j hj
  try dsimp only
  have hp := pow6 hj
  repeat' (first | (refine isO ?_; first | refine oo (Pc rfl) ?_ | refine oo (Pa rfl (by omega) (by omega)) ?_ | (refine ob rfl ?_ ?_ <;> intro hq <;> try (exfalso; omega)) | refine oo (Pi rfl (by omega)) ?_ | refine oo (Pl rfl) ?_ | refine oo (Px rfl rfl) ?_ | refine oo (Pj rfl (by omega) (by omega)) ?_ | refine oo (Pk rfl (by omega) (by omega)) ?_ | refine oo (Pf rfl) ?_ | refine oo (Pv rfl (by omega) (by omega)) ?_ | refine oo (Pn rfl) ?_ | refine oo (Pm rfl) ?_ | refine os rfl rfl ?_ | refine ot rfl (by omega) ?_ | refine O_nil ?_) | refine wo rfl ?_ | refine wc rfl ?_ | refine wg rfl ?_ | refine go rfl ?_ | refine gc rfl ?_ | refine gg rfl ?_)
  · have hj5 : j ≤ 5 := by
      by_cases h6 : j = 6
      · subst h6
        have : (cs.length - 1) / 2 ^ 6 = 0 := Nat.div_eq_of_lt (by omega)
        omega
      · omega
    refine O_pure (P_is (P_shl (p := (2 ^ j : Nat)) (q := 1) rfl rfl (by omega)) (congrArg (Value.int .i64) (?_ : _ = ((2 ^ (j + 1) : Nat) : Int)))) trivial rfl ?_
    · show IntKind.i64.wrap (((2 ^ j : Nat) : Int) * 2 ^ min 1 64) = _
      have e : ((2 ^ j : Nat) : Int) * 2 ^ min 1 64 = ((2 ^ (j + 1) : Nat) : Int) := by rw [Nat.pow_succ]; simp
      rw [e]
      have := pow6 (show j + 1 ≤ 6 by omega)
      exact wrap_id (show (-9223372036854775808 : Int) ≤ _ by omega) (show _ ≤ (9223372036854775807 : Int) by omega)
    repeat' (first | (refine isO ?_; first | refine oo (Pc rfl) ?_ | refine oo (Pa rfl (by omega) (by omega)) ?_ | (refine ob rfl ?_ ?_ <;> intro hq <;> try (exfalso; omega)) | refine oo (Pi rfl (by omega)) ?_ | refine oo (Pl rfl) ?_ | refine oo (Px rfl rfl) ?_ | refine oo (Pj rfl (by omega) (by omega)) ?_ | refine oo (Pk rfl (by omega) (by omega)) ?_ | refine oo (Pf rfl) ?_ | refine oo (Pv rfl (by omega) (by omega)) ?_ | refine oo (Pn rfl) ?_ | refine oo (Pm rfl) ?_ | refine os rfl rfl ?_ | refine ot rfl (by omega) ?_ | refine O_nil ?_) | refine wo rfl ?_ | refine wc rfl ?_ | refine wg rfl ?_ | refine go rfl ?_ | refine gc rfl ?_ | refine gg rfl ?_)
    have hlt : (cs.length - 1) / 2 ^ j ≤ cs.length - 1 := Nat.div_le_self _ _
    refine O_pure (P_shrE (p := (cs.length - 1) / 2 ^ j) (q := 1) (r := (cs.length - 1) / 2 ^ (j + 1)) rfl rfl (by simp only [IntKind.bits]; omega) (by rw [Nat.div_div_eq_div_mul, ← Nat.pow_add])) trivial rfl ?_
    repeat' (first | (refine isO ?_; first | refine oo (Pc rfl) ?_ | refine oo (Pa rfl (by omega) (by omega)) ?_ | (refine ob rfl ?_ ?_ <;> intro hq <;> try (exfalso; omega)) | refine oo (Pi rfl (by omega)) ?_ | refine oo (Pl rfl) ?_ | refine oo (Px rfl rfl) ?_ | refine oo (Pj rfl (by omega) (by omega)) ?_ | refine oo (Pk rfl (by omega) (by omega)) ?_ | refine oo (Pf rfl) ?_ | refine oo (Pv rfl (by omega) (by omega)) ?_ | refine oo (Pn rfl) ?_ | refine oo (Pm rfl) ?_ | refine os rfl rfl ?_ | refine ot rfl (by omega) ?_ | refine O_nil ?_) | refine wo rfl ?_ | refine wc rfl ?_ | refine wg rfl ?_ | refine go rfl ?_ | refine gc rfl ?_ | refine gg rfl ?_)
    exact G_stop ⟨j + 1, by omega, by omega, ⟨rfl, rfl, rfl, rfl, trivial⟩, .rfl⟩
  have hnj : cs.length ≤ 2 ^ j := by
    have h0 : (cs.length - 1) / 2 ^ j = 0 := Nat.le_zero.1 (Int.ofNat_le.1 hq)
    have := (Nat.div_eq_zero_iff).1 h0
    omega
  repeat' (first | (refine isO ?_; first | refine oo (Pc rfl) ?_ | refine oo (Pa rfl (by omega) (by omega)) ?_ | (refine ob rfl ?_ ?_ <;> intro hq <;> try (exfalso; omega)) | refine oo (Pi rfl (by omega)) ?_ | refine oo (Pl rfl) ?_ | refine oo (Px rfl rfl) ?_ | refine oo (Pj rfl (by omega) (by omega)) ?_ | refine oo (Pk rfl (by omega) (by omega)) ?_ | refine oo (Pf rfl) ?_ | refine oo (Pv rfl (by omega) (by omega)) ?_ | refine oo (Pn rfl) ?_ | refine oo (Pm rfl) ?_ | refine os rfl rfl ?_ | refine ot rfl (by omega) ?_ | refine O_nil ?_) | refine wo rfl ?_ | refine wc rfl ?_ | refine wg rfl ?_ | refine go rfl ?_ | refine gc rfl ?_ | refine gg rfl ?_)
  refine O_call rfl rfl Tb.k96 trivial rfl (alloc96_c (2 ^ j) _ (by omega) (by omega)) ?_
  rintro _ M' ⟨cb, rfl, hrk⟩
  refine O_weak hrk ?_
  clear hrk
  have hcc : 2 ^ j ≤ 2 ^ j * 3 / 2 := by omega
  generalize 2 ^ j * 3 / 2 = cc at *
  repeat' (first | (refine isO ?_; first | refine oo (Pc rfl) ?_ | refine oo (Pa rfl (by omega) (by omega)) ?_ | (refine ob rfl ?_ ?_ <;> intro hq <;> try (exfalso; omega)) | refine oo (Pi rfl (by omega)) ?_ | refine oo (Pl rfl) ?_ | refine oo (Px rfl rfl) ?_ | refine oo (Pj rfl (by omega) (by omega)) ?_ | refine oo (Pk rfl (by omega) (by omega)) ?_ | refine oo (Pf rfl) ?_ | refine oo (Pv rfl (by omega) (by omega)) ?_ | refine oo (Pn rfl) ?_ | refine oo (Pm rfl) ?_ | refine os rfl rfl ?_ | refine ot rfl (by omega) ?_ | refine O_nil ?_) | refine wo rfl ?_ | refine wc rfl ?_ | refine wg rfl ?_ | refine go rfl ?_ | refine gc rfl ?_ | refine gg rfl ?_)
  rw [show ((2 ^ j : Nat) : Int) - 1 = ((2 ^ j - 1 : Nat) : Int) by omega]
  refine W_loop (α := Nat) (fun i => [(0, .pointer (some ⟨eb, 0, none⟩)), (1, .slice (some ⟨b, 0, none⟩) cs.length cap), (111, .int .i64 (2 ^ j : Nat)), (112, .int .i64 i)])
    (fun _ => ⟨true, eb, 0, [.slice (some ⟨cb, 0, none⟩) (2 ^ j) cc, .int .u32 (2 ^ j - 1 : Nat), .int .u32 cs.length]⟩ :: ⟨true, cb, 0, ints .u32 (List.replicate cc 0)⟩ :: ⟨own, b, 0, codesV cs ++ sp⟩ :: M) (fun i => i ≤ 2 ^ j) (fun i => 2 ^ j - i) 0 (by omega) ⟨rfl, rfl, rfl, rfl, trivial⟩ (by repeat (first | exact .rfl | exact .nil | (apply Rk.cons; (· exact TakeI.out)) | refine .drop ?_)) ?_
  · intro i hi
    try dsimp only
    have hcl : (List.replicate cc (0 : Int)).length = cc := List.length_replicate
    repeat' (first | (refine isO ?_; first | refine oo (Pc rfl) ?_ | refine oo (Pa rfl (by omega) (by omega)) ?_ | (refine ob rfl ?_ ?_ <;> intro hq <;> try (exfalso; omega)) | refine oo (Pi rfl (by omega)) ?_ | refine oo (Pl rfl) ?_ | refine oo (Px rfl rfl) ?_ | refine oo (Pj rfl (by omega) (by omega)) ?_ | refine oo (Pk rfl (by omega) (by omega)) ?_ | refine oo (Pf rfl) ?_ | refine oo (Pv rfl (by omega) (by omega)) ?_ | refine oo (Pn rfl) ?_ | refine oo (Pm rfl) ?_ | refine os rfl rfl ?_ | refine ot rfl (by omega) ?_ | refine O_nil ?_) | refine wo rfl ?_ | refine wc rfl ?_ | refine wg rfl ?_ | refine go rfl ?_ | refine gc rfl ?_ | refine gg rfl ?_)
    · rw [wr_rep]
      repeat' (first | (refine isO ?_; first | refine oo (Pc rfl) ?_ | refine oo (Pa rfl (by omega) (by omega)) ?_ | (refine ob rfl ?_ ?_ <;> intro hq <;> try (exfalso; omega)) | refine oo (Pi rfl (by omega)) ?_ | refine oo (Pl rfl) ?_ | refine oo (Px rfl rfl) ?_ | refine oo (Pj rfl (by omega) (by omega)) ?_ | refine oo (Pk rfl (by omega) (by omega)) ?_ | refine oo (Pf rfl) ?_ | refine oo (Pv rfl (by omega) (by omega)) ?_ | refine oo (Pn rfl) ?_ | refine oo (Pm rfl) ?_ | refine os rfl rfl ?_ | refine ot rfl (by omega) ?_ | refine O_nil ?_) | refine wo rfl ?_ | refine wc rfl ?_ | refine wg rfl ?_ | refine go rfl ?_ | refine gc rfl ?_ | refine gg rfl ?_)
      exact G_stop ⟨i + 1, by omega, by omega, ⟨rfl, rfl, rfl, rfl, trivial⟩, by repeat (first | exact .rfl | exact .nil | (apply Rk.cons; (· exact TakeI.out)) | refine .drop ?_)⟩
    refine W_loop (α := Nat × List Int) (fun x => [(0, .pointer (some ⟨eb, 0, none⟩)), (122, .slice (some ⟨b, 0, none⟩) cs.length cap), (123, .int .i64 cs.length), (124, .int .i64 x.1)])
      (fun x => ⟨true, eb, 0, [.slice (some ⟨cb, 0, none⟩) (2 ^ j) cc, .int .u32 (2 ^ j - 1 : Nat), .int .u32 cs.length]⟩ :: ⟨true, cb, 0, ints .u32 x.2⟩ :: ⟨own, b, 0, codesV cs ++ sp⟩ :: M)
      (fun x => x.1 ≤ cs.length ∧ x.2.length = cc ∧ (∀ i, i < x.1 → x.2.getD i 0 = chunkOf (cs.getD i Cd.zero)) ∧ ∀ i, x.1 ≤ i → x.2.getD i 0 = 0) (fun x => cs.length - x.1)
      (0, List.replicate cc 0) ⟨by omega, hcl, fun i h => by omega, fun i _ => ?_⟩ ⟨rfl, rfl, rfl, rfl, trivial⟩ .rfl ?_
    · by_cases h : i < cc
      · simp [h]
      · simp [h]
    rintro ⟨x, ch⟩ ⟨hx, hch, hdone, hrest⟩
    dsimp only at hx hch hdone hrest ⊢
    repeat' (first | (refine isO ?_; first | refine oo (Pc rfl) ?_ | refine oo (Pa rfl (by omega) (by omega)) ?_ | (refine ob rfl ?_ ?_ <;> intro hq <;> try (exfalso; omega)) | refine oo (Pi rfl (by omega)) ?_ | refine oo (Pl rfl) ?_ | refine oo (Px rfl rfl) ?_ | refine oo (Pj rfl (by omega) (by omega)) ?_ | refine oo (Pk rfl (by omega) (by omega)) ?_ | refine oo (Pf rfl) ?_ | refine oo (Pv rfl (by omega) (by omega)) ?_ | refine oo (Pn rfl) ?_ | refine oo (Pm rfl) ?_ | refine os rfl rfl ?_ | refine ot rfl (by omega) ?_ | refine O_nil ?_) | refine wo rfl ?_ | refine wc rfl ?_ | refine wg rfl ?_ | refine go rfl ?_ | refine gc rfl ?_ | refine gg rfl ?_)
    · have hxl : x < cs.length := by omega
      have hsym := hN.sym x hxl
      have hlen := hN.len x hxl
      have hval := hN.val x hxl
      have hcell : (cs.getD x Cd.zero) = ⟨x, (cs.getD x Cd.zero).cnt, (cs.getD x Cd.zero).len, (cs.getD x Cd.zero).val⟩ := cd_eta hsym
      have hk : chunkOf (cs.getD x Cd.zero) = (cs.getD x Cd.zero).val * 32 ||| (cs.getD x Cd.zero).len := rfl
      have hblk := codesV_lit' cs sp x hxl hcell
      generalize (cs.getD x Cd.zero).val = v at *
      generalize (cs.getD x Cd.zero).len = n at *
      generalize (cs.getD x Cd.zero).cnt = cn at *
      have hand := and_mask (show x < 2 ^ j by omega)
      have hz : rd ch (x : Int) = 0 := by unfold rd; rw [Int.toNat_natCast]; exact hrest x (Nat.le_refl _)
      refine O_pure (P_loadAggAt (o := 0) (i := x * 4) (cs := [.int .u32 x, .int .u32 cn, .int .u32 n, .int .u32 v]) Tb.a146 Tb.c146 (by decide) rfl (by omega) (.tail _ (.tail _ (.head _))) (by rw [List.length_append, codesV_length]; omega) hblk) trivial rfl ?_
      refine O_alloc zero146 trivial rfl fun bx => ?_
      refine O_storeAgg0 Tb.c146 (by decide) rfl rfl rfl (lit_one _ _ _ _) trivial .head rfl ?_
      repeat' (first | (refine isO ?_; first | refine oo (Pc rfl) ?_ | refine oo (Pa rfl (by omega) (by omega)) ?_ | (refine ob rfl ?_ ?_ <;> intro hq <;> try (exfalso; omega)) | refine oo (Pi rfl (by omega)) ?_ | refine oo (Pl rfl) ?_ | refine oo (Px rfl rfl) ?_ | refine oo (Pj rfl (by omega) (by omega)) ?_ | refine oo (Pk rfl (by omega) (by omega)) ?_ | refine oo (Pf rfl) ?_ | refine oo (Pv rfl (by omega) (by omega)) ?_ | refine oo (Pn rfl) ?_ | refine oo (Pm rfl) ?_ | refine os rfl rfl ?_ | refine ot rfl (by omega) ?_ | refine O_nil ?_) | refine wo rfl ?_ | refine wc rfl ?_ | refine wg rfl ?_ | refine go rfl ?_ | refine gc rfl ?_ | refine gg rfl ?_)
      refine W_region_still Tb.mixed (by kernel_rfl) ?_
      repeat' (first | (refine isS ?_; first | refine ss (Pc rfl) ?_ | refine ss (Pa rfl (by omega) (by omega)) ?_ | (refine sb rfl ?_ ?_ <;> intro hq <;> try (exfalso; omega)) | refine ss (Pi rfl (by omega)) ?_ | refine ss (Pl rfl) ?_ | refine ss (Px rfl rfl) ?_ | refine ss (Pj rfl (by omega) (by omega)) ?_ | refine ss (Pk rfl (by omega) (by omega)) ?_ | refine ss (Pf rfl) ?_ | refine ss (Pv rfl (by omega) (by omega)) ?_ | refine ss (Pn rfl) ?_ | refine ss (Pm rfl) ?_ | refine OS_nil ?_))
      refine OS_pure (P_is (P_bitN (p := x) (q := 2 ^ j - 1) rfl rfl rfl rfl (by simp only [IntKind.bits]; omega) (by simp only [IntKind.bits]; omega)) (congrArg (fun y : Nat => Value.int .u32 (y : Int)) hand)) trivial rfl ?_
      repeat' (first | (refine isS ?_; first | refine ss (Pc rfl) ?_ | refine ss (Pa rfl (by omega) (by omega)) ?_ | (refine sb rfl ?_ ?_ <;> intro hq <;> try (exfalso; omega)) | refine ss (Pi rfl (by omega)) ?_ | refine ss (Pl rfl) ?_ | refine ss (Px rfl rfl) ?_ | refine ss (Pj rfl (by omega) (by omega)) ?_ | refine ss (Pk rfl (by omega) (by omega)) ?_ | refine ss (Pf rfl) ?_ | refine ss (Pv rfl (by omega) (by omega)) ?_ | refine ss (Pn rfl) ?_ | refine ss (Pm rfl) ?_ | refine OS_nil ?_))
      repeat' (first | (refine isO ?_; first | refine oo (Pc rfl) ?_ | refine oo (Pa rfl (by omega) (by omega)) ?_ | (refine ob rfl ?_ ?_ <;> intro hq <;> try (exfalso; omega)) | refine oo (Pi rfl (by omega)) ?_ | refine oo (Pl rfl) ?_ | refine oo (Px rfl rfl) ?_ | refine oo (Pj rfl (by omega) (by omega)) ?_ | refine oo (Pk rfl (by omega) (by omega)) ?_ | refine oo (Pf rfl) ?_ | refine oo (Pv rfl (by omega) (by omega)) ?_ | refine oo (Pn rfl) ?_ | refine oo (Pm rfl) ?_ | refine os rfl rfl ?_ | refine ot rfl (by omega) ?_ | refine O_nil ?_) | refine wo rfl ?_ | refine wc rfl ?_ | refine wg rfl ?_ | refine go rfl ?_ | refine gc rfl ?_ | refine gg rfl ?_)
      refine W_region_tail 18 Tb.mixed (by kernel_rfl) ?_
      simp only [List.take_succ_cons, List.take_zero, List.drop_succ_cons, List.drop_zero]
      repeat' (first | (refine isS ?_; first | refine ss (Pc rfl) ?_ | refine ss (Pa rfl (by omega) (by omega)) ?_ | (refine sb rfl ?_ ?_ <;> intro hq <;> try (exfalso; omega)) | refine ss (Pi rfl (by omega)) ?_ | refine ss (Pl rfl) ?_ | refine ss (Px rfl rfl) ?_ | refine ss (Pj rfl (by omega) (by omega)) ?_ | refine ss (Pk rfl (by omega) (by omega)) ?_ | refine ss (Pf rfl) ?_ | refine ss (Pv rfl (by omega) (by omega)) ?_ | refine ss (Pn rfl) ?_ | refine ss (Pm rfl) ?_ | refine OS_nil ?_))
      refine OS_pure (P_is (P_bitN (p := x) (q := 2 ^ j - 1) rfl rfl rfl rfl (by simp only [IntKind.bits]; omega) (by simp only [IntKind.bits]; omega)) (congrArg (fun y : Nat => Value.int .u32 (y : Int)) hand)) trivial rfl ?_
      repeat' (first | (refine isS ?_; first | refine ss (Pc rfl) ?_ | refine ss (Pa rfl (by omega) (by omega)) ?_ | (refine sb rfl ?_ ?_ <;> intro hq <;> try (exfalso; omega)) | refine ss (Pi rfl (by omega)) ?_ | refine ss (Pl rfl) ?_ | refine ss (Px rfl rfl) ?_ | refine ss (Pj rfl (by omega) (by omega)) ?_ | refine ss (Pk rfl (by omega) (by omega)) ?_ | refine ss (Pf rfl) ?_ | refine ss (Pv rfl (by omega) (by omega)) ?_ | refine ss (Pn rfl) ?_ | refine ss (Pm rfl) ?_ | refine OS_nil ?_))
      refine OS_pure (P_shlE (p := v) (q := 5) (r := v * 32) rfl rfl rfl (Nat.mod_eq_of_lt (by simp only [IntKind.bits]; omega))) trivial rfl ?_
      repeat' (first | (refine isS ?_; first | refine ss (Pc rfl) ?_ | refine ss (Pa rfl (by omega) (by omega)) ?_ | (refine sb rfl ?_ ?_ <;> intro hq <;> try (exfalso; omega)) | refine ss (Pi rfl (by omega)) ?_ | refine ss (Pl rfl) ?_ | refine ss (Px rfl rfl) ?_ | refine ss (Pj rfl (by omega) (by omega)) ?_ | refine ss (Pk rfl (by omega) (by omega)) ?_ | refine ss (Pf rfl) ?_ | refine ss (Pv rfl (by omega) (by omega)) ?_ | refine ss (Pn rfl) ?_ | refine ss (Pm rfl) ?_ | refine OS_nil ?_))
      refine OS_pure (P_bitN (p := v * 32) (q := n) rfl rfl rfl rfl (by simp only [IntKind.bits]; omega) (by simp only [IntKind.bits]; omega)) trivial rfl ?_
      repeat' (first | (refine isS ?_; first | refine ss (Pc rfl) ?_ | refine ss (Pa rfl (by omega) (by omega)) ?_ | (refine sb rfl ?_ ?_ <;> intro hq <;> try (exfalso; omega)) | refine ss (Pi rfl (by omega)) ?_ | refine ss (Pl rfl) ?_ | refine ss (Px rfl rfl) ?_ | refine ss (Pj rfl (by omega) (by omega)) ?_ | refine ss (Pk rfl (by omega) (by omega)) ?_ | refine ss (Pf rfl) ?_ | refine ss (Pv rfl (by omega) (by omega)) ?_ | refine ss (Pn rfl) ?_ | refine ss (Pm rfl) ?_ | refine OS_nil ?_))
      repeat' (first | (refine isO ?_; first | refine oo (Pc rfl) ?_ | refine oo (Pa rfl (by omega) (by omega)) ?_ | (refine ob rfl ?_ ?_ <;> intro hq <;> try (exfalso; omega)) | refine oo (Pi rfl (by omega)) ?_ | refine oo (Pl rfl) ?_ | refine oo (Px rfl rfl) ?_ | refine oo (Pj rfl (by omega) (by omega)) ?_ | refine oo (Pk rfl (by omega) (by omega)) ?_ | refine oo (Pf rfl) ?_ | refine oo (Pv rfl (by omega) (by omega)) ?_ | refine oo (Pn rfl) ?_ | refine oo (Pm rfl) ?_ | refine os rfl rfl ?_ | refine ot rfl (by omega) ?_ | refine O_nil ?_) | refine wo rfl ?_ | refine wc rfl ?_ | refine wg rfl ?_ | refine go rfl ?_ | refine gc rfl ?_ | refine gg rfl ?_)
      have hxc : (x : Int).toNat < ch.length := by omega
      refine G_stop ⟨(x + 1, wr ch x (v * 32 ||| n : Nat)), ⟨by dsimp only; omega, by rw [wr_length]; exact hch, fun i hi => ?_, fun i hi => ?_⟩, by dsimp only; omega, ⟨rfl, rfl, rfl, rfl, trivial⟩, by dsimp only; repeat (first | exact .rfl | exact .nil | (apply Rk.cons; (· exact TakeI.out)) | refine .drop ?_)⟩
      · rw [rd_wr hxc]
        split
        · rename_i h; rw [Int.toNat_natCast] at h; subst h; rw [hk]
        · rename_i h; exact hdone i (by dsimp only at hi; omega)
      · rw [rd_wr hxc]
        split
        · rename_i h; dsimp only at hi; omega
        · exact hrest i (by dsimp only at hi; omega)
    · obtain rfl : x = cs.length := by omega
      refine G_leave (fun _ h => by cases h) ?_
      exact G_fin ⟨_, rfl, j, cb, cc, ch, ⟨hj, hnj, hcc, hch, hdone⟩, .rfl⟩
end Go.Proofs.Ytjkpfliaflmppaa.Pc

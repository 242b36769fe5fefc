/- impl.CodeNumbers and laws.FnCodeNumbers, walked: it is true, for any bytes. -/
import Derived.Test.YtjkpfliaflmppaaDe
import Derived.Test.YtjkpfliaflmppaaFree
import Derived.Test.YtjkpfliaflmppaaGv
import Derived.Test.YtjkpfliaflmppaaAw
namespace Go.Proofs.Ytjkpfliaflmppaa.Pc
open Go Go.RowKit Go.Proofs.Ytjkpfliaflmppaa.Vm Go.Proofs.Ytjkpfliaflmppaa.Sf

theorem zero40' : zeroOf Try.prog 40 = some [.int .u32 0] := by kernel_rfl
theorem zero103' : zeroOf Try.prog 103 = some [.slice none 0 0, .int .u32 0, .int .u32 0] := by kernel_rfl

theorem nums63_c (cs : List Cd) (hN : Numbered cs) (hfree : Free cs) (hfit : Fits cs) (b0 b1 b2 b3 b cap : Nat) (own : Bool) (sp : List Value) (M : Mem) :
    HC Try.prog 63 #[.pointer (some ⟨b0, 0, none⟩), .pointer (some ⟨b1, 0, none⟩), .pointer (some ⟨b2, 0, none⟩), .pointer (some ⟨b3, 0, none⟩)]
      (⟨own, b, 0, codesV cs ++ sp⟩ :: ⟨true, b0, 0, [.slice (some ⟨b, 0, none⟩) cs.length cap]⟩ :: ⟨true, b1, 0, [.int .u32 0]⟩ :: ⟨true, b2, 0, [.int .u32 0]⟩ :: ⟨true, b3, 0, [.int .u32 0]⟩ :: M)
      (fun _ M' => Rk M' (⟨true, b1, 0, [.int .u32 cs.length]⟩ :: ⟨true, b2, 0, [.int .u32 (mnTo cs cs.length : Nat)]⟩ :: ⟨true, b3, 0, [.int .u32 cs.length]⟩ :: M)) := by
  have h60 := hN.most
  refine HC_of_W (fn := Try.f63) Try.func63 rfl rfl rfl rfl ?_
  repeat' (first | (refine isO ?_; first | refine oo (Pc rfl) ?_ | refine oo (Pa rfl (by omega) (by omega)) ?_ | (refine ob rfl ?_ ?_ <;> intro hq <;> try (exfalso; omega)) | refine oo (Pi rfl (by omega)) ?_ | refine oo (Pl rfl) ?_ | refine oo (Px rfl rfl) ?_ | refine oo (Pj rfl (by omega) (by omega)) ?_ | refine oo (Pk rfl (by omega) (by omega)) ?_ | refine oo (Pf rfl) ?_ | refine oo (Pv rfl (by omega) (by omega)) ?_ | refine oo (Pn rfl) ?_ | refine oo (Pm rfl) ?_ | refine os rfl rfl ?_ | refine ot rfl (by omega) ?_ | refine O_nil ?_) | refine wo rfl ?_ | refine wc rfl ?_ | refine wg rfl ?_ | refine go rfl ?_ | refine gc rfl ?_ | refine gg rfl ?_)
  refine O_alloc zero126 trivial rfl fun db => ?_
  repeat' (first | (refine isO ?_; first | refine oo (Pc rfl) ?_ | refine oo (Pa rfl (by omega) (by omega)) ?_ | (refine ob rfl ?_ ?_ <;> intro hq <;> try (exfalso; omega)) | refine oo (Pi rfl (by omega)) ?_ | refine oo (Pl rfl) ?_ | refine oo (Px rfl rfl) ?_ | refine oo (Pj rfl (by omega) (by omega)) ?_ | refine oo (Pk rfl (by omega) (by omega)) ?_ | refine oo (Pf rfl) ?_ | refine oo (Pv rfl (by omega) (by omega)) ?_ | refine oo (Pn rfl) ?_ | refine oo (Pm rfl) ?_ | refine os rfl rfl ?_ | refine ot rfl (by omega) ?_ | refine O_nil ?_) | refine wo rfl ?_ | refine wc rfl ?_ | refine wg rfl ?_ | refine go rfl ?_ | refine gc rfl ?_ | refine gg rfl ?_)
  refine O_alloc zero103' trivial rfl fun eb => ?_
  repeat' (first | (refine isO ?_; first | refine oo (Pc rfl) ?_ | refine oo (Pa rfl (by omega) (by omega)) ?_ | (refine ob rfl ?_ ?_ <;> intro hq <;> try (exfalso; omega)) | refine oo (Pi rfl (by omega)) ?_ | refine oo (Pl rfl) ?_ | refine oo (Px rfl rfl) ?_ | refine oo (Pj rfl (by omega) (by omega)) ?_ | refine oo (Pk rfl (by omega) (by omega)) ?_ | refine oo (Pf rfl) ?_ | refine oo (Pv rfl (by omega) (by omega)) ?_ | refine oo (Pn rfl) ?_ | refine oo (Pm rfl) ?_ | refine os rfl rfl ?_ | refine ot rfl (by omega) ?_ | refine O_nil ?_) | refine wo rfl ?_ | refine wc rfl ?_ | refine wg rfl ?_ | refine go rfl ?_ | refine gc rfl ?_ | refine gg rfl ?_)
  refine O_call rfl rfl Tb.k41 trivial rfl (HCp.take (L := ⟨own, b, 0, codesV cs ++ sp⟩ :: _) (.cons (.tail (.tail .head)) .rfl) (codes_c cs own b cap sp _ (by omega))) ?_
  rintro _ M' ⟨bd, cd, sd, rfl, _, rfl⟩
  refine O_call rfl rfl Tb.k64 trivial rfl (HCp.take (L := DecR db (.slice none 0 0) (.slice none 0 0) 0 0 0 0 0 :: ⟨true, bd, 0, codesV cs ++ sd⟩ :: _) (.cons (.tail (.tail (.tail .head))) (.cons .head .rfl)) (dec64_c cs hN hfree hfit db bd cd true sd _)) ?_
  rintro _ M' ⟨v0, v1, a2, a3, a4, hrk⟩
  refine O_weak hrk ?_
  clear hrk
  repeat' (first | (refine isO ?_; first | refine oo (Pc rfl) ?_ | refine oo (Pa rfl (by omega) (by omega)) ?_ | (refine ob rfl ?_ ?_ <;> intro hq <;> try (exfalso; omega)) | refine oo (Pi rfl (by omega)) ?_ | refine oo (Pl rfl) ?_ | refine oo (Px rfl rfl) ?_ | refine oo (Pj rfl (by omega) (by omega)) ?_ | refine oo (Pk rfl (by omega) (by omega)) ?_ | refine oo (Pf rfl) ?_ | refine oo (Pv rfl (by omega) (by omega)) ?_ | refine oo (Pn rfl) ?_ | refine oo (Pm rfl) ?_ | refine os rfl rfl ?_ | refine ot rfl (by omega) ?_ | refine O_nil ?_) | refine wo rfl ?_ | refine wc rfl ?_ | refine wg rfl ?_ | refine go rfl ?_ | refine gc rfl ?_ | refine gg rfl ?_)
  refine O_call rfl rfl Tb.k41 trivial rfl (HCp.take (L := ⟨own, b, 0, codesV cs ++ sp⟩ :: _) (.cons (.tail .head) .rfl) (codes_c cs own b cap sp _ (by omega))) ?_
  rintro _ M' ⟨be, ce, se, rfl, _, rfl⟩
  refine O_call rfl rfl Tb.k52 trivial rfl (HCp.take (L := ⟨true, eb, 0, [.slice none 0 0, .int .u32 0, .int .u32 0]⟩ :: ⟨true, be, 0, codesV cs ++ se⟩ :: _) (.cons (.tail (.tail (.tail .head))) (.cons .head .rfl)) (enc52_c cs hN eb be ce true se _)) ?_
  rintro _ M' ⟨j, cb, cc, ch, _, hrk⟩
  refine O_weak hrk ?_
  clear hrk
  unfold EncR
  repeat' (first | (refine isO ?_; first | refine oo (Pc rfl) ?_ | refine oo (Pa rfl (by omega) (by omega)) ?_ | (refine ob rfl ?_ ?_ <;> intro hq <;> try (exfalso; omega)) | refine oo (Pi rfl (by omega)) ?_ | refine oo (Pl rfl) ?_ | refine oo (Px rfl rfl) ?_ | refine oo (Pj rfl (by omega) (by omega)) ?_ | refine oo (Pk rfl (by omega) (by omega)) ?_ | refine oo (Pf rfl) ?_ | refine oo (Pv rfl (by omega) (by omega)) ?_ | refine oo (Pn rfl) ?_ | refine oo (Pm rfl) ?_ | refine os rfl rfl ?_ | refine ot rfl (by omega) ?_ | refine O_nil ?_) | refine wo rfl ?_ | refine wc rfl ?_ | refine wg rfl ?_ | refine go rfl ?_ | refine gc rfl ?_ | refine gg rfl ?_)
  exact G_fin ⟨_, rfl, by repeat (first | exact .rfl | exact .nil | (apply Rk.cons; (· exact TakeI.out)) | refine .drop ?_)⟩

theorem nums23_c (cs : List Cd) (hN : Numbered cs) (hfree : Free cs) (hfit : Fits cs) (b cap : Nat) (own : Bool) (sp : List Value) (M : Mem) :
    HC Try.prog 23 #[.slice (some ⟨b, 0, none⟩) cs.length cap] (⟨own, b, 0, codesV cs ++ sp⟩ :: M)
      (fun r M' => r = .tuple #[.int .u32 cs.length, .int .u32 (mnTo cs cs.length : Nat), .int .u32 cs.length] ∧ Rk M' M) := by
  refine HC_of_WM (fn := Try.f23) Try.func23 rfl rfl rfl rfl ?_
  repeat' (first | (refine isO ?_; first | refine oo (Pc rfl) ?_ | refine oo (Pa rfl (by omega) (by omega)) ?_ | (refine ob rfl ?_ ?_ <;> intro hq <;> try (exfalso; omega)) | refine oo (Pi rfl (by omega)) ?_ | refine oo (Pl rfl) ?_ | refine oo (Px rfl rfl) ?_ | refine oo (Pj rfl (by omega) (by omega)) ?_ | refine oo (Pk rfl (by omega) (by omega)) ?_ | refine oo (Pf rfl) ?_ | refine oo (Pv rfl (by omega) (by omega)) ?_ | refine oo (Pn rfl) ?_ | refine oo (Pm rfl) ?_ | refine os rfl rfl ?_ | refine ot rfl (by omega) ?_ | refine O_nil ?_) | refine wo rfl ?_ | refine wc rfl ?_ | refine wg rfl ?_ | refine go rfl ?_ | refine gc rfl ?_ | refine gg rfl ?_)
  refine O_box rfl trivial rfl fun b0 => ?_
  refine O_alloc zero40' trivial rfl fun b1 => ?_
  refine O_alloc zero40' trivial rfl fun b2 => ?_
  refine O_alloc zero40' trivial rfl fun b3 => ?_
  repeat' (first | (refine isO ?_; first | refine oo (Pc rfl) ?_ | refine oo (Pa rfl (by omega) (by omega)) ?_ | (refine ob rfl ?_ ?_ <;> intro hq <;> try (exfalso; omega)) | refine oo (Pi rfl (by omega)) ?_ | refine oo (Pl rfl) ?_ | refine oo (Px rfl rfl) ?_ | refine oo (Pj rfl (by omega) (by omega)) ?_ | refine oo (Pk rfl (by omega) (by omega)) ?_ | refine oo (Pf rfl) ?_ | refine oo (Pv rfl (by omega) (by omega)) ?_ | refine oo (Pn rfl) ?_ | refine oo (Pm rfl) ?_ | refine os rfl rfl ?_ | refine ot rfl (by omega) ?_ | refine O_nil ?_) | refine wo rfl ?_ | refine wc rfl ?_ | refine wg rfl ?_ | refine go rfl ?_ | refine gc rfl ?_ | refine gg rfl ?_)
  refine O_call rfl rfl Tb.k39 trivial rfl (safe_c (f := 63) (R := fun M' => Rk M' (⟨true, b1, 0, [.int .u32 cs.length]⟩ :: ⟨true, b2, 0, [.int .u32 (mnTo cs cs.length : Nat)]⟩ :: ⟨true, b3, 0, [.int .u32 cs.length]⟩ :: M)) Tb.k63 fun bs => ?_) ?_
  · refine (HCp.take (L := ⟨own, b, 0, codesV cs ++ sp⟩ :: ⟨true, b0, 0, [.slice (some ⟨b, 0, none⟩) cs.length cap]⟩ :: ⟨true, b1, 0, [.int .u32 0]⟩ :: ⟨true, b2, 0, [.int .u32 0]⟩ :: ⟨true, b3, 0, [.int .u32 0]⟩ :: ⟨true, bs, 0, [.bool false]⟩ :: M)
      (.cons (.tail (.tail (.tail (.tail (.tail .head))))) (.cons (.tail (.tail (.tail (.tail .head)))) (.cons (.tail (.tail (.tail .head))) (.cons (.tail (.tail .head)) (.cons (.tail .head) .rfl)))))
      (nums63_c cs hN hfree hfit b0 b1 b2 b3 b cap own sp _)).mono ?_
    rintro _ M' hrk
    exact ⟨_, .trans hrk (.cons (.tail (.tail (.tail .head))) .rfl), .rfl⟩
  rintro _ M' ⟨rfl, hrk⟩
  refine O_weak hrk ?_
  repeat' (first | (refine isO ?_; first | refine oo (Pc rfl) ?_ | refine oo (Pa rfl (by omega) (by omega)) ?_ | (refine ob rfl ?_ ?_ <;> intro hq <;> try (exfalso; omega)) | refine oo (Pi rfl (by omega)) ?_ | refine oo (Pl rfl) ?_ | refine oo (Px rfl rfl) ?_ | refine oo (Pj rfl (by omega) (by omega)) ?_ | refine oo (Pk rfl (by omega) (by omega)) ?_ | refine oo (Pf rfl) ?_ | refine oo (Pv rfl (by omega) (by omega)) ?_ | refine oo (Pn rfl) ?_ | refine oo (Pm rfl) ?_ | refine os rfl rfl ?_ | refine ot rfl (by omega) ?_ | refine O_nil ?_) | refine wo rfl ?_ | refine wc rfl ?_ | refine wg rfl ?_ | refine go rfl ?_ | refine gc rfl ?_ | refine gg rfl ?_)
  refine W_region_quiet Tb.mixed [[], [], [], [0], [1], [2]] (by kernel_rfl) (by kernel_rfl) ?_
  repeat' (first | (refine isQS ?_; first | refine qq (Pc rfl) ?_ | refine qq (Pa rfl (by omega) (by omega)) ?_ | (refine qb rfl ?_ ?_ <;> intro hq <;> try (exfalso; omega)) | refine qq (Pi rfl (by omega)) ?_ | refine qq (Pl rfl) ?_ | refine qq (Px rfl rfl) ?_ | refine qq (Pj rfl (by omega) (by omega)) ?_ | refine qq (Pk rfl (by omega) (by omega)) ?_ | refine qq (Pf rfl) ?_ | refine qq (Pv rfl (by omega) (by omega)) ?_ | refine qq (Pn rfl) ?_ | refine qq (Pm rfl) ?_ | (refine QS_nil ⟨rfl, ?_⟩; simp only [List.nil_append, List.cons_append, somes])))
  refine QS_store0 Tb.c40 rfl rfl rfl trivial (.head _) ?_
  refine QS_store0 Tb.c40 rfl rfl rfl trivial (.tail _ (.head _)) ?_
  refine QS_store0 Tb.c40 rfl rfl rfl trivial (.tail _ (.tail _ (.head _))) ?_
  repeat' (first | (refine isQS ?_; first | refine qq (Pc rfl) ?_ | refine qq (Pa rfl (by omega) (by omega)) ?_ | (refine qb rfl ?_ ?_ <;> intro hq <;> try (exfalso; omega)) | refine qq (Pi rfl (by omega)) ?_ | refine qq (Pl rfl) ?_ | refine qq (Px rfl rfl) ?_ | refine qq (Pj rfl (by omega) (by omega)) ?_ | refine qq (Pk rfl (by omega) (by omega)) ?_ | refine qq (Pf rfl) ?_ | refine qq (Pv rfl (by omega) (by omega)) ?_ | refine qq (Pn rfl) ?_ | refine qq (Pm rfl) ?_ | (refine QS_nil ⟨rfl, ?_⟩; simp only [List.nil_append, List.cons_append, somes])))
  repeat' (first | (refine isO ?_; first | refine oo (Pc rfl) ?_ | refine oo (Pa rfl (by omega) (by omega)) ?_ | (refine ob rfl ?_ ?_ <;> intro hq <;> try (exfalso; omega)) | refine oo (Pi rfl (by omega)) ?_ | refine oo (Pl rfl) ?_ | refine oo (Px rfl rfl) ?_ | refine oo (Pj rfl (by omega) (by omega)) ?_ | refine oo (Pk rfl (by omega) (by omega)) ?_ | refine oo (Pf rfl) ?_ | refine oo (Pv rfl (by omega) (by omega)) ?_ | refine oo (Pn rfl) ?_ | refine oo (Pm rfl) ?_ | refine os rfl rfl ?_ | refine ot rfl (by omega) ?_ | refine O_nil ?_) | refine wo rfl ?_ | refine wc rfl ?_ | refine wg rfl ?_ | refine go rfl ?_ | refine gc rfl ?_ | refine gg rfl ?_)
  exact G_fin ⟨[.int .u32 cs.length, .int .u32 (mnTo cs cs.length : Nat), .int .u32 cs.length], ⟨⟨_, _, _, _, _, rfl, .head _, Try.underlying40, rfl⟩, ⟨_, _, _, _, _, rfl, .tail _ (.head _), Try.underlying40, rfl⟩, ⟨_, _, _, _, _, rfl, .tail _ (.tail _ (.head _)), Try.underlying40, rfl⟩, trivial⟩, rfl, .drop (.drop (.drop .rfl))⟩

theorem run_min (ts : Array TypeId) (ty : TypeId) (p q : Nat) (w : World) (P : Program) : (Builtin.min_ ts ty #[.int .u32 (p : Int), .int .u32 (q : Int)]).run P w = .ok (.int .u32 ((min p q : Nat) : Int)) w := by
  unfold Builtin.min_
  by_cases h : q < p
  · have e : min p q = q := by omega
    rw [e]
    simp [Builtin.min2, h]
  · have e : min p q = p := by omega
    rw [e]
    simp [Builtin.min2, h]
theorem P_min {P : Program} {N : Fm} {E : Env} {M : Mem} {x y : Operand} {t t2 : TypeId} {p q : Nat} (hx : ev E x = some (.int .u32 (p : Int))) (hy : ev E y = some (.int .u32 (q : Int))) :
    Pure P N E M (.call { callee := .builtin .min, args := #[x, y], argTypes := #[t, t2] }) (.int .u32 ((min p q : Nat) : Int)) := by
  constructor
  intro pr bs w0 a w hA hS d ty pos after g
  simp [execOp, resolve, invoke, builtin, hA.eval hx, hA.eval hy, run_min]

theorem law5_c (s : Value) (ls : List Nat) (M : Mem) (hb : Bs s ls M) : HC Try.prog 5 #[s] M (fun r M' => r = .bool true ∧ Rk M' M) := by
  obtain ⟨ad, cp, e⟩ : ∃ a c, s = .slice a ls.length c := ⟨_, _, hb.2.choose_spec.choose_spec.1⟩
  subst e
  refine HC_of_W (fn := Try.f5) Try.func5 rfl rfl rfl rfl ?_
  repeat' (first | (refine isO ?_; first | refine oo (Pc rfl) ?_ | refine oo (Pa rfl (by omega) (by omega)) ?_ | (refine ob rfl ?_ ?_ <;> intro hq <;> try (exfalso; omega)) | refine oo (Pi rfl (by omega)) ?_ | refine oo (Pl rfl) ?_ | refine oo (Px rfl rfl) ?_ | refine oo (Pj rfl (by omega) (by omega)) ?_ | refine oo (Pk rfl (by omega) (by omega)) ?_ | refine oo (Pf rfl) ?_ | refine oo (Pv rfl (by omega) (by omega)) ?_ | refine oo (Pn rfl) ?_ | refine oo (Pm rfl) ?_ | refine os rfl rfl ?_ | refine ot rfl (by omega) ?_ | refine O_nil ?_) | refine wo rfl ?_ | refine wc rfl ?_ | refine wg rfl ?_ | refine go rfl ?_ | refine gc rfl ?_ | refine gg rfl ?_)
  · exact G_fin ⟨_, rfl, rfl, .rfl⟩
  refine O_call rfl rfl Tb.k19 trivial rfl (given_c _ _ ls [] M hb (Bs.nil M)) ?_
  rintro v M' (⟨hok, b, c, sp, sv, m, rfl, hown, hrk⟩ | ⟨hno, rfl, hrk⟩)
  · refine O_weak hrk ?_
    clear hrk
    obtain ⟨hN, hlen, hget⟩ := canon_numbered ls hok.1
    have hfree := canon_free' ls hok.1 hok.2.1
    generalize canon (linedL 0 [] ls) = cs at *
    have hF : Free cs := by
      intro i j hi hj hij
      rw [hlen] at hi hj
      have h := hfree i j hi hj (by rw [← (hget i hi).1, ← (hget j hj).1]; exact hij)
      rw [← (hget i hi).1] at h
      exact h
    have hT : Fits cs := by
      intro i hi
      rw [hlen] at hi
      rw [(hget i hi).1]
      exact (hget i hi).2
    have h2 := hN.two
    have h60 := hN.most
    rw [← hlen]
    have hl0 := codesV_get cs sp 0 2 (by omega) (by omega)
    repeat' (first | (refine isO ?_; first | refine oo (Pc rfl) ?_ | refine oo (Pa rfl (by omega) (by omega)) ?_ | (refine ob rfl ?_ ?_ <;> intro hq <;> try (exfalso; omega)) | refine oo (Pi rfl (by omega)) ?_ | refine oo (Pl rfl) ?_ | refine oo (Px rfl rfl) ?_ | refine oo (Pj rfl (by omega) (by omega)) ?_ | refine oo (Pk rfl (by omega) (by omega)) ?_ | refine oo (Pf rfl) ?_ | refine oo (Pv rfl (by omega) (by omega)) ?_ | refine oo (Pn rfl) ?_ | refine oo (Pm rfl) ?_ | refine os rfl rfl ?_ | refine ot rfl (by omega) ?_ | refine O_nil ?_) | refine wo rfl ?_ | refine wc rfl ?_ | refine wg rfl ?_ | refine go rfl ?_ | refine gc rfl ?_ | refine gg rfl ?_)
    refine O_pure (P_loadAt (o := 0) (n := 0 * 4 + 2) Tb.p40 rfl rfl (.head _) hl0) trivial rfl ?_
    repeat' (first | (refine isO ?_; first | refine oo (Pc rfl) ?_ | refine oo (Pa rfl (by omega) (by omega)) ?_ | (refine ob rfl ?_ ?_ <;> intro hq <;> try (exfalso; omega)) | refine oo (Pi rfl (by omega)) ?_ | refine oo (Pl rfl) ?_ | refine oo (Px rfl rfl) ?_ | refine oo (Pj rfl (by omega) (by omega)) ?_ | refine oo (Pk rfl (by omega) (by omega)) ?_ | refine oo (Pf rfl) ?_ | refine oo (Pv rfl (by omega) (by omega)) ?_ | refine oo (Pn rfl) ?_ | refine oo (Pm rfl) ?_ | refine os rfl rfl ?_ | refine ot rfl (by omega) ?_ | refine O_nil ?_) | refine wo rfl ?_ | refine wc rfl ?_ | refine wg rfl ?_ | refine go rfl ?_ | refine gc rfl ?_ | refine gg rfl ?_)
    refine W_loop (α := Nat) (fun i => [(3, .slice (some ⟨b, 0, none⟩) cs.length c), (6, .int .u32 (min (cs.getD 0 Cd.zero).len (mnTo cs i) : Nat)), (7, .int .i64 i)])
      (fun _ => ⟨true, b, 0, codesV cs ++ sp⟩ :: (m ++ M)) (fun i => i ≤ cs.length) (fun i => cs.length - i) 0 (by omega) ⟨rfl, congrArg (fun q : Nat => some (Value.int .u32 (q : Int))) ?_, rfl, trivial⟩ .rfl ?_
    · have := hN.len 0 (by omega)
      simp only [mnTo]; omega
    intro i hi
    try dsimp only
    repeat' (first | (refine isO ?_; first | refine oo (Pc rfl) ?_ | refine oo (Pa rfl (by omega) (by omega)) ?_ | (refine ob rfl ?_ ?_ <;> intro hq <;> try (exfalso; omega)) | refine oo (Pi rfl (by omega)) ?_ | refine oo (Pl rfl) ?_ | refine oo (Px rfl rfl) ?_ | refine oo (Pj rfl (by omega) (by omega)) ?_ | refine oo (Pk rfl (by omega) (by omega)) ?_ | refine oo (Pf rfl) ?_ | refine oo (Pv rfl (by omega) (by omega)) ?_ | refine oo (Pn rfl) ?_ | refine oo (Pm rfl) ?_ | refine os rfl rfl ?_ | refine ot rfl (by omega) ?_ | refine O_nil ?_) | refine wo rfl ?_ | refine wc rfl ?_ | refine wg rfl ?_ | refine go rfl ?_ | refine gc rfl ?_ | refine gg rfl ?_)
    · have hil : i < cs.length := by omega
      have hli := codesV_get cs sp i 2 hil (by omega)
      have hm1 : mnTo cs (i + 1) = min (mnTo cs i) (cs.getD i Cd.zero).len := rfl
      refine O_pure (P_loadAt (o := 0) (n := i * 4 + 2) Tb.p40 rfl (by omega) (.head _) hli) trivial rfl ?_
      refine O_pure (P_min (p := min (cs.getD 0 Cd.zero).len (mnTo cs i)) (q := (cs.getD i Cd.zero).len) rfl rfl) trivial rfl ?_
      repeat' (first | (refine isO ?_; first | refine oo (Pc rfl) ?_ | refine oo (Pa rfl (by omega) (by omega)) ?_ | (refine ob rfl ?_ ?_ <;> intro hq <;> try (exfalso; omega)) | refine oo (Pi rfl (by omega)) ?_ | refine oo (Pl rfl) ?_ | refine oo (Px rfl rfl) ?_ | refine oo (Pj rfl (by omega) (by omega)) ?_ | refine oo (Pk rfl (by omega) (by omega)) ?_ | refine oo (Pf rfl) ?_ | refine oo (Pv rfl (by omega) (by omega)) ?_ | refine oo (Pn rfl) ?_ | refine oo (Pm rfl) ?_ | refine os rfl rfl ?_ | refine ot rfl (by omega) ?_ | refine O_nil ?_) | refine wo rfl ?_ | refine wc rfl ?_ | refine wg rfl ?_ | refine go rfl ?_ | refine gc rfl ?_ | refine gg rfl ?_)
      exact G_stop ⟨i + 1, by omega, by omega, ⟨rfl, congrArg (fun q : Nat => some (Value.int .u32 (q : Int))) (by omega), rfl, trivial⟩, .rfl⟩
    · obtain rfl : i = cs.length := by omega
      have hle : min (cs.getD 0 Cd.zero).len (mnTo cs cs.length) = mnTo cs cs.length := by
        have : ∀ n, 1 ≤ n → mnTo cs n ≤ (cs.getD 0 Cd.zero).len := by
          intro n
          induction n with
          | zero => intro h; omega
          | succ n ih =>
            intro _
            simp only [mnTo]
            by_cases h0 : n = 0
            · subst h0; omega
            · have := ih (by omega); omega
        have := this cs.length (by omega)
        omega
      rw [hle]
      refine O_call rfl rfl Tb.k23 trivial rfl (nums23_c cs hN hF hT b c true sp _) ?_
      rintro _ M' ⟨rfl, hrk⟩
      refine O_weak hrk ?_
      clear hrk
      repeat' (first | (refine isO ?_; first | refine oo (Pc rfl) ?_ | refine oo (Pa rfl (by omega) (by omega)) ?_ | (refine ob rfl ?_ ?_ <;> intro hq <;> try (exfalso; omega)) | refine oo (Pi rfl (by omega)) ?_ | refine oo (Pl rfl) ?_ | refine oo (Px rfl rfl) ?_ | refine oo (Pj rfl (by omega) (by omega)) ?_ | refine oo (Pk rfl (by omega) (by omega)) ?_ | refine oo (Pf rfl) ?_ | refine oo (Pv rfl (by omega) (by omega)) ?_ | refine oo (Pn rfl) ?_ | refine oo (Pm rfl) ?_ | refine os rfl rfl ?_ | refine ot rfl (by omega) ?_ | refine O_nil ?_) | refine wo rfl ?_ | refine wc rfl ?_ | refine wg rfl ?_ | refine go rfl ?_ | refine gc rfl ?_ | refine gg rfl ?_)
      refine O_call rfl rfl Tb.k13 trivial rfl (awake_c _) ?_
      rintro v M' ⟨rfl, hrk⟩
      refine O_weak hrk ?_
      clear hrk
      repeat' (first | (refine isO ?_; first | refine oo (Pc rfl) ?_ | refine oo (Pa rfl (by omega) (by omega)) ?_ | (refine ob rfl ?_ ?_ <;> intro hq <;> try (exfalso; omega)) | refine oo (Pi rfl (by omega)) ?_ | refine oo (Pl rfl) ?_ | refine oo (Px rfl rfl) ?_ | refine oo (Pj rfl (by omega) (by omega)) ?_ | refine oo (Pk rfl (by omega) (by omega)) ?_ | refine oo (Pf rfl) ?_ | refine oo (Pv rfl (by omega) (by omega)) ?_ | refine oo (Pn rfl) ?_ | refine oo (Pm rfl) ?_ | refine os rfl rfl ?_ | refine ot rfl (by omega) ?_ | refine O_nil ?_) | refine wo rfl ?_ | refine wc rfl ?_ | refine wg rfl ?_ | refine go rfl ?_ | refine gc rfl ?_ | refine gg rfl ?_)
      exact G_fin ⟨_, rfl, rfl, Rk.right m M⟩
  · refine O_weak hrk ?_
    clear hrk
    repeat' (first | (refine isO ?_; first | refine oo (Pc rfl) ?_ | refine oo (Pa rfl (by omega) (by omega)) ?_ | (refine ob rfl ?_ ?_ <;> intro hq <;> try (exfalso; omega)) | refine oo (Pi rfl (by omega)) ?_ | refine oo (Pl rfl) ?_ | refine oo (Px rfl rfl) ?_ | refine oo (Pj rfl (by omega) (by omega)) ?_ | refine oo (Pk rfl (by omega) (by omega)) ?_ | refine oo (Pf rfl) ?_ | refine oo (Pv rfl (by omega) (by omega)) ?_ | refine oo (Pn rfl) ?_ | refine oo (Pm rfl) ?_ | refine os rfl rfl ?_ | refine ot rfl (by omega) ?_ | refine O_nil ?_) | refine wo rfl ?_ | refine wc rfl ?_ | refine wg rfl ?_ | refine go rfl ?_ | refine gc rfl ?_ | refine gg rfl ?_)
    refine O_call rfl rfl Tb.k13 trivial rfl (awake_c _) ?_
    rintro v M' ⟨rfl, hrk⟩
    refine O_weak hrk ?_
    repeat' (first | (refine isO ?_; first | refine oo (Pc rfl) ?_ | refine oo (Pa rfl (by omega) (by omega)) ?_ | (refine ob rfl ?_ ?_ <;> intro hq <;> try (exfalso; omega)) | refine oo (Pi rfl (by omega)) ?_ | refine oo (Pl rfl) ?_ | refine oo (Px rfl rfl) ?_ | refine oo (Pj rfl (by omega) (by omega)) ?_ | refine oo (Pk rfl (by omega) (by omega)) ?_ | refine oo (Pf rfl) ?_ | refine oo (Pv rfl (by omega) (by omega)) ?_ | refine oo (Pn rfl) ?_ | refine oo (Pm rfl) ?_ | refine os rfl rfl ?_ | refine ot rfl (by omega) ?_ | refine O_nil ?_) | refine wo rfl ?_ | refine wc rfl ?_ | refine wg rfl ?_ | refine go rfl ?_ | refine gc rfl ?_ | refine gg rfl ?_)
    exact G_fin ⟨_, rfl, rfl, .rfl⟩
end Go.Proofs.Ytjkpfliaflmppaa.Pc

/- Bytes that bear some bits are those that spec.packed says. No condition. impl.WriteAll, walked, for parts that can be written. impl.WriteTry, walked, for parts that can be written. Bytes turned to strings. No condition. -/
import Derived.Test.YtjkpfliaflmppaaW11x27
import Derived.Test.YtjkpfliaflmppaaW11x28
import Derived.Test.YtjkpfliaflmppaaW11x30
import Derived.Test.YtjkpfliaflmppaaW11x22

namespace Go.Proofs.Ytjkpfliaflmppaa.Pc
open Go Go.RowKit Go.Proofs.Ytjkpfliaflmppaa.Vm Go.Proofs.Ytjkpfliaflmppaa.Wr

theorem unp_get (big : Bool) : ∀ (ys : List Nat) (k j : Nat), j < 8 → k < ys.length → (unp big ys).getD (8 * k + j) 0 = ys.getD k 0 / 2 ^ (if big then 7 - j else j) % 2
  | [], k, j, _, hk => by simp at hk
  | y :: ys, 0, j, hj, _ => by
    show (byteBits big y 8 ++ unp big ys).getD (8 * 0 + j) 0 = _
    rw [List.getD_eq_getElem?_getD, List.getElem?_append_left (by rw [byteBits_length]; omega)]
    simp [byteBits, hj]
  | y :: ys, k + 1, j, hj, hk => by
    show (byteBits big y 8 ++ unp big ys).getD (8 * (k + 1) + j) 0 = _
    rw [List.getD_eq_getElem?_getD, List.getElem?_append_right (by rw [byteBits_length]; omega), byteBits_length, show 8 * (k + 1) + j - 8 = 8 * k + j by omega, ← List.getD_eq_getElem?_getD]
    rw [unp_get big ys k j hj (by simpa using hk)]
    simp

theorem one_bit (b a p : Nat) (hb : b ≤ 1) : (b * 2 ^ a).testBit p = decide (a = p ∧ b = 1) := by
  rw [Nat.testBit_mul_two_pow]
  by_cases h : a = p
  · subst h
    have : b = 0 ∨ b = 1 := by omega
    rcases this with rfl | rfl <;> simp
  · have : b = 0 ∨ b = 1 := by omega
    rcases this with rfl | rfl
    · simp
    · by_cases h2 : a ≤ p
      · have h3 : (1 : Nat).testBit (p - a) = false := Nat.testBit_lt_two_pow (by have := Nat.pow_le_pow_right (n := 2) (by omega) (show 1 ≤ p - a by omega); omega)
        simp [h, h3]
      · simp [h, h2]
theorem pkTo_bit (big : Bool) (bits : List Nat) (hb : ∀ i, bits.getD i 0 ≤ 1) (k p : Nat) (hp : p < 8) : ∀ i, (pkTo big bits i k).testBit p = decide (8 * k + (if big then 7 - p else p) < i ∧ bits.getD (8 * k + (if big then 7 - p else p)) 0 = 1)
  | 0 => by simp [pkTo]
  | i + 1 => by
    have ih := pkTo_bit big bits hb k p hp i
    have hj : (if big then 7 - p else p) < 8 := by split <;> omega
    have hat : atB big i = if big then 7 - i % 8 else i % 8 := rfl
    have hm := Nat.mod_lt i (show 0 < 8 by omega)
    simp only [pkTo]
    by_cases hk : k = i / 8
    · rw [if_pos hk, Nat.testBit_or, ih, one_bit _ _ _ (hb i)]
      by_cases he : atB big i = p
      · have hi : 8 * k + (if big then 7 - p else p) = i := by
          rw [hat] at he
          cases big <;> simp only [Bool.false_eq_true, if_false, if_true] at he ⊢ <;> omega
        rw [hi, decide_eq_false (show ¬ (i < i ∧ bits.getD i 0 = 1) by omega), Bool.false_or]
        congr 1
        simp [he]
      · have hi : 8 * k + (if big then 7 - p else p) ≠ i := by
          intro h
          apply he
          rw [hat]
          cases big <;> simp only [Bool.false_eq_true, if_false, if_true] at h ⊢ <;> omega
        rw [decide_eq_false (show ¬ (atB big i = p ∧ bits.getD i 0 = 1) from fun h => he h.1), Bool.or_false]
        congr 1
        apply propext
        constructor
        · rintro ⟨h1, h2⟩; exact ⟨by omega, h2⟩
        · rintro ⟨h1, h2⟩; exact ⟨by omega, h2⟩
    · rw [if_neg hk, ih]
      congr 1
      apply propext
      constructor
      · rintro ⟨h1, h2⟩; exact ⟨by omega, h2⟩
      · rintro ⟨h1, h2⟩; exact ⟨by omega, h2⟩

theorem padded_eq {big : Bool} {bits ys : List Nat} (h : Padded big bits ys) (hb : ∀ i, bits.getD i 0 ≤ 1) : ys = pkL big bits ((bits.length + 7) / 8) bits.length := by
  obtain ⟨h1, h2⟩ := h
  have hl := congrArg List.length h2
  rw [unp_length, List.length_append, bitsOf_length] at hl
  have hlen : ys.length = (bits.length + 7) / 8 := by omega
  apply List.ext_getElem
  · rw [pkL_length, hlen]
  · intro k k1 k2
    have e1 : ys[k] = ys.getD k 0 := by simp [k1]
    have e2 : (pkL big bits ((bits.length + 7) / 8) bits.length)[k] = pkTo big bits bits.length k := by
      simp only [pkL, List.getElem_map, List.getElem_range]
    rw [e2]
    have hy : ys[k] < 256 := h1 _ (List.getElem_mem k1)
    apply Nat.eq_of_testBit_eq
    intro p
    by_cases hp : p < 8
    · rw [pkTo_bit big bits hb k p hp]
      have hj : (if big then 7 - p else p) < 8 := by split <;> omega
      have hg := unp_get big ys k (if big then 7 - p else p) hj k1
      have hpp : (if big then 7 - (if big then 7 - p else p) else (if big then 7 - p else p)) = p := by cases big <;> simp <;> omega
      rw [hpp, h2, ← e1, ← Nat.toNat_testBit] at hg
      generalize hq : 8 * k + (if big then 7 - p else p) = q at *
      by_cases hqn : q < bits.length
      · rw [List.getD_eq_getElem?_getD, List.getElem?_append_left hqn, ← List.getD_eq_getElem?_getD] at hg
        rw [hg]
        cases h : ys[k].testBit p <;> simp [hqn]
      · rw [List.getD_eq_getElem?_getD, List.getElem?_append_right (by omega), ← List.getD_eq_getElem?_getD] at hg
        have h0 : ∀ r, (bitsOf 0 ((8 - bits.length % 8) % 8)).getD r 0 = 0 := by
          intro r
          unfold bitsOf
          by_cases hr : r < (8 - bits.length % 8) % 8
          · simp [hr]
          · simp [hr]
        rw [h0] at hg
        cases h : ys[k].testBit p
        · simp [hqn]
        · rw [h] at hg; simp at hg
    · rw [Nat.testBit_lt_two_pow (Nat.lt_of_lt_of_le hy (Nat.pow_le_pow_right (n := 2) (by omega) (show 8 ≤ p by omega))), Nat.testBit_lt_two_pow (Nat.lt_of_lt_of_le (pkTo_lt big bits hb _ _) (Nat.pow_le_pow_right (n := 2) (by omega) (show 8 ≤ p by omega)))]
end Go.Proofs.Ytjkpfliaflmppaa.Pc

namespace Go.Proofs.Ytjkpfliaflmppaa.Pc
open Go Go.RowKit Go.Proofs.Ytjkpfliaflmppaa.Vm Go.Proofs.Ytjkpfliaflmppaa.Bu Go.Proofs.Ytjkpfliaflmppaa.Wr Go.Proofs.Ytjkpfliaflmppaa.Sf

theorem Ps.one {s : Value} {l : List Pt} {M : Mem} (h : Ps s l M) : s.cells.toList = [s] := by
  obtain ⟨⟨ad, cap, rfl, _⟩, _⟩ := h; rfl

set_option maxHeartbeats 2000000 in
theorem writeAll22_c (l : List Pt) (cs : List Cd) (xs : List Nat) (big : Bool) (s0 s2 : Value) (cb cap : Nat) (own : Bool) (sp : List Value) (M : Mem) (hs : Ps s0 l M) (hL : LightP l) (hN : Numbered cs) (hV : ∀ i, i < cs.length → (cs.getD i Cd.zero).val < 2 ^ (cs.getD i Cd.zero).len) (hr : Rs s2 (mkR 0 xs) M) (hok : OkN xs)
    (bits : List Nat) (hall : wTo cs xs big l l.length = some bits) (hbits : Bits bits l.length) :
    HC Try.prog 22 #[s0, .slice (some ⟨cb, 0, none⟩) cs.length cap, s2, .bool big] (⟨own, cb, 0, codesV cs ++ sp⟩ :: M)
      (fun v M' => ∃ b c sp2, v = .tuple #[.slice (some ⟨b, 0, none⟩) ((bits.length + 7) / 8) c, .int .i64 bits.length, .bool true] ∧ Rk M' (⟨true, b, 0, ib (pkL big bits ((bits.length + 7) / 8) bits.length) ++ sp2⟩ :: M)) := by
  have e0 := hs.one
  have e2 := hr.one
  refine HC_of_WM (fn := Try.f22) Try.func22 rfl rfl rfl rfl ?_
  repeat' (first | (refine isO ?_; first | refine oo (Pc rfl) ?_ | refine oo (Pa rfl (by omega) (by omega)) ?_ | (refine ob rfl ?_ ?_ <;> intro hq <;> try (exfalso; omega)) | refine oo (Pi rfl (by omega)) ?_ | refine oo (Pl rfl) ?_ | refine oo (Px rfl rfl) ?_ | refine oo (Pj rfl (by omega) (by omega)) ?_ | refine oo (Pk rfl (by omega) (by omega)) ?_ | refine oo (Pf rfl) ?_ | refine oo (Pv rfl (by omega) (by omega)) ?_ | refine oo (Pn rfl) ?_ | refine oo (Pm rfl) ?_ | refine os rfl rfl ?_ | refine ot rfl (by omega) ?_ | refine O_nil ?_) | refine wo rfl ?_ | refine wc rfl ?_ | refine wg rfl ?_ | refine go rfl ?_ | refine gc rfl ?_ | refine gg rfl ?_)
  refine O_box rfl trivial rfl fun b4 => ?_
  refine O_box rfl trivial rfl fun b5 => ?_
  refine O_box rfl trivial rfl fun b6 => ?_
  refine O_box rfl trivial rfl fun b7 => ?_
  refine O_alloc zero22 trivial rfl fun b8 => ?_
  refine O_alloc zero2 trivial rfl fun b9 => ?_
  refine O_alloc zero4 trivial rfl fun b10 => ?_
  rw [e0, e2]
  repeat' (first | (refine isO ?_; first | refine oo (Pc rfl) ?_ | refine oo (Pa rfl (by omega) (by omega)) ?_ | (refine ob rfl ?_ ?_ <;> intro hq <;> try (exfalso; omega)) | refine oo (Pi rfl (by omega)) ?_ | refine oo (Pl rfl) ?_ | refine oo (Px rfl rfl) ?_ | refine oo (Pj rfl (by omega) (by omega)) ?_ | refine oo (Pk rfl (by omega) (by omega)) ?_ | refine oo (Pf rfl) ?_ | refine oo (Pv rfl (by omega) (by omega)) ?_ | refine oo (Pn rfl) ?_ | refine oo (Pm rfl) ?_ | refine os rfl rfl ?_ | refine ot rfl (by omega) ?_ | refine O_nil ?_) | refine wo rfl ?_ | refine wc rfl ?_ | refine wg rfl ?_ | refine go rfl ?_ | refine gc rfl ?_ | refine gg rfl ?_)
  refine O_call rfl rfl Tb.k39 trivial rfl (safe_c (f := 50) (R := fun M' => ∃ b c sp2, Rk M' (⟨true, b9, 0, [.int .i64 bits.length]⟩ :: ⟨true, b8, 0, [.slice (some ⟨b, 0, none⟩) ((bits.length + 7) / 8) c]⟩ :: ⟨true, b10, 0, [.bool true]⟩ :: ⟨true, b, 0, ib (pkL big bits ((bits.length + 7) / 8) bits.length) ++ sp2⟩ :: M)) Tb.k50 fun bs => ?_) ?_
  · refine (HCp.take (.cons (by exact TakeI.out) (.cons (by exact TakeI.out) (.cons (by exact TakeI.out) (.cons (by exact TakeI.out) (.cons (by exact TakeI.out) (.cons (by exact TakeI.out) (.cons (by exact TakeI.out) (.cons (by exact TakeI.out) .rfl))))))))
      (fin50_c b7 b5 b6 b4 b9 b8 b10 l cs xs big s0 s2 cb cap own sp (⟨true, bs, 0, [.bool false]⟩ :: M) (hs.mono fun _ hx => .tail _ hx) hL hN hV (hr.mono fun _ hx => .tail _ hx) hok bits hall hbits)).mono ?_
    rintro v M' ⟨b, c, sp2, ys, hys, hrk⟩
    have hy := padded_eq hys hbits.2
    have hyl : ys.length = (bits.length + 7) / 8 := by rw [hy, pkL_length]
    rw [hyl] at hrk
    rw [hy] at hrk
    exact ⟨_, .trans hrk (.cons (.tail (.tail (.tail (.tail .head)))) .rfl), b, c, sp2, .rfl⟩
  rintro v M' ⟨rfl, b, c, sp2, hrk⟩
  refine O_weak hrk ?_
  clear hrk
  repeat' (first | (refine isO ?_; first | refine oo (Pc rfl) ?_ | refine oo (Pa rfl (by omega) (by omega)) ?_ | (refine ob rfl ?_ ?_ <;> intro hq <;> try (exfalso; omega)) | refine oo (Pi rfl (by omega)) ?_ | refine oo (Pl rfl) ?_ | refine oo (Px rfl rfl) ?_ | refine oo (Pj rfl (by omega) (by omega)) ?_ | refine oo (Pk rfl (by omega) (by omega)) ?_ | refine oo (Pf rfl) ?_ | refine oo (Pv rfl (by omega) (by omega)) ?_ | refine oo (Pn rfl) ?_ | refine oo (Pm rfl) ?_ | refine os rfl rfl ?_ | refine ot rfl (by omega) ?_ | refine O_nil ?_) | refine wo rfl ?_ | refine wc rfl ?_ | refine wg rfl ?_ | refine go rfl ?_ | refine gc rfl ?_ | refine gg rfl ?_)
  generalize (bits.length + 7) / 8 = L at *
  have hfin : ∀ E M2, E.get? 8 = some (.pointer (some ⟨b8, 0, none⟩)) → E.get? 9 = some (.pointer (some ⟨b9, 0, none⟩)) → E.get? 10 = some (.pointer (some ⟨b10, 0, none⟩)) →
      Rk M2 (⟨true, b8, 0, [.slice (some ⟨b, 0, none⟩) L c]⟩ :: ⟨true, b9, 0, [.int .i64 bits.length]⟩ :: ⟨true, b10, 0, [.bool true]⟩ :: ⟨true, b, 0, ib (pkL big bits L bits.length) ++ sp2⟩ :: M) →
      G false Try.prog ⟨Try.f22.ntmps, []⟩ (EndsM Try.prog Try.f22.results.toList fun v M' => ∃ b c sp2, v = .tuple #[.slice (some ⟨b, 0, none⟩) L c, .int .i64 bits.length, .bool true] ∧ Rk M' (⟨true, b, 0, ib (pkL big bits L bits.length) ++ sp2⟩ :: M)) .ret [] E M2 := by
    intro E M2 h8 h9 h10 hr
    exact G_fin ⟨[.slice (some ⟨b, 0, none⟩) L c, .int .i64 bits.length, .bool true], ⟨⟨_, _, _, _, _, h8, hr.all.1 _ (.head _), Try.underlying22, rfl⟩, ⟨_, _, _, _, _, h9, hr.all.1 _ (.tail _ (.head _)), Try.underlying2, rfl⟩, ⟨_, _, _, _, _, h10, hr.all.1 _ (.tail _ (.tail _ (.head _))), Try.underlying4, rfl⟩, trivial⟩,
      b, c, sp2, rfl, .trans hr (.drop (.drop (.drop .rfl)))⟩
  refine W_region_any Tb.mixed ?_
  refine OA_step (rs := [0, 1]) (by kernel_rfl) rfl (by decide) (List.forall_mem_cons.2 ⟨?_, List.forall_mem_cons.2 ⟨?_, List.forall_mem_nil _⟩⟩)
  · unfold Step
    simp only [List.drop_succ_cons, List.drop_zero, List.take_succ_cons, List.take_zero]
    repeat' (first | (refine isO ?_; first | refine oo (Pc rfl) ?_ | refine oo (Pa rfl (by omega) (by omega)) ?_ | (refine ob rfl ?_ ?_ <;> intro hq <;> try (exfalso; omega)) | refine oo (Pi rfl (by omega)) ?_ | refine oo (Pl rfl) ?_ | refine oo (Px rfl rfl) ?_ | refine oo (Pj rfl (by omega) (by omega)) ?_ | refine oo (Pk rfl (by omega) (by omega)) ?_ | refine oo (Pf rfl) ?_ | refine oo (Pv rfl (by omega) (by omega)) ?_ | refine oo (Pn rfl) ?_ | refine oo (Pm rfl) ?_ | refine os rfl rfl ?_ | refine ot rfl (by omega) ?_ | refine O_nil ?_) | refine wo rfl ?_ | refine wc rfl ?_ | refine wg rfl ?_ | refine go rfl ?_ | refine gc rfl ?_ | refine gg rfl ?_)
    refine G_fin ⟨rfl, ?_⟩
    refine OA_step (rs := [1, 2]) (by kernel_rfl) rfl (by decide) (List.forall_mem_cons.2 ⟨?_, List.forall_mem_cons.2 ⟨?_, List.forall_mem_nil _⟩⟩)
    · unfold Step
      simp only [List.drop_succ_cons, List.drop_zero, List.take_succ_cons, List.take_zero]
      repeat' (first | (refine isO ?_; first | refine oo (Pc rfl) ?_ | refine oo (Pa rfl (by omega) (by omega)) ?_ | (refine ob rfl ?_ ?_ <;> intro hq <;> try (exfalso; omega)) | refine oo (Pi rfl (by omega)) ?_ | refine oo (Pl rfl) ?_ | refine oo (Px rfl rfl) ?_ | refine oo (Pj rfl (by omega) (by omega)) ?_ | refine oo (Pk rfl (by omega) (by omega)) ?_ | refine oo (Pf rfl) ?_ | refine oo (Pv rfl (by omega) (by omega)) ?_ | refine oo (Pn rfl) ?_ | refine oo (Pm rfl) ?_ | refine os rfl rfl ?_ | refine ot rfl (by omega) ?_ | refine O_nil ?_) | refine wo rfl ?_ | refine wc rfl ?_ | refine wg rfl ?_ | refine go rfl ?_ | refine gc rfl ?_ | refine gg rfl ?_)
      refine G_fin ⟨rfl, ?_⟩
      refine OA_seq 2 (by kernel_rfl) rfl ?_
      simp only [List.drop_succ_cons, List.drop_zero]
      repeat' (first | (refine isO ?_; first | refine oo (Pc rfl) ?_ | refine oo (Pa rfl (by omega) (by omega)) ?_ | (refine ob rfl ?_ ?_ <;> intro hq <;> try (exfalso; omega)) | refine oo (Pi rfl (by omega)) ?_ | refine oo (Pl rfl) ?_ | refine oo (Px rfl rfl) ?_ | refine oo (Pj rfl (by omega) (by omega)) ?_ | refine oo (Pk rfl (by omega) (by omega)) ?_ | refine oo (Pf rfl) ?_ | refine oo (Pv rfl (by omega) (by omega)) ?_ | refine oo (Pn rfl) ?_ | refine oo (Pm rfl) ?_ | refine os rfl rfl ?_ | refine ot rfl (by omega) ?_ | refine O_nil ?_) | refine wo rfl ?_ | refine wc rfl ?_ | refine wg rfl ?_ | refine go rfl ?_ | refine gc rfl ?_ | refine gg rfl ?_)
      exact hfin _ _ rfl rfl rfl (.cons (by exact TakeI.out) (.cons (by exact TakeI.out) (.cons (by exact TakeI.out) (.cons (by exact TakeI.out) .rfl))))
    · unfold Step
      simp only [List.drop_succ_cons, List.drop_zero, List.take_succ_cons, List.take_zero]
      repeat' (first | (refine isO ?_; first | refine oo (Pc rfl) ?_ | refine oo (Pa rfl (by omega) (by omega)) ?_ | (refine ob rfl ?_ ?_ <;> intro hq <;> try (exfalso; omega)) | refine oo (Pi rfl (by omega)) ?_ | refine oo (Pl rfl) ?_ | refine oo (Px rfl rfl) ?_ | refine oo (Pj rfl (by omega) (by omega)) ?_ | refine oo (Pk rfl (by omega) (by omega)) ?_ | refine oo (Pf rfl) ?_ | refine oo (Pv rfl (by omega) (by omega)) ?_ | refine oo (Pn rfl) ?_ | refine oo (Pm rfl) ?_ | refine os rfl rfl ?_ | refine ot rfl (by omega) ?_ | refine O_nil ?_) | refine wo rfl ?_ | refine wc rfl ?_ | refine wg rfl ?_ | refine go rfl ?_ | refine gc rfl ?_ | refine gg rfl ?_)
      refine G_fin ⟨rfl, ?_⟩
      refine OA_step (rs := [1]) (by kernel_rfl) rfl (by decide) (List.forall_mem_cons.2 ⟨?_, List.forall_mem_nil _⟩)
      unfold Step
      simp only [List.drop_succ_cons, List.drop_zero, List.take_succ_cons, List.take_zero]
      repeat' (first | (refine isO ?_; first | refine oo (Pc rfl) ?_ | refine oo (Pa rfl (by omega) (by omega)) ?_ | (refine ob rfl ?_ ?_ <;> intro hq <;> try (exfalso; omega)) | refine oo (Pi rfl (by omega)) ?_ | refine oo (Pl rfl) ?_ | refine oo (Px rfl rfl) ?_ | refine oo (Pj rfl (by omega) (by omega)) ?_ | refine oo (Pk rfl (by omega) (by omega)) ?_ | refine oo (Pf rfl) ?_ | refine oo (Pv rfl (by omega) (by omega)) ?_ | refine oo (Pn rfl) ?_ | refine oo (Pm rfl) ?_ | refine os rfl rfl ?_ | refine ot rfl (by omega) ?_ | refine O_nil ?_) | refine wo rfl ?_ | refine wc rfl ?_ | refine wg rfl ?_ | refine go rfl ?_ | refine gc rfl ?_ | refine gg rfl ?_)
      refine G_fin ⟨rfl, ?_⟩
      refine OA_seq 3 (by kernel_rfl) rfl ?_
      simp only [List.drop_succ_cons, List.drop_zero]
      repeat' (first | (refine isO ?_; first | refine oo (Pc rfl) ?_ | refine oo (Pa rfl (by omega) (by omega)) ?_ | (refine ob rfl ?_ ?_ <;> intro hq <;> try (exfalso; omega)) | refine oo (Pi rfl (by omega)) ?_ | refine oo (Pl rfl) ?_ | refine oo (Px rfl rfl) ?_ | refine oo (Pj rfl (by omega) (by omega)) ?_ | refine oo (Pk rfl (by omega) (by omega)) ?_ | refine oo (Pf rfl) ?_ | refine oo (Pv rfl (by omega) (by omega)) ?_ | refine oo (Pn rfl) ?_ | refine oo (Pm rfl) ?_ | refine os rfl rfl ?_ | refine ot rfl (by omega) ?_ | refine O_nil ?_) | refine wo rfl ?_ | refine wc rfl ?_ | refine wg rfl ?_ | refine go rfl ?_ | refine gc rfl ?_ | refine gg rfl ?_)
      exact hfin _ _ rfl rfl rfl (.cons (by exact TakeI.out) (.cons (by exact TakeI.out) (.cons (by exact TakeI.out) (.cons (by exact TakeI.out) .rfl))))
  · unfold Step
    simp only [List.drop_succ_cons, List.drop_zero, List.take_succ_cons, List.take_zero]
    repeat' (first | (refine isO ?_; first | refine oo (Pc rfl) ?_ | refine oo (Pa rfl (by omega) (by omega)) ?_ | (refine ob rfl ?_ ?_ <;> intro hq <;> try (exfalso; omega)) | refine oo (Pi rfl (by omega)) ?_ | refine oo (Pl rfl) ?_ | refine oo (Px rfl rfl) ?_ | refine oo (Pj rfl (by omega) (by omega)) ?_ | refine oo (Pk rfl (by omega) (by omega)) ?_ | refine oo (Pf rfl) ?_ | refine oo (Pv rfl (by omega) (by omega)) ?_ | refine oo (Pn rfl) ?_ | refine oo (Pm rfl) ?_ | refine os rfl rfl ?_ | refine ot rfl (by omega) ?_ | refine O_nil ?_) | refine wo rfl ?_ | refine wc rfl ?_ | refine wg rfl ?_ | refine go rfl ?_ | refine gc rfl ?_ | refine gg rfl ?_)
    refine G_fin ⟨rfl, ?_⟩
    refine OA_step (rs := [0]) (by kernel_rfl) rfl (by decide) (List.forall_mem_cons.2 ⟨?_, List.forall_mem_nil _⟩)
    unfold Step
    simp only [List.drop_succ_cons, List.drop_zero, List.take_succ_cons, List.take_zero]
    repeat' (first | (refine isO ?_; first | refine oo (Pc rfl) ?_ | refine oo (Pa rfl (by omega) (by omega)) ?_ | (refine ob rfl ?_ ?_ <;> intro hq <;> try (exfalso; omega)) | refine oo (Pi rfl (by omega)) ?_ | refine oo (Pl rfl) ?_ | refine oo (Px rfl rfl) ?_ | refine oo (Pj rfl (by omega) (by omega)) ?_ | refine oo (Pk rfl (by omega) (by omega)) ?_ | refine oo (Pf rfl) ?_ | refine oo (Pv rfl (by omega) (by omega)) ?_ | refine oo (Pn rfl) ?_ | refine oo (Pm rfl) ?_ | refine os rfl rfl ?_ | refine ot rfl (by omega) ?_ | refine O_nil ?_) | refine wo rfl ?_ | refine wc rfl ?_ | refine wg rfl ?_ | refine go rfl ?_ | refine gc rfl ?_ | refine gg rfl ?_)
    refine G_fin ⟨rfl, ?_⟩
    refine OA_seq 2 (by kernel_rfl) rfl ?_
    simp only [List.drop_succ_cons, List.drop_zero]
    repeat' (first | (refine isO ?_; first | refine oo (Pc rfl) ?_ | refine oo (Pa rfl (by omega) (by omega)) ?_ | (refine ob rfl ?_ ?_ <;> intro hq <;> try (exfalso; omega)) | refine oo (Pi rfl (by omega)) ?_ | refine oo (Pl rfl) ?_ | refine oo (Px rfl rfl) ?_ | refine oo (Pj rfl (by omega) (by omega)) ?_ | refine oo (Pk rfl (by omega) (by omega)) ?_ | refine oo (Pf rfl) ?_ | refine oo (Pv rfl (by omega) (by omega)) ?_ | refine oo (Pn rfl) ?_ | refine oo (Pm rfl) ?_ | refine os rfl rfl ?_ | refine ot rfl (by omega) ?_ | refine O_nil ?_) | refine wo rfl ?_ | refine wc rfl ?_ | refine wg rfl ?_ | refine go rfl ?_ | refine gc rfl ?_ | refine gg rfl ?_)
    exact hfin _ _ rfl rfl rfl (.cons (by exact TakeI.out) (.cons (by exact TakeI.out) (.cons (by exact TakeI.out) (.cons (by exact TakeI.out) .rfl))))

end Go.Proofs.Ytjkpfliaflmppaa.Pc

namespace Go.Proofs.Ytjkpfliaflmppaa.Pc
open Go Go.RowKit Go.Proofs.Ytjkpfliaflmppaa.Vm Go.Proofs.Ytjkpfliaflmppaa.Bu Go.Proofs.Ytjkpfliaflmppaa.Wr Go.Proofs.Ytjkpfliaflmppaa.Sf

set_option maxHeartbeats 2000000 in
theorem writeTry38_c (l : List Pt) (cs : List Cd) (xs : List Nat) (big : Bool) (fl : Nat) (hfl : fl ≤ 60) (s0 s2 : Value) (cb cap : Nat) (own : Bool) (sp : List Value) (M : Mem) (hs : Ps s0 l M) (hL : LightP l) (hN : Numbered cs) (hV : ∀ i, i < cs.length → (cs.getD i Cd.zero).val < 2 ^ (cs.getD i Cd.zero).len) (hr : Rs s2 (mkR 0 xs) M) (hok : OkN xs)
    (bits : List Nat) (hall : wTo cs xs big l l.length = some bits) (hbits : Bits bits l.length) :
    HC Try.prog 38 #[s0, .slice (some ⟨cb, 0, none⟩) cs.length cap, s2, .bool big, .int .i64 fl] (⟨own, cb, 0, codesV cs ++ sp⟩ :: M)
      (fun v M' => ∃ b c sp2, v = .tuple #[.slice (some ⟨b, 0, none⟩) ((bits.length + 7) / 8) c, .int .i64 bits.length, .bool true] ∧ Rk M' (⟨true, b, 0, ib (pkL big bits ((bits.length + 7) / 8) bits.length) ++ sp2⟩ :: M)) := by
  have e0 := hs.one
  have e2 := hr.one
  refine HC_of_WM (fn := Try.f38) Try.func38 rfl rfl rfl rfl ?_
  repeat' (first | (refine isO ?_; first | refine oo (Pc rfl) ?_ | refine oo (Pa rfl (by omega) (by omega)) ?_ | (refine ob rfl ?_ ?_ <;> intro hq <;> try (exfalso; omega)) | refine oo (Pi rfl (by omega)) ?_ | refine oo (Pl rfl) ?_ | refine oo (Px rfl rfl) ?_ | refine oo (Pj rfl (by omega) (by omega)) ?_ | refine oo (Pk rfl (by omega) (by omega)) ?_ | refine oo (Pf rfl) ?_ | refine oo (Pv rfl (by omega) (by omega)) ?_ | refine oo (Pn rfl) ?_ | refine oo (Pm rfl) ?_ | refine os rfl rfl ?_ | refine ot rfl (by omega) ?_ | refine O_nil ?_) | refine wo rfl ?_ | refine wc rfl ?_ | refine wg rfl ?_ | refine go rfl ?_ | refine gc rfl ?_ | refine gg rfl ?_)
  refine O_box rfl trivial rfl fun b4 => ?_
  refine O_box rfl trivial rfl fun b5 => ?_
  refine O_box rfl trivial rfl fun b6 => ?_
  refine O_box rfl trivial rfl fun b7 => ?_
  refine O_box rfl trivial rfl fun bf => ?_
  refine O_alloc zero22 trivial rfl fun b8 => ?_
  refine O_alloc zero2 trivial rfl fun b9 => ?_
  refine O_alloc zero4 trivial rfl fun b10 => ?_
  rw [e0, e2]
  repeat' (first | (refine isO ?_; first | refine oo (Pc rfl) ?_ | refine oo (Pa rfl (by omega) (by omega)) ?_ | (refine ob rfl ?_ ?_ <;> intro hq <;> try (exfalso; omega)) | refine oo (Pi rfl (by omega)) ?_ | refine oo (Pl rfl) ?_ | refine oo (Px rfl rfl) ?_ | refine oo (Pj rfl (by omega) (by omega)) ?_ | refine oo (Pk rfl (by omega) (by omega)) ?_ | refine oo (Pf rfl) ?_ | refine oo (Pv rfl (by omega) (by omega)) ?_ | refine oo (Pn rfl) ?_ | refine oo (Pm rfl) ?_ | refine os rfl rfl ?_ | refine ot rfl (by omega) ?_ | refine O_nil ?_) | refine wo rfl ?_ | refine wc rfl ?_ | refine wg rfl ?_ | refine go rfl ?_ | refine gc rfl ?_ | refine gg rfl ?_)
  refine O_call rfl rfl Tb.k39 trivial rfl (safe_c (f := 86) (R := fun M' => ∃ b c sp2, Rk M' (⟨true, b9, 0, [.int .i64 bits.length]⟩ :: ⟨true, b8, 0, [.slice (some ⟨b, 0, none⟩) ((bits.length + 7) / 8) c]⟩ :: ⟨true, b10, 0, [.bool true]⟩ :: ⟨true, b, 0, ib (pkL big bits ((bits.length + 7) / 8) bits.length) ++ sp2⟩ :: M)) Tb.k86 fun bs => ?_) ?_
  · refine (HCp.take (.cons (by exact TakeI.out) (.cons (by exact TakeI.out) (.cons (by exact TakeI.out) (.cons (by exact TakeI.out) (.cons (by exact TakeI.out) (.cons (by exact TakeI.out) (.cons (by exact TakeI.out) (.cons (by exact TakeI.out) (.cons (by exact TakeI.out) .rfl)))))))))
      (fin86_c b7 b5 b6 b4 bf b9 b8 b10 fl hfl l cs xs big s0 s2 cb cap own sp (⟨true, bs, 0, [.bool false]⟩ :: M) (hs.mono fun _ hx => .tail _ hx) hL hN hV (hr.mono fun _ hx => .tail _ hx) hok bits hall hbits)).mono ?_
    rintro v M' ⟨b, c, sp2, ys, hys, hrk⟩
    have hy := padded_eq hys hbits.2
    have hyl : ys.length = (bits.length + 7) / 8 := by rw [hy, pkL_length]
    rw [hyl] at hrk
    rw [hy] at hrk
    exact ⟨_, .trans hrk (.cons (.tail (.tail (.tail (.tail .head)))) .rfl), b, c, sp2, .rfl⟩
  rintro v M' ⟨rfl, b, c, sp2, hrk⟩
  refine O_weak hrk ?_
  clear hrk
  repeat' (first | (refine isO ?_; first | refine oo (Pc rfl) ?_ | refine oo (Pa rfl (by omega) (by omega)) ?_ | (refine ob rfl ?_ ?_ <;> intro hq <;> try (exfalso; omega)) | refine oo (Pi rfl (by omega)) ?_ | refine oo (Pl rfl) ?_ | refine oo (Px rfl rfl) ?_ | refine oo (Pj rfl (by omega) (by omega)) ?_ | refine oo (Pk rfl (by omega) (by omega)) ?_ | refine oo (Pf rfl) ?_ | refine oo (Pv rfl (by omega) (by omega)) ?_ | refine oo (Pn rfl) ?_ | refine oo (Pm rfl) ?_ | refine os rfl rfl ?_ | refine ot rfl (by omega) ?_ | refine O_nil ?_) | refine wo rfl ?_ | refine wc rfl ?_ | refine wg rfl ?_ | refine go rfl ?_ | refine gc rfl ?_ | refine gg rfl ?_)
  generalize (bits.length + 7) / 8 = L at *
  have hfin : ∀ E M2, E.get? 10 = some (.pointer (some ⟨b8, 0, none⟩)) → E.get? 11 = some (.pointer (some ⟨b9, 0, none⟩)) → E.get? 12 = some (.pointer (some ⟨b10, 0, none⟩)) →
      Rk M2 (⟨true, b8, 0, [.slice (some ⟨b, 0, none⟩) L c]⟩ :: ⟨true, b9, 0, [.int .i64 bits.length]⟩ :: ⟨true, b10, 0, [.bool true]⟩ :: ⟨true, b, 0, ib (pkL big bits L bits.length) ++ sp2⟩ :: M) →
      G false Try.prog ⟨Try.f38.ntmps, []⟩ (EndsM Try.prog Try.f38.results.toList fun v M' => ∃ b c sp2, v = .tuple #[.slice (some ⟨b, 0, none⟩) L c, .int .i64 bits.length, .bool true] ∧ Rk M' (⟨true, b, 0, ib (pkL big bits L bits.length) ++ sp2⟩ :: M)) .ret [] E M2 := by
    intro E M2 h8 h9 h10 hr
    exact G_fin ⟨[.slice (some ⟨b, 0, none⟩) L c, .int .i64 bits.length, .bool true], ⟨⟨_, _, _, _, _, h8, hr.all.1 _ (.head _), Try.underlying22, rfl⟩, ⟨_, _, _, _, _, h9, hr.all.1 _ (.tail _ (.head _)), Try.underlying2, rfl⟩, ⟨_, _, _, _, _, h10, hr.all.1 _ (.tail _ (.tail _ (.head _))), Try.underlying4, rfl⟩, trivial⟩,
      b, c, sp2, rfl, .trans hr (.drop (.drop (.drop .rfl)))⟩
  refine W_region_any Tb.mixed ?_
  refine OA_step (rs := [0, 1]) (by kernel_rfl) rfl (by decide) (List.forall_mem_cons.2 ⟨?_, List.forall_mem_cons.2 ⟨?_, List.forall_mem_nil _⟩⟩)
  · unfold Step
    simp only [List.drop_succ_cons, List.drop_zero, List.take_succ_cons, List.take_zero]
    repeat' (first | (refine isO ?_; first | refine oo (Pc rfl) ?_ | refine oo (Pa rfl (by omega) (by omega)) ?_ | (refine ob rfl ?_ ?_ <;> intro hq <;> try (exfalso; omega)) | refine oo (Pi rfl (by omega)) ?_ | refine oo (Pl rfl) ?_ | refine oo (Px rfl rfl) ?_ | refine oo (Pj rfl (by omega) (by omega)) ?_ | refine oo (Pk rfl (by omega) (by omega)) ?_ | refine oo (Pf rfl) ?_ | refine oo (Pv rfl (by omega) (by omega)) ?_ | refine oo (Pn rfl) ?_ | refine oo (Pm rfl) ?_ | refine os rfl rfl ?_ | refine ot rfl (by omega) ?_ | refine O_nil ?_) | refine wo rfl ?_ | refine wc rfl ?_ | refine wg rfl ?_ | refine go rfl ?_ | refine gc rfl ?_ | refine gg rfl ?_)
    refine G_fin ⟨rfl, ?_⟩
    refine OA_step (rs := [1, 2]) (by kernel_rfl) rfl (by decide) (List.forall_mem_cons.2 ⟨?_, List.forall_mem_cons.2 ⟨?_, List.forall_mem_nil _⟩⟩)
    · unfold Step
      simp only [List.drop_succ_cons, List.drop_zero, List.take_succ_cons, List.take_zero]
      repeat' (first | (refine isO ?_; first | refine oo (Pc rfl) ?_ | refine oo (Pa rfl (by omega) (by omega)) ?_ | (refine ob rfl ?_ ?_ <;> intro hq <;> try (exfalso; omega)) | refine oo (Pi rfl (by omega)) ?_ | refine oo (Pl rfl) ?_ | refine oo (Px rfl rfl) ?_ | refine oo (Pj rfl (by omega) (by omega)) ?_ | refine oo (Pk rfl (by omega) (by omega)) ?_ | refine oo (Pf rfl) ?_ | refine oo (Pv rfl (by omega) (by omega)) ?_ | refine oo (Pn rfl) ?_ | refine oo (Pm rfl) ?_ | refine os rfl rfl ?_ | refine ot rfl (by omega) ?_ | refine O_nil ?_) | refine wo rfl ?_ | refine wc rfl ?_ | refine wg rfl ?_ | refine go rfl ?_ | refine gc rfl ?_ | refine gg rfl ?_)
      refine G_fin ⟨rfl, ?_⟩
      refine OA_seq 2 (by kernel_rfl) rfl ?_
      simp only [List.drop_succ_cons, List.drop_zero]
      repeat' (first | (refine isO ?_; first | refine oo (Pc rfl) ?_ | refine oo (Pa rfl (by omega) (by omega)) ?_ | (refine ob rfl ?_ ?_ <;> intro hq <;> try (exfalso; omega)) | refine oo (Pi rfl (by omega)) ?_ | refine oo (Pl rfl) ?_ | refine oo (Px rfl rfl) ?_ | refine oo (Pj rfl (by omega) (by omega)) ?_ | refine oo (Pk rfl (by omega) (by omega)) ?_ | refine oo (Pf rfl) ?_ | refine oo (Pv rfl (by omega) (by omega)) ?_ | refine oo (Pn rfl) ?_ | refine oo (Pm rfl) ?_ | refine os rfl rfl ?_ | refine ot rfl (by omega) ?_ | refine O_nil ?_) | refine wo rfl ?_ | refine wc rfl ?_ | refine wg rfl ?_ | refine go rfl ?_ | refine gc rfl ?_ | refine gg rfl ?_)
      exact hfin _ _ rfl rfl rfl (.cons (by exact TakeI.out) (.cons (by exact TakeI.out) (.cons (by exact TakeI.out) (.cons (by exact TakeI.out) .rfl))))
    · unfold Step
      simp only [List.drop_succ_cons, List.drop_zero, List.take_succ_cons, List.take_zero]
      repeat' (first | (refine isO ?_; first | refine oo (Pc rfl) ?_ | refine oo (Pa rfl (by omega) (by omega)) ?_ | (refine ob rfl ?_ ?_ <;> intro hq <;> try (exfalso; omega)) | refine oo (Pi rfl (by omega)) ?_ | refine oo (Pl rfl) ?_ | refine oo (Px rfl rfl) ?_ | refine oo (Pj rfl (by omega) (by omega)) ?_ | refine oo (Pk rfl (by omega) (by omega)) ?_ | refine oo (Pf rfl) ?_ | refine oo (Pv rfl (by omega) (by omega)) ?_ | refine oo (Pn rfl) ?_ | refine oo (Pm rfl) ?_ | refine os rfl rfl ?_ | refine ot rfl (by omega) ?_ | refine O_nil ?_) | refine wo rfl ?_ | refine wc rfl ?_ | refine wg rfl ?_ | refine go rfl ?_ | refine gc rfl ?_ | refine gg rfl ?_)
      refine G_fin ⟨rfl, ?_⟩
      refine OA_step (rs := [1]) (by kernel_rfl) rfl (by decide) (List.forall_mem_cons.2 ⟨?_, List.forall_mem_nil _⟩)
      unfold Step
      simp only [List.drop_succ_cons, List.drop_zero, List.take_succ_cons, List.take_zero]
      repeat' (first | (refine isO ?_; first | refine oo (Pc rfl) ?_ | refine oo (Pa rfl (by omega) (by omega)) ?_ | (refine ob rfl ?_ ?_ <;> intro hq <;> try (exfalso; omega)) | refine oo (Pi rfl (by omega)) ?_ | refine oo (Pl rfl) ?_ | refine oo (Px rfl rfl) ?_ | refine oo (Pj rfl (by omega) (by omega)) ?_ | refine oo (Pk rfl (by omega) (by omega)) ?_ | refine oo (Pf rfl) ?_ | refine oo (Pv rfl (by omega) (by omega)) ?_ | refine oo (Pn rfl) ?_ | refine oo (Pm rfl) ?_ | refine os rfl rfl ?_ | refine ot rfl (by omega) ?_ | refine O_nil ?_) | refine wo rfl ?_ | refine wc rfl ?_ | refine wg rfl ?_ | refine go rfl ?_ | refine gc rfl ?_ | refine gg rfl ?_)
      refine G_fin ⟨rfl, ?_⟩
      refine OA_seq 3 (by kernel_rfl) rfl ?_
      simp only [List.drop_succ_cons, List.drop_zero]
      repeat' (first | (refine isO ?_; first | refine oo (Pc rfl) ?_ | refine oo (Pa rfl (by omega) (by omega)) ?_ | (refine ob rfl ?_ ?_ <;> intro hq <;> try (exfalso; omega)) | refine oo (Pi rfl (by omega)) ?_ | refine oo (Pl rfl) ?_ | refine oo (Px rfl rfl) ?_ | refine oo (Pj rfl (by omega) (by omega)) ?_ | refine oo (Pk rfl (by omega) (by omega)) ?_ | refine oo (Pf rfl) ?_ | refine oo (Pv rfl (by omega) (by omega)) ?_ | refine oo (Pn rfl) ?_ | refine oo (Pm rfl) ?_ | refine os rfl rfl ?_ | refine ot rfl (by omega) ?_ | refine O_nil ?_) | refine wo rfl ?_ | refine wc rfl ?_ | refine wg rfl ?_ | refine go rfl ?_ | refine gc rfl ?_ | refine gg rfl ?_)
      exact hfin _ _ rfl rfl rfl (.cons (by exact TakeI.out) (.cons (by exact TakeI.out) (.cons (by exact TakeI.out) (.cons (by exact TakeI.out) .rfl))))
  · unfold Step
    simp only [List.drop_succ_cons, List.drop_zero, List.take_succ_cons, List.take_zero]
    repeat' (first | (refine isO ?_; first | refine oo (Pc rfl) ?_ | refine oo (Pa rfl (by omega) (by omega)) ?_ | (refine ob rfl ?_ ?_ <;> intro hq <;> try (exfalso; omega)) | refine oo (Pi rfl (by omega)) ?_ | refine oo (Pl rfl) ?_ | refine oo (Px rfl rfl) ?_ | refine oo (Pj rfl (by omega) (by omega)) ?_ | refine oo (Pk rfl (by omega) (by omega)) ?_ | refine oo (Pf rfl) ?_ | refine oo (Pv rfl (by omega) (by omega)) ?_ | refine oo (Pn rfl) ?_ | refine oo (Pm rfl) ?_ | refine os rfl rfl ?_ | refine ot rfl (by omega) ?_ | refine O_nil ?_) | refine wo rfl ?_ | refine wc rfl ?_ | refine wg rfl ?_ | refine go rfl ?_ | refine gc rfl ?_ | refine gg rfl ?_)
    refine G_fin ⟨rfl, ?_⟩
    refine OA_step (rs := [0]) (by kernel_rfl) rfl (by decide) (List.forall_mem_cons.2 ⟨?_, List.forall_mem_nil _⟩)
    unfold Step
    simp only [List.drop_succ_cons, List.drop_zero, List.take_succ_cons, List.take_zero]
    repeat' (first | (refine isO ?_; first | refine oo (Pc rfl) ?_ | refine oo (Pa rfl (by omega) (by omega)) ?_ | (refine ob rfl ?_ ?_ <;> intro hq <;> try (exfalso; omega)) | refine oo (Pi rfl (by omega)) ?_ | refine oo (Pl rfl) ?_ | refine oo (Px rfl rfl) ?_ | refine oo (Pj rfl (by omega) (by omega)) ?_ | refine oo (Pk rfl (by omega) (by omega)) ?_ | refine oo (Pf rfl) ?_ | refine oo (Pv rfl (by omega) (by omega)) ?_ | refine oo (Pn rfl) ?_ | refine oo (Pm rfl) ?_ | refine os rfl rfl ?_ | refine ot rfl (by omega) ?_ | refine O_nil ?_) | refine wo rfl ?_ | refine wc rfl ?_ | refine wg rfl ?_ | refine go rfl ?_ | refine gc rfl ?_ | refine gg rfl ?_)
    refine G_fin ⟨rfl, ?_⟩
    refine OA_seq 2 (by kernel_rfl) rfl ?_
    simp only [List.drop_succ_cons, List.drop_zero]
    repeat' (first | (refine isO ?_; first | refine oo (Pc rfl) ?_ | refine oo (Pa rfl (by omega) (by omega)) ?_ | (refine ob rfl ?_ ?_ <;> intro hq <;> try (exfalso; omega)) | refine oo (Pi rfl (by omega)) ?_ | refine oo (Pl rfl) ?_ | refine oo (Px rfl rfl) ?_ | refine oo (Pj rfl (by omega) (by omega)) ?_ | refine oo (Pk rfl (by omega) (by omega)) ?_ | refine oo (Pf rfl) ?_ | refine oo (Pv rfl (by omega) (by omega)) ?_ | refine oo (Pn rfl) ?_ | refine oo (Pm rfl) ?_ | refine os rfl rfl ?_ | refine ot rfl (by omega) ?_ | refine O_nil ?_) | refine wo rfl ?_ | refine wc rfl ?_ | refine wg rfl ?_ | refine go rfl ?_ | refine gc rfl ?_ | refine gg rfl ?_)
    exact hfin _ _ rfl rfl rfl (.cons (by exact TakeI.out) (.cons (by exact TakeI.out) (.cons (by exact TakeI.out) (.cons (by exact TakeI.out) .rfl))))

end Go.Proofs.Ytjkpfliaflmppaa.Pc

namespace Go.Proofs.Ytjkpfliaflmppaa.Vm
open Go Go.RowKit
theorem b2s {P : Program} {w : World} (f : Value → ByteArray → Sem (ForInStep ByteArray)) (hf : ∀ (y : Int) s, f (.int .u8 y) s = pure (.yield (s.push (UInt8.ofNat y.toNat)))) (ys : List Int) (s0 : ByteArray) :
    (forIn (ints .u8 ys) s0 f).run P w = .ok (ys.foldl (fun s y => s.push (UInt8.ofNat y.toNat)) s0) w := by
  induction ys generalizing s0 with
  | nil => simp [ints]
  | cons y ys ih => 
    simp only [ints, List.map_cons, List.forIn_cons, List.foldl_cons, hf] at ih ⊢
    have h := ih (s0.push (UInt8.ofNat y.toNat))
    simpa using h
theorem run_b2s {a : Addr} {n c : Nat} {ys : List Int} {P : Program} {w : World} (h : (loadCells a n).run P w = .ok (ints .u8 ys).toArray w) :
    (Conv.bytesToString (.slice (some a) n c)).run P w = .ok (.string (ys.foldl (fun s y => s.push (UInt8.ofNat y.toNat)) ByteArray.empty)) w := by
  unfold Conv.bytesToString
  simp [h]
  rw [b2s _ (fun y s => rfl)]
  simp
theorem P_toStr {P : Program} {N : Fm} {E : Env} {M : Mem} {t t2 e : TypeId} {x : Operand} {b o n cap : Nat} {own : Bool} {l : List Value} {ys : List Int} (ht : Und P t (.slice e)) (he : Und P e (.int .u8)) (ht2 : Und P t2 .string) (hx : ev E x = some (.slice (some ⟨b, o, none⟩) n cap))
    (hm : (⟨own, b, o, l⟩ : Sg) ∈ M) (hl : l.take n = ints .u8 ys) (hn : n ≤ l.length) : Pure P N E M (.convert t t2 x) (.string (ys.foldl (fun s y => s.push (UInt8.ofNat y.toNat)) ByteArray.empty)) := by
  constructor
  intro pr base w0 a w hA hS d ty pos after g
  have h1 : (loadCells ⟨b, o, none⟩ n).run P w = .ok (ints .u8 ys).toArray w := by
    have := run_loadCells (P := P) (i := 0) (n := n) (hS.seg _ hm) (by simpa using hn)
    rw [← hl]
    simpa using this
  have h2 := run_b2s (c := cap) h1
  simp [execOp, hA.eval hx, convert, ht.run, ht2.run, he.run, h2]
theorem P_eqStr {P : Program} {N : Fm} {E : Env} {M : Mem} {t t2 : TypeId} {x y : Operand} {s : ByteArray} (ht : Und P t .string) (hx : ev E x = some (.string s)) (hy : ev E y = some (.string s)) : Pure P N E M (.binOp .eql t x y t2) (.bool true) := by
  constructor
  intro pr base w0 a w hA hS d ty pos after g
  simp [execOp, hA.eval hx, hA.eval hy, binOp, eqGuard, Op.stringOp, ht.run]
end Go.Proofs.Ytjkpfliaflmppaa.Vm

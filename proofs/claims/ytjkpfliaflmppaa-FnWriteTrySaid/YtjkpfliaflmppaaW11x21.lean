/- The bit Writer's Flush, walked, wherever its bytes go on to; Write. The bit Writer's calls, walked, by the bits that were written so far. The bit Writer's Write and WriteOffset, walked, by the bits that were written so far. The bit Writer's WriteOffset, TryWriteBits and TryWriteSymbol, walked, by the bits that were written so far. -/
import Derived.Test.YtjkpfliaflmppaaW11x10
import Derived.Test.YtjkpfliaflmppaaW11x12
import Derived.Test.YtjkpfliaflmppaaW11x18
import Derived.Test.YtjkpfliaflmppaaW11x13
import Derived.Test.YtjkpfliaflmppaaW11x20

namespace Go.Proofs.Ytjkpfliaflmppaa.Wr
open Go Go.RowKit Go.Proofs.Ytjkpfliaflmppaa.Vm Go.Proofs.Ytjkpfliaflmppaa.Bu

theorem flushg_c (wb bb off : Nat) (v nb : Nat) (big : Bool) (buf : List Int) (cnt : Nat) (s : Value) (out : List Int) (m : Mem) (lr : Int) (F : Mem) (hbuf : buf.length = 512) (hcnt : cnt < 504) (hv : v < 2 ^ 64) (hnb : nb ≤ 64)
    (hB : Bg s out m) (hout : out.length ≤ 1000000000) (hoff : off ≤ 1099511627776) :
    HC Try.prog 61 #[.pointer (some ⟨wb, 0, none⟩)] (Wa wb off (.iface 101 (.pointer (some ⟨bb, 0, none⟩))) v nb big :: Wb wb buf :: Wc wb cnt :: ⟨true, bb, 0, [s, .int .i64 0, .int .i8 lr]⟩ :: (m ++ F))
      (fun r M' => (∃ z, r = .tuple #[z, .nilIface]) ∧ ∃ buf' s' m' lr', buf'.length = 512 ∧ Bg s' (out ++ (lay8 buf cnt (sw big v)).take (cnt + nb / 8)) m' ∧
        Rk M' (Wa wb (off + (cnt + nb / 8)) (.iface 101 (.pointer (some ⟨bb, 0, none⟩))) (v / 2 ^ (8 * (nb / 8))) (nb % 8) big :: Wb wb buf' :: Wc wb 0 :: ⟨true, bb, 0, [s', .int .i64 0, .int .i8 lr']⟩ :: (m' ++ F))) := by
  refine HC_of_W (fn := Try.f61) Try.func61 rfl rfl rfl rfl ?_
  have hp := push_c wb off (.iface 101 (.pointer (some ⟨bb, 0, none⟩))) v nb big buf cnt (⟨true, bb, 0, [s, .int .i64 0, .int .i8 lr]⟩ :: (m ++ F)) hbuf hcnt hv hnb
  unfold Wa Wb Wc at *
  repeat' (first | (refine isO ?_; first | refine oo (Pc rfl) ?_ | refine oo (Pa rfl (by omega) (by omega)) ?_ | (refine ob rfl ?_ ?_ <;> intro hq <;> try (exfalso; omega)) | refine oo (Pi rfl (by omega)) ?_ | refine oo (Pl rfl) ?_ | refine oo (Px rfl rfl) ?_ | refine oo (Pj rfl (by omega) (by omega)) ?_ | refine oo (Pk rfl (by omega) (by omega)) ?_ | refine oo (Pf rfl) ?_ | refine oo (Pv rfl (by omega) (by omega)) ?_ | refine oo (Pn rfl) ?_ | refine oo (Pm rfl) ?_ | refine os rfl rfl ?_ | refine ot rfl (by omega) ?_ | refine O_nil ?_) | refine wo rfl ?_ | refine wc rfl ?_ | refine wg rfl ?_ | refine go rfl ?_ | refine gc rfl ?_ | refine gg rfl ?_)
  · obtain rfl : cnt = 0 := by omega
    have h0 : nb / 8 = 0 := by omega
    refine G_fin ⟨_, rfl, ⟨_, rfl⟩, buf, s, m, lr, hbuf, by rw [h0]; simpa using hB, ?_⟩
    rw [h0, show nb % 8 = nb by omega]
    simp only [Nat.mul_zero, Nat.pow_zero, Nat.div_one, Nat.add_zero]
    repeat (first | exact .rfl | exact .nil | (apply Rk.cons; (· exact TakeI.out)) | refine .drop ?_)
  all_goals
    refine O_call rfl rfl Tb.k99 trivial rfl hp ?_
    rintro _ M' ⟨rfl, hrk⟩
    refine O_weak hrk ?_
    repeat' (first | (refine isO ?_; first | refine oo (Pc rfl) ?_ | refine oo (Pa rfl (by omega) (by omega)) ?_ | (refine ob rfl ?_ ?_ <;> intro hq <;> try (exfalso; omega)) | refine oo (Pi rfl (by omega)) ?_ | refine oo (Pl rfl) ?_ | refine oo (Px rfl rfl) ?_ | refine oo (Pj rfl (by omega) (by omega)) ?_ | refine oo (Pk rfl (by omega) (by omega)) ?_ | refine oo (Pf rfl) ?_ | refine oo (Pv rfl (by omega) (by omega)) ?_ | refine oo (Pn rfl) ?_ | refine oo (Pm rfl) ?_ | refine os rfl rfl ?_ | refine ot rfl (by omega) ?_ | refine O_nil ?_) | refine wo rfl ?_ | refine wc rfl ?_ | refine wg rfl ?_ | refine go rfl ?_ | refine gc rfl ?_ | refine gg rfl ?_)
    refine O_pure (P_err_ne Tb.i82 rfl rfl) trivial rfl ?_
    repeat' (first | (refine isO ?_; first | refine oo (Pc rfl) ?_ | refine oo (Pa rfl (by omega) (by omega)) ?_ | (refine ob rfl ?_ ?_ <;> intro hq <;> try (exfalso; omega)) | refine oo (Pi rfl (by omega)) ?_ | refine oo (Pl rfl) ?_ | refine oo (Px rfl rfl) ?_ | refine oo (Pj rfl (by omega) (by omega)) ?_ | refine oo (Pk rfl (by omega) (by omega)) ?_ | refine oo (Pf rfl) ?_ | refine oo (Pv rfl (by omega) (by omega)) ?_ | refine oo (Pn rfl) ?_ | refine oo (Pm rfl) ?_ | refine os rfl rfl ?_ | refine ot rfl (by omega) ?_ | refine O_nil ?_) | refine wo rfl ?_ | refine wc rfl ?_ | refine wg rfl ?_ | refine go rfl ?_ | refine gc rfl ?_ | refine gg rfl ?_)
    refine W_region_mid 14 Tb.mixed (by kernel_rfl) ?_
    simp only [List.take_succ_cons, List.take_zero, List.drop_succ_cons, List.drop_zero]
    repeat' (first | (refine isS ?_; first | refine ss (Pc rfl) ?_ | refine ss (Pa rfl (by omega) (by omega)) ?_ | (refine sb rfl ?_ ?_ <;> intro hq <;> try (exfalso; omega)) | refine ss (Pi rfl (by omega)) ?_ | refine ss (Pl rfl) ?_ | refine ss (Px rfl rfl) ?_ | refine ss (Pj rfl (by omega) (by omega)) ?_ | refine ss (Pk rfl (by omega) (by omega)) ?_ | refine ss (Pf rfl) ?_ | refine ss (Pv rfl (by omega) (by omega)) ?_ | refine ss (Pn rfl) ?_ | refine ss (Pm rfl) ?_ | refine OS_nil ?_))
    refine OS_pure (P_sliceA1E (o' := 5) (len' := cnt + nb / 8) (cap' := 512) Tb.u97 Tb.c5 rfl rfl ⟨_, rfl⟩ (by omega) (by omega) (by omega) (by omega) rfl (by omega) (by omega)) trivial rfl ?_
    refine OS_pure (P_nilI rfl) trivial rfl ?_
    repeat' (first | (refine isS ?_; first | refine ss (Pc rfl) ?_ | refine ss (Pa rfl (by omega) (by omega)) ?_ | (refine sb rfl ?_ ?_ <;> intro hq <;> try (exfalso; omega)) | refine ss (Pi rfl (by omega)) ?_ | refine ss (Pl rfl) ?_ | refine ss (Px rfl rfl) ?_ | refine ss (Pj rfl (by omega) (by omega)) ?_ | refine ss (Pk rfl (by omega) (by omega)) ?_ | refine ss (Pf rfl) ?_ | refine ss (Pv rfl (by omega) (by omega)) ?_ | refine ss (Pn rfl) ?_ | refine ss (Pm rfl) ?_ | refine OS_nil ?_))
    refine O_invoke rfl rfl (meth_write bb _) trivial rfl (HCp.take (L := ⟨true, bb, 0, [s, .int .i64 0, .int .i8 lr]⟩ :: (m ++ (Wa wb off (.iface 101 (.pointer (some ⟨bb, 0, none⟩))) (v / 2 ^ (8 * (nb / 8))) (nb % 8) big :: Wb wb (lay8 buf cnt (sw big v)) :: Wc wb (cnt + nb / 8) :: F)))
      (.cons (by exact TakeI.out) (.perm (List.perm_append_comm_assoc [_, _, _] m F)))
      (writeg_c bb s out ((lay8 buf cnt (sw big v)).take (cnt + nb / 8)) m _ (cnt + nb / 8) _ lr _ hB (by rw [List.length_take, lay8_length]; omega) (by omega)
        (.inr ⟨true, wb, 5, ints .u8 (lay8 buf cnt (sw big v)), 0, rfl, .tail _ (.head _), by rw [ints_length, lay8_length]; omega, by simp [ints, List.map_take], ints_one⟩))) ?_
    rintro _ M' ⟨rfl, s', m', hB', hrk'⟩
    refine O_weak (M' := Wa wb off (.iface 101 (.pointer (some ⟨bb, 0, none⟩))) (v / 2 ^ (8 * (nb / 8))) (nb % 8) big :: Wb wb (lay8 buf cnt (sw big v)) :: Wc wb (cnt + nb / 8) :: ⟨true, bb, 0, [s', .int .i64 0, .int .i8 0]⟩ :: (m' ++ F))
      (.trans hrk' (.trans (.perm (.cons _ (List.perm_append_comm_assoc m' [_, _, _] F))) (.cons (.tail .head) (.cons (.tail .head) (.cons (.tail .head) .rfl))))) ?_
    refine O_nil (G_fin ⟨rfl, ?_⟩)
    unfold Wa Wb Wc
    repeat' (first | (refine isS ?_; first | refine ss (Pc rfl) ?_ | refine ss (Pa rfl (by omega) (by omega)) ?_ | (refine sb rfl ?_ ?_ <;> intro hq <;> try (exfalso; omega)) | refine ss (Pi rfl (by omega)) ?_ | refine ss (Pl rfl) ?_ | refine ss (Px rfl rfl) ?_ | refine ss (Pj rfl (by omega) (by omega)) ?_ | refine ss (Pk rfl (by omega) (by omega)) ?_ | refine ss (Pf rfl) ?_ | refine ss (Pv rfl (by omega) (by omega)) ?_ | refine ss (Pn rfl) ?_ | refine ss (Pm rfl) ?_ | refine OS_nil ?_))
    repeat' (first | (refine isO ?_; first | refine oo (Pc rfl) ?_ | refine oo (Pa rfl (by omega) (by omega)) ?_ | (refine ob rfl ?_ ?_ <;> intro hq <;> try (exfalso; omega)) | refine oo (Pi rfl (by omega)) ?_ | refine oo (Pl rfl) ?_ | refine oo (Px rfl rfl) ?_ | refine oo (Pj rfl (by omega) (by omega)) ?_ | refine oo (Pk rfl (by omega) (by omega)) ?_ | refine oo (Pf rfl) ?_ | refine oo (Pv rfl (by omega) (by omega)) ?_ | refine oo (Pn rfl) ?_ | refine oo (Pm rfl) ?_ | refine os rfl rfl ?_ | refine ot rfl (by omega) ?_ | refine O_nil ?_) | refine wo rfl ?_ | refine wc rfl ?_ | refine wg rfl ?_ | refine go rfl ?_ | refine gc rfl ?_ | refine gg rfl ?_)
    refine G_fin ⟨_, rfl, ⟨_, rfl⟩, lay8 buf cnt (sw big v), s', m', 0, by rw [lay8_length]; exact hbuf, hB', ?_⟩
    rw [show ((0 : Nat) : Int) = ((cnt + nb / 8 : Nat) : Int) - ((cnt + nb / 8 : Nat) : Int) by omega]
    repeat (first | exact .rfl | exact .nil | (apply Rk.cons; (· exact TakeI.out)) | refine .drop ?_)
end Go.Proofs.Ytjkpfliaflmppaa.Wr

namespace Go.Proofs.Ytjkpfliaflmppaa.Wr
open Go Go.RowKit Go.Proofs.Ytjkpfliaflmppaa.Vm Go.Proofs.Ytjkpfliaflmppaa.Bu Go.Proofs.Ytjkpfliaflmppaa.Pc

theorem chunk_len (v n : Nat) (hn : n ≤ 20) : (v * 32 ||| n) &&& 31 = n := by
  have h := Nat.and_two_pow_sub_one_eq_mod (v * 32 ||| n) 5
  simp only [Nat.reducePow, Nat.reduceSub] at h
  rw [h]
  apply Nat.eq_of_testBit_eq
  intro i
  rw [show (32 : Nat) = 2 ^ 5 from rfl, Nat.testBit_mod_two_pow, Nat.testBit_or, Nat.testBit_mul_two_pow]
  by_cases hi : i < 5
  · rw [decide_eq_true hi, decide_eq_false (show ¬ 5 ≤ i by omega)]; simp
  · rw [decide_eq_false hi, Nat.testBit_lt_two_pow (Nat.lt_of_lt_of_le (show n < 2 ^ 5 by omega) (Nat.pow_le_pow_right (by omega) (by omega)))]; simp
theorem chunk_val (v n : Nat) (hn : n ≤ 20) : (v * 32 ||| n) / 2 ^ 5 = v := by
  apply Nat.eq_of_testBit_eq
  intro i
  rw [Nat.testBit_div_two_pow, Nat.testBit_or, show (32 : Nat) = 2 ^ 5 from rfl, Nat.testBit_mul_two_pow, Nat.testBit_lt_two_pow (x := n) (i := i + 5) (Nat.lt_of_lt_of_le (show n < 2 ^ 5 by omega) (Nat.pow_le_pow_right (by omega) (by omega)))]
  simp
theorem chunk_lt (v n : Nat) (hv : v < 1048576) (hn : n ≤ 20) : v * 32 ||| n < 2 ^ 32 := Nat.or_lt_two_pow (by omega) (by omega)

set_option maxHeartbeats 1000000 in
theorem sym_c (wb off : Nat) (wv : Value) (v nb : Nat) (big : Bool) (buf : List Int) (cnt : Nat) (x eb j cb cc : Nat) (ch : List Int) (cs : List Cd) (F : Mem) (hbuf : buf.length = 512) (hcnt : cnt < 504) (hv : v < 2 ^ 64) (hnb : nb ≤ 64)
    (hN : Numbered cs) (hT : EncT cs j cc ch) (hE : (EncR eb cs.length j cb cc : Sg) ∈ F) (hC : (⟨true, cb, 0, ints .u32 ch⟩ : Sg) ∈ F) (hx : x < cs.length) :
    HC Try.prog 56 #[.pointer (some ⟨wb, 0, none⟩), .int .u64 x, .pointer (some ⟨eb, 0, none⟩)] (Wa wb off wv v nb big :: Wb wb buf :: Wc wb cnt :: F)
      (fun _ M' => Rk M' (Wa wb off wv (v / 2 ^ (8 * (nb / 8)) ||| (cs.getD x Cd.zero).val * 2 ^ (nb % 8) % 2 ^ 64) (nb % 8 + (cs.getD x Cd.zero).len) big :: Wb wb (lay8 buf cnt (sw big v)) :: Wc wb (cnt + nb / 8) :: F)) := by
  obtain ⟨hj, hnj, hcc, hcl, hch⟩ := hT
  have h60 := hN.most
  have hp6 := pow6 hj
  have hch := hch x hx
  have hl := hN.len x hx
  have hvl := hN.val x hx
  unfold EncR at hE
  unfold chunkOf at hch
  have hand := and_mask (show x < 2 ^ j by omega)
  have hch : (ints .u32 ch)[x]? = some (.int .u32 (((cs.getD x Cd.zero).val * 32 ||| (cs.getD x Cd.zero).len : Nat) : Int)) := by rw [ints_get (by omega), hch]
  generalize (cs.getD x Cd.zero).val = cv at *
  generalize (cs.getD x Cd.zero).len = cl at *
  have hk1 := chunk_len cv cl hl.2
  have hk2 := chunk_val cv cl hl.2
  have hk3 := chunk_lt cv cl hvl hl.2
  generalize (cv * 32 ||| cl) = ck at *
  refine HC_of_W (fn := Try.f56) Try.func56 rfl rfl rfl rfl ?_
  repeat' (first | (refine isO ?_; first | refine oo (Pc rfl) ?_ | refine oo (Pa rfl (by omega) (by omega)) ?_ | (refine ob rfl ?_ ?_ <;> intro hq <;> try (exfalso; omega)) | refine oo (Pi rfl (by omega)) ?_ | refine oo (Pl rfl) ?_ | refine oo (Px rfl rfl) ?_ | refine oo (Pj rfl (by omega) (by omega)) ?_ | refine oo (Pk rfl (by omega) (by omega)) ?_ | refine oo (Pf rfl) ?_ | refine oo (Pv rfl (by omega) (by omega)) ?_ | refine oo (Pn rfl) ?_ | refine oo (Pm rfl) ?_ | refine os rfl rfl ?_ | refine ot rfl (by omega) ?_ | refine O_nil ?_) | refine wo rfl ?_ | refine wc rfl ?_ | refine wg rfl ?_ | refine go rfl ?_ | refine gc rfl ?_ | refine gg rfl ?_)
  refine O_call rfl rfl Tb.k99 trivial rfl (push_c wb off wv v nb big buf cnt F hbuf hcnt hv hnb) ?_
  rintro _ M' ⟨rfl, hrk⟩
  refine O_weak hrk ?_
  unfold Wa Wb Wc
  repeat' (first | (refine isO ?_; first | refine oo (Pc rfl) ?_ | refine oo (Pa rfl (by omega) (by omega)) ?_ | (refine ob rfl ?_ ?_ <;> intro hq <;> try (exfalso; omega)) | refine oo (Pi rfl (by omega)) ?_ | refine oo (Pl rfl) ?_ | refine oo (Px rfl rfl) ?_ | refine oo (Pj rfl (by omega) (by omega)) ?_ | refine oo (Pk rfl (by omega) (by omega)) ?_ | refine oo (Pf rfl) ?_ | refine oo (Pv rfl (by omega) (by omega)) ?_ | refine oo (Pn rfl) ?_ | refine oo (Pm rfl) ?_ | refine os rfl rfl ?_ | refine ot rfl (by omega) ?_ | refine O_nil ?_) | refine wo rfl ?_ | refine wc rfl ?_ | refine wg rfl ?_ | refine go rfl ?_ | refine gc rfl ?_ | refine gg rfl ?_)
  refine O_pure (P_err_ne Tb.i82 rfl rfl) trivial rfl ?_
  repeat' (first | (refine isO ?_; first | refine oo (Pc rfl) ?_ | refine oo (Pa rfl (by omega) (by omega)) ?_ | (refine ob rfl ?_ ?_ <;> intro hq <;> try (exfalso; omega)) | refine oo (Pi rfl (by omega)) ?_ | refine oo (Pl rfl) ?_ | refine oo (Px rfl rfl) ?_ | refine oo (Pj rfl (by omega) (by omega)) ?_ | refine oo (Pk rfl (by omega) (by omega)) ?_ | refine oo (Pf rfl) ?_ | refine oo (Pv rfl (by omega) (by omega)) ?_ | refine oo (Pn rfl) ?_ | refine oo (Pm rfl) ?_ | refine os rfl rfl ?_ | refine ot rfl (by omega) ?_ | refine O_nil ?_) | refine wo rfl ?_ | refine wc rfl ?_ | refine wg rfl ?_ | refine go rfl ?_ | refine gc rfl ?_ | refine gg rfl ?_)
  (refine W_region_still Tb.mixed (by kernel_rfl) ?_; (repeat' (first | (refine isS ?_; first | refine ss (Pc rfl) ?_ | refine ss (Pa rfl (by omega) (by omega)) ?_ | (refine sb rfl ?_ ?_ <;> intro hq <;> try (exfalso; omega)) | refine ss (Pi rfl (by omega)) ?_ | refine ss (Pl rfl) ?_ | refine ss (Px rfl rfl) ?_ | refine ss (Pj rfl (by omega) (by omega)) ?_ | refine ss (Pk rfl (by omega) (by omega)) ?_ | refine ss (Pf rfl) ?_ | refine ss (Pv rfl (by omega) (by omega)) ?_ | refine ss (Pn rfl) ?_ | refine ss (Pm rfl) ?_ | refine OS_nil ?_))); refine OS_pure (P_loadAt (o := 0) (n := 0) Tb.p46 rfl rfl (.tail _ (.tail _ (.tail _ hE))) rfl) trivial rfl ?_; (repeat' (first | (refine isS ?_; first | refine ss (Pc rfl) ?_ | refine ss (Pa rfl (by omega) (by omega)) ?_ | (refine sb rfl ?_ ?_ <;> intro hq <;> try (exfalso; omega)) | refine ss (Pi rfl (by omega)) ?_ | refine ss (Pl rfl) ?_ | refine ss (Px rfl rfl) ?_ | refine ss (Pj rfl (by omega) (by omega)) ?_ | refine ss (Pk rfl (by omega) (by omega)) ?_ | refine ss (Pf rfl) ?_ | refine ss (Pv rfl (by omega) (by omega)) ?_ | refine ss (Pn rfl) ?_ | refine ss (Pm rfl) ?_ | refine OS_nil ?_))); refine OS_pure (P_loadAt (o := 0) (n := 1) Tb.p40 rfl rfl (.tail _ (.tail _ (.tail _ hE))) rfl) trivial rfl ?_; refine OS_pure (P_is (P_bitN (p := x) (q := 2 ^ j - 1) rfl rfl rfl rfl (by simp only [IntKind.bits]; omega) (by simp only [IntKind.bits]; omega)) (congrArg (fun y : Nat => Value.int .u32 (y : Int)) hand)) trivial rfl ?_; (repeat' (first | (refine isS ?_; first | refine ss (Pc rfl) ?_ | refine ss (Pa rfl (by omega) (by omega)) ?_ | (refine sb rfl ?_ ?_ <;> intro hq <;> try (exfalso; omega)) | refine ss (Pi rfl (by omega)) ?_ | refine ss (Pl rfl) ?_ | refine ss (Px rfl rfl) ?_ | refine ss (Pj rfl (by omega) (by omega)) ?_ | refine ss (Pk rfl (by omega) (by omega)) ?_ | refine ss (Pf rfl) ?_ | refine ss (Pv rfl (by omega) (by omega)) ?_ | refine ss (Pn rfl) ?_ | refine ss (Pm rfl) ?_ | refine OS_nil ?_))); refine OS_pure (P_loadAt (o := 0) (n := x) Tb.p40 rfl (by omega) (.tail _ (.tail _ (.tail _ hC))) hch) trivial rfl ?_; (repeat' (first | (refine isS ?_; first | refine ss (Pc rfl) ?_ | refine ss (Pa rfl (by omega) (by omega)) ?_ | (refine sb rfl ?_ ?_ <;> intro hq <;> try (exfalso; omega)) | refine ss (Pi rfl (by omega)) ?_ | refine ss (Pl rfl) ?_ | refine ss (Px rfl rfl) ?_ | refine ss (Pj rfl (by omega) (by omega)) ?_ | refine ss (Pk rfl (by omega) (by omega)) ?_ | refine ss (Pf rfl) ?_ | refine ss (Pv rfl (by omega) (by omega)) ?_ | refine ss (Pn rfl) ?_ | refine ss (Pm rfl) ?_ | refine OS_nil ?_))))
  repeat' (first | (refine isO ?_; first | refine oo (Pc rfl) ?_ | refine oo (Pa rfl (by omega) (by omega)) ?_ | (refine ob rfl ?_ ?_ <;> intro hq <;> try (exfalso; omega)) | refine oo (Pi rfl (by omega)) ?_ | refine oo (Pl rfl) ?_ | refine oo (Px rfl rfl) ?_ | refine oo (Pj rfl (by omega) (by omega)) ?_ | refine oo (Pk rfl (by omega) (by omega)) ?_ | refine oo (Pf rfl) ?_ | refine oo (Pv rfl (by omega) (by omega)) ?_ | refine oo (Pn rfl) ?_ | refine oo (Pm rfl) ?_ | refine os rfl rfl ?_ | refine ot rfl (by omega) ?_ | refine O_nil ?_) | refine wo rfl ?_ | refine wc rfl ?_ | refine wg rfl ?_ | refine go rfl ?_ | refine gc rfl ?_ | refine gg rfl ?_)
  refine O_pure (P_is (P_bitN (p := ck) (q := 31) rfl rfl rfl rfl hk3 (by decide)) (congrArg (fun y : Nat => Value.int .u32 (y : Int)) hk1)) trivial rfl ?_
  repeat' (first | (refine isO ?_; first | refine oo (Pc rfl) ?_ | refine oo (Pa rfl (by omega) (by omega)) ?_ | (refine ob rfl ?_ ?_ <;> intro hq <;> try (exfalso; omega)) | refine oo (Pi rfl (by omega)) ?_ | refine oo (Pl rfl) ?_ | refine oo (Px rfl rfl) ?_ | refine oo (Pj rfl (by omega) (by omega)) ?_ | refine oo (Pk rfl (by omega) (by omega)) ?_ | refine oo (Pf rfl) ?_ | refine oo (Pv rfl (by omega) (by omega)) ?_ | refine oo (Pn rfl) ?_ | refine oo (Pm rfl) ?_ | refine os rfl rfl ?_ | refine ot rfl (by omega) ?_ | refine O_nil ?_) | refine wo rfl ?_ | refine wc rfl ?_ | refine wg rfl ?_ | refine go rfl ?_ | refine gc rfl ?_ | refine gg rfl ?_)
  refine W_region_tail 12 Tb.mixed (by kernel_rfl) ?_
  simp only [List.take_succ_cons, List.take_zero, List.drop_succ_cons, List.drop_zero]
  repeat' (first | (refine isS ?_; first | refine ss (Pc rfl) ?_ | refine ss (Pa rfl (by omega) (by omega)) ?_ | (refine sb rfl ?_ ?_ <;> intro hq <;> try (exfalso; omega)) | refine ss (Pi rfl (by omega)) ?_ | refine ss (Pl rfl) ?_ | refine ss (Px rfl rfl) ?_ | refine ss (Pj rfl (by omega) (by omega)) ?_ | refine ss (Pk rfl (by omega) (by omega)) ?_ | refine ss (Pf rfl) ?_ | refine ss (Pv rfl (by omega) (by omega)) ?_ | refine ss (Pn rfl) ?_ | refine ss (Pm rfl) ?_ | refine OS_nil ?_))
  refine OS_pure (P_shrE (p := ck) (q := 5) (r := cv) rfl rfl hk3 hk2) trivial rfl ?_
  repeat' (first | (refine isS ?_; first | refine ss (Pc rfl) ?_ | refine ss (Pa rfl (by omega) (by omega)) ?_ | (refine sb rfl ?_ ?_ <;> intro hq <;> try (exfalso; omega)) | refine ss (Pi rfl (by omega)) ?_ | refine ss (Pl rfl) ?_ | refine ss (Px rfl rfl) ?_ | refine ss (Pj rfl (by omega) (by omega)) ?_ | refine ss (Pk rfl (by omega) (by omega)) ?_ | refine ss (Pf rfl) ?_ | refine ss (Pv rfl (by omega) (by omega)) ?_ | refine ss (Pn rfl) ?_ | refine ss (Pm rfl) ?_ | refine OS_nil ?_))
  refine OS_pure (P_shlN (p := cv) (q := nb % 8) rfl rfl rfl) trivial rfl ?_
  repeat' (first | (refine isS ?_; first | refine ss (Pc rfl) ?_ | refine ss (Pa rfl (by omega) (by omega)) ?_ | (refine sb rfl ?_ ?_ <;> intro hq <;> try (exfalso; omega)) | refine ss (Pi rfl (by omega)) ?_ | refine ss (Pl rfl) ?_ | refine ss (Px rfl rfl) ?_ | refine ss (Pj rfl (by omega) (by omega)) ?_ | refine ss (Pk rfl (by omega) (by omega)) ?_ | refine ss (Pf rfl) ?_ | refine ss (Pv rfl (by omega) (by omega)) ?_ | refine ss (Pn rfl) ?_ | refine ss (Pm rfl) ?_ | refine OS_nil ?_))
  refine O_pure (P_bitN rfl rfl rfl rfl (div_lt hv) (Nat.mod_lt _ (by decide))) trivial rfl ?_
  repeat' (first | (refine isO ?_; first | refine oo (Pc rfl) ?_ | refine oo (Pa rfl (by omega) (by omega)) ?_ | (refine ob rfl ?_ ?_ <;> intro hq <;> try (exfalso; omega)) | refine oo (Pi rfl (by omega)) ?_ | refine oo (Pl rfl) ?_ | refine oo (Px rfl rfl) ?_ | refine oo (Pj rfl (by omega) (by omega)) ?_ | refine oo (Pk rfl (by omega) (by omega)) ?_ | refine oo (Pf rfl) ?_ | refine oo (Pv rfl (by omega) (by omega)) ?_ | refine oo (Pn rfl) ?_ | refine oo (Pm rfl) ?_ | refine os rfl rfl ?_ | refine ot rfl (by omega) ?_ | refine O_nil ?_) | refine wo rfl ?_ | refine wc rfl ?_ | refine wg rfl ?_ | refine go rfl ?_ | refine gc rfl ?_ | refine gg rfl ?_)
  exact G_fin ⟨_, rfl, by repeat (first | exact .rfl | exact .nil | (apply Rk.cons; (· exact TakeI.out)) | refine .drop ?_)⟩

/-- The Writer's state, and its buffer's. -/
structure Wst where
  off : Nat
  v : Nat
  nb : Nat
  buf : List Int
  cnt : Nat
  s : Value
  lr : Int
  m : Mem
  out : List Int
def Wst.rows (x : Wst) (wb bb : Nat) (big : Bool) (F : Mem) : Mem :=
  Wa wb x.off (.iface 101 (.pointer (some ⟨bb, 0, none⟩))) x.v x.nb big :: Wb wb x.buf :: Wc wb x.cnt :: ⟨true, bb, 0, [x.s, .int .i64 0, .int .i8 x.lr]⟩ :: (x.m ++ F)
/-- What was written so far. -/
structure WS (big : Bool) (bits : List Nat) (lim : Nat) (x : Wst) : Prop where
  bg : Bg x.s x.out x.m
  off : x.off = x.out.length
  buf : x.buf.length = 512
  v : x.v < 2 ^ x.nb
  nb : x.nb ≤ 64
  lim : 8 * x.cnt + x.nb ≤ lim
  ys : ∃ ys : List Nat, (∀ y ∈ ys, y < 256) ∧ x.out ++ x.buf.take x.cnt = ys.map Nat.cast ∧ bits = unp big ys ++ bitsOf x.v x.nb
theorem WS.v64 {big : Bool} {bits : List Nat} {lim : Nat} {x : Wst} (h : WS big bits lim x) : x.v < 2 ^ 64 := Nat.lt_of_lt_of_le h.v (Nat.pow_le_pow_right (by omega) h.nb)
theorem WS.len {big : Bool} {bits : List Nat} {lim : Nat} {x : Wst} (h : WS big bits lim x) (hl : lim ≤ 4000) : bits.length = 8 * (x.out.length + x.cnt) + x.nb := by
  obtain ⟨ys, _, h2, h3⟩ := h.ys
  have h4 := congrArg List.length h2
  rw [List.length_append, List.length_take, List.length_map, h.buf] at h4
  have := h.lim
  rw [h3, List.length_append, unp_length, bitsOf_length]
  omega
theorem WS.more {big : Bool} {bits : List Nat} {lim lim' : Nat} {x : Wst} (h : WS big bits lim x) (hl : lim ≤ lim') : WS big bits lim' x := ⟨h.bg, h.off, h.buf, h.v, h.nb, Nat.le_trans h.lim hl, h.ys⟩

/-- Whole bytes go on to the byte buffer. -/
def Wst.push (x : Wst) (big : Bool) : Wst := { x with v := x.v / 2 ^ (8 * (x.nb / 8)), nb := x.nb % 8, buf := lay8 x.buf x.cnt (sw big x.v), cnt := x.cnt + x.nb / 8 }
theorem WS.push {big : Bool} {bits : List Nat} {lim : Nat} {x : Wst} (h : WS big bits lim x) (hl : lim ≤ 4000) : WS big bits lim (x.push big) := by
  have h1 := h.lim
  have h2 := h.nb
  refine ⟨h.bg, h.off, by simp only [Wst.push, lay8_length]; exact h.buf, div_pow_lt h.v, by simp only [Wst.push]; omega, by simp only [Wst.push]; omega, ?_⟩
  obtain ⟨ys, k1, k2, k3⟩ := h.ys
  refine ⟨ys ++ (List.range (x.nb / 8)).map (byt (sw big x.v)), ?_, ?_, ?_⟩
  · intro y hy
    rcases List.mem_append.1 hy with hy | hy
    · exact k1 y hy
    · rw [List.mem_map] at hy
      obtain ⟨j, _, rfl⟩ := hy
      exact byt_lt _ _
  · simp only [Wst.push]
    rw [lay8_take _ _ _ _ (by omega) (by rw [h.buf]; omega), ← List.append_assoc, k2, List.map_append]
  · simp only [Wst.push]
    rw [k3, unp_app, unp_sw big x.v _ (by omega), List.append_assoc, ← bitsOf_app, show 8 * (x.nb / 8) + x.nb % 8 = x.nb by omega]
/-- More bits behind those that wait. -/
theorem WS.or {big : Bool} {bits : List Nat} {lim : Nat} {x : Wst} (h : WS big bits lim x) {y n : Nat} (hy : y < 2 ^ n) (hn : x.nb + n ≤ 64) :
    WS big (bits ++ bitsOf y n) (lim + n) { x with v := x.v ||| y * 2 ^ x.nb % 2 ^ 64, nb := x.nb + n } := by
  have e := shl_lt y x.nb n hy hn
  have h1 := h.lim
  refine ⟨h.bg, h.off, h.buf, by dsimp only; rw [e]; exact or_lt _ _ _ _ h.v hy, hn, by dsimp only; omega, ?_⟩
  obtain ⟨ys, k1, k2, k3⟩ := h.ys
  exact ⟨ys, k1, k2, by dsimp only; rw [e, bitsOf_or _ _ _ _ h.v, k3, List.append_assoc]⟩

variable {wb bb : Nat} {big : Bool} {bits : List Nat} {lim : Nat} {x : Wst}
/-- What comes back: the same Writer, and these bits. -/
def Wrote (wb bb : Nat) (big : Bool) (bits : List Nat) (lim : Nat) (F M' : Mem) : Prop := ∃ y, WS big bits lim y ∧ Rk M' (y.rows wb bb big F)

theorem wbits_c (F : Mem) (h : WS big bits lim x) (hl : lim ≤ 4000) (y n : Nat) (hy : y < 2 ^ n) (hn : n ≤ 40) :
    HC Try.prog 55 #[.pointer (some ⟨wb, 0, none⟩), .int .u64 y, .int .u64 n] (x.rows wb bb big F) (fun _ M' => Wrote wb bb big (bits ++ bitsOf y n) (lim + n) F M') := by
  have h1 := h.lim
  have hp := h.push hl
  exact (bits_c wb x.off _ x.v x.nb big x.buf x.cnt y n _ h.buf (by omega) h.v64 h.nb (by omega)).mono fun _ M' hrk => ⟨_, hp.or hy (by simp only [Wst.push]; omega), hrk⟩
theorem wsym_c (F : Mem) (h : WS big bits lim x) (hl : lim ≤ 4000) (y eb j cb cc : Nat) (ch : List Int) (cs : List Cd) (hN : Numbered cs) (hV : ∀ i, i < cs.length → (cs.getD i Cd.zero).val < 2 ^ (cs.getD i Cd.zero).len) (hT : EncT cs j cc ch) (hE : (EncR eb cs.length j cb cc : Sg) ∈ F) (hC : (⟨true, cb, 0, ints .u32 ch⟩ : Sg) ∈ F) (hy : y < cs.length) :
    HC Try.prog 56 #[.pointer (some ⟨wb, 0, none⟩), .int .u64 y, .pointer (some ⟨eb, 0, none⟩)] (x.rows wb bb big F)
      (fun _ M' => Wrote wb bb big (bits ++ bitsOf (cs.getD y Cd.zero).val (cs.getD y Cd.zero).len) (lim + (cs.getD y Cd.zero).len) F M') := by
  have h1 := h.lim
  have hp := h.push hl
  have h2 := hN.len y hy
  exact (sym_c wb x.off _ x.v x.nb big x.buf x.cnt y eb j cb cc ch cs _ h.buf (by omega) h.v64 h.nb hN hT (.tail _ (List.mem_append_right _ hE)) (.tail _ (List.mem_append_right _ hC)) hy).mono fun _ M' hrk => ⟨_, hp.or (hV y hy) (by simp only [Wst.push]; omega), hrk⟩
theorem wpads_c (F : Mem) (h : WS big bits lim x) (hl : lim ≤ 4000) (y : Nat) (hy : y < 2 ^ ((8 - bits.length % 8) % 8)) :
    HC Try.prog 58 #[.pointer (some ⟨wb, 0, none⟩), .int .u64 y] (x.rows wb bb big F) (fun _ M' => Wrote wb bb big (bits ++ bitsOf y ((8 - bits.length % 8) % 8)) (lim + (8 - bits.length % 8) % 8) F M') := by
  have h1 := h.lim
  have h2 := h.len hl
  have h3 := h.nb
  have e : (8 - bits.length % 8) % 8 = (8 - x.nb % 8) % 8 := by omega
  rw [e] at hy ⊢
  exact (pads_c wb x.off _ x.v x.nb big x.buf x.cnt y _ h.v64 h.nb).mono fun _ M' hrk => ⟨_, h.or hy (by omega), hrk⟩
theorem wwritten_c (F : Mem) (h : WS big bits lim x) (hl : lim ≤ 4000) (hb : bits.length ≤ 100000) :
    HC Try.prog 60 #[.pointer (some ⟨wb, 0, none⟩)] (x.rows wb bb big F) (fun r M' => r = .int .i64 bits.length ∧ Rk M' (x.rows wb bb big F)) := by
  have h1 := h.lim
  have h2 := h.len hl
  have h3 := h.off
  exact (bitsWritten_c wb x.off _ x.v x.nb big x.buf x.cnt _ (by omega) (by omega) h.nb).mono fun r M' ⟨e, hrk⟩ => ⟨by rw [e, h2, h3]; congr 2; omega, hrk⟩

/-- What comes back of Flush: fewer than eight bits wait. -/
def Flushed (wb bb : Nat) (big : Bool) (bits : List Nat) (lim : Nat) (F M' : Mem) : Prop := ∃ y, WS big bits lim y ∧ y.cnt = 0 ∧ y.nb < 8 ∧ Rk M' (y.rows wb bb big F)
theorem wflush_c (F : Mem) (h : WS big bits lim x) (hl : lim ≤ 4000) (hb : bits.length ≤ 100000) :
    HC Try.prog 61 #[.pointer (some ⟨wb, 0, none⟩)] (x.rows wb bb big F) (fun r M' => (∃ z, r = .tuple #[z, .nilIface]) ∧ Flushed wb bb big bits lim F M') := by
  have h1 := h.lim
  have h2 := h.len hl
  have h3 := h.off
  have hp := h.push hl
  refine (flushg_c wb bb x.off x.v x.nb big x.buf x.cnt x.s x.out x.m x.lr F h.buf (by omega) h.v64 h.nb h.bg (by omega) (by omega)).mono fun r M' ⟨hr, buf', s', m', lr', k1, k2, hrk⟩ => ⟨hr, ?_⟩
  have hol : (x.out ++ (lay8 x.buf x.cnt (sw big x.v)).take (x.cnt + x.nb / 8)).length = x.out.length + (x.cnt + x.nb / 8) := by
    rw [List.length_append, List.length_take, lay8_length, h.buf]
    have := h.nb
    omega
  refine ⟨⟨x.off + (x.cnt + x.nb / 8), x.v / 2 ^ (8 * (x.nb / 8)), x.nb % 8, buf', 0, s', lr', m', x.out ++ (lay8 x.buf x.cnt (sw big x.v)).take (x.cnt + x.nb / 8)⟩, ⟨k2, by dsimp only; rw [hol, h3], k1, div_pow_lt h.v, by dsimp only; omega, by dsimp only; omega, ?_⟩, rfl, Nat.mod_lt _ (by omega), hrk⟩
  obtain ⟨ys, q1, q2, q3⟩ := hp.ys
  exact ⟨ys, q1, by dsimp only; rw [List.take_zero, List.append_nil]; exact q2, q3⟩
end Go.Proofs.Ytjkpfliaflmppaa.Wr

namespace Go.Proofs.Ytjkpfliaflmppaa.Wr
open Go Go.RowKit Go.Proofs.Ytjkpfliaflmppaa.Vm Go.Proofs.Ytjkpfliaflmppaa.Bu Go.Proofs.Ytjkpfliaflmppaa.Pc

variable {wb bb : Nat} {big : Bool} {bits : List Nat} {lim : Nat} {x : Wst}
theorem Src.of {ax : Option Addr} {cx : Nat} {s : List Nat} {F : Mem} (h : Bs (.slice ax s.length cx) s F) : Src ax s.length (s.map Nat.cast) F := by
  obtain ⟨_, ad, cp, e, h2⟩ := h
  cases e
  rcases h2 with rfl | ⟨b, o, rfl, hm⟩
  · exact .inl rfl
  · exact .inr ⟨false, b, o, _, 0, rfl, hm, by rw [ints_length, List.length_map]; omega, by rw [List.drop_zero, List.take_of_length_le (by rw [ints_length, List.length_map]; omega)], ints_one⟩


set_option maxHeartbeats 1000000 in
theorem wwrite_c (F : Mem) (h : WS big bits lim x) (hl : lim ≤ 4000) (hbl : bits.length ≤ 100000) (h8 : bits.length % 8 = 0) (ax : Option Addr) (cx : Nat) (s : List Nat) (hb : Bs (.slice ax s.length cx) s F) (hs : s.length ≤ 1000) :
    HC Try.prog 59 #[.pointer (some ⟨wb, 0, none⟩), .slice ax s.length cx] (x.rows wb bb big F) (fun r M' => (∃ z, r = .tuple #[z, .nilIface]) ∧ Wrote wb bb big (bits ++ unp big s) lim F M') := by
  have hlen := h.len hl
  have hf := wflush_c (wb := wb) (bb := bb) F h hl hbl
  obtain ⟨yoff, yv, ynb, ybuf, ycnt, ys, ylr, ym, yout⟩ := x
  dsimp only at hlen
  have hnb := h.nb
  have hlim := h.lim
  simp only [Wst.rows] at *
  refine HC_of_W (fn := Try.f59) Try.func59 rfl rfl rfl rfl ?_
  unfold Wa Wb Wc at *
  try dsimp only at *
  repeat' (first | (refine isO ?_; first | refine oo (Pc rfl) ?_ | refine oo (Pa rfl (by omega) (by omega)) ?_ | (refine ob rfl ?_ ?_ <;> intro hq <;> try (exfalso; omega)) | refine oo (Pi rfl (by omega)) ?_ | refine oo (Pl rfl) ?_ | refine oo (Px rfl rfl) ?_ | refine oo (Pj rfl (by omega) (by omega)) ?_ | refine oo (Pk rfl (by omega) (by omega)) ?_ | refine oo (Pf rfl) ?_ | refine oo (Pv rfl (by omega) (by omega)) ?_ | refine oo (Pn rfl) ?_ | refine oo (Pm rfl) ?_ | refine os rfl rfl ?_ | refine ot rfl (by omega) ?_ | refine O_nil ?_) | refine wo rfl ?_ | refine wc rfl ?_ | refine wg rfl ?_ | refine go rfl ?_ | refine gc rfl ?_ | refine gg rfl ?_)
  case refine_2.refine_2 =>
    obtain rfl : ynb = 0 := by omega
    obtain rfl : ycnt = 0 := by omega
    have hg := h
    have hoff := hg.off
    dsimp only at hoff
    have hol : yout.length ≤ 100000 := by omega
    ((repeat' (first | (refine isO ?_; first | refine oo (Pc rfl) ?_ | refine oo (Pa rfl (by omega) (by omega)) ?_ | (refine ob rfl ?_ ?_ <;> intro hq <;> try (exfalso; omega)) | refine oo (Pi rfl (by omega)) ?_ | refine oo (Pl rfl) ?_ | refine oo (Px rfl rfl) ?_ | refine oo (Pj rfl (by omega) (by omega)) ?_ | refine oo (Pk rfl (by omega) (by omega)) ?_ | refine oo (Pf rfl) ?_ | refine oo (Pv rfl (by omega) (by omega)) ?_ | refine oo (Pn rfl) ?_ | refine oo (Pm rfl) ?_ | refine os rfl rfl ?_ | refine ot rfl (by omega) ?_ | refine O_nil ?_) | refine wo rfl ?_ | refine wc rfl ?_ | refine wg rfl ?_ | refine go rfl ?_ | refine gc rfl ?_ | refine gg rfl ?_)); refine O_invoke rfl rfl (meth_write bb _) trivial rfl (HCp.take (L := ⟨true, bb, 0, [ys, .int .i64 0, .int .i8 ylr]⟩ :: (ym ++ (Wa wb yoff (.iface 101 (.pointer (some ⟨bb, 0, none⟩))) yv 0 big :: Wb wb ybuf :: Wc wb 0 :: F))) (.cons (by exact TakeI.out) (.perm (List.perm_append_comm_assoc [_, _, _] ym F))) (writeg_c bb ys yout (s.map Nat.cast) ym ax s.length cx ylr _ hg.bg (by rw [List.length_map]) (by omega) (Src.of (Bs.into hb fun z hz => .tail _ (.tail _ (.tail _ hz)))))) ?_; rintro _ M' ⟨rfl, s', m', hB', hrk'⟩; refine O_weak (M' := Wa wb yoff (.iface 101 (.pointer (some ⟨bb, 0, none⟩))) yv 0 big :: Wb wb ybuf :: Wc wb 0 :: ⟨true, bb, 0, [s', .int .i64 0, .int .i8 0]⟩ :: (m' ++ F)) (.trans hrk' (.trans (.perm (.cons _ (List.perm_append_comm_assoc m' [_, _, _] F))) (.cons (.tail .head) (.cons (.tail .head) (.cons (.tail .head) .rfl))))) ?_; unfold Wa Wb Wc; (repeat' (first | (refine isO ?_; first | refine oo (Pc rfl) ?_ | refine oo (Pa rfl (by omega) (by omega)) ?_ | (refine ob rfl ?_ ?_ <;> intro hq <;> try (exfalso; omega)) | refine oo (Pi rfl (by omega)) ?_ | refine oo (Pl rfl) ?_ | refine oo (Px rfl rfl) ?_ | refine oo (Pj rfl (by omega) (by omega)) ?_ | refine oo (Pk rfl (by omega) (by omega)) ?_ | refine oo (Pf rfl) ?_ | refine oo (Pv rfl (by omega) (by omega)) ?_ | refine oo (Pn rfl) ?_ | refine oo (Pm rfl) ?_ | refine os rfl rfl ?_ | refine ot rfl (by omega) ?_ | refine O_nil ?_) | refine wo rfl ?_ | refine wc rfl ?_ | refine wg rfl ?_ | refine go rfl ?_ | refine gc rfl ?_ | refine gg rfl ?_)); refine G_fin ⟨_, rfl, ⟨_, rfl⟩, ⟨yoff + s.length, yv, 0, ybuf, 0, s', 0, m', yout ++ s.map Nat.cast⟩, ⟨hB', (by (dsimp only; rw [List.length_append, List.length_map, hoff])), hg.buf, hg.v, (by (dsimp only; omega)), (by (dsimp only; omega)), ?_⟩, (by (simp only [Wst.rows, Wa, Wb, Wc]; (repeat (first | exact .rfl | exact .nil | (apply Rk.cons; (· exact TakeI.out)) | refine .drop ?_))))⟩; obtain ⟨zs, q1, q2, q3⟩ := hg.ys; dsimp only at q2 q3 ⊢; rw [List.take_zero, List.append_nil] at q2; refine ⟨zs ++ s, ?_, (by rw [List.take_zero, List.append_nil, q2, List.map_append]), (by (rw [q3, unp_app]; simp [bitsOf]))⟩; intro z hz; rcases List.mem_append.1 hz with hz | hz; (· exact q1 z hz); (· exact hb.1 z hz))
  all_goals
    have hx8 : ynb % 8 = 0 := by omega
    clear h
    refine O_pure (P_remS (p := ynb) (q := 8) rfl rfl rfl rfl (by omega) (inK_u64 (by omega) (by omega))) trivial rfl ?_
    rw [hx8]
    repeat' (first | (refine isO ?_; first | refine oo (Pc rfl) ?_ | refine oo (Pa rfl (by omega) (by omega)) ?_ | (refine ob rfl ?_ ?_ <;> intro hq <;> try (exfalso; omega)) | refine oo (Pi rfl (by omega)) ?_ | refine oo (Pl rfl) ?_ | refine oo (Px rfl rfl) ?_ | refine oo (Pj rfl (by omega) (by omega)) ?_ | refine oo (Pk rfl (by omega) (by omega)) ?_ | refine oo (Pf rfl) ?_ | refine oo (Pv rfl (by omega) (by omega)) ?_ | refine oo (Pn rfl) ?_ | refine oo (Pm rfl) ?_ | refine os rfl rfl ?_ | refine ot rfl (by omega) ?_ | refine O_nil ?_) | refine wo rfl ?_ | refine wc rfl ?_ | refine wg rfl ?_ | refine go rfl ?_ | refine gc rfl ?_ | refine gg rfl ?_)
    refine O_call rfl rfl Tb.k61 trivial rfl hf ?_
    rintro _ M' ⟨⟨z, rfl⟩, ⟨yoff, yv, ynb, ybuf, ycnt, ys, ylr, ym, yout⟩, hg, k1, k2, hrk⟩
    have hln := hg.len hl
    dsimp only at k1 k2 hln
    subst k1
    obtain rfl : ynb = 0 := by omega
    have hoff := hg.off
    dsimp only at hoff
    have hol : yout.length ≤ 100000 := by omega
    simp only [Wst.rows] at hrk
    refine O_weak hrk ?_
    unfold Wa Wb Wc
    repeat' (first | (refine isO ?_; first | refine oo (Pc rfl) ?_ | refine oo (Pa rfl (by omega) (by omega)) ?_ | (refine ob rfl ?_ ?_ <;> intro hq <;> try (exfalso; omega)) | refine oo (Pi rfl (by omega)) ?_ | refine oo (Pl rfl) ?_ | refine oo (Px rfl rfl) ?_ | refine oo (Pj rfl (by omega) (by omega)) ?_ | refine oo (Pk rfl (by omega) (by omega)) ?_ | refine oo (Pf rfl) ?_ | refine oo (Pv rfl (by omega) (by omega)) ?_ | refine oo (Pn rfl) ?_ | refine oo (Pm rfl) ?_ | refine os rfl rfl ?_ | refine ot rfl (by omega) ?_ | refine O_nil ?_) | refine wo rfl ?_ | refine wc rfl ?_ | refine wg rfl ?_ | refine go rfl ?_ | refine gc rfl ?_ | refine gg rfl ?_)
    refine O_pure (P_err_ne Tb.i82 rfl rfl) trivial rfl ?_
    ((repeat' (first | (refine isO ?_; first | refine oo (Pc rfl) ?_ | refine oo (Pa rfl (by omega) (by omega)) ?_ | (refine ob rfl ?_ ?_ <;> intro hq <;> try (exfalso; omega)) | refine oo (Pi rfl (by omega)) ?_ | refine oo (Pl rfl) ?_ | refine oo (Px rfl rfl) ?_ | refine oo (Pj rfl (by omega) (by omega)) ?_ | refine oo (Pk rfl (by omega) (by omega)) ?_ | refine oo (Pf rfl) ?_ | refine oo (Pv rfl (by omega) (by omega)) ?_ | refine oo (Pn rfl) ?_ | refine oo (Pm rfl) ?_ | refine os rfl rfl ?_ | refine ot rfl (by omega) ?_ | refine O_nil ?_) | refine wo rfl ?_ | refine wc rfl ?_ | refine wg rfl ?_ | refine go rfl ?_ | refine gc rfl ?_ | refine gg rfl ?_)); refine O_invoke rfl rfl (meth_write bb _) trivial rfl (HCp.take (L := ⟨true, bb, 0, [ys, .int .i64 0, .int .i8 ylr]⟩ :: (ym ++ (Wa wb yoff (.iface 101 (.pointer (some ⟨bb, 0, none⟩))) yv 0 big :: Wb wb ybuf :: Wc wb 0 :: F))) (.cons (by exact TakeI.out) (.perm (List.perm_append_comm_assoc [_, _, _] ym F))) (writeg_c bb ys yout (s.map Nat.cast) ym ax s.length cx ylr _ hg.bg (by rw [List.length_map]) (by omega) (Src.of (Bs.into hb fun z hz => .tail _ (.tail _ (.tail _ hz)))))) ?_; rintro _ M' ⟨rfl, s', m', hB', hrk'⟩; refine O_weak (M' := Wa wb yoff (.iface 101 (.pointer (some ⟨bb, 0, none⟩))) yv 0 big :: Wb wb ybuf :: Wc wb 0 :: ⟨true, bb, 0, [s', .int .i64 0, .int .i8 0]⟩ :: (m' ++ F)) (.trans hrk' (.trans (.perm (.cons _ (List.perm_append_comm_assoc m' [_, _, _] F))) (.cons (.tail .head) (.cons (.tail .head) (.cons (.tail .head) .rfl))))) ?_; unfold Wa Wb Wc; (repeat' (first | (refine isO ?_; first | refine oo (Pc rfl) ?_ | refine oo (Pa rfl (by omega) (by omega)) ?_ | (refine ob rfl ?_ ?_ <;> intro hq <;> try (exfalso; omega)) | refine oo (Pi rfl (by omega)) ?_ | refine oo (Pl rfl) ?_ | refine oo (Px rfl rfl) ?_ | refine oo (Pj rfl (by omega) (by omega)) ?_ | refine oo (Pk rfl (by omega) (by omega)) ?_ | refine oo (Pf rfl) ?_ | refine oo (Pv rfl (by omega) (by omega)) ?_ | refine oo (Pn rfl) ?_ | refine oo (Pm rfl) ?_ | refine os rfl rfl ?_ | refine ot rfl (by omega) ?_ | refine O_nil ?_) | refine wo rfl ?_ | refine wc rfl ?_ | refine wg rfl ?_ | refine go rfl ?_ | refine gc rfl ?_ | refine gg rfl ?_)); refine G_fin ⟨_, rfl, ⟨_, rfl⟩, ⟨yoff + s.length, yv, 0, ybuf, 0, s', 0, m', yout ++ s.map Nat.cast⟩, ⟨hB', (by (dsimp only; rw [List.length_append, List.length_map, hoff])), hg.buf, hg.v, (by (dsimp only; omega)), (by (dsimp only; omega)), ?_⟩, (by (simp only [Wst.rows, Wa, Wb, Wc]; (repeat (first | exact .rfl | exact .nil | (apply Rk.cons; (· exact TakeI.out)) | refine .drop ?_))))⟩; obtain ⟨zs, q1, q2, q3⟩ := hg.ys; dsimp only at q2 q3 ⊢; rw [List.take_zero, List.append_nil] at q2; refine ⟨zs ++ s, ?_, (by rw [List.take_zero, List.append_nil, q2, List.map_append]), (by (rw [q3, unp_app]; simp [bitsOf]))⟩; intro z hz; rcases List.mem_append.1 hz with hz | hz; (· exact q1 z hz); (· exact hb.1 z hz))
end Go.Proofs.Ytjkpfliaflmppaa.Wr

namespace Go.Proofs.Ytjkpfliaflmppaa.Wr
open Go Go.RowKit Go.Proofs.Ytjkpfliaflmppaa.Vm Go.Proofs.Ytjkpfliaflmppaa.Bu Go.Proofs.Ytjkpfliaflmppaa.Pc

variable {wb bb : Nat} {big : Bool} {bits : List Nat} {lim : Nat} {x : Wst}
theorem rowsP (A F : Mem) : (A ++ x.rows wb bb big F).Perm (x.rows wb bb big (A ++ F)) :=
  (List.perm_append_comm_assoc A [_, _, _, _] (x.m ++ F)).trans (List.Perm.append_left [_, _, _, _] (List.perm_append_comm_assoc A x.m F))
theorem rowsIn (A F : Mem) : Rk (A ++ x.rows wb bb big F) (x.rows wb bb big (A ++ F)) := .perm (rowsP A F)
theorem rowsBack (A F : Mem) : Rk (x.rows wb bb big (A ++ F)) (A ++ x.rows wb bb big F) := .perm (rowsP A F).symm
theorem rowsOut (A F : Mem) : Rk (x.rows wb bb big (A ++ F)) (x.rows wb bb big F) := .trans (rowsBack A F) (Rk.right A _)
theorem rowsMem {F : Mem} {r : Sg} (h : r ∈ F) : r ∈ x.rows wb bb big F := .tail _ (.tail _ (.tail _ (.tail _ (List.mem_append_right _ h))))
theorem Wrote.out {A F M' : Mem} (h : Wrote wb bb big bits lim (A ++ F) M') : Wrote wb bb big bits lim F M' := by
  obtain ⟨y, h1, h2⟩ := h
  exact ⟨y, h1, .trans h2 (rowsOut A F)⟩
theorem rowsF {F F' : Mem} (h : F.Perm F') : (x.rows wb bb big F).Perm (x.rows wb bb big F') := List.Perm.append_left [_, _, _, _] (List.Perm.append_left x.m h)

theorem wbits_z (F : Mem) (h : WS big bits lim x) (hl : lim ≤ 4000) (y n : Nat) (a c : Int) (ha : a = y) (hc : c = n) (hy : y < 2 ^ n) (hn : n ≤ 40) :
    HC Try.prog 55 #[.pointer (some ⟨wb, 0, none⟩), .int .u64 a, .int .u64 c] (x.rows wb bb big F) (fun _ M' => Wrote wb bb big (bits ++ bitsOf y n) (lim + n) F M') := by
  subst ha; subst hc; exact wbits_c F h hl y n hy hn

set_option maxHeartbeats 1000000 in
theorem woff_c (F F' : Mem) (h : WS big bits lim x) (hl : lim ≤ 3900) (y i eb j cb cc rb : Nat) (ch : List Int) (cs : List Cd) (s : Value) (xs : List Nat) (lut : List Int) (hN : Numbered cs) (hV : ∀ i, i < cs.length → (cs.getD i Cd.zero).val < 2 ^ (cs.getD i Cd.zero).len) (hT : EncT cs j cc ch)
    (hE : (EncR eb cs.length j cb cc : Sg) ∈ F) (hC : (⟨true, cb, 0, ints .u32 ch⟩ : Sg) ∈ F) (hF : F.Perm (Ra rb s :: Rb rb lut :: Rc rb 0 :: F')) (hs : Rs s (mkR 0 xs) F') (hok : OkN xs) (hlt : Lt 0 xs lut xs.length)
    (hi : i < xs.length) (hic : i < cs.length) (h1 : rAt 0 xs i ≤ y) (h2 : y < rAt 0 xs (i + 1)) (hyy : y < 18446744073709551616) :
    HC Try.prog 57 #[.pointer (some ⟨wb, 0, none⟩), .int .u64 y, .pointer (some ⟨eb, 0, none⟩), .pointer (some ⟨rb, 0, none⟩)] (x.rows wb bb big F)
      (fun _ M' => Wrote wb bb big (bits ++ bitsOf (cs.getD i Cd.zero).val (cs.getD i Cd.zero).len ++ bitsOf (y - rAt 0 xs i) (xs.getD i 0)) (lim + 40) F M') := by
  obtain ⟨b, own, sp, cap, rfl, hcap, hm⟩ := hs.at (by rw [mkR_length]; omega)
  rw [mkR_length] at hs hF
  have hr := rAt_le (a := 0) hok i (by omega)
  have hr1 : rAt 0 xs (i + 1) = rAt 0 xs i + 2 ^ xs.getD i 0 := rfl
  have h20 := hok.2 i hi
  have hcl := hN.len i hic
  have hRa : Ra rb (.slice (some ⟨b, 0, none⟩) xs.length cap) ∈ F := hF.symm.subset (.head _)
  have hm' : (⟨own, b, 0, rangesV (mkR 0 xs) ++ sp⟩ : Sg) ∈ F := hF.symm.subset (.tail _ (.tail _ (.tail _ hm)))
  have hsym := fun F => wsym_c (wb := wb) (bb := bb) F h (by omega) i eb j cb cc ch cs hN hV hT
  have hblk := rangesV_block (l := mkR 0 xs) sp i (by rw [mkR_length]; exact hi) (mkR_get 0 xs i hi)
  generalize hzz : xs.getD i 0 = z at *
  generalize hra : rAt 0 xs i = ra at *
  refine HC_of_W (fn := Try.f57) Try.func57 rfl rfl rfl rfl ?_
  repeat' (first | (refine isO ?_; first | refine oo (Pc rfl) ?_ | refine oo (Pa rfl (by omega) (by omega)) ?_ | (refine ob rfl ?_ ?_ <;> intro hq <;> try (exfalso; omega)) | refine oo (Pi rfl (by omega)) ?_ | refine oo (Pl rfl) ?_ | refine oo (Px rfl rfl) ?_ | refine oo (Pj rfl (by omega) (by omega)) ?_ | refine oo (Pk rfl (by omega) (by omega)) ?_ | refine oo (Pf rfl) ?_ | refine oo (Pv rfl (by omega) (by omega)) ?_ | refine oo (Pn rfl) ?_ | refine oo (Pm rfl) ?_ | refine os rfl rfl ?_ | refine ot rfl (by omega) ?_ | refine O_nil ?_) | refine wo rfl ?_ | refine wc rfl ?_ | refine wg rfl ?_ | refine go rfl ?_ | refine gc rfl ?_ | refine gg rfl ?_)
  refine O_call rfl rfl Tb.k85 trivial rfl (HCp.take (.perm ((rowsF hF).trans (rowsP [_, _, _] F').symm)) (encode85_c rb 0 y i _ xs lut _ (by omega) (hs.mono fun _ hx => rowsMem hx) hok hlt hi (by omega) (by omega))) ?_
  rintro _ M' ⟨rfl, hrk⟩
  refine O_weak (.trans hrk (.perm ((rowsP [_, _, _] F').trans (rowsF hF.symm)))) ?_
  clear hrk
  repeat' (first | (refine isO ?_; first | refine oo (Pc rfl) ?_ | refine oo (Pa rfl (by omega) (by omega)) ?_ | (refine ob rfl ?_ ?_ <;> intro hq <;> try (exfalso; omega)) | refine oo (Pi rfl (by omega)) ?_ | refine oo (Pl rfl) ?_ | refine oo (Px rfl rfl) ?_ | refine oo (Pj rfl (by omega) (by omega)) ?_ | refine oo (Pk rfl (by omega) (by omega)) ?_ | refine oo (Pf rfl) ?_ | refine oo (Pv rfl (by omega) (by omega)) ?_ | refine oo (Pn rfl) ?_ | refine oo (Pm rfl) ?_ | refine os rfl rfl ?_ | refine ot rfl (by omega) ?_ | refine O_nil ?_) | refine wo rfl ?_ | refine wc rfl ?_ | refine wg rfl ?_ | refine go rfl ?_ | refine gc rfl ?_ | refine gg rfl ?_)
  refine O_call rfl rfl Tb.k56 trivial rfl (hsym F hE hC hic) ?_
  rintro _ M' ⟨w, hw, hrk⟩
  refine O_weak hrk ?_
  repeat' (first | (refine isO ?_; first | refine oo (Pc rfl) ?_ | refine oo (Pa rfl (by omega) (by omega)) ?_ | (refine ob rfl ?_ ?_ <;> intro hq <;> try (exfalso; omega)) | refine oo (Pi rfl (by omega)) ?_ | refine oo (Pl rfl) ?_ | refine oo (Px rfl rfl) ?_ | refine oo (Pj rfl (by omega) (by omega)) ?_ | refine oo (Pk rfl (by omega) (by omega)) ?_ | refine oo (Pf rfl) ?_ | refine oo (Pv rfl (by omega) (by omega)) ?_ | refine oo (Pn rfl) ?_ | refine oo (Pm rfl) ?_ | refine os rfl rfl ?_ | refine ot rfl (by omega) ?_ | refine O_nil ?_) | refine wo rfl ?_ | refine wc rfl ?_ | refine wg rfl ?_ | refine go rfl ?_ | refine gc rfl ?_ | refine gg rfl ?_)
  refine O_pure (P_loadAt (o := 0) (n := 0) Tb.p106 rfl rfl (rowsMem hRa) rfl) trivial rfl ?_
  repeat' (first | (refine isO ?_; first | refine oo (Pc rfl) ?_ | refine oo (Pa rfl (by omega) (by omega)) ?_ | (refine ob rfl ?_ ?_ <;> intro hq <;> try (exfalso; omega)) | refine oo (Pi rfl (by omega)) ?_ | refine oo (Pl rfl) ?_ | refine oo (Px rfl rfl) ?_ | refine oo (Pj rfl (by omega) (by omega)) ?_ | refine oo (Pk rfl (by omega) (by omega)) ?_ | refine oo (Pf rfl) ?_ | refine oo (Pv rfl (by omega) (by omega)) ?_ | refine oo (Pn rfl) ?_ | refine oo (Pm rfl) ?_ | refine os rfl rfl ?_ | refine ot rfl (by omega) ?_ | refine O_nil ?_) | refine wo rfl ?_ | refine wc rfl ?_ | refine wg rfl ?_ | refine go rfl ?_ | refine gc rfl ?_ | refine gg rfl ?_)
  refine O_pure (P_loadAggAt (o := 0) (i := i * 2) (cs := [.int .u32 (ra : Nat), .int .u32 (z : Nat)]) Tb.a141 Tb.c141 (by decide) rfl (by omega) (rowsMem hm') (by rw [List.length_append, rangesV_length, mkR_length]; omega) hblk) trivial rfl ?_
  refine O_alloc zero141 trivial rfl fun bx => ?_
  repeat' (first | (refine isO ?_; first | refine oo (Pc rfl) ?_ | refine oo (Pa rfl (by omega) (by omega)) ?_ | (refine ob rfl ?_ ?_ <;> intro hq <;> try (exfalso; omega)) | refine oo (Pi rfl (by omega)) ?_ | refine oo (Pl rfl) ?_ | refine oo (Px rfl rfl) ?_ | refine oo (Pj rfl (by omega) (by omega)) ?_ | refine oo (Pk rfl (by omega) (by omega)) ?_ | refine oo (Pf rfl) ?_ | refine oo (Pv rfl (by omega) (by omega)) ?_ | refine oo (Pn rfl) ?_ | refine oo (Pm rfl) ?_ | refine os rfl rfl ?_ | refine ot rfl (by omega) ?_ | refine O_nil ?_) | refine wo rfl ?_ | refine wc rfl ?_ | refine wg rfl ?_ | refine go rfl ?_ | refine gc rfl ?_ | refine gg rfl ?_)
  refine O_storeAgg0 Tb.c141 (by decide) rfl rfl rfl (lit2_one _ _) trivial .head rfl ?_
  repeat' (first | (refine isO ?_; first | refine oo (Pc rfl) ?_ | refine oo (Pa rfl (by omega) (by omega)) ?_ | (refine ob rfl ?_ ?_ <;> intro hq <;> try (exfalso; omega)) | refine oo (Pi rfl (by omega)) ?_ | refine oo (Pl rfl) ?_ | refine oo (Px rfl rfl) ?_ | refine oo (Pj rfl (by omega) (by omega)) ?_ | refine oo (Pk rfl (by omega) (by omega)) ?_ | refine oo (Pf rfl) ?_ | refine oo (Pv rfl (by omega) (by omega)) ?_ | refine oo (Pn rfl) ?_ | refine oo (Pm rfl) ?_ | refine os rfl rfl ?_ | refine ot rfl (by omega) ?_ | refine O_nil ?_) | refine wo rfl ?_ | refine wc rfl ?_ | refine wg rfl ?_ | refine go rfl ?_ | refine gc rfl ?_ | refine gg rfl ?_)
  refine O_call rfl rfl Tb.k55 trivial rfl (HCp.take (rowsIn [_] F) (wbits_z _ hw (by omega) (y - ra) z _ _ (by omega) rfl (by omega) (by omega))) ?_
  rintro _ M' ⟨w2, hw2, hrk⟩
  refine O_weak hrk ?_
  repeat' (first | (refine isO ?_; first | refine oo (Pc rfl) ?_ | refine oo (Pa rfl (by omega) (by omega)) ?_ | (refine ob rfl ?_ ?_ <;> intro hq <;> try (exfalso; omega)) | refine oo (Pi rfl (by omega)) ?_ | refine oo (Pl rfl) ?_ | refine oo (Px rfl rfl) ?_ | refine oo (Pj rfl (by omega) (by omega)) ?_ | refine oo (Pk rfl (by omega) (by omega)) ?_ | refine oo (Pf rfl) ?_ | refine oo (Pv rfl (by omega) (by omega)) ?_ | refine oo (Pn rfl) ?_ | refine oo (Pm rfl) ?_ | refine os rfl rfl ?_ | refine ot rfl (by omega) ?_ | refine O_nil ?_) | refine wo rfl ?_ | refine wc rfl ?_ | refine wg rfl ?_ | refine go rfl ?_ | refine gc rfl ?_ | refine gg rfl ?_)
  exact G_fin ⟨_, rfl, w2, hw2.more (by omega), rowsOut [_] F⟩
end Go.Proofs.Ytjkpfliaflmppaa.Wr

/- The bit Writer's Flush, walked: all whole bytes go on to the buffer. -/
import Derived.Test.YtjkpfliaflmppaaWw
import Derived.Test.YtjkpfliaflmppaaTi
namespace Go.Proofs.Ytjkpfliaflmppaa.Wr
open Go Go.RowKit Go.Proofs.Ytjkpfliaflmppaa.Vm Go.Proofs.Ytjkpfliaflmppaa.Bu

theorem meth_write (bb : Nat) (x : Value) (w : World) : (callMethod (.iface 101 (.pointer (some ⟨bb, 0, none⟩))) "Write" [x].toArray).run Try.prog w = .ok (.enter 145 #[.pointer (some ⟨bb, 0, none⟩), x]) w := by kernel_rfl

theorem P_nilI {P : Program} {N : Fm} {E : Env} {M : Mem} {x : Operand} {t : TypeId} {v : Value} (hx : ev E x = some (.iface t v)) : Pure P N E M (.nilCheck x) (.iface t v) := by
  constructor
  intro pr base w0 a w hA hS d ty pos after g
  simp [execOp, hA.eval hx, Sem.run, pure]

theorem flush_c (wb bb off : Nat) (v nb : Nat) (big : Bool) (buf : List Int) (cnt : Nat) (s : Value) (out : List Int) (m : Mem) (lr : Int) (F : Mem) (hbuf : buf.length = 512) (hcnt : cnt < 504) (hv : v < 2 ^ 64) (hnb : nb ≤ 64)
    (hB : Bf s out m) (hroom : Room s (cnt + nb / 8)) (hoff : off ≤ 1099511627776) :
    HC Try.prog 61 #[.pointer (some ⟨wb, 0, none⟩)] (Wa wb off (.iface 101 (.pointer (some ⟨bb, 0, none⟩))) v nb big :: Wb wb buf :: Wc wb cnt :: ⟨true, bb, 0, [s, .int .i64 0, .int .i8 lr]⟩ :: (m ++ F))
      (fun r M' => (∃ z, r = .tuple #[z, .nilIface]) ∧ ∃ buf' s' m' lr', buf'.length = 512 ∧ Bf s' (out ++ (lay8 buf cnt (sw big v)).take (cnt + nb / 8)) m' ∧
        Rk M' (Wa wb (off + (cnt + nb / 8)) (.iface 101 (.pointer (some ⟨bb, 0, none⟩))) (v / 2 ^ (8 * (nb / 8))) (nb % 8) big :: Wb wb buf' :: Wc wb 0 :: ⟨true, bb, 0, [s', .int .i64 0, .int .i8 lr']⟩ :: (m' ++ F))) := by
  refine HC_of_W (fn := Try.f61) Try.func61 rfl rfl rfl rfl ?_
  have hp := push_c wb off (.iface 101 (.pointer (some ⟨bb, 0, none⟩))) v nb big buf cnt (⟨true, bb, 0, [s, .int .i64 0, .int .i8 lr]⟩ :: (m ++ F)) hbuf hcnt hv hnb
  unfold Wa Wb Wc at *
  repeat' (first | (refine isO ?_; first | refine oo (Pc rfl) ?_ | refine oo (Pa rfl (by omega) (by omega)) ?_ | (refine ob rfl ?_ ?_ <;> intro hq <;> try (exfalso; omega)) | refine oo (Pi rfl (by omega)) ?_ | refine oo (Pl rfl) ?_ | refine oo (Px rfl rfl) ?_ | refine oo (Pj rfl (by omega) (by omega)) ?_ | refine oo (Pk rfl (by omega) (by omega)) ?_ | refine oo (Pf rfl) ?_ | refine oo (Pv rfl (by omega) (by omega)) ?_ | refine oo (Pn rfl) ?_ | refine oo (Pm rfl) ?_ | refine os rfl rfl ?_ | refine ot rfl (by omega) ?_ | refine O_nil ?_) | refine wo rfl ?_ | refine wc rfl ?_ | refine wg rfl ?_ | refine go rfl ?_ | refine gc rfl ?_ | refine gg rfl ?_)
  · obtain rfl : cnt = 0 := by omega
    have h0 : nb / 8 = 0 := by omega
    refine G_fin ⟨_, rfl, ⟨_, rfl⟩, buf, s, m, lr, hbuf, by rw [h0]; simpa using hB, ?_⟩
    rw [h0, show nb % 8 = nb by omega]
    simp only [Nat.mul_zero, Nat.pow_zero, Nat.div_one, Nat.add_zero]
    repeat (first | exact .rfl | exact .nil | (apply Rk.cons; (· exact TakeI.out)) | refine .drop ?_)
  all_goals
    refine O_call rfl rfl Tb.k99 trivial rfl hp ?_
    rintro _ M' ⟨rfl, hrk⟩
    refine O_weak hrk ?_
    repeat' (first | (refine isO ?_; first | refine oo (Pc rfl) ?_ | refine oo (Pa rfl (by omega) (by omega)) ?_ | (refine ob rfl ?_ ?_ <;> intro hq <;> try (exfalso; omega)) | refine oo (Pi rfl (by omega)) ?_ | refine oo (Pl rfl) ?_ | refine oo (Px rfl rfl) ?_ | refine oo (Pj rfl (by omega) (by omega)) ?_ | refine oo (Pk rfl (by omega) (by omega)) ?_ | refine oo (Pf rfl) ?_ | refine oo (Pv rfl (by omega) (by omega)) ?_ | refine oo (Pn rfl) ?_ | refine oo (Pm rfl) ?_ | refine os rfl rfl ?_ | refine ot rfl (by omega) ?_ | refine O_nil ?_) | refine wo rfl ?_ | refine wc rfl ?_ | refine wg rfl ?_ | refine go rfl ?_ | refine gc rfl ?_ | refine gg rfl ?_)
    refine O_pure (P_err_ne Tb.i82 rfl rfl) trivial rfl ?_
    repeat' (first | (refine isO ?_; first | refine oo (Pc rfl) ?_ | refine oo (Pa rfl (by omega) (by omega)) ?_ | (refine ob rfl ?_ ?_ <;> intro hq <;> try (exfalso; omega)) | refine oo (Pi rfl (by omega)) ?_ | refine oo (Pl rfl) ?_ | refine oo (Px rfl rfl) ?_ | refine oo (Pj rfl (by omega) (by omega)) ?_ | refine oo (Pk rfl (by omega) (by omega)) ?_ | refine oo (Pf rfl) ?_ | refine oo (Pv rfl (by omega) (by omega)) ?_ | refine oo (Pn rfl) ?_ | refine oo (Pm rfl) ?_ | refine os rfl rfl ?_ | refine ot rfl (by omega) ?_ | refine O_nil ?_) | refine wo rfl ?_ | refine wc rfl ?_ | refine wg rfl ?_ | refine go rfl ?_ | refine gc rfl ?_ | refine gg rfl ?_)
    refine W_region_mid 14 Tb.mixed (by kernel_rfl) ?_
    simp only [List.take_succ_cons, List.take_zero, List.drop_succ_cons, List.drop_zero]
    repeat' (first | (refine isS ?_; first | refine ss (Pc rfl) ?_ | refine ss (Pa rfl (by omega) (by omega)) ?_ | (refine sb rfl ?_ ?_ <;> intro hq <;> try (exfalso; omega)) | refine ss (Pi rfl (by omega)) ?_ | refine ss (Pl rfl) ?_ | refine ss (Px rfl rfl) ?_ | refine ss (Pj rfl (by omega) (by omega)) ?_ | refine ss (Pk rfl (by omega) (by omega)) ?_ | refine ss (Pf rfl) ?_ | refine ss (Pv rfl (by omega) (by omega)) ?_ | refine ss (Pn rfl) ?_ | refine ss (Pm rfl) ?_ | refine OS_nil ?_))
    refine OS_pure (P_sliceA1E (o' := 5) (len' := cnt + nb / 8) (cap' := 512) Tb.u97 Tb.c5 rfl rfl ⟨_, rfl⟩ (by omega) (by omega) (by omega) (by omega) rfl (by omega) (by omega)) trivial rfl ?_
    refine OS_pure (P_nilI rfl) trivial rfl ?_
    repeat' (first | (refine isS ?_; first | refine ss (Pc rfl) ?_ | refine ss (Pa rfl (by omega) (by omega)) ?_ | (refine sb rfl ?_ ?_ <;> intro hq <;> try (exfalso; omega)) | refine ss (Pi rfl (by omega)) ?_ | refine ss (Pl rfl) ?_ | refine ss (Px rfl rfl) ?_ | refine ss (Pj rfl (by omega) (by omega)) ?_ | refine ss (Pk rfl (by omega) (by omega)) ?_ | refine ss (Pf rfl) ?_ | refine ss (Pv rfl (by omega) (by omega)) ?_ | refine ss (Pn rfl) ?_ | refine ss (Pm rfl) ?_ | refine OS_nil ?_))
    refine O_invoke rfl rfl (meth_write bb _) trivial rfl (HCp.take (L := ⟨true, bb, 0, [s, .int .i64 0, .int .i8 lr]⟩ :: (m ++ (Wa wb off (.iface 101 (.pointer (some ⟨bb, 0, none⟩))) (v / 2 ^ (8 * (nb / 8))) (nb % 8) big :: Wb wb (lay8 buf cnt (sw big v)) :: Wc wb (cnt + nb / 8) :: F)))
      (.cons (by exact TakeI.out) (.perm (List.perm_append_comm_assoc [_, _, _] m F)))
      (write_c bb s out ((lay8 buf cnt (sw big v)).take (cnt + nb / 8)) m _ (cnt + nb / 8) _ lr _ hB (by rw [List.length_take, lay8_length]; omega) hroom
        (.inr ⟨true, wb, 5, ints .u8 (lay8 buf cnt (sw big v)), 0, rfl, .tail _ (.head _), by rw [ints_length, lay8_length]; omega, by simp [ints, List.map_take], ints_one⟩))) ?_
    rintro _ M' ⟨rfl, s', m', hB', hrk'⟩
    refine O_weak (M' := Wa wb off (.iface 101 (.pointer (some ⟨bb, 0, none⟩))) (v / 2 ^ (8 * (nb / 8))) (nb % 8) big :: Wb wb (lay8 buf cnt (sw big v)) :: Wc wb (cnt + nb / 8) :: ⟨true, bb, 0, [s', .int .i64 0, .int .i8 0]⟩ :: (m' ++ F))
      (.trans hrk' (.trans (.perm (.cons _ (List.perm_append_comm_assoc m' [_, _, _] F))) (.cons (.tail .head) (.cons (.tail .head) (.cons (.tail .head) .rfl))))) ?_
    refine O_nil (G_fin ⟨rfl, ?_⟩)
    unfold Wa Wb Wc
    repeat' (first | (refine isS ?_; first | refine ss (Pc rfl) ?_ | refine ss (Pa rfl (by omega) (by omega)) ?_ | (refine sb rfl ?_ ?_ <;> intro hq <;> try (exfalso; omega)) | refine ss (Pi rfl (by omega)) ?_ | refine ss (Pl rfl) ?_ | refine ss (Px rfl rfl) ?_ | refine ss (Pj rfl (by omega) (by omega)) ?_ | refine ss (Pk rfl (by omega) (by omega)) ?_ | refine ss (Pf rfl) ?_ | refine ss (Pv rfl (by omega) (by omega)) ?_ | refine ss (Pn rfl) ?_ | refine ss (Pm rfl) ?_ | refine OS_nil ?_))
    repeat' (first | (refine isO ?_; first | refine oo (Pc rfl) ?_ | refine oo (Pa rfl (by omega) (by omega)) ?_ | (refine ob rfl ?_ ?_ <;> intro hq <;> try (exfalso; omega)) | refine oo (Pi rfl (by omega)) ?_ | refine oo (Pl rfl) ?_ | refine oo (Px rfl rfl) ?_ | refine oo (Pj rfl (by omega) (by omega)) ?_ | refine oo (Pk rfl (by omega) (by omega)) ?_ | refine oo (Pf rfl) ?_ | refine oo (Pv rfl (by omega) (by omega)) ?_ | refine oo (Pn rfl) ?_ | refine oo (Pm rfl) ?_ | refine os rfl rfl ?_ | refine ot rfl (by omega) ?_ | refine O_nil ?_) | refine wo rfl ?_ | refine wc rfl ?_ | refine wg rfl ?_ | refine go rfl ?_ | refine gc rfl ?_ | refine gg rfl ?_)
    refine G_fin ⟨_, rfl, ⟨_, rfl⟩, lay8 buf cnt (sw big v), s', m', 0, by rw [lay8_length]; exact hbuf, hB', ?_⟩
    rw [show ((0 : Nat) : Int) = ((cnt + nb / 8 : Nat) : Int) - ((cnt + nb / 8 : Nat) : Int) by omega]
    repeat (first | exact .rfl | exact .nil | (apply Rk.cons; (· exact TakeI.out)) | refine .drop ?_)
end Go.Proofs.Ytjkpfliaflmppaa.Wr

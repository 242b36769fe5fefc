/- The bit Writer's WriteBits, WritePads, BitsWritten, walked. -/
import Derived.Test.YtjkpfliaflmppaaWr
import Derived.Test.YtjkpfliaflmppaaTi
namespace Go.Proofs.Ytjkpfliaflmppaa.Wr
open Go Go.RowKit Go.Proofs.Ytjkpfliaflmppaa.Vm Go.Proofs.Ytjkpfliaflmppaa.Bu

theorem div_lt {v k : Nat} (h : v < 2 ^ 64) : v / k < 2 ^ 64 := Nat.lt_of_le_of_lt (Nat.div_le_self _ _) h

theorem bits_c (wb off : Nat) (wv : Value) (v nb : Nat) (big : Bool) (buf : List Int) (cnt : Nat) (x n : Nat) (F : Mem) (hbuf : buf.length = 512) (hcnt : cnt < 504) (hv : v < 2 ^ 64) (hnb : nb ≤ 64) (hn : n ≤ 1000) :
    HC Try.prog 55 #[.pointer (some ⟨wb, 0, none⟩), .int .u64 x, .int .u64 n] (Wa wb off wv v nb big :: Wb wb buf :: Wc wb cnt :: F)
      (fun _ M' => Rk M' (Wa wb off wv (v / 2 ^ (8 * (nb / 8)) ||| x * 2 ^ (nb % 8) % 2 ^ 64) (nb % 8 + n) big :: Wb wb (lay8 buf cnt (sw big v)) :: Wc wb (cnt + nb / 8) :: F)) := by
  refine HC_of_W (fn := Try.f55) Try.func55 rfl rfl rfl rfl ?_
  repeat' (first | (refine isO ?_; first | refine oo (Pc rfl) ?_ | refine oo (Pa rfl (by omega) (by omega)) ?_ | (refine ob rfl ?_ ?_ <;> intro hq <;> try (exfalso; omega)) | refine oo (Pi rfl (by omega)) ?_ | refine oo (Pl rfl) ?_ | refine oo (Px rfl rfl) ?_ | refine oo (Pj rfl (by omega) (by omega)) ?_ | refine oo (Pk rfl (by omega) (by omega)) ?_ | refine oo (Pf rfl) ?_ | refine oo (Pv rfl (by omega) (by omega)) ?_ | refine oo (Pn rfl) ?_ | refine oo (Pm rfl) ?_ | refine os rfl rfl ?_ | refine ot rfl (by omega) ?_ | refine O_nil ?_) | refine wo rfl ?_ | refine wc rfl ?_ | refine wg rfl ?_ | refine go rfl ?_ | refine gc rfl ?_ | refine gg rfl ?_)
  refine O_call rfl rfl Tb.k99 trivial rfl (push_c wb off wv v nb big buf cnt F hbuf hcnt hv hnb) ?_
  rintro _ M' ⟨rfl, hrk⟩
  refine O_weak hrk ?_
  unfold Wa Wb Wc
  repeat' (first | (refine isO ?_; first | refine oo (Pc rfl) ?_ | refine oo (Pa rfl (by omega) (by omega)) ?_ | (refine ob rfl ?_ ?_ <;> intro hq <;> try (exfalso; omega)) | refine oo (Pi rfl (by omega)) ?_ | refine oo (Pl rfl) ?_ | refine oo (Px rfl rfl) ?_ | refine oo (Pj rfl (by omega) (by omega)) ?_ | refine oo (Pk rfl (by omega) (by omega)) ?_ | refine oo (Pf rfl) ?_ | refine oo (Pv rfl (by omega) (by omega)) ?_ | refine oo (Pn rfl) ?_ | refine oo (Pm rfl) ?_ | refine os rfl rfl ?_ | refine ot rfl (by omega) ?_ | refine O_nil ?_) | refine wo rfl ?_ | refine wc rfl ?_ | refine wg rfl ?_ | refine go rfl ?_ | refine gc rfl ?_ | refine gg rfl ?_)
  refine O_pure (P_err_ne Tb.i82 rfl rfl) trivial rfl ?_
  repeat' (first | (refine isO ?_; first | refine oo (Pc rfl) ?_ | refine oo (Pa rfl (by omega) (by omega)) ?_ | (refine ob rfl ?_ ?_ <;> intro hq <;> try (exfalso; omega)) | refine oo (Pi rfl (by omega)) ?_ | refine oo (Pl rfl) ?_ | refine oo (Px rfl rfl) ?_ | refine oo (Pj rfl (by omega) (by omega)) ?_ | refine oo (Pk rfl (by omega) (by omega)) ?_ | refine oo (Pf rfl) ?_ | refine oo (Pv rfl (by omega) (by omega)) ?_ | refine oo (Pn rfl) ?_ | refine oo (Pm rfl) ?_ | refine os rfl rfl ?_ | refine ot rfl (by omega) ?_ | refine O_nil ?_) | refine wo rfl ?_ | refine wc rfl ?_ | refine wg rfl ?_ | refine go rfl ?_ | refine gc rfl ?_ | refine gg rfl ?_)
  refine W_region_tail 10 Tb.mixed (by kernel_rfl) ?_
  simp only [List.take_succ_cons, List.take_zero, List.drop_succ_cons, List.drop_zero]
  repeat' (first | (refine isS ?_; first | refine ss (Pc rfl) ?_ | refine ss (Pa rfl (by omega) (by omega)) ?_ | (refine sb rfl ?_ ?_ <;> intro hq <;> try (exfalso; omega)) | refine ss (Pi rfl (by omega)) ?_ | refine ss (Pl rfl) ?_ | refine ss (Px rfl rfl) ?_ | refine ss (Pj rfl (by omega) (by omega)) ?_ | refine ss (Pk rfl (by omega) (by omega)) ?_ | refine ss (Pf rfl) ?_ | refine ss (Pv rfl (by omega) (by omega)) ?_ | refine ss (Pn rfl) ?_ | refine ss (Pm rfl) ?_ | refine OS_nil ?_))
  refine OS_pure (P_shlN (p := x) (q := nb % 8) rfl rfl rfl) trivial rfl ?_
  repeat' (first | (refine isS ?_; first | refine ss (Pc rfl) ?_ | refine ss (Pa rfl (by omega) (by omega)) ?_ | (refine sb rfl ?_ ?_ <;> intro hq <;> try (exfalso; omega)) | refine ss (Pi rfl (by omega)) ?_ | refine ss (Pl rfl) ?_ | refine ss (Px rfl rfl) ?_ | refine ss (Pj rfl (by omega) (by omega)) ?_ | refine ss (Pk rfl (by omega) (by omega)) ?_ | refine ss (Pf rfl) ?_ | refine ss (Pv rfl (by omega) (by omega)) ?_ | refine ss (Pn rfl) ?_ | refine ss (Pm rfl) ?_ | refine OS_nil ?_))
  refine O_pure (P_bitN rfl rfl rfl rfl (div_lt hv) (Nat.mod_lt _ (by decide))) trivial rfl ?_
  repeat' (first | (refine isO ?_; first | refine oo (Pc rfl) ?_ | refine oo (Pa rfl (by omega) (by omega)) ?_ | (refine ob rfl ?_ ?_ <;> intro hq <;> try (exfalso; omega)) | refine oo (Pi rfl (by omega)) ?_ | refine oo (Pl rfl) ?_ | refine oo (Px rfl rfl) ?_ | refine oo (Pj rfl (by omega) (by omega)) ?_ | refine oo (Pk rfl (by omega) (by omega)) ?_ | refine oo (Pf rfl) ?_ | refine oo (Pv rfl (by omega) (by omega)) ?_ | refine oo (Pn rfl) ?_ | refine oo (Pm rfl) ?_ | refine os rfl rfl ?_ | refine ot rfl (by omega) ?_ | refine O_nil ?_) | refine wo rfl ?_ | refine wc rfl ?_ | refine wg rfl ?_ | refine go rfl ?_ | refine gc rfl ?_ | refine gg rfl ?_)
  exact G_fin ⟨_, rfl, by repeat (first | exact .rfl | exact .nil | (apply Rk.cons; (· exact TakeI.out)) | refine .drop ?_)⟩

theorem neg_nat (nb : Nat) (h : nb ≤ 64) : IntKind.u64.wrap (0 - (nb : Int)) = (((18446744073709551616 - nb) % 18446744073709551616 : Nat) : Int) := by
  simp only [IntKind.wrap, IntKind.signed, IntKind.bits]
  simp
  omega
theorem and7 (nb : Nat) (h : nb ≤ 64) : (18446744073709551616 - nb) % 18446744073709551616 &&& 7 = (8 - nb % 8) % 8 := by
  have := Nat.and_two_pow_sub_one_eq_mod ((18446744073709551616 - nb) % 18446744073709551616) 3
  simp only [Nat.reducePow, Nat.reduceSub] at this
  rw [this]
  omega

theorem pads_c (wb off : Nat) (wv : Value) (v nb : Nat) (big : Bool) (buf : List Int) (cnt : Nat) (x : Nat) (F : Mem) (hv : v < 2 ^ 64) (hnb : nb ≤ 64) :
    HC Try.prog 58 #[.pointer (some ⟨wb, 0, none⟩), .int .u64 x] (Wa wb off wv v nb big :: Wb wb buf :: Wc wb cnt :: F)
      (fun _ M' => Rk M' (Wa wb off wv (v ||| x * 2 ^ nb % 2 ^ 64) (nb + (8 - nb % 8) % 8) big :: Wb wb buf :: Wc wb cnt :: F)) := by
  refine HC_of_W (fn := Try.f58) Try.func58 rfl rfl rfl rfl ?_
  unfold Wa Wb Wc
  repeat' (first | (refine isO ?_; first | refine oo (Pc rfl) ?_ | refine oo (Pa rfl (by omega) (by omega)) ?_ | (refine ob rfl ?_ ?_ <;> intro hq <;> try (exfalso; omega)) | refine oo (Pi rfl (by omega)) ?_ | refine oo (Pl rfl) ?_ | refine oo (Px rfl rfl) ?_ | refine oo (Pj rfl (by omega) (by omega)) ?_ | refine oo (Pk rfl (by omega) (by omega)) ?_ | refine oo (Pf rfl) ?_ | refine oo (Pv rfl (by omega) (by omega)) ?_ | refine oo (Pn rfl) ?_ | refine oo (Pm rfl) ?_ | refine os rfl rfl ?_ | refine ot rfl (by omega) ?_ | refine O_nil ?_) | refine wo rfl ?_ | refine wc rfl ?_ | refine wg rfl ?_ | refine go rfl ?_ | refine gc rfl ?_ | refine gg rfl ?_)
  refine O_pure (P_is (P_neg rfl) (congrArg (Value.int .u64) (neg_nat nb hnb))) trivial rfl ?_
  refine O_pure (P_is (P_bitN (q := 7) rfl rfl rfl rfl (Nat.mod_lt _ (by decide)) (by decide)) (congrArg (fun n : Nat => Value.int .u64 (n : Int)) (and7 nb hnb))) trivial rfl ?_
  repeat' (first | (refine isO ?_; first | refine oo (Pc rfl) ?_ | refine oo (Pa rfl (by omega) (by omega)) ?_ | (refine ob rfl ?_ ?_ <;> intro hq <;> try (exfalso; omega)) | refine oo (Pi rfl (by omega)) ?_ | refine oo (Pl rfl) ?_ | refine oo (Px rfl rfl) ?_ | refine oo (Pj rfl (by omega) (by omega)) ?_ | refine oo (Pk rfl (by omega) (by omega)) ?_ | refine oo (Pf rfl) ?_ | refine oo (Pv rfl (by omega) (by omega)) ?_ | refine oo (Pn rfl) ?_ | refine oo (Pm rfl) ?_ | refine os rfl rfl ?_ | refine ot rfl (by omega) ?_ | refine O_nil ?_) | refine wo rfl ?_ | refine wc rfl ?_ | refine wg rfl ?_ | refine go rfl ?_ | refine gc rfl ?_ | refine gg rfl ?_)
  refine W_region_tail 10 Tb.mixed (by kernel_rfl) ?_
  simp only [List.take_succ_cons, List.take_zero, List.drop_succ_cons, List.drop_zero]
  repeat' (first | (refine isS ?_; first | refine ss (Pc rfl) ?_ | refine ss (Pa rfl (by omega) (by omega)) ?_ | (refine sb rfl ?_ ?_ <;> intro hq <;> try (exfalso; omega)) | refine ss (Pi rfl (by omega)) ?_ | refine ss (Pl rfl) ?_ | refine ss (Px rfl rfl) ?_ | refine ss (Pj rfl (by omega) (by omega)) ?_ | refine ss (Pk rfl (by omega) (by omega)) ?_ | refine ss (Pf rfl) ?_ | refine ss (Pv rfl (by omega) (by omega)) ?_ | refine ss (Pn rfl) ?_ | refine ss (Pm rfl) ?_ | refine OS_nil ?_))
  refine OS_pure (P_shlN (p := x) (q := nb) rfl rfl rfl) trivial rfl ?_
  repeat' (first | (refine isS ?_; first | refine ss (Pc rfl) ?_ | refine ss (Pa rfl (by omega) (by omega)) ?_ | (refine sb rfl ?_ ?_ <;> intro hq <;> try (exfalso; omega)) | refine ss (Pi rfl (by omega)) ?_ | refine ss (Pl rfl) ?_ | refine ss (Px rfl rfl) ?_ | refine ss (Pj rfl (by omega) (by omega)) ?_ | refine ss (Pk rfl (by omega) (by omega)) ?_ | refine ss (Pf rfl) ?_ | refine ss (Pv rfl (by omega) (by omega)) ?_ | refine ss (Pn rfl) ?_ | refine ss (Pm rfl) ?_ | refine OS_nil ?_))
  refine O_pure (P_bitN rfl rfl rfl rfl hv (Nat.mod_lt _ (by decide))) trivial rfl ?_
  repeat' (first | (refine isO ?_; first | refine oo (Pc rfl) ?_ | refine oo (Pa rfl (by omega) (by omega)) ?_ | (refine ob rfl ?_ ?_ <;> intro hq <;> try (exfalso; omega)) | refine oo (Pi rfl (by omega)) ?_ | refine oo (Pl rfl) ?_ | refine oo (Px rfl rfl) ?_ | refine oo (Pj rfl (by omega) (by omega)) ?_ | refine oo (Pk rfl (by omega) (by omega)) ?_ | refine oo (Pf rfl) ?_ | refine oo (Pv rfl (by omega) (by omega)) ?_ | refine oo (Pn rfl) ?_ | refine oo (Pm rfl) ?_ | refine os rfl rfl ?_ | refine ot rfl (by omega) ?_ | refine O_nil ?_) | refine wo rfl ?_ | refine wc rfl ?_ | refine wg rfl ?_ | refine go rfl ?_ | refine gc rfl ?_ | refine gg rfl ?_)
  exact G_fin ⟨_, rfl, by repeat (first | exact .rfl | exact .nil | (apply Rk.cons; (· exact TakeI.out)) | refine .drop ?_)⟩

theorem bitsWritten_c (wb off : Nat) (wv : Value) (v nb : Nat) (big : Bool) (buf : List Int) (cnt : Nat) (F : Mem) (ho : off ≤ 1099511627776) (hc : cnt ≤ 512) (hnb : nb ≤ 64) :
    HC Try.prog 60 #[.pointer (some ⟨wb, 0, none⟩)] (Wa wb off wv v nb big :: Wb wb buf :: Wc wb cnt :: F)
      (fun r M' => r = .int .i64 (8 * off + 8 * cnt + nb : Nat) ∧ Rk M' (Wa wb off wv v nb big :: Wb wb buf :: Wc wb cnt :: F)) := by
  refine HC_of_W (fn := Try.f60) Try.func60 rfl rfl rfl rfl ?_
  unfold Wa Wb Wc
  repeat' (first | (refine isO ?_; first | refine oo (Pc rfl) ?_ | refine oo (Pa rfl (by omega) (by omega)) ?_ | (refine ob rfl ?_ ?_ <;> intro hq <;> try (exfalso; omega)) | refine oo (Pi rfl (by omega)) ?_ | refine oo (Pl rfl) ?_ | refine oo (Px rfl rfl) ?_ | refine oo (Pj rfl (by omega) (by omega)) ?_ | refine oo (Pk rfl (by omega) (by omega)) ?_ | refine oo (Pf rfl) ?_ | refine oo (Pv rfl (by omega) (by omega)) ?_ | refine oo (Pn rfl) ?_ | refine oo (Pm rfl) ?_ | refine os rfl rfl ?_ | refine ot rfl (by omega) ?_ | refine O_nil ?_) | refine wo rfl ?_ | refine wc rfl ?_ | refine wg rfl ?_ | refine go rfl ?_ | refine gc rfl ?_ | refine gg rfl ?_)
  refine W_region_still Tb.mixed (by kernel_rfl) ?_
  repeat' (first | (refine isS ?_; first | refine ss (Pc rfl) ?_ | refine ss (Pa rfl (by omega) (by omega)) ?_ | (refine sb rfl ?_ ?_ <;> intro hq <;> try (exfalso; omega)) | refine ss (Pi rfl (by omega)) ?_ | refine ss (Pl rfl) ?_ | refine ss (Px rfl rfl) ?_ | refine ss (Pj rfl (by omega) (by omega)) ?_ | refine ss (Pk rfl (by omega) (by omega)) ?_ | refine ss (Pf rfl) ?_ | refine ss (Pv rfl (by omega) (by omega)) ?_ | refine ss (Pn rfl) ?_ | refine ss (Pm rfl) ?_ | refine OS_nil ?_))
  repeat' (first | (refine isO ?_; first | refine oo (Pc rfl) ?_ | refine oo (Pa rfl (by omega) (by omega)) ?_ | (refine ob rfl ?_ ?_ <;> intro hq <;> try (exfalso; omega)) | refine oo (Pi rfl (by omega)) ?_ | refine oo (Pl rfl) ?_ | refine oo (Px rfl rfl) ?_ | refine oo (Pj rfl (by omega) (by omega)) ?_ | refine oo (Pk rfl (by omega) (by omega)) ?_ | refine oo (Pf rfl) ?_ | refine oo (Pv rfl (by omega) (by omega)) ?_ | refine oo (Pn rfl) ?_ | refine oo (Pm rfl) ?_ | refine os rfl rfl ?_ | refine ot rfl (by omega) ?_ | refine O_nil ?_) | refine wo rfl ?_ | refine wc rfl ?_ | refine wg rfl ?_ | refine go rfl ?_ | refine gc rfl ?_ | refine gg rfl ?_)
  exact G_fin ⟨_, rfl, rfl, by repeat (first | exact .rfl | exact .nil | (apply Rk.cons; (· exact TakeI.out)) | refine .drop ?_)⟩

def cells99 (bb : Nat) (b : Bool) : List Value := [.int .i64 0, .iface 101 (.pointer (some ⟨bb, 0, none⟩)), .int .u64 0, .int .u64 0, .bool b] ++ (ints .u8 (List.replicate 512 0) ++ [.int .i64 0])
theorem build99 (bb : Nat) (b : Bool) (w : World) : (Instr.build 99 [(1, .iface 101 (.pointer (some ⟨bb, 0, none⟩))), (4, .bool b)].toArray).run Try.prog w =
    .ok (.agg (cells99 bb b).toArray) w := by kernel_rfl

theorem init_c (wb bb : Nat) (big : Bool) (cs : List Value) (hcs : cs.length = 518) (F : Mem) :
    HC Try.prog 51 #[.pointer (some ⟨wb, 0, none⟩), .iface 101 (.pointer (some ⟨bb, 0, none⟩)), .bool big] (⟨true, wb, 0, cs⟩ :: F)
      (fun _ M' => Rk M' (Wa wb 0 (.iface 101 (.pointer (some ⟨bb, 0, none⟩))) 0 0 big :: Wb wb (List.replicate 512 0) :: Wc wb 0 :: F)) := by
  refine HC_of_W (fn := Try.f51) Try.func51 rfl rfl rfl rfl ?_
  unfold Wa Wb Wc
  repeat' (first | (refine isO ?_; first | refine oo (Pc rfl) ?_ | refine oo (Pa rfl (by omega) (by omega)) ?_ | (refine ob rfl ?_ ?_ <;> intro hq <;> try (exfalso; omega)) | refine oo (Pi rfl (by omega)) ?_ | refine oo (Pl rfl) ?_ | refine oo (Px rfl rfl) ?_ | refine oo (Pj rfl (by omega) (by omega)) ?_ | refine oo (Pk rfl (by omega) (by omega)) ?_ | refine oo (Pf rfl) ?_ | refine oo (Pv rfl (by omega) (by omega)) ?_ | refine oo (Pn rfl) ?_ | refine oo (Pm rfl) ?_ | refine os rfl rfl ?_ | refine ot rfl (by omega) ?_ | refine O_nil ?_) | refine wo rfl ?_ | refine wc rfl ?_ | refine wg rfl ?_ | refine go rfl ?_ | refine gc rfl ?_ | refine gg rfl ?_)
  refine O_pure (P_build rfl (build99 _ _)) trivial rfl ?_
  repeat' (first | (refine isO ?_; first | refine oo (Pc rfl) ?_ | refine oo (Pa rfl (by omega) (by omega)) ?_ | (refine ob rfl ?_ ?_ <;> intro hq <;> try (exfalso; omega)) | refine oo (Pi rfl (by omega)) ?_ | refine oo (Pl rfl) ?_ | refine oo (Px rfl rfl) ?_ | refine oo (Pj rfl (by omega) (by omega)) ?_ | refine oo (Pk rfl (by omega) (by omega)) ?_ | refine oo (Pf rfl) ?_ | refine oo (Pv rfl (by omega) (by omega)) ?_ | refine oo (Pn rfl) ?_ | refine oo (Pm rfl) ?_ | refine os rfl rfl ?_ | refine ot rfl (by omega) ?_ | refine O_nil ?_) | refine wo rfl ?_ | refine wc rfl ?_ | refine wg rfl ?_ | refine go rfl ?_ | refine gc rfl ?_ | refine gg rfl ?_)
  refine O_storeAgg0 Tb.c99 (by decide) rfl rfl (by simp only [cells99, List.length_append, ints_length, List.length_replicate, List.length_cons, List.length_nil]) ?_ trivial .head hcs ?_
  · intro v hv
    unfold cells99 at hv
    rcases List.mem_append.1 hv with h | h
    · simp at h; rcases h with rfl | rfl | rfl | rfl <;> rfl
    · rcases List.mem_append.1 h with h | h
      · exact ints_one _ h
      · simp at h; subst h; rfl
  refine O_split (o2 := 5) rfl rfl ?_
  refine O_weak (M' := ⟨true, wb, 5, ints .u8 (List.replicate 512 0) ++ [.int .i64 0]⟩ :: ⟨true, wb, 0, [.int .i64 0, .iface 101 (.pointer (some ⟨bb, 0, none⟩)), .int .u64 0, .int .u64 0, .bool big]⟩ :: F) (.perm (.swap _ _ _)) ?_
  refine O_split (o2 := 517) rfl (by rw [ints_length, List.length_replicate]) ?_
  repeat' (first | (refine isO ?_; first | refine oo (Pc rfl) ?_ | refine oo (Pa rfl (by omega) (by omega)) ?_ | (refine ob rfl ?_ ?_ <;> intro hq <;> try (exfalso; omega)) | refine oo (Pi rfl (by omega)) ?_ | refine oo (Pl rfl) ?_ | refine oo (Px rfl rfl) ?_ | refine oo (Pj rfl (by omega) (by omega)) ?_ | refine oo (Pk rfl (by omega) (by omega)) ?_ | refine oo (Pf rfl) ?_ | refine oo (Pv rfl (by omega) (by omega)) ?_ | refine oo (Pn rfl) ?_ | refine oo (Pm rfl) ?_ | refine os rfl rfl ?_ | refine ot rfl (by omega) ?_ | refine O_nil ?_) | refine wo rfl ?_ | refine wc rfl ?_ | refine wg rfl ?_ | refine go rfl ?_ | refine gc rfl ?_ | refine gg rfl ?_)
  exact G_fin ⟨_, rfl, .cons (.tail (.tail .head)) .rfl⟩

theorem bytes_c (bb : Nat) (s : Value) (xs : List Int) (m : Mem) (lr : Int) (F : Mem) (hB : Bf s xs m) :
    HC Try.prog 62 #[.pointer (some ⟨bb, 0, none⟩)] (⟨true, bb, 0, [s, .int .i64 0, .int .i8 lr]⟩ :: (m ++ F))
      (fun r M' => r = s ∧ M' = ⟨true, bb, 0, [s, .int .i64 0, .int .i8 lr]⟩ :: (m ++ F)) := by
  refine HC_of_W (fn := Try.f62) Try.func62 rfl rfl rfl rfl ?_
  repeat' (first | (refine isO ?_; first | refine oo (Pc rfl) ?_ | refine oo (Pa rfl (by omega) (by omega)) ?_ | (refine ob rfl ?_ ?_ <;> intro hq <;> try (exfalso; omega)) | refine oo (Pi rfl (by omega)) ?_ | refine oo (Pl rfl) ?_ | refine oo (Px rfl rfl) ?_ | refine oo (Pj rfl (by omega) (by omega)) ?_ | refine oo (Pk rfl (by omega) (by omega)) ?_ | refine oo (Pf rfl) ?_ | refine oo (Pv rfl (by omega) (by omega)) ?_ | refine oo (Pn rfl) ?_ | refine oo (Pm rfl) ?_ | refine os rfl rfl ?_ | refine ot rfl (by omega) ?_ | refine O_nil ?_) | refine wo rfl ?_ | refine wc rfl ?_ | refine wg rfl ?_ | refine go rfl ?_ | refine gc rfl ?_ | refine gg rfl ?_)
  refine W_region_still Tb.mixed (by kernel_rfl) ?_
  repeat' (first | (refine isS ?_; first | refine ss (Pc rfl) ?_ | refine ss (Pa rfl (by omega) (by omega)) ?_ | (refine sb rfl ?_ ?_ <;> intro hq <;> try (exfalso; omega)) | refine ss (Pi rfl (by omega)) ?_ | refine ss (Pl rfl) ?_ | refine ss (Px rfl rfl) ?_ | refine ss (Pj rfl (by omega) (by omega)) ?_ | refine ss (Pk rfl (by omega) (by omega)) ?_ | refine ss (Pf rfl) ?_ | refine ss (Pv rfl (by omega) (by omega)) ?_ | refine ss (Pn rfl) ?_ | refine ss (Pm rfl) ?_ | refine OS_nil ?_))
  rcases hB with ⟨rfl, rfl, rfl⟩ | ⟨b, c, sp, rfl, rfl, hlen, hc0, hone⟩
  · refine OS_pure (P_slice_end Tb.u22 Tb.c5 (by decide) rfl ⟨_, rfl⟩ rfl (by omega) (by omega) (by omega) (by omega)) trivial rfl ?_
    repeat' (first | (refine isS ?_; first | refine ss (Pc rfl) ?_ | refine ss (Pa rfl (by omega) (by omega)) ?_ | (refine sb rfl ?_ ?_ <;> intro hq <;> try (exfalso; omega)) | refine ss (Pi rfl (by omega)) ?_ | refine ss (Pl rfl) ?_ | refine ss (Px rfl rfl) ?_ | refine ss (Pj rfl (by omega) (by omega)) ?_ | refine ss (Pk rfl (by omega) (by omega)) ?_ | refine ss (Pf rfl) ?_ | refine ss (Pv rfl (by omega) (by omega)) ?_ | refine ss (Pn rfl) ?_ | refine ss (Pm rfl) ?_ | refine OS_nil ?_))
    repeat' (first | (refine isO ?_; first | refine oo (Pc rfl) ?_ | refine oo (Pa rfl (by omega) (by omega)) ?_ | (refine ob rfl ?_ ?_ <;> intro hq <;> try (exfalso; omega)) | refine oo (Pi rfl (by omega)) ?_ | refine oo (Pl rfl) ?_ | refine oo (Px rfl rfl) ?_ | refine oo (Pj rfl (by omega) (by omega)) ?_ | refine oo (Pk rfl (by omega) (by omega)) ?_ | refine oo (Pf rfl) ?_ | refine oo (Pv rfl (by omega) (by omega)) ?_ | refine oo (Pn rfl) ?_ | refine oo (Pm rfl) ?_ | refine os rfl rfl ?_ | refine ot rfl (by omega) ?_ | refine O_nil ?_) | refine wo rfl ?_ | refine wc rfl ?_ | refine wg rfl ?_ | refine go rfl ?_ | refine gc rfl ?_ | refine gg rfl ?_)
    exact G_fin ⟨_, rfl, rfl, rfl⟩
  · refine OS_pure (P_slice1E (o' := 0) (len' := xs.length) (cap' := c) Tb.u22 Tb.c5 rfl ⟨_, rfl⟩ rfl (by omega) (by omega) (by omega) (by omega) rfl (by omega) (by omega)) trivial rfl ?_
    repeat' (first | (refine isS ?_; first | refine ss (Pc rfl) ?_ | refine ss (Pa rfl (by omega) (by omega)) ?_ | (refine sb rfl ?_ ?_ <;> intro hq <;> try (exfalso; omega)) | refine ss (Pi rfl (by omega)) ?_ | refine ss (Pl rfl) ?_ | refine ss (Px rfl rfl) ?_ | refine ss (Pj rfl (by omega) (by omega)) ?_ | refine ss (Pk rfl (by omega) (by omega)) ?_ | refine ss (Pf rfl) ?_ | refine ss (Pv rfl (by omega) (by omega)) ?_ | refine ss (Pn rfl) ?_ | refine ss (Pm rfl) ?_ | refine OS_nil ?_))
    repeat' (first | (refine isO ?_; first | refine oo (Pc rfl) ?_ | refine oo (Pa rfl (by omega) (by omega)) ?_ | (refine ob rfl ?_ ?_ <;> intro hq <;> try (exfalso; omega)) | refine oo (Pi rfl (by omega)) ?_ | refine oo (Pl rfl) ?_ | refine oo (Px rfl rfl) ?_ | refine oo (Pj rfl (by omega) (by omega)) ?_ | refine oo (Pk rfl (by omega) (by omega)) ?_ | refine oo (Pf rfl) ?_ | refine oo (Pv rfl (by omega) (by omega)) ?_ | refine oo (Pn rfl) ?_ | refine oo (Pm rfl) ?_ | refine os rfl rfl ?_ | refine ot rfl (by omega) ?_ | refine O_nil ?_) | refine wo rfl ?_ | refine wc rfl ?_ | refine wg rfl ?_ | refine go rfl ?_ | refine gc rfl ?_ | refine gg rfl ?_)
    exact G_fin ⟨_, rfl, rfl, rfl⟩
end Go.Proofs.Ytjkpfliaflmppaa.Wr

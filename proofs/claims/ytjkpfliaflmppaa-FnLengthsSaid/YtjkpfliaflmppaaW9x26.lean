/- The bit Writer's parts, walked: PutUint64, PushBits (with room in the byte buffer), WriteBits, WritePads, BitsWritten. For at most 503 bytes that wait. The bit Writer's WriteBits, WritePads, BitsWritten, walked. The bit Writer's Flush, walked: all whole bytes go on to the buffer. -/
import Derived.Test.YtjkpfliaflmppaaW9x25
import Derived.Test.YtjkpfliaflmppaaW9x10

namespace Go.Proofs.Ytjkpfliaflmppaa.Wr
open Go Go.RowKit Go.Proofs.Ytjkpfliaflmppaa.Vm Go.Proofs.Ytjkpfliaflmppaa.Bu

/-- The bits of each byte turned round. -/
def sw1 (u : Nat) : Nat := (u &&& 12297829382473034410) / 2 ^ 1 ||| (u &&& 6148914691236517205) * 2 ^ 1 % 2 ^ 64
def sw2 (u : Nat) : Nat := (u &&& 14757395258967641292) / 2 ^ 2 ||| (u &&& 3689348814741910323) * 2 ^ 2 % 2 ^ 64
def sw4 (u : Nat) : Nat := (u &&& 17361641481138401520) / 2 ^ 4 ||| (u &&& 1085102592571150095) * 2 ^ 4 % 2 ^ 64
def sw (big : Bool) (u : Nat) : Nat := if big = true then sw4 (sw2 (sw1 u)) else u

theorem sw1_lt {u : Nat} (h : u < 2 ^ 64) : sw1 u < 2 ^ 64 := Nat.or_lt_two_pow (Nat.lt_of_le_of_lt (Nat.div_le_self _ _) (Nat.lt_of_le_of_lt Nat.and_le_left h)) (Nat.mod_lt _ (by decide))
theorem sw2_lt {u : Nat} (h : u < 2 ^ 64) : sw2 u < 2 ^ 64 := Nat.or_lt_two_pow (Nat.lt_of_le_of_lt (Nat.div_le_self _ _) (Nat.lt_of_le_of_lt Nat.and_le_left h)) (Nat.mod_lt _ (by decide))
theorem sw4_lt {u : Nat} (h : u < 2 ^ 64) : sw4 u < 2 ^ 64 := Nat.or_lt_two_pow (Nat.lt_of_le_of_lt (Nat.div_le_self _ _) (Nat.lt_of_le_of_lt Nat.and_le_left h)) (Nat.mod_lt _ (by decide))

/-- The Writer's cells: ahead of its bytes, the bytes, how many of them wait. -/
abbrev Wa (wb : Nat) (off : Nat) (wv : Value) (v nb : Nat) (big : Bool) : Sg := ⟨true, wb, 0, [.int .i64 off, wv, .int .u64 v, .int .u64 nb, .bool big]⟩
abbrev Wb (wb : Nat) (buf : List Int) : Sg := ⟨true, wb, 5, ints .u8 buf⟩
abbrev Wc (wb cnt : Nat) : Sg := ⟨true, wb, 517, [.int .i64 cnt]⟩

theorem info180 : (Try.prog.info? 180).map (·.size) = some 0 := by kernel_rfl
theorem info180' : ∃ I, Try.prog.info? 180 = some I ∧ I.size = 0 := by
  have h := info180
  cases hI : Try.prog.info? 180 with
  | none => simp [hI] at h
  | some I => simp [hI] at h; exact ⟨I, rfl, h⟩

theorem push_c (wb off : Nat) (wv : Value) (v nb : Nat) (big : Bool) (buf : List Int) (cnt : Nat) (F : Mem) (hbuf : buf.length = 512) (hcnt : cnt < 504) (hv : v < 2 ^ 64) (hnb : nb ≤ 64) :
    HC Try.prog 99 #[.pointer (some ⟨wb, 0, none⟩)] (Wa wb off wv v nb big :: Wb wb buf :: Wc wb cnt :: F)
      (fun r M' => r = .tuple #[.int .u64 (8 * (nb / 8) : Nat), .nilIface] ∧ Rk M' (Wa wb off wv (v / 2 ^ (8 * (nb / 8))) (nb % 8) big :: Wb wb (lay8 buf cnt (sw big v)) :: Wc wb (cnt + nb / 8) :: F)) := by
  obtain ⟨I, hI, hI1⟩ := info180'
  unfold Wa Wb Wc
  refine HC_of_W (fn := Try.f99) Try.func99 rfl rfl rfl rfl ?_
  repeat' (first | (refine isO ?_; first | refine oo (Pc rfl) ?_ | refine oo (Pa rfl (by omega) (by omega)) ?_ | (refine ob rfl ?_ ?_ <;> intro hq <;> try (exfalso; omega)) | refine oo (Pi rfl (by omega)) ?_ | refine oo (Pl rfl) ?_ | refine oo (Px rfl rfl) ?_ | refine oo (Pj rfl (by omega) (by omega)) ?_ | refine oo (Pk rfl (by omega) (by omega)) ?_ | refine oo (Pf rfl) ?_ | refine oo (Pv rfl (by omega) (by omega)) ?_ | refine oo (Pn rfl) ?_ | refine oo (Pm rfl) ?_ | refine os rfl rfl ?_ | refine ot rfl (by omega) ?_ | refine O_nil ?_) | refine wo rfl ?_ | refine wc rfl ?_ | refine wg rfl ?_ | refine go rfl ?_ | refine gc rfl ?_ | refine gg rfl ?_)
  cases big
  · repeat' (first | (refine isO ?_; first | refine oo (Pc rfl) ?_ | refine oo (Pa rfl (by omega) (by omega)) ?_ | (refine ob rfl ?_ ?_ <;> intro hq <;> try (exfalso; omega)) | refine oo (Pi rfl (by omega)) ?_ | refine oo (Pl rfl) ?_ | refine oo (Px rfl rfl) ?_ | refine oo (Pj rfl (by omega) (by omega)) ?_ | refine oo (Pk rfl (by omega) (by omega)) ?_ | refine oo (Pf rfl) ?_ | refine oo (Pv rfl (by omega) (by omega)) ?_ | refine oo (Pn rfl) ?_ | refine oo (Pm rfl) ?_ | refine os rfl rfl ?_ | refine ot rfl (by omega) ?_ | refine O_nil ?_) | refine wo rfl ?_ | refine wc rfl ?_ | refine wg rfl ?_ | refine go rfl ?_ | refine gc rfl ?_ | refine gg rfl ?_)
    refine W_region_tail 10 Tb.mixed (by kernel_rfl) ?_
    simp only [List.take_succ_cons, List.take_zero, List.drop_succ_cons, List.drop_zero]
    refine OS_pure (P_load_empty Tb.a180 hI hI1 rfl) trivial rfl ?_
    repeat' (first | (refine isS ?_; first | refine ss (Pc rfl) ?_ | refine ss (Pa rfl (by omega) (by omega)) ?_ | (refine sb rfl ?_ ?_ <;> intro hq <;> try (exfalso; omega)) | refine ss (Pi rfl (by omega)) ?_ | refine ss (Pl rfl) ?_ | refine ss (Px rfl rfl) ?_ | refine ss (Pj rfl (by omega) (by omega)) ?_ | refine ss (Pk rfl (by omega) (by omega)) ?_ | refine ss (Pf rfl) ?_ | refine ss (Pv rfl (by omega) (by omega)) ?_ | refine ss (Pn rfl) ?_ | refine ss (Pm rfl) ?_ | refine OS_nil ?_))
    refine OS_pure (P_sliceA1E (o' := 5 + cnt) (len' := 512 - cnt) (cap' := 512 - cnt) Tb.u97 Tb.c5 rfl ⟨_, rfl⟩ rfl (by omega) (by omega) (by omega) (by omega) (by omega) (by omega) (by omega)) trivial rfl ?_
    repeat' (first | (refine isS ?_; first | refine ss (Pc rfl) ?_ | refine ss (Pa rfl (by omega) (by omega)) ?_ | (refine sb rfl ?_ ?_ <;> intro hq <;> try (exfalso; omega)) | refine ss (Pi rfl (by omega)) ?_ | refine ss (Pl rfl) ?_ | refine ss (Px rfl rfl) ?_ | refine ss (Pj rfl (by omega) (by omega)) ?_ | refine ss (Pk rfl (by omega) (by omega)) ?_ | refine ss (Pf rfl) ?_ | refine ss (Pv rfl (by omega) (by omega)) ?_ | refine ss (Pn rfl) ?_ | refine ss (Pm rfl) ?_ | refine OS_nil ?_))
    refine O_call rfl rfl Tb.k106 trivial rfl (HCp.take (L := ⟨true, wb, 5, ints .u8 buf⟩ :: ⟨true, wb, 0, [.int .i64 off, wv, .int .u64 v, .int .u64 nb, .bool false]⟩ :: ⟨true, wb, 517, [.int .i64 cnt]⟩ :: F) (by repeat (first | exact .rfl | exact .nil | (apply Rk.cons; (· exact TakeI.out)) | refine .drop ?_)) (put64_c wb 5 cnt buf (512 - cnt) (512 - cnt) v (by omega) (by omega) hv _)) ?_
    rintro _ M' hrk
    refine O_weak hrk ?_
    repeat' (first | (refine isO ?_; first | refine oo (Pc rfl) ?_ | refine oo (Pa rfl (by omega) (by omega)) ?_ | (refine ob rfl ?_ ?_ <;> intro hq <;> try (exfalso; omega)) | refine oo (Pi rfl (by omega)) ?_ | refine oo (Pl rfl) ?_ | refine oo (Px rfl rfl) ?_ | refine oo (Pj rfl (by omega) (by omega)) ?_ | refine oo (Pk rfl (by omega) (by omega)) ?_ | refine oo (Pf rfl) ?_ | refine oo (Pv rfl (by omega) (by omega)) ?_ | refine oo (Pn rfl) ?_ | refine oo (Pm rfl) ?_ | refine os rfl rfl ?_ | refine ot rfl (by omega) ?_ | refine O_nil ?_) | refine wo rfl ?_ | refine wc rfl ?_ | refine wg rfl ?_ | refine go rfl ?_ | refine gc rfl ?_ | refine gg rfl ?_)
    refine O_pure (P_is (P_quo rfl rfl (by omega) (by omega) (inK_u64 (by omega) (by omega))) (congrArg (Value.int .u64) (rfl : (nb : Int) / 8 = ((nb / 8 : Nat) : Int)))) trivial rfl ?_
    repeat' (first | (refine isO ?_; first | refine oo (Pc rfl) ?_ | refine oo (Pa rfl (by omega) (by omega)) ?_ | (refine ob rfl ?_ ?_ <;> intro hq <;> try (exfalso; omega)) | refine oo (Pi rfl (by omega)) ?_ | refine oo (Pl rfl) ?_ | refine oo (Px rfl rfl) ?_ | refine oo (Pj rfl (by omega) (by omega)) ?_ | refine oo (Pk rfl (by omega) (by omega)) ?_ | refine oo (Pf rfl) ?_ | refine oo (Pv rfl (by omega) (by omega)) ?_ | refine oo (Pn rfl) ?_ | refine oo (Pm rfl) ?_ | refine os rfl rfl ?_ | refine ot rfl (by omega) ?_ | refine O_nil ?_) | refine wo rfl ?_ | refine wc rfl ?_ | refine wg rfl ?_ | refine go rfl ?_ | refine gc rfl ?_ | refine gg rfl ?_)
    refine O_pure (P_shrN (p := v) (q := 8 * (nb / 8)) rfl rfl hv) trivial rfl ?_
    repeat' (first | (refine isO ?_; first | refine oo (Pc rfl) ?_ | refine oo (Pa rfl (by omega) (by omega)) ?_ | (refine ob rfl ?_ ?_ <;> intro hq <;> try (exfalso; omega)) | refine oo (Pi rfl (by omega)) ?_ | refine oo (Pl rfl) ?_ | refine oo (Px rfl rfl) ?_ | refine oo (Pj rfl (by omega) (by omega)) ?_ | refine oo (Pk rfl (by omega) (by omega)) ?_ | refine oo (Pf rfl) ?_ | refine oo (Pv rfl (by omega) (by omega)) ?_ | refine oo (Pn rfl) ?_ | refine oo (Pm rfl) ?_ | refine os rfl rfl ?_ | refine ot rfl (by omega) ?_ | refine O_nil ?_) | refine wo rfl ?_ | refine wc rfl ?_ | refine wg rfl ?_ | refine go rfl ?_ | refine gc rfl ?_ | refine gg rfl ?_)
    refine G_fin ⟨_, rfl, rfl, ?_⟩
    rw [show ((nb % 8 : Nat) : Int) = (nb : Int) - 8 * ((nb / 8 : Nat) : Int) by omega]
    repeat (first | exact .rfl | exact .nil | (apply Rk.cons; (· exact TakeI.out)) | refine .drop ?_)
  · repeat' (first | (refine isO ?_; first | refine oo (Pc rfl) ?_ | refine oo (Pa rfl (by omega) (by omega)) ?_ | (refine ob rfl ?_ ?_ <;> intro hq <;> try (exfalso; omega)) | refine oo (Pi rfl (by omega)) ?_ | refine oo (Pl rfl) ?_ | refine oo (Px rfl rfl) ?_ | refine oo (Pj rfl (by omega) (by omega)) ?_ | refine oo (Pk rfl (by omega) (by omega)) ?_ | refine oo (Pf rfl) ?_ | refine oo (Pv rfl (by omega) (by omega)) ?_ | refine oo (Pn rfl) ?_ | refine oo (Pm rfl) ?_ | refine os rfl rfl ?_ | refine ot rfl (by omega) ?_ | refine O_nil ?_) | refine wo rfl ?_ | refine wc rfl ?_ | refine wg rfl ?_ | refine go rfl ?_ | refine gc rfl ?_ | refine gg rfl ?_)
    refine O_pure (P_bitN (p := v) (q := 12297829382473034410) rfl rfl rfl rfl hv (by decide)) trivial rfl ?_
    refine O_pure (P_shrN (q := 1) rfl rfl (Nat.lt_of_le_of_lt Nat.and_le_left hv)) trivial rfl ?_
    repeat' (first | (refine isO ?_; first | refine oo (Pc rfl) ?_ | refine oo (Pa rfl (by omega) (by omega)) ?_ | (refine ob rfl ?_ ?_ <;> intro hq <;> try (exfalso; omega)) | refine oo (Pi rfl (by omega)) ?_ | refine oo (Pl rfl) ?_ | refine oo (Px rfl rfl) ?_ | refine oo (Pj rfl (by omega) (by omega)) ?_ | refine oo (Pk rfl (by omega) (by omega)) ?_ | refine oo (Pf rfl) ?_ | refine oo (Pv rfl (by omega) (by omega)) ?_ | refine oo (Pn rfl) ?_ | refine oo (Pm rfl) ?_ | refine os rfl rfl ?_ | refine ot rfl (by omega) ?_ | refine O_nil ?_) | refine wo rfl ?_ | refine wc rfl ?_ | refine wg rfl ?_ | refine go rfl ?_ | refine gc rfl ?_ | refine gg rfl ?_)
    refine O_pure (P_bitN (p := v) (q := 6148914691236517205) rfl rfl rfl rfl hv (by decide)) trivial rfl ?_
    refine O_pure (P_shlN (q := 1) rfl rfl rfl) trivial rfl ?_
    refine O_pure (P_bitN rfl rfl rfl rfl (Nat.lt_of_le_of_lt (Nat.div_le_self _ _) (Nat.lt_of_le_of_lt Nat.and_le_left hv)) (Nat.mod_lt _ (by decide))) trivial rfl ?_
    repeat' (first | (refine isO ?_; first | refine oo (Pc rfl) ?_ | refine oo (Pa rfl (by omega) (by omega)) ?_ | (refine ob rfl ?_ ?_ <;> intro hq <;> try (exfalso; omega)) | refine oo (Pi rfl (by omega)) ?_ | refine oo (Pl rfl) ?_ | refine oo (Px rfl rfl) ?_ | refine oo (Pj rfl (by omega) (by omega)) ?_ | refine oo (Pk rfl (by omega) (by omega)) ?_ | refine oo (Pf rfl) ?_ | refine oo (Pv rfl (by omega) (by omega)) ?_ | refine oo (Pn rfl) ?_ | refine oo (Pm rfl) ?_ | refine os rfl rfl ?_ | refine ot rfl (by omega) ?_ | refine O_nil ?_) | refine wo rfl ?_ | refine wc rfl ?_ | refine wg rfl ?_ | refine go rfl ?_ | refine gc rfl ?_ | refine gg rfl ?_)
    refine O_pure (P_bitN (p := sw1 v) (q := 14757395258967641292) rfl rfl rfl rfl (sw1_lt hv) (by decide)) trivial rfl ?_
    refine O_pure (P_shrN (q := 2) rfl rfl (Nat.lt_of_le_of_lt Nat.and_le_left (sw1_lt hv))) trivial rfl ?_
    repeat' (first | (refine isO ?_; first | refine oo (Pc rfl) ?_ | refine oo (Pa rfl (by omega) (by omega)) ?_ | (refine ob rfl ?_ ?_ <;> intro hq <;> try (exfalso; omega)) | refine oo (Pi rfl (by omega)) ?_ | refine oo (Pl rfl) ?_ | refine oo (Px rfl rfl) ?_ | refine oo (Pj rfl (by omega) (by omega)) ?_ | refine oo (Pk rfl (by omega) (by omega)) ?_ | refine oo (Pf rfl) ?_ | refine oo (Pv rfl (by omega) (by omega)) ?_ | refine oo (Pn rfl) ?_ | refine oo (Pm rfl) ?_ | refine os rfl rfl ?_ | refine ot rfl (by omega) ?_ | refine O_nil ?_) | refine wo rfl ?_ | refine wc rfl ?_ | refine wg rfl ?_ | refine go rfl ?_ | refine gc rfl ?_ | refine gg rfl ?_)
    refine O_pure (P_bitN (p := sw1 v) (q := 3689348814741910323) rfl rfl rfl rfl (sw1_lt hv) (by decide)) trivial rfl ?_
    refine O_pure (P_shlN (q := 2) rfl rfl rfl) trivial rfl ?_
    refine O_pure (P_bitN rfl rfl rfl rfl (Nat.lt_of_le_of_lt (Nat.div_le_self _ _) (Nat.lt_of_le_of_lt Nat.and_le_left (sw1_lt hv))) (Nat.mod_lt _ (by decide))) trivial rfl ?_
    repeat' (first | (refine isO ?_; first | refine oo (Pc rfl) ?_ | refine oo (Pa rfl (by omega) (by omega)) ?_ | (refine ob rfl ?_ ?_ <;> intro hq <;> try (exfalso; omega)) | refine oo (Pi rfl (by omega)) ?_ | refine oo (Pl rfl) ?_ | refine oo (Px rfl rfl) ?_ | refine oo (Pj rfl (by omega) (by omega)) ?_ | refine oo (Pk rfl (by omega) (by omega)) ?_ | refine oo (Pf rfl) ?_ | refine oo (Pv rfl (by omega) (by omega)) ?_ | refine oo (Pn rfl) ?_ | refine oo (Pm rfl) ?_ | refine os rfl rfl ?_ | refine ot rfl (by omega) ?_ | refine O_nil ?_) | refine wo rfl ?_ | refine wc rfl ?_ | refine wg rfl ?_ | refine go rfl ?_ | refine gc rfl ?_ | refine gg rfl ?_)
    refine O_pure (P_bitN (p := sw2 (sw1 v)) (q := 17361641481138401520) rfl rfl rfl rfl (sw2_lt (sw1_lt hv)) (by decide)) trivial rfl ?_
    refine O_pure (P_shrN (q := 4) rfl rfl (Nat.lt_of_le_of_lt Nat.and_le_left (sw2_lt (sw1_lt hv)))) trivial rfl ?_
    repeat' (first | (refine isO ?_; first | refine oo (Pc rfl) ?_ | refine oo (Pa rfl (by omega) (by omega)) ?_ | (refine ob rfl ?_ ?_ <;> intro hq <;> try (exfalso; omega)) | refine oo (Pi rfl (by omega)) ?_ | refine oo (Pl rfl) ?_ | refine oo (Px rfl rfl) ?_ | refine oo (Pj rfl (by omega) (by omega)) ?_ | refine oo (Pk rfl (by omega) (by omega)) ?_ | refine oo (Pf rfl) ?_ | refine oo (Pv rfl (by omega) (by omega)) ?_ | refine oo (Pn rfl) ?_ | refine oo (Pm rfl) ?_ | refine os rfl rfl ?_ | refine ot rfl (by omega) ?_ | refine O_nil ?_) | refine wo rfl ?_ | refine wc rfl ?_ | refine wg rfl ?_ | refine go rfl ?_ | refine gc rfl ?_ | refine gg rfl ?_)
    refine O_pure (P_bitN (p := sw2 (sw1 v)) (q := 1085102592571150095) rfl rfl rfl rfl (sw2_lt (sw1_lt hv)) (by decide)) trivial rfl ?_
    refine O_pure (P_shlN (q := 4) rfl rfl rfl) trivial rfl ?_
    refine O_pure (P_bitN rfl rfl rfl rfl (Nat.lt_of_le_of_lt (Nat.div_le_self _ _) (Nat.lt_of_le_of_lt Nat.and_le_left (sw2_lt (sw1_lt hv)))) (Nat.mod_lt _ (by decide))) trivial rfl ?_
    repeat' (first | (refine isO ?_; first | refine oo (Pc rfl) ?_ | refine oo (Pa rfl (by omega) (by omega)) ?_ | (refine ob rfl ?_ ?_ <;> intro hq <;> try (exfalso; omega)) | refine oo (Pi rfl (by omega)) ?_ | refine oo (Pl rfl) ?_ | refine oo (Px rfl rfl) ?_ | refine oo (Pj rfl (by omega) (by omega)) ?_ | refine oo (Pk rfl (by omega) (by omega)) ?_ | refine oo (Pf rfl) ?_ | refine oo (Pv rfl (by omega) (by omega)) ?_ | refine oo (Pn rfl) ?_ | refine oo (Pm rfl) ?_ | refine os rfl rfl ?_ | refine ot rfl (by omega) ?_ | refine O_nil ?_) | refine wo rfl ?_ | refine wc rfl ?_ | refine wg rfl ?_ | refine go rfl ?_ | refine gc rfl ?_ | refine gg rfl ?_)
    refine W_region_tail 10 Tb.mixed (by kernel_rfl) ?_
    simp only [List.take_succ_cons, List.take_zero, List.drop_succ_cons, List.drop_zero]
    refine OS_pure (P_load_empty Tb.a180 hI hI1 rfl) trivial rfl ?_
    repeat' (first | (refine isS ?_; first | refine ss (Pc rfl) ?_ | refine ss (Pa rfl (by omega) (by omega)) ?_ | (refine sb rfl ?_ ?_ <;> intro hq <;> try (exfalso; omega)) | refine ss (Pi rfl (by omega)) ?_ | refine ss (Pl rfl) ?_ | refine ss (Px rfl rfl) ?_ | refine ss (Pj rfl (by omega) (by omega)) ?_ | refine ss (Pk rfl (by omega) (by omega)) ?_ | refine ss (Pf rfl) ?_ | refine ss (Pv rfl (by omega) (by omega)) ?_ | refine ss (Pn rfl) ?_ | refine ss (Pm rfl) ?_ | refine OS_nil ?_))
    refine OS_pure (P_sliceA1E (o' := 5 + cnt) (len' := 512 - cnt) (cap' := 512 - cnt) Tb.u97 Tb.c5 rfl ⟨_, rfl⟩ rfl (by omega) (by omega) (by omega) (by omega) (by omega) (by omega) (by omega)) trivial rfl ?_
    repeat' (first | (refine isS ?_; first | refine ss (Pc rfl) ?_ | refine ss (Pa rfl (by omega) (by omega)) ?_ | (refine sb rfl ?_ ?_ <;> intro hq <;> try (exfalso; omega)) | refine ss (Pi rfl (by omega)) ?_ | refine ss (Pl rfl) ?_ | refine ss (Px rfl rfl) ?_ | refine ss (Pj rfl (by omega) (by omega)) ?_ | refine ss (Pk rfl (by omega) (by omega)) ?_ | refine ss (Pf rfl) ?_ | refine ss (Pv rfl (by omega) (by omega)) ?_ | refine ss (Pn rfl) ?_ | refine ss (Pm rfl) ?_ | refine OS_nil ?_))
    refine O_call rfl rfl Tb.k106 trivial rfl (HCp.take (L := ⟨true, wb, 5, ints .u8 buf⟩ :: ⟨true, wb, 0, [.int .i64 off, wv, .int .u64 v, .int .u64 nb, .bool true]⟩ :: ⟨true, wb, 517, [.int .i64 cnt]⟩ :: F) (by repeat (first | exact .rfl | exact .nil | (apply Rk.cons; (· exact TakeI.out)) | refine .drop ?_)) (put64_c wb 5 cnt buf (512 - cnt) (512 - cnt) (sw4 (sw2 (sw1 v))) (by omega) (by omega) (sw4_lt (sw2_lt (sw1_lt hv))) _)) ?_
    rintro _ M' hrk
    refine O_weak hrk ?_
    repeat' (first | (refine isO ?_; first | refine oo (Pc rfl) ?_ | refine oo (Pa rfl (by omega) (by omega)) ?_ | (refine ob rfl ?_ ?_ <;> intro hq <;> try (exfalso; omega)) | refine oo (Pi rfl (by omega)) ?_ | refine oo (Pl rfl) ?_ | refine oo (Px rfl rfl) ?_ | refine oo (Pj rfl (by omega) (by omega)) ?_ | refine oo (Pk rfl (by omega) (by omega)) ?_ | refine oo (Pf rfl) ?_ | refine oo (Pv rfl (by omega) (by omega)) ?_ | refine oo (Pn rfl) ?_ | refine oo (Pm rfl) ?_ | refine os rfl rfl ?_ | refine ot rfl (by omega) ?_ | refine O_nil ?_) | refine wo rfl ?_ | refine wc rfl ?_ | refine wg rfl ?_ | refine go rfl ?_ | refine gc rfl ?_ | refine gg rfl ?_)
    refine O_pure (P_is (P_quo rfl rfl (by omega) (by omega) (inK_u64 (by omega) (by omega))) (congrArg (Value.int .u64) (rfl : (nb : Int) / 8 = ((nb / 8 : Nat) : Int)))) trivial rfl ?_
    repeat' (first | (refine isO ?_; first | refine oo (Pc rfl) ?_ | refine oo (Pa rfl (by omega) (by omega)) ?_ | (refine ob rfl ?_ ?_ <;> intro hq <;> try (exfalso; omega)) | refine oo (Pi rfl (by omega)) ?_ | refine oo (Pl rfl) ?_ | refine oo (Px rfl rfl) ?_ | refine oo (Pj rfl (by omega) (by omega)) ?_ | refine oo (Pk rfl (by omega) (by omega)) ?_ | refine oo (Pf rfl) ?_ | refine oo (Pv rfl (by omega) (by omega)) ?_ | refine oo (Pn rfl) ?_ | refine oo (Pm rfl) ?_ | refine os rfl rfl ?_ | refine ot rfl (by omega) ?_ | refine O_nil ?_) | refine wo rfl ?_ | refine wc rfl ?_ | refine wg rfl ?_ | refine go rfl ?_ | refine gc rfl ?_ | refine gg rfl ?_)
    refine O_pure (P_shrN (p := v) (q := 8 * (nb / 8)) rfl rfl hv) trivial rfl ?_
    repeat' (first | (refine isO ?_; first | refine oo (Pc rfl) ?_ | refine oo (Pa rfl (by omega) (by omega)) ?_ | (refine ob rfl ?_ ?_ <;> intro hq <;> try (exfalso; omega)) | refine oo (Pi rfl (by omega)) ?_ | refine oo (Pl rfl) ?_ | refine oo (Px rfl rfl) ?_ | refine oo (Pj rfl (by omega) (by omega)) ?_ | refine oo (Pk rfl (by omega) (by omega)) ?_ | refine oo (Pf rfl) ?_ | refine oo (Pv rfl (by omega) (by omega)) ?_ | refine oo (Pn rfl) ?_ | refine oo (Pm rfl) ?_ | refine os rfl rfl ?_ | refine ot rfl (by omega) ?_ | refine O_nil ?_) | refine wo rfl ?_ | refine wc rfl ?_ | refine wg rfl ?_ | refine go rfl ?_ | refine gc rfl ?_ | refine gg rfl ?_)
    refine G_fin ⟨_, rfl, rfl, ?_⟩
    rw [show ((nb % 8 : Nat) : Int) = (nb : Int) - 8 * ((nb / 8 : Nat) : Int) by omega]
    repeat (first | exact .rfl | exact .nil | (apply Rk.cons; (· exact TakeI.out)) | refine .drop ?_)
end Go.Proofs.Ytjkpfliaflmppaa.Wr

namespace Go.Proofs.Ytjkpfliaflmppaa.Wr
open Go Go.RowKit Go.Proofs.Ytjkpfliaflmppaa.Vm Go.Proofs.Ytjkpfliaflmppaa.Bu

theorem div_lt {v k : Nat} (h : v < 2 ^ 64) : v / k < 2 ^ 64 := Nat.lt_of_le_of_lt (Nat.div_le_self _ _) h

theorem bits_c (wb off : Nat) (wv : Value) (v nb : Nat) (big : Bool) (buf : List Int) (cnt : Nat) (x n : Nat) (F : Mem) (hbuf : buf.length = 512) (hcnt : cnt < 504) (hv : v < 2 ^ 64) (hnb : nb ≤ 64) (hn : n ≤ 1000) :
    HC Try.prog 55 #[.pointer (some ⟨wb, 0, none⟩), .int .u64 x, .int .u64 n] (Wa wb off wv v nb big :: Wb wb buf :: Wc wb cnt :: F)
      (fun _ M' => Rk M' (Wa wb off wv (v / 2 ^ (8 * (nb / 8)) ||| x * 2 ^ (nb % 8) % 2 ^ 64) (nb % 8 + n) big :: Wb wb (lay8 buf cnt (sw big v)) :: Wc wb (cnt + nb / 8) :: F)) := by
  refine HC_of_W (fn := Try.f55) Try.func55 rfl rfl rfl rfl ?_
  repeat' (first | (refine isO ?_; first | refine oo (Pc rfl) ?_ | refine oo (Pa rfl (by omega) (by omega)) ?_ | (refine ob rfl ?_ ?_ <;> intro hq <;> try (exfalso; omega)) | refine oo (Pi rfl (by omega)) ?_ | refine oo (Pl rfl) ?_ | refine oo (Px rfl rfl) ?_ | refine oo (Pj rfl (by omega) (by omega)) ?_ | refine oo (Pk rfl (by omega) (by omega)) ?_ | refine oo (Pf rfl) ?_ | refine oo (Pv rfl (by omega) (by omega)) ?_ | refine oo (Pn rfl) ?_ | refine oo (Pm rfl) ?_ | refine os rfl rfl ?_ | refine ot rfl (by omega) ?_ | refine O_nil ?_) | refine wo rfl ?_ | refine wc rfl ?_ | refine wg rfl ?_ | refine go rfl ?_ | refine gc rfl ?_ | refine gg rfl ?_)
  refine O_call rfl rfl Tb.k99 trivial rfl (push_c wb off wv v nb big buf cnt F hbuf hcnt hv hnb) ?_
  rintro _ M' ⟨rfl, hrk⟩
  refine O_weak hrk ?_
  unfold Wa Wb Wc
  repeat' (first | (refine isO ?_; first | refine oo (Pc rfl) ?_ | refine oo (Pa rfl (by omega) (by omega)) ?_ | (refine ob rfl ?_ ?_ <;> intro hq <;> try (exfalso; omega)) | refine oo (Pi rfl (by omega)) ?_ | refine oo (Pl rfl) ?_ | refine oo (Px rfl rfl) ?_ | refine oo (Pj rfl (by omega) (by omega)) ?_ | refine oo (Pk rfl (by omega) (by omega)) ?_ | refine oo (Pf rfl) ?_ | refine oo (Pv rfl (by omega) (by omega)) ?_ | refine oo (Pn rfl) ?_ | refine oo (Pm rfl) ?_ | refine os rfl rfl ?_ | refine ot rfl (by omega) ?_ | refine O_nil ?_) | refine wo rfl ?_ | refine wc rfl ?_ | refine wg rfl ?_ | refine go rfl ?_ | refine gc rfl ?_ | refine gg rfl ?_)
  refine O_pure (P_err_ne Tb.i82 rfl rfl) trivial rfl ?_
  repeat' (first | (refine isO ?_; first | refine oo (Pc rfl) ?_ | refine oo (Pa rfl (by omega) (by omega)) ?_ | (refine ob rfl ?_ ?_ <;> intro hq <;> try (exfalso; omega)) | refine oo (Pi rfl (by omega)) ?_ | refine oo (Pl rfl) ?_ | refine oo (Px rfl rfl) ?_ | refine oo (Pj rfl (by omega) (by omega)) ?_ | refine oo (Pk rfl (by omega) (by omega)) ?_ | refine oo (Pf rfl) ?_ | refine oo (Pv rfl (by omega) (by omega)) ?_ | refine oo (Pn rfl) ?_ | refine oo (Pm rfl) ?_ | refine os rfl rfl ?_ | refine ot rfl (by omega) ?_ | refine O_nil ?_) | refine wo rfl ?_ | refine wc rfl ?_ | refine wg rfl ?_ | refine go rfl ?_ | refine gc rfl ?_ | refine gg rfl ?_)
  refine W_region_tail 10 Tb.mixed (by kernel_rfl) ?_
  simp only [List.take_succ_cons, List.take_zero, List.drop_succ_cons, List.drop_zero]
  repeat' (first | (refine isS ?_; first | refine ss (Pc rfl) ?_ | refine ss (Pa rfl (by omega) (by omega)) ?_ | (refine sb rfl ?_ ?_ <;> intro hq <;> try (exfalso; omega)) | refine ss (Pi rfl (by omega)) ?_ | refine ss (Pl rfl) ?_ | refine ss (Px rfl rfl) ?_ | refine ss (Pj rfl (by omega) (by omega)) ?_ | refine ss (Pk rfl (by omega) (by omega)) ?_ | refine ss (Pf rfl) ?_ | refine ss (Pv rfl (by omega) (by omega)) ?_ | refine ss (Pn rfl) ?_ | refine ss (Pm rfl) ?_ | refine OS_nil ?_))
  refine OS_pure (P_shlN (p := x) (q := nb % 8) rfl rfl rfl) trivial rfl ?_
  repeat' (first | (refine isS ?_; first | refine ss (Pc rfl) ?_ | refine ss (Pa rfl (by omega) (by omega)) ?_ | (refine sb rfl ?_ ?_ <;> intro hq <;> try (exfalso; omega)) | refine ss (Pi rfl (by omega)) ?_ | refine ss (Pl rfl) ?_ | refine ss (Px rfl rfl) ?_ | refine ss (Pj rfl (by omega) (by omega)) ?_ | refine ss (Pk rfl (by omega) (by omega)) ?_ | refine ss (Pf rfl) ?_ | refine ss (Pv rfl (by omega) (by omega)) ?_ | refine ss (Pn rfl) ?_ | refine ss (Pm rfl) ?_ | refine OS_nil ?_))
  refine O_pure (P_bitN rfl rfl rfl rfl (div_lt hv) (Nat.mod_lt _ (by decide))) trivial rfl ?_
  repeat' (first | (refine isO ?_; first | refine oo (Pc rfl) ?_ | refine oo (Pa rfl (by omega) (by omega)) ?_ | (refine ob rfl ?_ ?_ <;> intro hq <;> try (exfalso; omega)) | refine oo (Pi rfl (by omega)) ?_ | refine oo (Pl rfl) ?_ | refine oo (Px rfl rfl) ?_ | refine oo (Pj rfl (by omega) (by omega)) ?_ | refine oo (Pk rfl (by omega) (by omega)) ?_ | refine oo (Pf rfl) ?_ | refine oo (Pv rfl (by omega) (by omega)) ?_ | refine oo (Pn rfl) ?_ | refine oo (Pm rfl) ?_ | refine os rfl rfl ?_ | refine ot rfl (by omega) ?_ | refine O_nil ?_) | refine wo rfl ?_ | refine wc rfl ?_ | refine wg rfl ?_ | refine go rfl ?_ | refine gc rfl ?_ | refine gg rfl ?_)
  exact G_fin ⟨_, rfl, by repeat (first | exact .rfl | exact .nil | (apply Rk.cons; (· exact TakeI.out)) | refine .drop ?_)⟩

theorem neg_nat (nb : Nat) (h : nb ≤ 64) : IntKind.u64.wrap (0 - (nb : Int)) = (((18446744073709551616 - nb) % 18446744073709551616 : Nat) : Int) := by
  simp only [IntKind.wrap, IntKind.signed, IntKind.bits]
  simp
  omega
theorem and7 (nb : Nat) (h : nb ≤ 64) : (18446744073709551616 - nb) % 18446744073709551616 &&& 7 = (8 - nb % 8) % 8 := by
  have := Nat.and_two_pow_sub_one_eq_mod ((18446744073709551616 - nb) % 18446744073709551616) 3
  simp only [Nat.reducePow, Nat.reduceSub] at this
  rw [this]
  omega

theorem pads_c (wb off : Nat) (wv : Value) (v nb : Nat) (big : Bool) (buf : List Int) (cnt : Nat) (x : Nat) (F : Mem) (hv : v < 2 ^ 64) (hnb : nb ≤ 64) :
    HC Try.prog 58 #[.pointer (some ⟨wb, 0, none⟩), .int .u64 x] (Wa wb off wv v nb big :: Wb wb buf :: Wc wb cnt :: F)
      (fun _ M' => Rk M' (Wa wb off wv (v ||| x * 2 ^ nb % 2 ^ 64) (nb + (8 - nb % 8) % 8) big :: Wb wb buf :: Wc wb cnt :: F)) := by
  refine HC_of_W (fn := Try.f58) Try.func58 rfl rfl rfl rfl ?_
  unfold Wa Wb Wc
  repeat' (first | (refine isO ?_; first | refine oo (Pc rfl) ?_ | refine oo (Pa rfl (by omega) (by omega)) ?_ | (refine ob rfl ?_ ?_ <;> intro hq <;> try (exfalso; omega)) | refine oo (Pi rfl (by omega)) ?_ | refine oo (Pl rfl) ?_ | refine oo (Px rfl rfl) ?_ | refine oo (Pj rfl (by omega) (by omega)) ?_ | refine oo (Pk rfl (by omega) (by omega)) ?_ | refine oo (Pf rfl) ?_ | refine oo (Pv rfl (by omega) (by omega)) ?_ | refine oo (Pn rfl) ?_ | refine oo (Pm rfl) ?_ | refine os rfl rfl ?_ | refine ot rfl (by omega) ?_ | refine O_nil ?_) | refine wo rfl ?_ | refine wc rfl ?_ | refine wg rfl ?_ | refine go rfl ?_ | refine gc rfl ?_ | refine gg rfl ?_)
  refine O_pure (P_is (P_neg rfl) (congrArg (Value.int .u64) (neg_nat nb hnb))) trivial rfl ?_
  refine O_pure (P_is (P_bitN (q := 7) rfl rfl rfl rfl (Nat.mod_lt _ (by decide)) (by decide)) (congrArg (fun n : Nat => Value.int .u64 (n : Int)) (and7 nb hnb))) trivial rfl ?_
  repeat' (first | (refine isO ?_; first | refine oo (Pc rfl) ?_ | refine oo (Pa rfl (by omega) (by omega)) ?_ | (refine ob rfl ?_ ?_ <;> intro hq <;> try (exfalso; omega)) | refine oo (Pi rfl (by omega)) ?_ | refine oo (Pl rfl) ?_ | refine oo (Px rfl rfl) ?_ | refine oo (Pj rfl (by omega) (by omega)) ?_ | refine oo (Pk rfl (by omega) (by omega)) ?_ | refine oo (Pf rfl) ?_ | refine oo (Pv rfl (by omega) (by omega)) ?_ | refine oo (Pn rfl) ?_ | refine oo (Pm rfl) ?_ | refine os rfl rfl ?_ | refine ot rfl (by omega) ?_ | refine O_nil ?_) | refine wo rfl ?_ | refine wc rfl ?_ | refine wg rfl ?_ | refine go rfl ?_ | refine gc rfl ?_ | refine gg rfl ?_)
  refine W_region_tail 10 Tb.mixed (by kernel_rfl) ?_
  simp only [List.take_succ_cons, List.take_zero, List.drop_succ_cons, List.drop_zero]
  repeat' (first | (refine isS ?_; first | refine ss (Pc rfl) ?_ | refine ss (Pa rfl (by omega) (by omega)) ?_ | (refine sb rfl ?_ ?_ <;> intro hq <;> try (exfalso; omega)) | refine ss (Pi rfl (by omega)) ?_ | refine ss (Pl rfl) ?_ | refine ss (Px rfl rfl) ?_ | refine ss (Pj rfl (by omega) (by omega)) ?_ | refine ss (Pk rfl (by omega) (by omega)) ?_ | refine ss (Pf rfl) ?_ | refine ss (Pv rfl (by omega) (by omega)) ?_ | refine ss (Pn rfl) ?_ | refine ss (Pm rfl) ?_ | refine OS_nil ?_))
  refine OS_pure (P_shlN (p := x) (q := nb) rfl rfl rfl) trivial rfl ?_
  repeat' (first | (refine isS ?_; first | refine ss (Pc rfl) ?_ | refine ss (Pa rfl (by omega) (by omega)) ?_ | (refine sb rfl ?_ ?_ <;> intro hq <;> try (exfalso; omega)) | refine ss (Pi rfl (by omega)) ?_ | refine ss (Pl rfl) ?_ | refine ss (Px rfl rfl) ?_ | refine ss (Pj rfl (by omega) (by omega)) ?_ | refine ss (Pk rfl (by omega) (by omega)) ?_ | refine ss (Pf rfl) ?_ | refine ss (Pv rfl (by omega) (by omega)) ?_ | refine ss (Pn rfl) ?_ | refine ss (Pm rfl) ?_ | refine OS_nil ?_))
  refine O_pure (P_bitN rfl rfl rfl rfl hv (Nat.mod_lt _ (by decide))) trivial rfl ?_
  repeat' (first | (refine isO ?_; first | refine oo (Pc rfl) ?_ | refine oo (Pa rfl (by omega) (by omega)) ?_ | (refine ob rfl ?_ ?_ <;> intro hq <;> try (exfalso; omega)) | refine oo (Pi rfl (by omega)) ?_ | refine oo (Pl rfl) ?_ | refine oo (Px rfl rfl) ?_ | refine oo (Pj rfl (by omega) (by omega)) ?_ | refine oo (Pk rfl (by omega) (by omega)) ?_ | refine oo (Pf rfl) ?_ | refine oo (Pv rfl (by omega) (by omega)) ?_ | refine oo (Pn rfl) ?_ | refine oo (Pm rfl) ?_ | refine os rfl rfl ?_ | refine ot rfl (by omega) ?_ | refine O_nil ?_) | refine wo rfl ?_ | refine wc rfl ?_ | refine wg rfl ?_ | refine go rfl ?_ | refine gc rfl ?_ | refine gg rfl ?_)
  exact G_fin ⟨_, rfl, by repeat (first | exact .rfl | exact .nil | (apply Rk.cons; (· exact TakeI.out)) | refine .drop ?_)⟩

theorem bitsWritten_c (wb off : Nat) (wv : Value) (v nb : Nat) (big : Bool) (buf : List Int) (cnt : Nat) (F : Mem) (ho : off ≤ 1099511627776) (hc : cnt ≤ 512) (hnb : nb ≤ 64) :
    HC Try.prog 60 #[.pointer (some ⟨wb, 0, none⟩)] (Wa wb off wv v nb big :: Wb wb buf :: Wc wb cnt :: F)
      (fun r M' => r = .int .i64 (8 * off + 8 * cnt + nb : Nat) ∧ Rk M' (Wa wb off wv v nb big :: Wb wb buf :: Wc wb cnt :: F)) := by
  refine HC_of_W (fn := Try.f60) Try.func60 rfl rfl rfl rfl ?_
  unfold Wa Wb Wc
  repeat' (first | (refine isO ?_; first | refine oo (Pc rfl) ?_ | refine oo (Pa rfl (by omega) (by omega)) ?_ | (refine ob rfl ?_ ?_ <;> intro hq <;> try (exfalso; omega)) | refine oo (Pi rfl (by omega)) ?_ | refine oo (Pl rfl) ?_ | refine oo (Px rfl rfl) ?_ | refine oo (Pj rfl (by omega) (by omega)) ?_ | refine oo (Pk rfl (by omega) (by omega)) ?_ | refine oo (Pf rfl) ?_ | refine oo (Pv rfl (by omega) (by omega)) ?_ | refine oo (Pn rfl) ?_ | refine oo (Pm rfl) ?_ | refine os rfl rfl ?_ | refine ot rfl (by omega) ?_ | refine O_nil ?_) | refine wo rfl ?_ | refine wc rfl ?_ | refine wg rfl ?_ | refine go rfl ?_ | refine gc rfl ?_ | refine gg rfl ?_)
  refine W_region_still Tb.mixed (by kernel_rfl) ?_
  repeat' (first | (refine isS ?_; first | refine ss (Pc rfl) ?_ | refine ss (Pa rfl (by omega) (by omega)) ?_ | (refine sb rfl ?_ ?_ <;> intro hq <;> try (exfalso; omega)) | refine ss (Pi rfl (by omega)) ?_ | refine ss (Pl rfl) ?_ | refine ss (Px rfl rfl) ?_ | refine ss (Pj rfl (by omega) (by omega)) ?_ | refine ss (Pk rfl (by omega) (by omega)) ?_ | refine ss (Pf rfl) ?_ | refine ss (Pv rfl (by omega) (by omega)) ?_ | refine ss (Pn rfl) ?_ | refine ss (Pm rfl) ?_ | refine OS_nil ?_))
  repeat' (first | (refine isO ?_; first | refine oo (Pc rfl) ?_ | refine oo (Pa rfl (by omega) (by omega)) ?_ | (refine ob rfl ?_ ?_ <;> intro hq <;> try (exfalso; omega)) | refine oo (Pi rfl (by omega)) ?_ | refine oo (Pl rfl) ?_ | refine oo (Px rfl rfl) ?_ | refine oo (Pj rfl (by omega) (by omega)) ?_ | refine oo (Pk rfl (by omega) (by omega)) ?_ | refine oo (Pf rfl) ?_ | refine oo (Pv rfl (by omega) (by omega)) ?_ | refine oo (Pn rfl) ?_ | refine oo (Pm rfl) ?_ | refine os rfl rfl ?_ | refine ot rfl (by omega) ?_ | refine O_nil ?_) | refine wo rfl ?_ | refine wc rfl ?_ | refine wg rfl ?_ | refine go rfl ?_ | refine gc rfl ?_ | refine gg rfl ?_)
  exact G_fin ⟨_, rfl, rfl, by repeat (first | exact .rfl | exact .nil | (apply Rk.cons; (· exact TakeI.out)) | refine .drop ?_)⟩

def cells99 (bb : Nat) (b : Bool) : List Value := [.int .i64 0, .iface 101 (.pointer (some ⟨bb, 0, none⟩)), .int .u64 0, .int .u64 0, .bool b] ++ (ints .u8 (List.replicate 512 0) ++ [.int .i64 0])
theorem build99 (bb : Nat) (b : Bool) (w : World) : (Instr.build 99 [(1, .iface 101 (.pointer (some ⟨bb, 0, none⟩))), (4, .bool b)].toArray).run Try.prog w =
    .ok (.agg (cells99 bb b).toArray) w := by kernel_rfl

theorem init_c (wb bb : Nat) (big : Bool) (cs : List Value) (hcs : cs.length = 518) (F : Mem) :
    HC Try.prog 51 #[.pointer (some ⟨wb, 0, none⟩), .iface 101 (.pointer (some ⟨bb, 0, none⟩)), .bool big] (⟨true, wb, 0, cs⟩ :: F)
      (fun _ M' => Rk M' (Wa wb 0 (.iface 101 (.pointer (some ⟨bb, 0, none⟩))) 0 0 big :: Wb wb (List.replicate 512 0) :: Wc wb 0 :: F)) := by
  refine HC_of_W (fn := Try.f51) Try.func51 rfl rfl rfl rfl ?_
  unfold Wa Wb Wc
  repeat' (first | (refine isO ?_; first | refine oo (Pc rfl) ?_ | refine oo (Pa rfl (by omega) (by omega)) ?_ | (refine ob rfl ?_ ?_ <;> intro hq <;> try (exfalso; omega)) | refine oo (Pi rfl (by omega)) ?_ | refine oo (Pl rfl) ?_ | refine oo (Px rfl rfl) ?_ | refine oo (Pj rfl (by omega) (by omega)) ?_ | refine oo (Pk rfl (by omega) (by omega)) ?_ | refine oo (Pf rfl) ?_ | refine oo (Pv rfl (by omega) (by omega)) ?_ | refine oo (Pn rfl) ?_ | refine oo (Pm rfl) ?_ | refine os rfl rfl ?_ | refine ot rfl (by omega) ?_ | refine O_nil ?_) | refine wo rfl ?_ | refine wc rfl ?_ | refine wg rfl ?_ | refine go rfl ?_ | refine gc rfl ?_ | refine gg rfl ?_)
  refine O_pure (P_build rfl (build99 _ _)) trivial rfl ?_
  repeat' (first | (refine isO ?_; first | refine oo (Pc rfl) ?_ | refine oo (Pa rfl (by omega) (by omega)) ?_ | (refine ob rfl ?_ ?_ <;> intro hq <;> try (exfalso; omega)) | refine oo (Pi rfl (by omega)) ?_ | refine oo (Pl rfl) ?_ | refine oo (Px rfl rfl) ?_ | refine oo (Pj rfl (by omega) (by omega)) ?_ | refine oo (Pk rfl (by omega) (by omega)) ?_ | refine oo (Pf rfl) ?_ | refine oo (Pv rfl (by omega) (by omega)) ?_ | refine oo (Pn rfl) ?_ | refine oo (Pm rfl) ?_ | refine os rfl rfl ?_ | refine ot rfl (by omega) ?_ | refine O_nil ?_) | refine wo rfl ?_ | refine wc rfl ?_ | refine wg rfl ?_ | refine go rfl ?_ | refine gc rfl ?_ | refine gg rfl ?_)
  refine O_storeAgg0 Tb.c99 (by decide) rfl rfl (by simp only [cells99, List.length_append, ints_length, List.length_replicate, List.length_cons, List.length_nil]) ?_ trivial .head hcs ?_
  · intro v hv
    unfold cells99 at hv
    rcases List.mem_append.1 hv with h | h
    · simp at h; rcases h with rfl | rfl | rfl | rfl <;> rfl
    · rcases List.mem_append.1 h with h | h
      · exact ints_one _ h
      · simp at h; subst h; rfl
  refine O_split (o2 := 5) rfl rfl ?_
  refine O_weak (M' := ⟨true, wb, 5, ints .u8 (List.replicate 512 0) ++ [.int .i64 0]⟩ :: ⟨true, wb, 0, [.int .i64 0, .iface 101 (.pointer (some ⟨bb, 0, none⟩)), .int .u64 0, .int .u64 0, .bool big]⟩ :: F) (.perm (.swap _ _ _)) ?_
  refine O_split (o2 := 517) rfl (by rw [ints_length, List.length_replicate]) ?_
  repeat' (first | (refine isO ?_; first | refine oo (Pc rfl) ?_ | refine oo (Pa rfl (by omega) (by omega)) ?_ | (refine ob rfl ?_ ?_ <;> intro hq <;> try (exfalso; omega)) | refine oo (Pi rfl (by omega)) ?_ | refine oo (Pl rfl) ?_ | refine oo (Px rfl rfl) ?_ | refine oo (Pj rfl (by omega) (by omega)) ?_ | refine oo (Pk rfl (by omega) (by omega)) ?_ | refine oo (Pf rfl) ?_ | refine oo (Pv rfl (by omega) (by omega)) ?_ | refine oo (Pn rfl) ?_ | refine oo (Pm rfl) ?_ | refine os rfl rfl ?_ | refine ot rfl (by omega) ?_ | refine O_nil ?_) | refine wo rfl ?_ | refine wc rfl ?_ | refine wg rfl ?_ | refine go rfl ?_ | refine gc rfl ?_ | refine gg rfl ?_)
  exact G_fin ⟨_, rfl, .cons (.tail (.tail .head)) .rfl⟩

theorem bytes_c (bb : Nat) (s : Value) (xs : List Int) (m : Mem) (lr : Int) (F : Mem) (hB : Bf s xs m) :
    HC Try.prog 62 #[.pointer (some ⟨bb, 0, none⟩)] (⟨true, bb, 0, [s, .int .i64 0, .int .i8 lr]⟩ :: (m ++ F))
      (fun r M' => r = s ∧ M' = ⟨true, bb, 0, [s, .int .i64 0, .int .i8 lr]⟩ :: (m ++ F)) := by
  refine HC_of_W (fn := Try.f62) Try.func62 rfl rfl rfl rfl ?_
  repeat' (first | (refine isO ?_; first | refine oo (Pc rfl) ?_ | refine oo (Pa rfl (by omega) (by omega)) ?_ | (refine ob rfl ?_ ?_ <;> intro hq <;> try (exfalso; omega)) | refine oo (Pi rfl (by omega)) ?_ | refine oo (Pl rfl) ?_ | refine oo (Px rfl rfl) ?_ | refine oo (Pj rfl (by omega) (by omega)) ?_ | refine oo (Pk rfl (by omega) (by omega)) ?_ | refine oo (Pf rfl) ?_ | refine oo (Pv rfl (by omega) (by omega)) ?_ | refine oo (Pn rfl) ?_ | refine oo (Pm rfl) ?_ | refine os rfl rfl ?_ | refine ot rfl (by omega) ?_ | refine O_nil ?_) | refine wo rfl ?_ | refine wc rfl ?_ | refine wg rfl ?_ | refine go rfl ?_ | refine gc rfl ?_ | refine gg rfl ?_)
  refine W_region_still Tb.mixed (by kernel_rfl) ?_
  repeat' (first | (refine isS ?_; first | refine ss (Pc rfl) ?_ | refine ss (Pa rfl (by omega) (by omega)) ?_ | (refine sb rfl ?_ ?_ <;> intro hq <;> try (exfalso; omega)) | refine ss (Pi rfl (by omega)) ?_ | refine ss (Pl rfl) ?_ | refine ss (Px rfl rfl) ?_ | refine ss (Pj rfl (by omega) (by omega)) ?_ | refine ss (Pk rfl (by omega) (by omega)) ?_ | refine ss (Pf rfl) ?_ | refine ss (Pv rfl (by omega) (by omega)) ?_ | refine ss (Pn rfl) ?_ | refine ss (Pm rfl) ?_ | refine OS_nil ?_))
  rcases hB with ⟨rfl, rfl, rfl⟩ | ⟨b, c, sp, rfl, rfl, hlen, hc0, hone⟩
  · refine OS_pure (P_slice_end Tb.u22 Tb.c5 (by decide) rfl ⟨_, rfl⟩ rfl (by omega) (by omega) (by omega) (by omega)) trivial rfl ?_
    repeat' (first | (refine isS ?_; first | refine ss (Pc rfl) ?_ | refine ss (Pa rfl (by omega) (by omega)) ?_ | (refine sb rfl ?_ ?_ <;> intro hq <;> try (exfalso; omega)) | refine ss (Pi rfl (by omega)) ?_ | refine ss (Pl rfl) ?_ | refine ss (Px rfl rfl) ?_ | refine ss (Pj rfl (by omega) (by omega)) ?_ | refine ss (Pk rfl (by omega) (by omega)) ?_ | refine ss (Pf rfl) ?_ | refine ss (Pv rfl (by omega) (by omega)) ?_ | refine ss (Pn rfl) ?_ | refine ss (Pm rfl) ?_ | refine OS_nil ?_))
    repeat' (first | (refine isO ?_; first | refine oo (Pc rfl) ?_ | refine oo (Pa rfl (by omega) (by omega)) ?_ | (refine ob rfl ?_ ?_ <;> intro hq <;> try (exfalso; omega)) | refine oo (Pi rfl (by omega)) ?_ | refine oo (Pl rfl) ?_ | refine oo (Px rfl rfl) ?_ | refine oo (Pj rfl (by omega) (by omega)) ?_ | refine oo (Pk rfl (by omega) (by omega)) ?_ | refine oo (Pf rfl) ?_ | refine oo (Pv rfl (by omega) (by omega)) ?_ | refine oo (Pn rfl) ?_ | refine oo (Pm rfl) ?_ | refine os rfl rfl ?_ | refine ot rfl (by omega) ?_ | refine O_nil ?_) | refine wo rfl ?_ | refine wc rfl ?_ | refine wg rfl ?_ | refine go rfl ?_ | refine gc rfl ?_ | refine gg rfl ?_)
    exact G_fin ⟨_, rfl, rfl, rfl⟩
  · refine OS_pure (P_slice1E (o' := 0) (len' := xs.length) (cap' := c) Tb.u22 Tb.c5 rfl ⟨_, rfl⟩ rfl (by omega) (by omega) (by omega) (by omega) rfl (by omega) (by omega)) trivial rfl ?_
    repeat' (first | (refine isS ?_; first | refine ss (Pc rfl) ?_ | refine ss (Pa rfl (by omega) (by omega)) ?_ | (refine sb rfl ?_ ?_ <;> intro hq <;> try (exfalso; omega)) | refine ss (Pi rfl (by omega)) ?_ | refine ss (Pl rfl) ?_ | refine ss (Px rfl rfl) ?_ | refine ss (Pj rfl (by omega) (by omega)) ?_ | refine ss (Pk rfl (by omega) (by omega)) ?_ | refine ss (Pf rfl) ?_ | refine ss (Pv rfl (by omega) (by omega)) ?_ | refine ss (Pn rfl) ?_ | refine ss (Pm rfl) ?_ | refine OS_nil ?_))
    repeat' (first | (refine isO ?_; first | refine oo (Pc rfl) ?_ | refine oo (Pa rfl (by omega) (by omega)) ?_ | (refine ob rfl ?_ ?_ <;> intro hq <;> try (exfalso; omega)) | refine oo (Pi rfl (by omega)) ?_ | refine oo (Pl rfl) ?_ | refine oo (Px rfl rfl) ?_ | refine oo (Pj rfl (by omega) (by omega)) ?_ | refine oo (Pk rfl (by omega) (by omega)) ?_ | refine oo (Pf rfl) ?_ | refine oo (Pv rfl (by omega) (by omega)) ?_ | refine oo (Pn rfl) ?_ | refine oo (Pm rfl) ?_ | refine os rfl rfl ?_ | refine ot rfl (by omega) ?_ | refine O_nil ?_) | refine wo rfl ?_ | refine wc rfl ?_ | refine wg rfl ?_ | refine go rfl ?_ | refine gc rfl ?_ | refine gg rfl ?_)
    exact G_fin ⟨_, rfl, rfl, rfl⟩
end Go.Proofs.Ytjkpfliaflmppaa.Wr

namespace Go.Proofs.Ytjkpfliaflmppaa.Wr
open Go Go.RowKit Go.Proofs.Ytjkpfliaflmppaa.Vm Go.Proofs.Ytjkpfliaflmppaa.Bu

theorem meth_write (bb : Nat) (x : Value) (w : World) : (callMethod (.iface 101 (.pointer (some ⟨bb, 0, none⟩))) "Write" [x].toArray).run Try.prog w = .ok (.enter 145 #[.pointer (some ⟨bb, 0, none⟩), x]) w := by kernel_rfl

theorem P_nilI {P : Program} {N : Fm} {E : Env} {M : Mem} {x : Operand} {t : TypeId} {v : Value} (hx : ev E x = some (.iface t v)) : Pure P N E M (.nilCheck x) (.iface t v) := by
  constructor
  intro pr base w0 a w hA hS d ty pos after g
  simp [execOp, hA.eval hx, Sem.run, pure]

theorem flush_c (wb bb off : Nat) (v nb : Nat) (big : Bool) (buf : List Int) (cnt : Nat) (s : Value) (out : List Int) (m : Mem) (lr : Int) (F : Mem) (hbuf : buf.length = 512) (hcnt : cnt < 504) (hv : v < 2 ^ 64) (hnb : nb ≤ 64)
    (hB : Bf s out m) (hroom : Room s (cnt + nb / 8)) (hoff : off ≤ 1099511627776) :
    HC Try.prog 61 #[.pointer (some ⟨wb, 0, none⟩)] (Wa wb off (.iface 101 (.pointer (some ⟨bb, 0, none⟩))) v nb big :: Wb wb buf :: Wc wb cnt :: ⟨true, bb, 0, [s, .int .i64 0, .int .i8 lr]⟩ :: (m ++ F))
      (fun r M' => (∃ z, r = .tuple #[z, .nilIface]) ∧ ∃ buf' s' m' lr', buf'.length = 512 ∧ Bf s' (out ++ (lay8 buf cnt (sw big v)).take (cnt + nb / 8)) m' ∧
        Rk M' (Wa wb (off + (cnt + nb / 8)) (.iface 101 (.pointer (some ⟨bb, 0, none⟩))) (v / 2 ^ (8 * (nb / 8))) (nb % 8) big :: Wb wb buf' :: Wc wb 0 :: ⟨true, bb, 0, [s', .int .i64 0, .int .i8 lr']⟩ :: (m' ++ F))) := by
  refine HC_of_W (fn := Try.f61) Try.func61 rfl rfl rfl rfl ?_
  have hp := push_c wb off (.iface 101 (.pointer (some ⟨bb, 0, none⟩))) v nb big buf cnt (⟨true, bb, 0, [s, .int .i64 0, .int .i8 lr]⟩ :: (m ++ F)) hbuf hcnt hv hnb
  unfold Wa Wb Wc at *
  repeat' (first | (refine isO ?_; first | refine oo (Pc rfl) ?_ | refine oo (Pa rfl (by omega) (by omega)) ?_ | (refine ob rfl ?_ ?_ <;> intro hq <;> try (exfalso; omega)) | refine oo (Pi rfl (by omega)) ?_ | refine oo (Pl rfl) ?_ | refine oo (Px rfl rfl) ?_ | refine oo (Pj rfl (by omega) (by omega)) ?_ | refine oo (Pk rfl (by omega) (by omega)) ?_ | refine oo (Pf rfl) ?_ | refine oo (Pv rfl (by omega) (by omega)) ?_ | refine oo (Pn rfl) ?_ | refine oo (Pm rfl) ?_ | refine os rfl rfl ?_ | refine ot rfl (by omega) ?_ | refine O_nil ?_) | refine wo rfl ?_ | refine wc rfl ?_ | refine wg rfl ?_ | refine go rfl ?_ | refine gc rfl ?_ | refine gg rfl ?_)
  · obtain rfl : cnt = 0 := by omega
    have h0 : nb / 8 = 0 := by omega
    refine G_fin ⟨_, rfl, ⟨_, rfl⟩, buf, s, m, lr, hbuf, by rw [h0]; simpa using hB, ?_⟩
    rw [h0, show nb % 8 = nb by omega]
    simp only [Nat.mul_zero, Nat.pow_zero, Nat.div_one, Nat.add_zero]
    repeat (first | exact .rfl | exact .nil | (apply Rk.cons; (· exact TakeI.out)) | refine .drop ?_)
  all_goals
    refine O_call rfl rfl Tb.k99 trivial rfl hp ?_
    rintro _ M' ⟨rfl, hrk⟩
    refine O_weak hrk ?_
    repeat' (first | (refine isO ?_; first | refine oo (Pc rfl) ?_ | refine oo (Pa rfl (by omega) (by omega)) ?_ | (refine ob rfl ?_ ?_ <;> intro hq <;> try (exfalso; omega)) | refine oo (Pi rfl (by omega)) ?_ | refine oo (Pl rfl) ?_ | refine oo (Px rfl rfl) ?_ | refine oo (Pj rfl (by omega) (by omega)) ?_ | refine oo (Pk rfl (by omega) (by omega)) ?_ | refine oo (Pf rfl) ?_ | refine oo (Pv rfl (by omega) (by omega)) ?_ | refine oo (Pn rfl) ?_ | refine oo (Pm rfl) ?_ | refine os rfl rfl ?_ | refine ot rfl (by omega) ?_ | refine O_nil ?_) | refine wo rfl ?_ | refine wc rfl ?_ | refine wg rfl ?_ | refine go rfl ?_ | refine gc rfl ?_ | refine gg rfl ?_)
    refine O_pure (P_err_ne Tb.i82 rfl rfl) trivial rfl ?_
    repeat' (first | (refine isO ?_; first | refine oo (Pc rfl) ?_ | refine oo (Pa rfl (by omega) (by omega)) ?_ | (refine ob rfl ?_ ?_ <;> intro hq <;> try (exfalso; omega)) | refine oo (Pi rfl (by omega)) ?_ | refine oo (Pl rfl) ?_ | refine oo (Px rfl rfl) ?_ | refine oo (Pj rfl (by omega) (by omega)) ?_ | refine oo (Pk rfl (by omega) (by omega)) ?_ | refine oo (Pf rfl) ?_ | refine oo (Pv rfl (by omega) (by omega)) ?_ | refine oo (Pn rfl) ?_ | refine oo (Pm rfl) ?_ | refine os rfl rfl ?_ | refine ot rfl (by omega) ?_ | refine O_nil ?_) | refine wo rfl ?_ | refine wc rfl ?_ | refine wg rfl ?_ | refine go rfl ?_ | refine gc rfl ?_ | refine gg rfl ?_)
    refine W_region_mid 14 Tb.mixed (by kernel_rfl) ?_
    simp only [List.take_succ_cons, List.take_zero, List.drop_succ_cons, List.drop_zero]
    repeat' (first | (refine isS ?_; first | refine ss (Pc rfl) ?_ | refine ss (Pa rfl (by omega) (by omega)) ?_ | (refine sb rfl ?_ ?_ <;> intro hq <;> try (exfalso; omega)) | refine ss (Pi rfl (by omega)) ?_ | refine ss (Pl rfl) ?_ | refine ss (Px rfl rfl) ?_ | refine ss (Pj rfl (by omega) (by omega)) ?_ | refine ss (Pk rfl (by omega) (by omega)) ?_ | refine ss (Pf rfl) ?_ | refine ss (Pv rfl (by omega) (by omega)) ?_ | refine ss (Pn rfl) ?_ | refine ss (Pm rfl) ?_ | refine OS_nil ?_))
    refine OS_pure (P_sliceA1E (o' := 5) (len' := cnt + nb / 8) (cap' := 512) Tb.u97 Tb.c5 rfl rfl ⟨_, rfl⟩ (by omega) (by omega) (by omega) (by omega) rfl (by omega) (by omega)) trivial rfl ?_
    refine OS_pure (P_nilI rfl) trivial rfl ?_
    repeat' (first | (refine isS ?_; first | refine ss (Pc rfl) ?_ | refine ss (Pa rfl (by omega) (by omega)) ?_ | (refine sb rfl ?_ ?_ <;> intro hq <;> try (exfalso; omega)) | refine ss (Pi rfl (by omega)) ?_ | refine ss (Pl rfl) ?_ | refine ss (Px rfl rfl) ?_ | refine ss (Pj rfl (by omega) (by omega)) ?_ | refine ss (Pk rfl (by omega) (by omega)) ?_ | refine ss (Pf rfl) ?_ | refine ss (Pv rfl (by omega) (by omega)) ?_ | refine ss (Pn rfl) ?_ | refine ss (Pm rfl) ?_ | refine OS_nil ?_))
    refine O_invoke rfl rfl (meth_write bb _) trivial rfl (HCp.take (L := ⟨true, bb, 0, [s, .int .i64 0, .int .i8 lr]⟩ :: (m ++ (Wa wb off (.iface 101 (.pointer (some ⟨bb, 0, none⟩))) (v / 2 ^ (8 * (nb / 8))) (nb % 8) big :: Wb wb (lay8 buf cnt (sw big v)) :: Wc wb (cnt + nb / 8) :: F)))
      (.cons (by exact TakeI.out) (.perm (List.perm_append_comm_assoc [_, _, _] m F)))
      (write_c bb s out ((lay8 buf cnt (sw big v)).take (cnt + nb / 8)) m _ (cnt + nb / 8) _ lr _ hB (by rw [List.length_take, lay8_length]; omega) hroom
        (.inr ⟨true, wb, 5, ints .u8 (lay8 buf cnt (sw big v)), 0, rfl, .tail _ (.head _), by rw [ints_length, lay8_length]; omega, by simp [ints, List.map_take], ints_one⟩))) ?_
    rintro _ M' ⟨rfl, s', m', hB', hrk'⟩
    refine O_weak (M' := Wa wb off (.iface 101 (.pointer (some ⟨bb, 0, none⟩))) (v / 2 ^ (8 * (nb / 8))) (nb % 8) big :: Wb wb (lay8 buf cnt (sw big v)) :: Wc wb (cnt + nb / 8) :: ⟨true, bb, 0, [s', .int .i64 0, .int .i8 0]⟩ :: (m' ++ F))
      (.trans hrk' (.trans (.perm (.cons _ (List.perm_append_comm_assoc m' [_, _, _] F))) (.cons (.tail .head) (.cons (.tail .head) (.cons (.tail .head) .rfl))))) ?_
    refine O_nil (G_fin ⟨rfl, ?_⟩)
    unfold Wa Wb Wc
    repeat' (first | (refine isS ?_; first | refine ss (Pc rfl) ?_ | refine ss (Pa rfl (by omega) (by omega)) ?_ | (refine sb rfl ?_ ?_ <;> intro hq <;> try (exfalso; omega)) | refine ss (Pi rfl (by omega)) ?_ | refine ss (Pl rfl) ?_ | refine ss (Px rfl rfl) ?_ | refine ss (Pj rfl (by omega) (by omega)) ?_ | refine ss (Pk rfl (by omega) (by omega)) ?_ | refine ss (Pf rfl) ?_ | refine ss (Pv rfl (by omega) (by omega)) ?_ | refine ss (Pn rfl) ?_ | refine ss (Pm rfl) ?_ | refine OS_nil ?_))
    repeat' (first | (refine isO ?_; first | refine oo (Pc rfl) ?_ | refine oo (Pa rfl (by omega) (by omega)) ?_ | (refine ob rfl ?_ ?_ <;> intro hq <;> try (exfalso; omega)) | refine oo (Pi rfl (by omega)) ?_ | refine oo (Pl rfl) ?_ | refine oo (Px rfl rfl) ?_ | refine oo (Pj rfl (by omega) (by omega)) ?_ | refine oo (Pk rfl (by omega) (by omega)) ?_ | refine oo (Pf rfl) ?_ | refine oo (Pv rfl (by omega) (by omega)) ?_ | refine oo (Pn rfl) ?_ | refine oo (Pm rfl) ?_ | refine os rfl rfl ?_ | refine ot rfl (by omega) ?_ | refine O_nil ?_) | refine wo rfl ?_ | refine wc rfl ?_ | refine wg rfl ?_ | refine go rfl ?_ | refine gc rfl ?_ | refine gg rfl ?_)
    refine G_fin ⟨_, rfl, ⟨_, rfl⟩, lay8 buf cnt (sw big v), s', m', 0, by rw [lay8_length]; exact hbuf, hB', ?_⟩
    rw [show ((0 : Nat) : Int) = ((cnt + nb / 8 : Nat) : Int) - ((cnt + nb / 8 : Nat) : Int) by omega]
    repeat (first | exact .rfl | exact .nil | (apply Rk.cons; (· exact TakeI.out)) | refine .drop ?_)
end Go.Proofs.Ytjkpfliaflmppaa.Wr

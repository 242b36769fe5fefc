/- The bit Writer's TryWriteBits and TryWriteSymbol, walked, by the bits that were written so far. -/
import Derived.Test.YtjkpfliaflmppaaW11x21

namespace Go.Proofs.Ytjkpfliaflmppaa.Wr
open Go Go.RowKit Go.Proofs.Ytjkpfliaflmppaa.Vm Go.Proofs.Ytjkpfliaflmppaa.Bu Go.Proofs.Ytjkpfliaflmppaa.Pc

theorem tbits_c (wb off : Nat) (wv : Value) (v nb : Nat) (big : Bool) (buf : List Int) (cnt : Nat) (x n : Nat) (F : Mem) (hv : v < 2 ^ 64) (hnb : nb ≤ 64) (hn : n ≤ 1000) :
    HC Try.prog 87 #[.pointer (some ⟨wb, 0, none⟩), .int .u64 x, .int .u64 n] (Wa wb off wv v nb big :: Wb wb buf :: Wc wb cnt :: F)
      (fun r M' => (r = .bool true ∧ nb + n ≤ 64 ∧ Rk M' (Wa wb off wv (v ||| x * 2 ^ nb % 2 ^ 64) (nb + n) big :: Wb wb buf :: Wc wb cnt :: F)) ∨
        (r = .bool false ∧ Rk M' (Wa wb off wv v nb big :: Wb wb buf :: Wc wb cnt :: F))) := by
  refine HC_of_W (fn := Try.f87) Try.func87 rfl rfl rfl rfl ?_
  unfold Wa Wb Wc
  repeat' (first | (refine isO ?_; first | refine oo (Pc rfl) ?_ | refine oo (Pa rfl (by omega) (by omega)) ?_ | (refine ob rfl ?_ ?_ <;> intro hq <;> try (exfalso; omega)) | refine oo (Pi rfl (by omega)) ?_ | refine oo (Pl rfl) ?_ | refine oo (Px rfl rfl) ?_ | refine oo (Pj rfl (by omega) (by omega)) ?_ | refine oo (Pk rfl (by omega) (by omega)) ?_ | refine oo (Pf rfl) ?_ | refine oo (Pv rfl (by omega) (by omega)) ?_ | refine oo (Pn rfl) ?_ | refine oo (Pm rfl) ?_ | refine os rfl rfl ?_ | refine ot rfl (by omega) ?_ | refine O_nil ?_) | refine wo rfl ?_ | refine wc rfl ?_ | refine wg rfl ?_ | refine go rfl ?_ | refine gc rfl ?_ | refine gg rfl ?_)
  · exact G_fin ⟨_, rfl, .inr ⟨rfl, by repeat (first | exact .rfl | exact .nil | (apply Rk.cons; (· exact TakeI.out)) | refine .drop ?_)⟩⟩
  · refine W_region_tail 10 Tb.mixed (by kernel_rfl) ?_
    simp only [List.take_succ_cons, List.take_zero, List.drop_succ_cons, List.drop_zero]
    repeat' (first | (refine isS ?_; first | refine ss (Pc rfl) ?_ | refine ss (Pa rfl (by omega) (by omega)) ?_ | (refine sb rfl ?_ ?_ <;> intro hq <;> try (exfalso; omega)) | refine ss (Pi rfl (by omega)) ?_ | refine ss (Pl rfl) ?_ | refine ss (Px rfl rfl) ?_ | refine ss (Pj rfl (by omega) (by omega)) ?_ | refine ss (Pk rfl (by omega) (by omega)) ?_ | refine ss (Pf rfl) ?_ | refine ss (Pv rfl (by omega) (by omega)) ?_ | refine ss (Pn rfl) ?_ | refine ss (Pm rfl) ?_ | refine OS_nil ?_))
    refine OS_pure (P_shlN (p := x) (q := nb) rfl rfl rfl) trivial rfl ?_
    repeat' (first | (refine isS ?_; first | refine ss (Pc rfl) ?_ | refine ss (Pa rfl (by omega) (by omega)) ?_ | (refine sb rfl ?_ ?_ <;> intro hq <;> try (exfalso; omega)) | refine ss (Pi rfl (by omega)) ?_ | refine ss (Pl rfl) ?_ | refine ss (Px rfl rfl) ?_ | refine ss (Pj rfl (by omega) (by omega)) ?_ | refine ss (Pk rfl (by omega) (by omega)) ?_ | refine ss (Pf rfl) ?_ | refine ss (Pv rfl (by omega) (by omega)) ?_ | refine ss (Pn rfl) ?_ | refine ss (Pm rfl) ?_ | refine OS_nil ?_))
    refine O_pure (P_bitN rfl rfl rfl rfl hv (Nat.mod_lt _ (by decide))) trivial rfl ?_
    repeat' (first | (refine isO ?_; first | refine oo (Pc rfl) ?_ | refine oo (Pa rfl (by omega) (by omega)) ?_ | (refine ob rfl ?_ ?_ <;> intro hq <;> try (exfalso; omega)) | refine oo (Pi rfl (by omega)) ?_ | refine oo (Pl rfl) ?_ | refine oo (Px rfl rfl) ?_ | refine oo (Pj rfl (by omega) (by omega)) ?_ | refine oo (Pk rfl (by omega) (by omega)) ?_ | refine oo (Pf rfl) ?_ | refine oo (Pv rfl (by omega) (by omega)) ?_ | refine oo (Pn rfl) ?_ | refine oo (Pm rfl) ?_ | refine os rfl rfl ?_ | refine ot rfl (by omega) ?_ | refine O_nil ?_) | refine wo rfl ?_ | refine wc rfl ?_ | refine wg rfl ?_ | refine go rfl ?_ | refine gc rfl ?_ | refine gg rfl ?_)
    exact G_fin ⟨_, rfl, .inl ⟨rfl, by omega, by repeat (first | exact .rfl | exact .nil | (apply Rk.cons; (· exact TakeI.out)) | refine .drop ?_)⟩⟩

set_option maxHeartbeats 1000000 in
theorem tsym_c (wb off : Nat) (wv : Value) (v nb : Nat) (big : Bool) (buf : List Int) (cnt : Nat) (x eb j cb cc : Nat) (ch : List Int) (cs : List Cd) (F : Mem) (hv : v < 2 ^ 64) (hnb : nb ≤ 64)
    (hN : Numbered cs) (hT : EncT cs j cc ch) (hE : (EncR eb cs.length j cb cc : Sg) ∈ F) (hC : (⟨true, cb, 0, ints .u32 ch⟩ : Sg) ∈ F) (hx : x < cs.length) :
    HC Try.prog 88 #[.pointer (some ⟨wb, 0, none⟩), .int .u64 x, .pointer (some ⟨eb, 0, none⟩)] (Wa wb off wv v nb big :: Wb wb buf :: Wc wb cnt :: F)
      (fun r M' => (r = .bool true ∧ nb + (cs.getD x Cd.zero).len ≤ 64 ∧ Rk M' (Wa wb off wv (v ||| (cs.getD x Cd.zero).val * 2 ^ nb % 2 ^ 64) (nb + (cs.getD x Cd.zero).len) big :: Wb wb buf :: Wc wb cnt :: F)) ∨
        (r = .bool false ∧ Rk M' (Wa wb off wv v nb big :: Wb wb buf :: Wc wb cnt :: F))) := by
  obtain ⟨hj, hnj, hcc, hcl, hch⟩ := hT
  have h60 := hN.most
  have hp6 := pow6 hj
  have hch := hch x hx
  have hl := hN.len x hx
  have hvl := hN.val x hx
  unfold EncR at hE
  unfold chunkOf at hch
  have hand := and_mask (show x < 2 ^ j by omega)
  have hch : (ints .u32 ch)[x]? = some (.int .u32 (((cs.getD x Cd.zero).val * 32 ||| (cs.getD x Cd.zero).len : Nat) : Int)) := by rw [ints_get (by omega), hch]
  generalize (cs.getD x Cd.zero).val = cv at *
  generalize (cs.getD x Cd.zero).len = cl at *
  have hk1 := chunk_len cv cl hl.2
  have hk2 := chunk_val cv cl hl.2
  have hk3 := chunk_lt cv cl hvl hl.2
  generalize (cv * 32 ||| cl) = ck at *
  refine HC_of_W (fn := Try.f88) Try.func88 rfl rfl rfl rfl ?_
  unfold Wa Wb Wc
  repeat' (first | (refine isO ?_; first | refine oo (Pc rfl) ?_ | refine oo (Pa rfl (by omega) (by omega)) ?_ | (refine ob rfl ?_ ?_ <;> intro hq <;> try (exfalso; omega)) | refine oo (Pi rfl (by omega)) ?_ | refine oo (Pl rfl) ?_ | refine oo (Px rfl rfl) ?_ | refine oo (Pj rfl (by omega) (by omega)) ?_ | refine oo (Pk rfl (by omega) (by omega)) ?_ | refine oo (Pf rfl) ?_ | refine oo (Pv rfl (by omega) (by omega)) ?_ | refine oo (Pn rfl) ?_ | refine oo (Pm rfl) ?_ | refine os rfl rfl ?_ | refine ot rfl (by omega) ?_ | refine O_nil ?_) | refine wo rfl ?_ | refine wc rfl ?_ | refine wg rfl ?_ | refine go rfl ?_ | refine gc rfl ?_ | refine gg rfl ?_)
  (refine W_region_still Tb.mixed (by kernel_rfl) ?_; (repeat' (first | (refine isS ?_; first | refine ss (Pc rfl) ?_ | refine ss (Pa rfl (by omega) (by omega)) ?_ | (refine sb rfl ?_ ?_ <;> intro hq <;> try (exfalso; omega)) | refine ss (Pi rfl (by omega)) ?_ | refine ss (Pl rfl) ?_ | refine ss (Px rfl rfl) ?_ | refine ss (Pj rfl (by omega) (by omega)) ?_ | refine ss (Pk rfl (by omega) (by omega)) ?_ | refine ss (Pf rfl) ?_ | refine ss (Pv rfl (by omega) (by omega)) ?_ | refine ss (Pn rfl) ?_ | refine ss (Pm rfl) ?_ | refine OS_nil ?_))); refine OS_pure (P_loadAt (o := 0) (n := 0) Tb.p46 rfl rfl (.tail _ (.tail _ (.tail _ hE))) rfl) trivial rfl ?_; (repeat' (first | (refine isS ?_; first | refine ss (Pc rfl) ?_ | refine ss (Pa rfl (by omega) (by omega)) ?_ | (refine sb rfl ?_ ?_ <;> intro hq <;> try (exfalso; omega)) | refine ss (Pi rfl (by omega)) ?_ | refine ss (Pl rfl) ?_ | refine ss (Px rfl rfl) ?_ | refine ss (Pj rfl (by omega) (by omega)) ?_ | refine ss (Pk rfl (by omega) (by omega)) ?_ | refine ss (Pf rfl) ?_ | refine ss (Pv rfl (by omega) (by omega)) ?_ | refine ss (Pn rfl) ?_ | refine ss (Pm rfl) ?_ | refine OS_nil ?_))); refine OS_pure (P_loadAt (o := 0) (n := 1) Tb.p40 rfl rfl (.tail _ (.tail _ (.tail _ hE))) rfl) trivial rfl ?_; refine OS_pure (P_is (P_bitN (p := x) (q := 2 ^ j - 1) rfl rfl rfl rfl (by simp only [IntKind.bits]; omega) (by simp only [IntKind.bits]; omega)) (congrArg (fun y : Nat => Value.int .u32 (y : Int)) hand)) trivial rfl ?_; (repeat' (first | (refine isS ?_; first | refine ss (Pc rfl) ?_ | refine ss (Pa rfl (by omega) (by omega)) ?_ | (refine sb rfl ?_ ?_ <;> intro hq <;> try (exfalso; omega)) | refine ss (Pi rfl (by omega)) ?_ | refine ss (Pl rfl) ?_ | refine ss (Px rfl rfl) ?_ | refine ss (Pj rfl (by omega) (by omega)) ?_ | refine ss (Pk rfl (by omega) (by omega)) ?_ | refine ss (Pf rfl) ?_ | refine ss (Pv rfl (by omega) (by omega)) ?_ | refine ss (Pn rfl) ?_ | refine ss (Pm rfl) ?_ | refine OS_nil ?_))); refine OS_pure (P_loadAt (o := 0) (n := x) Tb.p40 rfl (by omega) (.tail _ (.tail _ (.tail _ hC))) hch) trivial rfl ?_; (repeat' (first | (refine isS ?_; first | refine ss (Pc rfl) ?_ | refine ss (Pa rfl (by omega) (by omega)) ?_ | (refine sb rfl ?_ ?_ <;> intro hq <;> try (exfalso; omega)) | refine ss (Pi rfl (by omega)) ?_ | refine ss (Pl rfl) ?_ | refine ss (Px rfl rfl) ?_ | refine ss (Pj rfl (by omega) (by omega)) ?_ | refine ss (Pk rfl (by omega) (by omega)) ?_ | refine ss (Pf rfl) ?_ | refine ss (Pv rfl (by omega) (by omega)) ?_ | refine ss (Pn rfl) ?_ | refine ss (Pm rfl) ?_ | refine OS_nil ?_))))
  repeat' (first | (refine isO ?_; first | refine oo (Pc rfl) ?_ | refine oo (Pa rfl (by omega) (by omega)) ?_ | (refine ob rfl ?_ ?_ <;> intro hq <;> try (exfalso; omega)) | refine oo (Pi rfl (by omega)) ?_ | refine oo (Pl rfl) ?_ | refine oo (Px rfl rfl) ?_ | refine oo (Pj rfl (by omega) (by omega)) ?_ | refine oo (Pk rfl (by omega) (by omega)) ?_ | refine oo (Pf rfl) ?_ | refine oo (Pv rfl (by omega) (by omega)) ?_ | refine oo (Pn rfl) ?_ | refine oo (Pm rfl) ?_ | refine os rfl rfl ?_ | refine ot rfl (by omega) ?_ | refine O_nil ?_) | refine wo rfl ?_ | refine wc rfl ?_ | refine wg rfl ?_ | refine go rfl ?_ | refine gc rfl ?_ | refine gg rfl ?_)
  refine O_pure (P_is (P_bitN (p := ck) (q := 31) rfl rfl rfl rfl hk3 (by decide)) (congrArg (fun y : Nat => Value.int .u32 (y : Int)) hk1)) trivial rfl ?_
  repeat' (first | (refine isO ?_; first | refine oo (Pc rfl) ?_ | refine oo (Pa rfl (by omega) (by omega)) ?_ | (refine ob rfl ?_ ?_ <;> intro hq <;> try (exfalso; omega)) | refine oo (Pi rfl (by omega)) ?_ | refine oo (Pl rfl) ?_ | refine oo (Px rfl rfl) ?_ | refine oo (Pj rfl (by omega) (by omega)) ?_ | refine oo (Pk rfl (by omega) (by omega)) ?_ | refine oo (Pf rfl) ?_ | refine oo (Pv rfl (by omega) (by omega)) ?_ | refine oo (Pn rfl) ?_ | refine oo (Pm rfl) ?_ | refine os rfl rfl ?_ | refine ot rfl (by omega) ?_ | refine O_nil ?_) | refine wo rfl ?_ | refine wc rfl ?_ | refine wg rfl ?_ | refine go rfl ?_ | refine gc rfl ?_ | refine gg rfl ?_)
  · exact G_fin ⟨_, rfl, .inr ⟨rfl, by repeat (first | exact .rfl | exact .nil | (apply Rk.cons; (· exact TakeI.out)) | refine .drop ?_)⟩⟩
  · refine W_region_tail 12 Tb.mixed (by kernel_rfl) ?_
    simp only [List.take_succ_cons, List.take_zero, List.drop_succ_cons, List.drop_zero]
    repeat' (first | (refine isS ?_; first | refine ss (Pc rfl) ?_ | refine ss (Pa rfl (by omega) (by omega)) ?_ | (refine sb rfl ?_ ?_ <;> intro hq <;> try (exfalso; omega)) | refine ss (Pi rfl (by omega)) ?_ | refine ss (Pl rfl) ?_ | refine ss (Px rfl rfl) ?_ | refine ss (Pj rfl (by omega) (by omega)) ?_ | refine ss (Pk rfl (by omega) (by omega)) ?_ | refine ss (Pf rfl) ?_ | refine ss (Pv rfl (by omega) (by omega)) ?_ | refine ss (Pn rfl) ?_ | refine ss (Pm rfl) ?_ | refine OS_nil ?_))
    refine OS_pure (P_shrE (p := ck) (q := 5) (r := cv) rfl rfl hk3 hk2) trivial rfl ?_
    repeat' (first | (refine isS ?_; first | refine ss (Pc rfl) ?_ | refine ss (Pa rfl (by omega) (by omega)) ?_ | (refine sb rfl ?_ ?_ <;> intro hq <;> try (exfalso; omega)) | refine ss (Pi rfl (by omega)) ?_ | refine ss (Pl rfl) ?_ | refine ss (Px rfl rfl) ?_ | refine ss (Pj rfl (by omega) (by omega)) ?_ | refine ss (Pk rfl (by omega) (by omega)) ?_ | refine ss (Pf rfl) ?_ | refine ss (Pv rfl (by omega) (by omega)) ?_ | refine ss (Pn rfl) ?_ | refine ss (Pm rfl) ?_ | refine OS_nil ?_))
    refine OS_pure (P_shlN (p := cv) (q := nb) rfl rfl rfl) trivial rfl ?_
    repeat' (first | (refine isS ?_; first | refine ss (Pc rfl) ?_ | refine ss (Pa rfl (by omega) (by omega)) ?_ | (refine sb rfl ?_ ?_ <;> intro hq <;> try (exfalso; omega)) | refine ss (Pi rfl (by omega)) ?_ | refine ss (Pl rfl) ?_ | refine ss (Px rfl rfl) ?_ | refine ss (Pj rfl (by omega) (by omega)) ?_ | refine ss (Pk rfl (by omega) (by omega)) ?_ | refine ss (Pf rfl) ?_ | refine ss (Pv rfl (by omega) (by omega)) ?_ | refine ss (Pn rfl) ?_ | refine ss (Pm rfl) ?_ | refine OS_nil ?_))
    refine O_pure (P_bitN rfl rfl rfl rfl hv (Nat.mod_lt _ (by decide))) trivial rfl ?_
    repeat' (first | (refine isO ?_; first | refine oo (Pc rfl) ?_ | refine oo (Pa rfl (by omega) (by omega)) ?_ | (refine ob rfl ?_ ?_ <;> intro hq <;> try (exfalso; omega)) | refine oo (Pi rfl (by omega)) ?_ | refine oo (Pl rfl) ?_ | refine oo (Px rfl rfl) ?_ | refine oo (Pj rfl (by omega) (by omega)) ?_ | refine oo (Pk rfl (by omega) (by omega)) ?_ | refine oo (Pf rfl) ?_ | refine oo (Pv rfl (by omega) (by omega)) ?_ | refine oo (Pn rfl) ?_ | refine oo (Pm rfl) ?_ | refine os rfl rfl ?_ | refine ot rfl (by omega) ?_ | refine O_nil ?_) | refine wo rfl ?_ | refine wc rfl ?_ | refine wg rfl ?_ | refine go rfl ?_ | refine gc rfl ?_ | refine gg rfl ?_)
    exact G_fin ⟨_, rfl, .inl ⟨rfl, by omega, by repeat (first | exact .rfl | exact .nil | (apply Rk.cons; (· exact TakeI.out)) | refine .drop ?_)⟩⟩

variable {wb bb : Nat} {big : Bool} {bits : List Nat} {lim : Nat} {x : Wst}
theorem wtbits_c (F : Mem) (h : WS big bits lim x) (y n : Nat) (hy : y < 2 ^ n) (hn : n ≤ 40) :
    HC Try.prog 87 #[.pointer (some ⟨wb, 0, none⟩), .int .u64 y, .int .u64 n] (x.rows wb bb big F)
      (fun r M' => (r = .bool true ∧ Wrote wb bb big (bits ++ bitsOf y n) (lim + n) F M') ∨ (r = .bool false ∧ Rk M' (x.rows wb bb big F))) :=
  (tbits_c wb x.off _ x.v x.nb big x.buf x.cnt y n _ h.v64 h.nb (by omega)).mono fun _ M' hr => hr.imp (fun ⟨e, hn, hrk⟩ => ⟨e, _, h.or hy hn, hrk⟩) id
theorem wtsym_c (F : Mem) (h : WS big bits lim x) (y eb j cb cc : Nat) (ch : List Int) (cs : List Cd) (hN : Numbered cs) (hV : ∀ i, i < cs.length → (cs.getD i Cd.zero).val < 2 ^ (cs.getD i Cd.zero).len) (hT : EncT cs j cc ch) (hE : (EncR eb cs.length j cb cc : Sg) ∈ F) (hC : (⟨true, cb, 0, ints .u32 ch⟩ : Sg) ∈ F) (hy : y < cs.length) :
    HC Try.prog 88 #[.pointer (some ⟨wb, 0, none⟩), .int .u64 y, .pointer (some ⟨eb, 0, none⟩)] (x.rows wb bb big F)
      (fun r M' => (r = .bool true ∧ Wrote wb bb big (bits ++ bitsOf (cs.getD y Cd.zero).val (cs.getD y Cd.zero).len) (lim + (cs.getD y Cd.zero).len) F M') ∨ (r = .bool false ∧ Rk M' (x.rows wb bb big F))) :=
  (tsym_c wb x.off _ x.v x.nb big x.buf x.cnt y eb j cb cc ch cs _ h.v64 h.nb hN hT (.tail _ (List.mem_append_right _ hE)) (.tail _ (List.mem_append_right _ hC)) hy).mono fun _ M' hr => hr.imp (fun ⟨e, hn, hrk⟩ => ⟨e, _, h.or (hV y hy) hn, hrk⟩) id
end Go.Proofs.Ytjkpfliaflmppaa.Wr

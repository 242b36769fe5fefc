/- The specification's own functions on codes, walked: turned, KraftSum, Whole. -/
import Derived.Test.YtjkpfliaflmppaaGp
import Derived.Test.YtjkpfliaflmppaaTi
namespace Go.Proofs.Ytjkpfliaflmppaa.Pc
open Go Go.RowKit Go.Proofs.Ytjkpfliaflmppaa.Vm Go.Proofs.Ytjkpfliaflmppaa.Rev

theorem turned_c (v n : Nat) (hv : v < 2 ^ 32) (hn : n ≤ 31) (M : Mem) : HP Try.prog 45 #[.int .u32 v, .int .u32 n] M (.int .u32 (T n v : Nat)) := by
  refine HP.of (HC_of_W (fn := Try.f45) Try.func45 rfl rfl rfl rfl ?_)
  repeat' (first | (refine isO ?_; first | refine oo (Pc rfl) ?_ | refine oo (Pa rfl (by omega) (by omega)) ?_ | (refine ob rfl ?_ ?_ <;> intro hq <;> try (exfalso; omega)) | refine oo (Pi rfl (by omega)) ?_ | refine oo (Pl rfl) ?_ | refine oo (Px rfl rfl) ?_ | refine oo (Pj rfl (by omega) (by omega)) ?_ | refine oo (Pk rfl (by omega) (by omega)) ?_ | refine oo (Pf rfl) ?_ | refine oo (Pv rfl (by omega) (by omega)) ?_ | refine oo (Pn rfl) ?_ | refine oo (Pm rfl) ?_ | refine os rfl rfl ?_ | refine ot rfl (by omega) ?_ | refine O_nil ?_) | refine wo rfl ?_ | refine wc rfl ?_ | refine wg rfl ?_ | refine go rfl ?_ | refine gc rfl ?_ | refine gg rfl ?_)
  refine W_loop (α := Nat) (fun i => [(0, .int .u32 v), (1, .int .u32 n), (5, .int .u32 (T i v : Nat)), (6, .int .u32 i)]) (fun _ => M) (fun i => i ≤ n) (fun i => n - i) 0 (by omega) ⟨rfl, rfl, rfl, rfl, trivial⟩ .rfl ?_
  intro i hi
  try dsimp only
  have hT := T_lt i v
  repeat' (first | (refine isO ?_; first | refine oo (Pc rfl) ?_ | refine oo (Pa rfl (by omega) (by omega)) ?_ | (refine ob rfl ?_ ?_ <;> intro hq <;> try (exfalso; omega)) | refine oo (Pi rfl (by omega)) ?_ | refine oo (Pl rfl) ?_ | refine oo (Px rfl rfl) ?_ | refine oo (Pj rfl (by omega) (by omega)) ?_ | refine oo (Pk rfl (by omega) (by omega)) ?_ | refine oo (Pf rfl) ?_ | refine oo (Pv rfl (by omega) (by omega)) ?_ | refine oo (Pn rfl) ?_ | refine oo (Pm rfl) ?_ | refine os rfl rfl ?_ | refine ot rfl (by omega) ?_ | refine O_nil ?_) | refine wo rfl ?_ | refine wc rfl ?_ | refine wg rfl ?_ | refine go rfl ?_ | refine gc rfl ?_ | refine gg rfl ?_)
  · have hi1 : i < n := by omega
    have h2 : 2 ^ i ≤ 2 ^ 30 := Nat.pow_le_pow_right (by omega) (by omega)
    have hbit : v / 2 ^ i % 2 < 2 := Nat.mod_lt _ (by omega)
    refine O_pure (P_shlE (p := T i v) (q := 1) (r := 2 * T i v) rfl rfl rfl (by rw [Nat.pow_one, Nat.mul_comm]; exact Nat.mod_eq_of_lt (by simp only [IntKind.bits]; omega))) trivial rfl ?_
    repeat' (first | (refine isO ?_; first | refine oo (Pc rfl) ?_ | refine oo (Pa rfl (by omega) (by omega)) ?_ | (refine ob rfl ?_ ?_ <;> intro hq <;> try (exfalso; omega)) | refine oo (Pi rfl (by omega)) ?_ | refine oo (Pl rfl) ?_ | refine oo (Px rfl rfl) ?_ | refine oo (Pj rfl (by omega) (by omega)) ?_ | refine oo (Pk rfl (by omega) (by omega)) ?_ | refine oo (Pf rfl) ?_ | refine oo (Pv rfl (by omega) (by omega)) ?_ | refine oo (Pn rfl) ?_ | refine oo (Pm rfl) ?_ | refine os rfl rfl ?_ | refine ot rfl (by omega) ?_ | refine O_nil ?_) | refine wo rfl ?_ | refine wc rfl ?_ | refine wg rfl ?_ | refine go rfl ?_ | refine gc rfl ?_ | refine gg rfl ?_)
    refine O_pure (P_shrN (p := v) (q := i) rfl rfl hv) trivial rfl ?_
    refine O_pure (P_is (P_bitN (q := 1) rfl rfl rfl rfl (Nat.lt_of_le_of_lt (Nat.div_le_self _ _) hv) (by decide)) (congrArg (fun n : Nat => Value.int .u32 (n : Int)) (Nat.and_one_is_mod _))) trivial rfl ?_
    refine O_pure (P_is (P_bitN (p := 2 * T i v) (q := v / 2 ^ i % 2) rfl rfl rfl rfl (by simp only [IntKind.bits]; omega) (by simp only [IntKind.bits]; omega)) (congrArg (fun n : Nat => Value.int .u32 (n : Int)) (show 2 * T i v ||| v / 2 ^ i % 2 = T (i + 1) v by
      have := Nat.two_pow_add_eq_or_of_lt (i := 1) (b := v / 2 ^ i % 2) (by omega) (T i v)
      rw [Nat.pow_one] at this
      rw [← this]; rfl))) trivial rfl ?_
    repeat' (first | (refine isO ?_; first | refine oo (Pc rfl) ?_ | refine oo (Pa rfl (by omega) (by omega)) ?_ | (refine ob rfl ?_ ?_ <;> intro hq <;> try (exfalso; omega)) | refine oo (Pi rfl (by omega)) ?_ | refine oo (Pl rfl) ?_ | refine oo (Px rfl rfl) ?_ | refine oo (Pj rfl (by omega) (by omega)) ?_ | refine oo (Pk rfl (by omega) (by omega)) ?_ | refine oo (Pf rfl) ?_ | refine oo (Pv rfl (by omega) (by omega)) ?_ | refine oo (Pn rfl) ?_ | refine oo (Pm rfl) ?_ | refine os rfl rfl ?_ | refine ot rfl (by omega) ?_ | refine O_nil ?_) | refine wo rfl ?_ | refine wc rfl ?_ | refine wg rfl ?_ | refine go rfl ?_ | refine gc rfl ?_ | refine gg rfl ?_)
    exact G_stop ⟨i + 1, by omega, by omega, ⟨rfl, rfl, rfl, rfl, trivial⟩, .rfl⟩
  · obtain rfl : i = n := by omega
    exact G_fin ⟨_, rfl, rfl⟩

/-- Codes that a slice shows. -/
def Rd (s : Value) (l : List Cd) (M : Mem) : Prop :=
  (s = .slice none 0 0 ∧ l = []) ∨ ∃ own b cap sp, s = .slice (some ⟨b, 0, none⟩) l.length cap ∧ (⟨own, b, 0, codesV l ++ sp⟩ : Sg) ∈ M

/-- What KraftSum sums. -/
def ks (l : List Cd) : Nat := (l.map fun c => 2 ^ (20 - c.len)).sum
theorem ks_take (l : List Cd) (i : Nat) (h : i < l.length) : ks (l.take (i + 1)) = ks (l.take i) + 2 ^ (20 - (l.getD i Cd.zero).len) := by
  rw [take_succ_getD l i h]; simp [ks]
theorem ks_kr (l : List Cd) (h : ∀ c ∈ l, c.len ≤ 20) : ks l = kr l 20 := by
  unfold ks kr
  congr 1
  apply List.map_congr_left
  intro c hc
  rw [if_pos (h c hc)]
theorem ks_le (l : List Cd) : ks l ≤ l.length * 2 ^ 20 := by
  induction l with
  | nil => simp [ks]
  | cons c l ih =>
    have h1 : ks (c :: l) = 2 ^ (20 - c.len) + ks l := by simp [ks]
    have h2 : 2 ^ (20 - c.len) ≤ 2 ^ 20 := Nat.pow_le_pow_right (by omega) (by omega)
    simp only [List.length_cons]
    omega

theorem kraft_c (l : List Cd) (b cap : Nat) (own : Bool) (sp : List Value) (M : Mem) (hm : (⟨own, b, 0, codesV l ++ sp⟩ : Sg) ∈ M) (hlen : ∀ c ∈ l, 1 ≤ c.len ∧ c.len ≤ 20) (h60 : l.length ≤ 60) :
    HP Try.prog 44 #[.slice (some ⟨b, 0, none⟩) l.length cap] M (.int .u64 (ks l : Nat)) := by
  refine HP.of (HC_of_W (fn := Try.f44) Try.func44 rfl rfl rfl rfl ?_)
  repeat' (first | (refine isO ?_; first | refine oo (Pc rfl) ?_ | refine oo (Pa rfl (by omega) (by omega)) ?_ | (refine ob rfl ?_ ?_ <;> intro hq <;> try (exfalso; omega)) | refine oo (Pi rfl (by omega)) ?_ | refine oo (Pl rfl) ?_ | refine oo (Px rfl rfl) ?_ | refine oo (Pj rfl (by omega) (by omega)) ?_ | refine oo (Pk rfl (by omega) (by omega)) ?_ | refine oo (Pf rfl) ?_ | refine oo (Pv rfl (by omega) (by omega)) ?_ | refine oo (Pn rfl) ?_ | refine oo (Pm rfl) ?_ | refine os rfl rfl ?_ | refine ot rfl (by omega) ?_ | refine O_nil ?_) | refine wo rfl ?_ | refine wc rfl ?_ | refine wg rfl ?_ | refine go rfl ?_ | refine gc rfl ?_ | refine gg rfl ?_)
  refine W_loop (α := Nat) (fun i => [(0, .slice (some ⟨b, 0, none⟩) l.length cap), (3, .int .u64 (ks (l.take i) : Nat)), (4, .int .i64 i)]) (fun _ => M) (fun i => i ≤ l.length) (fun i => l.length - i) 0 (by omega) ⟨rfl, rfl, rfl, trivial⟩ .rfl ?_
  intro i hi
  try dsimp only
  repeat' (first | (refine isO ?_; first | refine oo (Pc rfl) ?_ | refine oo (Pa rfl (by omega) (by omega)) ?_ | (refine ob rfl ?_ ?_ <;> intro hq <;> try (exfalso; omega)) | refine oo (Pi rfl (by omega)) ?_ | refine oo (Pl rfl) ?_ | refine oo (Px rfl rfl) ?_ | refine oo (Pj rfl (by omega) (by omega)) ?_ | refine oo (Pk rfl (by omega) (by omega)) ?_ | refine oo (Pf rfl) ?_ | refine oo (Pv rfl (by omega) (by omega)) ?_ | refine oo (Pn rfl) ?_ | refine oo (Pm rfl) ?_ | refine os rfl rfl ?_ | refine ot rfl (by omega) ?_ | refine O_nil ?_) | refine wo rfl ?_ | refine wc rfl ?_ | refine wg rfl ?_ | refine go rfl ?_ | refine gc rfl ?_ | refine gg rfl ?_)
  · have hil : i < l.length := by omega
    have hks := ks_take l i hil
    have hle := ks_le (l.take i)
    have hmem : l.getD i Cd.zero ∈ l := by
      rw [show l.getD i Cd.zero = l[i] by simp [hil]]
      exact List.getElem_mem _
    have hl := hlen _ hmem
    have hg : (codesV l ++ sp)[i * 4 + 2]? = some (.int .u32 (l.getD i Cd.zero).len) := codesV_get l sp i 2 hil (by omega)
    have h2 : 2 ^ (20 - (l.getD i Cd.zero).len) ≤ 2 ^ 20 := Nat.pow_le_pow_right (by omega) (by omega)
    have h20 : (2:Nat) ^ 20 = 1048576 := by decide
    have hlt : (l.take i).length ≤ 60 := by simp; omega
    generalize (l.getD i Cd.zero).len = n at *
    refine O_pure (P_loadAt (o := 0) (n := i * 4 + 2) Tb.p40 rfl (by omega) hm hg) trivial rfl ?_
    repeat' (first | (refine isO ?_; first | refine oo (Pc rfl) ?_ | refine oo (Pa rfl (by omega) (by omega)) ?_ | (refine ob rfl ?_ ?_ <;> intro hq <;> try (exfalso; omega)) | refine oo (Pi rfl (by omega)) ?_ | refine oo (Pl rfl) ?_ | refine oo (Px rfl rfl) ?_ | refine oo (Pj rfl (by omega) (by omega)) ?_ | refine oo (Pk rfl (by omega) (by omega)) ?_ | refine oo (Pf rfl) ?_ | refine oo (Pv rfl (by omega) (by omega)) ?_ | refine oo (Pn rfl) ?_ | refine oo (Pm rfl) ?_ | refine os rfl rfl ?_ | refine ot rfl (by omega) ?_ | refine O_nil ?_) | refine wo rfl ?_ | refine wc rfl ?_ | refine wg rfl ?_ | refine go rfl ?_ | refine gc rfl ?_ | refine gg rfl ?_)
    refine O_pure (P_loadAt (o := 0) (n := i * 4 + 2) Tb.p40 rfl (by omega) hm hg) ⟨_, rfl, rfl⟩ rfl ?_
    repeat' (first | (refine isO ?_; first | refine oo (Pc rfl) ?_ | refine oo (Pa rfl (by omega) (by omega)) ?_ | (refine ob rfl ?_ ?_ <;> intro hq <;> try (exfalso; omega)) | refine oo (Pi rfl (by omega)) ?_ | refine oo (Pl rfl) ?_ | refine oo (Px rfl rfl) ?_ | refine oo (Pj rfl (by omega) (by omega)) ?_ | refine oo (Pk rfl (by omega) (by omega)) ?_ | refine oo (Pf rfl) ?_ | refine oo (Pv rfl (by omega) (by omega)) ?_ | refine oo (Pn rfl) ?_ | refine oo (Pm rfl) ?_ | refine os rfl rfl ?_ | refine ot rfl (by omega) ?_ | refine O_nil ?_) | refine wo rfl ?_ | refine wc rfl ?_ | refine wg rfl ?_ | refine go rfl ?_ | refine gc rfl ?_ | refine gg rfl ?_)
    refine O_pure (P_loadAt (o := 0) (n := i * 4 + 2) Tb.p40 rfl (by omega) hm hg) trivial rfl ?_
    repeat' (first | (refine isO ?_; first | refine oo (Pc rfl) ?_ | refine oo (Pa rfl (by omega) (by omega)) ?_ | (refine ob rfl ?_ ?_ <;> intro hq <;> try (exfalso; omega)) | refine oo (Pi rfl (by omega)) ?_ | refine oo (Pl rfl) ?_ | refine oo (Px rfl rfl) ?_ | refine oo (Pj rfl (by omega) (by omega)) ?_ | refine oo (Pk rfl (by omega) (by omega)) ?_ | refine oo (Pf rfl) ?_ | refine oo (Pv rfl (by omega) (by omega)) ?_ | refine oo (Pn rfl) ?_ | refine oo (Pm rfl) ?_ | refine os rfl rfl ?_ | refine ot rfl (by omega) ?_ | refine O_nil ?_) | refine wo rfl ?_ | refine wc rfl ?_ | refine wg rfl ?_ | refine go rfl ?_ | refine gc rfl ?_ | refine gg rfl ?_)
    refine O_pure (P_shlE (p := 1) (q := 20 - n) (r := 2 ^ (20 - n)) rfl (by simp only [ev, Env.get?]; rw [show (20 : Int) - n = ((20 - n : Nat) : Int) by omega]; rfl) rfl (by rw [Nat.one_mul]; exact Nat.mod_eq_of_lt (by simp only [IntKind.bits]; omega))) trivial rfl ?_
    refine O_pure (P_addE (p := ks (l.take i)) (q := 2 ^ (20 - n)) (r := ks (l.take (i + 1))) rfl rfl rfl (by rw [hks]; exact Nat.mod_eq_of_lt (by simp only [IntKind.bits]; omega))) trivial rfl ?_
    repeat' (first | (refine isO ?_; first | refine oo (Pc rfl) ?_ | refine oo (Pa rfl (by omega) (by omega)) ?_ | (refine ob rfl ?_ ?_ <;> intro hq <;> try (exfalso; omega)) | refine oo (Pi rfl (by omega)) ?_ | refine oo (Pl rfl) ?_ | refine oo (Px rfl rfl) ?_ | refine oo (Pj rfl (by omega) (by omega)) ?_ | refine oo (Pk rfl (by omega) (by omega)) ?_ | refine oo (Pf rfl) ?_ | refine oo (Pv rfl (by omega) (by omega)) ?_ | refine oo (Pn rfl) ?_ | refine oo (Pm rfl) ?_ | refine os rfl rfl ?_ | refine ot rfl (by omega) ?_ | refine O_nil ?_) | refine wo rfl ?_ | refine wc rfl ?_ | refine wg rfl ?_ | refine go rfl ?_ | refine gc rfl ?_ | refine gg rfl ?_)
    exact G_stop ⟨i + 1, by omega, by omega, ⟨rfl, rfl, rfl, trivial⟩, .rfl⟩
  · obtain rfl : i = l.length := by omega
    rw [List.take_length]
    exact G_fin ⟨_, rfl, rfl⟩
end Go.Proofs.Ytjkpfliaflmppaa.Pc

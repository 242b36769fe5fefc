/- The specification's own functions on codes, walked: turned, KraftSum, Whole. Lengths that fill all: nothing is left over, the cost is no less than the least one, and the cost of the tree where it is not too deep. No condition. Handed slices of 32-bit numbers; a slice of one's own; small facts. -/
import Derived.Test.YtjkpfliaflmppaaW9x14
import Derived.Test.YtjkpfliaflmppaaW9x10
import Derived.Test.YtjkpfliaflmppaaW9x15
import Derived.Test.YtjkpfliaflmppaaW9x16
import Derived.Test.YtjkpfliaflmppaaW9x04

namespace Go.Proofs.Ytjkpfliaflmppaa.Pc
open Go Go.RowKit Go.Proofs.Ytjkpfliaflmppaa.Vm Go.Proofs.Ytjkpfliaflmppaa.Rev

theorem turned_c (v n : Nat) (hv : v < 2 ^ 32) (hn : n ≤ 31) (M : Mem) : HP Try.prog 45 #[.int .u32 v, .int .u32 n] M (.int .u32 (T n v : Nat)) := by
  refine HP.of (HC_of_W (fn := Try.f45) Try.func45 rfl rfl rfl rfl ?_)
  repeat' (first | (refine isO ?_; first | refine oo (Pc rfl) ?_ | refine oo (Pa rfl (by omega) (by omega)) ?_ | (refine ob rfl ?_ ?_ <;> intro hq <;> try (exfalso; omega)) | refine oo (Pi rfl (by omega)) ?_ | refine oo (Pl rfl) ?_ | refine oo (Px rfl rfl) ?_ | refine oo (Pj rfl (by omega) (by omega)) ?_ | refine oo (Pk rfl (by omega) (by omega)) ?_ | refine oo (Pf rfl) ?_ | refine oo (Pv rfl (by omega) (by omega)) ?_ | refine oo (Pn rfl) ?_ | refine oo (Pm rfl) ?_ | refine os rfl rfl ?_ | refine ot rfl (by omega) ?_ | refine O_nil ?_) | refine wo rfl ?_ | refine wc rfl ?_ | refine wg rfl ?_ | refine go rfl ?_ | refine gc rfl ?_ | refine gg rfl ?_)
  refine W_loop (α := Nat) (fun i => [(0, .int .u32 v), (1, .int .u32 n), (5, .int .u32 (T i v : Nat)), (6, .int .u32 i)]) (fun _ => M) (fun i => i ≤ n) (fun i => n - i) 0 (by omega) ⟨rfl, rfl, rfl, rfl, trivial⟩ .rfl ?_
  intro i hi
  try dsimp only
  have hT := T_lt i v
  repeat' (first | (refine isO ?_; first | refine oo (Pc rfl) ?_ | refine oo (Pa rfl (by omega) (by omega)) ?_ | (refine ob rfl ?_ ?_ <;> intro hq <;> try (exfalso; omega)) | refine oo (Pi rfl (by omega)) ?_ | refine oo (Pl rfl) ?_ | refine oo (Px rfl rfl) ?_ | refine oo (Pj rfl (by omega) (by omega)) ?_ | refine oo (Pk rfl (by omega) (by omega)) ?_ | refine oo (Pf rfl) ?_ | refine oo (Pv rfl (by omega) (by omega)) ?_ | refine oo (Pn rfl) ?_ | refine oo (Pm rfl) ?_ | refine os rfl rfl ?_ | refine ot rfl (by omega) ?_ | refine O_nil ?_) | refine wo rfl ?_ | refine wc rfl ?_ | refine wg rfl ?_ | refine go rfl ?_ | refine gc rfl ?_ | refine gg rfl ?_)
  · have hi1 : i < n := by omega
    have h2 : 2 ^ i ≤ 2 ^ 30 := Nat.pow_le_pow_right (by omega) (by omega)
    have hbit : v / 2 ^ i % 2 < 2 := Nat.mod_lt _ (by omega)
    refine O_pure (P_shlE (p := T i v) (q := 1) (r := 2 * T i v) rfl rfl rfl (by rw [Nat.pow_one, Nat.mul_comm]; exact Nat.mod_eq_of_lt (by simp only [IntKind.bits]; omega))) trivial rfl ?_
    repeat' (first | (refine isO ?_; first | refine oo (Pc rfl) ?_ | refine oo (Pa rfl (by omega) (by omega)) ?_ | (refine ob rfl ?_ ?_ <;> intro hq <;> try (exfalso; omega)) | refine oo (Pi rfl (by omega)) ?_ | refine oo (Pl rfl) ?_ | refine oo (Px rfl rfl) ?_ | refine oo (Pj rfl (by omega) (by omega)) ?_ | refine oo (Pk rfl (by omega) (by omega)) ?_ | refine oo (Pf rfl) ?_ | refine oo (Pv rfl (by omega) (by omega)) ?_ | refine oo (Pn rfl) ?_ | refine oo (Pm rfl) ?_ | refine os rfl rfl ?_ | refine ot rfl (by omega) ?_ | refine O_nil ?_) | refine wo rfl ?_ | refine wc rfl ?_ | refine wg rfl ?_ | refine go rfl ?_ | refine gc rfl ?_ | refine gg rfl ?_)
    refine O_pure (P_shrN (p := v) (q := i) rfl rfl hv) trivial rfl ?_
    refine O_pure (P_is (P_bitN (q := 1) rfl rfl rfl rfl (Nat.lt_of_le_of_lt (Nat.div_le_self _ _) hv) (by decide)) (congrArg (fun n : Nat => Value.int .u32 (n : Int)) (Nat.and_one_is_mod _))) trivial rfl ?_
    refine O_pure (P_is (P_bitN (p := 2 * T i v) (q := v / 2 ^ i % 2) rfl rfl rfl rfl (by simp only [IntKind.bits]; omega) (by simp only [IntKind.bits]; omega)) (congrArg (fun n : Nat => Value.int .u32 (n : Int)) (show 2 * T i v ||| v / 2 ^ i % 2 = T (i + 1) v by
      have := Nat.two_pow_add_eq_or_of_lt (i := 1) (b := v / 2 ^ i % 2) (by omega) (T i v)
      rw [Nat.pow_one] at this
      rw [← this]; rfl))) trivial rfl ?_
    repeat' (first | (refine isO ?_; first | refine oo (Pc rfl) ?_ | refine oo (Pa rfl (by omega) (by omega)) ?_ | (refine ob rfl ?_ ?_ <;> intro hq <;> try (exfalso; omega)) | refine oo (Pi rfl (by omega)) ?_ | refine oo (Pl rfl) ?_ | refine oo (Px rfl rfl) ?_ | refine oo (Pj rfl (by omega) (by omega)) ?_ | refine oo (Pk rfl (by omega) (by omega)) ?_ | refine oo (Pf rfl) ?_ | refine oo (Pv rfl (by omega) (by omega)) ?_ | refine oo (Pn rfl) ?_ | refine oo (Pm rfl) ?_ | refine os rfl rfl ?_ | refine ot rfl (by omega) ?_ | refine O_nil ?_) | refine wo rfl ?_ | refine wc rfl ?_ | refine wg rfl ?_ | refine go rfl ?_ | refine gc rfl ?_ | refine gg rfl ?_)
    exact G_stop ⟨i + 1, by omega, by omega, ⟨rfl, rfl, rfl, rfl, trivial⟩, .rfl⟩
  · obtain rfl : i = n := by omega
    exact G_fin ⟨_, rfl, rfl⟩

/-- Codes that a slice shows. -/
def Rd (s : Value) (l : List Cd) (M : Mem) : Prop :=
  (s = .slice none 0 0 ∧ l = []) ∨ ∃ own b cap sp, s = .slice (some ⟨b, 0, none⟩) l.length cap ∧ (⟨own, b, 0, codesV l ++ sp⟩ : Sg) ∈ M

/-- What KraftSum sums. -/
def ks (l : List Cd) : Nat := (l.map fun c => 2 ^ (20 - c.len)).sum
theorem ks_take (l : List Cd) (i : Nat) (h : i < l.length) : ks (l.take (i + 1)) = ks (l.take i) + 2 ^ (20 - (l.getD i Cd.zero).len) := by
  rw [take_succ_getD l i h]; simp [ks]
theorem ks_kr (l : List Cd) (h : ∀ c ∈ l, c.len ≤ 20) : ks l = kr l 20 := by
  unfold ks kr
  congr 1
  apply List.map_congr_left
  intro c hc
  rw [if_pos (h c hc)]
theorem ks_le (l : List Cd) : ks l ≤ l.length * 2 ^ 20 := by
  induction l with
  | nil => simp [ks]
  | cons c l ih =>
    have h1 : ks (c :: l) = 2 ^ (20 - c.len) + ks l := by simp [ks]
    have h2 : 2 ^ (20 - c.len) ≤ 2 ^ 20 := Nat.pow_le_pow_right (by omega) (by omega)
    simp only [List.length_cons]
    omega

theorem kraft_c (l : List Cd) (b cap : Nat) (own : Bool) (sp : List Value) (M : Mem) (hm : (⟨own, b, 0, codesV l ++ sp⟩ : Sg) ∈ M) (hlen : ∀ c ∈ l, 1 ≤ c.len ∧ c.len ≤ 20) (h60 : l.length ≤ 60) :
    HP Try.prog 44 #[.slice (some ⟨b, 0, none⟩) l.length cap] M (.int .u64 (ks l : Nat)) := by
  refine HP.of (HC_of_W (fn := Try.f44) Try.func44 rfl rfl rfl rfl ?_)
  repeat' (first | (refine isO ?_; first | refine oo (Pc rfl) ?_ | refine oo (Pa rfl (by omega) (by omega)) ?_ | (refine ob rfl ?_ ?_ <;> intro hq <;> try (exfalso; omega)) | refine oo (Pi rfl (by omega)) ?_ | refine oo (Pl rfl) ?_ | refine oo (Px rfl rfl) ?_ | refine oo (Pj rfl (by omega) (by omega)) ?_ | refine oo (Pk rfl (by omega) (by omega)) ?_ | refine oo (Pf rfl) ?_ | refine oo (Pv rfl (by omega) (by omega)) ?_ | refine oo (Pn rfl) ?_ | refine oo (Pm rfl) ?_ | refine os rfl rfl ?_ | refine ot rfl (by omega) ?_ | refine O_nil ?_) | refine wo rfl ?_ | refine wc rfl ?_ | refine wg rfl ?_ | refine go rfl ?_ | refine gc rfl ?_ | refine gg rfl ?_)
  refine W_loop (α := Nat) (fun i => [(0, .slice (some ⟨b, 0, none⟩) l.length cap), (3, .int .u64 (ks (l.take i) : Nat)), (4, .int .i64 i)]) (fun _ => M) (fun i => i ≤ l.length) (fun i => l.length - i) 0 (by omega) ⟨rfl, rfl, rfl, trivial⟩ .rfl ?_
  intro i hi
  try dsimp only
  repeat' (first | (refine isO ?_; first | refine oo (Pc rfl) ?_ | refine oo (Pa rfl (by omega) (by omega)) ?_ | (refine ob rfl ?_ ?_ <;> intro hq <;> try (exfalso; omega)) | refine oo (Pi rfl (by omega)) ?_ | refine oo (Pl rfl) ?_ | refine oo (Px rfl rfl) ?_ | refine oo (Pj rfl (by omega) (by omega)) ?_ | refine oo (Pk rfl (by omega) (by omega)) ?_ | refine oo (Pf rfl) ?_ | refine oo (Pv rfl (by omega) (by omega)) ?_ | refine oo (Pn rfl) ?_ | refine oo (Pm rfl) ?_ | refine os rfl rfl ?_ | refine ot rfl (by omega) ?_ | refine O_nil ?_) | refine wo rfl ?_ | refine wc rfl ?_ | refine wg rfl ?_ | refine go rfl ?_ | refine gc rfl ?_ | refine gg rfl ?_)
  · have hil : i < l.length := by omega
    have hks := ks_take l i hil
    have hle := ks_le (l.take i)
    have hmem : l.getD i Cd.zero ∈ l := by
      rw [show l.getD i Cd.zero = l[i] by simp [hil]]
      exact List.getElem_mem _
    have hl := hlen _ hmem
    have hg : (codesV l ++ sp)[i * 4 + 2]? = some (.int .u32 (l.getD i Cd.zero).len) := codesV_get l sp i 2 hil (by omega)
    have h2 : 2 ^ (20 - (l.getD i Cd.zero).len) ≤ 2 ^ 20 := Nat.pow_le_pow_right (by omega) (by omega)
    have h20 : (2:Nat) ^ 20 = 1048576 := by decide
    have hlt : (l.take i).length ≤ 60 := by simp; omega
    generalize (l.getD i Cd.zero).len = n at *
    refine O_pure (P_loadAt (o := 0) (n := i * 4 + 2) Tb.p40 rfl (by omega) hm hg) trivial rfl ?_
    repeat' (first | (refine isO ?_; first | refine oo (Pc rfl) ?_ | refine oo (Pa rfl (by omega) (by omega)) ?_ | (refine ob rfl ?_ ?_ <;> intro hq <;> try (exfalso; omega)) | refine oo (Pi rfl (by omega)) ?_ | refine oo (Pl rfl) ?_ | refine oo (Px rfl rfl) ?_ | refine oo (Pj rfl (by omega) (by omega)) ?_ | refine oo (Pk rfl (by omega) (by omega)) ?_ | refine oo (Pf rfl) ?_ | refine oo (Pv rfl (by omega) (by omega)) ?_ | refine oo (Pn rfl) ?_ | refine oo (Pm rfl) ?_ | refine os rfl rfl ?_ | refine ot rfl (by omega) ?_ | refine O_nil ?_) | refine wo rfl ?_ | refine wc rfl ?_ | refine wg rfl ?_ | refine go rfl ?_ | refine gc rfl ?_ | refine gg rfl ?_)
    refine O_pure (P_loadAt (o := 0) (n := i * 4 + 2) Tb.p40 rfl (by omega) hm hg) ⟨_, rfl, rfl⟩ rfl ?_
    repeat' (first | (refine isO ?_; first | refine oo (Pc rfl) ?_ | refine oo (Pa rfl (by omega) (by omega)) ?_ | (refine ob rfl ?_ ?_ <;> intro hq <;> try (exfalso; omega)) | refine oo (Pi rfl (by omega)) ?_ | refine oo (Pl rfl) ?_ | refine oo (Px rfl rfl) ?_ | refine oo (Pj rfl (by omega) (by omega)) ?_ | refine oo (Pk rfl (by omega) (by omega)) ?_ | refine oo (Pf rfl) ?_ | refine oo (Pv rfl (by omega) (by omega)) ?_ | refine oo (Pn rfl) ?_ | refine oo (Pm rfl) ?_ | refine os rfl rfl ?_ | refine ot rfl (by omega) ?_ | refine O_nil ?_) | refine wo rfl ?_ | refine wc rfl ?_ | refine wg rfl ?_ | refine go rfl ?_ | refine gc rfl ?_ | refine gg rfl ?_)
    refine O_pure (P_loadAt (o := 0) (n := i * 4 + 2) Tb.p40 rfl (by omega) hm hg) trivial rfl ?_
    repeat' (first | (refine isO ?_; first | refine oo (Pc rfl) ?_ | refine oo (Pa rfl (by omega) (by omega)) ?_ | (refine ob rfl ?_ ?_ <;> intro hq <;> try (exfalso; omega)) | refine oo (Pi rfl (by omega)) ?_ | refine oo (Pl rfl) ?_ | refine oo (Px rfl rfl) ?_ | refine oo (Pj rfl (by omega) (by omega)) ?_ | refine oo (Pk rfl (by omega) (by omega)) ?_ | refine oo (Pf rfl) ?_ | refine oo (Pv rfl (by omega) (by omega)) ?_ | refine oo (Pn rfl) ?_ | refine oo (Pm rfl) ?_ | refine os rfl rfl ?_ | refine ot rfl (by omega) ?_ | refine O_nil ?_) | refine wo rfl ?_ | refine wc rfl ?_ | refine wg rfl ?_ | refine go rfl ?_ | refine gc rfl ?_ | refine gg rfl ?_)
    refine O_pure (P_shlE (p := 1) (q := 20 - n) (r := 2 ^ (20 - n)) rfl (by simp only [ev, Env.get?]; rw [show (20 : Int) - n = ((20 - n : Nat) : Int) by omega]; rfl) rfl (by rw [Nat.one_mul]; exact Nat.mod_eq_of_lt (by simp only [IntKind.bits]; omega))) trivial rfl ?_
    refine O_pure (P_addE (p := ks (l.take i)) (q := 2 ^ (20 - n)) (r := ks (l.take (i + 1))) rfl rfl rfl (by rw [hks]; exact Nat.mod_eq_of_lt (by simp only [IntKind.bits]; omega))) trivial rfl ?_
    repeat' (first | (refine isO ?_; first | refine oo (Pc rfl) ?_ | refine oo (Pa rfl (by omega) (by omega)) ?_ | (refine ob rfl ?_ ?_ <;> intro hq <;> try (exfalso; omega)) | refine oo (Pi rfl (by omega)) ?_ | refine oo (Pl rfl) ?_ | refine oo (Px rfl rfl) ?_ | refine oo (Pj rfl (by omega) (by omega)) ?_ | refine oo (Pk rfl (by omega) (by omega)) ?_ | refine oo (Pf rfl) ?_ | refine oo (Pv rfl (by omega) (by omega)) ?_ | refine oo (Pn rfl) ?_ | refine oo (Pm rfl) ?_ | refine os rfl rfl ?_ | refine ot rfl (by omega) ?_ | refine O_nil ?_) | refine wo rfl ?_ | refine wc rfl ?_ | refine wg rfl ?_ | refine go rfl ?_ | refine gc rfl ?_ | refine gg rfl ?_)
    exact G_stop ⟨i + 1, by omega, by omega, ⟨rfl, rfl, rfl, trivial⟩, .rfl⟩
  · obtain rfl : i = l.length := by omega
    rw [List.take_length]
    exact G_fin ⟨_, rfl, rfl⟩
end Go.Proofs.Ytjkpfliaflmppaa.Pc

set_option linter.unusedSectionVars false
namespace Go.Proofs.Ytjkpfliaflmppaa.Hu
open Go Go.RowKit Go.Proofs.Ytjkpfliaflmppaa.Vm Go.Proofs.Ytjkpfliaflmppaa.Pc

theorem sum_sm (l : List Cd) (g : Cd → Nat) : ∀ m, m ≤ l.length → ((l.take m).map g).sum = sm (fun x => g (l.getD x Cd.zero)) 0 m
  | 0, _ => by rw [sm_nil (Nat.le_refl 0)]; simp
  | m + 1, h => by
    rw [sm_last (Nat.zero_le m), take_succ_getD l m (by omega), List.map_append, List.sum_append, sum_sm l g m (by omega)]
    simp
theorem sum_all (l : List Cd) (g : Cd → Nat) : (l.map g).sum = sm (fun x => g (l.getD x Cd.zero)) 0 l.length := by
  have := sum_sm l g l.length (Nat.le_refl _)
  rwa [List.take_length] at this
theorem scale (len : Nat → Nat) (k : Nat) (hk : k ≤ 64) : ∀ n, (∀ x, x < n → len x ≤ k) → sm (fun x => 2 ^ (64 - len x)) 0 n = 2 ^ (64 - k) * sm (fun x => 2 ^ (k - len x)) 0 n
  | 0, _ => by rw [sm_nil (Nat.le_refl 0), sm_nil (Nat.le_refl 0)]; rfl
  | n + 1, h => by
    have h1 := h n (by omega)
    rw [sm_last (Nat.zero_le n), sm_last (Nat.zero_le n), Nat.mul_add, scale len k hk n fun x hx => h x (by omega)]
    congr 1
    rw [← Nat.pow_add]
    congr 1
    omega
theorem fills (len : Nat → Nat) (k n : Nat) (hk : k ≤ 64) (h : ∀ x, x < n → len x ≤ k) (hf : sm (fun x => 2 ^ (64 - len x)) 0 n = 2 ^ 64) : sm (fun x => 2 ^ (k - len x)) 0 n = 2 ^ k := by
  rw [scale len k hk n h, show (64 : Nat) = (64 - k) + k by omega, Nat.pow_add, show 64 - k + k - k = 64 - k by omega] at hf
  exact Nat.eq_of_mul_eq_mul_left (Nat.two_pow_pos _) hf
theorem asc_up {c : List Nat} (h : Up c) : AscC c := fun i hi => by
  have := (List.pairwise_iff_getElem.1 h) i (i + 1) (by omega) hi (by omega)
  simpa [hi, show i < c.length by omega] using this

section
variable {l ds : List Cd} {mb : Nat} (hL : Lens (l.map Cd.cnt) l ds mb) (hmb : mb ≤ 20)
include hL hmb
theorem got_len : ∀ c ∈ ds, 1 ≤ c.len ∧ c.len ≤ 20 := by
  intro c hc
  obtain ⟨x, hx, rfl⟩ := List.mem_iff_getElem.1 hc
  have h1 := hL.pos x (by rw [← hL.same.1]; exact hx)
  unfold lenOf at h1
  rw [show ds.getD x Cd.zero = ds[x] by simp [hx]] at h1
  omega
theorem got_ks {k : Nat} (hk : mb ≤ k) (hk2 : k ≤ 64) : (ds.map fun c => 2 ^ (k - c.len)).sum = 2 ^ k := by
  rw [sum_all ds fun c => 2 ^ (k - c.len), hL.same.1]
  exact fills (lenOf ds) k l.length hk2 (fun x hx => Nat.le_trans (hL.pos x hx).2 hk) hL.kra
theorem got_whole : whole ds := by
  have h1 := ks_kr ds fun c hc => (got_len hL hmb c hc).2
  have h2 : ks ds = 2 ^ 20 := got_ks hL hmb hmb (by omega)
  unfold whole
  rw [← h1, h2]
theorem got_cnt : ds.map Cd.cnt = l.map Cd.cnt := by
  apply List.ext_getElem
  · rw [List.length_map, List.length_map, hL.same.1]
  · intro i h1 h2
    rw [List.length_map] at h1 h2
    have := (hL.same.2 i h2).2
    rw [show ds.getD i Cd.zero = ds[i] by simp [h1], show l.getD i Cd.zero = l[i] by simp [h2]] at this
    simpa using this
theorem got_least (hup : Up (l.map Cd.cnt)) (hn : 1 ≤ l.length) (hm1 : 1 ≤ mb) : pre (rws (l.map Cd.cnt) mb) (2 * (l.map Cd.cnt).length - 2) ≤ co ds := by
  have hf : (ds.map fun c => (c.cnt, c.len)).map Prod.fst = l.map Cd.cnt := by
    rw [List.map_map]; exact got_cnt hL hmb
  have h := least_le (ds.map fun c => (c.cnt, c.len)) mb (by rw [hf]; exact hup) hm1 (fun z hz => by
    obtain ⟨c, hc, rfl⟩ := List.mem_map.1 hz
    obtain ⟨x, hx, rfl⟩ := List.mem_iff_getElem.1 hc
    have h1 := hL.pos x (by rw [← hL.same.1]; exact hx)
    unfold lenOf at h1
    rw [show ds.getD x Cd.zero = ds[x] by simp [hx]] at h1
    exact h1) (by rw [List.length_map, hL.same.1]; exact hn) (by
    rw [List.map_map]
    exact got_ks hL hmb (Nat.le_refl mb) (by omega))
  rw [hf, List.length_map, hL.same.1, List.map_map] at h
  rw [List.length_map]
  exact h
theorem got_cost (hn : 2 ≤ l.length) (hd : dp (l.map Cd.cnt) (l.length - 2) ≤ mb) : co ds = sm (fun k => (nd (l.map Cd.cnt) k).w) 0 (l.length - 1) := by
  have hcl : (l.map Cd.cnt).length = l.length := List.length_map ..
  have hc := cost_lev (l.map Cd.cnt) (by omega)
  rw [hcl] at hc
  rw [← hc]
  have h1 := hL.free fun x hx => Nat.le_trans (Lf_dp (l.map Cd.cnt) (by omega) (x := x) (by omega)) (by rw [hcl]; exact hd)
  unfold co
  rw [sum_all ds fun c => c.cnt * c.len, hL.same.1]
  refine sm_congr fun x _ hx => ?_
  have h2 := h1 x hx
  unfold lenOf at h2
  rw [h2, (hL.same.2 x hx).2, cnt_get]
end
end Go.Proofs.Ytjkpfliaflmppaa.Hu

namespace Go.Proofs.Ytjkpfliaflmppaa.Pc
open Go Go.RowKit Go.Proofs.Ytjkpfliaflmppaa.Vm

/-- A handed slice of 32-bit numbers. -/
def Ws (s : Value) (xs : List Nat) (M : Mem) : Prop :=
  (∀ x ∈ xs, x < 4294967296) ∧ ∃ ad cap, s = .slice ad xs.length cap ∧ (xs = [] ∨ ∃ b o, ad = some ⟨b, o, none⟩ ∧ (⟨false, b, o, ints .u32 (xs.map Nat.cast)⟩ : Sg) ∈ M)
theorem Ws.at {s : Value} {xs : List Nat} {M : Mem} {i : Nat} (h : Ws s xs M) (hi : i < xs.length) :
    ∃ b o cap, s = .slice (some ⟨b, o, none⟩) xs.length cap ∧ (⟨false, b, o, ints .u32 (xs.map Nat.cast)⟩ : Sg) ∈ M ∧ (ints .u32 (xs.map Nat.cast))[i]? = some (.int .u32 (xs.getD i 0 : Nat)) ∧ xs.getD i 0 < 4294967296 := by
  obtain ⟨h1, ad, cap, rfl, rfl | ⟨b, o, rfl, hm⟩⟩ := h
  · simp at hi
  · refine ⟨b, o, cap, rfl, hm, ?_, ?_⟩
    · rw [ints_get (by simpa using hi)]
      simp [hi]
    · rw [show xs.getD i 0 = xs[i] by simp [hi]]
      exact h1 _ (List.getElem_mem hi)
theorem Ws.mono {s : Value} {xs : List Nat} {M M' : Mem} (h : Ws s xs M) (hm : ∀ x ∈ M, x ∈ M') : Ws s xs M' := by
  obtain ⟨h1, ad, cap, h2, h3⟩ := h
  exact ⟨h1, ad, cap, h2, h3.imp id fun ⟨b, o, h4, h5⟩ => ⟨b, o, h4, hm _ h5⟩⟩

theorem own_slice {v : Value} {cs : List Cd} {m : Mem} (h : Own v 4 (codesV cs) m) : ∃ ad cap, v = .slice ad cs.length cap := by
  rcases h with ⟨rfl, he, rfl⟩ | ⟨b, n, c, sp, rfl, rfl, hl, hc⟩
  · have := codesV_length cs
    rw [he] at this
    exact ⟨none, 0, by rw [show cs.length = 0 by simp only [List.length_nil] at this; omega]⟩
  · exact ⟨some ⟨b, 0, none⟩, c, by rw [show n = cs.length by have := codesV_length cs; omega]⟩
theorem own_row {v : Value} {cs : List Cd} {m : Mem} (h : Own v 4 (codesV cs) m) (hn : 0 < cs.length) : ∃ b cap sp, v = .slice (some ⟨b, 0, none⟩) cs.length cap ∧ m = [⟨true, b, 0, codesV cs ++ sp⟩] := by
  rcases h with ⟨rfl, he, rfl⟩ | ⟨b, n, c, sp, rfl, rfl, hl, hc⟩
  · have := codesV_length cs
    rw [he] at this
    simp only [List.length_nil] at this
    omega
  · exact ⟨b, c, sp, by rw [show n = cs.length by have := codesV_length cs; omega], rfl⟩

theorem build42c (a : Int) (c n : Nat) (h : a = (n : Int)) (w : World) : (Instr.build 42 [(0, .int .u32 a), (1, .int .u32 (c : Int))].toArray).run Try.prog w = .ok (.agg [.int .u32 (n : Int), .int .u32 (c : Nat), .int .u32 (0 : Nat), .int .u32 (0 : Nat)].toArray) w := by
  subst h
  kernel_rfl

theorem info46 : (Try.prog.info? 46).map (fun i => (i.size, i.bytes, i.zero)) = some (1, 24, some (.slice none 0 0)) := by kernel_rfl

theorem P_one_shl {P : Program} {N : Fm} {E : Env} {M : Mem} {t t2 : TypeId} {x y : Operand} {k2 : IntKind} {q : Nat} (hx : ev E x = some (.int .i64 1)) (hy : ev E y = some (.int k2 (q : Int))) (hq : q ≤ 40) :
    Pure P N E M (.binOp .shl t x y t2) (.int .i64 ((2 ^ q : Nat) : Int)) := by
  refine P_is (P_shl hx hy (by omega)) (congrArg (Value.int .i64) ?_)
  show IntKind.i64.wrap ((1 : Int) * 2 ^ min ((q : Int).toNat) 64) = _
  have e : min ((q : Int).toNat) 64 = q := by omega
  have h : 2 ^ q ≤ 2 ^ 40 := Nat.pow_le_pow_right (by omega) hq
  rw [e, Int.one_mul, show ((2 : Int) ^ q) = ((2 ^ q : Nat) : Int) by simp]
  generalize 2 ^ q = y at *
  exact wrap_id (show (-9223372036854775808 : Int) ≤ _ by omega) (show _ ≤ (9223372036854775807 : Int) by omega)

theorem P_one_shlE {P : Program} {N : Fm} {E : Env} {M : Mem} {t t2 : TypeId} {x y : Operand} {k2 : IntKind} {Y : Int} {q : Nat} (hx : ev E x = some (.int .i64 1)) (hy : ev E y = some (.int k2 Y)) (hY : Y = (q : Int)) (hq : q ≤ 40) :
    Pure P N E M (.binOp .shl t x y t2) (.int .i64 ((2 ^ q : Nat) : Int)) := by subst hY; exact P_one_shl hx hy hq
theorem eqIn_bool {P : Program} {t : TypeId} (ht : P.underlying t = some .bool) (dp : Nat) (p q : Bool) (w : World) : (Op.equalIn (dp + 1) t (.bool p) (.bool q)).run P w = .ok (p == q) w := by
  simp [Op.equalIn, run_under ht]
theorem P_bne {P : Program} {N : Fm} {E : Env} {M : Mem} {t t2 : TypeId} {x y : Operand} {p q r : Bool} (ht : P.underlying t = some .bool) (hx : ev E x = some (.bool p)) (hy : ev E y = some (.bool q)) (hr : (!(p == q)) = r) :
    Pure P N E M (.binOp .neq t x y t2) (.bool r) := by
  subst hr
  constructor
  intro pr base w0 ac w hA hS dd ty pos after g
  have h1 : (Op.equal t (.bool p) (.bool q)).run P w = .ok (p == q) w := eqIn_bool ht 9999 p q w
  have hb : binOp .neq t (.bool p) (.bool q) = (do pure (.bool (!(← Op.equal t (.bool p) (.bool q))))) := rfl
  simp only [execOp, hA.eval hx, hA.eval hy, hb]
  simp [h1, eqGuard]

theorem P_append0 {P : Program} {N : Fm} {E : Env} {M : Mem} {t e t2 e2 : TypeId} {I : TypeInfo} {x y : Operand} {bd bs : Option Addr} {ln cn cx : Nat} (ht : Und P t (.slice e)) (ht2 : Und P t2 (.slice e2)) (hI : P.info? e = some I)
    (hx : ev E x = some (.slice bd ln cn)) (hy : ev E y = some (.slice bs 0 cx)) (hn : ln ≤ cn) : Pure P N E M (.call { callee := .builtin .append, args := #[x, y], argTypes := #[t, t2] }) (.slice bd ln cn) := by
  constructor
  intro pr base w0 a w hA hS d ty pos after g
  have h : (Builtin.append_ #[t, t2] ty #[.slice bd ln cn, .slice bs 0 cx]).run P w = .ok (.slice bd ln cn) w := by
    unfold Builtin.append_
    cases bd <;> cases bs <;> simp [ht.run, ht2.run, sizeOf, typeInfo, hI, Builtin.lenOf, Builtin.firstCells, loadCells, loadCellsFrom, storeCells, hn]
  simp [execOp, resolve, invoke, builtin, hA.eval hx, hA.eval hy, h]

theorem P_tail {P : Program} {N : Fm} {E : Env} {M : Mem} {t e : TypeId} {x : Operand} {b len cap n : Nat} (ht : Und P t (.slice e)) (he : Cel P e n) (hn : 0 < n) (hx : ev E x = some (.slice (some ⟨b, 0, none⟩) len cap)) (h1 : 1 ≤ len) (h2 : len ≤ cap) :
    Pure P N E M (.slice t x (some (.const (.int .i64 1))) none none) (.slice (some ⟨b, if cap = 1 then 0 else n, none⟩) (len - 1) (cap - 1)) := by
  by_cases hc : cap = 1
  · rw [if_pos hc]
    have := P_slice_end (N := N) (M := M) (lo := some (.const (.int .i64 1))) (hi := none) (l := 1) (h := len) ht he hn hx ⟨_, rfl⟩ rfl (by omega) (by omega) (by omega) (by omega)
    rw [show len - 1 = 0 by omega, show cap - 1 = 0 by omega]
    exact this
  · rw [if_neg hc]
    have := P_slice (N := N) (M := M) (lo := some (.const (.int .i64 1))) (hi := none) (l := 1) (h := len) ht he hn hx ⟨_, rfl⟩ rfl (by omega) (by omega) (by omega) (by omega)
    simpa using this

end Go.Proofs.Ytjkpfliaflmppaa.Pc

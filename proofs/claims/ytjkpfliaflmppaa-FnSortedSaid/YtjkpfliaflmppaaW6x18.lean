/- impl.safe carries a function out and tells that it did not panic: for every function that returns. Numbers with their bits turned round. No condition. The functions that turn bits round, walked: for every byte; for every number of 32 bits; for every number of n bits, n from 1 to 32. Codes by their lengths: how many there are of each, where the values of each length begin, what it is to leave nothing over. No condition. -/
import Derived.Test.YtjkpfliaflmppaaW6x01
import Derived.Test.YtjkpfliaflmppaaProg
import Derived.WalkKit
import Derived.Recover
import Derived.Laws.Pointers
import Derived.Test.YtjkpfliaflmppaaW6x03
import Derived.Test.YtjkpfliaflmppaaW6x04
import Derived.Test.YtjkpfliaflmppaaW6x07

namespace Go.Proofs.Ytjkpfliaflmppaa.Sf
open Go Go.RowKit Go.Proofs.Ytjkpfliaflmppaa.Vm

theorem catch_idle (p : Addr) (w : World) (hc : ∃ v, w.cell? p = some v) (hz : w.frozen? p = false) :
    CallsD Try.prog 89 #[.pointer (some p)] .returning w fun e u' w' => e = .returned (.tuple #[]) ∧ u' = .returning ∧ w' = w.setCell p (.bool true) := by
  obtain ⟨v, hc⟩ := hc
  refine callsD_of_wpS Try.func89 rfl fun c₀ cs hu => ?_
  apply wpS_region
  simp [wpOpsS, go_sem, recoverD, hu, Try.ntmps89, hc, hz]
  cases c₀
  simp_all [bodyPostS, results, Try.results89]

theorem safe_c {f : FuncId} {first captured : Array Value} {M : Mem} {R : Mem → Prop} (hf : Callable Try.prog f)
    (h : ∀ b, HC Try.prog f (first ++ captured) (⟨true, b, 0, [.bool false]⟩ :: M) (fun _ M' => ∃ M1, Rk M' (⟨true, b, 0, [.bool false]⟩ :: M1) ∧ R M1)) :
    HC Try.prog 39 #[.func (.func f) first captured] M (fun v M' => v = .bool true ∧ R M') := by
  constructor
  intro base w0 w hS
  have hmf : ∀ (fn : Fn) (first cap : Array Value) (w : World), (Instr.makeFunc fn first cap).run Try.prog w = .ok (.func fn first cap) w := fun _ _ _ _ => rfl
  have hcf : ∀ (w : World) (args : Array Value), (callFunc f args).run Try.prog w = .ok (.enter f args) w := fun w args => run_callFunc hf
  have hS1 := hS.alloc #[.bool false] 4
  have hc := (h w.heap.size).out base w0 _ hS1
  go_enter_defers Try.func39, Try.ntmps39
  go_wp2_with fail
  refine hc.mono ?_
  rintro e w' ⟨v, M', rfl, hS', M1, hrk, hR⟩
  have hSr := hS'.rk hrk
  have hcell : w'.cell? ⟨w.heap.size, 0, none⟩ = some (.bool false) := (hSr.seg _ (.head _)).cell (i := 0) rfl
  have hfree : w'.frozen? ⟨w.heap.size, 0, none⟩ = false := (hSr.seg _ (.head _)).free rfl (i := 0) (by simp)
  have hS2 : Sim false base w0 (w'.setCell ⟨w.heap.size, 0, none⟩ (.bool true)) (⟨true, w.heap.size, 0, [.bool true]⟩ :: M1) := hSr.set (s := ⟨true, w.heap.size, 0, [.bool false]⟩) (i := 0) rfl (by simp) .head
  have hc2 : (w'.setCell ⟨w.heap.size, 0, none⟩ (.bool true)).cell? ⟨w.heap.size, 0, none⟩ = some (.bool true) := (hS2.seg _ (.head _)).cell (i := 0) rfl
  have hf2 : (w'.setCell ⟨w.heap.size, 0, none⟩ (.bool true)).frozen? ⟨w.heap.size, 0, none⟩ = false := (hS2.seg _ (.head _)).free rfl (i := 0) (by simp)
  have hS3 : Sim false base w0 ((w'.setCell ⟨w.heap.size, 0, none⟩ (.bool true)).setCell ⟨w.heap.size, 0, none⟩ (.bool true)) (⟨true, w.heap.size, 0, [.bool true]⟩ :: M1) := hS2.set (s := ⟨true, w.heap.size, 0, [.bool true]⟩) (i := 0) rfl (by simp) .head
  have hS4 : Sim false base w0 _ M1 := hS3.drop
  have hc4 : ((w'.setCell ⟨w.heap.size, 0, none⟩ (.bool true)).setCell ⟨w.heap.size, 0, none⟩ (.bool true)).cell? ⟨w.heap.size, 0, none⟩ = some (.bool true) := (hS3.seg _ (.head _)).cell (i := 0) rfl
  clear hS' hS1 hS2 hS3 hSr hS hc h hmf
  go_wp2
  refine leaves_cons (f := 89) (args := #[.pointer (some ⟨w.heap.size, 0, none⟩)]) (by simp) (by simp [go_sem]) ?_
  refine (catch_idle ⟨w.heap.size, 0, none⟩ _ ⟨_, hc2⟩ hf2).mono ?_
  rintro e u' w'' ⟨rfl, rfl, rfl⟩
  refine ⟨.bool true, ?_, .bool true, M1, rfl, hS4, rfl, hR⟩
  simp [results, Try.results39, go_sem, hc4]
end Go.Proofs.Ytjkpfliaflmppaa.Sf

namespace Go.Proofs.Ytjkpfliaflmppaa.Rev

/-- The lowest n bits of v, the first one last. -/
def T : Nat → Nat → Nat
  | 0, _ => 0
  | n + 1, v => 2 * T n v + v / 2 ^ n % 2

theorem T_lt : ∀ (n v : Nat), T n v < 2 ^ n
  | 0, v => by simp [T]
  | n + 1, v => by
    have := T_lt n v
    have h : v / 2 ^ n % 2 < 2 := Nat.mod_lt _ (by omega)
    simp only [T, Nat.pow_succ]; omega

theorem T_mod : ∀ (n m v : Nat), n ≤ m → T n (v % 2 ^ m) = T n v
  | 0, _, _, _ => rfl
  | n + 1, m, v, h => by
    simp only [T, T_mod n m v (by omega)]
    congr 1
    have h1 : v % 2 ^ m / 2 ^ n % 2 = v / 2 ^ n % 2 := by
      have h2 : 2 ^ m = 2 ^ n * (2 * 2 ^ (m - n - 1)) := by rw [← Nat.pow_succ', ← Nat.pow_add]; congr 1; omega
      rw [h2, Nat.mod_mul_right_div_self, Nat.mod_mul_right_mod]
    exact h1

/-- A number of m bits with b above it. -/
theorem T_add : ∀ (n m a b : Nat), a < 2 ^ m → T (m + n) (a + 2 ^ m * b) = T m a * 2 ^ n + T n b
  | 0, m, a, b, h => by
    have : T m (a + 2 ^ m * b) = T m a := by
      rw [← T_mod m m (a + 2 ^ m * b) (Nat.le_refl _)]
      rw [Nat.add_mul_mod_self_left, T_mod _ _ _ (Nat.le_refl _)]
    simp [T, this]
  | n + 1, m, a, b, h => by
    have h1 := T_add n m a b h
    have h2 : (a + 2 ^ m * b) / 2 ^ (m + n) % 2 = b / 2 ^ n % 2 := by
      rw [Nat.pow_add, ← Nat.div_div_eq_div_mul, Nat.add_mul_div_left _ _ (Nat.two_pow_pos m), Nat.div_eq_of_lt h, Nat.zero_add]
    rw [← Nat.add_assoc]
    simp only [T, h1, h2, Nat.pow_succ]
    rw [Nat.mul_add, ← Nat.mul_assoc, Nat.mul_comm 2 (T m a), Nat.mul_assoc, Nat.mul_comm 2 (2 ^ n), Nat.add_assoc]

theorem T_zero : ∀ n, T n 0 = 0
  | 0 => rfl
  | n + 1 => by simp [T, T_zero n]

/-- Moved up, a number is turned as a longer one. -/
theorem T_shift (n k v : Nat) : T (k + n) (v * 2 ^ k) = T n v := by
  have := T_add n k 0 v (Nat.two_pow_pos k)
  rw [T_zero, Nat.zero_mul, Nat.zero_add, Nat.zero_add, Nat.mul_comm] at this
  exact this

/-- Four bytes, each turned, in the other order. -/
theorem T_bytes (x : Nat) (h : x < 2 ^ 32) : T 32 x = T 8 (x % 256) * 2 ^ 24 + T 8 (x / 256 % 256) * 2 ^ 16 + T 8 (x / 65536 % 256) * 2 ^ 8 + T 8 (x / 16777216 % 256) := by
  have e1 : x = x % 256 + 2 ^ 8 * (x / 256) := by omega
  have e2 : x / 256 = x / 256 % 256 + 2 ^ 8 * (x / 65536) := by omega
  have e3 : x / 65536 = x / 65536 % 256 + 2 ^ 8 * (x / 16777216) := by omega
  have e4 : x / 16777216 = x / 16777216 % 256 := by omega
  have a1 := T_add 24 8 (x % 256) (x / 256) (by omega)
  have a2 := T_add 16 8 (x / 256 % 256) (x / 65536) (by omega)
  have a3 := T_add 8 8 (x / 65536 % 256) (x / 16777216) (by omega)
  rw [← e1] at a1
  rw [← e2] at a2
  rw [← e3] at a3
  rw [a1, a2, a3, ← e4]
  omega

theorem or_add (a b i : Nat) (h : b < 2 ^ i) : a * 2 ^ i ||| b = a * 2 ^ i + b := by
  rw [Nat.mul_comm, ← Nat.two_pow_add_eq_or_of_lt h]

theorem or4 (a b c d : Nat) (ha : a < 256) (hb : b < 256) (hc : c < 256) (hd : d < 256) :
    (((0 ||| a * 2 ^ 24 % 2 ^ 32) ||| b * 2 ^ 16 % 2 ^ 32) ||| c * 2 ^ 8 % 2 ^ 32) ||| d * 2 ^ 0 % 2 ^ 32 = a * 2 ^ 24 + b * 2 ^ 16 + c * 2 ^ 8 + d := by
  have h1 : a * 2 ^ 24 % 2 ^ 32 = a * 2 ^ 24 := Nat.mod_eq_of_lt (by omega)
  have h2 : b * 2 ^ 16 % 2 ^ 32 = b * 2 ^ 16 := Nat.mod_eq_of_lt (by omega)
  have h3 : c * 2 ^ 8 % 2 ^ 32 = c * 2 ^ 8 := Nat.mod_eq_of_lt (by omega)
  have h4 : d * 2 ^ 0 % 2 ^ 32 = d := by rw [Nat.pow_zero, Nat.mul_one]; exact Nat.mod_eq_of_lt (by omega)
  have g1 : a * 2 ^ 24 ||| b * 2 ^ 16 = (a * 2 ^ 8 + b) * 2 ^ 16 := (or_add a (b * 2 ^ 16) 24 (by omega)).trans (by omega)
  have g2 : (a * 2 ^ 8 + b) * 2 ^ 16 ||| c * 2 ^ 8 = ((a * 2 ^ 8 + b) * 2 ^ 8 + c) * 2 ^ 8 := (or_add _ (c * 2 ^ 8) 16 (by omega)).trans (by omega)
  have g3 : ((a * 2 ^ 8 + b) * 2 ^ 8 + c) * 2 ^ 8 ||| d = a * 2 ^ 24 + b * 2 ^ 16 + c * 2 ^ 8 + d := (or_add _ d 8 (by omega)).trans (by omega)
  rw [h1, h2, h3, h4, Nat.zero_or, g1, g2, g3]
end Go.Proofs.Ytjkpfliaflmppaa.Rev

namespace Go.Proofs.Ytjkpfliaflmppaa.Rv
open Go Go.RowKit Go.Proofs.Ytjkpfliaflmppaa.Vm Go.Proofs.Ytjkpfliaflmppaa.Rev

theorem lut_c (b : Nat) (hb : b < 256) (M : Mem) : HP Try.prog 109 #[.int .u8 b] M (.int .u8 (T 8 b : Nat)) := by
  refine HP.of (HC_of_W (fn := Try.f109) Try.func109 rfl rfl rfl rfl ?_)
  repeat' (first | (refine isO ?_; first | refine oo (Pc rfl) ?_ | refine oo (Pa rfl (by omega) (by omega)) ?_ | (refine ob rfl ?_ ?_ <;> intro hq <;> try (exfalso; omega)) | refine oo (Pi rfl (by omega)) ?_ | refine oo (Pl rfl) ?_ | refine oo (Px rfl rfl) ?_ | refine oo (Pj rfl (by omega) (by omega)) ?_ | refine oo (Pk rfl (by omega) (by omega)) ?_ | refine oo (Pf rfl) ?_ | refine oo (Pv rfl (by omega) (by omega)) ?_ | refine oo (Pn rfl) ?_ | refine oo (Pm rfl) ?_ | refine os rfl rfl ?_ | refine ot rfl (by omega) ?_ | refine O_nil ?_) | refine wo rfl ?_ | refine wc rfl ?_ | refine wg rfl ?_ | refine go rfl ?_ | refine gc rfl ?_ | refine gg rfl ?_)
  refine O_pure (P_bits rfl rfl rfl) trivial rfl ?_
  refine O_pure (P_shr rfl rfl (by decide)) trivial rfl ?_
  repeat' (first | (refine isO ?_; first | refine oo (Pc rfl) ?_ | refine oo (Pa rfl (by omega) (by omega)) ?_ | (refine ob rfl ?_ ?_ <;> intro hq <;> try (exfalso; omega)) | refine oo (Pi rfl (by omega)) ?_ | refine oo (Pl rfl) ?_ | refine oo (Px rfl rfl) ?_ | refine oo (Pj rfl (by omega) (by omega)) ?_ | refine oo (Pk rfl (by omega) (by omega)) ?_ | refine oo (Pf rfl) ?_ | refine oo (Pv rfl (by omega) (by omega)) ?_ | refine oo (Pn rfl) ?_ | refine oo (Pm rfl) ?_ | refine os rfl rfl ?_ | refine ot rfl (by omega) ?_ | refine O_nil ?_) | refine wo rfl ?_ | refine wc rfl ?_ | refine wg rfl ?_ | refine go rfl ?_ | refine gc rfl ?_ | refine gg rfl ?_)
  refine O_pure (P_bits rfl rfl rfl) trivial rfl ?_
  refine O_pure (P_shl rfl rfl (by decide)) trivial rfl ?_
  refine O_pure (P_bits rfl rfl rfl) trivial rfl ?_
  repeat' (first | (refine isO ?_; first | refine oo (Pc rfl) ?_ | refine oo (Pa rfl (by omega) (by omega)) ?_ | (refine ob rfl ?_ ?_ <;> intro hq <;> try (exfalso; omega)) | refine oo (Pi rfl (by omega)) ?_ | refine oo (Pl rfl) ?_ | refine oo (Px rfl rfl) ?_ | refine oo (Pj rfl (by omega) (by omega)) ?_ | refine oo (Pk rfl (by omega) (by omega)) ?_ | refine oo (Pf rfl) ?_ | refine oo (Pv rfl (by omega) (by omega)) ?_ | refine oo (Pn rfl) ?_ | refine oo (Pm rfl) ?_ | refine os rfl rfl ?_ | refine ot rfl (by omega) ?_ | refine O_nil ?_) | refine wo rfl ?_ | refine wc rfl ?_ | refine wg rfl ?_ | refine go rfl ?_ | refine gc rfl ?_ | refine gg rfl ?_)
  refine O_pure (P_bits rfl rfl rfl) trivial rfl ?_
  refine O_pure (P_shr rfl rfl (by decide)) trivial rfl ?_
  repeat' (first | (refine isO ?_; first | refine oo (Pc rfl) ?_ | refine oo (Pa rfl (by omega) (by omega)) ?_ | (refine ob rfl ?_ ?_ <;> intro hq <;> try (exfalso; omega)) | refine oo (Pi rfl (by omega)) ?_ | refine oo (Pl rfl) ?_ | refine oo (Px rfl rfl) ?_ | refine oo (Pj rfl (by omega) (by omega)) ?_ | refine oo (Pk rfl (by omega) (by omega)) ?_ | refine oo (Pf rfl) ?_ | refine oo (Pv rfl (by omega) (by omega)) ?_ | refine oo (Pn rfl) ?_ | refine oo (Pm rfl) ?_ | refine os rfl rfl ?_ | refine ot rfl (by omega) ?_ | refine O_nil ?_) | refine wo rfl ?_ | refine wc rfl ?_ | refine wg rfl ?_ | refine go rfl ?_ | refine gc rfl ?_ | refine gg rfl ?_)
  refine O_pure (P_bits rfl rfl rfl) trivial rfl ?_
  refine O_pure (P_shl rfl rfl (by decide)) trivial rfl ?_
  refine O_pure (P_bits rfl rfl rfl) trivial rfl ?_
  repeat' (first | (refine isO ?_; first | refine oo (Pc rfl) ?_ | refine oo (Pa rfl (by omega) (by omega)) ?_ | (refine ob rfl ?_ ?_ <;> intro hq <;> try (exfalso; omega)) | refine oo (Pi rfl (by omega)) ?_ | refine oo (Pl rfl) ?_ | refine oo (Px rfl rfl) ?_ | refine oo (Pj rfl (by omega) (by omega)) ?_ | refine oo (Pk rfl (by omega) (by omega)) ?_ | refine oo (Pf rfl) ?_ | refine oo (Pv rfl (by omega) (by omega)) ?_ | refine oo (Pn rfl) ?_ | refine oo (Pm rfl) ?_ | refine os rfl rfl ?_ | refine ot rfl (by omega) ?_ | refine O_nil ?_) | refine wo rfl ?_ | refine wc rfl ?_ | refine wg rfl ?_ | refine go rfl ?_ | refine gc rfl ?_ | refine gg rfl ?_)
  refine O_pure (P_bits rfl rfl rfl) trivial rfl ?_
  refine O_pure (P_shr rfl rfl (by decide)) trivial rfl ?_
  repeat' (first | (refine isO ?_; first | refine oo (Pc rfl) ?_ | refine oo (Pa rfl (by omega) (by omega)) ?_ | (refine ob rfl ?_ ?_ <;> intro hq <;> try (exfalso; omega)) | refine oo (Pi rfl (by omega)) ?_ | refine oo (Pl rfl) ?_ | refine oo (Px rfl rfl) ?_ | refine oo (Pj rfl (by omega) (by omega)) ?_ | refine oo (Pk rfl (by omega) (by omega)) ?_ | refine oo (Pf rfl) ?_ | refine oo (Pv rfl (by omega) (by omega)) ?_ | refine oo (Pn rfl) ?_ | refine oo (Pm rfl) ?_ | refine os rfl rfl ?_ | refine ot rfl (by omega) ?_ | refine O_nil ?_) | refine wo rfl ?_ | refine wc rfl ?_ | refine wg rfl ?_ | refine go rfl ?_ | refine gc rfl ?_ | refine gg rfl ?_)
  refine O_pure (P_bits rfl rfl rfl) trivial rfl ?_
  refine O_pure (P_shl rfl rfl (by decide)) trivial rfl ?_
  refine O_pure (P_bits rfl rfl rfl) trivial rfl ?_
  repeat' (first | (refine isO ?_; first | refine oo (Pc rfl) ?_ | refine oo (Pa rfl (by omega) (by omega)) ?_ | (refine ob rfl ?_ ?_ <;> intro hq <;> try (exfalso; omega)) | refine oo (Pi rfl (by omega)) ?_ | refine oo (Pl rfl) ?_ | refine oo (Px rfl rfl) ?_ | refine oo (Pj rfl (by omega) (by omega)) ?_ | refine oo (Pk rfl (by omega) (by omega)) ?_ | refine oo (Pf rfl) ?_ | refine oo (Pv rfl (by omega) (by omega)) ?_ | refine oo (Pn rfl) ?_ | refine oo (Pm rfl) ?_ | refine os rfl rfl ?_ | refine ot rfl (by omega) ?_ | refine O_nil ?_) | refine wo rfl ?_ | refine wc rfl ?_ | refine wg rfl ?_ | refine go rfl ?_ | refine gc rfl ?_ | refine gg rfl ?_)
  refine G_fin ⟨_, rfl, congrArg (Value.int .u8) ?_⟩
  revert b
  decide +kernel

theorem T8_in (y : Nat) : inK .u32 ((T 8 y : Nat) : Int) := by
  have := T_lt 8 y
  exact inK_u32 (by omega) (by omega)

theorem rev32_c (x : Nat) (hx : x < 2 ^ 32) (M : Mem) : HP Try.prog 105 #[.int .u32 x] M (.int .u32 (T 32 x : Nat)) := by
  refine HP.of (HC_of_W (fn := Try.f105) Try.func105 rfl rfl rfl rfl ?_)
  repeat' (first | (refine isO ?_; first | refine oo (Pc rfl) ?_ | refine oo (Pa rfl (by omega) (by omega)) ?_ | (refine ob rfl ?_ ?_ <;> intro hq <;> try (exfalso; omega)) | refine oo (Pi rfl (by omega)) ?_ | refine oo (Pl rfl) ?_ | refine oo (Px rfl rfl) ?_ | refine oo (Pj rfl (by omega) (by omega)) ?_ | refine oo (Pk rfl (by omega) (by omega)) ?_ | refine oo (Pf rfl) ?_ | refine oo (Pv rfl (by omega) (by omega)) ?_ | refine oo (Pn rfl) ?_ | refine oo (Pm rfl) ?_ | refine os rfl rfl ?_ | refine ot rfl (by omega) ?_ | refine O_nil ?_) | refine wo rfl ?_ | refine wc rfl ?_ | refine wg rfl ?_ | refine go rfl ?_ | refine gc rfl ?_ | refine gg rfl ?_)
  refine O_pure (P_shrN (p := x) (q := 0) rfl rfl hx) trivial rfl ?_
  refine O_pure (P_convN Tb.u40 Tb.u5 rfl rfl) trivial rfl ?_
  refine O_callP rfl rfl Tb.k109 trivial rfl (lut_c _ (Nat.mod_lt _ (by decide)) _) ?_
  refine O_pure (P_convk Tb.u5 Tb.u40 rfl (T8_in _)) trivial rfl ?_
  refine O_pure (P_shlN (q := 24) rfl rfl rfl) trivial rfl ?_
  refine O_pure (P_bitN (p := 0) rfl rfl rfl rfl (by decide) (Nat.mod_lt _ (by decide))) trivial rfl ?_
  repeat' (first | (refine isO ?_; first | refine oo (Pc rfl) ?_ | refine oo (Pa rfl (by omega) (by omega)) ?_ | (refine ob rfl ?_ ?_ <;> intro hq <;> try (exfalso; omega)) | refine oo (Pi rfl (by omega)) ?_ | refine oo (Pl rfl) ?_ | refine oo (Px rfl rfl) ?_ | refine oo (Pj rfl (by omega) (by omega)) ?_ | refine oo (Pk rfl (by omega) (by omega)) ?_ | refine oo (Pf rfl) ?_ | refine oo (Pv rfl (by omega) (by omega)) ?_ | refine oo (Pn rfl) ?_ | refine oo (Pm rfl) ?_ | refine os rfl rfl ?_ | refine ot rfl (by omega) ?_ | refine O_nil ?_) | refine wo rfl ?_ | refine wc rfl ?_ | refine wg rfl ?_ | refine go rfl ?_ | refine gc rfl ?_ | refine gg rfl ?_)
  refine O_pure (P_shrN (p := x) (q := 8) rfl rfl hx) trivial rfl ?_
  refine O_pure (P_convN Tb.u40 Tb.u5 rfl rfl) trivial rfl ?_
  refine O_callP rfl rfl Tb.k109 trivial rfl (lut_c _ (Nat.mod_lt _ (by decide)) _) ?_
  refine O_pure (P_convk Tb.u5 Tb.u40 rfl (T8_in _)) trivial rfl ?_
  refine O_pure (P_shlN (q := 16) rfl rfl rfl) trivial rfl ?_
  refine O_pure (P_bitN rfl rfl rfl rfl (by first | exact Nat.or_lt_two_pow (by decide) (Nat.mod_lt _ (by decide)) | exact Nat.or_lt_two_pow (Nat.or_lt_two_pow (by decide) (Nat.mod_lt _ (by decide))) (Nat.mod_lt _ (by decide)) | exact Nat.or_lt_two_pow (Nat.or_lt_two_pow (Nat.or_lt_two_pow (by decide) (Nat.mod_lt _ (by decide))) (Nat.mod_lt _ (by decide))) (Nat.mod_lt _ (by decide))) (Nat.mod_lt _ (by decide))) trivial rfl ?_
  repeat' (first | (refine isO ?_; first | refine oo (Pc rfl) ?_ | refine oo (Pa rfl (by omega) (by omega)) ?_ | (refine ob rfl ?_ ?_ <;> intro hq <;> try (exfalso; omega)) | refine oo (Pi rfl (by omega)) ?_ | refine oo (Pl rfl) ?_ | refine oo (Px rfl rfl) ?_ | refine oo (Pj rfl (by omega) (by omega)) ?_ | refine oo (Pk rfl (by omega) (by omega)) ?_ | refine oo (Pf rfl) ?_ | refine oo (Pv rfl (by omega) (by omega)) ?_ | refine oo (Pn rfl) ?_ | refine oo (Pm rfl) ?_ | refine os rfl rfl ?_ | refine ot rfl (by omega) ?_ | refine O_nil ?_) | refine wo rfl ?_ | refine wc rfl ?_ | refine wg rfl ?_ | refine go rfl ?_ | refine gc rfl ?_ | refine gg rfl ?_)
  refine O_pure (P_shrN (p := x) (q := 16) rfl rfl hx) trivial rfl ?_
  refine O_pure (P_convN Tb.u40 Tb.u5 rfl rfl) trivial rfl ?_
  refine O_callP rfl rfl Tb.k109 trivial rfl (lut_c _ (Nat.mod_lt _ (by decide)) _) ?_
  refine O_pure (P_convk Tb.u5 Tb.u40 rfl (T8_in _)) trivial rfl ?_
  refine O_pure (P_shlN (q := 8) rfl rfl rfl) trivial rfl ?_
  refine O_pure (P_bitN rfl rfl rfl rfl (by first | exact Nat.or_lt_two_pow (by decide) (Nat.mod_lt _ (by decide)) | exact Nat.or_lt_two_pow (Nat.or_lt_two_pow (by decide) (Nat.mod_lt _ (by decide))) (Nat.mod_lt _ (by decide)) | exact Nat.or_lt_two_pow (Nat.or_lt_two_pow (Nat.or_lt_two_pow (by decide) (Nat.mod_lt _ (by decide))) (Nat.mod_lt _ (by decide))) (Nat.mod_lt _ (by decide))) (Nat.mod_lt _ (by decide))) trivial rfl ?_
  repeat' (first | (refine isO ?_; first | refine oo (Pc rfl) ?_ | refine oo (Pa rfl (by omega) (by omega)) ?_ | (refine ob rfl ?_ ?_ <;> intro hq <;> try (exfalso; omega)) | refine oo (Pi rfl (by omega)) ?_ | refine oo (Pl rfl) ?_ | refine oo (Px rfl rfl) ?_ | refine oo (Pj rfl (by omega) (by omega)) ?_ | refine oo (Pk rfl (by omega) (by omega)) ?_ | refine oo (Pf rfl) ?_ | refine oo (Pv rfl (by omega) (by omega)) ?_ | refine oo (Pn rfl) ?_ | refine oo (Pm rfl) ?_ | refine os rfl rfl ?_ | refine ot rfl (by omega) ?_ | refine O_nil ?_) | refine wo rfl ?_ | refine wc rfl ?_ | refine wg rfl ?_ | refine go rfl ?_ | refine gc rfl ?_ | refine gg rfl ?_)
  refine O_pure (P_shrN (p := x) (q := 24) rfl rfl hx) trivial rfl ?_
  refine O_pure (P_convN Tb.u40 Tb.u5 rfl rfl) trivial rfl ?_
  refine O_callP rfl rfl Tb.k109 trivial rfl (lut_c _ (Nat.mod_lt _ (by decide)) _) ?_
  refine O_pure (P_convk Tb.u5 Tb.u40 rfl (T8_in _)) trivial rfl ?_
  refine O_pure (P_shlN (q := 0) rfl rfl rfl) trivial rfl ?_
  refine O_pure (P_bitN rfl rfl rfl rfl (by first | exact Nat.or_lt_two_pow (by decide) (Nat.mod_lt _ (by decide)) | exact Nat.or_lt_two_pow (Nat.or_lt_two_pow (by decide) (Nat.mod_lt _ (by decide))) (Nat.mod_lt _ (by decide)) | exact Nat.or_lt_two_pow (Nat.or_lt_two_pow (Nat.or_lt_two_pow (by decide) (Nat.mod_lt _ (by decide))) (Nat.mod_lt _ (by decide))) (Nat.mod_lt _ (by decide))) (Nat.mod_lt _ (by decide))) trivial rfl ?_
  repeat' (first | (refine isO ?_; first | refine oo (Pc rfl) ?_ | refine oo (Pa rfl (by omega) (by omega)) ?_ | (refine ob rfl ?_ ?_ <;> intro hq <;> try (exfalso; omega)) | refine oo (Pi rfl (by omega)) ?_ | refine oo (Pl rfl) ?_ | refine oo (Px rfl rfl) ?_ | refine oo (Pj rfl (by omega) (by omega)) ?_ | refine oo (Pk rfl (by omega) (by omega)) ?_ | refine oo (Pf rfl) ?_ | refine oo (Pv rfl (by omega) (by omega)) ?_ | refine oo (Pn rfl) ?_ | refine oo (Pm rfl) ?_ | refine os rfl rfl ?_ | refine ot rfl (by omega) ?_ | refine O_nil ?_) | refine wo rfl ?_ | refine wc rfl ?_ | refine wg rfl ?_ | refine go rfl ?_ | refine gc rfl ?_ | refine gg rfl ?_)
  refine G_fin ⟨_, rfl, congrArg (Value.int .u32) (congrArg Nat.cast ?_)⟩
  refine (or4 _ _ _ _ (T_lt 8 _) (T_lt 8 _) (T_lt 8 _) (T_lt 8 _)).trans ?_
  rw [T_bytes x hx, Nat.pow_zero, Nat.div_one]

theorem rev32N_c (v n : Nat) (hn : 1 ≤ n) (hn2 : n ≤ 32) (hv : v < 2 ^ n) (M : Mem) : HP Try.prog 91 #[.int .u32 v, .int .u64 n] M (.int .u32 (T n v : Nat)) := by
  refine HP.of (HC_of_W (fn := Try.f91) Try.func91 rfl rfl rfl rfl ?_)
  repeat' (first | (refine isO ?_; first | refine oo (Pc rfl) ?_ | refine oo (Pa rfl (by omega) (by omega)) ?_ | (refine ob rfl ?_ ?_ <;> intro hq <;> try (exfalso; omega)) | refine oo (Pi rfl (by omega)) ?_ | refine oo (Pl rfl) ?_ | refine oo (Px rfl rfl) ?_ | refine oo (Pj rfl (by omega) (by omega)) ?_ | refine oo (Pk rfl (by omega) (by omega)) ?_ | refine oo (Pf rfl) ?_ | refine oo (Pv rfl (by omega) (by omega)) ?_ | refine oo (Pn rfl) ?_ | refine oo (Pm rfl) ?_ | refine os rfl rfl ?_ | refine ot rfl (by omega) ?_ | refine O_nil ?_) | refine wo rfl ?_ | refine wc rfl ?_ | refine wg rfl ?_ | refine go rfl ?_ | refine gc rfl ?_ | refine gg rfl ?_)
  refine O_pure (P_shlN (q := 32 - n) rfl (by simp only [ev, Env.get?]; rw [show (32 : Int) - n = ((32 - n : Nat) : Int) by omega]; rfl) rfl) trivial rfl ?_
  have hlt : v * 2 ^ (32 - n) < 2 ^ 32 := by
    have h1 : v * 2 ^ (32 - n) < 2 ^ n * 2 ^ (32 - n) := Nat.mul_lt_mul_of_pos_right hv (Nat.two_pow_pos _)
    rw [← Nat.pow_add, show n + (32 - n) = 32 by omega] at h1
    exact h1
  refine O_callP rfl rfl Tb.k105 trivial rfl (rev32_c _ (Nat.mod_lt _ (by decide)) _) ?_
  repeat' (first | (refine isO ?_; first | refine oo (Pc rfl) ?_ | refine oo (Pa rfl (by omega) (by omega)) ?_ | (refine ob rfl ?_ ?_ <;> intro hq <;> try (exfalso; omega)) | refine oo (Pi rfl (by omega)) ?_ | refine oo (Pl rfl) ?_ | refine oo (Px rfl rfl) ?_ | refine oo (Pj rfl (by omega) (by omega)) ?_ | refine oo (Pk rfl (by omega) (by omega)) ?_ | refine oo (Pf rfl) ?_ | refine oo (Pv rfl (by omega) (by omega)) ?_ | refine oo (Pn rfl) ?_ | refine oo (Pm rfl) ?_ | refine os rfl rfl ?_ | refine ot rfl (by omega) ?_ | refine O_nil ?_) | refine wo rfl ?_ | refine wc rfl ?_ | refine wg rfl ?_ | refine go rfl ?_ | refine gc rfl ?_ | refine gg rfl ?_)
  refine G_fin ⟨_, rfl, congrArg (Value.int .u32) (congrArg Nat.cast ?_)⟩
  show T 32 (v * 2 ^ (32 - n) % 2 ^ 32) = T n v
  rw [Nat.mod_eq_of_lt hlt]
  have := T_shift n (32 - n) v
  rw [show 32 - n + n = 32 by omega] at this
  exact this
end Go.Proofs.Ytjkpfliaflmppaa.Rv

namespace Go.Proofs.Ytjkpfliaflmppaa.Pc
open Go Go.Proofs.Ytjkpfliaflmppaa.Rev Go.Proofs.Ytjkpfliaflmppaa.Vm

/-- How many codes have length n. -/
def cntL (l : List Cd) (n : Nat) : Nat := (l.filter fun c => c.len == n).length
/-- How many have at most length n, each counted by 2^(n - its length). -/
def kr (l : List Cd) (n : Nat) : Nat := (l.map fun c => if c.len ≤ n then 2 ^ (n - c.len) else 0).sum
/-- The first value of length n, by the published way. -/
def st (l : List Cd) : Nat → Nat
  | 0 => 0
  | n + 1 => 2 * (st l n + cntL l n)

theorem cntL_nil (n : Nat) : cntL [] n = 0 := rfl
theorem cntL_cons (c : Cd) (l : List Cd) (n : Nat) : cntL (c :: l) n = (if c.len = n then 1 else 0) + cntL l n := by
  unfold cntL
  by_cases h : c.len = n <;> simp [h]; omega
theorem cntL_append (l m : List Cd) (n : Nat) : cntL (l ++ m) n = cntL l n + cntL m n := by simp [cntL]
theorem cntL_le (l : List Cd) (n : Nat) : cntL l n ≤ l.length := List.length_filter_le _ _

theorem kr_cons (c : Cd) (l : List Cd) (n : Nat) : kr (c :: l) n = (if c.len ≤ n then 2 ^ (n - c.len) else 0) + kr l n := by simp [kr]

theorem kr_succ (l : List Cd) (n : Nat) : kr l (n + 1) = 2 * kr l n + cntL l (n + 1) := by
  induction l with
  | nil => rfl
  | cons c l ih =>
    rw [kr_cons, kr_cons, cntL_cons, ih]
    by_cases h1 : c.len ≤ n
    · rw [if_pos (by omega), if_pos h1, if_neg (by omega), show n + 1 - c.len = (n - c.len) + 1 by omega, Nat.pow_succ]; omega
    · by_cases h2 : c.len = n + 1
      · rw [if_pos (by omega), if_neg h1, if_pos h2, h2]; simp; omega
      · rw [if_neg (by omega), if_neg h1, if_neg h2]; omega

theorem kr_zero (l : List Cd) : kr l 0 = cntL l 0 := by
  induction l with
  | nil => rfl
  | cons c l ih =>
    rw [kr_cons, cntL_cons, ih]
    by_cases h : c.len = 0 <;> simp [h]

theorem st_kr (l : List Cd) (n : Nat) : st l n + cntL l n = kr l n := by
  induction n with
  | zero => simp [st, kr_zero]
  | succ n ih => rw [kr_succ, st, ih]

theorem kr_le (l : List Cd) (n : Nat) : kr l n ≤ l.length * 2 ^ n := by
  induction l with
  | nil => simp [kr]
  | cons c l ih =>
    rw [kr_cons, List.length_cons, Nat.add_mul]
    have : (if c.len ≤ n then 2 ^ (n - c.len) else 0) ≤ 2 ^ n := by
      split
      · exact Nat.pow_le_pow_right (by omega) (by omega)
      · exact Nat.zero_le _
    omega

/-- Behind the greatest length only doubling goes on. -/
theorem kr_up (l : List Cd) (m : Nat) (h : ∀ c ∈ l, c.len ≤ m) (k : Nat) : kr l (m + k) = 2 ^ k * kr l m := by
  induction k with
  | zero => simp
  | succ k ih =>
    rw [← Nat.add_assoc, kr_succ, ih]
    have : cntL l (m + k + 1) = 0 := by
      unfold cntL
      rw [List.length_eq_zero_iff, List.filter_eq_nil_iff]
      intro c hc
      have := h c hc
      simp; omega
    rw [this, Nat.pow_succ, Nat.add_zero, ← Nat.mul_assoc, Nat.mul_comm 2 (2 ^ k)]

/-- Nothing is left over (up to 20 bits). -/
def whole (l : List Cd) : Prop := kr l 20 = 2 ^ 20

theorem whole_iff (l : List Cd) (m : Nat) (h : ∀ c ∈ l, c.len ≤ m) (hm : m ≤ 20) : whole l ↔ kr l m = 2 ^ m := by
  have h1 := kr_up l m h (20 - m)
  have h2 : (2 : Nat) ^ 20 = 2 ^ (20 - m) * 2 ^ m := by rw [← Nat.pow_add]; congr 1; omega
  unfold whole
  rw [show m + (20 - m) = 20 by omega] at h1
  rw [h1, h2]
  exact ⟨fun h => Nat.eq_of_mul_eq_mul_left (Nat.two_pow_pos _) h, fun h => by rw [h]⟩

theorem kr_mono2 (l : List Cd) (n k : Nat) : 2 ^ k * kr l n ≤ kr l (n + k) := by
  induction k with
  | zero => simp
  | succ k ih =>
    rw [← Nat.add_assoc, kr_succ, Nat.pow_succ]
    have e : 2 ^ k * 2 * kr l n = 2 * (2 ^ k * kr l n) := by rw [Nat.mul_comm (2 ^ k) 2, Nat.mul_assoc]
    omega

/-- Of whole codes the values of each length fit into it. -/
theorem whole_fits (l : List Cd) (hw : whole l) (n : Nat) (hn : n ≤ 20) : st l n + cntL l n ≤ 2 ^ n := by
  rw [st_kr]
  have h1 := kr_mono2 l n (20 - n)
  rw [show n + (20 - n) = 20 by omega] at h1
  unfold whole at hw
  rw [hw] at h1
  have h2 : (2 : Nat) ^ 20 = 2 ^ (20 - n) * 2 ^ n := by rw [← Nat.pow_add]; congr 1; omega
  rw [h2] at h1
  exact Nat.le_of_mul_le_mul_left h1 (Nat.two_pow_pos _)

/-- The value of the code at place i. -/
def valAt (l : List Cd) (i : Nat) : Nat := T (l.getD i Cd.zero).len (st l (l.getD i Cd.zero).len + cntL (l.take i) (l.getD i Cd.zero).len)
/-- The codes with their canonical values. -/
def canon (l : List Cd) : List Cd := (List.range l.length).map fun i => { l.getD i Cd.zero with val := valAt l i }

theorem canon_length (l : List Cd) : (canon l).length = l.length := by simp [canon]
theorem canon_get (l : List Cd) (i : Nat) (h : i < l.length) : (canon l).getD i Cd.zero = { l.getD i Cd.zero with val := valAt l i } := by
  simp [canon, h]

theorem cntL_take_lt (l : List Cd) (i : Nat) (h : i < l.length) : cntL (l.take i) (l.getD i Cd.zero).len + 1 ≤ cntL l (l.getD i Cd.zero).len := by
  have h1 : l.getD i Cd.zero = l[i] := by simp [h]
  have e : l = l.take i ++ l[i] :: l.drop (i + 1) := by simp
  rw [h1]
  have h2 : cntL l l[i].len = cntL (l.take i ++ l[i] :: l.drop (i + 1)) l[i].len := by rw [← e]
  rw [h2, cntL_append, cntL_cons, if_pos rfl]
  omega

/-! ### Rows of 28 numbers -/

def row28 (f : Nat → Nat) : List Int := (List.range 28).map fun j => (f j : Int)
theorem row28_length (f : Nat → Nat) : (row28 f).length = 28 := by simp [row28]
theorem row28_rd (f : Nat → Nat) (j : Nat) (h : j < 28) : rd (row28 f) (j : Int) = (f j : Int) := by
  simp [rd, row28, h]
theorem row28_ext {f g : Nat → Nat} (h : ∀ j, j < 28 → f j = g j) : row28 f = row28 g := by
  unfold row28
  apply List.map_congr_left
  intro j hj
  rw [h j (List.mem_range.1 hj)]
theorem row28_wr (f : Nat → Nat) (j v : Nat) (h : j < 28) : wr (row28 f) (j : Int) (v : Int) = row28 (fun i => if i = j then v else f i) := by
  apply List.ext_getElem?
  intro i
  simp only [wr, row28, Int.toNat_natCast, List.getElem?_set, List.length_map, List.length_range, List.getElem?_map]
  by_cases hi : i < 28
  · by_cases hj : j = i
    · subst hj; simp [hi]
    · have hj' : ¬ i = j := fun h => hj h.symm
      simp [hi, hj, hj']
  · have hj : ¬ j = i := by omega
    have hn : (List.range 28)[i]? = none := by simp; omega
    simp [hj, hn]
theorem row28_zero : row28 (fun _ => 0) = List.replicate 28 0 := by decide

attribute [irreducible] row28

theorem hist_snoc (l : List Cd) (c : Cd) (h : c.len < 28) : wr (row28 (cntL l)) (c.len : Int) ((cntL l c.len + 1 : Nat) : Int) = row28 (cntL (l ++ [c])) := by
  rw [row28_wr _ _ _ h]
  refine row28_ext fun j _ => ?_
  rw [cntL_append, cntL_cons, cntL_nil]
  by_cases hj : j = c.len
  · subst hj; simp
  · have : ¬ c.len = j := fun h => hj h.symm
    simp [hj, this]
theorem take_one (l : List Cd) (h : 0 < l.length) : l.take 1 = [l.getD 0 Cd.zero] := by
  cases l with
  | nil => simp at h
  | cons c l => rfl

/-- The values of each length, where those up to i are told. -/
def nxt (l : List Cd) (mn i : Nat) (j : Nat) : Nat := if mn ≤ j ∧ j < i then st l j else 0
theorem nxt_set (l : List Cd) (mn i : Nat) (h : mn ≤ i) (hi : i < 28) : wr (row28 (nxt l mn i)) (i : Int) ((st l i : Nat) : Int) = row28 (nxt l mn (i + 1)) := by
  rw [row28_wr _ _ _ hi]
  refine row28_ext fun j _ => ?_
  unfold nxt
  by_cases hj : j = i
  · subst hj; simp [h]
  · by_cases h1 : mn ≤ j ∧ j < i
    · rw [if_neg hj, if_pos h1, if_pos (by omega)]
    · rw [if_neg hj, if_neg h1, if_neg (by omega)]
theorem st_zero (l : List Cd) (mn : Nat) (h : ∀ c ∈ l, mn ≤ c.len) : ∀ n, n ≤ mn → st l n = 0
  | 0, _ => rfl
  | n + 1, hn => by
    have h1 := st_zero l mn h n (by omega)
    have h2 : cntL l n = 0 := by
      unfold cntL
      rw [List.length_eq_zero_iff, List.filter_eq_nil_iff]
      intro c hc
      have := h c hc
      simp; omega
    simp [st, h1, h2]
theorem kr_below (l : List Cd) (mn n : Nat) (h : ∀ c ∈ l, mn ≤ c.len) (hn : n < mn) : kr l n = 0 := by
  have h1 := st_kr l n
  have h2 := st_zero l mn h (n + 1) (by omega)
  simp only [st] at h2
  omega
/-- What the third loop counts on. -/
def nx3 (l : List Cd) (mn mx i : Nat) (j : Nat) : Nat := if mn ≤ j ∧ j < mx + 1 then st l j + cntL (l.take i) j else 0
theorem nx3_zero (l : List Cd) (mn mx : Nat) : row28 (nxt l mn (mx + 1)) = row28 (nx3 l mn mx 0) := by
  refine row28_ext fun j _ => ?_
  simp [nxt, nx3, cntL]
theorem nx3_set (l : List Cd) (mn mx i : Nat) (h : i < l.length) (h1 : mn ≤ (l.getD i Cd.zero).len) (h2 : (l.getD i Cd.zero).len ≤ mx) (h3 : mx < 28) :
    wr (row28 (nx3 l mn mx i)) ((l.getD i Cd.zero).len : Int) ((nx3 l mn mx i (l.getD i Cd.zero).len + 1 : Nat) : Int) = row28 (nx3 l mn mx (i + 1)) := by
  rw [row28_wr _ _ _ (by omega)]
  refine row28_ext fun j _ => ?_
  unfold nx3
  rw [take_succ_getD l i h]
  by_cases hj : j = (l.getD i Cd.zero).len
  · subst hj
    rw [if_pos rfl, if_pos (by omega), if_pos (by omega), cntL_append, cntL_cons, cntL_nil, if_pos rfl]
    omega
  · rw [if_neg hj]
    by_cases h4 : mn ≤ j ∧ j < mx + 1
    · rw [if_pos h4, if_pos h4, cntL_append, cntL_cons, cntL_nil, if_neg (fun h => hj h.symm)]; omega
    · rw [if_neg h4, if_neg h4]

/-- The values up to place k. -/
def canonTo (l : List Cd) (k : Nat) : List Cd := (canon l).take k ++ l.drop k
theorem canonTo_zero (l : List Cd) : canonTo l 0 = l := by simp [canonTo]
theorem canonTo_all (l : List Cd) : canonTo l l.length = canon l := by simp [canonTo, ← canon_length l]
theorem canonTo_length (l : List Cd) (k : Nat) (h : k ≤ l.length) : (canonTo l k).length = l.length := by simp [canonTo, canon_length]; omega
theorem canonTo_get (l : List Cd) (k : Nat) (h : k < l.length) : (canonTo l k).getD k Cd.zero = l.getD k Cd.zero := by
  simp [canonTo, List.getElem?_append, canon_length, Nat.min_eq_left (Nat.le_of_lt h)]
theorem canonTo_set (l : List Cd) (k : Nat) (h : k < l.length) : (canonTo l k).set k { (canonTo l k).getD k Cd.zero with val := valAt l k } = canonTo l (k + 1) := by
  rw [canonTo_get l k h]
  unfold canonTo
  have hlen : ((canon l).take k).length = k := by simp [canon_length]; omega
  have hc : k < (canon l).length := by rw [canon_length]; exact h
  have hd : l.drop k = l.getD k Cd.zero :: l.drop (k + 1) := by
    have : l.getD k Cd.zero = l[k] := by simp [h]
    rw [this, List.drop_eq_getElem_cons h]
  rw [List.set_append_right _ _ (by omega), hlen, Nat.sub_self, hd, List.set_cons_zero, take_succ_getD _ _ hc, canon_get l k h]
  simp
end Go.Proofs.Ytjkpfliaflmppaa.Pc

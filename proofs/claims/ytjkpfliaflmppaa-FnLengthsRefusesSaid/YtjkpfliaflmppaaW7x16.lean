/- impl.safe carries a function out and tells that it did not panic: for every function that returns. impl.safe tells whether what it carries out panicked: for every function that returns or panics with an error. impl.codes and impl.uncodes copy a row of codes: for every row of at most 100 codes. impl.Prefixes, walked: whole codes get canonical values, all others are an error. -/
import Derived.Test.YtjkpfliaflmppaaW7x01
import Derived.Test.YtjkpfliaflmppaaProg
import Derived.WalkKit
import Derived.Recover
import Derived.Laws.Pointers
import Derived.Test.YtjkpfliaflmppaaW7x12
import Derived.WalkSmall
import Derived.Test.YtjkpfliaflmppaaW7x04
import Derived.Test.YtjkpfliaflmppaaW7x10
import Derived.Test.YtjkpfliaflmppaaW7x14

namespace Go.Proofs.Ytjkpfliaflmppaa.Sf
open Go Go.RowKit Go.Proofs.Ytjkpfliaflmppaa.Vm

theorem catch_idle (p : Addr) (w : World) (hc : ∃ v, w.cell? p = some v) (hz : w.frozen? p = false) :
    CallsD Try.prog 89 #[.pointer (some p)] .returning w fun e u' w' => e = .returned (.tuple #[]) ∧ u' = .returning ∧ w' = w.setCell p (.bool true) := by
  obtain ⟨v, hc⟩ := hc
  refine callsD_of_wpS Try.func89 rfl fun c₀ cs hu => ?_
  apply wpS_region
  simp [wpOpsS, go_sem, recoverD, hu, Try.ntmps89, hc, hz]
  cases c₀
  simp_all [bodyPostS, results, Try.results89]

theorem safe_c {f : FuncId} {first captured : Array Value} {M : Mem} {R : Mem → Prop} (hf : Callable Try.prog f)
    (h : ∀ b, HC Try.prog f (first ++ captured) (⟨true, b, 0, [.bool false]⟩ :: M) (fun _ M' => ∃ M1, Rk M' (⟨true, b, 0, [.bool false]⟩ :: M1) ∧ R M1)) :
    HC Try.prog 39 #[.func (.func f) first captured] M (fun v M' => v = .bool true ∧ R M') := by
  constructor
  intro base w0 w hS
  have hmf : ∀ (fn : Fn) (first cap : Array Value) (w : World), (Instr.makeFunc fn first cap).run Try.prog w = .ok (.func fn first cap) w := fun _ _ _ _ => rfl
  have hcf : ∀ (w : World) (args : Array Value), (callFunc f args).run Try.prog w = .ok (.enter f args) w := fun w args => run_callFunc hf
  have hS1 := hS.alloc #[.bool false] 4
  have hc := (h w.heap.size).out base w0 _ hS1
  go_enter_defers Try.func39, Try.ntmps39
  go_wp2_with fail
  refine hc.mono ?_
  rintro e w' ⟨v, M', rfl, hS', M1, hrk, hR⟩
  have hSr := hS'.rk hrk
  have hcell : w'.cell? ⟨w.heap.size, 0, none⟩ = some (.bool false) := (hSr.seg _ (.head _)).cell (i := 0) rfl
  have hfree : w'.frozen? ⟨w.heap.size, 0, none⟩ = false := (hSr.seg _ (.head _)).free rfl (i := 0) (by simp)
  have hS2 : Sim false base w0 (w'.setCell ⟨w.heap.size, 0, none⟩ (.bool true)) (⟨true, w.heap.size, 0, [.bool true]⟩ :: M1) := hSr.set (s := ⟨true, w.heap.size, 0, [.bool false]⟩) (i := 0) rfl (by simp) .head
  have hc2 : (w'.setCell ⟨w.heap.size, 0, none⟩ (.bool true)).cell? ⟨w.heap.size, 0, none⟩ = some (.bool true) := (hS2.seg _ (.head _)).cell (i := 0) rfl
  have hf2 : (w'.setCell ⟨w.heap.size, 0, none⟩ (.bool true)).frozen? ⟨w.heap.size, 0, none⟩ = false := (hS2.seg _ (.head _)).free rfl (i := 0) (by simp)
  have hS3 : Sim false base w0 ((w'.setCell ⟨w.heap.size, 0, none⟩ (.bool true)).setCell ⟨w.heap.size, 0, none⟩ (.bool true)) (⟨true, w.heap.size, 0, [.bool true]⟩ :: M1) := hS2.set (s := ⟨true, w.heap.size, 0, [.bool true]⟩) (i := 0) rfl (by simp) .head
  have hS4 : Sim false base w0 _ M1 := hS3.drop
  have hc4 : ((w'.setCell ⟨w.heap.size, 0, none⟩ (.bool true)).setCell ⟨w.heap.size, 0, none⟩ (.bool true)).cell? ⟨w.heap.size, 0, none⟩ = some (.bool true) := (hS3.seg _ (.head _)).cell (i := 0) rfl
  clear hS' hS1 hS2 hS3 hSr hS hc h hmf
  go_wp2
  refine leaves_cons (f := 89) (args := #[.pointer (some ⟨w.heap.size, 0, none⟩)]) (by simp) (by simp [go_sem]) ?_
  refine (catch_idle ⟨w.heap.size, 0, none⟩ _ ⟨_, hc2⟩ hf2).mono ?_
  rintro e u' w'' ⟨rfl, rfl, rfl⟩
  refine ⟨.bool true, ?_, .bool true, M1, rfl, hS4, rfl, hR⟩
  simp [results, Try.results39, go_sem, hc4]
end Go.Proofs.Ytjkpfliaflmppaa.Sf

namespace Go.Proofs.Ytjkpfliaflmppaa.Sf
open Go Go.RowKit Go.Proofs.Ytjkpfliaflmppaa.Vm

theorem catch_pan (p : Addr) (t : TypeId) (x : Value) (w : World) (hc : ∃ v, w.cell? p = some v) (hz : w.frozen? p = false) :
    CallsD Try.prog 89 #[.pointer (some p)] (.panicking [{ v := .iface t x, recovered := false }]) w fun e u' w' => e = .returned (.tuple #[]) ∧ u' = .panicking [{ v := .iface t x, recovered := true }] ∧ w' = w.setCell p (.bool false) := by
  obtain ⟨v, hc⟩ := hc
  refine callsD_of_wpS Try.func89 rfl fun c₀ cs hu => ?_
  apply wpS_region
  simp [wpOpsS, go_sem, recoverD, hu, Try.ntmps89, hc, hz]
  cases c₀
  simp_all [bodyPostS, results, Try.results89]

theorem safe_x {f : FuncId} {first captured : Array Value} {M : Mem} {R X : Mem → Prop} (hf : Callable Try.prog f)
    (h : ∀ b, HX Try.prog f (first ++ captured) (⟨true, b, 0, [.bool false]⟩ :: M) (fun _ M' => ∃ M1, Rk M' (⟨true, b, 0, [.bool false]⟩ :: M1) ∧ R M1) (fun M' => ∃ M1, Rk M' (⟨true, b, 0, [.bool false]⟩ :: M1) ∧ X M1)) :
    HC Try.prog 39 #[.func (.func f) first captured] M (fun v M' => (v = .bool true ∧ R M') ∨ (v = .bool false ∧ X M')) := by
  constructor
  intro base w0 w hS
  have hmf : ∀ (fn : Fn) (first cap : Array Value) (w : World), (Instr.makeFunc fn first cap).run Try.prog w = .ok (.func fn first cap) w := fun _ _ _ _ => rfl
  have hcf : ∀ (w : World) (args : Array Value), (callFunc f args).run Try.prog w = .ok (.enter f args) w := fun w args => run_callFunc hf
  have hS1 := hS.alloc #[.bool false] 4
  have hc := (h w.heap.size).out base w0 _ hS1
  go_enter_defers Try.func39, Try.ntmps39
  go_wp2_with fail
  refine hc.mono ?_
  rintro e w' (⟨v, M', rfl, hS', M1, hrk, hR⟩ | ⟨t, x, M', rfl, hS', M1, hrk, hX⟩)
  · have hSr := hS'.rk hrk
    have hcell : w'.cell? ⟨w.heap.size, 0, none⟩ = some (.bool false) := (hSr.seg _ (.head _)).cell (i := 0) rfl
    have hfree : w'.frozen? ⟨w.heap.size, 0, none⟩ = false := (hSr.seg _ (.head _)).free rfl (i := 0) (by simp)
    have hS2 : Sim false base w0 (w'.setCell ⟨w.heap.size, 0, none⟩ (.bool true)) (⟨true, w.heap.size, 0, [.bool true]⟩ :: M1) := hSr.set (s := ⟨true, w.heap.size, 0, [.bool false]⟩) (i := 0) rfl (by simp) .head
    have hc2 : (w'.setCell ⟨w.heap.size, 0, none⟩ (.bool true)).cell? ⟨w.heap.size, 0, none⟩ = some (.bool true) := (hS2.seg _ (.head _)).cell (i := 0) rfl
    have hf2 : (w'.setCell ⟨w.heap.size, 0, none⟩ (.bool true)).frozen? ⟨w.heap.size, 0, none⟩ = false := (hS2.seg _ (.head _)).free rfl (i := 0) (by simp)
    have hS3 : Sim false base w0 ((w'.setCell ⟨w.heap.size, 0, none⟩ (.bool true)).setCell ⟨w.heap.size, 0, none⟩ (.bool true)) (⟨true, w.heap.size, 0, [.bool true]⟩ :: M1) := hS2.set (s := ⟨true, w.heap.size, 0, [.bool true]⟩) (i := 0) rfl (by simp) .head
    have hS4 : Sim false base w0 _ M1 := hS3.drop
    have hc4 : ((w'.setCell ⟨w.heap.size, 0, none⟩ (.bool true)).setCell ⟨w.heap.size, 0, none⟩ (.bool true)).cell? ⟨w.heap.size, 0, none⟩ = some (.bool true) := (hS3.seg _ (.head _)).cell (i := 0) rfl
    clear hS' hS1 hS2 hS3 hSr hS hc h hmf
    go_wp2
    refine leaves_cons (f := 89) (args := #[.pointer (some ⟨w.heap.size, 0, none⟩)]) (by simp) (by simp [go_sem]) ?_
    refine (catch_idle ⟨w.heap.size, 0, none⟩ _ ⟨_, hc2⟩ hf2).mono ?_
    rintro e u' w'' ⟨rfl, rfl, rfl⟩
    refine ⟨.bool true, ?_, .bool true, M1, rfl, hS4, .inl ⟨rfl, hR⟩⟩
    simp [results, Try.results39, go_sem, hc4]
  · have hSr := hS'.rk hrk
    have hcell : w'.cell? ⟨w.heap.size, 0, none⟩ = some (.bool false) := (hSr.seg _ (.head _)).cell (i := 0) rfl
    have hfree : w'.frozen? ⟨w.heap.size, 0, none⟩ = false := (hSr.seg _ (.head _)).free rfl (i := 0) (by simp)
    have hS2 : Sim false base w0 (w'.setCell ⟨w.heap.size, 0, none⟩ (.bool false)) (⟨true, w.heap.size, 0, [.bool false]⟩ :: M1) := hSr.set (s := ⟨true, w.heap.size, 0, [.bool false]⟩) (i := 0) rfl (by simp) .head
    have hS4 : Sim false base w0 _ M1 := hS2.drop
    have hc4 : (w'.setCell ⟨w.heap.size, 0, none⟩ (.bool false)).cell? ⟨w.heap.size, 0, none⟩ = some (.bool false) := (hS2.seg _ (.head _)).cell (i := 0) rfl
    clear hS' hS1 hS2 hSr hS hc h hmf
    go_wp2
    refine leaves_cons (f := 89) (args := #[.pointer (some ⟨w.heap.size, 0, none⟩)]) (by simp) (by simp [go_sem]) ?_
    refine (catch_pan ⟨w.heap.size, 0, none⟩ t x _ ⟨_, hcell⟩ hfree).mono ?_
    rintro e u' w'' ⟨rfl, rfl, rfl⟩
    refine ⟨.bool false, ?_, .bool false, M1, rfl, hS4, .inr ⟨rfl, hX⟩⟩
    simp [results, Try.results39, go_sem, hc4]
end Go.Proofs.Ytjkpfliaflmppaa.Sf

namespace Go.Proofs.Ytjkpfliaflmppaa.Pc
open Go Go.RowKit Go.Proofs.Ytjkpfliaflmppaa.Vm

theorem codes_c (cs : List Cd) (own : Bool) (b cap : Nat) (sp : List Value) (F : Mem) (hn : cs.length ≤ 100) :
    HC Try.prog 41 #[.slice (some ⟨b, 0, none⟩) cs.length cap] (⟨own, b, 0, codesV cs ++ sp⟩ :: F)
      (fun v M' => ∃ b' cap' sp', v = .slice (some ⟨b', 0, none⟩) cs.length cap' ∧ (codesV cs ++ sp').length = cap' * 4 ∧ M' = ⟨true, b', 0, codesV cs ++ sp'⟩ :: ⟨own, b, 0, codesV cs ++ sp⟩ :: F) := by
  obtain ⟨I, hI, hI1, hI2, hI3⟩ := of_info info146
  refine HC_of_W (fn := Try.f41) Try.func41 rfl rfl rfl rfl ?_
  repeat' (first | (refine isO ?_; first | refine oo (Pc rfl) ?_ | refine oo (Pa rfl (by omega) (by omega)) ?_ | (refine ob rfl ?_ ?_ <;> intro hq <;> try (exfalso; omega)) | refine oo (Pi rfl (by omega)) ?_ | refine oo (Pl rfl) ?_ | refine oo (Px rfl rfl) ?_ | refine oo (Pj rfl (by omega) (by omega)) ?_ | refine oo (Pk rfl (by omega) (by omega)) ?_ | refine oo (Pf rfl) ?_ | refine oo (Pv rfl (by omega) (by omega)) ?_ | refine oo (Pn rfl) ?_ | refine oo (Pm rfl) ?_ | refine os rfl rfl ?_ | refine ot rfl (by omega) ?_ | refine O_nil ?_) | refine wo rfl ?_ | refine wc rfl ?_ | refine wg rfl ?_ | refine go rfl ?_ | refine gc rfl ?_ | refine gg rfl ?_)
  refine O_buildSlice rfl row79_0 trivial rfl fun b0 => ?_
  repeat' (first | (refine isO ?_; first | refine oo (Pc rfl) ?_ | refine oo (Pa rfl (by omega) (by omega)) ?_ | (refine ob rfl ?_ ?_ <;> intro hq <;> try (exfalso; omega)) | refine oo (Pi rfl (by omega)) ?_ | refine oo (Pl rfl) ?_ | refine oo (Px rfl rfl) ?_ | refine oo (Pj rfl (by omega) (by omega)) ?_ | refine oo (Pk rfl (by omega) (by omega)) ?_ | refine oo (Pf rfl) ?_ | refine oo (Pv rfl (by omega) (by omega)) ?_ | refine oo (Pn rfl) ?_ | refine oo (Pm rfl) ?_ | refine os rfl rfl ?_ | refine ot rfl (by omega) ?_ | refine O_nil ?_) | refine wo rfl ?_ | refine wc rfl ?_ | refine wg rfl ?_ | refine go rfl ?_ | refine gc rfl ?_ | refine gg rfl ?_)
  refine W_loop (α := Nat × Nat × Nat × List Value) (fun x => [(0, .slice (some ⟨b, 0, none⟩) cs.length cap), (3, .slice (some ⟨x.2.1, 0, none⟩) x.1 x.2.2.1), (7, .slice (some ⟨b, 0, none⟩) cs.length cap), (8, .int .i64 cs.length), (9, .int .i64 x.1)])
    (fun x => ⟨true, x.2.1, 0, codesV (cs.take x.1) ++ x.2.2.2⟩ :: ⟨own, b, 0, codesV cs ++ sp⟩ :: F) (fun x => x.1 ≤ cs.length ∧ (codesV (cs.take x.1) ++ x.2.2.2).length = x.2.2.1 * 4) (fun x => cs.length - x.1)
    (0, b0, 0, []) ⟨by omega, by simp [codesV]⟩ ⟨rfl, rfl, rfl, rfl, rfl, trivial⟩ (by simp only [List.take_zero, codesV_nil, List.nil_append]; repeat (first | exact .rfl | exact .nil | (apply Rk.cons; (· exact TakeI.out)) | refine .drop ?_)) ?_
  rintro ⟨i, b1, c1, s1⟩ ⟨hi, hc1⟩
  dsimp only at hi hc1 ⊢
  repeat' (first | (refine isO ?_; first | refine oo (Pc rfl) ?_ | refine oo (Pa rfl (by omega) (by omega)) ?_ | (refine ob rfl ?_ ?_ <;> intro hq <;> try (exfalso; omega)) | refine oo (Pi rfl (by omega)) ?_ | refine oo (Pl rfl) ?_ | refine oo (Px rfl rfl) ?_ | refine oo (Pj rfl (by omega) (by omega)) ?_ | refine oo (Pk rfl (by omega) (by omega)) ?_ | refine oo (Pf rfl) ?_ | refine oo (Pv rfl (by omega) (by omega)) ?_ | refine oo (Pn rfl) ?_ | refine oo (Pm rfl) ?_ | refine os rfl rfl ?_ | refine ot rfl (by omega) ?_ | refine O_nil ?_) | refine wo rfl ?_ | refine wc rfl ?_ | refine wg rfl ?_ | refine go rfl ?_ | refine gc rfl ?_ | refine gg rfl ?_)
  · have hil : i < cs.length := by omega
    refine O_pure (P_loadAgg (i := i * 4) (cs := (cs.getD i Cd.zero).cells) Tb.a42 Tb.c42 (by decide) (by simp only [Int.toNat_natCast]; rfl) (by exact TakeI.out.mem) (by rw [List.length_append, codesV_length]; omega) (codesV_block _ _ _ hil)) trivial rfl ?_
    refine O_alloc zero42 trivial rfl fun bx => ?_
    refine O_storeAgg0 Tb.c42 (by decide) rfl rfl rfl (Cd.cells_one _) trivial (by exact TakeI.out) rfl ?_
    repeat' (first | (refine isO ?_; first | refine oo (Pc rfl) ?_ | refine oo (Pa rfl (by omega) (by omega)) ?_ | (refine ob rfl ?_ ?_ <;> intro hq <;> try (exfalso; omega)) | refine oo (Pi rfl (by omega)) ?_ | refine oo (Pl rfl) ?_ | refine oo (Px rfl rfl) ?_ | refine oo (Pj rfl (by omega) (by omega)) ?_ | refine oo (Pk rfl (by omega) (by omega)) ?_ | refine oo (Pf rfl) ?_ | refine oo (Pv rfl (by omega) (by omega)) ?_ | refine oo (Pn rfl) ?_ | refine oo (Pm rfl) ?_ | refine os rfl rfl ?_ | refine ot rfl (by omega) ?_ | refine O_nil ?_) | refine wo rfl ?_ | refine wc rfl ?_ | refine wg rfl ?_ | refine go rfl ?_ | refine gc rfl ?_ | refine gg rfl ?_)
    refine O_pure (P_build rfl (build146 _ _ _ _)) trivial rfl ?_
    refine O_buildSlice rfl (row79_1 _ _ _ _) trivial rfl fun by1 => ?_
    refine O_append (len := i) (m := [⟨true, b1, 0, codesV (cs.take i) ++ s1⟩]) (xs := codesV (cs.take i)) Tb.u79 Tb.u79 hI hI1 (by decide) (by omega) hI3 rfl rfl rfl (.inr ⟨b1, i, c1, s1, rfl, rfl, by rw [codesV_length]; simp; omega, hc1⟩)
      (.cons (by exact TakeI.out) .rfl) (by rw [codesV_length]; simp; omega) (.head _) (by simp [Cd.cells]) (Cd.cells_one (cs.getD i Cd.zero)) (.inl (by omega)) (by rw [hI2]; omega) trivial rfl fun b2 c2 s2 h2 => ?_
    repeat' (first | (refine isO ?_; first | refine oo (Pc rfl) ?_ | refine oo (Pa rfl (by omega) (by omega)) ?_ | (refine ob rfl ?_ ?_ <;> intro hq <;> try (exfalso; omega)) | refine oo (Pi rfl (by omega)) ?_ | refine oo (Pl rfl) ?_ | refine oo (Px rfl rfl) ?_ | refine oo (Pj rfl (by omega) (by omega)) ?_ | refine oo (Pk rfl (by omega) (by omega)) ?_ | refine oo (Pf rfl) ?_ | refine oo (Pv rfl (by omega) (by omega)) ?_ | refine oo (Pn rfl) ?_ | refine oo (Pm rfl) ?_ | refine os rfl rfl ?_ | refine ot rfl (by omega) ?_ | refine O_nil ?_) | refine wo rfl ?_ | refine wc rfl ?_ | refine wg rfl ?_ | refine go rfl ?_ | refine gc rfl ?_ | refine gg rfl ?_)
    refine G_stop ⟨(i + 1, b2, c2, s2), ⟨by omega, ?_⟩, by dsimp only; omega, ⟨rfl, rfl, rfl, rfl, rfl, trivial⟩, ?_⟩
    · rw [codesV_take _ _ hil] at h2; exact h2
    · dsimp only
      rw [codesV_take _ _ hil]
      repeat (first | exact .rfl | exact .nil | (apply Rk.cons; (· exact TakeI.out)) | refine .drop ?_)
  · obtain rfl : i = cs.length := by omega
    refine G_fin ⟨_, rfl, b1, c1, s1, rfl, ?_, ?_⟩
    · rw [List.take_length] at hc1; exact hc1
    · rw [List.take_length]

theorem uncodes_c (cs : List Cd) (own : Bool) (b cap : Nat) (sp : List Value) (F : Mem) (hn : cs.length ≤ 100) :
    HC Try.prog 43 #[.slice (some ⟨b, 0, none⟩) cs.length cap] (⟨own, b, 0, codesV cs ++ sp⟩ :: F)
      (fun v M' => ∃ m, Own v 4 (codesV cs) m ∧ Rk M' (⟨own, b, 0, codesV cs ++ sp⟩ :: (m ++ F))) := by
  obtain ⟨I, hI, hI1, hI2, hI3⟩ := of_info info42
  refine HC_of_W (fn := Try.f43) Try.func43 rfl rfl rfl rfl ?_
  repeat' (first | (refine isO ?_; first | refine oo (Pc rfl) ?_ | refine oo (Pa rfl (by omega) (by omega)) ?_ | (refine ob rfl ?_ ?_ <;> intro hq <;> try (exfalso; omega)) | refine oo (Pi rfl (by omega)) ?_ | refine oo (Pl rfl) ?_ | refine oo (Px rfl rfl) ?_ | refine oo (Pj rfl (by omega) (by omega)) ?_ | refine oo (Pk rfl (by omega) (by omega)) ?_ | refine oo (Pf rfl) ?_ | refine oo (Pv rfl (by omega) (by omega)) ?_ | refine oo (Pn rfl) ?_ | refine oo (Pm rfl) ?_ | refine os rfl rfl ?_ | refine ot rfl (by omega) ?_ | refine O_nil ?_) | refine wo rfl ?_ | refine wc rfl ?_ | refine wg rfl ?_ | refine go rfl ?_ | refine gc rfl ?_ | refine gg rfl ?_)
  refine W_loop (α := Nat × Value × Mem) (fun x => [(0, .slice (some ⟨b, 0, none⟩) cs.length cap), (3, x.2.1), (6, .slice (some ⟨b, 0, none⟩) cs.length cap), (7, .int .i64 cs.length), (8, .int .i64 x.1)])
    (fun x => ⟨own, b, 0, codesV cs ++ sp⟩ :: (x.2.2 ++ F)) (fun x => x.1 ≤ cs.length ∧ Own x.2.1 4 (codesV (cs.take x.1)) x.2.2) (fun x => cs.length - x.1)
    (0, .slice none 0 0, []) ⟨by omega, .inl ⟨rfl, by simp [codesV], rfl⟩⟩ ⟨rfl, rfl, rfl, rfl, rfl, trivial⟩ (by repeat (first | exact .rfl | exact .nil | (apply Rk.cons; (· exact TakeI.out)) | refine .drop ?_)) ?_
  rintro ⟨i, v, m⟩ ⟨hi, hown⟩
  dsimp only at hi hown ⊢
  repeat' (first | (refine isO ?_; first | refine oo (Pc rfl) ?_ | refine oo (Pa rfl (by omega) (by omega)) ?_ | (refine ob rfl ?_ ?_ <;> intro hq <;> try (exfalso; omega)) | refine oo (Pi rfl (by omega)) ?_ | refine oo (Pl rfl) ?_ | refine oo (Px rfl rfl) ?_ | refine oo (Pj rfl (by omega) (by omega)) ?_ | refine oo (Pk rfl (by omega) (by omega)) ?_ | refine oo (Pf rfl) ?_ | refine oo (Pv rfl (by omega) (by omega)) ?_ | refine oo (Pn rfl) ?_ | refine oo (Pm rfl) ?_ | refine os rfl rfl ?_ | refine ot rfl (by omega) ?_ | refine O_nil ?_) | refine wo rfl ?_ | refine wc rfl ?_ | refine wg rfl ?_ | refine go rfl ?_ | refine gc rfl ?_ | refine gg rfl ?_)
  · have hil : i < cs.length := by omega
    refine O_pure (P_loadAgg (i := i * 4) (cs := (cs.getD i Cd.zero).cells) Tb.a146 Tb.c146 (by decide) (by simp only [Int.toNat_natCast]; rfl) (by exact TakeI.out.mem) (by rw [List.length_append, codesV_length]; omega) (codesV_block _ _ _ hil)) trivial rfl ?_
    refine O_alloc zero146 trivial rfl fun bx => ?_
    refine O_storeAgg0 Tb.c146 (by decide) rfl rfl rfl (Cd.cells_one _) trivial (by exact TakeI.out) rfl ?_
    repeat' (first | (refine isO ?_; first | refine oo (Pc rfl) ?_ | refine oo (Pa rfl (by omega) (by omega)) ?_ | (refine ob rfl ?_ ?_ <;> intro hq <;> try (exfalso; omega)) | refine oo (Pi rfl (by omega)) ?_ | refine oo (Pl rfl) ?_ | refine oo (Px rfl rfl) ?_ | refine oo (Pj rfl (by omega) (by omega)) ?_ | refine oo (Pk rfl (by omega) (by omega)) ?_ | refine oo (Pf rfl) ?_ | refine oo (Pv rfl (by omega) (by omega)) ?_ | refine oo (Pn rfl) ?_ | refine oo (Pm rfl) ?_ | refine os rfl rfl ?_ | refine ot rfl (by omega) ?_ | refine O_nil ?_) | refine wo rfl ?_ | refine wc rfl ?_ | refine wg rfl ?_ | refine go rfl ?_ | refine gc rfl ?_ | refine gg rfl ?_)
    refine O_pure (P_build rfl (build42 _ _ _ _)) trivial rfl ?_
    refine O_buildSlice rfl (row23_1 _ _ _ _) trivial rfl fun by1 => ?_
    refine O_append (len := i) (m := m) (M0 := [⟨true, by1, 0, (cs.getD i Cd.zero).cells⟩, ⟨own, b, 0, codesV cs ++ sp⟩] ++ F) (xs := codesV (cs.take i)) Tb.u23 Tb.u23 hI hI1 (by decide) (by omega) hI3 rfl rfl rfl hown
      ?_ (by rw [codesV_length]; simp; omega) (.head _) (by simp [Cd.cells]) (Cd.cells_one (cs.getD i Cd.zero)) (.inl (by omega)) (by rw [hI2]; omega) trivial rfl fun b2 c2 s2 h2 => ?_
    · refine .trans (L := ⟨true, by1, 0, (cs.getD i Cd.zero).cells⟩ :: ⟨own, b, 0, codesV cs ++ sp⟩ :: (m ++ F)) (by repeat (first | exact .rfl | exact .nil | (apply Rk.cons; (· exact TakeI.out)) | refine .drop ?_)) (.perm (List.perm_append_comm_assoc [_, _] m F))
    repeat' (first | (refine isO ?_; first | refine oo (Pc rfl) ?_ | refine oo (Pa rfl (by omega) (by omega)) ?_ | (refine ob rfl ?_ ?_ <;> intro hq <;> try (exfalso; omega)) | refine oo (Pi rfl (by omega)) ?_ | refine oo (Pl rfl) ?_ | refine oo (Px rfl rfl) ?_ | refine oo (Pj rfl (by omega) (by omega)) ?_ | refine oo (Pk rfl (by omega) (by omega)) ?_ | refine oo (Pf rfl) ?_ | refine oo (Pv rfl (by omega) (by omega)) ?_ | refine oo (Pn rfl) ?_ | refine oo (Pm rfl) ?_ | refine os rfl rfl ?_ | refine ot rfl (by omega) ?_ | refine O_nil ?_) | refine wo rfl ?_ | refine wc rfl ?_ | refine wg rfl ?_ | refine go rfl ?_ | refine gc rfl ?_ | refine gg rfl ?_)
    refine G_stop ⟨(i + 1, .slice (some ⟨b2, 0, none⟩) (i + 1) c2, [⟨true, b2, 0, codesV (cs.take (i + 1)) ++ s2⟩]), ⟨by omega, ?_⟩, by dsimp only; omega, ⟨rfl, rfl, rfl, rfl, rfl, trivial⟩, ?_⟩
    · rw [codesV_take _ _ hil] at h2; exact .inr ⟨b2, i + 1, c2, s2, rfl, rfl, by rw [codesV_length]; simp; omega, h2⟩
    · dsimp only
      rw [codesV_take _ _ hil]
      refine .cons (by exact TakeI.out) ?_
      exact .cons .head (.drop .rfl)
  · obtain rfl : i = cs.length := by omega
    rw [List.take_length] at hown
    exact G_fin ⟨_, rfl, m, hown, .rfl⟩
end Go.Proofs.Ytjkpfliaflmppaa.Pc

namespace Go.Proofs.Ytjkpfliaflmppaa.Pc
open Go Go.RowKit Go.Proofs.Ytjkpfliaflmppaa.Vm Go.Proofs.Ytjkpfliaflmppaa.Rev Go.Proofs.Ytjkpfliaflmppaa.Rv Go.Proofs.Ytjkpfliaflmppaa.Sf

theorem own_one {s : Value} {size : Nat} {xs : List Value} {m : Mem} (h : Own s size xs m) : s.oneCell' = true := by
  rcases h with ⟨rfl, _⟩ | ⟨b, len, cap, sp, rfl, _⟩ <;> rfl

/-- What comes of codes. -/
def Made (cs : List Cd) (r : Bool) (out : List Cd) : Prop := (whole cs ∧ r = true ∧ out = canon cs) ∨ (¬ whole cs ∧ r = false ∧ out = cs)

theorem pfin_c (cs : List Cd) (hG : Good cs) (b1 b2 b3 : Nat) (own : Bool) (b cap : Nat) (sp : List Value) (F : Mem) :
    HC Try.prog 40 #[.pointer (some ⟨b1, 0, none⟩), .pointer (some ⟨b3, 0, none⟩), .pointer (some ⟨b2, 0, none⟩)]
      (⟨own, b, 0, codesV cs ++ sp⟩ :: ⟨true, b3, 0, [.bool false]⟩ :: ⟨true, b2, 0, [.slice none 0 0]⟩ :: ⟨true, b1, 0, [.slice (some ⟨b, 0, none⟩) cs.length cap]⟩ :: F)
      (fun _ M' => ∃ r out sv m, Made cs r out ∧ Own sv 4 (codesV out) m ∧ Rk M' (⟨true, b3, 0, [.bool r]⟩ :: ⟨true, b2, 0, [sv]⟩ :: (m ++ (⟨own, b, 0, codesV cs ++ sp⟩ :: F)))) := by
  have h60 := hG.most
  refine HC_of_W (fn := Try.f40) Try.func40 rfl rfl rfl rfl ?_
  repeat' (first | (refine isO ?_; first | refine oo (Pc rfl) ?_ | refine oo (Pa rfl (by omega) (by omega)) ?_ | (refine ob rfl ?_ ?_ <;> intro hq <;> try (exfalso; omega)) | refine oo (Pi rfl (by omega)) ?_ | refine oo (Pl rfl) ?_ | refine oo (Px rfl rfl) ?_ | refine oo (Pj rfl (by omega) (by omega)) ?_ | refine oo (Pk rfl (by omega) (by omega)) ?_ | refine oo (Pf rfl) ?_ | refine oo (Pv rfl (by omega) (by omega)) ?_ | refine oo (Pn rfl) ?_ | refine oo (Pm rfl) ?_ | refine os rfl rfl ?_ | refine ot rfl (by omega) ?_ | refine O_nil ?_) | refine wo rfl ?_ | refine wc rfl ?_ | refine wg rfl ?_ | refine go rfl ?_ | refine gc rfl ?_ | refine gg rfl ?_)
  refine O_call rfl rfl Tb.k41 trivial rfl (codes_c cs own b cap sp _ (by omega)) ?_
  rintro v M' ⟨b', cap', sp', rfl, hcap', rfl⟩
  repeat' (first | (refine isO ?_; first | refine oo (Pc rfl) ?_ | refine oo (Pa rfl (by omega) (by omega)) ?_ | (refine ob rfl ?_ ?_ <;> intro hq <;> try (exfalso; omega)) | refine oo (Pi rfl (by omega)) ?_ | refine oo (Pl rfl) ?_ | refine oo (Px rfl rfl) ?_ | refine oo (Pj rfl (by omega) (by omega)) ?_ | refine oo (Pk rfl (by omega) (by omega)) ?_ | refine oo (Pf rfl) ?_ | refine oo (Pv rfl (by omega) (by omega)) ?_ | refine oo (Pn rfl) ?_ | refine oo (Pm rfl) ?_ | refine os rfl rfl ?_ | refine ot rfl (by omega) ?_ | refine O_nil ?_) | refine wo rfl ?_ | refine wc rfl ?_ | refine wg rfl ?_ | refine go rfl ?_ | refine gc rfl ?_ | refine gg rfl ?_)
  refine O_call rfl rfl Tb.k42 trivial rfl (gp_c cs hG b' cap' sp' _ hcap') ?_
  rintro v M' (⟨hw, rfl, hrk⟩ | ⟨hw, ⟨t, x, rfl⟩, hrk⟩)
  · refine O_weak hrk ?_
    refine O_pure (P_err_eq Tb.i82 rfl rfl) trivial rfl ?_
    repeat' (first | (refine isO ?_; first | refine oo (Pc rfl) ?_ | refine oo (Pa rfl (by omega) (by omega)) ?_ | (refine ob rfl ?_ ?_ <;> intro hq <;> try (exfalso; omega)) | refine oo (Pi rfl (by omega)) ?_ | refine oo (Pl rfl) ?_ | refine oo (Px rfl rfl) ?_ | refine oo (Pj rfl (by omega) (by omega)) ?_ | refine oo (Pk rfl (by omega) (by omega)) ?_ | refine oo (Pf rfl) ?_ | refine oo (Pv rfl (by omega) (by omega)) ?_ | refine oo (Pn rfl) ?_ | refine oo (Pm rfl) ?_ | refine os rfl rfl ?_ | refine ot rfl (by omega) ?_ | refine O_nil ?_) | refine wo rfl ?_ | refine wc rfl ?_ | refine wg rfl ?_ | refine go rfl ?_ | refine gc rfl ?_ | refine gg rfl ?_)
    have hcl : (canon cs).length = cs.length := canon_length cs
    have := uncodes_c (canon cs) true b' cap' sp' (⟨own, b, 0, codesV cs ++ sp⟩ :: ⟨true, b3, 0, [.bool true]⟩ :: ⟨true, b2, 0, [.slice none 0 0]⟩ :: ⟨true, b1, 0, [.slice (some ⟨b, 0, none⟩) cs.length cap]⟩ :: F) (by omega)
    rw [hcl] at this
    refine O_call rfl rfl Tb.k43 trivial rfl this ?_
    rintro v M' ⟨m, hown, hrk2⟩
    have hrk3 : Rk M' (⟨true, b3, 0, [.bool true]⟩ :: ⟨true, b2, 0, [.slice none 0 0]⟩ :: (m ++ (⟨own, b, 0, codesV cs ++ sp⟩ :: F))) := by
      refine .trans hrk2 (.drop (.trans (.perm (List.perm_append_comm)) ?_))
      refine .cons (s := ⟨true, b3, 0, [.bool true]⟩) (by exact TakeI.out) (.cons (s := ⟨true, b2, 0, [.slice none 0 0]⟩) (by exact TakeI.out) ?_)
      show Rk ((⟨own, b, 0, codesV cs ++ sp⟩ :: ⟨true, b1, 0, [.slice (some ⟨b, 0, none⟩) cs.length cap]⟩ :: F) ++ m) _
      exact .trans (.perm List.perm_append_comm) (Rk.app m (.cons .head (.drop .rfl)))
    refine O_weak hrk3 ?_
    have h1 := own_one hown
    repeat' (first | (refine isO ?_; first | refine oo (Pc rfl) ?_ | refine oo (Pa rfl (by omega) (by omega)) ?_ | (refine ob rfl ?_ ?_ <;> intro hq <;> try (exfalso; omega)) | refine oo (Pi rfl (by omega)) ?_ | refine oo (Pl rfl) ?_ | refine oo (Px rfl rfl) ?_ | refine oo (Pj rfl (by omega) (by omega)) ?_ | refine oo (Pk rfl (by omega) (by omega)) ?_ | refine oo (Pf rfl) ?_ | refine oo (Pv rfl (by omega) (by omega)) ?_ | refine oo (Pn rfl) ?_ | refine oo (Pm rfl) ?_ | refine os rfl rfl ?_ | refine ot rfl (by omega) ?_ | refine O_nil ?_) | refine wo rfl ?_ | refine wc rfl ?_ | refine wg rfl ?_ | refine go rfl ?_ | refine gc rfl ?_ | refine gg rfl ?_)
    refine O_store0 Tb.c23 rfl rfl h1 trivial (by first | exact .head | exact .tail .head | exact .tail (.tail .head) | exact .tail (.tail (.tail .head)) | exact .tail (.tail (.tail (.tail .head)))) ?_
    repeat' (first | (refine isO ?_; first | refine oo (Pc rfl) ?_ | refine oo (Pa rfl (by omega) (by omega)) ?_ | (refine ob rfl ?_ ?_ <;> intro hq <;> try (exfalso; omega)) | refine oo (Pi rfl (by omega)) ?_ | refine oo (Pl rfl) ?_ | refine oo (Px rfl rfl) ?_ | refine oo (Pj rfl (by omega) (by omega)) ?_ | refine oo (Pk rfl (by omega) (by omega)) ?_ | refine oo (Pf rfl) ?_ | refine oo (Pv rfl (by omega) (by omega)) ?_ | refine oo (Pn rfl) ?_ | refine oo (Pm rfl) ?_ | refine os rfl rfl ?_ | refine ot rfl (by omega) ?_ | refine O_nil ?_) | refine wo rfl ?_ | refine wc rfl ?_ | refine wg rfl ?_ | refine go rfl ?_ | refine gc rfl ?_ | refine gg rfl ?_)
    exact G_fin ⟨_, rfl, true, _, _, m, .inl ⟨hw, rfl, rfl⟩, hown, .rfl⟩
  · refine O_weak hrk ?_
    refine O_pure (P_err_eq Tb.i82 rfl rfl) trivial rfl ?_
    repeat' (first | (refine isO ?_; first | refine oo (Pc rfl) ?_ | refine oo (Pa rfl (by omega) (by omega)) ?_ | (refine ob rfl ?_ ?_ <;> intro hq <;> try (exfalso; omega)) | refine oo (Pi rfl (by omega)) ?_ | refine oo (Pl rfl) ?_ | refine oo (Px rfl rfl) ?_ | refine oo (Pj rfl (by omega) (by omega)) ?_ | refine oo (Pk rfl (by omega) (by omega)) ?_ | refine oo (Pf rfl) ?_ | refine oo (Pv rfl (by omega) (by omega)) ?_ | refine oo (Pn rfl) ?_ | refine oo (Pm rfl) ?_ | refine os rfl rfl ?_ | refine ot rfl (by omega) ?_ | refine O_nil ?_) | refine wo rfl ?_ | refine wc rfl ?_ | refine wg rfl ?_ | refine go rfl ?_ | refine gc rfl ?_ | refine gg rfl ?_)
    refine O_call rfl rfl Tb.k43 trivial rfl (uncodes_c cs true b' cap' sp' _ (by omega)) ?_
    rintro v M' ⟨m, hown, hrk2⟩
    have hrk3 : Rk M' (⟨true, b3, 0, [.bool false]⟩ :: ⟨true, b2, 0, [.slice none 0 0]⟩ :: (m ++ (⟨own, b, 0, codesV cs ++ sp⟩ :: F))) := by
      refine .trans hrk2 (.drop (.trans (.perm (List.perm_append_comm)) ?_))
      refine .cons (s := ⟨true, b3, 0, [.bool false]⟩) (by exact TakeI.out) (.cons (s := ⟨true, b2, 0, [.slice none 0 0]⟩) (by exact TakeI.out) ?_)
      show Rk ((⟨own, b, 0, codesV cs ++ sp⟩ :: ⟨true, b1, 0, [.slice (some ⟨b, 0, none⟩) cs.length cap]⟩ :: F) ++ m) _
      exact .trans (.perm List.perm_append_comm) (Rk.app m (.cons .head (.drop .rfl)))
    refine O_weak hrk3 ?_
    have h1 := own_one hown
    repeat' (first | (refine isO ?_; first | refine oo (Pc rfl) ?_ | refine oo (Pa rfl (by omega) (by omega)) ?_ | (refine ob rfl ?_ ?_ <;> intro hq <;> try (exfalso; omega)) | refine oo (Pi rfl (by omega)) ?_ | refine oo (Pl rfl) ?_ | refine oo (Px rfl rfl) ?_ | refine oo (Pj rfl (by omega) (by omega)) ?_ | refine oo (Pk rfl (by omega) (by omega)) ?_ | refine oo (Pf rfl) ?_ | refine oo (Pv rfl (by omega) (by omega)) ?_ | refine oo (Pn rfl) ?_ | refine oo (Pm rfl) ?_ | refine os rfl rfl ?_ | refine ot rfl (by omega) ?_ | refine O_nil ?_) | refine wo rfl ?_ | refine wc rfl ?_ | refine wg rfl ?_ | refine go rfl ?_ | refine gc rfl ?_ | refine gg rfl ?_)
    refine O_store0 Tb.c23 rfl rfl h1 trivial (by first | exact .head | exact .tail .head | exact .tail (.tail .head) | exact .tail (.tail (.tail .head)) | exact .tail (.tail (.tail (.tail .head)))) ?_
    repeat' (first | (refine isO ?_; first | refine oo (Pc rfl) ?_ | refine oo (Pa rfl (by omega) (by omega)) ?_ | (refine ob rfl ?_ ?_ <;> intro hq <;> try (exfalso; omega)) | refine oo (Pi rfl (by omega)) ?_ | refine oo (Pl rfl) ?_ | refine oo (Px rfl rfl) ?_ | refine oo (Pj rfl (by omega) (by omega)) ?_ | refine oo (Pk rfl (by omega) (by omega)) ?_ | refine oo (Pf rfl) ?_ | refine oo (Pv rfl (by omega) (by omega)) ?_ | refine oo (Pn rfl) ?_ | refine oo (Pm rfl) ?_ | refine os rfl rfl ?_ | refine ot rfl (by omega) ?_ | refine O_nil ?_) | refine wo rfl ?_ | refine wc rfl ?_ | refine wg rfl ?_ | refine go rfl ?_ | refine gc rfl ?_ | refine gg rfl ?_)
    exact G_fin ⟨_, rfl, false, _, _, m, .inr ⟨hw, rfl, rfl⟩, hown, .rfl⟩

theorem prefixes_c (cs : List Cd) (hG : Good cs) (own : Bool) (b cap : Nat) (sp : List Value) (F : Mem) :
    HC Try.prog 14 #[.slice (some ⟨b, 0, none⟩) cs.length cap] (⟨own, b, 0, codesV cs ++ sp⟩ :: F)
      (fun v M' => (whole cs ∧ ∃ sv m, Own sv 4 (codesV (canon cs)) m ∧ v = .tuple #[sv, .bool true] ∧ Rk M' (m ++ (⟨own, b, 0, codesV cs ++ sp⟩ :: F))) ∨
        (¬ whole cs ∧ v = .tuple #[.slice none 0 0, .bool false] ∧ Rk M' (⟨own, b, 0, codesV cs ++ sp⟩ :: F))) := by
  refine HC_of_WM (fn := Try.f14) Try.func14 rfl rfl rfl rfl ?_
  repeat' (first | (refine isO ?_; first | refine oo (Pc rfl) ?_ | refine oo (Pa rfl (by omega) (by omega)) ?_ | (refine ob rfl ?_ ?_ <;> intro hq <;> try (exfalso; omega)) | refine oo (Pi rfl (by omega)) ?_ | refine oo (Pl rfl) ?_ | refine oo (Px rfl rfl) ?_ | refine oo (Pj rfl (by omega) (by omega)) ?_ | refine oo (Pk rfl (by omega) (by omega)) ?_ | refine oo (Pf rfl) ?_ | refine oo (Pv rfl (by omega) (by omega)) ?_ | refine oo (Pn rfl) ?_ | refine oo (Pm rfl) ?_ | refine os rfl rfl ?_ | refine ot rfl (by omega) ?_ | refine O_nil ?_) | refine wo rfl ?_ | refine wc rfl ?_ | refine wg rfl ?_ | refine go rfl ?_ | refine gc rfl ?_ | refine gg rfl ?_)
  refine O_box rfl trivial rfl fun b1 => ?_
  refine O_alloc zero23 trivial rfl fun b2 => ?_
  refine O_alloc zero4 trivial rfl fun b3 => ?_
  repeat' (first | (refine isO ?_; first | refine oo (Pc rfl) ?_ | refine oo (Pa rfl (by omega) (by omega)) ?_ | (refine ob rfl ?_ ?_ <;> intro hq <;> try (exfalso; omega)) | refine oo (Pi rfl (by omega)) ?_ | refine oo (Pl rfl) ?_ | refine oo (Px rfl rfl) ?_ | refine oo (Pj rfl (by omega) (by omega)) ?_ | refine oo (Pk rfl (by omega) (by omega)) ?_ | refine oo (Pf rfl) ?_ | refine oo (Pv rfl (by omega) (by omega)) ?_ | refine oo (Pn rfl) ?_ | refine oo (Pm rfl) ?_ | refine os rfl rfl ?_ | refine ot rfl (by omega) ?_ | refine O_nil ?_) | refine wo rfl ?_ | refine wc rfl ?_ | refine wg rfl ?_ | refine go rfl ?_ | refine gc rfl ?_ | refine gg rfl ?_)
  refine O_call rfl rfl Tb.k39 trivial rfl (safe_c (f := 40) (R := fun M' => ∃ r out sv m, Made cs r out ∧ Own sv 4 (codesV out) m ∧ Rk M' (⟨true, b3, 0, [.bool r]⟩ :: ⟨true, b2, 0, [sv]⟩ :: (m ++ (⟨own, b, 0, codesV cs ++ sp⟩ :: F)))) Tb.k40 fun bs => ?_) ?_
  · refine (HCp.take (L := ⟨own, b, 0, codesV cs ++ sp⟩ :: ⟨true, b3, 0, [.bool false]⟩ :: ⟨true, b2, 0, [.slice none 0 0]⟩ :: ⟨true, b1, 0, [.slice (some ⟨b, 0, none⟩) cs.length cap]⟩ :: ⟨true, bs, 0, [.bool false]⟩ :: F) (by repeat (first | exact .rfl | exact .nil | (apply Rk.cons; (· exact TakeI.out)) | refine .drop ?_)) (pfin_c cs hG b1 b2 b3 own b cap sp _)).mono ?_
    rintro v M' ⟨r, out, sv, m, h1, h2, h3⟩
    refine ⟨_, .trans h3 ?_, r, out, sv, m, h1, h2, .rfl⟩
    exact .perm (List.Perm.trans (.cons _ (.cons _ (List.Perm.trans (List.Perm.append_left m (.trans (.swap _ _ _) .rfl)) List.perm_middle))) (List.Perm.trans (.cons _ (.swap _ _ _)) (.swap _ _ _)))
  rintro v M' ⟨rfl, r, out, sv, m, h1, h2, h3⟩
  refine O_weak h3 ?_
  have hone := own_one h2
  rcases h1 with ⟨hw, rfl, rfl⟩ | ⟨hw, rfl, rfl⟩
  · repeat' (first | (refine isO ?_; first | refine oo (Pc rfl) ?_ | refine oo (Pa rfl (by omega) (by omega)) ?_ | (refine ob rfl ?_ ?_ <;> intro hq <;> try (exfalso; omega)) | refine oo (Pi rfl (by omega)) ?_ | refine oo (Pl rfl) ?_ | refine oo (Px rfl rfl) ?_ | refine oo (Pj rfl (by omega) (by omega)) ?_ | refine oo (Pk rfl (by omega) (by omega)) ?_ | refine oo (Pf rfl) ?_ | refine oo (Pv rfl (by omega) (by omega)) ?_ | refine oo (Pn rfl) ?_ | refine oo (Pm rfl) ?_ | refine os rfl rfl ?_ | refine ot rfl (by omega) ?_ | refine O_nil ?_) | refine wo rfl ?_ | refine wc rfl ?_ | refine wg rfl ?_ | refine go rfl ?_ | refine gc rfl ?_ | refine gg rfl ?_)
    refine O_store0 Tb.c23 rfl rfl hone trivial (by first | exact .head | exact .tail .head | exact .tail (.tail .head) | exact .tail (.tail (.tail .head)) | exact .tail (.tail (.tail (.tail .head)))) ?_
    repeat' (first | (refine isO ?_; first | refine oo (Pc rfl) ?_ | refine oo (Pa rfl (by omega) (by omega)) ?_ | (refine ob rfl ?_ ?_ <;> intro hq <;> try (exfalso; omega)) | refine oo (Pi rfl (by omega)) ?_ | refine oo (Pl rfl) ?_ | refine oo (Px rfl rfl) ?_ | refine oo (Pj rfl (by omega) (by omega)) ?_ | refine oo (Pk rfl (by omega) (by omega)) ?_ | refine oo (Pf rfl) ?_ | refine oo (Pv rfl (by omega) (by omega)) ?_ | refine oo (Pn rfl) ?_ | refine oo (Pm rfl) ?_ | refine os rfl rfl ?_ | refine ot rfl (by omega) ?_ | refine O_nil ?_) | refine wo rfl ?_ | refine wc rfl ?_ | refine wg rfl ?_ | refine go rfl ?_ | refine gc rfl ?_ | refine gg rfl ?_)
    refine G_fin ⟨[sv, .bool true], ⟨⟨_, _, _, _, _, rfl, by exact TakeI.out.mem, Try.underlying23, rfl⟩, ⟨_, _, _, _, _, rfl, by exact TakeI.out.mem, Try.underlying4, rfl⟩, trivial⟩, .inl ⟨hw, sv, m, h2, rfl, .drop (.drop .rfl)⟩⟩
  · repeat' (first | (refine isO ?_; first | refine oo (Pc rfl) ?_ | refine oo (Pa rfl (by omega) (by omega)) ?_ | (refine ob rfl ?_ ?_ <;> intro hq <;> try (exfalso; omega)) | refine oo (Pi rfl (by omega)) ?_ | refine oo (Pl rfl) ?_ | refine oo (Px rfl rfl) ?_ | refine oo (Pj rfl (by omega) (by omega)) ?_ | refine oo (Pk rfl (by omega) (by omega)) ?_ | refine oo (Pf rfl) ?_ | refine oo (Pv rfl (by omega) (by omega)) ?_ | refine oo (Pn rfl) ?_ | refine oo (Pm rfl) ?_ | refine os rfl rfl ?_ | refine ot rfl (by omega) ?_ | refine O_nil ?_) | refine wo rfl ?_ | refine wc rfl ?_ | refine wg rfl ?_ | refine go rfl ?_ | refine gc rfl ?_ | refine gg rfl ?_)
    refine G_fin ⟨[.slice none 0 0, .bool false], ⟨⟨_, _, _, _, _, rfl, by exact TakeI.out.mem, Try.underlying23, rfl⟩, ⟨_, _, _, _, _, rfl, by exact TakeI.out.mem, Try.underlying4, rfl⟩, trivial⟩, .inr ⟨hw, rfl, .drop (.drop ?_)⟩⟩
    exact .trans (.perm List.perm_append_comm) (Rk.left _ _)
end Go.Proofs.Ytjkpfliaflmppaa.Pc

/- impl.safe carries a function out and tells that it did not panic: for every function that returns. impl.safe tells whether what it carries out panicked: for every function that returns or panics with an error. impl.Prefixes, walked: whole codes get canonical values, all others are an error. impl.Lengths, walked. For 2 to 60 codes with counts below 2^24, limits from 1 to 20. -/
import Derived.Test.YtjkpfliaflmppaaW9x01
import Derived.Test.YtjkpfliaflmppaaProg
import Derived.WalkKit
import Derived.Recover
import Derived.Laws.Pointers
import Derived.Test.YtjkpfliaflmppaaW9x12
import Derived.WalkSmall
import Derived.Test.YtjkpfliaflmppaaW9x16
import Derived.Test.YtjkpfliaflmppaaW9x14
import Derived.Test.YtjkpfliaflmppaaW9x10
import Derived.Test.YtjkpfliaflmppaaW9x15

namespace Go.Proofs.Ytjkpfliaflmppaa.Sf
open Go Go.RowKit Go.Proofs.Ytjkpfliaflmppaa.Vm

theorem catch_idle (p : Addr) (w : World) (hc : ∃ v, w.cell? p = some v) (hz : w.frozen? p = false) :
    CallsD Try.prog 89 #[.pointer (some p)] .returning w fun e u' w' => e = .returned (.tuple #[]) ∧ u' = .returning ∧ w' = w.setCell p (.bool true) := by
  obtain ⟨v, hc⟩ := hc
  refine callsD_of_wpS Try.func89 rfl fun c₀ cs hu => ?_
  apply wpS_region
  simp [wpOpsS, go_sem, recoverD, hu, Try.ntmps89, hc, hz]
  cases c₀
  simp_all [bodyPostS, results, Try.results89]

theorem safe_c {f : FuncId} {first captured : Array Value} {M : Mem} {R : Mem → Prop} (hf : Callable Try.prog f)
    (h : ∀ b, HC Try.prog f (first ++ captured) (⟨true, b, 0, [.bool false]⟩ :: M) (fun _ M' => ∃ M1, Rk M' (⟨true, b, 0, [.bool false]⟩ :: M1) ∧ R M1)) :
    HC Try.prog 39 #[.func (.func f) first captured] M (fun v M' => v = .bool true ∧ R M') := by
  constructor
  intro base w0 w hS
  have hmf : ∀ (fn : Fn) (first cap : Array Value) (w : World), (Instr.makeFunc fn first cap).run Try.prog w = .ok (.func fn first cap) w := fun _ _ _ _ => rfl
  have hcf : ∀ (w : World) (args : Array Value), (callFunc f args).run Try.prog w = .ok (.enter f args) w := fun w args => run_callFunc hf
  have hS1 := hS.alloc #[.bool false] 4
  have hc := (h w.heap.size).out base w0 _ hS1
  go_enter_defers Try.func39, Try.ntmps39
  go_wp2_with fail
  refine hc.mono ?_
  rintro e w' ⟨v, M', rfl, hS', M1, hrk, hR⟩
  have hSr := hS'.rk hrk
  have hcell : w'.cell? ⟨w.heap.size, 0, none⟩ = some (.bool false) := (hSr.seg _ (.head _)).cell (i := 0) rfl
  have hfree : w'.frozen? ⟨w.heap.size, 0, none⟩ = false := (hSr.seg _ (.head _)).free rfl (i := 0) (by simp)
  have hS2 : Sim false base w0 (w'.setCell ⟨w.heap.size, 0, none⟩ (.bool true)) (⟨true, w.heap.size, 0, [.bool true]⟩ :: M1) := hSr.set (s := ⟨true, w.heap.size, 0, [.bool false]⟩) (i := 0) rfl (by simp) .head
  have hc2 : (w'.setCell ⟨w.heap.size, 0, none⟩ (.bool true)).cell? ⟨w.heap.size, 0, none⟩ = some (.bool true) := (hS2.seg _ (.head _)).cell (i := 0) rfl
  have hf2 : (w'.setCell ⟨w.heap.size, 0, none⟩ (.bool true)).frozen? ⟨w.heap.size, 0, none⟩ = false := (hS2.seg _ (.head _)).free rfl (i := 0) (by simp)
  have hS3 : Sim false base w0 ((w'.setCell ⟨w.heap.size, 0, none⟩ (.bool true)).setCell ⟨w.heap.size, 0, none⟩ (.bool true)) (⟨true, w.heap.size, 0, [.bool true]⟩ :: M1) := hS2.set (s := ⟨true, w.heap.size, 0, [.bool true]⟩) (i := 0) rfl (by simp) .head
  have hS4 : Sim false base w0 _ M1 := hS3.drop
  have hc4 : ((w'.setCell ⟨w.heap.size, 0, none⟩ (.bool true)).setCell ⟨w.heap.size, 0, none⟩ (.bool true)).cell? ⟨w.heap.size, 0, none⟩ = some (.bool true) := (hS3.seg _ (.head _)).cell (i := 0) rfl
  clear hS' hS1 hS2 hS3 hSr hS hc h hmf
  go_wp2
  refine leaves_cons (f := 89) (args := #[.pointer (some ⟨w.heap.size, 0, none⟩)]) (by simp) (by simp [go_sem]) ?_
  refine (catch_idle ⟨w.heap.size, 0, none⟩ _ ⟨_, hc2⟩ hf2).mono ?_
  rintro e u' w'' ⟨rfl, rfl, rfl⟩
  refine ⟨.bool true, ?_, .bool true, M1, rfl, hS4, rfl, hR⟩
  simp [results, Try.results39, go_sem, hc4]
end Go.Proofs.Ytjkpfliaflmppaa.Sf

namespace Go.Proofs.Ytjkpfliaflmppaa.Sf
open Go Go.RowKit Go.Proofs.Ytjkpfliaflmppaa.Vm

theorem catch_pan (p : Addr) (t : TypeId) (x : Value) (w : World) (hc : ∃ v, w.cell? p = some v) (hz : w.frozen? p = false) :
    CallsD Try.prog 89 #[.pointer (some p)] (.panicking [{ v := .iface t x, recovered := false }]) w fun e u' w' => e = .returned (.tuple #[]) ∧ u' = .panicking [{ v := .iface t x, recovered := true }] ∧ w' = w.setCell p (.bool false) := by
  obtain ⟨v, hc⟩ := hc
  refine callsD_of_wpS Try.func89 rfl fun c₀ cs hu => ?_
  apply wpS_region
  simp [wpOpsS, go_sem, recoverD, hu, Try.ntmps89, hc, hz]
  cases c₀
  simp_all [bodyPostS, results, Try.results89]

theorem safe_x {f : FuncId} {first captured : Array Value} {M : Mem} {R X : Mem → Prop} (hf : Callable Try.prog f)
    (h : ∀ b, HX Try.prog f (first ++ captured) (⟨true, b, 0, [.bool false]⟩ :: M) (fun _ M' => ∃ M1, Rk M' (⟨true, b, 0, [.bool false]⟩ :: M1) ∧ R M1) (fun M' => ∃ M1, Rk M' (⟨true, b, 0, [.bool false]⟩ :: M1) ∧ X M1)) :
    HC Try.prog 39 #[.func (.func f) first captured] M (fun v M' => (v = .bool true ∧ R M') ∨ (v = .bool false ∧ X M')) := by
  constructor
  intro base w0 w hS
  have hmf : ∀ (fn : Fn) (first cap : Array Value) (w : World), (Instr.makeFunc fn first cap).run Try.prog w = .ok (.func fn first cap) w := fun _ _ _ _ => rfl
  have hcf : ∀ (w : World) (args : Array Value), (callFunc f args).run Try.prog w = .ok (.enter f args) w := fun w args => run_callFunc hf
  have hS1 := hS.alloc #[.bool false] 4
  have hc := (h w.heap.size).out base w0 _ hS1
  go_enter_defers Try.func39, Try.ntmps39
  go_wp2_with fail
  refine hc.mono ?_
  rintro e w' (⟨v, M', rfl, hS', M1, hrk, hR⟩ | ⟨t, x, M', rfl, hS', M1, hrk, hX⟩)
  · have hSr := hS'.rk hrk
    have hcell : w'.cell? ⟨w.heap.size, 0, none⟩ = some (.bool false) := (hSr.seg _ (.head _)).cell (i := 0) rfl
    have hfree : w'.frozen? ⟨w.heap.size, 0, none⟩ = false := (hSr.seg _ (.head _)).free rfl (i := 0) (by simp)
    have hS2 : Sim false base w0 (w'.setCell ⟨w.heap.size, 0, none⟩ (.bool true)) (⟨true, w.heap.size, 0, [.bool true]⟩ :: M1) := hSr.set (s := ⟨true, w.heap.size, 0, [.bool false]⟩) (i := 0) rfl (by simp) .head
    have hc2 : (w'.setCell ⟨w.heap.size, 0, none⟩ (.bool true)).cell? ⟨w.heap.size, 0, none⟩ = some (.bool true) := (hS2.seg _ (.head _)).cell (i := 0) rfl
    have hf2 : (w'.setCell ⟨w.heap.size, 0, none⟩ (.bool true)).frozen? ⟨w.heap.size, 0, none⟩ = false := (hS2.seg _ (.head _)).free rfl (i := 0) (by simp)
    have hS3 : Sim false base w0 ((w'.setCell ⟨w.heap.size, 0, none⟩ (.bool true)).setCell ⟨w.heap.size, 0, none⟩ (.bool true)) (⟨true, w.heap.size, 0, [.bool true]⟩ :: M1) := hS2.set (s := ⟨true, w.heap.size, 0, [.bool true]⟩) (i := 0) rfl (by simp) .head
    have hS4 : Sim false base w0 _ M1 := hS3.drop
    have hc4 : ((w'.setCell ⟨w.heap.size, 0, none⟩ (.bool true)).setCell ⟨w.heap.size, 0, none⟩ (.bool true)).cell? ⟨w.heap.size, 0, none⟩ = some (.bool true) := (hS3.seg _ (.head _)).cell (i := 0) rfl
    clear hS' hS1 hS2 hS3 hSr hS hc h hmf
    go_wp2
    refine leaves_cons (f := 89) (args := #[.pointer (some ⟨w.heap.size, 0, none⟩)]) (by simp) (by simp [go_sem]) ?_
    refine (catch_idle ⟨w.heap.size, 0, none⟩ _ ⟨_, hc2⟩ hf2).mono ?_
    rintro e u' w'' ⟨rfl, rfl, rfl⟩
    refine ⟨.bool true, ?_, .bool true, M1, rfl, hS4, .inl ⟨rfl, hR⟩⟩
    simp [results, Try.results39, go_sem, hc4]
  · have hSr := hS'.rk hrk
    have hcell : w'.cell? ⟨w.heap.size, 0, none⟩ = some (.bool false) := (hSr.seg _ (.head _)).cell (i := 0) rfl
    have hfree : w'.frozen? ⟨w.heap.size, 0, none⟩ = false := (hSr.seg _ (.head _)).free rfl (i := 0) (by simp)
    have hS2 : Sim false base w0 (w'.setCell ⟨w.heap.size, 0, none⟩ (.bool false)) (⟨true, w.heap.size, 0, [.bool false]⟩ :: M1) := hSr.set (s := ⟨true, w.heap.size, 0, [.bool false]⟩) (i := 0) rfl (by simp) .head
    have hS4 : Sim false base w0 _ M1 := hS2.drop
    have hc4 : (w'.setCell ⟨w.heap.size, 0, none⟩ (.bool false)).cell? ⟨w.heap.size, 0, none⟩ = some (.bool false) := (hS2.seg _ (.head _)).cell (i := 0) rfl
    clear hS' hS1 hS2 hSr hS hc h hmf
    go_wp2
    refine leaves_cons (f := 89) (args := #[.pointer (some ⟨w.heap.size, 0, none⟩)]) (by simp) (by simp [go_sem]) ?_
    refine (catch_pan ⟨w.heap.size, 0, none⟩ t x _ ⟨_, hcell⟩ hfree).mono ?_
    rintro e u' w'' ⟨rfl, rfl, rfl⟩
    refine ⟨.bool false, ?_, .bool false, M1, rfl, hS4, .inr ⟨rfl, hX⟩⟩
    simp [results, Try.results39, go_sem, hc4]
end Go.Proofs.Ytjkpfliaflmppaa.Sf

namespace Go.Proofs.Ytjkpfliaflmppaa.Pc
open Go Go.RowKit Go.Proofs.Ytjkpfliaflmppaa.Vm Go.Proofs.Ytjkpfliaflmppaa.Rev Go.Proofs.Ytjkpfliaflmppaa.Rv Go.Proofs.Ytjkpfliaflmppaa.Sf

theorem own_one {s : Value} {size : Nat} {xs : List Value} {m : Mem} (h : Own s size xs m) : s.oneCell' = true := by
  rcases h with ⟨rfl, _⟩ | ⟨b, len, cap, sp, rfl, _⟩ <;> rfl

/-- What comes of codes. -/
def Made (cs : List Cd) (r : Bool) (out : List Cd) : Prop := (whole cs ∧ r = true ∧ out = canon cs) ∨ (¬ whole cs ∧ r = false ∧ out = cs)

theorem pfin_c (cs : List Cd) (hG : Good cs) (b1 b2 b3 : Nat) (own : Bool) (b cap : Nat) (sp : List Value) (F : Mem) :
    HC Try.prog 40 #[.pointer (some ⟨b1, 0, none⟩), .pointer (some ⟨b3, 0, none⟩), .pointer (some ⟨b2, 0, none⟩)]
      (⟨own, b, 0, codesV cs ++ sp⟩ :: ⟨true, b3, 0, [.bool false]⟩ :: ⟨true, b2, 0, [.slice none 0 0]⟩ :: ⟨true, b1, 0, [.slice (some ⟨b, 0, none⟩) cs.length cap]⟩ :: F)
      (fun _ M' => ∃ r out sv m, Made cs r out ∧ Own sv 4 (codesV out) m ∧ Rk M' (⟨true, b3, 0, [.bool r]⟩ :: ⟨true, b2, 0, [sv]⟩ :: (m ++ (⟨own, b, 0, codesV cs ++ sp⟩ :: F)))) := by
  have h60 := hG.most
  refine HC_of_W (fn := Try.f40) Try.func40 rfl rfl rfl rfl ?_
  repeat' (first | (refine isO ?_; first | refine oo (Pc rfl) ?_ | refine oo (Pa rfl (by omega) (by omega)) ?_ | (refine ob rfl ?_ ?_ <;> intro hq <;> try (exfalso; omega)) | refine oo (Pi rfl (by omega)) ?_ | refine oo (Pl rfl) ?_ | refine oo (Px rfl rfl) ?_ | refine oo (Pj rfl (by omega) (by omega)) ?_ | refine oo (Pk rfl (by omega) (by omega)) ?_ | refine oo (Pf rfl) ?_ | refine oo (Pv rfl (by omega) (by omega)) ?_ | refine oo (Pn rfl) ?_ | refine oo (Pm rfl) ?_ | refine os rfl rfl ?_ | refine ot rfl (by omega) ?_ | refine O_nil ?_) | refine wo rfl ?_ | refine wc rfl ?_ | refine wg rfl ?_ | refine go rfl ?_ | refine gc rfl ?_ | refine gg rfl ?_)
  refine O_call rfl rfl Tb.k41 trivial rfl (codes_c cs own b cap sp _ (by omega)) ?_
  rintro v M' ⟨b', cap', sp', rfl, hcap', rfl⟩
  repeat' (first | (refine isO ?_; first | refine oo (Pc rfl) ?_ | refine oo (Pa rfl (by omega) (by omega)) ?_ | (refine ob rfl ?_ ?_ <;> intro hq <;> try (exfalso; omega)) | refine oo (Pi rfl (by omega)) ?_ | refine oo (Pl rfl) ?_ | refine oo (Px rfl rfl) ?_ | refine oo (Pj rfl (by omega) (by omega)) ?_ | refine oo (Pk rfl (by omega) (by omega)) ?_ | refine oo (Pf rfl) ?_ | refine oo (Pv rfl (by omega) (by omega)) ?_ | refine oo (Pn rfl) ?_ | refine oo (Pm rfl) ?_ | refine os rfl rfl ?_ | refine ot rfl (by omega) ?_ | refine O_nil ?_) | refine wo rfl ?_ | refine wc rfl ?_ | refine wg rfl ?_ | refine go rfl ?_ | refine gc rfl ?_ | refine gg rfl ?_)
  refine O_call rfl rfl Tb.k42 trivial rfl (gp_c cs hG b' cap' sp' _ hcap') ?_
  rintro v M' (⟨hw, rfl, hrk⟩ | ⟨hw, ⟨t, x, rfl⟩, hrk⟩)
  · refine O_weak hrk ?_
    refine O_pure (P_err_eq Tb.i82 rfl rfl) trivial rfl ?_
    repeat' (first | (refine isO ?_; first | refine oo (Pc rfl) ?_ | refine oo (Pa rfl (by omega) (by omega)) ?_ | (refine ob rfl ?_ ?_ <;> intro hq <;> try (exfalso; omega)) | refine oo (Pi rfl (by omega)) ?_ | refine oo (Pl rfl) ?_ | refine oo (Px rfl rfl) ?_ | refine oo (Pj rfl (by omega) (by omega)) ?_ | refine oo (Pk rfl (by omega) (by omega)) ?_ | refine oo (Pf rfl) ?_ | refine oo (Pv rfl (by omega) (by omega)) ?_ | refine oo (Pn rfl) ?_ | refine oo (Pm rfl) ?_ | refine os rfl rfl ?_ | refine ot rfl (by omega) ?_ | refine O_nil ?_) | refine wo rfl ?_ | refine wc rfl ?_ | refine wg rfl ?_ | refine go rfl ?_ | refine gc rfl ?_ | refine gg rfl ?_)
    have hcl : (canon cs).length = cs.length := canon_length cs
    have := uncodes_c (canon cs) true b' cap' sp' (⟨own, b, 0, codesV cs ++ sp⟩ :: ⟨true, b3, 0, [.bool true]⟩ :: ⟨true, b2, 0, [.slice none 0 0]⟩ :: ⟨true, b1, 0, [.slice (some ⟨b, 0, none⟩) cs.length cap]⟩ :: F) (by omega)
    rw [hcl] at this
    refine O_call rfl rfl Tb.k43 trivial rfl this ?_
    rintro v M' ⟨m, hown, hrk2⟩
    have hrk3 : Rk M' (⟨true, b3, 0, [.bool true]⟩ :: ⟨true, b2, 0, [.slice none 0 0]⟩ :: (m ++ (⟨own, b, 0, codesV cs ++ sp⟩ :: F))) := by
      refine .trans hrk2 (.drop (.trans (.perm (List.perm_append_comm)) ?_))
      refine .cons (s := ⟨true, b3, 0, [.bool true]⟩) (by exact TakeI.out) (.cons (s := ⟨true, b2, 0, [.slice none 0 0]⟩) (by exact TakeI.out) ?_)
      show Rk ((⟨own, b, 0, codesV cs ++ sp⟩ :: ⟨true, b1, 0, [.slice (some ⟨b, 0, none⟩) cs.length cap]⟩ :: F) ++ m) _
      exact .trans (.perm List.perm_append_comm) (Rk.app m (.cons .head (.drop .rfl)))
    refine O_weak hrk3 ?_
    have h1 := own_one hown
    repeat' (first | (refine isO ?_; first | refine oo (Pc rfl) ?_ | refine oo (Pa rfl (by omega) (by omega)) ?_ | (refine ob rfl ?_ ?_ <;> intro hq <;> try (exfalso; omega)) | refine oo (Pi rfl (by omega)) ?_ | refine oo (Pl rfl) ?_ | refine oo (Px rfl rfl) ?_ | refine oo (Pj rfl (by omega) (by omega)) ?_ | refine oo (Pk rfl (by omega) (by omega)) ?_ | refine oo (Pf rfl) ?_ | refine oo (Pv rfl (by omega) (by omega)) ?_ | refine oo (Pn rfl) ?_ | refine oo (Pm rfl) ?_ | refine os rfl rfl ?_ | refine ot rfl (by omega) ?_ | refine O_nil ?_) | refine wo rfl ?_ | refine wc rfl ?_ | refine wg rfl ?_ | refine go rfl ?_ | refine gc rfl ?_ | refine gg rfl ?_)
    refine O_store0 Tb.c23 rfl rfl h1 trivial (by first | exact .head | exact .tail .head | exact .tail (.tail .head) | exact .tail (.tail (.tail .head)) | exact .tail (.tail (.tail (.tail .head)))) ?_
    repeat' (first | (refine isO ?_; first | refine oo (Pc rfl) ?_ | refine oo (Pa rfl (by omega) (by omega)) ?_ | (refine ob rfl ?_ ?_ <;> intro hq <;> try (exfalso; omega)) | refine oo (Pi rfl (by omega)) ?_ | refine oo (Pl rfl) ?_ | refine oo (Px rfl rfl) ?_ | refine oo (Pj rfl (by omega) (by omega)) ?_ | refine oo (Pk rfl (by omega) (by omega)) ?_ | refine oo (Pf rfl) ?_ | refine oo (Pv rfl (by omega) (by omega)) ?_ | refine oo (Pn rfl) ?_ | refine oo (Pm rfl) ?_ | refine os rfl rfl ?_ | refine ot rfl (by omega) ?_ | refine O_nil ?_) | refine wo rfl ?_ | refine wc rfl ?_ | refine wg rfl ?_ | refine go rfl ?_ | refine gc rfl ?_ | refine gg rfl ?_)
    exact G_fin ⟨_, rfl, true, _, _, m, .inl ⟨hw, rfl, rfl⟩, hown, .rfl⟩
  · refine O_weak hrk ?_
    refine O_pure (P_err_eq Tb.i82 rfl rfl) trivial rfl ?_
    repeat' (first | (refine isO ?_; first | refine oo (Pc rfl) ?_ | refine oo (Pa rfl (by omega) (by omega)) ?_ | (refine ob rfl ?_ ?_ <;> intro hq <;> try (exfalso; omega)) | refine oo (Pi rfl (by omega)) ?_ | refine oo (Pl rfl) ?_ | refine oo (Px rfl rfl) ?_ | refine oo (Pj rfl (by omega) (by omega)) ?_ | refine oo (Pk rfl (by omega) (by omega)) ?_ | refine oo (Pf rfl) ?_ | refine oo (Pv rfl (by omega) (by omega)) ?_ | refine oo (Pn rfl) ?_ | refine oo (Pm rfl) ?_ | refine os rfl rfl ?_ | refine ot rfl (by omega) ?_ | refine O_nil ?_) | refine wo rfl ?_ | refine wc rfl ?_ | refine wg rfl ?_ | refine go rfl ?_ | refine gc rfl ?_ | refine gg rfl ?_)
    refine O_call rfl rfl Tb.k43 trivial rfl (uncodes_c cs true b' cap' sp' _ (by omega)) ?_
    rintro v M' ⟨m, hown, hrk2⟩
    have hrk3 : Rk M' (⟨true, b3, 0, [.bool false]⟩ :: ⟨true, b2, 0, [.slice none 0 0]⟩ :: (m ++ (⟨own, b, 0, codesV cs ++ sp⟩ :: F))) := by
      refine .trans hrk2 (.drop (.trans (.perm (List.perm_append_comm)) ?_))
      refine .cons (s := ⟨true, b3, 0, [.bool false]⟩) (by exact TakeI.out) (.cons (s := ⟨true, b2, 0, [.slice none 0 0]⟩) (by exact TakeI.out) ?_)
      show Rk ((⟨own, b, 0, codesV cs ++ sp⟩ :: ⟨true, b1, 0, [.slice (some ⟨b, 0, none⟩) cs.length cap]⟩ :: F) ++ m) _
      exact .trans (.perm List.perm_append_comm) (Rk.app m (.cons .head (.drop .rfl)))
    refine O_weak hrk3 ?_
    have h1 := own_one hown
    repeat' (first | (refine isO ?_; first | refine oo (Pc rfl) ?_ | refine oo (Pa rfl (by omega) (by omega)) ?_ | (refine ob rfl ?_ ?_ <;> intro hq <;> try (exfalso; omega)) | refine oo (Pi rfl (by omega)) ?_ | refine oo (Pl rfl) ?_ | refine oo (Px rfl rfl) ?_ | refine oo (Pj rfl (by omega) (by omega)) ?_ | refine oo (Pk rfl (by omega) (by omega)) ?_ | refine oo (Pf rfl) ?_ | refine oo (Pv rfl (by omega) (by omega)) ?_ | refine oo (Pn rfl) ?_ | refine oo (Pm rfl) ?_ | refine os rfl rfl ?_ | refine ot rfl (by omega) ?_ | refine O_nil ?_) | refine wo rfl ?_ | refine wc rfl ?_ | refine wg rfl ?_ | refine go rfl ?_ | refine gc rfl ?_ | refine gg rfl ?_)
    refine O_store0 Tb.c23 rfl rfl h1 trivial (by first | exact .head | exact .tail .head | exact .tail (.tail .head) | exact .tail (.tail (.tail .head)) | exact .tail (.tail (.tail (.tail .head)))) ?_
    repeat' (first | (refine isO ?_; first | refine oo (Pc rfl) ?_ | refine oo (Pa rfl (by omega) (by omega)) ?_ | (refine ob rfl ?_ ?_ <;> intro hq <;> try (exfalso; omega)) | refine oo (Pi rfl (by omega)) ?_ | refine oo (Pl rfl) ?_ | refine oo (Px rfl rfl) ?_ | refine oo (Pj rfl (by omega) (by omega)) ?_ | refine oo (Pk rfl (by omega) (by omega)) ?_ | refine oo (Pf rfl) ?_ | refine oo (Pv rfl (by omega) (by omega)) ?_ | refine oo (Pn rfl) ?_ | refine oo (Pm rfl) ?_ | refine os rfl rfl ?_ | refine ot rfl (by omega) ?_ | refine O_nil ?_) | refine wo rfl ?_ | refine wc rfl ?_ | refine wg rfl ?_ | refine go rfl ?_ | refine gc rfl ?_ | refine gg rfl ?_)
    exact G_fin ⟨_, rfl, false, _, _, m, .inr ⟨hw, rfl, rfl⟩, hown, .rfl⟩

theorem prefixes_c (cs : List Cd) (hG : Good cs) (own : Bool) (b cap : Nat) (sp : List Value) (F : Mem) :
    HC Try.prog 14 #[.slice (some ⟨b, 0, none⟩) cs.length cap] (⟨own, b, 0, codesV cs ++ sp⟩ :: F)
      (fun v M' => (whole cs ∧ ∃ sv m, Own sv 4 (codesV (canon cs)) m ∧ v = .tuple #[sv, .bool true] ∧ Rk M' (m ++ (⟨own, b, 0, codesV cs ++ sp⟩ :: F))) ∨
        (¬ whole cs ∧ v = .tuple #[.slice none 0 0, .bool false] ∧ Rk M' (⟨own, b, 0, codesV cs ++ sp⟩ :: F))) := by
  refine HC_of_WM (fn := Try.f14) Try.func14 rfl rfl rfl rfl ?_
  repeat' (first | (refine isO ?_; first | refine oo (Pc rfl) ?_ | refine oo (Pa rfl (by omega) (by omega)) ?_ | (refine ob rfl ?_ ?_ <;> intro hq <;> try (exfalso; omega)) | refine oo (Pi rfl (by omega)) ?_ | refine oo (Pl rfl) ?_ | refine oo (Px rfl rfl) ?_ | refine oo (Pj rfl (by omega) (by omega)) ?_ | refine oo (Pk rfl (by omega) (by omega)) ?_ | refine oo (Pf rfl) ?_ | refine oo (Pv rfl (by omega) (by omega)) ?_ | refine oo (Pn rfl) ?_ | refine oo (Pm rfl) ?_ | refine os rfl rfl ?_ | refine ot rfl (by omega) ?_ | refine O_nil ?_) | refine wo rfl ?_ | refine wc rfl ?_ | refine wg rfl ?_ | refine go rfl ?_ | refine gc rfl ?_ | refine gg rfl ?_)
  refine O_box rfl trivial rfl fun b1 => ?_
  refine O_alloc zero23 trivial rfl fun b2 => ?_
  refine O_alloc zero4 trivial rfl fun b3 => ?_
  repeat' (first | (refine isO ?_; first | refine oo (Pc rfl) ?_ | refine oo (Pa rfl (by omega) (by omega)) ?_ | (refine ob rfl ?_ ?_ <;> intro hq <;> try (exfalso; omega)) | refine oo (Pi rfl (by omega)) ?_ | refine oo (Pl rfl) ?_ | refine oo (Px rfl rfl) ?_ | refine oo (Pj rfl (by omega) (by omega)) ?_ | refine oo (Pk rfl (by omega) (by omega)) ?_ | refine oo (Pf rfl) ?_ | refine oo (Pv rfl (by omega) (by omega)) ?_ | refine oo (Pn rfl) ?_ | refine oo (Pm rfl) ?_ | refine os rfl rfl ?_ | refine ot rfl (by omega) ?_ | refine O_nil ?_) | refine wo rfl ?_ | refine wc rfl ?_ | refine wg rfl ?_ | refine go rfl ?_ | refine gc rfl ?_ | refine gg rfl ?_)
  refine O_call rfl rfl Tb.k39 trivial rfl (safe_c (f := 40) (R := fun M' => ∃ r out sv m, Made cs r out ∧ Own sv 4 (codesV out) m ∧ Rk M' (⟨true, b3, 0, [.bool r]⟩ :: ⟨true, b2, 0, [sv]⟩ :: (m ++ (⟨own, b, 0, codesV cs ++ sp⟩ :: F)))) Tb.k40 fun bs => ?_) ?_
  · refine (HCp.take (L := ⟨own, b, 0, codesV cs ++ sp⟩ :: ⟨true, b3, 0, [.bool false]⟩ :: ⟨true, b2, 0, [.slice none 0 0]⟩ :: ⟨true, b1, 0, [.slice (some ⟨b, 0, none⟩) cs.length cap]⟩ :: ⟨true, bs, 0, [.bool false]⟩ :: F) (by repeat (first | exact .rfl | exact .nil | (apply Rk.cons; (· exact TakeI.out)) | refine .drop ?_)) (pfin_c cs hG b1 b2 b3 own b cap sp _)).mono ?_
    rintro v M' ⟨r, out, sv, m, h1, h2, h3⟩
    refine ⟨_, .trans h3 ?_, r, out, sv, m, h1, h2, .rfl⟩
    exact .perm (List.Perm.trans (.cons _ (.cons _ (List.Perm.trans (List.Perm.append_left m (.trans (.swap _ _ _) .rfl)) List.perm_middle))) (List.Perm.trans (.cons _ (.swap _ _ _)) (.swap _ _ _)))
  rintro v M' ⟨rfl, r, out, sv, m, h1, h2, h3⟩
  refine O_weak h3 ?_
  have hone := own_one h2
  rcases h1 with ⟨hw, rfl, rfl⟩ | ⟨hw, rfl, rfl⟩
  · repeat' (first | (refine isO ?_; first | refine oo (Pc rfl) ?_ | refine oo (Pa rfl (by omega) (by omega)) ?_ | (refine ob rfl ?_ ?_ <;> intro hq <;> try (exfalso; omega)) | refine oo (Pi rfl (by omega)) ?_ | refine oo (Pl rfl) ?_ | refine oo (Px rfl rfl) ?_ | refine oo (Pj rfl (by omega) (by omega)) ?_ | refine oo (Pk rfl (by omega) (by omega)) ?_ | refine oo (Pf rfl) ?_ | refine oo (Pv rfl (by omega) (by omega)) ?_ | refine oo (Pn rfl) ?_ | refine oo (Pm rfl) ?_ | refine os rfl rfl ?_ | refine ot rfl (by omega) ?_ | refine O_nil ?_) | refine wo rfl ?_ | refine wc rfl ?_ | refine wg rfl ?_ | refine go rfl ?_ | refine gc rfl ?_ | refine gg rfl ?_)
    refine O_store0 Tb.c23 rfl rfl hone trivial (by first | exact .head | exact .tail .head | exact .tail (.tail .head) | exact .tail (.tail (.tail .head)) | exact .tail (.tail (.tail (.tail .head)))) ?_
    repeat' (first | (refine isO ?_; first | refine oo (Pc rfl) ?_ | refine oo (Pa rfl (by omega) (by omega)) ?_ | (refine ob rfl ?_ ?_ <;> intro hq <;> try (exfalso; omega)) | refine oo (Pi rfl (by omega)) ?_ | refine oo (Pl rfl) ?_ | refine oo (Px rfl rfl) ?_ | refine oo (Pj rfl (by omega) (by omega)) ?_ | refine oo (Pk rfl (by omega) (by omega)) ?_ | refine oo (Pf rfl) ?_ | refine oo (Pv rfl (by omega) (by omega)) ?_ | refine oo (Pn rfl) ?_ | refine oo (Pm rfl) ?_ | refine os rfl rfl ?_ | refine ot rfl (by omega) ?_ | refine O_nil ?_) | refine wo rfl ?_ | refine wc rfl ?_ | refine wg rfl ?_ | refine go rfl ?_ | refine gc rfl ?_ | refine gg rfl ?_)
    refine G_fin ⟨[sv, .bool true], ⟨⟨_, _, _, _, _, rfl, by exact TakeI.out.mem, Try.underlying23, rfl⟩, ⟨_, _, _, _, _, rfl, by exact TakeI.out.mem, Try.underlying4, rfl⟩, trivial⟩, .inl ⟨hw, sv, m, h2, rfl, .drop (.drop .rfl)⟩⟩
  · repeat' (first | (refine isO ?_; first | refine oo (Pc rfl) ?_ | refine oo (Pa rfl (by omega) (by omega)) ?_ | (refine ob rfl ?_ ?_ <;> intro hq <;> try (exfalso; omega)) | refine oo (Pi rfl (by omega)) ?_ | refine oo (Pl rfl) ?_ | refine oo (Px rfl rfl) ?_ | refine oo (Pj rfl (by omega) (by omega)) ?_ | refine oo (Pk rfl (by omega) (by omega)) ?_ | refine oo (Pf rfl) ?_ | refine oo (Pv rfl (by omega) (by omega)) ?_ | refine oo (Pn rfl) ?_ | refine oo (Pm rfl) ?_ | refine os rfl rfl ?_ | refine ot rfl (by omega) ?_ | refine O_nil ?_) | refine wo rfl ?_ | refine wc rfl ?_ | refine wg rfl ?_ | refine go rfl ?_ | refine gc rfl ?_ | refine gg rfl ?_)
    refine G_fin ⟨[.slice none 0 0, .bool false], ⟨⟨_, _, _, _, _, rfl, by exact TakeI.out.mem, Try.underlying23, rfl⟩, ⟨_, _, _, _, _, rfl, by exact TakeI.out.mem, Try.underlying4, rfl⟩, trivial⟩, .inr ⟨hw, rfl, .drop (.drop ?_)⟩⟩
    exact .trans (.perm List.perm_append_comm) (Rk.left _ _)
end Go.Proofs.Ytjkpfliaflmppaa.Pc

namespace Go.Proofs.Ytjkpfliaflmppaa.Hu
open Go Go.RowKit Go.Proofs.Ytjkpfliaflmppaa.Vm Go.Proofs.Ytjkpfliaflmppaa.Pc Go.Proofs.Ytjkpfliaflmppaa.Sf

/-- What comes of codes. -/
def Came (cs : List Cd) (mb : Nat) (r : Bool) (out : List Cd) : Prop := (r = true ∧ AscC (cs.map Cd.cnt) ∧ Lens (cs.map Cd.cnt) cs out mb) ∨ (r = false ∧ ¬ AscC (cs.map Cd.cnt) ∧ out = cs)
theorem len67_x (cs : List Cd) (mb : Nat) (hn : 2 ≤ cs.length) (h60 : cs.length ≤ 60) (hc : ∀ c ∈ cs, c.cnt < 16777216) (hmb1 : 1 ≤ mb) (hmb2 : mb ≤ 20) (b0 b1 b2 b3 : Nat) (own : Bool) (b cap : Nat) (sp : List Value) (F : Mem) :
    HX Try.prog 67 #[.pointer (some ⟨b0, 0, none⟩), .pointer (some ⟨b1, 0, none⟩), .pointer (some ⟨b3, 0, none⟩), .pointer (some ⟨b2, 0, none⟩)]
      (⟨own, b, 0, codesV cs ++ sp⟩ :: ⟨true, b3, 0, [.bool false]⟩ :: ⟨true, b2, 0, [.slice none 0 0]⟩ :: ⟨true, b0, 0, [.slice (some ⟨b, 0, none⟩) cs.length cap]⟩ :: ⟨true, b1, 0, [.int .u64 mb]⟩ :: F)
      (fun _ M' => ∃ r out sv m, Came cs mb r out ∧ Own sv 4 (codesV out) m ∧ Rk M' (⟨true, b3, 0, [.bool r]⟩ :: ⟨true, b2, 0, [sv]⟩ :: (m ++ (⟨own, b, 0, codesV cs ++ sp⟩ :: F))))
      (fun M' => AscC (cs.map Cd.cnt) ∧ 2 ^ mb < cs.length ∧ Rk M' (⟨own, b, 0, codesV cs ++ sp⟩ :: ⟨true, b3, 0, [.bool false]⟩ :: ⟨true, b2, 0, [.slice none 0 0]⟩ :: F)) := by
  refine HX_of_W (fn := Try.f67) Try.func67 rfl rfl rfl rfl ?_
  repeat' (first | (refine isO ?_; first | refine oo (Pc rfl) ?_ | refine oo (Pa rfl (by omega) (by omega)) ?_ | (refine ob rfl ?_ ?_ <;> intro hq <;> try (exfalso; omega)) | refine oo (Pi rfl (by omega)) ?_ | refine oo (Pl rfl) ?_ | refine oo (Px rfl rfl) ?_ | refine oo (Pj rfl (by omega) (by omega)) ?_ | refine oo (Pk rfl (by omega) (by omega)) ?_ | refine oo (Pf rfl) ?_ | refine oo (Pv rfl (by omega) (by omega)) ?_ | refine oo (Pn rfl) ?_ | refine oo (Pm rfl) ?_ | refine os rfl rfl ?_ | refine ot rfl (by omega) ?_ | refine O_nil ?_) | refine wo rfl ?_ | refine wc rfl ?_ | refine wg rfl ?_ | refine go rfl ?_ | refine gc rfl ?_ | refine gg rfl ?_)
  refine O_call rfl rfl Tb.k41 trivial rfl (codes_c cs own b cap sp _ (by omega)) ?_
  rintro v M' ⟨b', cap', sp', rfl, hcap', rfl⟩
  repeat' (first | (refine isO ?_; first | refine oo (Pc rfl) ?_ | refine oo (Pa rfl (by omega) (by omega)) ?_ | (refine ob rfl ?_ ?_ <;> intro hq <;> try (exfalso; omega)) | refine oo (Pi rfl (by omega)) ?_ | refine oo (Pl rfl) ?_ | refine oo (Px rfl rfl) ?_ | refine oo (Pj rfl (by omega) (by omega)) ?_ | refine oo (Pk rfl (by omega) (by omega)) ?_ | refine oo (Pf rfl) ?_ | refine oo (Pv rfl (by omega) (by omega)) ?_ | refine oo (Pn rfl) ?_ | refine oo (Pm rfl) ?_ | refine os rfl rfl ?_ | refine ot rfl (by omega) ?_ | refine O_nil ?_) | refine wo rfl ?_ | refine wc rfl ?_ | refine wg rfl ?_ | refine go rfl ?_ | refine gc rfl ?_ | refine gg rfl ?_)
  refine O_callX rfl rfl Tb.k68 trivial rfl (gen68_x cs b' cap' mb sp' _ hn h60 hc hmb1 hmb2 hcap') ?_ (fun t x M' ⟨h1, h2, h3⟩ => ⟨⟨t, x, rfl⟩, h1, h2, .trans h3 (.cons .head (.cons .head (.cons .head (.drop (.drop .rfl)))))⟩)
  rintro v M' (⟨rfl, ha, ds, hl, hrk⟩ | ⟨⟨t, x, rfl⟩, ha, hrk⟩)
  · refine O_weak hrk ?_
    refine O_pure (P_err_eq Tb.i82 rfl rfl) trivial rfl ?_
    repeat' (first | (refine isO ?_; first | refine oo (Pc rfl) ?_ | refine oo (Pa rfl (by omega) (by omega)) ?_ | (refine ob rfl ?_ ?_ <;> intro hq <;> try (exfalso; omega)) | refine oo (Pi rfl (by omega)) ?_ | refine oo (Pl rfl) ?_ | refine oo (Px rfl rfl) ?_ | refine oo (Pj rfl (by omega) (by omega)) ?_ | refine oo (Pk rfl (by omega) (by omega)) ?_ | refine oo (Pf rfl) ?_ | refine oo (Pv rfl (by omega) (by omega)) ?_ | refine oo (Pn rfl) ?_ | refine oo (Pm rfl) ?_ | refine os rfl rfl ?_ | refine ot rfl (by omega) ?_ | refine O_nil ?_) | refine wo rfl ?_ | refine wc rfl ?_ | refine wg rfl ?_ | refine go rfl ?_ | refine gc rfl ?_ | refine gg rfl ?_)
    have hcl : ds.length = cs.length := hl.same.1
    have := uncodes_c ds true b' cap' sp' (⟨own, b, 0, codesV cs ++ sp⟩ :: ⟨true, b3, 0, [.bool true]⟩ :: ⟨true, b2, 0, [.slice none 0 0]⟩ :: ⟨true, b0, 0, [.slice (some ⟨b, 0, none⟩) cs.length cap]⟩ :: ⟨true, b1, 0, [.int .u64 mb]⟩ :: F) (by omega)
    rw [hcl] at this
    refine O_call rfl rfl Tb.k43 trivial rfl this ?_
    rintro v M' ⟨m, hown, hrk2⟩
    have hrk3 : Rk M' (⟨true, b3, 0, [.bool true]⟩ :: ⟨true, b2, 0, [.slice none 0 0]⟩ :: (m ++ (⟨own, b, 0, codesV cs ++ sp⟩ :: F))) := by
      refine .trans hrk2 (.drop (.trans (.perm (List.perm_append_comm)) ?_))
      refine .cons (s := ⟨true, b3, 0, [.bool true]⟩) (by exact TakeI.out) (.cons (s := ⟨true, b2, 0, [.slice none 0 0]⟩) (by exact TakeI.out) ?_)
      show Rk ((⟨own, b, 0, codesV cs ++ sp⟩ :: ⟨true, b0, 0, [.slice (some ⟨b, 0, none⟩) cs.length cap]⟩ :: ⟨true, b1, 0, [.int .u64 mb]⟩ :: F) ++ m) _
      exact .trans (.perm List.perm_append_comm) (Rk.app m (.cons .head (.drop (.drop .rfl))))
    refine O_weak hrk3 ?_
    have h1 := own_one hown
    repeat' (first | (refine isO ?_; first | refine oo (Pc rfl) ?_ | refine oo (Pa rfl (by omega) (by omega)) ?_ | (refine ob rfl ?_ ?_ <;> intro hq <;> try (exfalso; omega)) | refine oo (Pi rfl (by omega)) ?_ | refine oo (Pl rfl) ?_ | refine oo (Px rfl rfl) ?_ | refine oo (Pj rfl (by omega) (by omega)) ?_ | refine oo (Pk rfl (by omega) (by omega)) ?_ | refine oo (Pf rfl) ?_ | refine oo (Pv rfl (by omega) (by omega)) ?_ | refine oo (Pn rfl) ?_ | refine oo (Pm rfl) ?_ | refine os rfl rfl ?_ | refine ot rfl (by omega) ?_ | refine O_nil ?_) | refine wo rfl ?_ | refine wc rfl ?_ | refine wg rfl ?_ | refine go rfl ?_ | refine gc rfl ?_ | refine gg rfl ?_)
    refine O_store0 Tb.c23 rfl rfl h1 trivial (by first | exact .head | exact .tail .head | exact .tail (.tail .head) | exact .tail (.tail (.tail .head)) | exact .tail (.tail (.tail (.tail .head)))) ?_
    repeat' (first | (refine isO ?_; first | refine oo (Pc rfl) ?_ | refine oo (Pa rfl (by omega) (by omega)) ?_ | (refine ob rfl ?_ ?_ <;> intro hq <;> try (exfalso; omega)) | refine oo (Pi rfl (by omega)) ?_ | refine oo (Pl rfl) ?_ | refine oo (Px rfl rfl) ?_ | refine oo (Pj rfl (by omega) (by omega)) ?_ | refine oo (Pk rfl (by omega) (by omega)) ?_ | refine oo (Pf rfl) ?_ | refine oo (Pv rfl (by omega) (by omega)) ?_ | refine oo (Pn rfl) ?_ | refine oo (Pm rfl) ?_ | refine os rfl rfl ?_ | refine ot rfl (by omega) ?_ | refine O_nil ?_) | refine wo rfl ?_ | refine wc rfl ?_ | refine wg rfl ?_ | refine go rfl ?_ | refine gc rfl ?_ | refine gg rfl ?_)
    exact G_fin ⟨_, rfl, true, _, _, m, .inl ⟨rfl, ha, hl⟩, hown, .rfl⟩
  · refine O_weak hrk ?_
    refine O_pure (P_err_eq Tb.i82 rfl rfl) trivial rfl ?_
    repeat' (first | (refine isO ?_; first | refine oo (Pc rfl) ?_ | refine oo (Pa rfl (by omega) (by omega)) ?_ | (refine ob rfl ?_ ?_ <;> intro hq <;> try (exfalso; omega)) | refine oo (Pi rfl (by omega)) ?_ | refine oo (Pl rfl) ?_ | refine oo (Px rfl rfl) ?_ | refine oo (Pj rfl (by omega) (by omega)) ?_ | refine oo (Pk rfl (by omega) (by omega)) ?_ | refine oo (Pf rfl) ?_ | refine oo (Pv rfl (by omega) (by omega)) ?_ | refine oo (Pn rfl) ?_ | refine oo (Pm rfl) ?_ | refine os rfl rfl ?_ | refine ot rfl (by omega) ?_ | refine O_nil ?_) | refine wo rfl ?_ | refine wc rfl ?_ | refine wg rfl ?_ | refine go rfl ?_ | refine gc rfl ?_ | refine gg rfl ?_)
    refine O_call rfl rfl Tb.k43 trivial rfl (uncodes_c cs true b' cap' sp' _ (by omega)) ?_
    rintro v M' ⟨m, hown, hrk2⟩
    have hrk3 : Rk M' (⟨true, b3, 0, [.bool false]⟩ :: ⟨true, b2, 0, [.slice none 0 0]⟩ :: (m ++ (⟨own, b, 0, codesV cs ++ sp⟩ :: F))) := by
      refine .trans hrk2 (.drop (.trans (.perm (List.perm_append_comm)) ?_))
      refine .cons (s := ⟨true, b3, 0, [.bool false]⟩) (by exact TakeI.out) (.cons (s := ⟨true, b2, 0, [.slice none 0 0]⟩) (by exact TakeI.out) ?_)
      show Rk ((⟨own, b, 0, codesV cs ++ sp⟩ :: ⟨true, b0, 0, [.slice (some ⟨b, 0, none⟩) cs.length cap]⟩ :: ⟨true, b1, 0, [.int .u64 mb]⟩ :: F) ++ m) _
      exact .trans (.perm List.perm_append_comm) (Rk.app m (.cons .head (.drop (.drop .rfl))))
    refine O_weak hrk3 ?_
    have h1 := own_one hown
    repeat' (first | (refine isO ?_; first | refine oo (Pc rfl) ?_ | refine oo (Pa rfl (by omega) (by omega)) ?_ | (refine ob rfl ?_ ?_ <;> intro hq <;> try (exfalso; omega)) | refine oo (Pi rfl (by omega)) ?_ | refine oo (Pl rfl) ?_ | refine oo (Px rfl rfl) ?_ | refine oo (Pj rfl (by omega) (by omega)) ?_ | refine oo (Pk rfl (by omega) (by omega)) ?_ | refine oo (Pf rfl) ?_ | refine oo (Pv rfl (by omega) (by omega)) ?_ | refine oo (Pn rfl) ?_ | refine oo (Pm rfl) ?_ | refine os rfl rfl ?_ | refine ot rfl (by omega) ?_ | refine O_nil ?_) | refine wo rfl ?_ | refine wc rfl ?_ | refine wg rfl ?_ | refine go rfl ?_ | refine gc rfl ?_ | refine gg rfl ?_)
    refine O_store0 Tb.c23 rfl rfl h1 trivial (by first | exact .head | exact .tail .head | exact .tail (.tail .head) | exact .tail (.tail (.tail .head)) | exact .tail (.tail (.tail (.tail .head)))) ?_
    repeat' (first | (refine isO ?_; first | refine oo (Pc rfl) ?_ | refine oo (Pa rfl (by omega) (by omega)) ?_ | (refine ob rfl ?_ ?_ <;> intro hq <;> try (exfalso; omega)) | refine oo (Pi rfl (by omega)) ?_ | refine oo (Pl rfl) ?_ | refine oo (Px rfl rfl) ?_ | refine oo (Pj rfl (by omega) (by omega)) ?_ | refine oo (Pk rfl (by omega) (by omega)) ?_ | refine oo (Pf rfl) ?_ | refine oo (Pv rfl (by omega) (by omega)) ?_ | refine oo (Pn rfl) ?_ | refine oo (Pm rfl) ?_ | refine os rfl rfl ?_ | refine ot rfl (by omega) ?_ | refine O_nil ?_) | refine wo rfl ?_ | refine wc rfl ?_ | refine wg rfl ?_ | refine go rfl ?_ | refine gc rfl ?_ | refine gg rfl ?_)
    exact G_fin ⟨_, rfl, false, _, _, m, .inr ⟨rfl, ha, rfl⟩, hown, .rfl⟩

theorem lengths27_c (cs : List Cd) (mb : Nat) (hn : 2 ≤ cs.length) (h60 : cs.length ≤ 60) (hc : ∀ c ∈ cs, c.cnt < 16777216) (hmb1 : 1 ≤ mb) (hmb2 : mb ≤ 20) (own : Bool) (b cap : Nat) (sp : List Value) (F : Mem) :
    HC Try.prog 27 #[.slice (some ⟨b, 0, none⟩) cs.length cap, .int .u64 mb] (⟨own, b, 0, codesV cs ++ sp⟩ :: F)
      (fun v M' => (AscC (cs.map Cd.cnt) ∧ ∃ out sv m, Lens (cs.map Cd.cnt) cs out mb ∧ Own sv 4 (codesV out) m ∧ v = .tuple #[sv, .bool true] ∧ Rk M' (m ++ (⟨own, b, 0, codesV cs ++ sp⟩ :: F))) ∨
        ((¬ AscC (cs.map Cd.cnt) ∨ 2 ^ mb < cs.length) ∧ v = .tuple #[.slice none 0 0, .bool false] ∧ Rk M' (⟨own, b, 0, codesV cs ++ sp⟩ :: F))) := by
  refine HC_of_WM (fn := Try.f27) Try.func27 rfl rfl rfl rfl ?_
  repeat' (first | (refine isO ?_; first | refine oo (Pc rfl) ?_ | refine oo (Pa rfl (by omega) (by omega)) ?_ | (refine ob rfl ?_ ?_ <;> intro hq <;> try (exfalso; omega)) | refine oo (Pi rfl (by omega)) ?_ | refine oo (Pl rfl) ?_ | refine oo (Px rfl rfl) ?_ | refine oo (Pj rfl (by omega) (by omega)) ?_ | refine oo (Pk rfl (by omega) (by omega)) ?_ | refine oo (Pf rfl) ?_ | refine oo (Pv rfl (by omega) (by omega)) ?_ | refine oo (Pn rfl) ?_ | refine oo (Pm rfl) ?_ | refine os rfl rfl ?_ | refine ot rfl (by omega) ?_ | refine O_nil ?_) | refine wo rfl ?_ | refine wc rfl ?_ | refine wg rfl ?_ | refine go rfl ?_ | refine gc rfl ?_ | refine gg rfl ?_)
  refine O_box rfl trivial rfl fun b0 => ?_
  refine O_box rfl trivial rfl fun b1 => ?_
  refine O_alloc zero23 trivial rfl fun b2 => ?_
  refine O_alloc zero4 trivial rfl fun b3 => ?_
  repeat' (first | (refine isO ?_; first | refine oo (Pc rfl) ?_ | refine oo (Pa rfl (by omega) (by omega)) ?_ | (refine ob rfl ?_ ?_ <;> intro hq <;> try (exfalso; omega)) | refine oo (Pi rfl (by omega)) ?_ | refine oo (Pl rfl) ?_ | refine oo (Px rfl rfl) ?_ | refine oo (Pj rfl (by omega) (by omega)) ?_ | refine oo (Pk rfl (by omega) (by omega)) ?_ | refine oo (Pf rfl) ?_ | refine oo (Pv rfl (by omega) (by omega)) ?_ | refine oo (Pn rfl) ?_ | refine oo (Pm rfl) ?_ | refine os rfl rfl ?_ | refine ot rfl (by omega) ?_ | refine O_nil ?_) | refine wo rfl ?_ | refine wc rfl ?_ | refine wg rfl ?_ | refine go rfl ?_ | refine gc rfl ?_ | refine gg rfl ?_)
  refine O_call rfl rfl Tb.k39 trivial rfl (safe_x (f := 67) (R := fun M' => ∃ r out sv m, Came cs mb r out ∧ Own sv 4 (codesV out) m ∧ Rk M' (⟨true, b3, 0, [.bool r]⟩ :: ⟨true, b2, 0, [sv]⟩ :: (m ++ (⟨own, b, 0, codesV cs ++ sp⟩ :: F))))
    (X := fun M' => 2 ^ mb < cs.length ∧ Rk M' (⟨true, b3, 0, [.bool false]⟩ :: ⟨true, b2, 0, [.slice none 0 0]⟩ :: ⟨own, b, 0, codesV cs ++ sp⟩ :: F)) Tb.k67 fun bs => ?_) ?_
  · refine (HX.take (L := ⟨own, b, 0, codesV cs ++ sp⟩ :: ⟨true, b3, 0, [.bool false]⟩ :: ⟨true, b2, 0, [.slice none 0 0]⟩ :: ⟨true, b0, 0, [.slice (some ⟨b, 0, none⟩) cs.length cap]⟩ :: ⟨true, b1, 0, [.int .u64 mb]⟩ :: ⟨true, bs, 0, [.bool false]⟩ :: F) (by repeat (first | exact .rfl | exact .nil | (apply Rk.cons; (· exact TakeI.out)) | refine .drop ?_)) (len67_x cs mb hn h60 hc hmb1 hmb2 b0 b1 b2 b3 own b cap sp _)).mono ?_ ?_
    · rintro v M' ⟨r, out, sv, m, h1, h2, h3⟩
      refine ⟨_, .trans h3 ?_, r, out, sv, m, h1, h2, .rfl⟩
      exact .perm (List.Perm.trans (.cons _ (.cons _ (List.Perm.trans (List.Perm.append_left m (.trans (.swap _ _ _) .rfl)) List.perm_middle))) (List.Perm.trans (.cons _ (.swap _ _ _)) (.swap _ _ _)))
    · rintro M' ⟨_, h2, h3⟩
      exact ⟨_, .trans h3 (.cons (.tail (.tail (.tail .head))) .rfl), h2, .cons (.tail .head) (.cons (.tail .head) .rfl)⟩
  rintro v M' (⟨rfl, r, out, sv, m, h1, h2, h3⟩ | ⟨rfl, h1, h3⟩)
  · refine O_weak h3 ?_
    have hone := own_one h2
    rcases h1 with ⟨rfl, ha, hl⟩ | ⟨rfl, ha, rfl⟩
    · repeat' (first | (refine isO ?_; first | refine oo (Pc rfl) ?_ | refine oo (Pa rfl (by omega) (by omega)) ?_ | (refine ob rfl ?_ ?_ <;> intro hq <;> try (exfalso; omega)) | refine oo (Pi rfl (by omega)) ?_ | refine oo (Pl rfl) ?_ | refine oo (Px rfl rfl) ?_ | refine oo (Pj rfl (by omega) (by omega)) ?_ | refine oo (Pk rfl (by omega) (by omega)) ?_ | refine oo (Pf rfl) ?_ | refine oo (Pv rfl (by omega) (by omega)) ?_ | refine oo (Pn rfl) ?_ | refine oo (Pm rfl) ?_ | refine os rfl rfl ?_ | refine ot rfl (by omega) ?_ | refine O_nil ?_) | refine wo rfl ?_ | refine wc rfl ?_ | refine wg rfl ?_ | refine go rfl ?_ | refine gc rfl ?_ | refine gg rfl ?_)
      refine O_store0 Tb.c23 rfl rfl hone trivial (by first | exact .head | exact .tail .head | exact .tail (.tail .head) | exact .tail (.tail (.tail .head)) | exact .tail (.tail (.tail (.tail .head)))) ?_
      repeat' (first | (refine isO ?_; first | refine oo (Pc rfl) ?_ | refine oo (Pa rfl (by omega) (by omega)) ?_ | (refine ob rfl ?_ ?_ <;> intro hq <;> try (exfalso; omega)) | refine oo (Pi rfl (by omega)) ?_ | refine oo (Pl rfl) ?_ | refine oo (Px rfl rfl) ?_ | refine oo (Pj rfl (by omega) (by omega)) ?_ | refine oo (Pk rfl (by omega) (by omega)) ?_ | refine oo (Pf rfl) ?_ | refine oo (Pv rfl (by omega) (by omega)) ?_ | refine oo (Pn rfl) ?_ | refine oo (Pm rfl) ?_ | refine os rfl rfl ?_ | refine ot rfl (by omega) ?_ | refine O_nil ?_) | refine wo rfl ?_ | refine wc rfl ?_ | refine wg rfl ?_ | refine go rfl ?_ | refine gc rfl ?_ | refine gg rfl ?_)
      refine G_fin ⟨[sv, .bool true], ⟨⟨_, _, _, _, _, rfl, by exact TakeI.out.mem, Try.underlying23, rfl⟩, ⟨_, _, _, _, _, rfl, by exact TakeI.out.mem, Try.underlying4, rfl⟩, trivial⟩, .inl ⟨ha, out, sv, m, hl, h2, rfl, .drop (.drop .rfl)⟩⟩
    · repeat' (first | (refine isO ?_; first | refine oo (Pc rfl) ?_ | refine oo (Pa rfl (by omega) (by omega)) ?_ | (refine ob rfl ?_ ?_ <;> intro hq <;> try (exfalso; omega)) | refine oo (Pi rfl (by omega)) ?_ | refine oo (Pl rfl) ?_ | refine oo (Px rfl rfl) ?_ | refine oo (Pj rfl (by omega) (by omega)) ?_ | refine oo (Pk rfl (by omega) (by omega)) ?_ | refine oo (Pf rfl) ?_ | refine oo (Pv rfl (by omega) (by omega)) ?_ | refine oo (Pn rfl) ?_ | refine oo (Pm rfl) ?_ | refine os rfl rfl ?_ | refine ot rfl (by omega) ?_ | refine O_nil ?_) | refine wo rfl ?_ | refine wc rfl ?_ | refine wg rfl ?_ | refine go rfl ?_ | refine gc rfl ?_ | refine gg rfl ?_)
      refine G_fin ⟨[.slice none 0 0, .bool false], ⟨⟨_, _, _, _, _, rfl, by exact TakeI.out.mem, Try.underlying23, rfl⟩, ⟨_, _, _, _, _, rfl, by exact TakeI.out.mem, Try.underlying4, rfl⟩, trivial⟩, .inr ⟨.inl ha, rfl, .drop (.drop ?_)⟩⟩
      exact .trans (.perm List.perm_append_comm) (Rk.left _ _)
  · refine O_weak h3 ?_
    repeat' (first | (refine isO ?_; first | refine oo (Pc rfl) ?_ | refine oo (Pa rfl (by omega) (by omega)) ?_ | (refine ob rfl ?_ ?_ <;> intro hq <;> try (exfalso; omega)) | refine oo (Pi rfl (by omega)) ?_ | refine oo (Pl rfl) ?_ | refine oo (Px rfl rfl) ?_ | refine oo (Pj rfl (by omega) (by omega)) ?_ | refine oo (Pk rfl (by omega) (by omega)) ?_ | refine oo (Pf rfl) ?_ | refine oo (Pv rfl (by omega) (by omega)) ?_ | refine oo (Pn rfl) ?_ | refine oo (Pm rfl) ?_ | refine os rfl rfl ?_ | refine ot rfl (by omega) ?_ | refine O_nil ?_) | refine wo rfl ?_ | refine wc rfl ?_ | refine wg rfl ?_ | refine go rfl ?_ | refine gc rfl ?_ | refine gg rfl ?_)
    exact G_fin ⟨[.slice none 0 0, .bool false], ⟨⟨_, _, _, _, _, rfl, by exact TakeI.out.mem, Try.underlying23, rfl⟩, ⟨_, _, _, _, _, rfl, by exact TakeI.out.mem, Try.underlying4, rfl⟩, trivial⟩, .inr ⟨.inr h1, rfl, .drop (.drop .rfl)⟩⟩
/-- Lengths up to a limit: no more codes than fit. -/
theorem Lens.fits {c : List Nat} {cs ds : List Cd} {mb : Nat} (h : Lens c cs ds mb) (hmb : mb ≤ 64) : cs.length ≤ 2 ^ mb := by
  have key : ∀ n, n ≤ cs.length → n * 2 ^ (64 - mb) ≤ sm (fun x => 2 ^ (64 - lenOf ds x)) 0 n := by
    intro n
    induction n with
    | zero => intro _; rw [Nat.zero_mul]; exact Nat.zero_le _
    | succ n ih =>
      intro hn
      have := ih (by omega)
      rw [sm_last (Nat.zero_le n), Nat.add_mul, Nat.one_mul]
      have h2 := (h.pos n (by omega)).2
      have := Nat.pow_le_pow_right (show 0 < 2 by omega) (show 64 - mb ≤ 64 - lenOf ds n by omega)
      omega
  have h1 := key _ (Nat.le_refl _)
  rw [h.kra, show 64 = mb + (64 - mb) by omega, Nat.pow_add, show mb + (64 - mb) - mb = 64 - mb by omega] at h1
  exact Nat.le_of_mul_le_mul_right h1 (Nat.two_pow_pos _)
end Go.Proofs.Ytjkpfliaflmppaa.Hu

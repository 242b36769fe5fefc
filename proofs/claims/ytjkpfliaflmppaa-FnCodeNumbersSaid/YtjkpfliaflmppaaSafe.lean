/- impl.safe carries a function out and tells that it did not panic: for every function that returns. -/
import Derived.Test.YtjkpfliaflmppaaVm3
import Derived.Test.YtjkpfliaflmppaaProg
import Derived.WalkKit
import Derived.Recover
import Derived.Laws.Pointers
namespace Go.Proofs.Ytjkpfliaflmppaa.Sf
open Go Go.RowKit Go.Proofs.Ytjkpfliaflmppaa.Vm

theorem catch_idle (p : Addr) (w : World) (hc : ∃ v, w.cell? p = some v) (hz : w.frozen? p = false) :
    CallsD Try.prog 89 #[.pointer (some p)] .returning w fun e u' w' => e = .returned (.tuple #[]) ∧ u' = .returning ∧ w' = w.setCell p (.bool true) := by
  obtain ⟨v, hc⟩ := hc
  refine callsD_of_wpS Try.func89 rfl fun c₀ cs hu => ?_
  apply wpS_region
  simp [wpOpsS, go_sem, recoverD, hu, Try.ntmps89, hc, hz]
  cases c₀
  simp_all [bodyPostS, results, Try.results89]

theorem safe_c {f : FuncId} {first captured : Array Value} {M : Mem} {R : Mem → Prop} (hf : Callable Try.prog f)
    (h : ∀ b, HC Try.prog f (first ++ captured) (⟨true, b, 0, [.bool false]⟩ :: M) (fun _ M' => ∃ M1, Rk M' (⟨true, b, 0, [.bool false]⟩ :: M1) ∧ R M1)) :
    HC Try.prog 39 #[.func (.func f) first captured] M (fun v M' => v = .bool true ∧ R M') := by
  constructor
  intro base w0 w hS
  have hmf : ∀ (fn : Fn) (first cap : Array Value) (w : World), (Instr.makeFunc fn first cap).run Try.prog w = .ok (.func fn first cap) w := fun _ _ _ _ => rfl
  have hcf : ∀ (w : World) (args : Array Value), (callFunc f args).run Try.prog w = .ok (.enter f args) w := fun w args => run_callFunc hf
  have hS1 := hS.alloc #[.bool false] 4
  have hc := (h w.heap.size).out base w0 _ hS1
  go_enter_defers Try.func39, Try.ntmps39
  go_wp2_with fail
  refine hc.mono ?_
  rintro e w' ⟨v, M', rfl, hS', M1, hrk, hR⟩
  have hSr := hS'.rk hrk
  have hcell : w'.cell? ⟨w.heap.size, 0, none⟩ = some (.bool false) := (hSr.seg _ (.head _)).cell (i := 0) rfl
  have hfree : w'.frozen? ⟨w.heap.size, 0, none⟩ = false := (hSr.seg _ (.head _)).free rfl (i := 0) (by simp)
  have hS2 : Sim false base w0 (w'.setCell ⟨w.heap.size, 0, none⟩ (.bool true)) (⟨true, w.heap.size, 0, [.bool true]⟩ :: M1) := hSr.set (s := ⟨true, w.heap.size, 0, [.bool false]⟩) (i := 0) rfl (by simp) .head
  have hc2 : (w'.setCell ⟨w.heap.size, 0, none⟩ (.bool true)).cell? ⟨w.heap.size, 0, none⟩ = some (.bool true) := (hS2.seg _ (.head _)).cell (i := 0) rfl
  have hf2 : (w'.setCell ⟨w.heap.size, 0, none⟩ (.bool true)).frozen? ⟨w.heap.size, 0, none⟩ = false := (hS2.seg _ (.head _)).free rfl (i := 0) (by simp)
  have hS3 : Sim false base w0 ((w'.setCell ⟨w.heap.size, 0, none⟩ (.bool true)).setCell ⟨w.heap.size, 0, none⟩ (.bool true)) (⟨true, w.heap.size, 0, [.bool true]⟩ :: M1) := hS2.set (s := ⟨true, w.heap.size, 0, [.bool true]⟩) (i := 0) rfl (by simp) .head
  have hS4 : Sim false base w0 _ M1 := hS3.drop
  have hc4 : ((w'.setCell ⟨w.heap.size, 0, none⟩ (.bool true)).setCell ⟨w.heap.size, 0, none⟩ (.bool true)).cell? ⟨w.heap.size, 0, none⟩ = some (.bool true) := (hS3.seg _ (.head _)).cell (i := 0) rfl
  clear hS' hS1 hS2 hS3 hSr hS hc h hmf
  go_wp2
  refine leaves_cons (f := 89) (args := #[.pointer (some ⟨w.heap.size, 0, none⟩)]) (by simp) (by simp [go_sem]) ?_
  refine (catch_idle ⟨w.heap.size, 0, none⟩ _ ⟨_, hc2⟩ hf2).mono ?_
  rintro e u' w'' ⟨rfl, rfl, rfl⟩
  refine ⟨.bool true, ?_, .bool true, M1, rfl, hS4, rfl, hR⟩
  simp [results, Try.results39, go_sem, hc4]
end Go.Proofs.Ytjkpfliaflmppaa.Sf

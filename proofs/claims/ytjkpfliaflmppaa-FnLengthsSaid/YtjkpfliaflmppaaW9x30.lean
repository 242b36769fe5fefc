/- FnLengths holds: lengths fill all, the more often a symbol is used the less is its length, and no lengths up to the limit cost less where the tree is not too deep; for all arguments. -/
import Derived.Test.YtjkpfliaflmppaaW9x28
import Derived.Test.YtjkpfliaflmppaaW9x29
import Derived.Test.YtjkpfliaflmppaaRows
import Derived.WalkKit
import Derived.ProofKit
import Derived.OpenShut
import Derived.Carry
import Derived.JoinedCond

namespace Go.Proofs.Ytjkpfliaflmppaa.fnLengths
open Go.ChangeShapes Go.WideShapes Go.ChangeAt Go.RowKit Go.Proofs.Ytjkpfliaflmppaa.Vm Go.Proofs.Ytjkpfliaflmppaa.Pc Go.Proofs.Ytjkpfliaflmppaa.Hu Go.Proofs.Ytjkpfliaflmppaa.Sh
set_option linter.unusedVariables false

set_option maxRecDepth 100000 in
theorem contract (H : Type) (enc : TypeId × Value → H) (W : World) (base : Nat) (args : Array Value) (ds gs : List (DataW H)) (before : List MemPlace)
    (hval : ∀ (j : Nat) t v, Try.f9.params[j]? = some t → args[j]? = some v → Value.okWide Try.prog W .any base t v)
    (hW : DataW.Whole enc Try.prog Try.f9.params.toList Rows.fnLengthsSpec.vars false W args.toList ds gs before) :
    Calls Try.prog 9 args W fun e W' => ∃ v, e = .returned v ∧ Rows.fnLengthsSpec.post enc Try.prog Try.f9 false true false false W args v W' := by
  have hW' := hW
  obtain ⟨p, q, hA0, hV, rfl, hfz, hnd⟩ := hW
  have hA : DataW.TrodAll enc Try.prog W 0 (fun _ => true) true Try.f9.params.toList args.toList ds p := hA0
  rw [Try.params9] at hA hval
  obtain ⟨v0, vs0, d0, ds0, p0, q0, hargs, rfl, rfl, h0, r0⟩ := trodAll_cons hA
  obtain ⟨v1, vs1, d1, ds1, p1, q1, rfl, rfl, rfl, h1, r1⟩ := trodAll_cons r0
  obtain ⟨rfl, rfl, rfl⟩ := trodAll_nil r1
  obtain rfl : args = #[v0, v1] := by cases args; simp_all
  obtain ⟨rfl, rfl⟩ := trodVars_none hV
  obtain ⟨b0, n0, k0, rfl⟩ := okWide_slice Try.underlying46 (hval 0 46 v0 rfl rfl)
  obtain ⟨a1, rfl, rfl, rfl, w1⟩ := open_int Try.underlying5 (hval 1 5 v1 rfl rfl) h1
  obtain ⟨xs, m0, hb0, hm0⟩ := words_open h0
  clear hA0
  simp only [List.append_nil] at hW'
  have hx : 0 ≤ a1 ∧ a1 ≤ 255 := by simpa [Lit.wf, IntKind.min, IntKind.max, IntKind.signed, IntKind.bits] using w1
  obtain ⟨n, rfl⟩ : ∃ n : Nat, a1 = n := ⟨a1.toNat, by omega⟩
  have hS : Sim false W.heap.size W W m0 := by
    refine ⟨Below.refl _ _, Nat.le_refl _, fun s hs => (hm0 s hs).2, ?_, fun h => by cases h⟩
    exact List.pairwise_of_forall_mem_list fun s hs t ht => .inl ⟨(hm0 s hs).1, (hm0 t ht).1⟩
  refine ((law9_c _ xs n m0 hb0 (by omega)).out W.heap.size W W hS).mono ?_
  rintro e W' ⟨v, M', rfl, hS', rfl, _⟩
  have hB := hS'.bel
  have hlt := hW'.lt
  have t0 : DataW.Trod enc Try.prog W' 0 (fun b => decide (b < W.heap.size)) true 46 (.slice b0 n0 k0) d0 p0 := Below.trod laid (by kernel_rfl) (of_decide_eq_true (by kernel_rfl)) h0 hB (fun x hx => hlt x (by simp [hx]))
  exact ⟨_, rfl, _, _, _, [], _, [], hW', trodAll_cons_mk (shut_bool Try.underlying4 _) trodAll_mk0, trodAll_cons_mk t0 (trodAll_cons_mk (shut_int Try.underlying5 w1) trodAll_mk0), rfl, hB.frame _, fun h => by cases h⟩
set_option maxRecDepth 100000 in
theorem lifted (os : Os) (started : os.Started) (H : Type) (enc : TypeId × Value → H) :
    ReturnsInHanded {} Try.checked os 9 .any (Rows.fnLengthsSpec.pre6 enc Try.prog Try.f9 Rows.fnLengthsRow.domain false) (Rows.fnLengthsSpec.post enc Try.prog Try.f9 false true false false) := by
  refine returnsInHanded_of_change (C := Try.checked) own started (by kernel_rfl) Try.func9
    (ChangeSpec.witness6 (enc := enc) (C := Try.checked) false ⟨#[], #[.slice none 0 0, .int .u8 0], []⟩ 8 (by kernel_rfl) (by kernel_rfl) (by kernel_rfl) (by kernel_rfl)) ?_
  intro W base args ds gs before hval hW _ _
  exact contract H enc W base args ds gs before hval hW

theorem over : Rows.fnLengthsRow.holds Try.pinned (OpenSpec.ofChange Rows.fnLengthsSpec) :=
  OpenClaim.holds_of_wide 9 Try.f9 rfl rfl rfl rfl rfl rfl rfl ⟨rfl, rfl, rfl, rfl, rfl⟩ rfl rfl rfl rfl rfl (by kernel_rfl) Try.func9 (by kernel_rfl)
    (of_decide_eq_true (by kernel_rfl)) (by unfold Func.isWrapper; first | (rw [if_pos (by decide +kernel)]; kernel_rfl) | (rw [if_neg (by decide +kernel)]; exact ⟨rfl, rfl⟩))
    (fun os started H enc _ => lifted os started H enc)

/-- ████ THE STATEMENT ████ -/
theorem proved : Rows.FnLengthsSaid := over
end Go.Proofs.Ytjkpfliaflmppaa.fnLengths

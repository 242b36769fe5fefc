/- Regions that draw their order, walked by what holds of each set of operations done. No condition. -/
import Derived.Test.YtjkpfliaflmppaaVm10
namespace Go.Proofs.Ytjkpfliaflmppaa.Vm
open Go Go.RowKit

section
variable {P : Program} {N : Fm} {Fin : Post} {k : List Kn} {l : List Oper}

/-- How many operations are left. -/
def left (listed : Array Bool) : Nat → Nat
  | 0 => 0
  | n + 1 => left listed n + (if listed.getD n true = true then 0 else 1)

theorem left_same {listed : Array Bool} {i : Nat} : ∀ n, n ≤ i → left (listed.setIfInBounds i true) n = left listed n
  | 0, _ => rfl
  | n + 1, h => by
    have h1 := left_same (listed := listed) (i := i) n (by omega)
    have h2 : (listed.setIfInBounds i true).getD n true = listed.getD n true := getD_set_ne true (by omega)
    simp only [left, h1, h2]
theorem left_set {listed : Array Bool} {i : Nat} (hl : listed.getD i true = false) (hs : i < listed.size) : ∀ n, i < n → left (listed.setIfInBounds i true) n + 1 = left listed n
  | 0, h => by omega
  | n + 1, h => by
    simp only [left]
    by_cases hin : i = n
    · subst hin
      rw [left_same i (Nat.le_refl _), hl]
      have : (listed.setIfInBounds i true).getD i true = true := by simp [hs]
      rw [this]; simp
    · have := left_set hl hs n (by omega)
      rw [getD_set_ne true hin]; omega

/-- Each operation waits for earlier ones alone. -/
def earlierB (ops : Array Oper) : Bool :=
  (List.range ops.size).all fun i => match ops[i]? with
    | some o => o.after.all fun e => !Region.binds .any e || decide (e.on < i)
    | none => true

theorem none_left {ops : Array Oper} (h : earlierB ops = true) {listed : Array Bool} (hs : listed.size = ops.size) (hr : Region.ready .any ops listed = []) : ∀ i, i < ops.size → listed.getD i true = true := by
  intro i
  induction i using Nat.strongRecOn with
  | _ i ih =>
    intro hi
    cases hl : listed.getD i true with
    | true => rfl
    | false =>
      have h1 := List.all_eq_true.1 h i (List.mem_range.2 hi)
      have ho : ops[i]? = some ops[i] := by simp [hi]
      rw [ho] at h1
      dsimp only at h1
      have hmem : i ∈ Region.ready .any ops listed := by
        refine mem_ready.2 ⟨hl, ops[i], ho, fun e he hb => ?_⟩
        have h2 := Array.all_eq_true_iff_forall_mem.1 h1 e he
        simp only [hb, Bool.not_true, Bool.false_or, decide_eq_true_eq] at h2
        have h3 := ih e.on h2 (by omega)
        have h4 : e.on < listed.size := by omega
        simp [h4] at h3 ⊢
        exact h3
      rw [hr] at hmem
      cases hmem

/-- I tells of each set of operations done what holds of slots and memory. 'ws': what each operation waits for. -/
theorem OA_inv2 (ws : List (List Nat)) (hw : ((List.range l.length).all fun i => (ws.getD i []).all fun j => Region.waitsFor .any l.toArray i j) = true)
    (I : (Nat → Bool) → Env → Mem → Prop)
    (hstep : ∀ i, i < l.length → ∀ (done : Nat → Bool) E M, I done E M → done i = false → (∀ j ∈ ws.getD i [], done j = true) →
      WO false P N (fun e E2 M2 => e = .normal ∧ I (fun j => if j = i then true else done j) E2 M2) l ((l.drop i).take 1) [] E M)
    (hend : ∀ (done : Nat → Bool) E M, I done E M → (∀ i, i < l.length → done i = true) → ∃ E2 M2, (∀ n v, Env.get? E2 n = some v → E.get? n = some v) ∧ Rk M M2 ∧ G false P N Fin .normal k E2 M2)
    (hac : earlierB l.toArray = true) :
    ∀ f listed E M, listed.size = l.length → left listed l.length ≤ f → I (fun j => listed.getD j false) E M → OA P N Fin k l f listed E M := by
  have hnd : ∀ listed : Array Bool, listed.size = l.length → Region.ready .any l.toArray listed = [] → ∀ i, i < l.length → listed.getD i true = true :=
    fun listed hs hr i hi => none_left hac (by simpa using hs) hr i (by simpa using hi)
  intro f
  induction f with
  | zero =>
    intro listed E M hsz hf hI
    have hr : Region.ready .any l.toArray listed = [] := by
      rw [List.eq_nil_iff_forall_not_mem]
      intro i hi
      obtain ⟨h1, o, ho, _⟩ := mem_ready.1 hi
      have hil : i < l.length := by have := (Array.getElem?_eq_some_iff.1 ho).1; simpa using this
      have := left_set h1 (by omega) l.length hil
      omega
    have hall := hnd listed hsz hr
    obtain ⟨E2, M2, q1, q2, q3⟩ := hend _ E M hI (fun i hi => by
      have := hall i hi
      simp [show i < listed.size by omega] at this ⊢; exact this)
    exact ⟨fun base w0 a w hA hS => ⟨hr, E2, M2, ⟨hA.defers, hA.size, fun n v h => hA.val n v (q1 n v h)⟩, hS.rk q2, q3.out⟩⟩
  | succ f ih =>
    intro listed E M hsz hf hI
    refine ⟨fun base w0 a w hA hS => ⟨fun hr => ?_, fun i hi => ?_⟩⟩
    · have hall := hnd listed hsz hr
      obtain ⟨E2, M2, q1, q2, q3⟩ := hend _ E M hI (fun i hi => by
        have := hall i hi
        simp [show i < listed.size by omega] at this ⊢; exact this)
      exact ⟨E2, M2, ⟨hA.defers, hA.size, fun n v h => hA.val n v (q1 n v h)⟩, hS.rk q2, q3.out⟩
    · obtain ⟨h1, o, ho, hdep⟩ := mem_ready.1 hi
      have hil : i < l.length := by have := (Array.getElem?_eq_some_iff.1 ho).1; simpa using this
      have his : i < listed.size := by omega
      have hdo : listed.getD i false = false := getD_both h1
      have hws : ∀ j ∈ ws.getD i [], listed.getD j false = true := by
        intro j hj
        have h2 := List.all_eq_true.1 (List.all_eq_true.1 hw i (List.mem_range.2 hil)) j hj
        obtain ⟨o', ho', e, he, hb, hon⟩ := Region.waitsFor_spec h2
        obtain rfl : o' = o := Option.some.inj (ho'.symm.trans ho)
        rw [← hon]
        exact hdep e he hb
      have h := hstep i hil _ E M hI hdo hws
      have h1' := h.out.out base w0 a w hA hS
      have hone : (l.drop i).take 1 = [l[i]] := by rw [List.drop_eq_getElem_cons hil]; rfl
      rw [hone] at h1'
      unfold wpOp
      rw [show l.toArray[i]? = some l[i] by simp [hil]]
      have key : ∀ a2 w2, wpList P l.toArray (Lift false base N w0 (post false P N (fun e E2 M2 => e = .normal ∧ I (fun j => if j = i then true else listed.getD j false) E2 M2) [])) [] a2 w2 →
          wpAny P .any l.toArray (Lift false base N w0 (post false P N Fin k)) f (listed.setIfInBounds i true) a2 w2 := by
        intro a2 w2 h2
        obtain ⟨E2, M2, hA2, hS2, _, hI2⟩ := h2
        have e2 : (fun j => (listed.setIfInBounds i true).getD j false) = fun j => if j = i then true else listed.getD j false := by
          funext j
          by_cases hij : i = j
          · subst hij; simp [his]
          · rw [getD_set_ne false hij, if_neg (Ne.symm hij)]
        refine (ih (listed.setIfInBounds i true) E2 M2 (by simpa using hsz) (by have := left_set h1 his l.length hil; omega) ?_).out base w0 a2 w2 hA2 hS2
        rw [e2]
        exact hI2
      unfold wpList at h1'
      have hno : ∀ e a w, e ≠ .normal → ¬ Lift false base N w0 (post false P N (fun e E2 M2 => e = .normal ∧ I (fun j => if j = i then true else listed.getD j false) E2 M2) []) e a w := by
        rintro e a w hne ⟨E2, M2, _, _, h3, _⟩
        exact hne h3
      dsimp only
      split
      · rename_i hw
        rw [if_pos hw] at h1'
        rcases h1' with h1' | ⟨_, a2, w2, h2⟩
        · exact .inl (wp_other key hno h1')
        · exact absurd h2 (hno _ _ _ (by simp))
      · rename_i hw
        rw [if_neg hw] at h1'
        exact key _ _ h1'

theorem left_all (n : Nat) : ∀ m, left (Array.replicate n false) m ≤ m
  | 0 => Nat.le_refl _
  | m + 1 => by
    have := left_all n m
    simp only [left]
    split <;> omega

theorem W_region_inv2 {E : Env} {M : Mem} {id : Nat} (hm : P.follows .mixedOrders = true) (ws : List (List Nat)) (hw : ((List.range l.length).all fun i => (ws.getD i []).all fun j => Region.waitsFor .any l.toArray i j) = true)
    (hac : earlierB l.toArray = true) (I : (Nat → Bool) → Env → Mem → Prop) (h0 : I (fun _ => false) E M)
    (hstep : ∀ i, i < l.length → ∀ (done : Nat → Bool) E M, I done E M → done i = false → (∀ j ∈ ws.getD i [], done j = true) →
      WO false P N (fun e E2 M2 => e = .normal ∧ I (fun j => if j = i then true else done j) E2 M2) l ((l.drop i).take 1) [] E M)
    (hend : ∀ (done : Nat → Bool) E M, I done E M → (∀ i, i < l.length → done i = true) → ∃ E2 M2, (∀ n v, Env.get? E2 n = some v → E.get? n = some v) ∧ Rk M M2 ∧ G false P N Fin .normal k E2 M2) :
    W false P N Fin (.region id l.toArray true) k E M := by
  refine W_region_any hm (OA_inv2 ws hw I hstep hend hac _ _ E M (by simp) ?_ ?_)
  · have := left_all l.toArray.size l.length
    simpa using this
  · have e : (fun j => (Array.replicate l.toArray.size false).getD j false) = fun _ => false := by
      funext j; exact getD_replicate_false _ _
    rw [e]; exact h0
theorem W_region_inv {E : Env} {M : Mem} {id : Nat} (hm : P.follows .mixedOrders = true) (ws : List (List Nat)) (hw : ((List.range l.length).all fun i => (ws.getD i []).all fun j => Region.waitsFor .any l.toArray i j) = true)
    (hac : earlierB l.toArray = true) (I : (Nat → Bool) → Env → Mem → Prop) (h0 : I (fun _ => false) E M)
    (hstep : ∀ i, i < l.length → ∀ (done : Nat → Bool) E M, I done E M → done i = false → (∀ j ∈ ws.getD i [], done j = true) →
      WO false P N (fun e E2 M2 => e = .normal ∧ I (fun j => if j = i then true else done j) E2 M2) l ((l.drop i).take 1) [] E M)
    (hend : ∀ (done : Nat → Bool) E M, I done E M → (∀ i, i < l.length → done i = true) → G false P N Fin .normal k E M) :
    W false P N Fin (.region id l.toArray true) k E M :=
  W_region_inv2 hm ws hw hac I h0 hstep fun done E M hI hall => ⟨E, M, fun _ _ h => h, .rfl, hend done E M hI hall⟩
end
end Go.Proofs.Ytjkpfliaflmppaa.Vm

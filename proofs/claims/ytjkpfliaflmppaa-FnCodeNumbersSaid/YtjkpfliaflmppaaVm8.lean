/- A function that defers one call, which does nothing in the end. No condition. -/
import Derived.Test.YtjkpfliaflmppaaVm7
import Derived.Recover
namespace Go.Proofs.Ytjkpfliaflmppaa.Vm
open Go Go.RowKit

section
variable {pr : Bool} {P : Program} {M : Mem}

/-- What a deferred call leaves as it was. -/
def Idle (P : Program) (g : FuncId) : Prop := ∀ w, CallsD P g #[] .returning w fun e u' w' => e = .returned (.tuple #[]) ∧ u' = .returning ∧ w' = w

theorem HC_of_W_defer {f gf : FuncId} {fn : Func} {c0 c : Code} {id : Nat} {ty : TypeId} {pos : String} {after : Array Edge} {vs : List Value} {R : Value → Mem → Prop} {rs : List ResultVar} {n : Nat}
    (hf : P.funcs[f]? = some fn) (hb : fn.body = some (.seq c0 (.seq (.region id #[⟨none, .defer { callee := .value (.func gf), args := #[], argTypes := #[] }, ty, pos, after, none⟩] false) c))) (hN : fn.ntmps = n)
    (hrs : fn.results.toList = rs) (hs : Nat.ble vs.length n = true) (hi : Idle P gf) (hc : Callable P gf)
    (h : W pr P ⟨n, []⟩ (fun e E M => e = .normal ∧ W pr P ⟨n, [⟨.fn (.func gf) #[], #[]⟩]⟩ (Ends rs R) c [] E M) c0 [] (zipEnv 0 vs) M) : HCp pr P f vs.toArray M R := by
  constructor
  intro base w0 w hS
  have hle : vs.length ≤ n := by simpa using hs
  refine calls_of_wp_defers hf hb (wp_seq (wp_mono (h.out.out base w0 _ w ⟨rfl, by simp [hN]; omega, fun i v hv => ?_⟩ hS) ?_))
  · obtain ⟨h1, h2⟩ := zipEnv_get vs 0 i v hv
    simp only [Nat.sub_zero] at h2
    have hi : i < vs.length := by
      rcases Nat.lt_or_ge i vs.length with h | h
      · exact h
      · simp [List.getElem?_eq_none h] at h2
    rw [Array.getElem?_append_left (by simpa using hi)]
    simpa using h2
  · rintro e a w' ⟨E', M', hA', hS', rfl, hW⟩
    show Code.wp P _ _ a w'
    refine wp_seq (wp_region ?_)
    have hA2 : Ag ⟨n, [⟨.fn (.func gf) #[], #[]⟩]⟩ E' { a with defers := ⟨.fn (.func gf) #[], #[]⟩ :: a.defers } := ⟨by rw [hA'.defers], hA'.size, hA'.val⟩
    have hfin := wp_mono (hW.out.out base w0 _ w' hA2 hS') (Q' := bodyPostD P fn fun e w' => ∃ v M', e = .returned v ∧ Sim pr base w0 w' M' ∧ R v M') (by
      rintro e a2 w2 ⟨E2, M2, hA3, hS3, hq⟩
      have hend : (∃ v, resOf E2 rs = some v ∧ R v M2) → Leaves P fn a2.tmps (fun e w' => ∃ v M', e = .returned v ∧ Sim pr base w0 w' M' ∧ R v M') a2.defers .returning w2 := by
        rintro ⟨v, hv, hR⟩
        rw [hA3.defers]
        refine leaves_cons (f := gf) (args := #[]) (by simp) (by simp [invoke, run_callFunc hc]) ?_
        refine (hi w2).mono ?_
        rintro e u' w'' ⟨rfl, rfl, rfl⟩
        exact ⟨v, run_results hA3 (by rw [hrs]; exact hv), v, M2, rfl, hS3, hR⟩
      cases e with
      | normal => exact hend hq
      | ret => exact hend hq
      | _ => exact hq.elim)
    show wpOps P _ _ [0] a w'
    simp only [wpOps, List.getElem?_toArray, List.getElem?_cons_zero]
    rw [if_pos (by simp [Region.wanted])]
    refine .inl ?_
    unfold Oper.wp
    have hr : (execOp a.eval ⟨none, .defer { callee := .value (.func gf), args := #[], argTypes := #[] }, ty, pos, after, none⟩).run P w' = .ok (.defer ⟨.fn (.func gf) #[], #[]⟩) w' := by
      simp [execOp, resolve, Deferred.ofValue, Act.eval]
    rw [hr]
    exact hfin
end

/-- A row of cells in which one is another. -/
inductive SetAt : List Value → Nat → Value → List Value → Prop where
  | zero {u v : Value} {l : List Value} : SetAt (u :: l) 0 v (v :: l)
  | succ {x v : Value} {n : Nat} {l l' : List Value} : SetAt l n v l' → SetAt (x :: l) (n + 1) v (x :: l')
theorem SetAt.eq {l l' : List Value} {n : Nat} {v : Value} (h : SetAt l n v l') : l' = l.set n v ∧ n < l.length := by
  induction h with
  | zero => exact ⟨rfl, by simp⟩
  | succ _ ih => exact ⟨by rw [ih.1]; rfl, by simpa using ih.2⟩

section
variable {P : Program} {N : Fm} {Fin : Post} {k : List Kn} {E : Env} {M : Mem}
variable {ops : List Oper} {rest : List Oper} {ty : TypeId} {pos : String} {after : Array Edge} {g : Option (Nat × Bool)}
inductive UpdC : Mem → Nat → Nat → Nat → Value → Mem → Prop where
  | head {M : Mem} {b o n : Nat} {v : Value} {l l' : List Value} : SetAt l n v l' → UpdC (⟨true, b, o, l⟩ :: M) b o n v (⟨true, b, o, l'⟩ :: M)
  | tail {M M' : Mem} {x : Sg} {b o n : Nat} {v : Value} : UpdC M b o n v M' → UpdC (x :: M) b o n v (x :: M')
theorem UpdC.upd {M M' : Mem} {b o n : Nat} {v : Value} (h : UpdC M b o n v M') : ∃ l l', SetAt l n v l' ∧ Upd1 M ⟨true, b, o, l⟩ l' M' := by
  induction h with
  | head hs => exact ⟨_, _, hs, .head⟩
  | tail _ ih => obtain ⟨l, l', h1, h2⟩ := ih; exact ⟨l, l', h1, .tail h2⟩
theorem O_storeC {t : TypeId} {p x : Operand} {b o n : Nat} {v : Value} {M' : Mem} (ht : Cel P t 1) (hp : ev E p = some (.pointer (some ⟨b, o + n, none⟩))) (hx : ev E x = some v)
    (hv : v.oneCell' = true) (hg : On E ops g) (hu : UpdC M b o n v M') (h : WO false P N Fin ops rest k E M') : WO false P N Fin ops (⟨none, .store t p x, ty, pos, after, g⟩ :: rest) k E M := by
  obtain ⟨l, l', hs, hu⟩ := hu.upd
  obtain ⟨h1, h2⟩ := hs.eq
  subst h1
  exact O_store ht hp hx hv hg h2 hu h
end

section
variable {P : Program} {N : Fm} {E : Env} {M : Mem}
/-- A slice expression, its result told as one likes it. -/
theorem P_slice1E {t e : TypeId} {x : Operand} {lo hi : Option Operand} {b o len cap o' len' cap' : Nat} {l h : Int} (ht : Und P t (.slice e)) (he : Cel P e 1)
    (hx : ev E x = some (.slice (some ⟨b, o, none⟩) len cap)) (hl : bnd E lo 0 l) (hh : bnd E hi len h) (h0 : 0 ≤ l) (h1 : l ≤ h) (h2 : h ≤ cap) (h3 : l < cap) (ho : o + l.toNat = o') (hn : h.toNat - l.toNat = len') (hc : cap - l.toNat = cap') :
    Pure P N E M (.slice t x lo hi none) (.slice (some ⟨b, o', none⟩) len' cap') := by
  subst ho; subst hn; subst hc
  exact P_slice1 ht he hx hl hh h0 h1 h2 h3
/-- .. of an array. -/
theorem P_sliceA1E {t e : TypeId} {x : Operand} {lo hi : Option Operand} {b o len o' len' cap' : Nat} {l h : Int} (ht : Und P t (.array len e)) (he : Cel P e 1)
    (hx : ev E x = some (.pointer (some ⟨b, o, none⟩))) (hl : bnd E lo 0 l) (hh : bnd E hi len h) (h0 : 0 ≤ l) (h1 : l ≤ h) (h2 : h ≤ len) (h3 : l < len) (ho : o + l.toNat = o') (hn : h.toNat - l.toNat = len') (hc : len - l.toNat = cap') :
    Pure P N E M (.slice t x lo hi none) (.slice (some ⟨b, o', none⟩) len' cap') := by
  subst ho; subst hn; subst hc
  have := P_sliceA (N := N) (M := M) ht he (by omega) hx hl hh h0 h1 h2 h3
  simpa using this
end
end Go.Proofs.Ytjkpfliaflmppaa.Vm

/- Handed 32-bit numbers, as the engine has them. No condition. -/
import Derived.Test.YtjkpfliaflmppaaW6x25

namespace Go.Proofs.Ytjkpfliaflmppaa.Sh
open Go.ChangeShapes Go.WideShapes Go.ChangeAt Go.RowKit Go.Proofs.Ytjkpfliaflmppaa.Vm Go.Proofs.Ytjkpfliaflmppaa.Pc
set_option linter.unusedVariables false
theorem cells40 : Try.prog.cellsOf 40 = 1 := by kernel_rfl
/-- A handed slice of 32-bit numbers, as the engine has it. -/
theorem words_open {H : Type} {enc : TypeId × Value → H} {W : World} {ad : Option Addr} {len cap : Nat} {d : DataW H} {ps : List MemPlace} (h : DataW.Trod enc Try.prog W 0 (fun _ => true) true 46 (.slice ad len cap) d ps) :
    ∃ (xs : List Nat) (m : Mem), Ws (.slice ad len cap) xs m ∧ (∀ s ∈ m, s.own = false ∧ s.lies W.heap.size W) := by
  obtain ⟨fuel, hf⟩ := h
  rcases open_ints Try.underlying46 Try.underlying40 cells40 hf with ⟨hcs, hx⟩ | ⟨a, len', cap', zs, hcs, _, hl, hm, hz, hx, hcell, hwz⟩
  · simp [Value.cells] at hcs
    obtain ⟨rfl, rfl, rfl⟩ := hcs
    exact ⟨[], [], ⟨by simp, none, 0, rfl, .inl rfl⟩, by simp⟩
  · simp [Value.cells] at hcs
    obtain ⟨rfl, rfl, rfl⟩ := hcs
    simp only [if_true] at hz
    have hbyte : ∀ z ∈ zs, 0 ≤ z ∧ z ≤ 4294967295 := fun z hz => by
      have := hwz z hz
      simpa [Lit.wf, IntKind.min, IntKind.max, IntKind.signed, IntKind.bits] using this
    have hlen : ((zs.take len).map Int.toNat).length = len := by simp; omega
    have hback : ((zs.take len).map Int.toNat).map (Nat.cast : Nat → Int) = zs.take len := by
      rw [List.map_map]
      conv => rhs; rw [← List.map_id (zs.take len)]
      apply List.map_congr_left
      intro z hz
      have := hbyte z (List.mem_of_mem_take hz)
      simp; omega
    have hlt : ∀ x ∈ (zs.take len).map Int.toNat, x < 4294967296 := by
      intro x hx
      obtain ⟨z, hz, rfl⟩ := List.mem_map.1 hx
      have := hbyte z (List.mem_of_mem_take hz)
      omega
    by_cases h0 : len = 0
    · subst h0
      exact ⟨[], [], ⟨by simp, some a, cap, rfl, .inl rfl⟩, by simp⟩
    · obtain ⟨b, off, spot⟩ := a
      have hc0 := hcell 0 (by omega)
      have hsp : spot = none := by
        cases spot with
        | none => rfl
        | some s =>
          exfalso
          simp only [World.cell?, Addr.add] at hc0
          split at hc0 <;> (try split at hc0) <;> simp_all
      subst hsp
      refine ⟨_, [⟨false, b, off, ints .u32 (((zs.take len).map Int.toNat).map Nat.cast)⟩], ⟨hlt, some ⟨b, off, none⟩, cap, by rw [hlen], .inr ⟨b, off, rfl, .head _⟩⟩, ?_⟩
      intro s hs
      obtain rfl := List.mem_singleton.1 hs
      refine ⟨rfl, ?_⟩
      rw [hback]
      have hcell' : ∀ i, i < zs.length → W.cell? ⟨b, off + i, none⟩ = some (.int .u32 (zs.getD i 0)) := fun i hi => by rw [← add_place]; exact hcell i hi
      cases hh : W.heap[b]? with
      | none => have := hcell' 0 (by omega); simp [World.cell?, hh] at this
      | some o =>
        cases o with
        | cells c T f =>
          obtain ⟨lo, hi⟩ := f
          have hget : ∀ i, i < zs.length → c[off + i]? = some (.int .u32 (zs.getD i 0)) := fun i hi => by
            have := hcell' i hi
            simpa [World.cell?, hh] using this
          refine ⟨c, T, lo, hi, hh, ?_, fun i hi => ?_, fun h => by cases h⟩
          · have h1 := hget (len - 1) (by omega)
            have h2 := (Array.getElem?_eq_some_iff.1 h1).1
            simp only [ints_length, List.length_take]
            omega
          · simp only [ints_length, List.length_take] at hi
            rw [hget i (by omega), ints_get (by simp; omega)]
            simp [show i < len by omega, show i < zs.length by omega]
        | _ => have := hcell' 0 (by omega); simp [World.cell?, hh] at this

end Go.Proofs.Ytjkpfliaflmppaa.Sh

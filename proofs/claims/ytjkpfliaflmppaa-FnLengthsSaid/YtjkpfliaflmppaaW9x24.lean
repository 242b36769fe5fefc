/- bytes.growSlice, walked: the bytes in a new row that has room for n more of them. For at most 2^40 bytes. -/
import Derived.Test.YtjkpfliaflmppaaW9x14
import Derived.Test.YtjkpfliaflmppaaW9x05
import Derived.Recover
import Derived.Test.YtjkpfliaflmppaaW9x10

namespace Go.Proofs.Ytjkpfliaflmppaa.Bu
open Go Go.RowKit Go.Proofs.Ytjkpfliaflmppaa.Vm

theorem info5 : (Try.prog.info? 5).map (fun i => (i.size, i.bytes, i.zero)) = some (1, 1, some (.int .u8 0)) := by kernel_rfl
theorem info5' : ∃ I, Try.prog.info? 5 = some I ∧ I.size = 1 ∧ I.bytes = 1 ∧ I.zero = some (.int .u8 0) := by
  have h := info5
  cases hI : Try.prog.info? 5 with
  | none => simp [hI] at h
  | some I => simp [hI] at h; exact ⟨I, rfl, h⟩

theorem run_append_zeros (c : Nat) (hc : 0 < c) (hc2 : c ≤ 2199023255552) (ty : TypeId) (w : World) : ∃ q, c ≤ q ∧ q ≤ 9223372036854775807 ∧
    (Builtin.append_ #[22, 3] ty #[.slice none 0 0, .int .i64 c]).run Try.prog w = .ok (.slice (some ⟨w.heap.size, 0, none⟩) c q) (w.drew.alloc (.cells (Array.replicate q (.int .u8 0)) 5)) := by
  obtain ⟨I, hI, h1, h2, h3⟩ := info5'
  have hw : IntKind.i64.wrap (c : Int) = c := wrap_id (k := .i64) (by simp only [IntKind.min, IntKind.signed, IntKind.bits]; omega) (by simp only [IntKind.max, IntKind.signed, IntKind.bits]; simp; omega)
  have hn : ¬ (c : Int) < 0 := by omega
  have hcaps := Go.Proofs.Ytjkpfliaflmppaa.Vm.nextslicecap_le (n := c) (c := 0) hc
  have c1 : ¬ (281474976710656 : Int) < c := by omega
  have c2 : ¬ (281474976710656) < Builtin.nextslicecap c 0 := by omega
  have c3 : ¬ c = 0 := by omega
  have c4 : ¬ (IntKind.i64.max : Int) < c := by simp only [IntKind.max, IntKind.signed, IntKind.bits]; simp; omega
  refine ⟨Question.cut (.appendCap c 0 5) (w.tape w.drawn (.appendCap c 0 5)), by simp [Question.cut], ?_, ?_⟩
  · simp only [Question.cut]
    have := Nat.mod_lt (w.tape w.drawn (.appendCap c 0 5)) (show 0 < 2 ^ 63 - c by omega)
    omega
  unfold Builtin.append_
  simp [Try.underlying22, Try.underlying3, run_under Try.underlying22, run_under Try.underlying3, asInt, asIntOf, hw, hn, sizeOf, typeInfo, hI, h1, h2, c1, c2, c3, c4, Builtin.firstCells, zeroValue, h3, Value.cells, newRow, Question.forced, Question.cut, Builtin.zeroCells, Nat.mod_one]
  have hm : ∀ n : Nat, Array.map (fun _ => Value.int .u8 0) (Array.range n) = Array.replicate n (Value.int .u8 0) := fun n => by
    apply Array.ext'
    simp [List.map_const']
  rw [if_neg (by omega), hm, hm]
  simp

theorem recover_idle (w : World) : CallsD Try.prog 149 #[] .returning w fun e u' w' => e = .returned (.tuple #[]) ∧ u' = .returning ∧ w' = w := by
  refine callsD_of_wpS Try.func149 rfl fun c₀ cs hu => ?_
  refine wpS_seq ?_
  apply wpS_region
  simp [wpOpsS, go_sem, recoverD, hu, Try.ntmps149]
  refine wpS_cond (t := false) rfl (wpS_of_wp (wp_skip ?_))
  cases c₀
  simp_all [bodyPostS, results, Try.results149]


section
variable {N : Fm} {Fin : Post} {k : List Kn} {E : Env} {M : Mem}
variable {ops : List Oper} {rest : List Oper} {d : Nat} {ty : TypeId} {pos : String} {after : Array Edge} {g : Option (Nat × Bool)}
theorem O_appendZ {x : Operand} {c : Nat} {z : Int} (hx : ev E x = some (.int .i64 z)) (hz : z = (c : Int)) (hc : 0 < c) (hc2 : c ≤ 2199023255552) (hg : On E ops g) (hd : Nat.blt d N.n = true)
    (h : ∀ b q, c ≤ q → q ≤ 9223372036854775807 → WO false Try.prog N Fin ops rest k ((d, .slice (some ⟨b, 0, none⟩) c q) :: E) (⟨true, b, 0, List.replicate q (.int .u8 0)⟩ :: M)) :
    WO false Try.prog N Fin ops (⟨some d, .call { callee := .builtin .append, args := #[.const (.slice none 0 0), x], argTypes := #[22, 3] }, ty, pos, after, g⟩ :: rest) k E M := by
  subst hz
  refine ⟨⟨?_⟩⟩
  intro base w0 a w hA hS
  unfold wpList
  rw [if_pos (On.wanted (o := ⟨some d, .call { callee := .builtin .append, args := #[.const (.slice none 0 0), x], argTypes := #[22, 3] }, ty, pos, after, g⟩) hg hA)]
  refine .inl ?_
  unfold Oper.wp
  obtain ⟨q, hq, hqm, hrun⟩ := run_append_zeros c hc hc2 ty w
  have hr : (execOp a.eval ⟨some d, .call { callee := .builtin .append, args := #[.const (.slice none 0 0), x], argTypes := #[22, 3] }, ty, pos, after, g⟩).run Try.prog w = .ok (.value (.slice (some ⟨w.heap.size, 0, none⟩) c q)) (w.drew.alloc (.cells (Array.replicate q (.int .u8 0)) 5)) := by
    have he : a.eval (.const (.slice none 0 0)) = .slice none 0 0 := rfl
    simp [execOp, resolve, invoke, builtin, hA.eval hx, he, hrun]
  rw [hr]
  have := hS.drew.alloc (Array.replicate q (.int .u8 0)) 5
  simp only [Array.toList_replicate] at this
  exact (h w.heap.size q hq hqm).out.out base w0 _ _ (hA.put hd _) this
end

theorem growSlice_c (ad : Option Addr) (l c n : Nat) (xs : List Int) (F : Mem) (hx : xs.length = l) (hF : (ad = none ∧ l = 0) ∨ ∃ b own lx, ad = some ⟨b, 0, none⟩ ∧ (⟨own, b, 0, ints .u8 xs ++ lx⟩ : Sg) ∈ F ∧ ∀ v ∈ lx, v.oneCell' = true) (hlc : l ≤ c) (hn : 0 < n) (hbig : l + n ≤ 1099511627776) (hcb : c ≤ 1099511627776) :
    HC Try.prog 148 #[.slice ad l c, .int .i64 n] F (fun v M' => ∃ b q sp, v = .slice (some ⟨b, 0, none⟩) l q ∧ xs.length + sp.length = q ∧ l + n ≤ q ∧ q ≤ 9223372036854775807 ∧ (∀ v ∈ sp, v.oneCell' = true) ∧ M' = ⟨true, b, 0, ints .u8 xs ++ sp⟩ :: F) := by
  obtain ⟨I, hI, hI1, hI2, hI3⟩ := info5'
  refine HC_of_W_defer (fn := Try.f148) Try.func148 rfl rfl rfl rfl recover_idle Tb.k149 ?_
  repeat' (first | (refine isO ?_; first | refine oo (Pc rfl) ?_ | refine oo (Pa rfl (by omega) (by omega)) ?_ | (refine ob rfl ?_ ?_ <;> intro hq <;> try (exfalso; omega)) | refine oo (Pi rfl (by omega)) ?_ | refine oo (Pl rfl) ?_ | refine oo (Px rfl rfl) ?_ | refine oo (Pj rfl (by omega) (by omega)) ?_ | refine oo (Pk rfl (by omega) (by omega)) ?_ | refine oo (Pf rfl) ?_ | refine oo (Pv rfl (by omega) (by omega)) ?_ | refine oo (Pn rfl) ?_ | refine oo (Pm rfl) ?_ | refine os rfl rfl ?_ | refine ot rfl (by omega) ?_ | refine O_nil ?_) | refine wo rfl ?_ | refine wc rfl ?_ | refine wg rfl ?_ | refine go rfl ?_ | refine gc rfl ?_ | refine gg rfl ?_)
  refine G_fin ⟨rfl, ?_⟩
  repeat' (first | (refine isO ?_; first | refine oo (Pc rfl) ?_ | refine oo (Pa rfl (by omega) (by omega)) ?_ | (refine ob rfl ?_ ?_ <;> intro hq <;> try (exfalso; omega)) | refine oo (Pi rfl (by omega)) ?_ | refine oo (Pl rfl) ?_ | refine oo (Px rfl rfl) ?_ | refine oo (Pj rfl (by omega) (by omega)) ?_ | refine oo (Pk rfl (by omega) (by omega)) ?_ | refine oo (Pf rfl) ?_ | refine oo (Pv rfl (by omega) (by omega)) ?_ | refine oo (Pn rfl) ?_ | refine oo (Pm rfl) ?_ | refine os rfl rfl ?_ | refine ot rfl (by omega) ?_ | refine O_nil ?_) | refine wo rfl ?_ | refine wc rfl ?_ | refine wg rfl ?_ | refine go rfl ?_ | refine gc rfl ?_ | refine gg rfl ?_)
  refine O_pure (P_cap Tb.u22 rfl) trivial rfl ?_
  repeat' (first | (refine isO ?_; first | refine oo (Pc rfl) ?_ | refine oo (Pa rfl (by omega) (by omega)) ?_ | (refine ob rfl ?_ ?_ <;> intro hq <;> try (exfalso; omega)) | refine oo (Pi rfl (by omega)) ?_ | refine oo (Pl rfl) ?_ | refine oo (Px rfl rfl) ?_ | refine oo (Pj rfl (by omega) (by omega)) ?_ | refine oo (Pk rfl (by omega) (by omega)) ?_ | refine oo (Pf rfl) ?_ | refine oo (Pv rfl (by omega) (by omega)) ?_ | refine oo (Pn rfl) ?_ | refine oo (Pm rfl) ?_ | refine os rfl rfl ?_ | refine ot rfl (by omega) ?_ | refine O_nil ?_) | refine wo rfl ?_ | refine wc rfl ?_ | refine wg rfl ?_ | refine go rfl ?_ | refine gc rfl ?_ | refine gg rfl ?_)
  · refine O_pure (P_cap Tb.u22 rfl) trivial rfl ?_
    repeat' (first | (refine isO ?_; first | refine oo (Pc rfl) ?_ | refine oo (Pa rfl (by omega) (by omega)) ?_ | (refine ob rfl ?_ ?_ <;> intro hq <;> try (exfalso; omega)) | refine oo (Pi rfl (by omega)) ?_ | refine oo (Pl rfl) ?_ | refine oo (Px rfl rfl) ?_ | refine oo (Pj rfl (by omega) (by omega)) ?_ | refine oo (Pk rfl (by omega) (by omega)) ?_ | refine oo (Pf rfl) ?_ | refine oo (Pv rfl (by omega) (by omega)) ?_ | refine oo (Pn rfl) ?_ | refine oo (Pm rfl) ?_ | refine os rfl rfl ?_ | refine ot rfl (by omega) ?_ | refine O_nil ?_) | refine wo rfl ?_ | refine wc rfl ?_ | refine wg rfl ?_ | refine go rfl ?_ | refine gc rfl ?_ | refine gg rfl ?_)
    refine O_appendZ (c := 2 * c) rfl (by omega) (by omega) (by omega) trivial rfl fun b' q hq hqm => ?_
    repeat' (first | (refine isO ?_; first | refine oo (Pc rfl) ?_ | refine oo (Pa rfl (by omega) (by omega)) ?_ | (refine ob rfl ?_ ?_ <;> intro hq <;> try (exfalso; omega)) | refine oo (Pi rfl (by omega)) ?_ | refine oo (Pl rfl) ?_ | refine oo (Px rfl rfl) ?_ | refine oo (Pj rfl (by omega) (by omega)) ?_ | refine oo (Pk rfl (by omega) (by omega)) ?_ | refine oo (Pf rfl) ?_ | refine oo (Pv rfl (by omega) (by omega)) ?_ | refine oo (Pn rfl) ?_ | refine oo (Pm rfl) ?_ | refine os rfl rfl ?_ | refine ot rfl (by omega) ?_ | refine O_nil ?_) | refine wo rfl ?_ | refine wc rfl ?_ | refine wg rfl ?_ | refine go rfl ?_ | refine gc rfl ?_ | refine gg rfl ?_)
    rcases hF with ⟨rfl, rfl⟩ | ⟨b, own, lx, rfl, hm, hone⟩
    · refine O_pure (P_copy0 Tb.u22 hI rfl rfl (by simp)) trivial rfl ?_
      repeat' (first | (refine isO ?_; first | refine oo (Pc rfl) ?_ | refine oo (Pa rfl (by omega) (by omega)) ?_ | (refine ob rfl ?_ ?_ <;> intro hq <;> try (exfalso; omega)) | refine oo (Pi rfl (by omega)) ?_ | refine oo (Pl rfl) ?_ | refine oo (Px rfl rfl) ?_ | refine oo (Pj rfl (by omega) (by omega)) ?_ | refine oo (Pk rfl (by omega) (by omega)) ?_ | refine oo (Pf rfl) ?_ | refine oo (Pv rfl (by omega) (by omega)) ?_ | refine oo (Pn rfl) ?_ | refine oo (Pm rfl) ?_ | refine os rfl rfl ?_ | refine ot rfl (by omega) ?_ | refine O_nil ?_) | refine wo rfl ?_ | refine wc rfl ?_ | refine wg rfl ?_ | refine go rfl ?_ | refine gc rfl ?_ | refine gg rfl ?_)
      refine O_pure (P_slice1 Tb.u22 Tb.c5 rfl rfl ⟨_, rfl⟩ (by omega) (by omega) (by omega) (by omega)) trivial rfl ?_
      repeat' (first | (refine isO ?_; first | refine oo (Pc rfl) ?_ | refine oo (Pa rfl (by omega) (by omega)) ?_ | (refine ob rfl ?_ ?_ <;> intro hq <;> try (exfalso; omega)) | refine oo (Pi rfl (by omega)) ?_ | refine oo (Pl rfl) ?_ | refine oo (Px rfl rfl) ?_ | refine oo (Pj rfl (by omega) (by omega)) ?_ | refine oo (Pk rfl (by omega) (by omega)) ?_ | refine oo (Pf rfl) ?_ | refine oo (Pv rfl (by omega) (by omega)) ?_ | refine oo (Pn rfl) ?_ | refine oo (Pm rfl) ?_ | refine os rfl rfl ?_ | refine ot rfl (by omega) ?_ | refine O_nil ?_) | refine wo rfl ?_ | refine wc rfl ?_ | refine wg rfl ?_ | refine go rfl ?_ | refine gc rfl ?_ | refine gg rfl ?_)
      refine G_fin ⟨_, rfl, b', q, List.replicate q (.int .u8 0), ?_, by simp [hx], by omega, hqm, ?_, ?_⟩
      · simp
      · intro v hv; rw [List.eq_of_mem_replicate hv]; rfl
      · rw [List.length_eq_zero_iff.1 hx]; simp [ints]
    · refine O_copy (o := 0) (i := 0) (ox := 0) (j := 0) (size := 1) (n := l) Tb.u22 hI hI1 rfl rfl (by omega) rfl rfl .head (.tail _ hm) (by simp [ints_length, hx]) (by
        intro v hv
        rcases List.mem_append.1 hv with h | h
        · simp [ints] at h; obtain ⟨z, _, rfl⟩ := h; rfl
        · exact hone v h) (by simp; omega) (l' := ints .u8 xs ++ List.replicate (q - l) (.int .u8 0)) ?_ trivial rfl ?_
      · have h1 : (List.drop 0 (ints .u8 xs ++ lx)).take (l * 1) = ints .u8 xs := by
          rw [List.drop_zero, Nat.mul_one, ← hx, ← ints_length .u8 xs, List.take_left]
        rw [h1]
        have := putAt_append (ints .u8 xs) [] (List.replicate q (.int .u8 0)) (by simp [ints_length, hx]; omega)
        simpa [ints_length, hx] using this
      repeat' (first | (refine isO ?_; first | refine oo (Pc rfl) ?_ | refine oo (Pa rfl (by omega) (by omega)) ?_ | (refine ob rfl ?_ ?_ <;> intro hq <;> try (exfalso; omega)) | refine oo (Pi rfl (by omega)) ?_ | refine oo (Pl rfl) ?_ | refine oo (Px rfl rfl) ?_ | refine oo (Pj rfl (by omega) (by omega)) ?_ | refine oo (Pk rfl (by omega) (by omega)) ?_ | refine oo (Pf rfl) ?_ | refine oo (Pv rfl (by omega) (by omega)) ?_ | refine oo (Pn rfl) ?_ | refine oo (Pm rfl) ?_ | refine os rfl rfl ?_ | refine ot rfl (by omega) ?_ | refine O_nil ?_) | refine wo rfl ?_ | refine wc rfl ?_ | refine wg rfl ?_ | refine go rfl ?_ | refine gc rfl ?_ | refine gg rfl ?_)
      refine O_pure (P_slice1 Tb.u22 Tb.c5 rfl rfl ⟨_, rfl⟩ (by omega) (by omega) (by omega) (by omega)) trivial rfl ?_
      repeat' (first | (refine isO ?_; first | refine oo (Pc rfl) ?_ | refine oo (Pa rfl (by omega) (by omega)) ?_ | (refine ob rfl ?_ ?_ <;> intro hq <;> try (exfalso; omega)) | refine oo (Pi rfl (by omega)) ?_ | refine oo (Pl rfl) ?_ | refine oo (Px rfl rfl) ?_ | refine oo (Pj rfl (by omega) (by omega)) ?_ | refine oo (Pk rfl (by omega) (by omega)) ?_ | refine oo (Pf rfl) ?_ | refine oo (Pv rfl (by omega) (by omega)) ?_ | refine oo (Pn rfl) ?_ | refine oo (Pm rfl) ?_ | refine os rfl rfl ?_ | refine ot rfl (by omega) ?_ | refine O_nil ?_) | refine wo rfl ?_ | refine wc rfl ?_ | refine wg rfl ?_ | refine go rfl ?_ | refine gc rfl ?_ | refine gg rfl ?_)
      refine G_fin ⟨_, rfl, b', q, List.replicate (q - l) (.int .u8 0), ?_, by simp [hx]; omega, by omega, hqm, ?_, rfl⟩
      · simp
      · intro v hv; rw [List.eq_of_mem_replicate hv]; rfl
  · refine O_appendZ (c := l + n) rfl (by omega) (by omega) (by omega) trivial rfl fun b' q hq hqm => ?_
    repeat' (first | (refine isO ?_; first | refine oo (Pc rfl) ?_ | refine oo (Pa rfl (by omega) (by omega)) ?_ | (refine ob rfl ?_ ?_ <;> intro hq <;> try (exfalso; omega)) | refine oo (Pi rfl (by omega)) ?_ | refine oo (Pl rfl) ?_ | refine oo (Px rfl rfl) ?_ | refine oo (Pj rfl (by omega) (by omega)) ?_ | refine oo (Pk rfl (by omega) (by omega)) ?_ | refine oo (Pf rfl) ?_ | refine oo (Pv rfl (by omega) (by omega)) ?_ | refine oo (Pn rfl) ?_ | refine oo (Pm rfl) ?_ | refine os rfl rfl ?_ | refine ot rfl (by omega) ?_ | refine O_nil ?_) | refine wo rfl ?_ | refine wc rfl ?_ | refine wg rfl ?_ | refine go rfl ?_ | refine gc rfl ?_ | refine gg rfl ?_)
    rcases hF with ⟨rfl, rfl⟩ | ⟨b, own, lx, rfl, hm, hone⟩
    · refine O_pure (P_copy0 Tb.u22 hI rfl rfl (by simp)) trivial rfl ?_
      repeat' (first | (refine isO ?_; first | refine oo (Pc rfl) ?_ | refine oo (Pa rfl (by omega) (by omega)) ?_ | (refine ob rfl ?_ ?_ <;> intro hq <;> try (exfalso; omega)) | refine oo (Pi rfl (by omega)) ?_ | refine oo (Pl rfl) ?_ | refine oo (Px rfl rfl) ?_ | refine oo (Pj rfl (by omega) (by omega)) ?_ | refine oo (Pk rfl (by omega) (by omega)) ?_ | refine oo (Pf rfl) ?_ | refine oo (Pv rfl (by omega) (by omega)) ?_ | refine oo (Pn rfl) ?_ | refine oo (Pm rfl) ?_ | refine os rfl rfl ?_ | refine ot rfl (by omega) ?_ | refine O_nil ?_) | refine wo rfl ?_ | refine wc rfl ?_ | refine wg rfl ?_ | refine go rfl ?_ | refine gc rfl ?_ | refine gg rfl ?_)
      refine O_pure (P_slice1 Tb.u22 Tb.c5 rfl rfl ⟨_, rfl⟩ (by omega) (by omega) (by omega) (by omega)) trivial rfl ?_
      repeat' (first | (refine isO ?_; first | refine oo (Pc rfl) ?_ | refine oo (Pa rfl (by omega) (by omega)) ?_ | (refine ob rfl ?_ ?_ <;> intro hq <;> try (exfalso; omega)) | refine oo (Pi rfl (by omega)) ?_ | refine oo (Pl rfl) ?_ | refine oo (Px rfl rfl) ?_ | refine oo (Pj rfl (by omega) (by omega)) ?_ | refine oo (Pk rfl (by omega) (by omega)) ?_ | refine oo (Pf rfl) ?_ | refine oo (Pv rfl (by omega) (by omega)) ?_ | refine oo (Pn rfl) ?_ | refine oo (Pm rfl) ?_ | refine os rfl rfl ?_ | refine ot rfl (by omega) ?_ | refine O_nil ?_) | refine wo rfl ?_ | refine wc rfl ?_ | refine wg rfl ?_ | refine go rfl ?_ | refine gc rfl ?_ | refine gg rfl ?_)
      refine G_fin ⟨_, rfl, b', q, List.replicate q (.int .u8 0), ?_, by simp [hx], by omega, hqm, ?_, ?_⟩
      · simp
      · intro v hv; rw [List.eq_of_mem_replicate hv]; rfl
      · rw [List.length_eq_zero_iff.1 hx]; simp [ints]
    · refine O_copy (o := 0) (i := 0) (ox := 0) (j := 0) (size := 1) (n := l) Tb.u22 hI hI1 rfl rfl (by omega) rfl rfl .head (.tail _ hm) (by simp [ints_length, hx]) (by
        intro v hv
        rcases List.mem_append.1 hv with h | h
        · simp [ints] at h; obtain ⟨z, _, rfl⟩ := h; rfl
        · exact hone v h) (by simp; omega) (l' := ints .u8 xs ++ List.replicate (q - l) (.int .u8 0)) ?_ trivial rfl ?_
      · have h1 : (List.drop 0 (ints .u8 xs ++ lx)).take (l * 1) = ints .u8 xs := by
          rw [List.drop_zero, Nat.mul_one, ← hx, ← ints_length .u8 xs, List.take_left]
        rw [h1]
        have := putAt_append (ints .u8 xs) [] (List.replicate q (.int .u8 0)) (by simp [ints_length, hx]; omega)
        simpa [ints_length, hx] using this
      repeat' (first | (refine isO ?_; first | refine oo (Pc rfl) ?_ | refine oo (Pa rfl (by omega) (by omega)) ?_ | (refine ob rfl ?_ ?_ <;> intro hq <;> try (exfalso; omega)) | refine oo (Pi rfl (by omega)) ?_ | refine oo (Pl rfl) ?_ | refine oo (Px rfl rfl) ?_ | refine oo (Pj rfl (by omega) (by omega)) ?_ | refine oo (Pk rfl (by omega) (by omega)) ?_ | refine oo (Pf rfl) ?_ | refine oo (Pv rfl (by omega) (by omega)) ?_ | refine oo (Pn rfl) ?_ | refine oo (Pm rfl) ?_ | refine os rfl rfl ?_ | refine ot rfl (by omega) ?_ | refine O_nil ?_) | refine wo rfl ?_ | refine wc rfl ?_ | refine wg rfl ?_ | refine go rfl ?_ | refine gc rfl ?_ | refine gg rfl ?_)
      refine O_pure (P_slice1 Tb.u22 Tb.c5 rfl rfl ⟨_, rfl⟩ (by omega) (by omega) (by omega) (by omega)) trivial rfl ?_
      repeat' (first | (refine isO ?_; first | refine oo (Pc rfl) ?_ | refine oo (Pa rfl (by omega) (by omega)) ?_ | (refine ob rfl ?_ ?_ <;> intro hq <;> try (exfalso; omega)) | refine oo (Pi rfl (by omega)) ?_ | refine oo (Pl rfl) ?_ | refine oo (Px rfl rfl) ?_ | refine oo (Pj rfl (by omega) (by omega)) ?_ | refine oo (Pk rfl (by omega) (by omega)) ?_ | refine oo (Pf rfl) ?_ | refine oo (Pv rfl (by omega) (by omega)) ?_ | refine oo (Pn rfl) ?_ | refine oo (Pm rfl) ?_ | refine os rfl rfl ?_ | refine ot rfl (by omega) ?_ | refine O_nil ?_) | refine wo rfl ?_ | refine wc rfl ?_ | refine wg rfl ?_ | refine go rfl ?_ | refine gc rfl ?_ | refine gg rfl ?_)
      refine G_fin ⟨_, rfl, b', q, List.replicate (q - l) (.int .u8 0), ?_, by simp [hx]; omega, by omega, hqm, ?_, rfl⟩
      · simp
      · intro v hv; rw [List.eq_of_mem_replicate hv]; rfl
end Go.Proofs.Ytjkpfliaflmppaa.Bu

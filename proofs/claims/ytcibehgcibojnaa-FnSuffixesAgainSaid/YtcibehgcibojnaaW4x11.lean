/- Joins further down the stack; walks that stop ahead of a region. No condition. Rows arranged anew: split, put together; a function's code in parts. No condition. computeSA, its last part: the sorted LMS places are put, and all is induced from them. Conditions: as the parts ahead of it leave them. A slice made: its block is a new one; a store at a place that is reckoned. No condition. -/
import Derived.Test.YtcibehgcibojnaaW4x06
import Derived.Test.YtcibehgcibojnaaW4x07
import Derived.Test.YtcibehgcibojnaaW4x10

namespace Go.Proofs.Ytcibehgcibojnaa.Vm
open Go Go.RowKit
section
variable {pr : Bool} {P : Program} {N : Fm} {Fin : Post} {k : List Kn} {E : Env} {M : Mem}
theorem post_join {J : Env → Mem → Prop} (h2 : ∀ E' M', J E' M' → post pr P N Fin k .normal E' M') : ∀ (pre : List Kn) (e : Exit) (E : Env) (M : Mem), post pr P N Fin (pre ++ .stop J :: k) e E M → post pr P N Fin (pre ++ k) e E M
  | [], e, E, M, h => by
    cases e with
    | normal => exact h2 E M h
    | _ => exact h
  | .code c :: pre, e, E, M, h => by
    cases e with
    | normal => exact V_mono (show V pr P N c (post pr P N Fin (pre ++ .stop J :: k)) E M from h) (post_join h2 pre)
    | _ => exact post_join h2 pre _ E M h
  | .blk id :: pre, e, E, M, h => by
    cases e with
    | exit i =>
      have h : (if i = id then post pr P N Fin (pre ++ .stop J :: k) .normal E M else post pr P N Fin (pre ++ .stop J :: k) (.exit i) E M) := h
      show (if i = id then post pr P N Fin (pre ++ k) .normal E M else post pr P N Fin (pre ++ k) (.exit i) E M)
      by_cases hi : i = id
      · rw [if_pos hi] at h ⊢; exact post_join h2 pre _ E M h
      · rw [if_neg hi] at h ⊢; exact post_join h2 pre _ E M h
    | _ => exact post_join h2 pre _ E M h
  | .stop K :: pre, e, E, M, h => by
    cases e with
    | normal => exact h
    | _ => exact post_join h2 pre _ E M h
theorem W_join1 {c : Code} {x : Kn} (J : Env → Mem → Prop) (h1 : W pr P N Fin c (x :: .stop J :: k) E M) (h2 : ∀ E' M', J E' M' → G pr P N Fin .normal k E' M') : W pr P N Fin c (x :: k) E M :=
  ⟨V_mono h1.out (post_join (fun E' M' h => (h2 E' M' h).out) [x])⟩
theorem Sub.trans {E L : Env} (h : Sub E L) : ∀ {L' : Env}, Sub L L' → Sub E L'
  | [], _ => trivial
  | (_, _) :: _, h2 => ⟨h.get h2.1, Sub.trans h h2.2⟩
structure Stop (l : List Nat) : Prop where
def outOf : List Nat → Nat → Bool
  | [], _ => true
  | x :: l, i => bif Nat.beq i x then false else outOf l i
theorem wu {r : List Nat} {c : Code} {id : Nat} {l : List Oper} {k' : List Kn} (_ : Stop r) (h : runK E 100 (.w c k) = .w (.region id l.toArray false) k') (_ : outOf r id = true) (h2 : WO pr P N Fin l l k' E M) : W pr P N Fin c k E M := wo h h2
theorem gu {r : List Nat} {e : Exit} {id : Nat} {l : List Oper} {k' : List Kn} (_ : Stop r) (h : runK E 100 (.g e k) = .w (.region id l.toArray false) k') (_ : outOf r id = true) (h2 : WO pr P N Fin l l k' E M) : G pr P N Fin e k E M := go h h2
end
end Go.Proofs.Ytcibehgcibojnaa.Vm

namespace Go.Proofs.Ytcibehgcibojnaa.Vm
open Go Go.RowKit
theorem Sim.join {pr : Bool} {base : Nat} {w0 w : World} {M : Mem} {own : Bool} {b o o2 : Nat} {xs ys : List Value} (h : Sim pr base w0 w (⟨own, b, o, xs⟩ :: ⟨own, b, o2, ys⟩ :: M)) (ho : o2 = o + xs.length) (hM : ∀ t ∈ M, t.l ≠ []) :
    Sim pr base w0 w (⟨own, b, o, xs ++ ys⟩ :: M) := by
  subst ho
  obtain ⟨c, T, lo, hi, hh, h1, h2, h3⟩ := h.seg _ (.head _)
  obtain ⟨c', T', lo', hi', hh', h1', h2', h3'⟩ := h.seg _ (.tail _ (.head _))
  have hd := h.dis
  have hh' : w.heap[b]? = some (.cells c' T' (lo', hi')) := hh'
  have hh : w.heap[b]? = some (.cells c T (lo, hi)) := hh
  rw [hh] at hh'
  simp only [Option.some.injEq, Obj.cells.injEq, Prod.mk.injEq] at hh'
  obtain ⟨rfl, rfl, rfl, rfl⟩ := hh'
  cases hd with
  | cons hd1 hd2 =>
    cases hd2 with
    | cons hd3 hd4 =>
      refine ⟨h.bel, h.hb, ?_, ?_, h.same⟩
      · intro s hs
        cases hs with
        | head =>
          refine ⟨c, T, lo, hi, hh, ?_, fun i hi => ?_, h3⟩
          · have h1' : o + xs.length + ys.length ≤ c.size := h1'
            show o + (xs ++ ys).length ≤ c.size
            rw [List.length_append]
            omega
          · simp only [List.length_append] at hi
            by_cases hx : i < xs.length
            · rw [List.getElem?_append_left hx]
              exact h2 i hx
            · rw [List.getElem?_append_right (by omega)]
              have h4 : c[o + xs.length + (i - xs.length)]? = ys[i - xs.length]? := h2' (i - xs.length) (by show i - xs.length < ys.length; omega)
              rw [← h4]
              show c[o + i]? = _
              congr 1
              omega
        | tail _ hs => exact h.seg s (.tail _ (.tail _ hs))
      · refine .cons (fun t ht => ?_) hd4
        have k1 := hd1 t (.tail _ ht)
        have k2 := hd3 t ht
        unfold Sg.apart at *
        simp only [List.length_append] at k1 k2 ⊢
        rcases k1 with k1 | k1 | k1 | k1
        · exact .inl k1
        · exact .inr (.inl k1)
        · rcases k2 with k2 | k2 | k2 | k2
          · exact .inl k2
          · exact .inr (.inl k2)
          · exact .inr (.inr (.inl (by omega)))
          · have := List.length_pos_iff.2 (hM t ht)
            omega
        · exact .inr (.inr (.inr (by omega)))
structure Rs (M L : Mem) : Prop where
  out : ∀ {base : Nat} {w0 w : World}, Sim false base w0 w M → Sim false base w0 w L
theorem Rs.of {M L : Mem} (h : Rk M L) : Rs M L := ⟨fun hS => hS.rk h⟩
theorem Rs.trans {M L K : Mem} (h : Rs M L) (h2 : Rs L K) : Rs M K := ⟨fun hS => h2.out (h.out hS)⟩
theorem Rs.split {M : Mem} {own : Bool} {b o o2 : Nat} {l xs ys : List Value} (hl : l = xs ++ ys) (ho : o2 = o + xs.length) : Rs (⟨own, b, o, l⟩ :: M) (⟨own, b, o, xs⟩ :: ⟨own, b, o2, ys⟩ :: M) := ⟨fun hS => by
  subst hl; exact hS.split ho⟩
theorem Rs.join {M : Mem} {own : Bool} {b o o2 : Nat} {l xs ys : List Value} (hl : l = xs ++ ys) (ho : o2 = o + xs.length) (hM : ∀ t ∈ M, t.l ≠ []) : Rs (⟨own, b, o, xs⟩ :: ⟨own, b, o2, ys⟩ :: M) (⟨own, b, o, l⟩ :: M) := ⟨fun hS => by
  subst hl; exact hS.join ho hM⟩
section
variable {P : Program} {N : Fm} {Fin : Post} {k : List Kn} {E : Env} {M : Mem} {ops rest : List Oper}
theorem O_re {M' : Mem} (ht : Rs M M') (h : WO false P N Fin ops rest k E M') : WO false P N Fin ops rest k E M := ⟨⟨fun base w0 a w hA hS => h.out.out base w0 a w hA (ht.out hS)⟩⟩
theorem W_re {c : Code} {M' : Mem} (ht : Rs M M') (h : W false P N Fin c k E M') : W false P N Fin c k E M := ⟨⟨fun base w0 a w hA hS => h.out.out base w0 a w hA (ht.out hS)⟩⟩
end
section
variable {P : Program} {N : Fm} {E : Env} {M : Mem} {ops : List Oper} {o : Oper} {d : Nat}
theorem Pfl {p q r : Int} {kd : IntKind} (h : bin2 N.n ops E o = some (d, .and, kd, p, kd, q)) (hr : bitop .and kd p q = some r) : PS P N ops E M o d (.int kd r) := by
  obtain ⟨t, x, y, t2, hon, hx, hy⟩ := bin2_spec h
  exact ps_of hon (P_bits (op := .and) hx hy hr)
theorem Pfo {p q r : Int} {kd : IntKind} (h : bin2 N.n ops E o = some (d, .or, kd, p, kd, q)) (hr : bitop .or kd p q = some r) : PS P N ops E M o d (.int kd r) := by
  obtain ⟨t, x, y, t2, hon, hx, hy⟩ := bin2_spec h
  exact ps_of hon (P_bits (op := .or) hx hy hr)
end
def tl : Nat → Code → Code
  | 0, c => c
  | n + 1, .seq _ c => tl n c
  | _ + 1, c => c
def bodyOf (f : Func) : Code := match f.body with
  | some c => c
  | none => .skip
theorem ints_append (kd : IntKind) (a b : List Int) : ints kd (a ++ b) = ints kd a ++ ints kd b := by
  unfold ints
  rw [List.map_append]
theorem ints_ne {kd : IntKind} {a : List Int} (h : 0 < a.length) : ints kd a ≠ [] := fun e => by
  have := congrArg List.length e
  rw [ints_length] at this
  simp only [List.length_nil] at this
  omega
end Go.Proofs.Ytcibehgcibojnaa.Vm

namespace Go.Proofs.Ytcibehgcibojnaa.Saib
open Go Go.RowKit Go.Proofs.Ytcibehgcibojnaa.Vm Go.Proofs.Ytcibehgcibojnaa.Sais
set_option maxHeartbeats 8000000 in
theorem partE (T : List Nat) (k : Nat) (hT : Txt T k) (fs : Nat) (fl : Int) (hfl8 : bitop .and .u64 fl 8 = some 0) (SA C B : List Int) (m : Nat)
    (hmN : m ≤ T.length) (hcase : (2 ≤ m ∧ ∃ L, SrtS T L ∧ L.length = m ∧ SA.length = T.length ∧ ∀ a, a < m → rd SA (a : Int) = (ch L a : Nat)) ∨ (m ≤ 1 ∧ ∃ G, Seeds T G ∧ Cel0 T E3L G SA)) (hC : Cnt T T.length k C) (hB : B.length = k)
    (own : Bool) (bT oT lT cT bS oS lS cS bB oB lB cB bC : Nat) (F : Mem) (hlT : T.length ≤ lT) (hlS : T.length ≤ lS) (hlB : k ≤ lB) (hne : bC ≠ bB) (R : Value → Mem → Prop)
    (hR : ∀ SA' B' : List Int, SufA T SA' → SA'.length = T.length → B'.length = k → ∃ Mf, Rs (⟨own, bT, oT, ints .u8 (T.map Nat.cast)⟩ :: ⟨true, bS, oS, ints .i64 SA'⟩ :: ⟨true, bC, 0, ints .i64 C⟩ :: ⟨true, bB, oB, ints .i64 B'⟩ :: F) Mf ∧ R (.tuple #[]) Mf) :
    W false Try.prog ⟨Try.f12.ntmps, []⟩ (Vm.Ends Try.f12.results.toList R) (tl 19 (bodyOf Try.f12)) [] [(0, .slice (some ⟨bT, oT, none⟩) lT cT), (1, .slice (some ⟨bS, oS, none⟩) lS cS), (2, .int .i64 (fs : Nat)), (3, .int .i64 T.length), (4, .int .i64 k), (10, .slice (some ⟨bC, 0, none⟩) k k), (11, .slice (some ⟨bB, oB, none⟩) lB cB), (18, .int .i64 m), (25, .int .u64 fl)] (⟨own, bT, oT, ints .u8 (T.map Nat.cast)⟩ :: ⟨true, bS, oS, ints .i64 SA⟩ :: ⟨true, bC, 0, ints .i64 C⟩ :: ⟨true, bB, oB, ints .i64 B⟩ :: F) := by
  have hn0 := hT.n0
  have hn1 := hT.n1
  have hk1 := hT.k1
  have hlt := hT.lt
  have hk0 := hT.k0
  have hlen : (T.map (Nat.cast : Nat → Int)).length = T.length := List.length_map _
  have hSl : SA.length = T.length := by
    rcases hcase with ⟨_, _, _, _, h, _⟩ | ⟨_, _, _, h⟩
    · exact h
    · exact h.1
  have hstop : Stop [137] := ⟨⟩
  repeat' (first|(refine isO ?_;first|refine oo (Pc rfl) ?_|refine oo (Pa rfl (by omega) (by omega)) ?_|(refine ob rfl ?_ ?_<;>intro hq<;>try (exfalso;omega))|refine oo (Pi rfl (by first|omega|(simp only [wr_length];omega))) ?_|refine oo (Pz rfl (by omega) (by omega)) ?_|refine oo (Pl rfl) ?_|refine oo (Px rfl rfl) ?_|refine oo (Pj rfl (by omega) (by omega)) ?_|refine oo (Pk rfl (by omega) (by omega)) ?_|refine oo (Pf rfl) ?_|refine oo (Pv rfl (by omega) (by omega)) ?_|refine oo (Pn rfl) ?_|refine oo (Ph rfl) ?_|refine oo (Pg rfl (by omega) (by omega)) ?_|refine oo (Pe rfl (by omega) (by omega)) ?_|refine oo (Po rfl (by omega) (by omega)) ?_|refine oo (Pm rfl) ?_|refine os rfl rfl ?_|refine ot rfl (by first|omega|(simp only [wr_length];omega)) ?_|refine O_nil ?_)|refine wu hstop rfl rfl ?_|refine gu hstop rfl rfl ?_|refine wc rfl ?_|refine wg rfl ?_|refine gc rfl ?_|refine gg rfl ?_)
  refine oo (Pfl rfl hfl8) ?_
  repeat' (first|(refine isO ?_;first|refine oo (Pc rfl) ?_|refine oo (Pa rfl (by omega) (by omega)) ?_|(refine ob rfl ?_ ?_<;>intro hq<;>try (exfalso;omega))|refine oo (Pi rfl (by first|omega|(simp only [wr_length];omega))) ?_|refine oo (Pz rfl (by omega) (by omega)) ?_|refine oo (Pl rfl) ?_|refine oo (Px rfl rfl) ?_|refine oo (Pj rfl (by omega) (by omega)) ?_|refine oo (Pk rfl (by omega) (by omega)) ?_|refine oo (Pf rfl) ?_|refine oo (Pv rfl (by omega) (by omega)) ?_|refine oo (Pn rfl) ?_|refine oo (Ph rfl) ?_|refine oo (Pg rfl (by omega) (by omega)) ?_|refine oo (Pe rfl (by omega) (by omega)) ?_|refine oo (Po rfl (by omega) (by omega)) ?_|refine oo (Pm rfl) ?_|refine os rfl rfl ?_|refine ot rfl (by first|omega|(simp only [wr_length];omega)) ?_|refine O_nil ?_)|refine wu hstop rfl rfl ?_|refine gu hstop rfl rfl ?_|refine wc rfl ?_|refine wg rfl ?_|refine gc rfl ?_|refine gg rfl ?_)
  clear hstop
  refine W_join1 (fun E' M' => ∃ SA B, (∃ G, Seeds T G ∧ Cel0 T E3L G SA) ∧ B.length = k ∧ Sub E' [(0, .slice (some ⟨bT, oT, none⟩) lT cT), (1, .slice (some ⟨bS, oS, none⟩) lS cS), (2, .int .i64 (fs : Nat)), (3, .int .i64 T.length), (4, .int .i64 k), (10, .slice (some ⟨bC, 0, none⟩) k k), (11, .slice (some ⟨bB, oB, none⟩) lB cB)] ∧ Rk M' (⟨own, bT, oT, ints .u8 (T.map Nat.cast)⟩ :: ⟨true, bS, oS, ints .i64 SA⟩ :: ⟨true, bC, 0, ints .i64 C⟩ :: ⟨true, bB, oB, ints .i64 B⟩ :: F)) ?_ ?_
  · by_cases hm2 : 1 < m
    · have hcase := hcase.resolve_right fun h => by omega
      obtain ⟨_, L, hS, hLm, hl, hL⟩ := hcase
      subst hLm
      have hP := Pls.start hS hl hL
      have hmn : L.length ≤ T.length := by rw [hS.len]; have := lmsF_le T _ 0 (Nat.le_refl _); omega
      have h1 := hL (L.length - 1) (by omega)
      have e0 : (L.length : Int) - 1 = ((L.length - 1 : Nat) : Int) := by omega
      have h2 := lms_lt (hS.lms (show L.length - 1 < L.length by omega))
      have e1 : rd SA ((L.length : Int) - 1) = (ch L (L.length - 1) : Nat) := by rw [e0]; exact h1
      have e2 : rd (T.map Nat.cast) (rd SA ((L.length : Int) - 1)) = (ch T (ch L (L.length - 1)) : Nat) := by rw [e1]; exact rd_ch _ _
      have c1 := hlt (ch L (L.length - 1))
      repeat' (first|(refine isO ?_;first|refine oo (Pc rfl) ?_|refine oo (Pa rfl (by omega) (by omega)) ?_|(refine ob rfl ?_ ?_<;>intro hq<;>try (exfalso;omega))|refine oo (Pi rfl (by first|omega|(simp only [wr_length];omega))) ?_|refine oo (Pz rfl (by omega) (by omega)) ?_|refine oo (Pl rfl) ?_|refine oo (Px rfl rfl) ?_|refine oo (Pj rfl (by omega) (by omega)) ?_|refine oo (Pk rfl (by omega) (by omega)) ?_|refine oo (Pf rfl) ?_|refine oo (Pv rfl (by omega) (by omega)) ?_|refine oo (Pn rfl) ?_|refine oo (Ph rfl) ?_|refine oo (Pg rfl (by omega) (by omega)) ?_|refine oo (Pe rfl (by omega) (by omega)) ?_|refine oo (Po rfl (by omega) (by omega)) ?_|refine oo (Pm rfl) ?_|refine os rfl rfl ?_|refine ot rfl (by first|omega|(simp only [wr_length];omega)) ?_|refine O_nil ?_)|refine wo rfl ?_|refine wc rfl ?_|refine wg rfl ?_|refine go rfl ?_|refine gc rfl ?_|refine gg rfl ?_)
      refine O_weak (M' := ⟨true, bC, 0, ints .i64 C⟩ :: ⟨true, bB, oB, ints .i64 B⟩ :: ⟨own, bT, oT, ints .u8 (T.map Nat.cast)⟩ :: ⟨true, bS, oS, ints .i64 SA⟩ :: F) (by repeat (first | exact .rfl | exact .nil | (apply Rk.cons; (· exact TakeI.out)) | refine .drop ?_)) ?_
      refine O_call rfl rfl Tb.k14 trivial rfl (ends_c T k hT C B bB oB lB cB bC 0 k k _ hlB (Nat.le_refl _) hC hB) ?_
      rintro _ _ ⟨rfl, B1, hB1, rfl⟩
      have hB1l := hB1.1
      repeat' (first|(refine isO ?_;first|refine oo (Pc rfl) ?_|refine oo (Pa rfl (by omega) (by omega)) ?_|(refine ob rfl ?_ ?_<;>intro hq<;>try (exfalso;omega))|refine oo (Pi rfl (by first|omega|(simp only [wr_length];omega))) ?_|refine oo (Pz rfl (by omega) (by omega)) ?_|refine oo (Pl rfl) ?_|refine oo (Px rfl rfl) ?_|refine oo (Pj rfl (by omega) (by omega)) ?_|refine oo (Pk rfl (by omega) (by omega)) ?_|refine oo (Pf rfl) ?_|refine oo (Pv rfl (by omega) (by omega)) ?_|refine oo (Pn rfl) ?_|refine oo (Ph rfl) ?_|refine oo (Pg rfl (by omega) (by omega)) ?_|refine oo (Pe rfl (by omega) (by omega)) ?_|refine oo (Po rfl (by omega) (by omega)) ?_|refine oo (Pm rfl) ?_|refine os rfl rfl ?_|refine ot rfl (by first|omega|(simp only [wr_length];omega)) ?_|refine O_nil ?_)|refine wo rfl ?_|refine wc rfl ?_|refine wg rfl ?_|refine go rfl ?_|refine gc rfl ?_|refine gg rfl ?_)
      rw [e2, e1, e0]
      clear hL h1 e1 e2 e0 c1 h2 hB hcase
      refine W_loop (α := Nat × Nat × List Int) (fun x => [(0, .slice (some ⟨bT, oT, none⟩) lT cT), (1, .slice (some ⟨bS, oS, none⟩) lS cS), (2, .int .i64 (fs : Nat)), (3, .int .i64 T.length), (4, .int .i64 k), (10, .slice (some ⟨bC, 0, none⟩) k k), (11, .slice (some ⟨bB, oB, none⟩) lB cB), (16, .int .i64 x.1), (17, .int .i64 x.2.1), (19, .int .i64 (ch L x.1 : Nat)), (24, .int .i64 (ch T (ch L x.1) : Nat))])
        (fun x => ⟨own, bT, oT, ints .u8 (T.map Nat.cast)⟩ :: ⟨true, bS, oS, ints .i64 x.2.2⟩ :: ⟨true, bC, 0, ints .i64 C⟩ :: ⟨true, bB, oB, ints .i64 B1⟩ :: F) (fun x => x.1 < L.length ∧ Pls T L (x.1 + 1) x.2.1 x.2.2 ∧ (x.1 + 1 < L.length → ch T (ch L x.1) ≠ ch T (ch L (x.1 + 1))) ∧ bst T (ch T (ch L x.1) + 1) ≤ x.2.1) (fun x => x.1)
        (L.length - 1, T.length, SA) ⟨by dsimp only; omega, by dsimp only; rw [show L.length - 1 + 1 = L.length by omega]; exact hP, fun h => by dsimp only at h; omega, bst_le T _⟩ (by (repeat (first | exact trivial | refine ⟨rfl, ?_⟩))) (by repeat (first | exact .rfl | exact .nil | (apply Rk.cons; (· exact TakeI.out)) | refine .drop ?_)) ?_
      clear hP hl hSl SA
      rintro ⟨a, j, SA⟩ ⟨ha, hP, htop, hbj⟩
      dsimp only at ha hP htop hbj ⊢
      have c1 := hlt (ch L a)
      have e3 : rd B1 (ch T (ch L a) : Nat) = (bst T (ch T (ch L a) + 1) : Nat) := hB1.2 _ c1
      have hbn := bst_le T (ch T (ch L a) + 1)
      repeat' (first|(refine isO ?_;first|refine oo (Pc rfl) ?_|refine oo (Pa rfl (by omega) (by omega)) ?_|(refine ob rfl ?_ ?_<;>intro hq<;>try (exfalso;omega))|refine oo (Pi rfl (by first|omega|(simp only [wr_length];omega))) ?_|refine oo (Pz rfl (by omega) (by omega)) ?_|refine oo (Pl rfl) ?_|refine oo (Px rfl rfl) ?_|refine oo (Pj rfl (by omega) (by omega)) ?_|refine oo (Pk rfl (by omega) (by omega)) ?_|refine oo (Pf rfl) ?_|refine oo (Pv rfl (by omega) (by omega)) ?_|refine oo (Pn rfl) ?_|refine oo (Ph rfl) ?_|refine oo (Pg rfl (by omega) (by omega)) ?_|refine oo (Pe rfl (by omega) (by omega)) ?_|refine oo (Po rfl (by omega) (by omega)) ?_|refine oo (Pm rfl) ?_|refine os rfl rfl ?_|refine ot rfl (by first|omega|(simp only [wr_length];omega)) ?_|refine O_nil ?_)|refine wo rfl ?_|refine wc rfl ?_|refine wg rfl ?_|refine go rfl ?_|refine gc rfl ?_|refine gg rfl ?_)
      rw [e3]
      refine W_loop (α := Nat × List Int) (fun x => [(0, .slice (some ⟨bT, oT, none⟩) lT cT), (1, .slice (some ⟨bS, oS, none⟩) lS cS), (2, .int .i64 (fs : Nat)), (3, .int .i64 T.length), (4, .int .i64 k), (10, .slice (some ⟨bC, 0, none⟩) k k), (11, .slice (some ⟨bB, oB, none⟩) lB cB), (16, .int .i64 a), (17, .int .i64 x.1), (19, .int .i64 (ch L a : Nat)), (20, .int .i64 (bst T (ch T (ch L a) + 1) : Nat)), (23, .int .i64 (ch T (ch L a) : Nat)), (24, .int .i64 (ch T (ch L a) : Nat))])
        (fun x => ⟨own, bT, oT, ints .u8 (T.map Nat.cast)⟩ :: ⟨true, bS, oS, ints .i64 x.2⟩ :: ⟨true, bC, 0, ints .i64 C⟩ :: ⟨true, bB, oB, ints .i64 B1⟩ :: F) (fun x => Pls T L (a + 1) x.1 x.2 ∧ bst T (ch T (ch L a) + 1) ≤ x.1) (fun x => x.1) (j, SA) ⟨hP, hbj⟩ (by (repeat (first | exact trivial | refine ⟨rfl, ?_⟩))) (by repeat (first | exact .rfl | exact .nil | (apply Rk.cons; (· exact TakeI.out)) | refine .drop ?_)) ?_
      clear hP hbj j SA
      rintro ⟨j, SA⟩ ⟨hP, hbj⟩
      dsimp only at hP hbj ⊢
      have hPl := hP.len
      have hPn := hP.jn
      by_cases hj : bst T (ch T (ch L a) + 1) < j
      · obtain ⟨jj, rfl⟩ : ∃ jj, j = jj + 1 := ⟨j - 1, by omega⟩
        have e0 : (((jj + 1 : Nat) : Int) - 1) = (jj : Int) := by omega
        have hz := hP.zero hS fun b hb => by
          have h1 := (hS.plc_in ha).2
          by_cases e : b = a
          · subst e; omega
          · have := hS.plc_mono' (show b < a by omega) ha
            omega
        repeat' (first|(refine isO ?_;first|refine oo (Pc rfl) ?_|refine oo (Pa rfl (by omega) (by omega)) ?_|(refine ob rfl ?_ ?_<;>intro hq<;>try (exfalso;omega))|refine oo (Pi rfl (by first|omega|(simp only [wr_length];omega))) ?_|refine oo (Pz rfl (by omega) (by omega)) ?_|refine oo (Pl rfl) ?_|refine oo (Px rfl rfl) ?_|refine oo (Pj rfl (by omega) (by omega)) ?_|refine oo (Pk rfl (by omega) (by omega)) ?_|refine oo (Pf rfl) ?_|refine oo (Pv rfl (by omega) (by omega)) ?_|refine oo (Pn rfl) ?_|refine oo (Ph rfl) ?_|refine oo (Pg rfl (by omega) (by omega)) ?_|refine oo (Pe rfl (by omega) (by omega)) ?_|refine oo (Po rfl (by omega) (by omega)) ?_|refine oo (Pm rfl) ?_|refine os rfl rfl ?_|refine ot rfl (by first|omega|(simp only [wr_length];omega)) ?_|refine O_nil ?_)|refine wo rfl ?_|refine wc rfl ?_|refine wg rfl ?_|refine go rfl ?_|refine gc rfl ?_|refine gg rfl ?_)
        rw [e0]
        exact G_stop ⟨(jj, _), ⟨hz, by dsimp only; omega⟩, by dsimp only; omega, by (repeat (first | exact trivial | refine ⟨rfl, ?_⟩)), .rfl⟩
      · have hjj : j = bst T (ch T (ch L a) + 1) := by omega
        have hpt := hS.plc_top ha htop
        repeat' (first|(refine isO ?_;first|refine oo (Pc rfl) ?_|refine oo (Pa rfl (by omega) (by omega)) ?_|(refine ob rfl ?_ ?_<;>intro hq<;>try (exfalso;omega))|refine oo (Pi rfl (by first|omega|(simp only [wr_length];omega))) ?_|refine oo (Pz rfl (by omega) (by omega)) ?_|refine oo (Pl rfl) ?_|refine oo (Px rfl rfl) ?_|refine oo (Pj rfl (by omega) (by omega)) ?_|refine oo (Pk rfl (by omega) (by omega)) ?_|refine oo (Pf rfl) ?_|refine oo (Pv rfl (by omega) (by omega)) ?_|refine oo (Pn rfl) ?_|refine oo (Ph rfl) ?_|refine oo (Pg rfl (by omega) (by omega)) ?_|refine oo (Pe rfl (by omega) (by omega)) ?_|refine oo (Po rfl (by omega) (by omega)) ?_|refine oo (Pm rfl) ?_|refine os rfl rfl ?_|refine ot rfl (by first|omega|(simp only [wr_length];omega)) ?_|refine O_nil ?_)|refine wo rfl ?_|refine wc rfl ?_|refine wg rfl ?_|refine go rfl ?_|refine gc rfl ?_|refine gg rfl ?_)
        refine W_join1 (fun E' M' => ∃ (a' j : Nat) (SA : List Int) (pz cz : Int), a' ≤ a ∧ Pls T L a' j SA ∧ (0 < a' → pz = (ch L (a' - 1) : Nat) ∧ cz = (ch T (ch L (a' - 1)) : Nat) ∧ ch T (ch L (a' - 1)) ≠ ch T (ch L a') ∧ bst T (ch T (ch L (a' - 1)) + 1) ≤ j) ∧ Sub E' [(0, .slice (some ⟨bT, oT, none⟩) lT cT), (1, .slice (some ⟨bS, oS, none⟩) lS cS), (2, .int .i64 (fs : Nat)), (3, .int .i64 T.length), (4, .int .i64 k), (10, .slice (some ⟨bC, 0, none⟩) k k), (11, .slice (some ⟨bB, oB, none⟩) lB cB), (16, .int .i64 ((a' : Int) - 1)), (17, .int .i64 j), (19, .int .i64 pz), (24, .int .i64 cz)] ∧ Rk M' (⟨own, bT, oT, ints .u8 (T.map Nat.cast)⟩ :: ⟨true, bS, oS, ints .i64 SA⟩ :: ⟨true, bC, 0, ints .i64 C⟩ :: ⟨true, bB, oB, ints .i64 B1⟩ :: F)) ?_ ?_
        · refine W_loop (α := Nat × Nat × List Int) (fun x => [(0, .slice (some ⟨bT, oT, none⟩) lT cT), (1, .slice (some ⟨bS, oS, none⟩) lS cS), (2, .int .i64 (fs : Nat)), (3, .int .i64 T.length), (4, .int .i64 k), (10, .slice (some ⟨bC, 0, none⟩) k k), (11, .slice (some ⟨bB, oB, none⟩) lB cB), (16, .int .i64 x.1), (17, .int .i64 x.2.1), (19, .int .i64 (ch L x.1 : Nat)), (23, .int .i64 (ch T (ch L a) : Nat)), (24, .int .i64 (ch T (ch L x.1) : Nat))])
            (fun x => ⟨own, bT, oT, ints .u8 (T.map Nat.cast)⟩ :: ⟨true, bS, oS, ints .i64 x.2.2⟩ :: ⟨true, bC, 0, ints .i64 C⟩ :: ⟨true, bB, oB, ints .i64 B1⟩ :: F) (fun x => x.1 ≤ a ∧ Pls T L (x.1 + 1) x.2.1 x.2.2 ∧ ch T (ch L x.1) = ch T (ch L a) ∧ plc T L x.1 + 1 = x.2.1) (fun x => x.1) (a, j, SA) ⟨Nat.le_refl _, hP, rfl, by dsimp only; omega⟩ (by (repeat (first | exact trivial | refine ⟨rfl, ?_⟩))) (by repeat (first | exact .rfl | exact .nil | (apply Rk.cons; (· exact TakeI.out)) | refine .drop ?_)) ?_
          clear hP hPl hPn hjj hpt hj hbj
          rintro ⟨x, j, SA⟩ ⟨hx, hP, hxc, hxj⟩
          dsimp only at hx hP hxc hxj ⊢
          have hPl := hP.len
          have hPn := hP.jn
          obtain ⟨jj, rfl⟩ : ∃ jj, j = jj + 1 := ⟨j - 1, by omega⟩
          have ej : (((jj + 1 : Nat) : Int) - 1) = (jj : Int) := by omega
          have hp := hP.put hS (show plc T L x = jj by omega)
          cases x with
          | zero =>
            repeat' (first|(refine isO ?_;first|refine oo (Pc rfl) ?_|refine oo (Pa rfl (by omega) (by omega)) ?_|(refine ob rfl ?_ ?_<;>intro hq<;>try (exfalso;omega))|refine oo (Pi rfl (by first|omega|(simp only [wr_length];omega))) ?_|refine oo (Pz rfl (by omega) (by omega)) ?_|refine oo (Pl rfl) ?_|refine oo (Px rfl rfl) ?_|refine oo (Pj rfl (by omega) (by omega)) ?_|refine oo (Pk rfl (by omega) (by omega)) ?_|refine oo (Pf rfl) ?_|refine oo (Pv rfl (by omega) (by omega)) ?_|refine oo (Pn rfl) ?_|refine oo (Ph rfl) ?_|refine oo (Pg rfl (by omega) (by omega)) ?_|refine oo (Pe rfl (by omega) (by omega)) ?_|refine oo (Po rfl (by omega) (by omega)) ?_|refine oo (Pm rfl) ?_|refine os rfl rfl ?_|refine ot rfl (by first|omega|(simp only [wr_length];omega)) ?_|refine O_nil ?_)|refine wo rfl ?_|refine wc rfl ?_|refine wg rfl ?_|refine go rfl ?_|refine gc rfl ?_|refine gg rfl ?_)
            rw [ej]
            exact G_stop ⟨0, jj, _, _, _, Nat.zero_le _, hp, fun h => absurd h (Nat.lt_irrefl 0), by (repeat (first | exact trivial | refine ⟨rfl, ?_⟩)), .rfl⟩
          | succ u =>
            have eu : (((u + 1 : Nat) : Int) - 1) = (u : Int) := by omega
            have e5 : rd (wr SA (((jj + 1 : Nat) : Int) - 1) (ch L (u + 1) : Nat)) (((u + 1 : Nat) : Int) - 1) = (ch L u : Nat) := by rw [ej, eu]; exact hp.low u (by omega)
            have e6 : rd (T.map Nat.cast) (rd (wr SA (((jj + 1 : Nat) : Int) - 1) (ch L (u + 1) : Nat)) (((u + 1 : Nat) : Int) - 1)) = (ch T (ch L u) : Nat) := by rw [e5]; exact rd_ch _ _
            have c2 := hlt (ch L u)
            have h2 := lms_lt (hS.lms (show u < L.length by omega))
            by_cases hc : ch T (ch L u) = ch T (ch L a)
            · have hs := hS.plc_same (b := u) (by omega) (by rw [hc, hxc])
              repeat' (first|(refine isO ?_;first|refine oo (Pc rfl) ?_|refine oo (Pa rfl (by omega) (by omega)) ?_|(refine ob rfl ?_ ?_<;>intro hq<;>try (exfalso;omega))|refine oo (Pi rfl (by first|omega|(simp only [wr_length];omega))) ?_|refine oo (Pz rfl (by omega) (by omega)) ?_|refine oo (Pl rfl) ?_|refine oo (Px rfl rfl) ?_|refine oo (Pj rfl (by omega) (by omega)) ?_|refine oo (Pk rfl (by omega) (by omega)) ?_|refine oo (Pf rfl) ?_|refine oo (Pv rfl (by omega) (by omega)) ?_|refine oo (Pn rfl) ?_|refine oo (Ph rfl) ?_|refine oo (Pg rfl (by omega) (by omega)) ?_|refine oo (Pe rfl (by omega) (by omega)) ?_|refine oo (Po rfl (by omega) (by omega)) ?_|refine oo (Pm rfl) ?_|refine os rfl rfl ?_|refine ot rfl (by first|omega|(simp only [wr_length];omega)) ?_|refine O_nil ?_)|refine wo rfl ?_|refine wc rfl ?_|refine wg rfl ?_|refine go rfl ?_|refine gc rfl ?_|refine gg rfl ?_)
              rw [e6, e5, ej, eu]
              exact G_stop ⟨(u, jj, _), ⟨by dsimp only; omega, hp, hc, by dsimp only; omega⟩, by dsimp only; omega, by (repeat (first | exact trivial | refine ⟨rfl, ?_⟩)), .rfl⟩
            · have hb1 : bst T (ch T (ch L u) + 1) ≤ jj := by
                have h3 := (hS.plc_in (show u + 1 < L.length by omega)).1
                have h4 := hS.chle (show u ≤ u + 1 by omega) (show u + 1 < L.length by omega)
                have h5 : bst T (ch T (ch L u) + 1) ≤ bst T (ch T (ch L (u + 1))) := bst_mono T (by omega)
                omega
              repeat' (first|(refine isO ?_;first|refine oo (Pc rfl) ?_|refine oo (Pa rfl (by omega) (by omega)) ?_|(refine ob rfl ?_ ?_<;>intro hq<;>try (exfalso;omega))|refine oo (Pi rfl (by first|omega|(simp only [wr_length];omega))) ?_|refine oo (Pz rfl (by omega) (by omega)) ?_|refine oo (Pl rfl) ?_|refine oo (Px rfl rfl) ?_|refine oo (Pj rfl (by omega) (by omega)) ?_|refine oo (Pk rfl (by omega) (by omega)) ?_|refine oo (Pf rfl) ?_|refine oo (Pv rfl (by omega) (by omega)) ?_|refine oo (Pn rfl) ?_|refine oo (Ph rfl) ?_|refine oo (Pg rfl (by omega) (by omega)) ?_|refine oo (Pe rfl (by omega) (by omega)) ?_|refine oo (Po rfl (by omega) (by omega)) ?_|refine oo (Pm rfl) ?_|refine os rfl rfl ?_|refine ot rfl (by first|omega|(simp only [wr_length];omega)) ?_|refine O_nil ?_)|refine wo rfl ?_|refine wc rfl ?_|refine wg rfl ?_|refine go rfl ?_|refine gc rfl ?_|refine gg rfl ?_)
              rw [e6, e5, ej, eu]
              exact G_stop ⟨u + 1, jj, _, _, _, hx, hp, fun _ => ⟨rfl, rfl, by show ch T (ch L u) ≠ _; rw [hxc]; exact hc, hb1⟩, by rw [eu]; (repeat (first | exact trivial | refine ⟨rfl, ?_⟩)), .rfl⟩
        clear hP hPl hPn hjj hpt hj hbj
        rintro E' M' ⟨a', j, SA, pz, cz, ha', hP, hz, hsub, hrk⟩
        refine G_code (W_weak hsub hrk ?_)
        clear hsub hrk E' M'
        cases a' with
        | succ u =>
          obtain ⟨rfl, rfl, hz1, hz2⟩ := hz (by omega)
          have eu : (((u + 1 : Nat) : Int) - 1) = (u : Int) := by omega
          rw [eu, Nat.add_sub_cancel] at *
          repeat' (first|(refine isO ?_;first|refine oo (Pc rfl) ?_|refine oo (Pa rfl (by omega) (by omega)) ?_|(refine ob rfl ?_ ?_<;>intro hq<;>try (exfalso;omega))|refine oo (Pi rfl (by first|omega|(simp only [wr_length];omega))) ?_|refine oo (Pz rfl (by omega) (by omega)) ?_|refine oo (Pl rfl) ?_|refine oo (Px rfl rfl) ?_|refine oo (Pj rfl (by omega) (by omega)) ?_|refine oo (Pk rfl (by omega) (by omega)) ?_|refine oo (Pf rfl) ?_|refine oo (Pv rfl (by omega) (by omega)) ?_|refine oo (Pn rfl) ?_|refine oo (Ph rfl) ?_|refine oo (Pg rfl (by omega) (by omega)) ?_|refine oo (Pe rfl (by omega) (by omega)) ?_|refine oo (Po rfl (by omega) (by omega)) ?_|refine oo (Pm rfl) ?_|refine os rfl rfl ?_|refine ot rfl (by first|omega|(simp only [wr_length];omega)) ?_|refine O_nil ?_)|refine wo rfl ?_|refine wc rfl ?_|refine wg rfl ?_|refine go rfl ?_|refine gc rfl ?_|refine gg rfl ?_)
          exact G_stop ⟨(u, j, SA), ⟨by dsimp only; omega, hP, fun _ => hz1, hz2⟩, by dsimp only; omega, by (repeat (first | exact trivial | refine ⟨rfl, ?_⟩)), .rfl⟩
        | zero =>
          clear hz
          repeat' (first|(refine isO ?_;first|refine oo (Pc rfl) ?_|refine oo (Pa rfl (by omega) (by omega)) ?_|(refine ob rfl ?_ ?_<;>intro hq<;>try (exfalso;omega))|refine oo (Pi rfl (by first|omega|(simp only [wr_length];omega))) ?_|refine oo (Pz rfl (by omega) (by omega)) ?_|refine oo (Pl rfl) ?_|refine oo (Px rfl rfl) ?_|refine oo (Pj rfl (by omega) (by omega)) ?_|refine oo (Pk rfl (by omega) (by omega)) ?_|refine oo (Pf rfl) ?_|refine oo (Pv rfl (by omega) (by omega)) ?_|refine oo (Pn rfl) ?_|refine oo (Ph rfl) ?_|refine oo (Pg rfl (by omega) (by omega)) ?_|refine oo (Pe rfl (by omega) (by omega)) ?_|refine oo (Po rfl (by omega) (by omega)) ?_|refine oo (Pm rfl) ?_|refine os rfl rfl ?_|refine ot rfl (by first|omega|(simp only [wr_length];omega)) ?_|refine O_nil ?_)|refine wo rfl ?_|refine wc rfl ?_|refine wg rfl ?_|refine go rfl ?_|refine gc rfl ?_|refine gg rfl ?_)
          refine W_loop (α := Nat × List Int) (fun x => [(0, .slice (some ⟨bT, oT, none⟩) lT cT), (1, .slice (some ⟨bS, oS, none⟩) lS cS), (2, .int .i64 (fs : Nat)), (3, .int .i64 T.length), (4, .int .i64 k), (10, .slice (some ⟨bC, 0, none⟩) k k), (11, .slice (some ⟨bB, oB, none⟩) lB cB), (17, .int .i64 x.1)]) (fun x => ⟨own, bT, oT, ints .u8 (T.map Nat.cast)⟩ :: ⟨true, bS, oS, ints .i64 x.2⟩ :: ⟨true, bC, 0, ints .i64 C⟩ :: ⟨true, bB, oB, ints .i64 B1⟩ :: F) (fun x => Pls T L 0 x.1 x.2) (fun x => x.1) (j, SA) hP (by (repeat (first | exact trivial | refine ⟨rfl, ?_⟩))) (by repeat (first | exact .rfl | exact .nil | (apply Rk.cons; (· exact TakeI.out)) | refine .drop ?_)) ?_
          clear hP
          rintro ⟨j, SA⟩ hP
          dsimp only at hP ⊢
          have hPl := hP.len
          have hPn := hP.jn
          cases j with
          | zero =>
            repeat' (first|(refine isO ?_;first|refine oo (Pc rfl) ?_|refine oo (Pa rfl (by omega) (by omega)) ?_|(refine ob rfl ?_ ?_<;>intro hq<;>try (exfalso;omega))|refine oo (Pi rfl (by first|omega|(simp only [wr_length];omega))) ?_|refine oo (Pz rfl (by omega) (by omega)) ?_|refine oo (Pl rfl) ?_|refine oo (Px rfl rfl) ?_|refine oo (Pj rfl (by omega) (by omega)) ?_|refine oo (Pk rfl (by omega) (by omega)) ?_|refine oo (Pf rfl) ?_|refine oo (Pv rfl (by omega) (by omega)) ?_|refine oo (Pn rfl) ?_|refine oo (Ph rfl) ?_|refine oo (Pg rfl (by omega) (by omega)) ?_|refine oo (Pe rfl (by omega) (by omega)) ?_|refine oo (Po rfl (by omega) (by omega)) ?_|refine oo (Pm rfl) ?_|refine os rfl rfl ?_|refine ot rfl (by first|omega|(simp only [wr_length];omega)) ?_|refine O_nil ?_)|refine wo rfl ?_|refine wc rfl ?_|refine wg rfl ?_|refine go rfl ?_|refine gc rfl ?_|refine gg rfl ?_)
            exact G_stop ⟨SA, B1, hP.seeds hS, hB1l, by (repeat (first | exact trivial | refine ⟨rfl, ?_⟩)), .rfl⟩
          | succ jj =>
            have e0 : (((jj + 1 : Nat) : Int) - 1) = (jj : Int) := by omega
            have hz := hP.zero hS fun b hb => by omega
            repeat' (first|(refine isO ?_;first|refine oo (Pc rfl) ?_|refine oo (Pa rfl (by omega) (by omega)) ?_|(refine ob rfl ?_ ?_<;>intro hq<;>try (exfalso;omega))|refine oo (Pi rfl (by first|omega|(simp only [wr_length];omega))) ?_|refine oo (Pz rfl (by omega) (by omega)) ?_|refine oo (Pl rfl) ?_|refine oo (Px rfl rfl) ?_|refine oo (Pj rfl (by omega) (by omega)) ?_|refine oo (Pk rfl (by omega) (by omega)) ?_|refine oo (Pf rfl) ?_|refine oo (Pv rfl (by omega) (by omega)) ?_|refine oo (Pn rfl) ?_|refine oo (Ph rfl) ?_|refine oo (Pg rfl (by omega) (by omega)) ?_|refine oo (Pe rfl (by omega) (by omega)) ?_|refine oo (Po rfl (by omega) (by omega)) ?_|refine oo (Pm rfl) ?_|refine os rfl rfl ?_|refine ot rfl (by first|omega|(simp only [wr_length];omega)) ?_|refine O_nil ?_)|refine wo rfl ?_|refine wc rfl ?_|refine wg rfl ?_|refine go rfl ?_|refine gc rfl ?_|refine gg rfl ?_)
            rw [e0]
            exact G_stop ⟨(jj, _), hz, by dsimp only; omega, by (repeat (first | exact trivial | refine ⟨rfl, ?_⟩)), .rfl⟩
    · have hcase := hcase.resolve_left fun h => by omega
      repeat' (first|(refine isO ?_;first|refine oo (Pc rfl) ?_|refine oo (Pa rfl (by omega) (by omega)) ?_|(refine ob rfl ?_ ?_<;>intro hq<;>try (exfalso;omega))|refine oo (Pi rfl (by first|omega|(simp only [wr_length];omega))) ?_|refine oo (Pz rfl (by omega) (by omega)) ?_|refine oo (Pl rfl) ?_|refine oo (Px rfl rfl) ?_|refine oo (Pj rfl (by omega) (by omega)) ?_|refine oo (Pk rfl (by omega) (by omega)) ?_|refine oo (Pf rfl) ?_|refine oo (Pv rfl (by omega) (by omega)) ?_|refine oo (Pn rfl) ?_|refine oo (Ph rfl) ?_|refine oo (Pg rfl (by omega) (by omega)) ?_|refine oo (Pe rfl (by omega) (by omega)) ?_|refine oo (Po rfl (by omega) (by omega)) ?_|refine oo (Pm rfl) ?_|refine os rfl rfl ?_|refine ot rfl (by first|omega|(simp only [wr_length];omega)) ?_|refine O_nil ?_)|refine wo rfl ?_|refine wc rfl ?_|refine wg rfl ?_|refine go rfl ?_|refine gc rfl ?_|refine gg rfl ?_)
      exact G_stop ⟨SA, B, hcase.2, hB, by (repeat (first | exact trivial | refine ⟨rfl, ?_⟩)), by repeat (first | exact .rfl | exact .nil | (apply Rk.cons; (· exact TakeI.out)) | refine .drop ?_)⟩
  clear hcase hB hSl SA B
  rintro E' M' ⟨SA, B, ⟨G, hG, h0⟩, hB, hsub, hrk⟩
  refine G_code (W_weak hsub hrk ?_)
  clear hsub hrk E' M'
  repeat' (first|(refine isO ?_;first|refine oo (Pc rfl) ?_|refine oo (Pa rfl (by omega) (by omega)) ?_|(refine ob rfl ?_ ?_<;>intro hq<;>try (exfalso;omega))|refine oo (Pi rfl (by first|omega|(simp only [wr_length];omega))) ?_|refine oo (Pz rfl (by omega) (by omega)) ?_|refine oo (Pl rfl) ?_|refine oo (Px rfl rfl) ?_|refine oo (Pj rfl (by omega) (by omega)) ?_|refine oo (Pk rfl (by omega) (by omega)) ?_|refine oo (Pf rfl) ?_|refine oo (Pv rfl (by omega) (by omega)) ?_|refine oo (Pn rfl) ?_|refine oo (Ph rfl) ?_|refine oo (Pg rfl (by omega) (by omega)) ?_|refine oo (Pe rfl (by omega) (by omega)) ?_|refine oo (Po rfl (by omega) (by omega)) ?_|refine oo (Pm rfl) ?_|refine os rfl rfl ?_|refine ot rfl (by first|omega|(simp only [wr_length];omega)) ?_|refine O_nil ?_)|refine wo rfl ?_|refine wc rfl ?_|refine wg rfl ?_|refine go rfl ?_|refine gc rfl ?_|refine gg rfl ?_)
  refine O_call rfl rfl Tb.k20 trivial rfl (induceSA_c T k hT G hG.good hG.lms SA C B h0 hC hB own bT oT lT cT bS oS lS cS bB oB lB cB bC 0 k k F hlT hlS hlB (Nat.le_refl _) hne) ?_
  rintro _ _ ⟨rfl, SA', B', hF3, hl1, hl2, rfl⟩
  obtain ⟨Mf, hMf, hRf⟩ := hR SA' B' (hF3.suf hT hG) hl1 hl2
  refine O_re hMf ?_
  repeat' (first|(refine isO ?_;first|refine oo (Pc rfl) ?_|refine oo (Pa rfl (by omega) (by omega)) ?_|(refine ob rfl ?_ ?_<;>intro hq<;>try (exfalso;omega))|refine oo (Pi rfl (by first|omega|(simp only [wr_length];omega))) ?_|refine oo (Pz rfl (by omega) (by omega)) ?_|refine oo (Pl rfl) ?_|refine oo (Px rfl rfl) ?_|refine oo (Pj rfl (by omega) (by omega)) ?_|refine oo (Pk rfl (by omega) (by omega)) ?_|refine oo (Pf rfl) ?_|refine oo (Pv rfl (by omega) (by omega)) ?_|refine oo (Pn rfl) ?_|refine oo (Ph rfl) ?_|refine oo (Pg rfl (by omega) (by omega)) ?_|refine oo (Pe rfl (by omega) (by omega)) ?_|refine oo (Po rfl (by omega) (by omega)) ?_|refine oo (Pm rfl) ?_|refine os rfl rfl ?_|refine ot rfl (by first|omega|(simp only [wr_length];omega)) ?_|refine O_nil ?_)|refine wo rfl ?_|refine wc rfl ?_|refine wg rfl ?_|refine go rfl ?_|refine gc rfl ?_|refine gg rfl ?_)
  exact G_fin ⟨_, rfl, hRf⟩
end Go.Proofs.Ytcibehgcibojnaa.Saib

namespace Go.Proofs.Ytcibehgcibojnaa.Vm
open Go Go.RowKit
section
variable {pr : Bool} {P : Program} {N : Fm} {E : Env} {M : Mem} {Q : Post}
variable {ops : List Oper} {rest : List Oper} {d : Nat} {op : Op} {ty : TypeId} {pos : String} {after : Array Edge} {g : Option (Nat × Bool)} {v : Value}
theorem OL_make1F {t e : TypeId} {I : TypeInfo} {x : Operand} {k : IntKind} {z : Int} {v : Value} (ht : Und P t (.slice e)) (hI : P.info? e = some I) (hs : I.size = 1) (hz : I.zero = some v)
    (hv : v.cells = #[v]) (hx : ev E x = some (.int k z)) (h0 : 0 ≤ z) (h1 : (I.bytes : Int) * z ≤ 281474976710656) (h2 : z ≤ 9223372036854775807) (hg : On E ops g) (hd : Nat.blt d N.n = true)
    (h : ∀ b, (∀ s ∈ M, s.b ≠ b) → OL false P N ops Q rest ((d, .slice (some ⟨b, 0, none⟩) z.toNat z.toNat) :: E) (⟨true, b, 0, List.replicate z.toNat v⟩ :: M)) : OL false P N ops Q (⟨some d, .makeSlice t x x, ty, pos, after, g⟩ :: rest) E M := by
  constructor
  intro base w0 a w hA hS
  unfold wpList
  rw [if_pos (On.wanted (o := ⟨some d, .makeSlice t x x, ty, pos, after, g⟩) hg hA)]
  refine .inl ?_
  unfold Oper.wp
  have hw : IntKind.i64.wrap z = z := wrap_id (k := .i64) (by simp [IntKind.min, IntKind.signed, IntKind.bits]; omega) (by simp [IntKind.max, IntKind.signed, IntKind.bits]; omega)
  have hr : (execOp a.eval ⟨some d, .makeSlice t x x, ty, pos, after, g⟩).run P w = .ok (.value (.slice (some ⟨w.heap.size, 0, none⟩) z.toNat z.toNat)) (w.alloc (.cells (Array.replicate z.toNat v) e)) := by
    have c1 : ¬ z < 0 := by omega
    have c2 : ¬ (281474976710656 : Int) < I.bytes * z := by omega
    by_cases hz0 : z.toNat = 0
    · simp [execOp, Instr.makeSlice, hA.eval hx, ht.run, asInt, asIntOf, typeInfo, hI, hw, c1, c2, sizeOf, hs, hz0, newRow]
      rw [range_map_zero]
    · simp [execOp, Instr.makeSlice, hA.eval hx, ht.run, asInt, asIntOf, typeInfo, hI, hw, c1, c2, sizeOf, hs, hz0, newRow, zeroValue, hz, hv, range_map_const]
  rw [hr]
  have := hS.alloc (Array.replicate z.toNat v) e
  simp only [Array.toList_replicate] at this
  exact (h w.heap.size fun s hs => Nat.ne_of_lt (hS.seg s hs).block).out base w0 _ _ (hA.put hd _) this
theorem O_make25 {Fin : Post} {kn : List Kn} {x : Operand} {n : Nat} (hx : ev E x = some (.int .i64 (n : Int))) (hn : n ≤ 1000000) (hg : On E ops g) (hd : Nat.blt d N.n = true)
    (h : ∀ b, (∀ s ∈ M, s.b ≠ b) → WO false Try.prog N Fin ops rest kn ((d, .slice (some ⟨b, 0, none⟩) n n) :: E) (⟨true, b, 0, ints .i64 (List.replicate n 0)⟩ :: M)) : WO false Try.prog N Fin ops (⟨some d, .makeSlice 25 x x, ty, pos, after, g⟩ :: rest) kn E M := by
  have hi := Sai.info3
  cases hI : Try.prog.info? 3 with
  | none => rw [hI] at hi; cases hi
  | some I =>
    rw [hI] at hi
    simp only [Option.map_some, Option.some.injEq, Prod.mk.injEq] at hi
    obtain ⟨h1, h2, h3⟩ := hi
    refine ⟨OL_make1F Tb.u25 hI h1 h3 rfl hx (by omega) (by rw [h2]; omega) (by omega) hg hd fun b hb => ?_⟩
    have := (h b hb).out
    have e : ints .i64 (List.replicate n 0) = List.replicate n (.int .i64 0) := by unfold ints; rw [List.map_replicate]
    rw [e] at this
    rw [Int.toNat_natCast]
    exact this
end
section
variable {pr : Bool} {P : Program} {N : Fm} {Fin : Post} {k : List Kn} {E : Env} {M : Mem} {ops rest : List Oper} {o : Oper} {d : Nat} {v : Value}
theorem ota {t : TypeId} {b a : Nat} {l : List Int} {kd : IntKind} {u : Int} {M0 M' : Mem} (o' n : Nat) (h : stS ops E o = some (t, b, a, .int kd u)) (ha : a = o' + n) [ht : CelC P t 1] [hm : TakeI M b o' true (ints kd l) M0] (hn : n < l.length)
    [hu : UpdI M b o' (ints kd l) (ints kd (wr l (n : Int) u)) M'] (h2 : WO false P N Fin ops rest k E M') : WO false P N Fin ops (o :: rest) k E M := by
  obtain ⟨p, x, ty, pos, after, g, rfl, hg, hp, hx⟩ := stS_spec h
  subst ha
  exact O_storei (z := (n : Int)) ht.out hp hx hg hu.out (by rw [Int.toNat_natCast]; exact hn) h2
end
end Go.Proofs.Ytcibehgcibojnaa.Vm

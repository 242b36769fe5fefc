/- spec.SuffixesRight of right suffixes. Conditions: at most 1000 bytes. Bytes of a literal: a new block, marked as one that may be a string's. No condition. laws.suffixesAwake, and laws.FnSuffixes: true, for any bytes. No condition. FnSuffixes' row: of handed bytes. No condition. -/
import Derived.Test.YtcibehgcibojnaaW4x32
import Derived.Test.YtcibehgcibojnaaRows
import Derived.WalkKit
import Derived.ProofKit
import Derived.OpenShut
import Derived.Carry
import Derived.JoinedCond

namespace Go.Proofs.Ytcibehgcibojnaa.Sai
open Go Go.RowKit Go.Proofs.Ytcibehgcibojnaa.Vm Go.Proofs.Ytcibehgcibojnaa.Sais
theorem info4 : (Try.prog.info? 4).map (fun i => (i.size, i.bytes, i.zero)) = some (1, 1, some (.bool false)) := by kernel_rfl
theorem info4' : ∃ I, Try.prog.info? 4 = some I ∧ I.size = 1 ∧ I.bytes = 1 ∧ I.zero = some (.bool false) := by
  have h := info4
  cases hI : Try.prog.info? 4 with
  | none => simp [hI] at h
  | some I => simp [hI] at h; exact ⟨I, rfl, h⟩
theorem und30 : Und Try.prog 30 (.slice 4) := ⟨Try.underlying30⟩
theorem und9 : Und Try.prog 9 .string := ⟨Try.underlying9⟩
theorem und5 : Und Try.prog 5 (.int .u8) := ⟨Try.underlying5⟩
def Seen (n i : Nat) (X : List Int) (l : List Value) : Prop := l.length = n ∧ ∀ v, v < n → (∀ a, a < i → rd X (a : Int) ≠ (v : Int)) → l[v]? = some (.bool false)
theorem drop_row (T : List Nat) (sp : List Value) {u : Nat} (hu : u ≤ T.length) : ((ints .u8 (T.map Nat.cast) ++ sp).drop u).take (T.length - u) = ints .u8 ((T.drop u).map Nat.cast) := by
  have h1 : (ints .u8 (T.map Nat.cast)).length = T.length := by rw [ints_length, List.length_map]
  rw [List.drop_append_of_le_length (by omega), List.take_append_of_le_length (by rw [List.length_drop]; omega), List.take_of_length_le (by rw [List.length_drop]; omega)]
  unfold ints
  rw [List.map_drop, List.map_drop]
theorem Seen.step {n i v : Nat} {X : List Int} {l : List Value} (h : Seen n i X l) (hv : v < n) (e : rd X (i : Int) = (v : Int)) : Seen n (i + 1) X (l.set v (.bool true)) := by
  refine ⟨by rw [List.length_set]; exact h.1, fun w hw hall => ?_⟩
  have hne : v ≠ w := fun e2 => hall i (by omega) (by rw [e, e2])
  rw [List.getElem?_set, if_neg hne]
  exact h.2 w hw fun a ha => hall a (by omega)
theorem right_c (T : List Nat) (hT : ∀ x ∈ T, x < 256) (hN : T.length ≤ 1000) (X : List Int) (hX : X.length = T.length) (hS : SufA T X) (own : Bool) (bb o0 cap bl : Nat) (sp : List Value) (F : Mem) (hcap : T.length ≤ cap) :
    HC Try.prog 6 #[.slice (some ⟨bb, o0, none⟩) T.length cap, .slice (some ⟨bl, 0, none⟩) T.length T.length] (⟨own, bb, o0, ints .u8 (T.map Nat.cast) ++ sp⟩ :: ⟨true, bl, 0, ints .i64 X⟩ :: F)
      (fun v M' => v = .bool true ∧ Rk M' (⟨own, bb, o0, ints .u8 (T.map Nat.cast) ++ sp⟩ :: ⟨true, bl, 0, ints .i64 X⟩ :: F)) := by
  obtain ⟨I, hI, hI1, hI2, hI3⟩ := info4'
  refine HC_of_W (fn := Try.f6) Try.func6 rfl rfl rfl rfl ?_
  repeat' (first|(refine isO ?_;first|refine oo (Pc rfl) ?_|refine oo (Pa rfl (by omega) (by omega)) ?_|(refine ob rfl ?_ ?_<;>intro hq<;>try (exfalso;omega))|refine oo (Pi rfl (by first|omega|(simp only [wr_length];omega))) ?_|refine oo (Pz rfl (by omega) (by omega)) ?_|refine oo (Pl rfl) ?_|refine oo (Px rfl rfl) ?_|refine oo (Pj rfl (by omega) (by omega)) ?_|refine oo (Pk rfl (by omega) (by omega)) ?_|refine oo (Pf rfl) ?_|refine oo (Pv rfl (by omega) (by omega)) ?_|refine oo (Pn rfl) ?_|refine oo (Ph rfl) ?_|refine oo (Pg rfl (by omega) (by omega)) ?_|refine oo (Pe rfl (by omega) (by omega)) ?_|refine oo (Po rfl (by omega) (by omega)) ?_|refine oo (Pm rfl) ?_|refine os rfl rfl ?_|refine ot rfl (by first|omega|(simp only [wr_length];omega)) ?_|refine O_nil ?_)|refine wo rfl ?_|refine wc rfl ?_|refine wg rfl ?_|refine go rfl ?_|refine gc rfl ?_|refine gg rfl ?_)
  refine O_make1 (P := Try.prog) (e := 4) (z := (T.length : Int)) (v := .bool false) und30 hI hI1 hI3 rfl rfl (by omega) (by rw [hI2]; omega) (by omega) trivial rfl fun bs => ?_
  repeat' (first|(refine isO ?_;first|refine oo (Pc rfl) ?_|refine oo (Pa rfl (by omega) (by omega)) ?_|(refine ob rfl ?_ ?_<;>intro hq<;>try (exfalso;omega))|refine oo (Pi rfl (by first|omega|(simp only [wr_length];omega))) ?_|refine oo (Pz rfl (by omega) (by omega)) ?_|refine oo (Pl rfl) ?_|refine oo (Px rfl rfl) ?_|refine oo (Pj rfl (by omega) (by omega)) ?_|refine oo (Pk rfl (by omega) (by omega)) ?_|refine oo (Pf rfl) ?_|refine oo (Pv rfl (by omega) (by omega)) ?_|refine oo (Pn rfl) ?_|refine oo (Ph rfl) ?_|refine oo (Pg rfl (by omega) (by omega)) ?_|refine oo (Pe rfl (by omega) (by omega)) ?_|refine oo (Po rfl (by omega) (by omega)) ?_|refine oo (Pm rfl) ?_|refine os rfl rfl ?_|refine ot rfl (by first|omega|(simp only [wr_length];omega)) ?_|refine O_nil ?_)|refine wo rfl ?_|refine wc rfl ?_|refine wg rfl ?_|refine go rfl ?_|refine gc rfl ?_|refine gg rfl ?_)
  refine W_loop (α := Nat × List Value) (fun x => [(0, .slice (some ⟨bb, o0, none⟩) T.length cap), (1, .slice (some ⟨bl, 0, none⟩) T.length T.length), (5, .slice (some ⟨bs, 0, none⟩) T.length T.length), (6, .int .i64 x.1)])
    (fun x => ⟨true, bs, 0, x.2⟩ :: ⟨own, bb, o0, ints .u8 (T.map Nat.cast) ++ sp⟩ :: ⟨true, bl, 0, ints .i64 X⟩ :: F) (fun x => x.1 ≤ T.length ∧ Seen T.length x.1 X x.2) (fun x => T.length - x.1) (0, List.replicate T.length (.bool false))
    ⟨Nat.zero_le _, List.length_replicate, fun v hv _ => by simp [hv]⟩ (by (repeat (first | exact trivial | refine ⟨rfl, ?_⟩))) .rfl ?_
  rintro ⟨i, l⟩ ⟨hi, hl, hsn⟩
  dsimp only at hi hl hsn ⊢
  by_cases hin : i < T.length
  · obtain ⟨v, hv, e⟩ := hS.at' i hin
    have hns : ∀ a, a < i → rd X (a : Int) ≠ (v : Int) := fun a ha e2 => sl_irrefl T v (hS.ord a i ha hin v v e2 e)
    have hlv := hsn v hv hns
    by_cases hi0 : i = 0
    · repeat' (first|(refine isO ?_;first|refine oo (Pc rfl) ?_|refine oo (Pa rfl (by omega) (by omega)) ?_|(refine ob rfl ?_ ?_<;>intro hq<;>try (exfalso;omega))|refine oo (Pi rfl (by first|omega|(simp only [wr_length];omega))) ?_|refine oo (Pz rfl (by omega) (by omega)) ?_|refine oo (Pl rfl) ?_|refine oo (Px rfl rfl) ?_|refine oo (Pj rfl (by omega) (by omega)) ?_|refine oo (Pk rfl (by omega) (by omega)) ?_|refine oo (Pf rfl) ?_|refine oo (Pv rfl (by omega) (by omega)) ?_|refine oo (Pn rfl) ?_|refine oo (Ph rfl) ?_|refine oo (Pg rfl (by omega) (by omega)) ?_|refine oo (Pe rfl (by omega) (by omega)) ?_|refine oo (Po rfl (by omega) (by omega)) ?_|refine oo (Pm rfl) ?_|refine os rfl rfl ?_|refine ot rfl (by first|omega|(simp only [wr_length];omega)) ?_|refine O_nil ?_)|refine wo rfl ?_|refine wc rfl ?_|refine wg rfl ?_|refine go rfl ?_|refine gc rfl ?_|refine gg rfl ?_)
      refine W_region_still Tb.mixed (by kernel_rfl) ?_
      repeat' (first | (refine isS ?_; first | refine ss (Pc rfl) ?_ | refine ss (Pa rfl (by omega) (by omega)) ?_ | (refine sb rfl ?_ ?_ <;> intro hq <;> try (exfalso; omega)) | refine ss (Pi rfl (by first | omega | (simp only [wr_length]; omega))) ?_ | refine ss (Pz rfl (by omega) (by omega)) ?_ | refine ss (Pl rfl) ?_ | refine ss (Px rfl rfl) ?_ | refine ss (Pj rfl (by omega) (by omega)) ?_ | refine ss (Pk rfl (by omega) (by omega)) ?_ | refine ss (Pf rfl) ?_ | refine ss (Pv rfl (by omega) (by omega)) ?_ | refine ss (Pn rfl) ?_ | refine ss (Ph rfl) ?_ | refine ss (Pg rfl (by omega) (by omega)) ?_ | refine ss (Pe rfl (by omega) (by omega)) ?_ | refine ss (Po rfl (by omega) (by omega)) ?_ | refine ss (Pm rfl) ?_ | refine OS_nil ?_))
      refine OS_pure (P_loadAt (o := 0) (n := v) Tb.p4 rfl (by rw [e]; rfl) (.head _) hlv) ⟨_, rfl, rfl⟩ rfl ?_
      repeat' (first | (refine isS ?_; first | refine ss (Pc rfl) ?_ | refine ss (Pa rfl (by omega) (by omega)) ?_ | (refine sb rfl ?_ ?_ <;> intro hq <;> try (exfalso; omega)) | refine ss (Pi rfl (by first | omega | (simp only [wr_length]; omega))) ?_ | refine ss (Pz rfl (by omega) (by omega)) ?_ | refine ss (Pl rfl) ?_ | refine ss (Px rfl rfl) ?_ | refine ss (Pj rfl (by omega) (by omega)) ?_ | refine ss (Pk rfl (by omega) (by omega)) ?_ | refine ss (Pf rfl) ?_ | refine ss (Pv rfl (by omega) (by omega)) ?_ | refine ss (Pn rfl) ?_ | refine ss (Ph rfl) ?_ | refine ss (Pg rfl (by omega) (by omega)) ?_ | refine ss (Pe rfl (by omega) (by omega)) ?_ | refine ss (Po rfl (by omega) (by omega)) ?_ | refine ss (Pm rfl) ?_ | refine OS_nil ?_))
      repeat' (first|(refine isO ?_;first|refine oo (Pc rfl) ?_|refine oo (Pa rfl (by omega) (by omega)) ?_|(refine ob rfl ?_ ?_<;>intro hq<;>try (exfalso;omega))|refine oo (Pi rfl (by first|omega|(simp only [wr_length];omega))) ?_|refine oo (Pz rfl (by omega) (by omega)) ?_|refine oo (Pl rfl) ?_|refine oo (Px rfl rfl) ?_|refine oo (Pj rfl (by omega) (by omega)) ?_|refine oo (Pk rfl (by omega) (by omega)) ?_|refine oo (Pf rfl) ?_|refine oo (Pv rfl (by omega) (by omega)) ?_|refine oo (Pn rfl) ?_|refine oo (Ph rfl) ?_|refine oo (Pg rfl (by omega) (by omega)) ?_|refine oo (Pe rfl (by omega) (by omega)) ?_|refine oo (Po rfl (by omega) (by omega)) ?_|refine oo (Pm rfl) ?_|refine os rfl rfl ?_|refine ot rfl (by first|omega|(simp only [wr_length];omega)) ?_|refine O_nil ?_)|refine wo rfl ?_|refine wc rfl ?_|refine wg rfl ?_|refine go rfl ?_|refine gc rfl ?_|refine gg rfl ?_)
      refine O_store (o := 0) (n := (rd X (i : Int)).toNat) Tb.c4 rfl rfl rfl trivial (by omega) .head ?_
      repeat' (first|(refine isO ?_;first|refine oo (Pc rfl) ?_|refine oo (Pa rfl (by omega) (by omega)) ?_|(refine ob rfl ?_ ?_<;>intro hq<;>try (exfalso;omega))|refine oo (Pi rfl (by first|omega|(simp only [wr_length];omega))) ?_|refine oo (Pz rfl (by omega) (by omega)) ?_|refine oo (Pl rfl) ?_|refine oo (Px rfl rfl) ?_|refine oo (Pj rfl (by omega) (by omega)) ?_|refine oo (Pk rfl (by omega) (by omega)) ?_|refine oo (Pf rfl) ?_|refine oo (Pv rfl (by omega) (by omega)) ?_|refine oo (Pn rfl) ?_|refine oo (Ph rfl) ?_|refine oo (Pg rfl (by omega) (by omega)) ?_|refine oo (Pe rfl (by omega) (by omega)) ?_|refine oo (Po rfl (by omega) (by omega)) ?_|refine oo (Pm rfl) ?_|refine os rfl rfl ?_|refine ot rfl (by first|omega|(simp only [wr_length];omega)) ?_|refine O_nil ?_)|refine wo rfl ?_|refine wc rfl ?_|refine wg rfl ?_|refine go rfl ?_|refine gc rfl ?_|refine gg rfl ?_)
      rw [show (rd X (i : Int)).toNat = v by rw [e]; rfl]
      exact G_stop ⟨(i + 1, l.set v (.bool true)), ⟨by dsimp only; omega, Seen.step ⟨hl, hsn⟩ hv e⟩, by dsimp only; omega, by (repeat (first | exact trivial | refine ⟨rfl, ?_⟩)), .rfl⟩
    · obtain ⟨u, hu, e'⟩ := hS.at' (i - 1) (by omega)
      have ei : (i : Int) - 1 = ((i - 1 : Nat) : Int) := by omega
      rw [← ei] at e'
      have hlt := less_sl hT (hS.ord (i - 1) i (by omega) hin u v (by rw [← ei]; exact e') e)
      have hrl : (ints .u8 (T.map Nat.cast) ++ sp).length = T.length + sp.length := by rw [List.length_append, ints_length, List.length_map]
      repeat' (first|(refine isO ?_;first|refine oo (Pc rfl) ?_|refine oo (Pa rfl (by omega) (by omega)) ?_|(refine ob rfl ?_ ?_<;>intro hq<;>try (exfalso;omega))|refine oo (Pi rfl (by first|omega|(simp only [wr_length];omega))) ?_|refine oo (Pz rfl (by omega) (by omega)) ?_|refine oo (Pl rfl) ?_|refine oo (Px rfl rfl) ?_|refine oo (Pj rfl (by omega) (by omega)) ?_|refine oo (Pk rfl (by omega) (by omega)) ?_|refine oo (Pf rfl) ?_|refine oo (Pv rfl (by omega) (by omega)) ?_|refine oo (Pn rfl) ?_|refine oo (Ph rfl) ?_|refine oo (Pg rfl (by omega) (by omega)) ?_|refine oo (Pe rfl (by omega) (by omega)) ?_|refine oo (Po rfl (by omega) (by omega)) ?_|refine oo (Pm rfl) ?_|refine os rfl rfl ?_|refine ot rfl (by first|omega|(simp only [wr_length];omega)) ?_|refine O_nil ?_)|refine wo rfl ?_|refine wc rfl ?_|refine wg rfl ?_|refine go rfl ?_|refine gc rfl ?_|refine gg rfl ?_)
      refine W_region_still Tb.mixed (by kernel_rfl) ?_
      repeat' (first | (refine isS ?_; first | refine ss (Pc rfl) ?_ | refine ss (Pa rfl (by omega) (by omega)) ?_ | (refine sb rfl ?_ ?_ <;> intro hq <;> try (exfalso; omega)) | refine ss (Pi rfl (by first | omega | (simp only [wr_length]; omega))) ?_ | refine ss (Pz rfl (by omega) (by omega)) ?_ | refine ss (Pl rfl) ?_ | refine ss (Px rfl rfl) ?_ | refine ss (Pj rfl (by omega) (by omega)) ?_ | refine ss (Pk rfl (by omega) (by omega)) ?_ | refine ss (Pf rfl) ?_ | refine ss (Pv rfl (by omega) (by omega)) ?_ | refine ss (Pn rfl) ?_ | refine ss (Ph rfl) ?_ | refine ss (Pg rfl (by omega) (by omega)) ?_ | refine ss (Pe rfl (by omega) (by omega)) ?_ | refine ss (Po rfl (by omega) (by omega)) ?_ | refine ss (Pm rfl) ?_ | refine OS_nil ?_))
      refine OS_pure (P_loadAt (o := 0) (n := v) Tb.p4 rfl (by rw [e]; rfl) (.head _) hlv) ⟨_, rfl, rfl⟩ rfl ?_
      repeat' (first | (refine isS ?_; first | refine ss (Pc rfl) ?_ | refine ss (Pa rfl (by omega) (by omega)) ?_ | (refine sb rfl ?_ ?_ <;> intro hq <;> try (exfalso; omega)) | refine ss (Pi rfl (by first | omega | (simp only [wr_length]; omega))) ?_ | refine ss (Pz rfl (by omega) (by omega)) ?_ | refine ss (Pl rfl) ?_ | refine ss (Px rfl rfl) ?_ | refine ss (Pj rfl (by omega) (by omega)) ?_ | refine ss (Pk rfl (by omega) (by omega)) ?_ | refine ss (Pf rfl) ?_ | refine ss (Pv rfl (by omega) (by omega)) ?_ | refine ss (Pn rfl) ?_ | refine ss (Ph rfl) ?_ | refine ss (Pg rfl (by omega) (by omega)) ?_ | refine ss (Pe rfl (by omega) (by omega)) ?_ | refine ss (Po rfl (by omega) (by omega)) ?_ | refine ss (Pm rfl) ?_ | refine OS_nil ?_))
      refine OS_pure (P_slice1E (o' := o0 + u) (len' := T.length - u) (cap' := cap - u) Tb.u22 Tb.c5 rfl ⟨_, rfl⟩ rfl (by omega) (by omega) (by omega) (by omega) (by omega) (by omega) (by omega)) ⟨_, rfl, rfl⟩ rfl ?_
      repeat' (first | (refine isS ?_; first | refine ss (Pc rfl) ?_ | refine ss (Pa rfl (by omega) (by omega)) ?_ | (refine sb rfl ?_ ?_ <;> intro hq <;> try (exfalso; omega)) | refine ss (Pi rfl (by first | omega | (simp only [wr_length]; omega))) ?_ | refine ss (Pz rfl (by omega) (by omega)) ?_ | refine ss (Pl rfl) ?_ | refine ss (Px rfl rfl) ?_ | refine ss (Pj rfl (by omega) (by omega)) ?_ | refine ss (Pk rfl (by omega) (by omega)) ?_ | refine ss (Pf rfl) ?_ | refine ss (Pv rfl (by omega) (by omega)) ?_ | refine ss (Pn rfl) ?_ | refine ss (Ph rfl) ?_ | refine ss (Pg rfl (by omega) (by omega)) ?_ | refine ss (Pe rfl (by omega) (by omega)) ?_ | refine ss (Po rfl (by omega) (by omega)) ?_ | refine ss (Pm rfl) ?_ | refine OS_nil ?_))
      refine OS_pure (P_toStrAt (v := u) Tb.u22 und5 und9 rfl rfl (.tail _ (.head _)) (drop_row T sp (Nat.le_of_lt hu)) (by omega)) ⟨_, rfl, rfl⟩ rfl ?_
      repeat' (first | (refine isS ?_; first | refine ss (Pc rfl) ?_ | refine ss (Pa rfl (by omega) (by omega)) ?_ | (refine sb rfl ?_ ?_ <;> intro hq <;> try (exfalso; omega)) | refine ss (Pi rfl (by first | omega | (simp only [wr_length]; omega))) ?_ | refine ss (Pz rfl (by omega) (by omega)) ?_ | refine ss (Pl rfl) ?_ | refine ss (Px rfl rfl) ?_ | refine ss (Pj rfl (by omega) (by omega)) ?_ | refine ss (Pk rfl (by omega) (by omega)) ?_ | refine ss (Pf rfl) ?_ | refine ss (Pv rfl (by omega) (by omega)) ?_ | refine ss (Pn rfl) ?_ | refine ss (Ph rfl) ?_ | refine ss (Pg rfl (by omega) (by omega)) ?_ | refine ss (Pe rfl (by omega) (by omega)) ?_ | refine ss (Po rfl (by omega) (by omega)) ?_ | refine ss (Pm rfl) ?_ | refine OS_nil ?_))
      refine OS_pure (P_slice1E (o' := o0 + v) (len' := T.length - v) (cap' := cap - v) Tb.u22 Tb.c5 rfl ⟨_, rfl⟩ rfl (by omega) (by omega) (by omega) (by omega) (by omega) (by omega) (by omega)) ⟨_, rfl, rfl⟩ rfl ?_
      repeat' (first | (refine isS ?_; first | refine ss (Pc rfl) ?_ | refine ss (Pa rfl (by omega) (by omega)) ?_ | (refine sb rfl ?_ ?_ <;> intro hq <;> try (exfalso; omega)) | refine ss (Pi rfl (by first | omega | (simp only [wr_length]; omega))) ?_ | refine ss (Pz rfl (by omega) (by omega)) ?_ | refine ss (Pl rfl) ?_ | refine ss (Px rfl rfl) ?_ | refine ss (Pj rfl (by omega) (by omega)) ?_ | refine ss (Pk rfl (by omega) (by omega)) ?_ | refine ss (Pf rfl) ?_ | refine ss (Pv rfl (by omega) (by omega)) ?_ | refine ss (Pn rfl) ?_ | refine ss (Ph rfl) ?_ | refine ss (Pg rfl (by omega) (by omega)) ?_ | refine ss (Pe rfl (by omega) (by omega)) ?_ | refine ss (Po rfl (by omega) (by omega)) ?_ | refine ss (Pm rfl) ?_ | refine OS_nil ?_))
      refine OS_pure (P_toStrAt (v := v) Tb.u22 und5 und9 rfl rfl (.tail _ (.head _)) (drop_row T sp (Nat.le_of_lt hv)) (by omega)) ⟨_, rfl, rfl⟩ rfl ?_
      repeat' (first | (refine isS ?_; first | refine ss (Pc rfl) ?_ | refine ss (Pa rfl (by omega) (by omega)) ?_ | (refine sb rfl ?_ ?_ <;> intro hq <;> try (exfalso; omega)) | refine ss (Pi rfl (by first | omega | (simp only [wr_length]; omega))) ?_ | refine ss (Pz rfl (by omega) (by omega)) ?_ | refine ss (Pl rfl) ?_ | refine ss (Px rfl rfl) ?_ | refine ss (Pj rfl (by omega) (by omega)) ?_ | refine ss (Pk rfl (by omega) (by omega)) ?_ | refine ss (Pf rfl) ?_ | refine ss (Pv rfl (by omega) (by omega)) ?_ | refine ss (Pn rfl) ?_ | refine ss (Ph rfl) ?_ | refine ss (Pg rfl (by omega) (by omega)) ?_ | refine ss (Pe rfl (by omega) (by omega)) ?_ | refine ss (Po rfl (by omega) (by omega)) ?_ | refine ss (Pm rfl) ?_ | refine OS_nil ?_))
      refine OS_pure (P_geqStr rfl rfl hlt) ⟨_, rfl, rfl⟩ rfl ?_
      repeat' (first | (refine isS ?_; first | refine ss (Pc rfl) ?_ | refine ss (Pa rfl (by omega) (by omega)) ?_ | (refine sb rfl ?_ ?_ <;> intro hq <;> try (exfalso; omega)) | refine ss (Pi rfl (by first | omega | (simp only [wr_length]; omega))) ?_ | refine ss (Pz rfl (by omega) (by omega)) ?_ | refine ss (Pl rfl) ?_ | refine ss (Px rfl rfl) ?_ | refine ss (Pj rfl (by omega) (by omega)) ?_ | refine ss (Pk rfl (by omega) (by omega)) ?_ | refine ss (Pf rfl) ?_ | refine ss (Pv rfl (by omega) (by omega)) ?_ | refine ss (Pn rfl) ?_ | refine ss (Ph rfl) ?_ | refine ss (Pg rfl (by omega) (by omega)) ?_ | refine ss (Pe rfl (by omega) (by omega)) ?_ | refine ss (Po rfl (by omega) (by omega)) ?_ | refine ss (Pm rfl) ?_ | refine OS_nil ?_))
      repeat' (first|(refine isO ?_;first|refine oo (Pc rfl) ?_|refine oo (Pa rfl (by omega) (by omega)) ?_|(refine ob rfl ?_ ?_<;>intro hq<;>try (exfalso;omega))|refine oo (Pi rfl (by first|omega|(simp only [wr_length];omega))) ?_|refine oo (Pz rfl (by omega) (by omega)) ?_|refine oo (Pl rfl) ?_|refine oo (Px rfl rfl) ?_|refine oo (Pj rfl (by omega) (by omega)) ?_|refine oo (Pk rfl (by omega) (by omega)) ?_|refine oo (Pf rfl) ?_|refine oo (Pv rfl (by omega) (by omega)) ?_|refine oo (Pn rfl) ?_|refine oo (Ph rfl) ?_|refine oo (Pg rfl (by omega) (by omega)) ?_|refine oo (Pe rfl (by omega) (by omega)) ?_|refine oo (Po rfl (by omega) (by omega)) ?_|refine oo (Pm rfl) ?_|refine os rfl rfl ?_|refine ot rfl (by first|omega|(simp only [wr_length];omega)) ?_|refine O_nil ?_)|refine wo rfl ?_|refine wc rfl ?_|refine wg rfl ?_|refine go rfl ?_|refine gc rfl ?_|refine gg rfl ?_)
      refine O_store (o := 0) (n := (rd X (i : Int)).toNat) Tb.c4 rfl rfl rfl trivial (by omega) .head ?_
      repeat' (first|(refine isO ?_;first|refine oo (Pc rfl) ?_|refine oo (Pa rfl (by omega) (by omega)) ?_|(refine ob rfl ?_ ?_<;>intro hq<;>try (exfalso;omega))|refine oo (Pi rfl (by first|omega|(simp only [wr_length];omega))) ?_|refine oo (Pz rfl (by omega) (by omega)) ?_|refine oo (Pl rfl) ?_|refine oo (Px rfl rfl) ?_|refine oo (Pj rfl (by omega) (by omega)) ?_|refine oo (Pk rfl (by omega) (by omega)) ?_|refine oo (Pf rfl) ?_|refine oo (Pv rfl (by omega) (by omega)) ?_|refine oo (Pn rfl) ?_|refine oo (Ph rfl) ?_|refine oo (Pg rfl (by omega) (by omega)) ?_|refine oo (Pe rfl (by omega) (by omega)) ?_|refine oo (Po rfl (by omega) (by omega)) ?_|refine oo (Pm rfl) ?_|refine os rfl rfl ?_|refine ot rfl (by first|omega|(simp only [wr_length];omega)) ?_|refine O_nil ?_)|refine wo rfl ?_|refine wc rfl ?_|refine wg rfl ?_|refine go rfl ?_|refine gc rfl ?_|refine gg rfl ?_)
      rw [show (rd X (i : Int)).toNat = v by rw [e]; rfl]
      exact G_stop ⟨(i + 1, l.set v (.bool true)), ⟨by dsimp only; omega, Seen.step ⟨hl, hsn⟩ hv e⟩, by dsimp only; omega, by (repeat (first | exact trivial | refine ⟨rfl, ?_⟩)), .rfl⟩
  · repeat' (first|(refine isO ?_;first|refine oo (Pc rfl) ?_|refine oo (Pa rfl (by omega) (by omega)) ?_|(refine ob rfl ?_ ?_<;>intro hq<;>try (exfalso;omega))|refine oo (Pi rfl (by first|omega|(simp only [wr_length];omega))) ?_|refine oo (Pz rfl (by omega) (by omega)) ?_|refine oo (Pl rfl) ?_|refine oo (Px rfl rfl) ?_|refine oo (Pj rfl (by omega) (by omega)) ?_|refine oo (Pk rfl (by omega) (by omega)) ?_|refine oo (Pf rfl) ?_|refine oo (Pv rfl (by omega) (by omega)) ?_|refine oo (Pn rfl) ?_|refine oo (Ph rfl) ?_|refine oo (Pg rfl (by omega) (by omega)) ?_|refine oo (Pe rfl (by omega) (by omega)) ?_|refine oo (Po rfl (by omega) (by omega)) ?_|refine oo (Pm rfl) ?_|refine os rfl rfl ?_|refine ot rfl (by first|omega|(simp only [wr_length];omega)) ?_|refine O_nil ?_)|refine wo rfl ?_|refine wc rfl ?_|refine wg rfl ?_|refine go rfl ?_|refine gc rfl ?_|refine gg rfl ?_)
    exact G_fin ⟨_, rfl, rfl, .drop .rfl⟩
end Go.Proofs.Ytcibehgcibojnaa.Sai

namespace Go.Proofs.Ytcibehgcibojnaa.Vm
open Go Go.RowKit
section
variable {P : Program} {N : Fm} {Fin : Post} {k : List Kn} {E : Env} {M : Mem} {ops rest : List Oper} {d : Nat} {ty : TypeId} {pos : String} {after : Array Edge} {g : Option (Nat × Bool)}
theorem O_buildSliceF {t T : TypeId} {n : Nat} {xs : List (Nat × Operand)} {vs : List (Nat × Value)} {c : List Value} (hx : evps E xs = some vs)
    (hr : ∀ w, (Instr.buildSlice t n vs.toArray).run P w = .ok (.slice (some ⟨w.heap.size, 0, none⟩) n n) (w.alloc (.cells c.toArray T))) (hg : On E ops g) (hd : Nat.blt d N.n = true)
    (h : ∀ b, (∀ s ∈ M, s.b ≠ b) → WO false P N Fin ops rest k ((d, .slice (some ⟨b, 0, none⟩) n n) :: E) (⟨true, b, 0, c⟩ :: M)) : WO false P N Fin ops (⟨some d, .buildSlice t n xs.toArray, ty, pos, after, g⟩ :: rest) k E M := by
  refine ⟨⟨?_⟩⟩
  intro base w0 a w hA hS
  unfold wpList
  rw [if_pos (On.wanted (o := ⟨some d, .buildSlice t n xs.toArray, ty, pos, after, g⟩) hg hA)]
  refine .inl ?_
  unfold Oper.wp
  have e : (xs.toArray.map fun (i, x) => (i, a.eval x)) = vs.toArray := by
    have : xs.toArray.map (fun p : Nat × Operand => (p.1, a.eval p.2)) = vs.toArray := by simp [hA.evalps hx]
    exact this
  have h1 : (execOp a.eval ⟨some d, .buildSlice t n xs.toArray, ty, pos, after, g⟩).run P w = .ok (.value (.slice (some ⟨w.heap.size, 0, none⟩) n n)) (w.alloc (.cells c.toArray T)) := by
    simp only [execOp, e]
    simp [hr]
  rw [h1]
  exact (h w.heap.size fun s hs => Nat.ne_of_lt (hS.seg s hs).block).out.out base w0 _ _ (hA.put hd _) (hS.alloc c.toArray _)
theorem heap_freeze {w : World} {b o n j : Nat} (h : j ≠ b) : (w.freeze ⟨b, o, none⟩ n).heap[j]? = w.heap[j]? := by
  unfold World.freeze
  split
  · rfl
  · simp [Array.getElem?_modify, Ne.symm h]
theorem Sim.freeze {base : Nat} {w0 w : World} {b o : Nat} {l : List Value} (h : Sim false base w0 w (⟨true, b, 0, l⟩ :: M)) (hM : ∀ s ∈ M, s.b ≠ b) : Sim false base w0 (w.freeze ⟨b, o, none⟩ 1) (⟨false, b, 0, l⟩ :: M) := by
  have hs := h.seg _ (.head _)
  obtain ⟨c, T, lo, hi, hh, h1, h2, h3⟩ := hs
  have h4 := (h3 rfl).1
  have hh : w.heap[b]? = some (.cells c T (lo, hi)) := hh
  have h4 : base ≤ b := h4
  have hsz : (w.freeze ⟨b, o, none⟩ 1).heap.size = w.heap.size := by unfold World.freeze; simp
  have hb : (w.freeze ⟨b, o, none⟩ 1).heap[b]? = some (.cells c T (if lo == hi then (o, o + 1) else (min lo o, max hi (o + 1)))) := by
    unfold World.freeze
    simp [Array.getElem?_modify, hh]
  refine ⟨h.bel.trans ⟨rfl, rfl, rfl, by rw [hsz]; exact Nat.le_refl _, fun j hj => heap_freeze (by omega)⟩, by rw [hsz]; exact h.hb, ?_, ?_, fun h => by cases h⟩
  · intro s hs
    cases hs with
    | head => exact ⟨c, T, _, _, hb, h1, h2, fun h => by cases h⟩
    | tail _ hs =>
      obtain ⟨c', T', lo', hi', k1, k2, k3, k4⟩ := h.seg s (.tail _ hs)
      exact ⟨c', T', lo', hi', by rw [heap_freeze (hM s hs)]; exact k1, k2, k3, k4⟩
  · cases h.dis with
    | cons k1 k2 => exact .cons (fun s hs => .inr (.inl (Ne.symm (hM s hs)))) k2
theorem O_conv22 {x : Operand} {b n c : Nat} {l : List Value} {k : List Kn} (hx : ev E x = some (.slice (some ⟨b, 0, none⟩) n c)) (hM : ∀ s ∈ M, s.b ≠ b) (hg : On E ops g) (hd : Nat.blt d N.n = true)
    (h : WO false Try.prog N Fin ops rest k ((d, .slice (some ⟨b, 0, none⟩) n c) :: E) (⟨false, b, 0, l⟩ :: M)) : WO false Try.prog N Fin ops (⟨some d, .convert 22 22 x, ty, pos, after, g⟩ :: rest) k E (⟨true, b, 0, l⟩ :: M) := by
  refine ⟨⟨?_⟩⟩
  intro base w0 a w hA hS
  unfold wpList
  rw [if_pos (On.wanted (o := ⟨some d, .convert 22 22 x, ty, pos, after, g⟩) hg hA)]
  refine .inl ?_
  unfold Oper.wp
  obtain ⟨cs, T, lo, hi, hh, _⟩ := hS.seg _ (.head _)
  have hh : w.heap[b]? = some (.cells cs T (lo, hi)) := hh
  have hsh : w.shape? b = some (T, cs.size) := by unfold World.shape?; rw [hh]
  have h1 : (convert 22 22 (.slice (some ⟨b, 0, none⟩) n c)).run Try.prog w = .ok (.slice (some ⟨b, 0, none⟩) n c) (w.freeze ⟨b, cs.size, none⟩ 1) := by
    unfold convert
    rw [Sem.run_bind, Tb.u22.run, Result.andThen_ok, Sem.run_bind, Tb.u22.run, Result.andThen_ok]
    dsimp only
    rw [Sem.run_bind, run_under Try.underlying5, Result.andThen_ok]
    simp [markStringish, hsh]
  have h2 : (execOp a.eval ⟨some d, .convert 22 22 x, ty, pos, after, g⟩).run Try.prog w = .ok (.value (.slice (some ⟨b, 0, none⟩) n c)) (w.freeze ⟨b, cs.size, none⟩ 1) := by
    simp [execOp, hA.eval hx, h1]
  rw [h2]
  exact h.out.out base w0 _ _ (hA.put hd _) (hS.freeze hM)
end
end Go.Proofs.Ytcibehgcibojnaa.Vm

namespace Go.Proofs.Ytcibehgcibojnaa.Sai
open Go Go.RowKit Go.Proofs.Ytcibehgcibojnaa.Vm Go.Proofs.Ytcibehgcibojnaa.Sais
theorem right0_c (ab al : Option Addr) (cap cl : Nat) (M : Mem) :
    HC Try.prog 6 #[.slice ab 0 cap, .slice al 0 cl] M (fun v M' => v = .bool true ∧ Rk M' M) := by
  obtain ⟨I, hI, hI1, hI2, hI3⟩ := info4'
  refine HC_of_W (fn := Try.f6) Try.func6 rfl rfl rfl rfl ?_
  repeat' (first|(refine isO ?_;first|refine oo (Pc rfl) ?_|refine oo (Pa rfl (by omega) (by omega)) ?_|(refine ob rfl ?_ ?_<;>intro hq<;>try (exfalso;omega))|refine oo (Pi rfl (by first|omega|(simp only [wr_length];omega))) ?_|refine oo (Pz rfl (by omega) (by omega)) ?_|refine oo (Pl rfl) ?_|refine oo (Px rfl rfl) ?_|refine oo (Pj rfl (by omega) (by omega)) ?_|refine oo (Pk rfl (by omega) (by omega)) ?_|refine oo (Pf rfl) ?_|refine oo (Pv rfl (by omega) (by omega)) ?_|refine oo (Pn rfl) ?_|refine oo (Ph rfl) ?_|refine oo (Pg rfl (by omega) (by omega)) ?_|refine oo (Pe rfl (by omega) (by omega)) ?_|refine oo (Po rfl (by omega) (by omega)) ?_|refine oo (Pm rfl) ?_|refine os rfl rfl ?_|refine ot rfl (by first|omega|(simp only [wr_length];omega)) ?_|refine O_nil ?_)|refine wo rfl ?_|refine wc rfl ?_|refine wg rfl ?_|refine go rfl ?_|refine gc rfl ?_|refine gg rfl ?_)
  refine O_make1 (P := Try.prog) (e := 4) (z := 0) (v := .bool false) und30 hI hI1 hI3 rfl rfl (by omega) (by rw [hI2]; omega) (by omega) trivial rfl fun bs => ?_
  repeat' (first|(refine isO ?_;first|refine oo (Pc rfl) ?_|refine oo (Pa rfl (by omega) (by omega)) ?_|(refine ob rfl ?_ ?_<;>intro hq<;>try (exfalso;omega))|refine oo (Pi rfl (by first|omega|(simp only [wr_length];omega))) ?_|refine oo (Pz rfl (by omega) (by omega)) ?_|refine oo (Pl rfl) ?_|refine oo (Px rfl rfl) ?_|refine oo (Pj rfl (by omega) (by omega)) ?_|refine oo (Pk rfl (by omega) (by omega)) ?_|refine oo (Pf rfl) ?_|refine oo (Pv rfl (by omega) (by omega)) ?_|refine oo (Pn rfl) ?_|refine oo (Ph rfl) ?_|refine oo (Pg rfl (by omega) (by omega)) ?_|refine oo (Pe rfl (by omega) (by omega)) ?_|refine oo (Po rfl (by omega) (by omega)) ?_|refine oo (Pm rfl) ?_|refine os rfl rfl ?_|refine ot rfl (by first|omega|(simp only [wr_length];omega)) ?_|refine O_nil ?_)|refine wo rfl ?_|refine wc rfl ?_|refine wg rfl ?_|refine go rfl ?_|refine gc rfl ?_|refine gg rfl ?_)
  refine W_loop (α := Unit) (fun _ => [(1, .slice al 0 cl), (6, .int .i64 0)]) (fun _ => M) (fun _ => True) (fun _ => 0) () trivial (by (repeat (first | exact trivial | refine ⟨rfl, ?_⟩))) (.drop .rfl) ?_
  rintro _ _
  repeat' (first|(refine isO ?_;first|refine oo (Pc rfl) ?_|refine oo (Pa rfl (by omega) (by omega)) ?_|(refine ob rfl ?_ ?_<;>intro hq<;>try (exfalso;omega))|refine oo (Pi rfl (by first|omega|(simp only [wr_length];omega))) ?_|refine oo (Pz rfl (by omega) (by omega)) ?_|refine oo (Pl rfl) ?_|refine oo (Px rfl rfl) ?_|refine oo (Pj rfl (by omega) (by omega)) ?_|refine oo (Pk rfl (by omega) (by omega)) ?_|refine oo (Pf rfl) ?_|refine oo (Pv rfl (by omega) (by omega)) ?_|refine oo (Pn rfl) ?_|refine oo (Ph rfl) ?_|refine oo (Pg rfl (by omega) (by omega)) ?_|refine oo (Pe rfl (by omega) (by omega)) ?_|refine oo (Po rfl (by omega) (by omega)) ?_|refine oo (Pm rfl) ?_|refine os rfl rfl ?_|refine ot rfl (by first|omega|(simp only [wr_length];omega)) ?_|refine O_nil ?_)|refine wo rfl ?_|refine wc rfl ?_|refine wg rfl ?_|refine go rfl ?_|refine gc rfl ?_|refine gg rfl ?_)
  exact G_fin ⟨_, rfl, rfl, .rfl⟩
theorem row22_2 (w : World) : (Instr.buildSlice 22 2 [(0, .int .u8 97), (1, .int .u8 98)].toArray).run Try.prog w = .ok (.slice (some ⟨w.heap.size, 0, none⟩) 2 2) (w.alloc (.cells (ints .u8 [97, 98]).toArray 5)) := by
  kernel_rfl
theorem awake_suf {X : List Int} (h : SufA [97, 98] X) : rd X 0 = 0 ∧ rd X 1 = 1 := by
  obtain ⟨v, hv, e⟩ := h.at' 0 (by decide)
  obtain ⟨w, hw, e2⟩ := h.at' 1 (by decide)
  have hv : v < 2 := hv
  have hw : w < 2 := hw
  have h1 := h.ord 0 1 (by decide) (by decide) v w e e2
  have hvw : v ≠ w := fun e => by subst e; exact sl_irrefl _ _ h1
  have hv0 : v = 0 := by
    refine Classical.byContradiction fun hn => ?_
    obtain rfl : v = 1 := by omega
    obtain rfl : w = 0 := by omega
    have h2 : Sl [97, 98] 0 1 := (sl_iff [97, 98] (by decide) (by decide)).2 (.inl (by decide))
    exact sl_asymm h1 h2
  subst hv0
  obtain rfl : w = 1 := by omega
  exact ⟨e, e2⟩
theorem awake_c (M : Mem) (hM : Ne M) : HC Try.prog 5 #[] M (fun v M' => v = .bool true ∧ Rk M' M) := by
  refine HC_of_W (fn := Try.f5) Try.func5 rfl rfl rfl rfl ?_
  repeat' (first|(refine isO ?_;first|refine oo (Pc rfl) ?_|refine oo (Pa rfl (by omega) (by omega)) ?_|(refine ob rfl ?_ ?_<;>intro hq<;>try (exfalso;omega))|refine oo (Pi rfl (by first|omega|(simp only [wr_length];omega))) ?_|refine oo (Pz rfl (by omega) (by omega)) ?_|refine oo (Pl rfl) ?_|refine oo (Px rfl rfl) ?_|refine oo (Pj rfl (by omega) (by omega)) ?_|refine oo (Pk rfl (by omega) (by omega)) ?_|refine oo (Pf rfl) ?_|refine oo (Pv rfl (by omega) (by omega)) ?_|refine oo (Pn rfl) ?_|refine oo (Ph rfl) ?_|refine oo (Pg rfl (by omega) (by omega)) ?_|refine oo (Pe rfl (by omega) (by omega)) ?_|refine oo (Po rfl (by omega) (by omega)) ?_|refine oo (Pm rfl) ?_|refine os rfl rfl ?_|refine ot rfl (by first|omega|(simp only [wr_length];omega)) ?_|refine O_nil ?_)|refine wo rfl ?_|refine wc rfl ?_|refine wg rfl ?_|refine go rfl ?_|refine gc rfl ?_|refine gg rfl ?_)
  refine O_buildSliceF rfl (row22_2) trivial rfl fun b hb => ?_
  refine O_conv22 rfl hb trivial rfl ?_
  refine O_call rfl rfl Tb.k7 trivial rfl (suffixes_c [97, 98] (txt256 (by decide) (by decide) (by decide)) false b 0 2 [] (⟨false, b, 0, ints .u8 [97, 98]⟩ :: M) (by simp) (Ne.cons (ints_ne (by decide)) hM)) ?_
  rintro _ M' ⟨bl, X, hXl, hX, rfl, hrk⟩
  refine O_weak hrk ?_
  clear hrk
  obtain ⟨e0, e1⟩ := awake_suf hX
  have hXl : X.length = 2 := hXl
  repeat' (first|(refine isO ?_;first|refine oo (Pc rfl) ?_|refine oo (Pa rfl (by omega) (by omega)) ?_|(refine ob rfl ?_ ?_<;>intro hq<;>try (exfalso;omega))|refine oo (Pi rfl (by first|omega|(simp only [wr_length];omega))) ?_|refine oo (Pz rfl (by omega) (by omega)) ?_|refine oo (Pl rfl) ?_|refine oo (Px rfl rfl) ?_|refine oo (Pj rfl (by omega) (by omega)) ?_|refine oo (Pk rfl (by omega) (by omega)) ?_|refine oo (Pf rfl) ?_|refine oo (Pv rfl (by omega) (by omega)) ?_|refine oo (Pn rfl) ?_|refine oo (Ph rfl) ?_|refine oo (Pg rfl (by omega) (by omega)) ?_|refine oo (Pe rfl (by omega) (by omega)) ?_|refine oo (Po rfl (by omega) (by omega)) ?_|refine oo (Pm rfl) ?_|refine os rfl rfl ?_|refine ot rfl (by first|omega|(simp only [wr_length];omega)) ?_|refine O_nil ?_)|refine wo rfl ?_|refine wc rfl ?_|refine wg rfl ?_|refine go rfl ?_|refine gc rfl ?_|refine gg rfl ?_)
  exact G_fin ⟨_, rfl, rfl, .drop (.drop .rfl)⟩
def Bh (s : Value) (T : List Nat) (own : Bool) (sp : List Value) (M : Mem) : Prop :=
  (∀ x ∈ T, x < 256) ∧ ∃ ad cap, s = .slice ad T.length cap ∧ T.length ≤ cap ∧ ((T = [] ∧ M = []) ∨ 0 < T.length ∧ ∃ b o, ad = some ⟨b, o, none⟩ ∧ M = [⟨own, b, o, ints .u8 (T.map Nat.cast) ++ sp⟩])
theorem row_ne {T : List Nat} {own : Bool} {b o : Nat} {sp : List Value} (hT : 0 < T.length) : Ne [⟨own, b, o, ints .u8 (T.map Nat.cast) ++ sp⟩] := by
  intro t ht
  rw [List.mem_singleton] at ht
  subst ht
  intro e
  have := congrArg List.length e
  rw [List.length_append, ints_length, List.length_map] at this
  simp only [List.length_nil] at this
  omega
theorem law3_0 (ad : Option Addr) (cap : Nat) : HC Try.prog 3 #[.slice ad 0 cap] [] (fun v M' => v = .bool true ∧ Rk M' []) := by
  have hNe : Ne [] := fun t ht => by cases ht
  refine HC_of_W (fn := Try.f3) Try.func3 rfl rfl rfl rfl ?_
  repeat' (first|(refine isO ?_;first|refine oo (Pc rfl) ?_|refine oo (Pa rfl (by omega) (by omega)) ?_|(refine ob rfl ?_ ?_<;>intro hq<;>try (exfalso;omega))|refine oo (Pi rfl (by first|omega|(simp only [wr_length];omega))) ?_|refine oo (Pz rfl (by omega) (by omega)) ?_|refine oo (Pl rfl) ?_|refine oo (Px rfl rfl) ?_|refine oo (Pj rfl (by omega) (by omega)) ?_|refine oo (Pk rfl (by omega) (by omega)) ?_|refine oo (Pf rfl) ?_|refine oo (Pv rfl (by omega) (by omega)) ?_|refine oo (Pn rfl) ?_|refine oo (Ph rfl) ?_|refine oo (Pg rfl (by omega) (by omega)) ?_|refine oo (Pe rfl (by omega) (by omega)) ?_|refine oo (Po rfl (by omega) (by omega)) ?_|refine oo (Pm rfl) ?_|refine os rfl rfl ?_|refine ot rfl (by first|omega|(simp only [wr_length];omega)) ?_|refine O_nil ?_)|refine wo rfl ?_|refine wc rfl ?_|refine wg rfl ?_|refine go rfl ?_|refine gc rfl ?_|refine gg rfl ?_)
  (refine O_call rfl rfl Tb.k5 trivial rfl (awake_c _ hNe) ?_; rintro _ M' ⟨rfl, hrk⟩; refine O_weak hrk ?_; clear hrk M'; (repeat' (first|(refine isO ?_;first|refine oo (Pc rfl) ?_|refine oo (Pa rfl (by omega) (by omega)) ?_|(refine ob rfl ?_ ?_<;>intro hq<;>try (exfalso;omega))|refine oo (Pi rfl (by first|omega|(simp only [wr_length];omega))) ?_|refine oo (Pz rfl (by omega) (by omega)) ?_|refine oo (Pl rfl) ?_|refine oo (Px rfl rfl) ?_|refine oo (Pj rfl (by omega) (by omega)) ?_|refine oo (Pk rfl (by omega) (by omega)) ?_|refine oo (Pf rfl) ?_|refine oo (Pv rfl (by omega) (by omega)) ?_|refine oo (Pn rfl) ?_|refine oo (Ph rfl) ?_|refine oo (Pg rfl (by omega) (by omega)) ?_|refine oo (Pe rfl (by omega) (by omega)) ?_|refine oo (Po rfl (by omega) (by omega)) ?_|refine oo (Pm rfl) ?_|refine os rfl rfl ?_|refine ot rfl (by first|omega|(simp only [wr_length];omega)) ?_|refine O_nil ?_)|refine wo rfl ?_|refine wc rfl ?_|refine wg rfl ?_|refine go rfl ?_|refine gc rfl ?_|refine gg rfl ?_)))
  refine O_call rfl rfl Tb.k7 ⟨_, rfl, rfl⟩ rfl (suffixes0_c ad cap []) ?_
  rintro _ M' ⟨bl, rfl, hrk⟩
  refine O_weak hrk ?_
  clear hrk M'
  refine O_call rfl rfl Tb.k6 ⟨_, rfl, rfl⟩ rfl (right0_c ad _ cap _ []) ?_
  rintro _ M' ⟨rfl, hrk⟩
  refine O_weak hrk ?_
  clear hrk M'
  repeat' (first|(refine isO ?_;first|refine oo (Pc rfl) ?_|refine oo (Pa rfl (by omega) (by omega)) ?_|(refine ob rfl ?_ ?_<;>intro hq<;>try (exfalso;omega))|refine oo (Pi rfl (by first|omega|(simp only [wr_length];omega))) ?_|refine oo (Pz rfl (by omega) (by omega)) ?_|refine oo (Pl rfl) ?_|refine oo (Px rfl rfl) ?_|refine oo (Pj rfl (by omega) (by omega)) ?_|refine oo (Pk rfl (by omega) (by omega)) ?_|refine oo (Pf rfl) ?_|refine oo (Pv rfl (by omega) (by omega)) ?_|refine oo (Pn rfl) ?_|refine oo (Ph rfl) ?_|refine oo (Pg rfl (by omega) (by omega)) ?_|refine oo (Pe rfl (by omega) (by omega)) ?_|refine oo (Po rfl (by omega) (by omega)) ?_|refine oo (Pm rfl) ?_|refine os rfl rfl ?_|refine ot rfl (by first|omega|(simp only [wr_length];omega)) ?_|refine O_nil ?_)|refine wo rfl ?_|refine wc rfl ?_|refine wg rfl ?_|refine go rfl ?_|refine gc rfl ?_|refine gg rfl ?_)
  exact G_fin ⟨_, rfl, rfl, .rfl⟩
theorem law3_s (T : List Nat) (hT : ∀ x ∈ T, x < 256) (h0 : 0 < T.length) (own : Bool) (b o cap : Nat) (hcap : T.length ≤ cap) (sp : List Value) :
    HC Try.prog 3 #[.slice (some ⟨b, o, none⟩) T.length cap] [⟨own, b, o, ints .u8 (T.map Nat.cast) ++ sp⟩] (fun v M' => v = .bool true ∧ Rk M' [⟨own, b, o, ints .u8 (T.map Nat.cast) ++ sp⟩]) := by
  have hNe : Ne [⟨own, b, o, ints .u8 (T.map Nat.cast) ++ sp⟩] := row_ne h0
  refine HC_of_W (fn := Try.f3) Try.func3 rfl rfl rfl rfl ?_
  repeat' (first|(refine isO ?_;first|refine oo (Pc rfl) ?_|refine oo (Pa rfl (by omega) (by omega)) ?_|(refine ob rfl ?_ ?_<;>intro hq<;>try (exfalso;omega))|refine oo (Pi rfl (by first|omega|(simp only [wr_length];omega))) ?_|refine oo (Pz rfl (by omega) (by omega)) ?_|refine oo (Pl rfl) ?_|refine oo (Px rfl rfl) ?_|refine oo (Pj rfl (by omega) (by omega)) ?_|refine oo (Pk rfl (by omega) (by omega)) ?_|refine oo (Pf rfl) ?_|refine oo (Pv rfl (by omega) (by omega)) ?_|refine oo (Pn rfl) ?_|refine oo (Ph rfl) ?_|refine oo (Pg rfl (by omega) (by omega)) ?_|refine oo (Pe rfl (by omega) (by omega)) ?_|refine oo (Po rfl (by omega) (by omega)) ?_|refine oo (Pm rfl) ?_|refine os rfl rfl ?_|refine ot rfl (by first|omega|(simp only [wr_length];omega)) ?_|refine O_nil ?_)|refine wo rfl ?_|refine wc rfl ?_|refine wg rfl ?_|refine go rfl ?_|refine gc rfl ?_|refine gg rfl ?_)
  · exact G_fin ⟨_, rfl, rfl, .rfl⟩
  · ((refine O_call rfl rfl Tb.k5 trivial rfl (awake_c _ hNe) ?_; rintro _ M' ⟨rfl, hrk⟩; refine O_weak hrk ?_; clear hrk M'; (repeat' (first|(refine isO ?_;first|refine oo (Pc rfl) ?_|refine oo (Pa rfl (by omega) (by omega)) ?_|(refine ob rfl ?_ ?_<;>intro hq<;>try (exfalso;omega))|refine oo (Pi rfl (by first|omega|(simp only [wr_length];omega))) ?_|refine oo (Pz rfl (by omega) (by omega)) ?_|refine oo (Pl rfl) ?_|refine oo (Px rfl rfl) ?_|refine oo (Pj rfl (by omega) (by omega)) ?_|refine oo (Pk rfl (by omega) (by omega)) ?_|refine oo (Pf rfl) ?_|refine oo (Pv rfl (by omega) (by omega)) ?_|refine oo (Pn rfl) ?_|refine oo (Ph rfl) ?_|refine oo (Pg rfl (by omega) (by omega)) ?_|refine oo (Pe rfl (by omega) (by omega)) ?_|refine oo (Po rfl (by omega) (by omega)) ?_|refine oo (Pm rfl) ?_|refine os rfl rfl ?_|refine ot rfl (by first|omega|(simp only [wr_length];omega)) ?_|refine O_nil ?_)|refine wo rfl ?_|refine wc rfl ?_|refine wg rfl ?_|refine go rfl ?_|refine gc rfl ?_|refine gg rfl ?_)));exact G_fin ⟨_, rfl, rfl, .rfl⟩)
  · (refine O_call rfl rfl Tb.k5 trivial rfl (awake_c _ hNe) ?_; rintro _ M' ⟨rfl, hrk⟩; refine O_weak hrk ?_; clear hrk M'; (repeat' (first|(refine isO ?_;first|refine oo (Pc rfl) ?_|refine oo (Pa rfl (by omega) (by omega)) ?_|(refine ob rfl ?_ ?_<;>intro hq<;>try (exfalso;omega))|refine oo (Pi rfl (by first|omega|(simp only [wr_length];omega))) ?_|refine oo (Pz rfl (by omega) (by omega)) ?_|refine oo (Pl rfl) ?_|refine oo (Px rfl rfl) ?_|refine oo (Pj rfl (by omega) (by omega)) ?_|refine oo (Pk rfl (by omega) (by omega)) ?_|refine oo (Pf rfl) ?_|refine oo (Pv rfl (by omega) (by omega)) ?_|refine oo (Pn rfl) ?_|refine oo (Ph rfl) ?_|refine oo (Pg rfl (by omega) (by omega)) ?_|refine oo (Pe rfl (by omega) (by omega)) ?_|refine oo (Po rfl (by omega) (by omega)) ?_|refine oo (Pm rfl) ?_|refine os rfl rfl ?_|refine ot rfl (by first|omega|(simp only [wr_length];omega)) ?_|refine O_nil ?_)|refine wo rfl ?_|refine wc rfl ?_|refine wg rfl ?_|refine go rfl ?_|refine gc rfl ?_|refine gg rfl ?_)))
    refine O_call rfl rfl Tb.k7 ⟨_, rfl, rfl⟩ rfl (suffixes_c T (txt256 h0 (by omega) hT) own b o cap sp _ (.head _) hNe) ?_
    rintro _ M' ⟨bl, X, hXl, hX, rfl, hrk⟩
    refine O_weak (.trans hrk (.cons (.tail .head) (.cons .head .rfl))) ?_
    clear hrk M'
    refine O_call rfl rfl Tb.k6 ⟨_, rfl, rfl⟩ rfl (right_c T hT (by omega) X hXl hX own b o cap bl sp [] hcap) ?_
    rintro _ M' ⟨rfl, hrk⟩
    refine O_weak (.trans hrk (.cons .head (.drop .rfl))) ?_
    clear hrk M'
    repeat' (first|(refine isO ?_;first|refine oo (Pc rfl) ?_|refine oo (Pa rfl (by omega) (by omega)) ?_|(refine ob rfl ?_ ?_<;>intro hq<;>try (exfalso;omega))|refine oo (Pi rfl (by first|omega|(simp only [wr_length];omega))) ?_|refine oo (Pz rfl (by omega) (by omega)) ?_|refine oo (Pl rfl) ?_|refine oo (Px rfl rfl) ?_|refine oo (Pj rfl (by omega) (by omega)) ?_|refine oo (Pk rfl (by omega) (by omega)) ?_|refine oo (Pf rfl) ?_|refine oo (Pv rfl (by omega) (by omega)) ?_|refine oo (Pn rfl) ?_|refine oo (Ph rfl) ?_|refine oo (Pg rfl (by omega) (by omega)) ?_|refine oo (Pe rfl (by omega) (by omega)) ?_|refine oo (Po rfl (by omega) (by omega)) ?_|refine oo (Pm rfl) ?_|refine os rfl rfl ?_|refine ot rfl (by first|omega|(simp only [wr_length];omega)) ?_|refine O_nil ?_)|refine wo rfl ?_|refine wc rfl ?_|refine wg rfl ?_|refine go rfl ?_|refine gc rfl ?_|refine gg rfl ?_)
    exact G_fin ⟨_, rfl, rfl, .rfl⟩
theorem law3_c (s : Value) (T : List Nat) (M : Mem) (h : Bh s T false [] M) : HC Try.prog 3 #[s] M (fun v M' => v = .bool true ∧ Rk M' M) := by
  obtain ⟨hT, ad, cap, rfl, hcap, ⟨rfl, rfl⟩ | ⟨h0, b, o, rfl, rfl⟩⟩ := h
  · exact law3_0 ad cap
  · exact law3_s T hT h0 false b o cap hcap []
end Go.Proofs.Ytcibehgcibojnaa.Sai

namespace Go.Proofs.Ytcibehgcibojnaa.fnSuffixes
open Go.ChangeShapes Go.WideShapes Go.ChangeAt Go.RowKit Go.Proofs.Ytcibehgcibojnaa.Vm Go.Proofs.Ytcibehgcibojnaa.Sai
set_option linter.unusedVariables false
theorem own : ownKnob Try.prog.godebug = none := by kernel_rfl
theorem cells5 : Try.prog.cellsOf 5 = 1 := by kernel_rfl
theorem laid : laidOutB Try.prog = true := by kernel_rfl
theorem bytes_open {H : Type} {enc : TypeId × Value → H} {W : World} {ad : Option Addr} {len cap : Nat} {d : DataW H} {ps : List MemPlace} (h : DataW.Trod enc Try.prog W 0 (fun _ => true) true 22 (.slice ad len cap) d ps) :
    ∃ (xs : List Nat) (m : Mem), Bh (.slice ad len cap) xs false [] m ∧ (∀ s ∈ m, s.own = false ∧ s.lies W.heap.size W) := by
  obtain ⟨fuel, hf⟩ := h
  rcases open_ints Try.underlying22 Try.underlying5 cells5 hf with ⟨hcs, hx⟩ | ⟨a, len', cap', zs, hcs, _, hl, hm, hz, hx, hcell, hwz⟩
  · simp [Value.cells] at hcs
    obtain ⟨rfl, rfl, rfl⟩ := hcs
    exact ⟨[], [], ⟨by simp, none, 0, rfl, Nat.le_refl _, .inl ⟨rfl, rfl⟩⟩, by simp⟩
  · simp [Value.cells] at hcs
    obtain ⟨rfl, rfl, rfl⟩ := hcs
    simp only [if_true] at hz
    have hbyte : ∀ z ∈ zs, 0 ≤ z ∧ z ≤ 255 := fun z hz => by
      have := hwz z hz
      simpa [Lit.wf, IntKind.min, IntKind.max, IntKind.signed, IntKind.bits] using this
    have hlen : ((zs.take len).map Int.toNat).length = len := by simp; omega
    have hback : ((zs.take len).map Int.toNat).map (Nat.cast : Nat → Int) = zs.take len := by
      rw [List.map_map]
      conv => rhs; rw [← List.map_id (zs.take len)]
      apply List.map_congr_left
      intro z hz
      have := hbyte z (List.mem_of_mem_take hz)
      simp; omega
    have hlt : ∀ x ∈ (zs.take len).map Int.toNat, x < 256 := by
      intro x hx
      obtain ⟨z, hz, rfl⟩ := List.mem_map.1 hx
      have := hbyte z (List.mem_of_mem_take hz)
      omega
    by_cases h0 : len = 0
    · subst h0
      exact ⟨[], [], ⟨by simp, some a, cap, rfl, Nat.zero_le _, .inl ⟨rfl, rfl⟩⟩, by simp⟩
    · obtain ⟨b, off, spot⟩ := a
      have hc0 := hcell 0 (by omega)
      have hsp : spot = none := by
        cases spot with
        | none => rfl
        | some s =>
          exfalso
          simp only [World.cell?, Addr.add] at hc0
          split at hc0 <;> (try split at hc0) <;> simp_all
      subst hsp
      refine ⟨_, [⟨false, b, off, ints .u8 (((zs.take len).map Int.toNat).map Nat.cast) ++ []⟩], ⟨hlt, some ⟨b, off, none⟩, cap, by rw [hlen], by rw [hlen]; omega, .inr ⟨by omega, b, off, rfl, rfl⟩⟩, ?_⟩
      intro s hs
      obtain rfl := List.mem_singleton.1 hs
      refine ⟨rfl, ?_⟩
      rw [List.append_nil, hback]
      have hcell' : ∀ i, i < zs.length → W.cell? ⟨b, off + i, none⟩ = some (.int .u8 (zs.getD i 0)) := fun i hi => by rw [← add_place]; exact hcell i hi
      cases hh : W.heap[b]? with
      | none => have := hcell' 0 (by omega); simp [World.cell?, hh] at this
      | some o =>
        cases o with
        | cells c T f =>
          obtain ⟨lo, hi⟩ := f
          have hget : ∀ i, i < zs.length → c[off + i]? = some (.int .u8 (zs.getD i 0)) := fun i hi => by
            have := hcell' i hi
            simpa [World.cell?, hh] using this
          refine ⟨c, T, lo, hi, hh, ?_, fun i hi => ?_, fun h => by cases h⟩
          · have h1 := hget (len - 1) (by omega)
            have h2 := (Array.getElem?_eq_some_iff.1 h1).1
            simp only [ints_length, List.length_take]
            omega
          · simp only [ints_length, List.length_take] at hi
            rw [hget i (by omega), ints_get (by simp; omega)]
            simp [show i < len by omega, show i < zs.length by omega]
        | _ => have := hcell' 0 (by omega); simp [World.cell?, hh] at this
set_option maxRecDepth 100000 in
theorem contract (H : Type) (enc : TypeId × Value → H) (W : World) (base : Nat) (args : Array Value) (ds gs : List (DataW H)) (before : List MemPlace)
    (hval : ∀ (j : Nat) t v, Try.f3.params[j]? = some t → args[j]? = some v → Value.okWide Try.prog W .any base t v)
    (hW : DataW.Whole enc Try.prog Try.f3.params.toList Rows.fnSuffixesSpec.vars false W args.toList ds gs before) :
    Calls Try.prog 3 args W fun e W' => ∃ v, e = .returned v ∧ Rows.fnSuffixesSpec.post enc Try.prog Try.f3 false true false false W args v W' := by
  have hW' := hW
  obtain ⟨p, q, hA0, hV, rfl, hfz, hnd⟩ := hW
  have hA : DataW.TrodAll enc Try.prog W 0 (fun _ => true) true Try.f3.params.toList args.toList ds p := hA0
  rw [Try.params3] at hA hval
  obtain ⟨v0, vs0, d0, ds0, p0, q0, hargs, rfl, rfl, h0, r0⟩ := trodAll_cons hA
  obtain ⟨rfl, rfl, rfl⟩ := trodAll_nil r0
  obtain rfl : args = #[v0] := by cases args; simp_all
  obtain ⟨rfl, rfl⟩ := trodVars_none hV
  obtain ⟨b1, n1, k1, rfl⟩ := okWide_slice Try.underlying22 (hval 0 22 v0 rfl rfl)
  obtain ⟨xs, m1, hb1, hm1⟩ := bytes_open h0
  clear hA0
  simp only [List.append_nil] at hW'
  have hS : Sim false W.heap.size W W m1 := by
    refine ⟨Below.refl _ _, Nat.le_refl _, fun s hs => (hm1 s hs).2, ?_, fun h => by cases h⟩
    exact List.pairwise_of_forall_mem_list fun s hs t ht => .inl ⟨(hm1 s hs).1, (hm1 t ht).1⟩
  refine ((law3_c _ xs m1 hb1).out W.heap.size W W hS).mono ?_
  rintro e W' ⟨v, M', rfl, hS', rfl, _⟩
  have hB := hS'.bel
  have hlt := hW'.lt
  have t1 : DataW.Trod enc Try.prog W' 0 (fun b => decide (b < W.heap.size)) true 22 (.slice b1 n1 k1) d0 p0 := Below.trod laid (by kernel_rfl) (of_decide_eq_true (by kernel_rfl)) h0 hB (fun x hx => hlt x (by simp [hx]))
  exact ⟨_, rfl, _, _, _, [], _, [], hW', trodAll_cons_mk (shut_bool Try.underlying4 _) trodAll_mk0, trodAll_cons_mk t1 trodAll_mk0, rfl, hB.frame _, fun h => by cases h⟩
set_option maxRecDepth 100000 in
theorem lifted (os : Os) (started : os.Started) (H : Type) (enc : TypeId × Value → H) :
    ReturnsInHanded {} Try.checked os 3 .any (Rows.fnSuffixesSpec.pre6 enc Try.prog Try.f3 Rows.fnSuffixesRow.domain false) (Rows.fnSuffixesSpec.post enc Try.prog Try.f3 false true false false) := by
  refine returnsInHanded_of_change (C := Try.checked) own started (by kernel_rfl) Try.func3
    (ChangeSpec.witness6 (enc := enc) (C := Try.checked) false ⟨#[], #[.slice none 0 0], []⟩ 8 (by kernel_rfl) (by kernel_rfl) (by kernel_rfl) (by kernel_rfl)) ?_
  intro W base args ds gs before hval hW _ _
  exact contract H enc W base args ds gs before hval hW
theorem over : Rows.fnSuffixesRow.holds Try.pinned (OpenSpec.ofChange Rows.fnSuffixesSpec) :=
  OpenClaim.holds_of_wide 3 Try.f3 rfl rfl rfl rfl rfl rfl rfl ⟨rfl, rfl, rfl, rfl, rfl⟩ rfl rfl rfl rfl rfl (by kernel_rfl) Try.func3 (by kernel_rfl)
    (of_decide_eq_true (by kernel_rfl)) (by unfold Func.isWrapper; first | (rw [if_pos (by decide +kernel)]; kernel_rfl) | (rw [if_neg (by decide +kernel)]; exact ⟨rfl, rfl⟩))
    (fun os started H enc _ => lifted os started H enc)
theorem proved : Rows.FnSuffixesSaid := over
end Go.Proofs.Ytcibehgcibojnaa.fnSuffixes

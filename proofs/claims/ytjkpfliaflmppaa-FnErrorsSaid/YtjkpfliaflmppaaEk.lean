/- errors.IsClosed and its kin, impl.ErrorKinds, walked. -/
import Derived.Test.YtjkpfliaflmppaaEr
import Derived.Test.YtjkpfliaflmppaaVm16
import Derived.Test.YtjkpfliaflmppaaZs
namespace Go.Proofs.Ytjkpfliaflmppaa.Er
open Go Go.RowKit Go.Proofs.Ytjkpfliaflmppaa.Vm Go.Proofs.Ytjkpfliaflmppaa.Sf

/-- An error's cells. -/
abbrev ec (c : Int) (p m : Value) : List Value := [.int .i64 c, p, m]
abbrev ev' (c : Int) (p m : Value) : Value := .iface 129 (.agg (ec c p m).toArray)
theorem zero129 : ∃ c, zeroOf Try.prog 129 = some c ∧ c.length = 3 := ⟨[.int .i64 0, .string ⟨#[]⟩, .string ⟨#[]⟩], by kernel_rfl, rfl⟩
theorem zero52 : zeroOf Try.prog 52 = some [.bool false, .bool false, .bool false, .bool false, .bool false] := by kernel_rfl
theorem zero82 : zeroOf Try.prog 82 = some [.nilIface] := by kernel_rfl
theorem build129 (c : Int) (p m : ByteArray) (w : World) : (Instr.build 129 [(0, .int .i64 c), (1, .string p), (2, .string m)].toArray).run Try.prog w = .ok (.agg (ec c (.string p) (.string m)).toArray) w := by kernel_rfl
theorem build52 (a b c d e : Bool) (w : World) : (Instr.build 52 [(0, .bool a), (1, .bool b), (2, .bool c), (3, .bool d), (4, .bool e)].toArray).run Try.prog w = .ok (.agg [.bool a, .bool b, .bool c, .bool d, .bool e].toArray) w := by kernel_rfl
theorem ec_one (c : Int) (p m : ByteArray) : ∀ v ∈ ec c (.string p) (.string m), v.oneCell' = true := by
  intro v hv
  simp at hv
  rcases hv with rfl | rfl | rfl <;> rfl

theorem is104_c (c k : Int) (p m : ByteArray) (M : Mem) : HC Try.prog 104 #[ev' c (.string p) (.string m), .int .i64 k] M (fun r M' => r = .bool (decide (c = k)) ∧ Rk M' M) := by
  obtain ⟨z, hz, hzl⟩ := zero129
  refine HC_of_W (fn := Try.f104) Try.func104 rfl rfl rfl rfl ?_
  repeat' (first | (refine isO ?_; first | refine oo (Pc rfl) ?_ | refine oo (Pa rfl (by omega) (by omega)) ?_ | (refine ob rfl ?_ ?_ <;> intro hq <;> try (exfalso; omega)) | refine oo (Pi rfl (by omega)) ?_ | refine oo (Pl rfl) ?_ | refine oo (Px rfl rfl) ?_ | refine oo (Pj rfl (by omega) (by omega)) ?_ | refine oo (Pk rfl (by omega) (by omega)) ?_ | refine oo (Pf rfl) ?_ | refine oo (Pv rfl (by omega) (by omega)) ?_ | refine oo (Pn rfl) ?_ | refine oo (Pm rfl) ?_ | refine os rfl rfl ?_ | refine ot rfl (by omega) ?_ | refine O_nil ?_) | refine wo rfl ?_ | refine wc rfl ?_ | refine wg rfl ?_ | refine go rfl ?_ | refine gc rfl ?_ | refine gg rfl ?_)
  refine O_pure (P_assert129 rfl) trivial rfl ?_
  repeat' (first | (refine isO ?_; first | refine oo (Pc rfl) ?_ | refine oo (Pa rfl (by omega) (by omega)) ?_ | (refine ob rfl ?_ ?_ <;> intro hq <;> try (exfalso; omega)) | refine oo (Pi rfl (by omega)) ?_ | refine oo (Pl rfl) ?_ | refine oo (Px rfl rfl) ?_ | refine oo (Pj rfl (by omega) (by omega)) ?_ | refine oo (Pk rfl (by omega) (by omega)) ?_ | refine oo (Pf rfl) ?_ | refine oo (Pv rfl (by omega) (by omega)) ?_ | refine oo (Pn rfl) ?_ | refine oo (Pm rfl) ?_ | refine os rfl rfl ?_ | refine ot rfl (by omega) ?_ | refine O_nil ?_) | refine wo rfl ?_ | refine wc rfl ?_ | refine wg rfl ?_ | refine go rfl ?_ | refine gc rfl ?_ | refine gg rfl ?_)
  refine O_alloc hz trivial rfl fun bx => ?_
  refine O_storeAgg0 (cs := ec c (.string p) (.string m)) Tb.c129 (by decide) rfl rfl rfl (ec_one c p m) trivial .head hzl ?_
  repeat' (first | (refine isO ?_; first | refine oo (Pc rfl) ?_ | refine oo (Pa rfl (by omega) (by omega)) ?_ | (refine ob rfl ?_ ?_ <;> intro hq <;> try (exfalso; omega)) | refine oo (Pi rfl (by omega)) ?_ | refine oo (Pl rfl) ?_ | refine oo (Px rfl rfl) ?_ | refine oo (Pj rfl (by omega) (by omega)) ?_ | refine oo (Pk rfl (by omega) (by omega)) ?_ | refine oo (Pf rfl) ?_ | refine oo (Pv rfl (by omega) (by omega)) ?_ | refine oo (Pn rfl) ?_ | refine oo (Pm rfl) ?_ | refine os rfl rfl ?_ | refine ot rfl (by omega) ?_ | refine O_nil ?_) | refine wo rfl ?_ | refine wc rfl ?_ | refine wg rfl ?_ | refine go rfl ?_ | refine gc rfl ?_ | refine gg rfl ?_)
  · exact G_fin ⟨_, rfl, by simp [hq], .drop .rfl⟩
  · exact G_fin ⟨_, rfl, by simp [hq], .drop .rfl⟩

theorem is69_c (c : Int) (p m : ByteArray) (M : Mem) : HC Try.prog 69 #[ev' c (.string p) (.string m)] M (fun r M' => r = .bool (decide (c = 5)) ∧ Rk M' M) := by
  refine HC_of_W (fn := Try.f69) Try.func69 rfl rfl rfl rfl ?_
  (repeat' (first | (refine isO ?_; first | refine oo (Pc rfl) ?_ | refine oo (Pa rfl (by omega) (by omega)) ?_ | (refine ob rfl ?_ ?_ <;> intro hq <;> try (exfalso; omega)) | refine oo (Pi rfl (by omega)) ?_ | refine oo (Pl rfl) ?_ | refine oo (Px rfl rfl) ?_ | refine oo (Pj rfl (by omega) (by omega)) ?_ | refine oo (Pk rfl (by omega) (by omega)) ?_ | refine oo (Pf rfl) ?_ | refine oo (Pv rfl (by omega) (by omega)) ?_ | refine oo (Pn rfl) ?_ | refine oo (Pm rfl) ?_ | refine os rfl rfl ?_ | refine ot rfl (by omega) ?_ | refine O_nil ?_) | refine wo rfl ?_ | refine wc rfl ?_ | refine wg rfl ?_ | refine go rfl ?_ | refine gc rfl ?_ | refine gg rfl ?_)); refine O_call rfl rfl Tb.k104 trivial rfl (is104_c c _ p m M) ?_; rintro _ M' ⟨rfl, hrk⟩; refine O_weak hrk ?_; (repeat' (first | (refine isO ?_; first | refine oo (Pc rfl) ?_ | refine oo (Pa rfl (by omega) (by omega)) ?_ | (refine ob rfl ?_ ?_ <;> intro hq <;> try (exfalso; omega)) | refine oo (Pi rfl (by omega)) ?_ | refine oo (Pl rfl) ?_ | refine oo (Px rfl rfl) ?_ | refine oo (Pj rfl (by omega) (by omega)) ?_ | refine oo (Pk rfl (by omega) (by omega)) ?_ | refine oo (Pf rfl) ?_ | refine oo (Pv rfl (by omega) (by omega)) ?_ | refine oo (Pn rfl) ?_ | refine oo (Pm rfl) ?_ | refine os rfl rfl ?_ | refine ot rfl (by omega) ?_ | refine O_nil ?_) | refine wo rfl ?_ | refine wc rfl ?_ | refine wg rfl ?_ | refine go rfl ?_ | refine gc rfl ?_ | refine gg rfl ?_)); exact G_fin ⟨_, rfl, rfl, .rfl⟩
theorem is70_c (c : Int) (p m : ByteArray) (M : Mem) : HC Try.prog 70 #[ev' c (.string p) (.string m)] M (fun r M' => r = .bool (decide (c = 4)) ∧ Rk M' M) := by
  refine HC_of_W (fn := Try.f70) Try.func70 rfl rfl rfl rfl ?_
  (repeat' (first | (refine isO ?_; first | refine oo (Pc rfl) ?_ | refine oo (Pa rfl (by omega) (by omega)) ?_ | (refine ob rfl ?_ ?_ <;> intro hq <;> try (exfalso; omega)) | refine oo (Pi rfl (by omega)) ?_ | refine oo (Pl rfl) ?_ | refine oo (Px rfl rfl) ?_ | refine oo (Pj rfl (by omega) (by omega)) ?_ | refine oo (Pk rfl (by omega) (by omega)) ?_ | refine oo (Pf rfl) ?_ | refine oo (Pv rfl (by omega) (by omega)) ?_ | refine oo (Pn rfl) ?_ | refine oo (Pm rfl) ?_ | refine os rfl rfl ?_ | refine ot rfl (by omega) ?_ | refine O_nil ?_) | refine wo rfl ?_ | refine wc rfl ?_ | refine wg rfl ?_ | refine go rfl ?_ | refine gc rfl ?_ | refine gg rfl ?_)); refine O_call rfl rfl Tb.k104 trivial rfl (is104_c c _ p m M) ?_; rintro _ M' ⟨rfl, hrk⟩; refine O_weak hrk ?_; (repeat' (first | (refine isO ?_; first | refine oo (Pc rfl) ?_ | refine oo (Pa rfl (by omega) (by omega)) ?_ | (refine ob rfl ?_ ?_ <;> intro hq <;> try (exfalso; omega)) | refine oo (Pi rfl (by omega)) ?_ | refine oo (Pl rfl) ?_ | refine oo (Px rfl rfl) ?_ | refine oo (Pj rfl (by omega) (by omega)) ?_ | refine oo (Pk rfl (by omega) (by omega)) ?_ | refine oo (Pf rfl) ?_ | refine oo (Pv rfl (by omega) (by omega)) ?_ | refine oo (Pn rfl) ?_ | refine oo (Pm rfl) ?_ | refine os rfl rfl ?_ | refine ot rfl (by omega) ?_ | refine O_nil ?_) | refine wo rfl ?_ | refine wc rfl ?_ | refine wg rfl ?_ | refine go rfl ?_ | refine gc rfl ?_ | refine gg rfl ?_)); exact G_fin ⟨_, rfl, rfl, .rfl⟩
theorem is71_c (c : Int) (p m : ByteArray) (M : Mem) : HC Try.prog 71 #[ev' c (.string p) (.string m)] M (fun r M' => r = .bool (decide (c = 3)) ∧ Rk M' M) := by
  refine HC_of_W (fn := Try.f71) Try.func71 rfl rfl rfl rfl ?_
  (repeat' (first | (refine isO ?_; first | refine oo (Pc rfl) ?_ | refine oo (Pa rfl (by omega) (by omega)) ?_ | (refine ob rfl ?_ ?_ <;> intro hq <;> try (exfalso; omega)) | refine oo (Pi rfl (by omega)) ?_ | refine oo (Pl rfl) ?_ | refine oo (Px rfl rfl) ?_ | refine oo (Pj rfl (by omega) (by omega)) ?_ | refine oo (Pk rfl (by omega) (by omega)) ?_ | refine oo (Pf rfl) ?_ | refine oo (Pv rfl (by omega) (by omega)) ?_ | refine oo (Pn rfl) ?_ | refine oo (Pm rfl) ?_ | refine os rfl rfl ?_ | refine ot rfl (by omega) ?_ | refine O_nil ?_) | refine wo rfl ?_ | refine wc rfl ?_ | refine wg rfl ?_ | refine go rfl ?_ | refine gc rfl ?_ | refine gg rfl ?_)); refine O_call rfl rfl Tb.k104 trivial rfl (is104_c c _ p m M) ?_; rintro _ M' ⟨rfl, hrk⟩; refine O_weak hrk ?_; (repeat' (first | (refine isO ?_; first | refine oo (Pc rfl) ?_ | refine oo (Pa rfl (by omega) (by omega)) ?_ | (refine ob rfl ?_ ?_ <;> intro hq <;> try (exfalso; omega)) | refine oo (Pi rfl (by omega)) ?_ | refine oo (Pl rfl) ?_ | refine oo (Px rfl rfl) ?_ | refine oo (Pj rfl (by omega) (by omega)) ?_ | refine oo (Pk rfl (by omega) (by omega)) ?_ | refine oo (Pf rfl) ?_ | refine oo (Pv rfl (by omega) (by omega)) ?_ | refine oo (Pn rfl) ?_ | refine oo (Pm rfl) ?_ | refine os rfl rfl ?_ | refine ot rfl (by omega) ?_ | refine O_nil ?_) | refine wo rfl ?_ | refine wc rfl ?_ | refine wg rfl ?_ | refine go rfl ?_ | refine gc rfl ?_ | refine gg rfl ?_)); exact G_fin ⟨_, rfl, rfl, .rfl⟩
theorem is72_c (c : Int) (p m : ByteArray) (M : Mem) : HC Try.prog 72 #[ev' c (.string p) (.string m)] M (fun r M' => r = .bool (decide (c = 1)) ∧ Rk M' M) := by
  refine HC_of_W (fn := Try.f72) Try.func72 rfl rfl rfl rfl ?_
  (repeat' (first | (refine isO ?_; first | refine oo (Pc rfl) ?_ | refine oo (Pa rfl (by omega) (by omega)) ?_ | (refine ob rfl ?_ ?_ <;> intro hq <;> try (exfalso; omega)) | refine oo (Pi rfl (by omega)) ?_ | refine oo (Pl rfl) ?_ | refine oo (Px rfl rfl) ?_ | refine oo (Pj rfl (by omega) (by omega)) ?_ | refine oo (Pk rfl (by omega) (by omega)) ?_ | refine oo (Pf rfl) ?_ | refine oo (Pv rfl (by omega) (by omega)) ?_ | refine oo (Pn rfl) ?_ | refine oo (Pm rfl) ?_ | refine os rfl rfl ?_ | refine ot rfl (by omega) ?_ | refine O_nil ?_) | refine wo rfl ?_ | refine wc rfl ?_ | refine wg rfl ?_ | refine go rfl ?_ | refine gc rfl ?_ | refine gg rfl ?_)); refine O_call rfl rfl Tb.k104 trivial rfl (is104_c c _ p m M) ?_; rintro _ M' ⟨rfl, hrk⟩; refine O_weak hrk ?_; (repeat' (first | (refine isO ?_; first | refine oo (Pc rfl) ?_ | refine oo (Pa rfl (by omega) (by omega)) ?_ | (refine ob rfl ?_ ?_ <;> intro hq <;> try (exfalso; omega)) | refine oo (Pi rfl (by omega)) ?_ | refine oo (Pl rfl) ?_ | refine oo (Px rfl rfl) ?_ | refine oo (Pj rfl (by omega) (by omega)) ?_ | refine oo (Pk rfl (by omega) (by omega)) ?_ | refine oo (Pf rfl) ?_ | refine oo (Pv rfl (by omega) (by omega)) ?_ | refine oo (Pn rfl) ?_ | refine oo (Pm rfl) ?_ | refine os rfl rfl ?_ | refine ot rfl (by omega) ?_ | refine O_nil ?_) | refine wo rfl ?_ | refine wc rfl ?_ | refine wg rfl ?_ | refine go rfl ?_ | refine gc rfl ?_ | refine gg rfl ?_)); exact G_fin ⟨_, rfl, rfl, .rfl⟩
theorem is73_c (c : Int) (p m : ByteArray) (M : Mem) : HC Try.prog 73 #[ev' c (.string p) (.string m)] M (fun r M' => r = .bool (decide (c = 2)) ∧ Rk M' M) := by
  refine HC_of_W (fn := Try.f73) Try.func73 rfl rfl rfl rfl ?_
  (repeat' (first | (refine isO ?_; first | refine oo (Pc rfl) ?_ | refine oo (Pa rfl (by omega) (by omega)) ?_ | (refine ob rfl ?_ ?_ <;> intro hq <;> try (exfalso; omega)) | refine oo (Pi rfl (by omega)) ?_ | refine oo (Pl rfl) ?_ | refine oo (Px rfl rfl) ?_ | refine oo (Pj rfl (by omega) (by omega)) ?_ | refine oo (Pk rfl (by omega) (by omega)) ?_ | refine oo (Pf rfl) ?_ | refine oo (Pv rfl (by omega) (by omega)) ?_ | refine oo (Pn rfl) ?_ | refine oo (Pm rfl) ?_ | refine os rfl rfl ?_ | refine ot rfl (by omega) ?_ | refine O_nil ?_) | refine wo rfl ?_ | refine wc rfl ?_ | refine wg rfl ?_ | refine go rfl ?_ | refine gc rfl ?_ | refine gg rfl ?_)); refine O_call rfl rfl Tb.k104 trivial rfl (is104_c c _ p m M) ?_; rintro _ M' ⟨rfl, hrk⟩; refine O_weak hrk ?_; (repeat' (first | (refine isO ?_; first | refine oo (Pc rfl) ?_ | refine oo (Pa rfl (by omega) (by omega)) ?_ | (refine ob rfl ?_ ?_ <;> intro hq <;> try (exfalso; omega)) | refine oo (Pi rfl (by omega)) ?_ | refine oo (Pl rfl) ?_ | refine oo (Px rfl rfl) ?_ | refine oo (Pj rfl (by omega) (by omega)) ?_ | refine oo (Pk rfl (by omega) (by omega)) ?_ | refine oo (Pf rfl) ?_ | refine oo (Pv rfl (by omega) (by omega)) ?_ | refine oo (Pn rfl) ?_ | refine oo (Pm rfl) ?_ | refine os rfl rfl ?_ | refine ot rfl (by omega) ?_ | refine O_nil ?_) | refine wo rfl ?_ | refine wc rfl ?_ | refine wg rfl ?_ | refine go rfl ?_ | refine gc rfl ?_ | refine gg rfl ?_)); exact G_fin ⟨_, rfl, rfl, .rfl⟩

theorem back74 (b1 b2 : Nat) (t : TypeId) (x : Value) (M : Mem) :
    HC Try.prog 74 #[.pointer (some ⟨b1, 0, none⟩), .pointer (some ⟨b2, 0, none⟩)] (⟨true, b1, 0, [.nilIface]⟩ :: ⟨true, b2, 0, [.iface t x]⟩ :: M)
      (fun _ M' => Rk M' (⟨true, b1, 0, [.iface t x]⟩ :: ⟨true, b2, 0, [.iface t x]⟩ :: M)) := by
  refine HC_of_W (fn := Try.f74) Try.func74 rfl rfl rfl rfl ?_
  repeat' (first | (refine isO ?_; first | refine oo (Pc rfl) ?_ | refine oo (Pa rfl (by omega) (by omega)) ?_ | (refine ob rfl ?_ ?_ <;> intro hq <;> try (exfalso; omega)) | refine oo (Pi rfl (by omega)) ?_ | refine oo (Pl rfl) ?_ | refine oo (Px rfl rfl) ?_ | refine oo (Pj rfl (by omega) (by omega)) ?_ | refine oo (Pk rfl (by omega) (by omega)) ?_ | refine oo (Pf rfl) ?_ | refine oo (Pv rfl (by omega) (by omega)) ?_ | refine oo (Pn rfl) ?_ | refine oo (Pm rfl) ?_ | refine os rfl rfl ?_ | refine ot rfl (by omega) ?_ | refine O_nil ?_) | refine wo rfl ?_ | refine wc rfl ?_ | refine wg rfl ?_ | refine go rfl ?_ | refine gc rfl ?_ | refine gg rfl ?_)
  refine O_call rfl rfl Tb.k75 trivial rfl (back75 b1 b2 t x M) ?_
  rintro _ M' hrk
  refine O_weak hrk ?_
  repeat' (first | (refine isO ?_; first | refine oo (Pc rfl) ?_ | refine oo (Pa rfl (by omega) (by omega)) ?_ | (refine ob rfl ?_ ?_ <;> intro hq <;> try (exfalso; omega)) | refine oo (Pi rfl (by omega)) ?_ | refine oo (Pl rfl) ?_ | refine oo (Px rfl rfl) ?_ | refine oo (Pj rfl (by omega) (by omega)) ?_ | refine oo (Pk rfl (by omega) (by omega)) ?_ | refine oo (Pf rfl) ?_ | refine oo (Pv rfl (by omega) (by omega)) ?_ | refine oo (Pn rfl) ?_ | refine oo (Pm rfl) ?_ | refine os rfl rfl ?_ | refine ot rfl (by omega) ?_ | refine O_nil ?_) | refine wo rfl ?_ | refine wc rfl ?_ | refine wg rfl ?_ | refine go rfl ?_ | refine gc rfl ?_ | refine gg rfl ?_)
  exact G_fin ⟨_, rfl, .rfl⟩

theorem eqIn3 (dp : Nat) (a : Int) (w : World) : (Op.equalIn (dp + 1) 3 (.int .i64 a) (.int .i64 a)).run Try.prog w = .ok true w := by
  simp [Op.equalIn, run_under Try.underlying3]
theorem eqIn9 (dp : Nat) (a : ByteArray) (w : World) : (Op.equalIn (dp + 1) 9 (.string a) (.string a)).run Try.prog w = .ok true w := by
  have e : (a == a) = true := by
    obtain ⟨d⟩ := a
    show (d == d) = true
    simp
  simp [Op.equalIn, run_under Try.underlying9, e]
theorem part3 (cs : Array Value) (n : Nat) (v : Value) (h : cs[n]? = some v) (w : World) : (part 3 cs n).run Try.prog w = .ok v w := by
  have h1 : Try.prog.underlying 3 = some (.int .i64) := Try.underlying3
  simp [part, run_under h1, h]
theorem part9 (cs : Array Value) (n : Nat) (v : Value) (h : cs[n]? = some v) (w : World) : (part 9 cs n).run Try.prog w = .ok v w := by
  have h1 : Try.prog.underlying 9 = some .string := Try.underlying9
  simp [part, run_under h1, h]
theorem eqIn129 (dp : Nat) (c : Int) (p m : ByteArray) (w : World) : (Op.equalIn (dp + 2) 129 (.agg #[.int .i64 c, .string p, .string m]) (.agg #[.int .i64 c, .string p, .string m])).run Try.prog w = .ok true w := by
  have hs : Program.stoodInHeld Try.prog 129 = false := by kernel_rfl
  unfold Op.equalIn
  rw [Sem.run_bind, run_under Try.underlying129, Result.andThen_ok]
  dsimp only
  have hp : (program : Sem Program).run Try.prog w = .ok Try.prog w := rfl
  rw [Sem.run_bind, hp, Result.andThen_ok]
  simp only [hs, Bool.false_eq_true, if_false]
  have e1 := eqIn3 dp c w
  have e2 := eqIn9 dp p w
  have e3 := eqIn9 dp m w
  have p1 := part3 #[.int .i64 c, .string p, .string m] 0 _ rfl w
  have p2 := part9 #[.int .i64 c, .string p, .string m] 1 _ rfl w
  have p3 := part9 #[.int .i64 c, .string p, .string m] 2 _ rfl w
  simp [e1, e2, e3, p1, p2, p3]
theorem eqIn82 (dp : Nat) (c : Int) (p m : ByteArray) (w : World) : (Op.equalIn (dp + 3) 82 (ev' c (.string p) (.string m)) (ev' c (.string p) (.string m))).run Try.prog w = .ok true w := by
  unfold Op.equalIn
  rw [Sem.run_bind, run_under Try.underlying82, Result.andThen_ok]
  dsimp only
  have hp : (program : Sem Program).run Try.prog w = .ok Try.prog w := rfl
  have hc : Try.t129.comparable = true := by kernel_rfl
  simp [hp, eqIn129, hc]
end Go.Proofs.Ytjkpfliaflmppaa.Er

/-
  PARTS: R6.
-/
import Derived.Test.YtmmpogfbhelioaaGreatRows
import Derived.Test.YtmmpogfbhelioaaGreatFoj
import Derived.Test.YtmmpogfbhelioaaGreatFok
import Derived.WalkKit
import Derived.ProofKit
import Derived.OpenShut
import Derived.ShutString
import Derived.ChangeOld
import Derived.Below
import Derived.SizedLaws
import Derived.Carry
/-
  The row of the law on OnSnapshot, out of its contract and of the readings of its arguments.
  Conditions: none.
-/
namespace Go.Proofs.YtmmpogfbhelioaaGreat.fnOnSnapshot
set_option maxRecDepth 10000
set_option linter.unusedVariables false
set_option linter.unusedSimpArgs false
open Go.ChangeShapes Go.WideShapes Go.ChangeAt Go.RowKit
theorem own : ownKnob Tryz.prog.godebug = none := by kernel_rfl
def zeroMac : Mac := ⟨0, 0, 0, 0, 0, ⟨ByteArray.empty, 0, 0, ⟨[], [], [], [], false⟩⟩, .slice none 0 0, .slice none 0 0, .slice none 0 0, .slice none 0 0, .slice none 0 0, .slice none 0 0, [], [], 0, 0, .slice none 0 0, .slice none 0 0, .slice none 0 0, .slice none 0 0, [], [], [], [], false, false, 0, 0, 0, 0, 0, 0, 0, 0, 0⟩
set_option maxRecDepth 100000 in
theorem lifted (os : Os) (started : os.Started) (H : Type) (enc : TypeId × Value → H) :
    ReturnsInHanded {} Tryz.checked os 6 .any (Rows.fnOnSnapshotSpec.pre6 enc Tryz.prog Tryz.f6 Rows.fnOnSnapshotRow.domain false) (Rows.fnOnSnapshotSpec.post enc Tryz.prog Tryz.f6 false true false false) := by
  refine returnsInHanded_of_change_sized (C := Tryz.checked) own started (by kernel_rfl) Tryz.func6
    (ChangeSpec.witness6 (enc := enc) (C := Tryz.checked) false ⟨#[], #[.agg zeroMac.cells, .int .u64 0, .agg (snCells ⟨ByteArray.empty, 0, 0, ⟨[], [], [], [], false⟩⟩ (.slice none 0 0) (.slice none 0 0) (.slice none 0 0) (.slice none 0 0))], []⟩ 8 (by kernel_rfl) (by kernel_rfl) (by kernel_rfl) (by kernel_rfl)) ?_
  intro W base args ds gs before hval0 hW hcnd hsz0 _
  have hval : ∀ (j : Nat) t v, Tryz.f6.params[j]? = some t → args[j]? = some v → Value.okWide Tryz.prog W .any base t v := hval0
  have hW' := hW
  obtain ⟨p, q, hA0, hV, rfl, hfz, hnd⟩ := hW
  have hA : DataW.TrodAll enc Tryz.prog W 0 (fun _ => true) true Tryz.f6.params.toList args.toList ds p := hA0
  rw [Tryz.params6] at hA hval
  obtain ⟨v0, vs0, d0, ds0, p0, q0, hargs, rfl, rfl, h0, r0⟩ := trodAll_cons hA
  obtain ⟨v1, vs1, d1, ds1, p1, q1, rfl, rfl, rfl, h1, r1⟩ := trodAll_cons r0
  obtain ⟨v2, vs2, d2, ds2, p2, q2, rfl, rfl, rfl, h2, r2⟩ := trodAll_cons r1
  obtain ⟨rfl, rfl, rfl⟩ := trodAll_nil r2
  obtain rfl : args = #[v0, v1, v2] := by cases args; simp_all
  obtain ⟨rfl, rfl⟩ := trodVars_none hV
  obtain ⟨cs, rfl, _⟩ := okWide_struct Tryz.underlying32 (hval 0 32 v0 rfl rfl)
  obtain ⟨a1, rfl, rfl, rfl, w1⟩ := open_int Tryz.underlying22 (hval 1 22 v1 rfl rfl) h1
  obtain ⟨cs1, rfl, _⟩ := okWide_struct Tryz.underlying27 (hval 2 27 v2 rfl rfl)
  have k0 := h0
  have lt0 : ∀ x ∈ p0, x.block < W.heap.size := by obtain ⟨m, hm⟩ := k0; exact DataW.trod_lt m _ _ _ hm
  have k1 := h2
  have lt1 : ∀ x ∈ p2, x.block < W.heap.size := by obtain ⟨m, hm⟩ := k1; exact DataW.trod_lt m _ _ _ hm
  obtain ⟨fuel, hf⟩ := h0
  obtain ⟨fuel1, hf1⟩ := h2
  obtain ⟨m, hm, isM, okM⟩ := rd_mac hf
  obtain rfl : cs = m.cells := Array.ext' hm
  obtain ⟨s, u1, u2, u3, u4, hs, isS, _⟩ := rd_sn hf1
  obtain rfl : cs1 = snCells s u1 u2 u3 u4 := Array.ext' hs
  clear hA0 hval0 hsz0
  have hck : CK Tryz.prog 6 #[.agg m.cells, .int .u64 a1, .agg (snCells s u1 u2 u3 u4)] W (fun v w' => v = .bool true ∧ Ex W w') := k6 isM okM isS (fun w' e => ⟨rfl, e⟩)
  refine Calls.mono hck fun e W' he => ?_
  obtain ⟨v, rfl, rfl, ex⟩ := he
  have bel := ex.below
  exact ⟨_, rfl, _, _, _, [], _, [], hW', trodAll_mk1 (shut_bool Tryz.underlying4 _), (trodAll_cons_mk (Below.trod jp1 (by kernel_rfl) (of_decide_eq_true (by kernel_rfl)) k0 bel lt0) (trodAll_cons_mk (shut_int Tryz.underlying22 w1) (trodAll_cons_mk (Below.trod jp1 (by kernel_rfl) (of_decide_eq_true (by kernel_rfl)) k1 bel lt1) trodAll_mk0))), rfl, bel.frame _, fun h => by cases h⟩
set_option maxRecDepth 100000 in
theorem j0 : (Rows.fnOnSnapshotRow.wf (OpenSpec.ofChange Rows.fnOnSnapshotSpec)) = true := by kernel_rfl
set_option maxRecDepth 100000 in
theorem j3 : (Tryz.f6.params.all (Tryz.prog.readableRec ·)) = true := by kernel_rfl
set_option maxRecDepth 100000 in
theorem j4 : (namedTie Tryz.prog Rows.fnOnSnapshotRow.named Rows.fnOnSnapshotSpec.vars) = true := by kernel_rfl
set_option maxRecDepth 100000 in
theorem j5 : ((Rows.fnOnSnapshotRow.stops == [])) = true := by kernel_rfl
set_option maxRecDepth 100000 in
theorem j7 : ((Rows.fnOnSnapshotRow.knobs == [])) = true := by kernel_rfl
set_option maxRecDepth 100000 in
theorem j9 : ((Rows.fnOnSnapshotRow.inPlace == Tryz.prog.inPlace 6)) = true := by kernel_rfl
set_option maxRecDepth 100000 in
theorem j10 : ((Rows.fnOnSnapshotRow.unfollowed == Tryz.prog.unfollowed 6)) = true := by kernel_rfl
set_option maxRecDepth 100000 in
theorem j11 : ((Rows.fnOnSnapshotRow.recurses == Tryz.prog.recurses 6)) = true := by kernel_rfl
set_option maxRecDepth 100000 in
theorem j12 : ((Rows.fnOnSnapshotRow.named == Tryz.prog.varsNamed 6)) = true := by kernel_rfl
set_option maxRecDepth 100000 in
theorem j13 : ((Rows.fnOnSnapshotRow.maps == (Tryz.f6.params.toList ++ Rows.fnOnSnapshotSpec.plain.varTypes Tryz.prog).any (Tryz.prog.mapsRec ·))) = true := by kernel_rfl
set_option maxRecDepth 100000 in
theorem j14 : ((Rows.fnOnSnapshotRow.ifaces == (Tryz.f6.params.toList ++ Rows.fnOnSnapshotSpec.plain.varTypes Tryz.prog).any (Tryz.prog.ifacesRec ·))) = true := by kernel_rfl
set_option maxRecDepth 100000 in
theorem j15 : ((Rows.fnOnSnapshotRow.mapsOut == Tryz.prog.mapsAmong Tryz.f6.resultTypes.toList)) = true := by kernel_rfl
set_option maxRecDepth 100000 in
theorem j16 : ((Rows.fnOnSnapshotRow.loops == (Tryz.f6.params.toList ++ Rows.fnOnSnapshotSpec.plain.varTypes Tryz.prog).any (Tryz.prog.loopsFrom ·))) = true := by kernel_rfl
set_option maxRecDepth 100000 in
theorem j17 : ((Rows.fnOnSnapshotRow.wideKeys == (Tryz.f6.params.toList ++ Rows.fnOnSnapshotSpec.plain.varTypes Tryz.prog ++ Tryz.f6.resultTypes.toList).any (Tryz.prog.wideKeysFrom ·))) = true := by kernel_rfl
set_option maxRecDepth 100000 in
theorem j18 : (Rows.fnOnSnapshotSpec.vars.all (Tryz.prog.varReadable ·)) = true := by kernel_rfl
set_option maxRecDepth 100000 in
theorem j19 : (Tryz.f6.resultTypes.all (fun t => Tryz.prog.readableRec t && decide (t < Tryz.prog.types.size))) = true := by kernel_rfl
set_option maxRecDepth 100000 in
theorem j20 : ((Rows.fnOnSnapshotRow.ifacesOut == Tryz.f6.resultTypes.toList.any (Tryz.prog.ifacesRec ·))) = true := by kernel_rfl
set_option maxRecDepth 100000 in
theorem j21 : ((Rows.fnOnSnapshotRow.loopsOut == Tryz.f6.resultTypes.toList.any (Tryz.prog.loopsFrom ·))) = true := by kernel_rfl
set_option maxRecDepth 100000 in
theorem j22 : ((Rows.fnOnSnapshotRow.plainKeys == Tryz.prog.plainKeys)) = true := by kernel_rfl
set_option maxRecDepth 100000 in
theorem j23 : (Rows.fnOnSnapshotRow.shortTexts.isNone) = true := by kernel_rfl
set_option maxRecDepth 100000 in
theorem j26 : ((Rows.fnOnSnapshotRow.lifted == Tryz.prog.liftsFinal)) = true := by kernel_rfl
set_option maxRecDepth 100000 in
theorem j27 : ((Tryz.prog.make == some Rows.fnOnSnapshotRow.make)) = true := by kernel_rfl
set_option maxRecDepth 100000 in
theorem j28 : ((Rows.fnOnSnapshotRow.kinds == (if Rows.fnOnSnapshotRow.domain.isEmpty then [] else Tryz.f6.params.toList.map fun t => match Tryz.prog.underlying t with | some (.int k) => some k | _ => none))) = true := by kernel_rfl
set_option maxRecDepth 100000 in
theorem j29 : ((Rows.fnOnSnapshotRow.pinned == Rows.fnOnSnapshotRow.pinnedBy)) = true := by kernel_rfl
set_option maxRecDepth 100000 in
theorem j30 : ((Rows.fnOnSnapshotRow.veiled == (Tryz.f6.params.toList ++ Rows.fnOnSnapshotSpec.plain.varTypes Tryz.prog ++ Tryz.f6.resultTypes.toList).any (Tryz.prog.veiledRec ·))) = true := by kernel_rfl
set_option maxRecDepth 100000 in
theorem j31 : (Rows.fnOnSnapshotRow.veiledFits Tryz.prog Tryz.f6.params.toList (Tryz.f6.params.toList ++ Rows.fnOnSnapshotSpec.plain.varTypes Tryz.prog ++ Tryz.f6.resultTypes.toList)) = true := by kernel_rfl
theorem closed : joinedFacts Tryz.prog 6 Tryz.f6 Rows.fnOnSnapshotSpec Rows.fnOnSnapshotRow = true := by
  unfold joinedFacts
  exact (an (an (an (an (an (an (an (an (an (an (an (an (an (an (an (an (an (an (an (an (an (an (an (an (an (an (an (an (an (an (an j0 jp1) jp2) j3) j4) j5) jp6) j7) jp8) j9) j10) j11) j12) j13) j14) j15) j16) j17) j18) j19) j20) j21) j22) j23) jp24) jp25) j26) j27) j28) j29) j30) j31)
theorem over : Rows.fnOnSnapshotRow.holds Tryz.pinned (OpenSpec.ofChange Rows.fnOnSnapshotSpec) :=
  OpenClaim.holds_of_wide 6 Tryz.f6 rfl rfl rfl rfl rfl rfl rfl ⟨rfl, rfl, rfl, rfl, rfl⟩ rfl rfl rfl rfl rfl (by kernel_rfl) Tryz.func6 closed
    (of_decide_eq_true (by kernel_rfl)) (by unfold Func.isWrapper; first | (rw [if_pos (by decide +kernel)]; kernel_rfl) | (rw [if_neg (by decide +kernel)]; exact ⟨rfl, rfl⟩))
    (fun os started H enc _ => lifted os started H enc)
theorem proved : Rows.FnOnSnapshotSaid := over
#print axioms proved
end Go.Proofs.YtmmpogfbhelioaaGreat.fnOnSnapshot
namespace Go.Proofs.YtmmpogfbhelioaaGreat
set_option maxRecDepth 10000
set_option linter.unusedVariables false
set_option linter.unusedSimpArgs false
/-- The row, under a short name, for the claim. -/
theorem fnOnSnapshot_holds : Rows.FnOnSnapshotSaid := fnOnSnapshot.proved
end Go.Proofs.YtmmpogfbhelioaaGreat

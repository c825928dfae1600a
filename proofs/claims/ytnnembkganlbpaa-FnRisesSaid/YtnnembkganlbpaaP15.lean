/- The law FnRises: for every input it returns true, and what it was handed reads as it did. No condition. -/
import Derived.Test.YtnnembkganlbpaaW24
import Derived.Test.YtnnembkganlbpaaFi
import Derived.Test.YtnnembkganlbpaaFc
namespace Go.Proofs.Ytnnembkganlbpaa
open Go Go.Sl Go.Wk Go.Bt Go.ChangeShapes Go.WideShapes Go.ChangeAt Go.RowKit

set_option maxRecDepth 100000 in
theorem fnRises_lifted (os : Os) (started : os.Started) (H : Type) (enc : TypeId × Value → H) :
    ReturnsInHanded {} Try.checked os 15 .any (Rows.fnRisesSpec.pre6 enc Try.prog Try.f15 Rows.fnRisesRow.domain false) (Rows.fnRisesSpec.post enc Try.prog Try.f15 false true false false) := by
  refine returnsInHanded_of_change (C := Try.checked) Try.own started (by kernel_rfl) Try.func15
    (ChangeSpec.witness6 (enc := enc) (C := Try.checked) false ⟨#[], #[.int .i64 0, .slice none 0 0], []⟩ 8 (by kernel_rfl) (by kernel_rfl) (by kernel_rfl) (by kernel_rfl)) ?_
  intro W b0 args ds gs before hval0 hW _ _
  have hval : ∀ (j : Nat) t v, Try.f15.params[j]? = some t → args[j]? = some v → Value.okWide Try.prog W .any b0 t v := hval0
  have hW' := hW
  obtain ⟨p, q, hA0, hV, rfl, hfz, hnd⟩ := hW
  have hA : DataW.TrodAll enc Try.prog W 0 (fun _ => true) true Try.f15.params.toList args.toList ds p := hA0
  rw [Try.params15] at hA hval
  obtain ⟨v0, v1, d0, d1, p0, p1, rfl, rfl, rfl, h0, h1⟩ := trodAll_two hA
  obtain ⟨rfl, rfl⟩ := trodVars_none hV
  obtain ⟨a0, rfl, rfl, rfl, w0⟩ := open_int Try.underlying2 (hval 0 2 v0 rfl rfl) h0
  obtain ⟨xs1, hx1⟩ := open_ops (hval 1 24 v1 rfl rfl) h1
  refine (f15_ok (base (heapOf W)) v1 xs1 a0 hx1 W 1 W (st_base W)).mono fun e W' h => ?_
  obtain ⟨v, he, hs⟩ := h
  exact ⟨v, he, law_post (ts := [2, 24]) hW' rfl rfl (by
    intro t ht
    simp only [List.mem_cons, List.not_mem_nil, or_false] at ht
    rcases ht with rfl | rfl
    · exact ty_2
    · exact ty_24) rfl rfl rfl rfl hs⟩
theorem fnRises_k1 : (Rows.fnRisesRow.wf (OpenSpec.ofChange Rows.fnRisesSpec)) = true := by kernel_rfl
theorem fnRises_k4 : (Try.f15.params.all (Try.prog.readableRec ·)) = true := by kernel_rfl
theorem fnRises_k5 : (namedTie Try.prog Rows.fnRisesRow.named Rows.fnRisesSpec.vars) = true := by kernel_rfl
theorem fnRises_k6 : ((Rows.fnRisesRow.stops == [])) = true := by kernel_rfl
theorem fnRises_k8 : ((Rows.fnRisesRow.knobs == [])) = true := by kernel_rfl
theorem fnRises_k10 : ((Rows.fnRisesRow.inPlace == Try.prog.inPlace 15)) = true := by kernel_rfl
theorem fnRises_k11 : ((Rows.fnRisesRow.unfollowed == Try.prog.unfollowed 15)) = true := by kernel_rfl
theorem fnRises_k12 : ((Rows.fnRisesRow.recurses == Try.prog.recurses 15)) = true := by kernel_rfl
theorem fnRises_k13 : ((Rows.fnRisesRow.named == Try.prog.varsNamed 15)) = true := by kernel_rfl
theorem fnRises_k14 : ((Rows.fnRisesRow.maps == (Try.f15.params.toList ++ Rows.fnRisesSpec.plain.varTypes Try.prog).any (Try.prog.mapsRec ·))) = true := by kernel_rfl
theorem fnRises_k15 : ((Rows.fnRisesRow.ifaces == (Try.f15.params.toList ++ Rows.fnRisesSpec.plain.varTypes Try.prog).any (Try.prog.ifacesRec ·))) = true := by kernel_rfl
theorem fnRises_k16 : ((Rows.fnRisesRow.mapsOut == Try.prog.mapsAmong Try.f15.resultTypes.toList)) = true := by kernel_rfl
theorem fnRises_k17 : ((Rows.fnRisesRow.loops == (Try.f15.params.toList ++ Rows.fnRisesSpec.plain.varTypes Try.prog).any (Try.prog.loopsFrom ·))) = true := by kernel_rfl
theorem fnRises_k17b : ((Rows.fnRisesRow.wideKeys == (Try.f15.params.toList ++ Rows.fnRisesSpec.plain.varTypes Try.prog ++ Try.f15.resultTypes.toList).any (Try.prog.wideKeysFrom ·))) = true := by kernel_rfl
theorem fnRises_k18 : (Rows.fnRisesSpec.vars.all (Try.prog.varReadable ·)) = true := by kernel_rfl
theorem fnRises_k19 : (Try.f15.resultTypes.all (fun t => Try.prog.readableRec t && decide (t < Try.prog.types.size))) = true := by kernel_rfl
theorem fnRises_k20 : ((Rows.fnRisesRow.ifacesOut == Try.f15.resultTypes.toList.any (Try.prog.ifacesRec ·))) = true := by kernel_rfl
theorem fnRises_k21 : ((Rows.fnRisesRow.loopsOut == Try.f15.resultTypes.toList.any (Try.prog.loopsFrom ·))) = true := by kernel_rfl
theorem fnRises_k23 : (Rows.fnRisesRow.shortTexts.isNone) = true := by kernel_rfl
theorem fnRises_k25 : ((Rows.fnRisesRow.kinds == (if Rows.fnRisesRow.domain.isEmpty then [] else Try.f15.params.toList.map fun t => match Try.prog.underlying t with | some (.int k) => some k | _ => none))) = true := by kernel_rfl
theorem fnRises_k26 : ((Rows.fnRisesRow.pinned == Rows.fnRisesRow.pinnedBy)) = true := by kernel_rfl
theorem fnRises_k27 : ((Rows.fnRisesRow.veiled == (Try.f15.params.toList ++ Rows.fnRisesSpec.plain.varTypes Try.prog ++ Try.f15.resultTypes.toList).any (Try.prog.veiledRec ·))) = true := by kernel_rfl
theorem fnRises_k28 : (Rows.fnRisesRow.veiledFits Try.prog Try.f15.params.toList (Try.f15.params.toList ++ Rows.fnRisesSpec.plain.varTypes Try.prog ++ Try.f15.resultTypes.toList)) = true := by kernel_rfl
set_option maxRecDepth 100000 in
theorem fnRises_closed : joinedFacts Try.prog 15 Try.f15 Rows.fnRisesSpec Rows.fnRisesRow = true := by
  unfold joinedFacts
  exact (and_mk (and_mk (and_mk (and_mk (and_mk (and_mk (and_mk (and_mk (and_mk (and_mk (and_mk (and_mk (and_mk (and_mk (and_mk (and_mk (and_mk (and_mk (and_mk (and_mk (and_mk (and_mk (and_mk (and_mk (and_mk (and_mk (and_mk (and_mk (and_mk (and_mk (and_mk fnRises_k1 k2) k3) fnRises_k4) fnRises_k5) fnRises_k6) k7) fnRises_k8) k9) fnRises_k10) fnRises_k11) fnRises_k12) fnRises_k13) fnRises_k14) fnRises_k15) fnRises_k16) fnRises_k17) fnRises_k17b) fnRises_k18) fnRises_k19) fnRises_k20) fnRises_k21) k22) fnRises_k23) k23b) k24) k24b) k24c) fnRises_k25) fnRises_k26) fnRises_k27) fnRises_k28)
theorem fnRises_holds : Rows.FnRisesSaid :=
  OpenClaim.holds_of_wide 15 Try.f15 rfl rfl rfl rfl rfl rfl rfl ⟨rfl, rfl, rfl, rfl, rfl⟩ rfl rfl rfl rfl rfl (by kernel_rfl) Try.func15 fnRises_closed
    (of_decide_eq_true (by kernel_rfl)) (by unfold Func.isWrapper; rw [if_neg (of_decide_eq_false (by kernel_rfl))]; exact ⟨rfl, rfl⟩)
    (fun os started H enc _ => fnRises_lifted os started H enc)
end Go.Proofs.Ytnnembkganlbpaa

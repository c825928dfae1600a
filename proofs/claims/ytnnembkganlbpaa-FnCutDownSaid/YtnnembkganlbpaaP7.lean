/- The law FnCutDown: for every input it returns true, and what it was handed reads as it did. No condition. -/
import Derived.Test.YtnnembkganlbpaaW25
import Derived.Test.YtnnembkganlbpaaFi
import Derived.Test.YtnnembkganlbpaaFc
namespace Go.Proofs.Ytnnembkganlbpaa
open Go Go.Sl Go.Wk Go.Bt Go.ChangeShapes Go.WideShapes Go.ChangeAt Go.RowKit

set_option maxRecDepth 100000 in
theorem fnCutDown_lifted (os : Os) (started : os.Started) (H : Type) (enc : TypeId × Value → H) :
    ReturnsInHanded {} Try.checked os 7 .any (Rows.fnCutDownSpec.pre6 enc Try.prog Try.f7 Rows.fnCutDownRow.domain false) (Rows.fnCutDownSpec.post enc Try.prog Try.f7 false true false false) := by
  refine returnsInHanded_of_change (C := Try.checked) Try.own started (by kernel_rfl) Try.func7
    (ChangeSpec.witness6 (enc := enc) (C := Try.checked) false ⟨#[], #[.int .i64 0, .slice none 0 0, .int .i64 0], []⟩ 8 (by kernel_rfl) (by kernel_rfl) (by kernel_rfl) (by kernel_rfl)) ?_
  intro W b0 args ds gs before hval0 hW _ _
  have hval : ∀ (j : Nat) t v, Try.f7.params[j]? = some t → args[j]? = some v → Value.okWide Try.prog W .any b0 t v := hval0
  have hW' := hW
  obtain ⟨p, q, hA0, hV, rfl, hfz, hnd⟩ := hW
  have hA : DataW.TrodAll enc Try.prog W 0 (fun _ => true) true Try.f7.params.toList args.toList ds p := hA0
  rw [Try.params7] at hA hval
  obtain ⟨v0, v1, v2, d0, d1, d2, p0, p1, p2, rfl, rfl, rfl, h0, h1, h2⟩ := trodAll_three hA
  obtain ⟨rfl, rfl⟩ := trodVars_none hV
  obtain ⟨a0, rfl, rfl, rfl, w0⟩ := open_int Try.underlying2 (hval 0 2 v0 rfl rfl) h0
  obtain ⟨xs1, hx1⟩ := open_ops (hval 1 24 v1 rfl rfl) h1
  obtain ⟨a2, rfl, rfl, rfl, w2⟩ := open_int Try.underlying2 (hval 2 2 v2 rfl rfl) h2
  refine (f7_ok (base (heapOf W)) v1 xs1 a0 a2 hx1 W 1 W (st_base W)).mono fun e W' h => ?_
  obtain ⟨v, he, hs⟩ := h
  exact ⟨v, he, law_post (ts := [2, 24, 2]) hW' rfl rfl (by
    intro t ht
    simp only [List.mem_cons, List.not_mem_nil, or_false] at ht
    rcases ht with rfl | rfl | rfl
    · exact ty_2
    · exact ty_24
    · exact ty_2) rfl rfl rfl rfl hs⟩
theorem fnCutDown_k1 : (Rows.fnCutDownRow.wf (OpenSpec.ofChange Rows.fnCutDownSpec)) = true := by kernel_rfl
theorem fnCutDown_k4 : (Try.f7.params.all (Try.prog.readableRec ·)) = true := by kernel_rfl
theorem fnCutDown_k5 : (namedTie Try.prog Rows.fnCutDownRow.named Rows.fnCutDownSpec.vars) = true := by kernel_rfl
theorem fnCutDown_k6 : ((Rows.fnCutDownRow.stops == [])) = true := by kernel_rfl
theorem fnCutDown_k8 : ((Rows.fnCutDownRow.knobs == [])) = true := by kernel_rfl
theorem fnCutDown_k10 : ((Rows.fnCutDownRow.inPlace == Try.prog.inPlace 7)) = true := by kernel_rfl
theorem fnCutDown_k11 : ((Rows.fnCutDownRow.unfollowed == Try.prog.unfollowed 7)) = true := by kernel_rfl
theorem fnCutDown_k12 : ((Rows.fnCutDownRow.recurses == Try.prog.recurses 7)) = true := by kernel_rfl
theorem fnCutDown_k13 : ((Rows.fnCutDownRow.named == Try.prog.varsNamed 7)) = true := by kernel_rfl
theorem fnCutDown_k14 : ((Rows.fnCutDownRow.maps == (Try.f7.params.toList ++ Rows.fnCutDownSpec.plain.varTypes Try.prog).any (Try.prog.mapsRec ·))) = true := by kernel_rfl
theorem fnCutDown_k15 : ((Rows.fnCutDownRow.ifaces == (Try.f7.params.toList ++ Rows.fnCutDownSpec.plain.varTypes Try.prog).any (Try.prog.ifacesRec ·))) = true := by kernel_rfl
theorem fnCutDown_k16 : ((Rows.fnCutDownRow.mapsOut == Try.prog.mapsAmong Try.f7.resultTypes.toList)) = true := by kernel_rfl
theorem fnCutDown_k17 : ((Rows.fnCutDownRow.loops == (Try.f7.params.toList ++ Rows.fnCutDownSpec.plain.varTypes Try.prog).any (Try.prog.loopsFrom ·))) = true := by kernel_rfl
theorem fnCutDown_k17b : ((Rows.fnCutDownRow.wideKeys == (Try.f7.params.toList ++ Rows.fnCutDownSpec.plain.varTypes Try.prog ++ Try.f7.resultTypes.toList).any (Try.prog.wideKeysFrom ·))) = true := by kernel_rfl
theorem fnCutDown_k18 : (Rows.fnCutDownSpec.vars.all (Try.prog.varReadable ·)) = true := by kernel_rfl
theorem fnCutDown_k19 : (Try.f7.resultTypes.all (fun t => Try.prog.readableRec t && decide (t < Try.prog.types.size))) = true := by kernel_rfl
theorem fnCutDown_k20 : ((Rows.fnCutDownRow.ifacesOut == Try.f7.resultTypes.toList.any (Try.prog.ifacesRec ·))) = true := by kernel_rfl
theorem fnCutDown_k21 : ((Rows.fnCutDownRow.loopsOut == Try.f7.resultTypes.toList.any (Try.prog.loopsFrom ·))) = true := by kernel_rfl
theorem fnCutDown_k23 : (Rows.fnCutDownRow.shortTexts.isNone) = true := by kernel_rfl
theorem fnCutDown_k25 : ((Rows.fnCutDownRow.kinds == (if Rows.fnCutDownRow.domain.isEmpty then [] else Try.f7.params.toList.map fun t => match Try.prog.underlying t with | some (.int k) => some k | _ => none))) = true := by kernel_rfl
theorem fnCutDown_k26 : ((Rows.fnCutDownRow.pinned == Rows.fnCutDownRow.pinnedBy)) = true := by kernel_rfl
theorem fnCutDown_k27 : ((Rows.fnCutDownRow.veiled == (Try.f7.params.toList ++ Rows.fnCutDownSpec.plain.varTypes Try.prog ++ Try.f7.resultTypes.toList).any (Try.prog.veiledRec ·))) = true := by kernel_rfl
theorem fnCutDown_k28 : (Rows.fnCutDownRow.veiledFits Try.prog Try.f7.params.toList (Try.f7.params.toList ++ Rows.fnCutDownSpec.plain.varTypes Try.prog ++ Try.f7.resultTypes.toList)) = true := by kernel_rfl
set_option maxRecDepth 100000 in
theorem fnCutDown_closed : joinedFacts Try.prog 7 Try.f7 Rows.fnCutDownSpec Rows.fnCutDownRow = true := by
  unfold joinedFacts
  exact (and_mk (and_mk (and_mk (and_mk (and_mk (and_mk (and_mk (and_mk (and_mk (and_mk (and_mk (and_mk (and_mk (and_mk (and_mk (and_mk (and_mk (and_mk (and_mk (and_mk (and_mk (and_mk (and_mk (and_mk (and_mk (and_mk (and_mk (and_mk (and_mk (and_mk (and_mk fnCutDown_k1 k2) k3) fnCutDown_k4) fnCutDown_k5) fnCutDown_k6) k7) fnCutDown_k8) k9) fnCutDown_k10) fnCutDown_k11) fnCutDown_k12) fnCutDown_k13) fnCutDown_k14) fnCutDown_k15) fnCutDown_k16) fnCutDown_k17) fnCutDown_k17b) fnCutDown_k18) fnCutDown_k19) fnCutDown_k20) fnCutDown_k21) k22) fnCutDown_k23) k23b) k24) k24b) k24c) fnCutDown_k25) fnCutDown_k26) fnCutDown_k27) fnCutDown_k28)
theorem fnCutDown_holds : Rows.FnCutDownSaid :=
  OpenClaim.holds_of_wide 7 Try.f7 rfl rfl rfl rfl rfl rfl rfl ⟨rfl, rfl, rfl, rfl, rfl⟩ rfl rfl rfl rfl rfl (by kernel_rfl) Try.func7 fnCutDown_closed
    (of_decide_eq_true (by kernel_rfl)) (by unfold Func.isWrapper; rw [if_neg (of_decide_eq_false (by kernel_rfl))]; exact ⟨rfl, rfl⟩)
    (fun os started H enc _ => fnCutDown_lifted os started H enc)
end Go.Proofs.Ytnnembkganlbpaa

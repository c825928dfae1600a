/- The law FnFound: for every input it returns true, and what it was handed reads as it did. No condition. -/
import Derived.Test.YtnnembkganlbpaaW28
import Derived.Test.YtnnembkganlbpaaFi
import Derived.Test.YtnnembkganlbpaaFc
namespace Go.Proofs.Ytnnembkganlbpaa
open Go Go.Sl Go.Wk Go.Bt Go.ChangeShapes Go.WideShapes Go.ChangeAt Go.RowKit

set_option maxRecDepth 100000 in
theorem fnFound_lifted (os : Os) (started : os.Started) (H : Type) (enc : TypeId × Value → H) :
    ReturnsInHanded {} Try.checked os 11 .any (Rows.fnFoundSpec.pre6 enc Try.prog Try.f11 Rows.fnFoundRow.domain false) (Rows.fnFoundSpec.post enc Try.prog Try.f11 false true false false) := by
  refine returnsInHanded_of_change (C := Try.checked) Try.own started (by kernel_rfl) Try.func11
    (ChangeSpec.witness6 (enc := enc) (C := Try.checked) false ⟨#[], #[.int .i64 0, .slice none 0 0, .int .i64 0], []⟩ 8 (by kernel_rfl) (by kernel_rfl) (by kernel_rfl) (by kernel_rfl)) ?_
  intro W b0 args ds gs before hval0 hW _ _
  have hval : ∀ (j : Nat) t v, Try.f11.params[j]? = some t → args[j]? = some v → Value.okWide Try.prog W .any b0 t v := hval0
  have hW' := hW
  obtain ⟨p, q, hA0, hV, rfl, hfz, hnd⟩ := hW
  have hA : DataW.TrodAll enc Try.prog W 0 (fun _ => true) true Try.f11.params.toList args.toList ds p := hA0
  rw [Try.params11] at hA hval
  obtain ⟨v0, v1, v2, d0, d1, d2, p0, p1, p2, rfl, rfl, rfl, h0, h1, h2⟩ := trodAll_three hA
  obtain ⟨rfl, rfl⟩ := trodVars_none hV
  obtain ⟨a0, rfl, rfl, rfl, w0⟩ := open_int Try.underlying2 (hval 0 2 v0 rfl rfl) h0
  obtain ⟨xs1, hx1⟩ := open_ops (hval 1 24 v1 rfl rfl) h1
  obtain ⟨a2, rfl, rfl, rfl, w2⟩ := open_int Try.underlying2 (hval 2 2 v2 rfl rfl) h2
  refine (f11_ok (base (heapOf W)) v1 xs1 a0 a2 hx1 W 1 W (st_base W)).mono fun e W' h => ?_
  obtain ⟨v, he, hs⟩ := h
  exact ⟨v, he, law_post (ts := [2, 24, 2]) hW' rfl rfl (by
    intro t ht
    simp only [List.mem_cons, List.not_mem_nil, or_false] at ht
    rcases ht with rfl | rfl | rfl
    · exact ty_2
    · exact ty_24
    · exact ty_2) rfl rfl rfl rfl hs⟩
theorem fnFound_k1 : (Rows.fnFoundRow.wf (OpenSpec.ofChange Rows.fnFoundSpec)) = true := by kernel_rfl
theorem fnFound_k4 : (Try.f11.params.all (Try.prog.readableRec ·)) = true := by kernel_rfl
theorem fnFound_k5 : (namedTie Try.prog Rows.fnFoundRow.named Rows.fnFoundSpec.vars) = true := by kernel_rfl
theorem fnFound_k6 : ((Rows.fnFoundRow.stops == [])) = true := by kernel_rfl
theorem fnFound_k8 : ((Rows.fnFoundRow.knobs == [])) = true := by kernel_rfl
theorem fnFound_k10 : ((Rows.fnFoundRow.inPlace == Try.prog.inPlace 11)) = true := by kernel_rfl
theorem fnFound_k11 : ((Rows.fnFoundRow.unfollowed == Try.prog.unfollowed 11)) = true := by kernel_rfl
theorem fnFound_k12 : ((Rows.fnFoundRow.recurses == Try.prog.recurses 11)) = true := by kernel_rfl
theorem fnFound_k13 : ((Rows.fnFoundRow.named == Try.prog.varsNamed 11)) = true := by kernel_rfl
theorem fnFound_k14 : ((Rows.fnFoundRow.maps == (Try.f11.params.toList ++ Rows.fnFoundSpec.plain.varTypes Try.prog).any (Try.prog.mapsRec ·))) = true := by kernel_rfl
theorem fnFound_k15 : ((Rows.fnFoundRow.ifaces == (Try.f11.params.toList ++ Rows.fnFoundSpec.plain.varTypes Try.prog).any (Try.prog.ifacesRec ·))) = true := by kernel_rfl
theorem fnFound_k16 : ((Rows.fnFoundRow.mapsOut == Try.prog.mapsAmong Try.f11.resultTypes.toList)) = true := by kernel_rfl
theorem fnFound_k17 : ((Rows.fnFoundRow.loops == (Try.f11.params.toList ++ Rows.fnFoundSpec.plain.varTypes Try.prog).any (Try.prog.loopsFrom ·))) = true := by kernel_rfl
theorem fnFound_k17b : ((Rows.fnFoundRow.wideKeys == (Try.f11.params.toList ++ Rows.fnFoundSpec.plain.varTypes Try.prog ++ Try.f11.resultTypes.toList).any (Try.prog.wideKeysFrom ·))) = true := by kernel_rfl
theorem fnFound_k18 : (Rows.fnFoundSpec.vars.all (Try.prog.varReadable ·)) = true := by kernel_rfl
theorem fnFound_k19 : (Try.f11.resultTypes.all (fun t => Try.prog.readableRec t && decide (t < Try.prog.types.size))) = true := by kernel_rfl
theorem fnFound_k20 : ((Rows.fnFoundRow.ifacesOut == Try.f11.resultTypes.toList.any (Try.prog.ifacesRec ·))) = true := by kernel_rfl
theorem fnFound_k21 : ((Rows.fnFoundRow.loopsOut == Try.f11.resultTypes.toList.any (Try.prog.loopsFrom ·))) = true := by kernel_rfl
theorem fnFound_k23 : (Rows.fnFoundRow.shortTexts.isNone) = true := by kernel_rfl
theorem fnFound_k25 : ((Rows.fnFoundRow.kinds == (if Rows.fnFoundRow.domain.isEmpty then [] else Try.f11.params.toList.map fun t => match Try.prog.underlying t with | some (.int k) => some k | _ => none))) = true := by kernel_rfl
theorem fnFound_k26 : ((Rows.fnFoundRow.pinned == Rows.fnFoundRow.pinnedBy)) = true := by kernel_rfl
theorem fnFound_k27 : ((Rows.fnFoundRow.veiled == (Try.f11.params.toList ++ Rows.fnFoundSpec.plain.varTypes Try.prog ++ Try.f11.resultTypes.toList).any (Try.prog.veiledRec ·))) = true := by kernel_rfl
theorem fnFound_k28 : (Rows.fnFoundRow.veiledFits Try.prog Try.f11.params.toList (Try.f11.params.toList ++ Rows.fnFoundSpec.plain.varTypes Try.prog ++ Try.f11.resultTypes.toList)) = true := by kernel_rfl
set_option maxRecDepth 100000 in
theorem fnFound_closed : joinedFacts Try.prog 11 Try.f11 Rows.fnFoundSpec Rows.fnFoundRow = true := by
  unfold joinedFacts
  exact (and_mk (and_mk (and_mk (and_mk (and_mk (and_mk (and_mk (and_mk (and_mk (and_mk (and_mk (and_mk (and_mk (and_mk (and_mk (and_mk (and_mk (and_mk (and_mk (and_mk (and_mk (and_mk (and_mk (and_mk (and_mk (and_mk (and_mk (and_mk (and_mk (and_mk (and_mk fnFound_k1 k2) k3) fnFound_k4) fnFound_k5) fnFound_k6) k7) fnFound_k8) k9) fnFound_k10) fnFound_k11) fnFound_k12) fnFound_k13) fnFound_k14) fnFound_k15) fnFound_k16) fnFound_k17) fnFound_k17b) fnFound_k18) fnFound_k19) fnFound_k20) fnFound_k21) k22) fnFound_k23) k23b) k24) k24b) k24c) fnFound_k25) fnFound_k26) fnFound_k27) fnFound_k28)
theorem fnFound_holds : Rows.FnFoundSaid :=
  OpenClaim.holds_of_wide 11 Try.f11 rfl rfl rfl rfl rfl rfl rfl ⟨rfl, rfl, rfl, rfl, rfl⟩ rfl rfl rfl rfl rfl (by kernel_rfl) Try.func11 fnFound_closed
    (of_decide_eq_true (by kernel_rfl)) (by unfold Func.isWrapper; rw [if_neg (of_decide_eq_false (by kernel_rfl))]; exact ⟨rfl, rfl⟩)
    (fun os started H enc _ => fnFound_lifted os started H enc)
end Go.Proofs.Ytnnembkganlbpaa

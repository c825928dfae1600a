/- The walk of one step of a script over a tree. -/
import Derived.Test.YtnnembkganlbpaaW19
import Derived.Test.YtnnembkganlbpaaMo
namespace Go.Proofs.Ytnnembkganlbpaa
open Go Go.Sl Go.Net Go.Wk Go.Bt Go.RowKit

theorem pp_45 : placesOf Try.prog 45 = some [(0, 1), (1, 1)] := by kernel_rfl
theorem pp_89 : placesOf Try.prog 89 = some [(0, 1), (1, 1)] := by kernel_rfl
def opC (o : Sop) : Array Value := #[.int .i64 o.kind, .int .i64 o.tree, .int .i64 o.key, .int .i64 o.to, .int .i64 o.val, .int .i64 o.cnt]
def opV (o : Sop) : Value := .agg (opC o)
/-- an answer in memory -/
def AnP (a : An) (v : Value) : HProp := AnsP a.ok a.n a.items v
theorem f47_ok (o : Option It) : Tri Try.prog 47 #[itV (o.getD zero), .bool o.isSome] 1 (AnP (oneA o)) := by
  cases o with
  | none => exact f47_no _
  | some x => exact f47_yes x
theorem nilArr : (IArr (.slice none 0 0) [] : HProp) = 1 := Arr.nil 45 2
theorem vis_new (b : Nat) (n : Int) : Ent (pts b (.cells #[.slice none 0 0, .int .i64 n] 89 (0, 0))) (VisP b [] n) := fun x hx => ⟨.slice none 0 0, by
  show (pts b (.cells #[.slice none 0 0, .int .i64 n] 89 (0, 0)) * IArr (.slice none 0 0) []) x
  rw [nilArr, mul_one']; exact hx⟩
theorem an_nil (ok : Bool) (n : Int) : Ent 1 (AnP ⟨ok, n, []⟩ (.agg #[.bool ok, .int .i64 n, .slice none 0 0])) := fun x hx => ⟨.slice none 0 0, by
  show (pu _ * (IArr (.slice none 0 0) [] : HProp)) x
  rw [pu_true rfl]
  rw [nilArr]; exact hx⟩
theorem an_mk (a : An) (s : Value) : Ent (IArr s a.items) (AnP a (.agg #[.bool a.ok, .int .i64 a.n, s])) := fun x hx => ⟨s, by
  show (pu _ * (IArr s a.items : HProp)) x
  rw [pu_true rfl]; exact hx⟩
set_option maxHeartbeats 6400000 in
theorem f46_ok (c fl d b : Nat) (o : Sop) (l : List It) (hd : 2 ≤ d) (hd2 : d ≤ 1000) (hll : l.length < 100000) :
    Tri Try.prog 46 #[ptr b, opV o] (BT c d b l * Ctx c fl) fun v => BT c d b (stepL l o).1 * (Ctx c fl * AnP (stepL l o).2 v) := by
  intro w0 F w hs
  simp only [mul_assoc'] at hs
  refine calls_WP 142 #[.cell 4 36] Try.func46 rfl Try.ntmps46 rfl (Nat.le_of_ble_eq_true rfl) ?_
  refine WP_seq ?_
  -- R0
  refine WP_seqr [⟨0, 2, []⟩, ⟨1, 2, []⟩] (by kernel_rfl) ?_
  refine ns_box (opC o) hs rfl rfl rfl rfl ?_
  intro b3 w hs
  refine ns_alloc zc_36 hs rfl rfl ?_
  intro b4 w hs
  refine ns_done ?_
  refine WP_seq ?_
  -- R1
  refine WP_seqr [⟨0, 0, []⟩, ⟨1, 1, []⟩, ⟨2, 0, []⟩, ⟨3, 2, []⟩, ⟨4, 2, []⟩] (by kernel_rfl) ?_
  refine ns_fld fo_26_5 rfl rfl rfl ?_
  refine ns_ldB pl_2 hs rfl rfl rfl (by rfl) ?_
  refine ns_build [(1, .int .i64 o.cnt)] (#[.slice none 0 0, .int .i64 o.cnt]) pp_89 zc_89 rfl rfl rfl rfl ?_
  refine ns_alloc zc_89 hs rfl rfl ?_
  intro b5 w hs
  refine ns_stA (#[.slice none 0 0, .int .i64 o.cnt]) ag_89 rfl (by decide) hs rfl rfl rfl rfl (by intro u hu; simp at hu; rcases hu with rfl | rfl <;> rfl) (by simp) ?_
  refine fun w hs => ⟨trivial, ?_⟩
  refine ns_done ?_
  have hs : St w0 (pts b5 (.cells #[.slice none 0 0, .int .i64 o.cnt] 89 (0, 0)) * _) w := hs
  have hs := hs.fold (vis_new b5 o.cnt)
  refine WP_seq_cut (fun σ w => ∃ b6 b7, σ 0 = ptr b ∧ σ 3 = .pointer (some ⟨b3, 0, none⟩) ∧ σ 4 = .pointer (some ⟨b4, 0, none⟩) ∧ σ 5 = .pointer (some ⟨b5, 0, none⟩) ∧ σ 6 = .pointer (some ⟨b6, 0, none⟩) ∧ σ 7 = .pointer (some ⟨b7, 0, none⟩) ∧ St w0 (pts b3 (.cells (opC o) 26 (0, 0)) * (pts b4 (.cells #[.bool false, .int .i64 0, .slice none 0 0] 36 (0, 0)) * (VisP b5 [] o.cnt * (pts b6 (.cells #[.int .i64 o.it.key, .int .i64 o.it.val] 45 (0, 0)) * (pts b7 (.cells #[.int .i64 o.it2.key, .int .i64 o.it2.val] 45 (0, 0)) * (BT c d b l * (Ctx c fl * F))))))) w) ?_ ?_ -- R2.cut
  · -- R2
    refine WP_tre hs mix [0, 1, 0, 4, 15, 0, 32, 96, 0, 0, 799, 2047] (.cons ⟨0, 0, []⟩ (.cons ⟨1, 1, []⟩ (.cons ⟨2, 0, []⟩ (.cons ⟨3, 1, []⟩ (.cons ⟨4, 0, []⟩ (.cons ⟨5, 0, []⟩ (.cons ⟨6, 1, []⟩ (.cons ⟨7, 0, []⟩ (.fork ⟨8, 2, [1, 3, 6]⟩ (.cons ⟨9, 2, [1, 3, 6]⟩ (.cons ⟨10, 2, [6]⟩ (.cons ⟨11, 2, []⟩ .nil))) ⟨9, 2, [1, 3, 6]⟩ (.cons ⟨8, 2, [1, 3, 6]⟩ (.cons ⟨10, 2, [6]⟩ (.cons ⟨11, 2, []⟩ .nil)))))))))))) (by kernel_rfl) ?_
    intro w hs
    refine ns_fld fo_26_2 rfl rfl rfl ?_
    refine ns_ldB pl_2 hs rfl rfl rfl (by rfl) ?_
    refine ns_fld fo_26_4 rfl rfl rfl ?_
    refine ns_ldB pl_2 hs rfl rfl rfl (by rfl) ?_
    refine ns_build [(0, .int .i64 o.key), (1, .int .i64 o.val)] (#[.int .i64 o.it.key, .int .i64 o.it.val]) pp_45 zc_45 rfl rfl rfl rfl ?_
    refine ns_fld fo_26_3 rfl rfl rfl ?_
    refine ns_ldB pl_2 hs rfl rfl rfl (by rfl) ?_
    refine ns_build [(0, .int .i64 o.to)] (#[.int .i64 o.it2.key, .int .i64 o.it2.val]) pp_45 zc_45 rfl rfl rfl rfl ?_
    refine ns_fork ?_ ?_
    · refine ns_allocK zc_45 hs rfl rfl ?_
      refine fun b6 w hs hx => ⟨⟨hs.c b3 2, hs.c b3 4, hs.c b3 3, trivial⟩, ?_⟩
      refine ns_allocK zc_45 hs rfl rfl ?_
      refine fun b7 w hs hx => ⟨⟨hs.c b3 2, hs.c b3 4, hs.c b3 3, trivial⟩, ?_⟩
      refine ns_stA (#[.int .i64 o.it.key, .int .i64 o.it.val]) ag_45 rfl (by decide) hs rfl rfl rfl rfl (by intro u hu; simp at hu; rcases hu with rfl | rfl <;> rfl) (by simp) ?_
      refine fun w hs => ⟨⟨hs.c b3 3, trivial⟩, ?_⟩
      refine ns_stA (#[.int .i64 o.it2.key, .int .i64 o.it2.val]) ag_45 rfl (by decide) hs rfl rfl rfl rfl (by intro u hu; simp at hu; rcases hu with rfl | rfl <;> rfl) (by simp) ?_
      refine fun w hs => ⟨trivial, ?_⟩
      refine ns_done ?_
      have hs : St w0 (pts b7 (.cells #[.int .i64 o.it2.key, .int .i64 o.it2.val] 45 (0, 0)) * (pts b6 (.cells #[.int .i64 o.it.key, .int .i64 o.it.val] 45 (0, 0)) * _)) w := hs
      exact ⟨b6, b7, rfl, rfl, rfl, rfl, rfl, rfl, hs.out⟩
    · refine ns_allocK zc_45 hs rfl rfl ?_
      refine fun b7 w hs hx => ⟨⟨hs.c b3 2, hs.c b3 4, hs.c b3 3, trivial⟩, ?_⟩
      refine ns_allocK zc_45 hs rfl rfl ?_
      refine fun b6 w hs hx => ⟨⟨hs.c b3 2, hs.c b3 4, hs.c b3 3, trivial⟩, ?_⟩
      refine ns_stA (#[.int .i64 o.it.key, .int .i64 o.it.val]) ag_45 rfl (by decide) hs rfl rfl rfl rfl (by intro u hu; simp at hu; rcases hu with rfl | rfl <;> rfl) (by simp) ?_
      refine fun w hs => ⟨⟨hs.c b3 3, trivial⟩, ?_⟩
      refine ns_stA (#[.int .i64 o.it2.key, .int .i64 o.it2.val]) ag_45 rfl (by decide) hs rfl rfl rfl rfl (by intro u hu; simp at hu; rcases hu with rfl | rfl <;> rfl) (by simp) ?_
      refine fun w hs => ⟨trivial, ?_⟩
      refine ns_done ?_
      have hs : St w0 (pts b6 (.cells #[.int .i64 o.it.key, .int .i64 o.it.val] 45 (0, 0)) * (pts b7 (.cells #[.int .i64 o.it2.key, .int .i64 o.it2.val] 45 (0, 0)) * _)) w := hs
      exact ⟨b6, b7, rfl, rfl, rfl, rfl, rfl, rfl, hs.out⟩
  rintro σ w ⟨b6, b7, g0, g3, g4, g5, g6, g7, hs⟩
  obtain ⟨σ, rfl⟩ := rebase g0
  obtain ⟨σ, rfl⟩ := rebase (σ := σ) g3
  obtain ⟨σ, rfl⟩ := rebase (σ := σ) g4
  obtain ⟨σ, rfl⟩ := rebase (σ := σ) g5
  obtain ⟨σ, rfl⟩ := rebase (σ := σ) g6
  obtain ⟨σ, rfl⟩ := rebase (σ := σ) g7
  clear g0 g3 g4 g5 g6 g7
  refine WP_seq_cut (fun σ w => ∃ (l2 acc2 : List It), stepL l o = (l2, ⟨false, 0, acc2⟩) ∧ σ 4 = .pointer (some ⟨b4, 0, none⟩) ∧ σ 5 = .pointer (some ⟨b5, 0, none⟩) ∧ St w0 (pts b4 (.cells #[.bool false, .int .i64 0, .slice none 0 0] 36 (0, 0)) * (VisP b5 acc2 o.cnt * (BT c d b l2 * (Ctx c fl * F)))) w) ?_ ?_ -- S1
  · refine WP_seq ?_
    -- R3
    refine WP_seqr [⟨0, 0, []⟩, ⟨1, 1, []⟩] (by kernel_rfl) ?_
    refine ns_fld fo_26_0 rfl rfl rfl ?_
    refine ns_ldB pl_2 hs rfl rfl rfl (by rfl) ?_
    refine ns_done ?_
    refine WP_block ?_
    refine WP_seq ?_
    -- R4
    refine WP_seqr [⟨0, 0, []⟩, ⟨1, 0, []⟩] (by kernel_rfl) ?_
    refine ns_cmp _ rfl rfl rfl rfl rfl ?_
    refine ns_asg rfl rfl ?_
    refine ns_done ?_
    refine WP_if rfl (fun hif1 => ?_) (fun hif1 => ?_)
    · refine WP_seq ?_
      -- R5
      refine WP_seqr [⟨0, 0, []⟩, ⟨1, 1, []⟩, ⟨2, 2, []⟩, ⟨3, 0, []⟩, ⟨4, 0, []⟩, ⟨5, 2, []⟩, ⟨6, 2, []⟩] (by kernel_rfl) ?_
      refine ns_move rfl rfl ?_
      refine ns_ldAB [.int .i64 o.it.key, .int .i64 o.it.val] ag_45 hs rfl rfl rfl (by rfl) (by rfl) (by decide) ?_
      refine ns_call (f48_ok c fl d b o.it l hd hd2 (by omega)) ck_48 (hs.foc (BT c d b l * Ctx c fl)) rfl rfl rfl rfl ?_
      intro v25 w hs
      replace hs := hs.pu
      obtain ⟨rfl, hs⟩ := hs
      simp only [mul_assoc'] at hs
      refine ns_ext rfl rfl rfl rfl ?_
      refine ns_ext rfl rfl rfl rfl ?_
      refine ns_call (f47_ok (get l o.it.key)) ck_47 (hs.foc 1) rfl rfl rfl rfl ?_
      intro v28 w hs
      unfold AnP AnsP at hs
      replace hs := hs.ex
      obtain ⟨s9, hs⟩ := hs
      replace hs := hs.pu
      obtain ⟨rfl, hs⟩ := hs
      obtain ⟨a5, c5, rfl, _, _⟩ := (hs.foc (IArr s9 (oneA (get l o.it.key)).items)).arr_form
      refine ns_stA (#[.bool (oneA (get l o.it.key)).ok, .int .i64 (oneA (get l o.it.key)).n, .slice a5 (oneA (get l o.it.key)).items.length c5]) ag_36 rfl (by decide) hs rfl rfl rfl rfl (by intro u hu; simp at hu; rcases hu with rfl | rfl | rfl <;> rfl) (by simp) ?_
      refine fun w hs => ⟨trivial, ?_⟩
      refine ns_done ?_
      refine WP_ret ?_
      have hload := run_loadVarA (P := Try.prog) (t := 36) (n := 3) (ad := ⟨b4, 0, none⟩) (vs := [.bool (oneA (get l o.it.key)).ok, .int .i64 (oneA (get l o.it.key)).n, .slice a5 (oneA (get l o.it.key)).items.length c5]) ag_36 rfl (by decide) w (St.cells (n := 3) hs (by rfl))
      have e : stepL l o = (put l o.it, oneA (get l o.it.key)) := step_0 (of_decide_eq_true hif1)
      have hs := hs.fold (an_mk (oneA (get l o.it.key)) (.slice a5 (oneA (get l o.it.key)).items.length c5))
      exact ⟨_, resC 4 36 rfl hload, by rw [e]; show St w0 ((BT c d b (put l o.it) * (Ctx c fl * AnP (oneA (get l o.it.key)) _)) * F) w; exact hs.out⟩
    refine WP_seq ?_
    -- R6
    refine WP_seqr [⟨0, 0, []⟩, ⟨1, 0, []⟩] (by kernel_rfl) ?_
    refine ns_cmp _ rfl rfl rfl rfl rfl ?_
    refine ns_asg rfl rfl ?_
    refine ns_done ?_
    refine WP_if rfl (fun hif2 => ?_) (fun hif2 => ?_)
    · refine WP_seq ?_
      -- R7
      refine WP_seqr [⟨0, 0, []⟩, ⟨1, 1, []⟩, ⟨2, 2, []⟩, ⟨3, 0, []⟩, ⟨4, 0, []⟩, ⟨5, 2, []⟩, ⟨6, 2, []⟩] (by kernel_rfl) ?_
      refine ns_move rfl rfl ?_
      refine ns_ldAB [.int .i64 o.it.key, .int .i64 o.it.val] ag_45 hs rfl rfl rfl (by rfl) (by rfl) (by decide) ?_
      refine ns_call (f49_ok c fl d b o.it l hd2) ck_49 (hs.foc (BT c d b l * Ctx c fl)) rfl rfl rfl rfl ?_
      intro v33 w hs
      replace hs := hs.pu
      obtain ⟨rfl, hs⟩ := hs
      simp only [mul_assoc'] at hs
      refine ns_ext rfl rfl rfl rfl ?_
      refine ns_ext rfl rfl rfl rfl ?_
      refine ns_call (f47_ok (get l o.it.key)) ck_47 (hs.foc 1) rfl rfl rfl rfl ?_
      intro v36 w hs
      unfold AnP AnsP at hs
      replace hs := hs.ex
      obtain ⟨s9, hs⟩ := hs
      replace hs := hs.pu
      obtain ⟨rfl, hs⟩ := hs
      obtain ⟨a5, c5, rfl, _, _⟩ := (hs.foc (IArr s9 (oneA (get l o.it.key)).items)).arr_form
      refine ns_stA (#[.bool (oneA (get l o.it.key)).ok, .int .i64 (oneA (get l o.it.key)).n, .slice a5 (oneA (get l o.it.key)).items.length c5]) ag_36 rfl (by decide) hs rfl rfl rfl rfl (by intro u hu; simp at hu; rcases hu with rfl | rfl | rfl <;> rfl) (by simp) ?_
      refine fun w hs => ⟨trivial, ?_⟩
      refine ns_done ?_
      refine WP_ret ?_
      have hload := run_loadVarA (P := Try.prog) (t := 36) (n := 3) (ad := ⟨b4, 0, none⟩) (vs := [.bool (oneA (get l o.it.key)).ok, .int .i64 (oneA (get l o.it.key)).n, .slice a5 (oneA (get l o.it.key)).items.length c5]) ag_36 rfl (by decide) w (St.cells (n := 3) hs (by rfl))
      have e : stepL l o = (l, oneA (get l o.it.key)) := step_1 (of_decide_eq_true hif2)
      have hs := hs.fold (an_mk (oneA (get l o.it.key)) (.slice a5 (oneA (get l o.it.key)).items.length c5))
      exact ⟨_, resC 4 36 rfl hload, by rw [e]; show St w0 ((BT c d b (l) * (Ctx c fl * AnP (oneA (get l o.it.key)) _)) * F) w; exact hs.out⟩
    refine WP_seq ?_
    -- R8
    refine WP_seqr [⟨0, 0, []⟩, ⟨1, 0, []⟩] (by kernel_rfl) ?_
    refine ns_cmp _ rfl rfl rfl rfl rfl ?_
    refine ns_asg rfl rfl ?_
    refine ns_done ?_
    refine WP_if rfl (fun hif3 => ?_) (fun hif3 => ?_)
    · refine WP_seq ?_
      -- R9
      refine WP_seqr [⟨0, 0, []⟩, ⟨1, 1, []⟩, ⟨2, 2, []⟩, ⟨3, 0, []⟩, ⟨4, 2, []⟩] (by kernel_rfl) ?_
      refine ns_move rfl rfl ?_
      refine ns_ldAB [.int .i64 o.it.key, .int .i64 o.it.val] ag_45 hs rfl rfl rfl (by rfl) (by rfl) (by decide) ?_
      refine ns_call (f50_ok c fl d b o.it l hd2) ck_50 (hs.foc (BT c d b l * Ctx c fl)) rfl rfl rfl rfl ?_
      intro v41 w hs
      replace hs := hs.pu
      obtain ⟨rfl, hs⟩ := hs
      simp only [mul_assoc'] at hs
      refine ns_build [(0, .bool (get l o.it.key).isSome)] (#[.bool (get l o.it.key).isSome, .int .i64 0, .slice none 0 0]) pp_36 zc_36 rfl rfl rfl rfl ?_
      refine ns_stA (#[.bool (get l o.it.key).isSome, .int .i64 0, .slice none 0 0]) ag_36 rfl (by decide) hs rfl rfl rfl rfl (by intro u hu; simp at hu; rcases hu with rfl | rfl | rfl <;> rfl) (by simp) ?_
      refine fun w hs => ⟨trivial, ?_⟩
      refine ns_done ?_
      refine WP_ret ?_
      have hload := run_loadVarA (P := Try.prog) (t := 36) (n := 3) (ad := ⟨b4, 0, none⟩) (vs := [.bool (get l o.it.key).isSome, .int .i64 0, .slice none 0 0]) ag_36 rfl (by decide) w (St.cells (n := 3) hs (by rfl))
      have e : stepL l o = (l, ⟨(get l o.it.key).isSome, 0, []⟩) := step_2 (of_decide_eq_true hif3)
      have hs := (hs.foc 1).up (an_nil (get l o.it.key).isSome 0)
      exact ⟨_, resC 4 36 rfl hload, by rw [e]; show St w0 ((BT c d b l * (Ctx c fl * AnP ⟨(get l o.it.key).isSome, 0, []⟩ _)) * F) w; exact hs.out⟩
    refine WP_seq ?_
    -- R10
    refine WP_seqr [⟨0, 0, []⟩, ⟨1, 0, []⟩] (by kernel_rfl) ?_
    refine ns_cmp _ rfl rfl rfl rfl rfl ?_
    refine ns_asg rfl rfl ?_
    refine ns_done ?_
    refine WP_if rfl (fun hif4 => ?_) (fun hif4 => ?_)
    · refine WP_seq ?_
      -- R11
      refine WP_seqr [⟨0, 0, []⟩, ⟨1, 1, []⟩, ⟨2, 2, []⟩, ⟨3, 0, []⟩, ⟨4, 0, []⟩, ⟨5, 2, []⟩, ⟨6, 2, []⟩] (by kernel_rfl) ?_
      refine ns_move rfl rfl ?_
      refine ns_ldAB [.int .i64 o.it.key, .int .i64 o.it.val] ag_45 hs rfl rfl rfl (by rfl) (by rfl) (by decide) ?_
      refine ns_call (f51_ok c fl d b o.it l hd hd2 (by omega)) ck_51 (hs.foc (BT c d b l * Ctx c fl)) rfl rfl rfl rfl ?_
      intro v47 w hs
      replace hs := hs.pu
      obtain ⟨rfl, hs⟩ := hs
      simp only [mul_assoc'] at hs
      refine ns_ext rfl rfl rfl rfl ?_
      refine ns_ext rfl rfl rfl rfl ?_
      refine ns_call (f47_ok (get l o.it.key)) ck_47 (hs.foc 1) rfl rfl rfl rfl ?_
      intro v50 w hs
      unfold AnP AnsP at hs
      replace hs := hs.ex
      obtain ⟨s9, hs⟩ := hs
      replace hs := hs.pu
      obtain ⟨rfl, hs⟩ := hs
      obtain ⟨a5, c5, rfl, _, _⟩ := (hs.foc (IArr s9 (oneA (get l o.it.key)).items)).arr_form
      refine ns_stA (#[.bool (oneA (get l o.it.key)).ok, .int .i64 (oneA (get l o.it.key)).n, .slice a5 (oneA (get l o.it.key)).items.length c5]) ag_36 rfl (by decide) hs rfl rfl rfl rfl (by intro u hu; simp at hu; rcases hu with rfl | rfl | rfl <;> rfl) (by simp) ?_
      refine fun w hs => ⟨trivial, ?_⟩
      refine ns_done ?_
      refine WP_ret ?_
      have hload := run_loadVarA (P := Try.prog) (t := 36) (n := 3) (ad := ⟨b4, 0, none⟩) (vs := [.bool (oneA (get l o.it.key)).ok, .int .i64 (oneA (get l o.it.key)).n, .slice a5 (oneA (get l o.it.key)).items.length c5]) ag_36 rfl (by decide) w (St.cells (n := 3) hs (by rfl))
      have e : stepL l o = (rem l o.it.key, oneA (get l o.it.key)) := step_3 (of_decide_eq_true hif4)
      have hs := hs.fold (an_mk (oneA (get l o.it.key)) (.slice a5 (oneA (get l o.it.key)).items.length c5))
      exact ⟨_, resC 4 36 rfl hload, by rw [e]; show St w0 ((BT c d b (rem l o.it.key) * (Ctx c fl * AnP (oneA (get l o.it.key)) _)) * F) w; exact hs.out⟩
    refine WP_seq ?_
    -- R12
    refine WP_seqr [⟨0, 0, []⟩, ⟨1, 0, []⟩] (by kernel_rfl) ?_
    refine ns_cmp _ rfl rfl rfl rfl rfl ?_
    refine ns_asg rfl rfl ?_
    refine ns_done ?_
    refine WP_if rfl (fun hif5 => ?_) (fun hif5 => ?_)
    · refine WP_seq ?_
      -- R13
      refine WP_seqr [⟨0, 0, []⟩, ⟨1, 2, []⟩, ⟨2, 0, []⟩, ⟨3, 0, []⟩, ⟨4, 2, []⟩, ⟨5, 2, []⟩] (by kernel_rfl) ?_
      refine ns_move rfl rfl ?_
      refine ns_call (f52_ok c fl d b l hd) ck_52 (hs.foc (BT c d b l * Ctx c fl)) rfl rfl rfl rfl ?_
      intro v54 w hs
      replace hs := hs.pu
      obtain ⟨rfl, hs⟩ := hs
      simp only [mul_assoc'] at hs
      refine ns_ext rfl rfl rfl rfl ?_
      refine ns_ext rfl rfl rfl rfl ?_
      refine ns_call (f47_ok (l.head?)) ck_47 (hs.foc 1) rfl rfl rfl rfl ?_
      intro v57 w hs
      unfold AnP AnsP at hs
      replace hs := hs.ex
      obtain ⟨s9, hs⟩ := hs
      replace hs := hs.pu
      obtain ⟨rfl, hs⟩ := hs
      obtain ⟨a5, c5, rfl, _, _⟩ := (hs.foc (IArr s9 (oneA (l.head?)).items)).arr_form
      refine ns_stA (#[.bool (oneA (l.head?)).ok, .int .i64 (oneA (l.head?)).n, .slice a5 (oneA (l.head?)).items.length c5]) ag_36 rfl (by decide) hs rfl rfl rfl rfl (by intro u hu; simp at hu; rcases hu with rfl | rfl | rfl <;> rfl) (by simp) ?_
      refine fun w hs => ⟨trivial, ?_⟩
      refine ns_done ?_
      refine WP_ret ?_
      have hload := run_loadVarA (P := Try.prog) (t := 36) (n := 3) (ad := ⟨b4, 0, none⟩) (vs := [.bool (oneA (l.head?)).ok, .int .i64 (oneA (l.head?)).n, .slice a5 (oneA (l.head?)).items.length c5]) ag_36 rfl (by decide) w (St.cells (n := 3) hs (by rfl))
      have e : stepL l o = (l, oneA (l.head?)) := step_4 (of_decide_eq_true hif5)
      have hs := hs.fold (an_mk (oneA (l.head?)) (.slice a5 (oneA (l.head?)).items.length c5))
      exact ⟨_, resC 4 36 rfl hload, by rw [e]; show St w0 ((BT c d b (l) * (Ctx c fl * AnP (oneA (l.head?)) _)) * F) w; exact hs.out⟩
    refine WP_seq ?_
    -- R14
    refine WP_seqr [⟨0, 0, []⟩, ⟨1, 0, []⟩] (by kernel_rfl) ?_
    refine ns_cmp _ rfl rfl rfl rfl rfl ?_
    refine ns_asg rfl rfl ?_
    refine ns_done ?_
    refine WP_if rfl (fun hif6 => ?_) (fun hif6 => ?_)
    · refine WP_seq ?_
      -- R15
      refine WP_seqr [⟨0, 0, []⟩, ⟨1, 2, []⟩, ⟨2, 0, []⟩, ⟨3, 0, []⟩, ⟨4, 2, []⟩, ⟨5, 2, []⟩] (by kernel_rfl) ?_
      refine ns_move rfl rfl ?_
      refine ns_call (f53_ok c fl d b l hd) ck_53 (hs.foc (BT c d b l * Ctx c fl)) rfl rfl rfl rfl ?_
      intro v61 w hs
      replace hs := hs.pu
      obtain ⟨rfl, hs⟩ := hs
      simp only [mul_assoc'] at hs
      refine ns_ext rfl rfl rfl rfl ?_
      refine ns_ext rfl rfl rfl rfl ?_
      refine ns_call (f47_ok (l.getLast?)) ck_47 (hs.foc 1) rfl rfl rfl rfl ?_
      intro v64 w hs
      unfold AnP AnsP at hs
      replace hs := hs.ex
      obtain ⟨s9, hs⟩ := hs
      replace hs := hs.pu
      obtain ⟨rfl, hs⟩ := hs
      obtain ⟨a5, c5, rfl, _, _⟩ := (hs.foc (IArr s9 (oneA (l.getLast?)).items)).arr_form
      refine ns_stA (#[.bool (oneA (l.getLast?)).ok, .int .i64 (oneA (l.getLast?)).n, .slice a5 (oneA (l.getLast?)).items.length c5]) ag_36 rfl (by decide) hs rfl rfl rfl rfl (by intro u hu; simp at hu; rcases hu with rfl | rfl | rfl <;> rfl) (by simp) ?_
      refine fun w hs => ⟨trivial, ?_⟩
      refine ns_done ?_
      refine WP_ret ?_
      have hload := run_loadVarA (P := Try.prog) (t := 36) (n := 3) (ad := ⟨b4, 0, none⟩) (vs := [.bool (oneA (l.getLast?)).ok, .int .i64 (oneA (l.getLast?)).n, .slice a5 (oneA (l.getLast?)).items.length c5]) ag_36 rfl (by decide) w (St.cells (n := 3) hs (by rfl))
      have e : stepL l o = (l, oneA (l.getLast?)) := step_5 (of_decide_eq_true hif6)
      have hs := hs.fold (an_mk (oneA (l.getLast?)) (.slice a5 (oneA (l.getLast?)).items.length c5))
      exact ⟨_, resC 4 36 rfl hload, by rw [e]; show St w0 ((BT c d b (l) * (Ctx c fl * AnP (oneA (l.getLast?)) _)) * F) w; exact hs.out⟩
    refine WP_seq ?_
    -- R16
    refine WP_seqr [⟨0, 0, []⟩, ⟨1, 0, []⟩] (by kernel_rfl) ?_
    refine ns_cmp _ rfl rfl rfl rfl rfl ?_
    refine ns_asg rfl rfl ?_
    refine ns_done ?_
    refine WP_if rfl (fun hif7 => ?_) (fun hif7 => ?_)
    · refine WP_seq ?_
      -- R17
      refine WP_seqr [⟨0, 0, []⟩, ⟨1, 2, []⟩, ⟨2, 0, []⟩, ⟨3, 0, []⟩, ⟨4, 2, []⟩, ⟨5, 2, []⟩] (by kernel_rfl) ?_
      refine ns_move rfl rfl ?_
      refine ns_call (f54_ok c fl d b l hd hd2 (by omega)) ck_54 (hs.foc (BT c d b l * Ctx c fl)) rfl rfl rfl rfl ?_
      intro v68 w hs
      replace hs := hs.pu
      obtain ⟨rfl, hs⟩ := hs
      simp only [mul_assoc'] at hs
      refine ns_ext rfl rfl rfl rfl ?_
      refine ns_ext rfl rfl rfl rfl ?_
      refine ns_call (f47_ok (l.head?)) ck_47 (hs.foc 1) rfl rfl rfl rfl ?_
      intro v71 w hs
      unfold AnP AnsP at hs
      replace hs := hs.ex
      obtain ⟨s9, hs⟩ := hs
      replace hs := hs.pu
      obtain ⟨rfl, hs⟩ := hs
      obtain ⟨a5, c5, rfl, _, _⟩ := (hs.foc (IArr s9 (oneA (l.head?)).items)).arr_form
      refine ns_stA (#[.bool (oneA (l.head?)).ok, .int .i64 (oneA (l.head?)).n, .slice a5 (oneA (l.head?)).items.length c5]) ag_36 rfl (by decide) hs rfl rfl rfl rfl (by intro u hu; simp at hu; rcases hu with rfl | rfl | rfl <;> rfl) (by simp) ?_
      refine fun w hs => ⟨trivial, ?_⟩
      refine ns_done ?_
      refine WP_ret ?_
      have hload := run_loadVarA (P := Try.prog) (t := 36) (n := 3) (ad := ⟨b4, 0, none⟩) (vs := [.bool (oneA (l.head?)).ok, .int .i64 (oneA (l.head?)).n, .slice a5 (oneA (l.head?)).items.length c5]) ag_36 rfl (by decide) w (St.cells (n := 3) hs (by rfl))
      have e : stepL l o = (l.tail, oneA (l.head?)) := step_6 (of_decide_eq_true hif7)
      have hs := hs.fold (an_mk (oneA (l.head?)) (.slice a5 (oneA (l.head?)).items.length c5))
      exact ⟨_, resC 4 36 rfl hload, by rw [e]; show St w0 ((BT c d b (l.tail) * (Ctx c fl * AnP (oneA (l.head?)) _)) * F) w; exact hs.out⟩
    refine WP_seq ?_
    -- R18
    refine WP_seqr [⟨0, 0, []⟩, ⟨1, 0, []⟩] (by kernel_rfl) ?_
    refine ns_cmp _ rfl rfl rfl rfl rfl ?_
    refine ns_asg rfl rfl ?_
    refine ns_done ?_
    refine WP_if rfl (fun hif8 => ?_) (fun hif8 => ?_)
    · refine WP_seq ?_
      -- R19
      refine WP_seqr [⟨0, 0, []⟩, ⟨1, 2, []⟩, ⟨2, 0, []⟩, ⟨3, 0, []⟩, ⟨4, 2, []⟩, ⟨5, 2, []⟩] (by kernel_rfl) ?_
      refine ns_move rfl rfl ?_
      refine ns_call (f55_ok c fl d b l hd hd2 (by omega)) ck_55 (hs.foc (BT c d b l * Ctx c fl)) rfl rfl rfl rfl ?_
      intro v75 w hs
      replace hs := hs.pu
      obtain ⟨rfl, hs⟩ := hs
      simp only [mul_assoc'] at hs
      refine ns_ext rfl rfl rfl rfl ?_
      refine ns_ext rfl rfl rfl rfl ?_
      refine ns_call (f47_ok (l.getLast?)) ck_47 (hs.foc 1) rfl rfl rfl rfl ?_
      intro v78 w hs
      unfold AnP AnsP at hs
      replace hs := hs.ex
      obtain ⟨s9, hs⟩ := hs
      replace hs := hs.pu
      obtain ⟨rfl, hs⟩ := hs
      obtain ⟨a5, c5, rfl, _, _⟩ := (hs.foc (IArr s9 (oneA (l.getLast?)).items)).arr_form
      refine ns_stA (#[.bool (oneA (l.getLast?)).ok, .int .i64 (oneA (l.getLast?)).n, .slice a5 (oneA (l.getLast?)).items.length c5]) ag_36 rfl (by decide) hs rfl rfl rfl rfl (by intro u hu; simp at hu; rcases hu with rfl | rfl | rfl <;> rfl) (by simp) ?_
      refine fun w hs => ⟨trivial, ?_⟩
      refine ns_done ?_
      refine WP_ret ?_
      have hload := run_loadVarA (P := Try.prog) (t := 36) (n := 3) (ad := ⟨b4, 0, none⟩) (vs := [.bool (oneA (l.getLast?)).ok, .int .i64 (oneA (l.getLast?)).n, .slice a5 (oneA (l.getLast?)).items.length c5]) ag_36 rfl (by decide) w (St.cells (n := 3) hs (by rfl))
      have e : stepL l o = (l.dropLast, oneA (l.getLast?)) := step_7 (of_decide_eq_true hif8)
      have hs := hs.fold (an_mk (oneA (l.getLast?)) (.slice a5 (oneA (l.getLast?)).items.length c5))
      exact ⟨_, resC 4 36 rfl hload, by rw [e]; show St w0 ((BT c d b (l.dropLast) * (Ctx c fl * AnP (oneA (l.getLast?)) _)) * F) w; exact hs.out⟩
    refine WP_seq ?_
    -- R20
    refine WP_seqr [⟨0, 0, []⟩, ⟨1, 0, []⟩] (by kernel_rfl) ?_
    refine ns_cmp _ rfl rfl rfl rfl rfl ?_
    refine ns_asg rfl rfl ?_
    refine ns_done ?_
    refine WP_if rfl (fun hif9 => ?_) (fun hif9 => ?_)
    · refine WP_seq ?_
      -- R21
      refine WP_seqr [⟨0, 0, []⟩, ⟨1, 2, []⟩, ⟨2, 0, []⟩, ⟨3, 2, []⟩] (by kernel_rfl) ?_
      refine ns_move rfl rfl ?_
      refine ns_call (f56_ok c fl d b l) ck_56 (hs.foc (BT c d b l * Ctx c fl)) rfl rfl rfl rfl ?_
      intro v82 w hs
      replace hs := hs.pu
      obtain ⟨rfl, hs⟩ := hs
      simp only [mul_assoc'] at hs
      refine ns_build [(1, .int .i64 l.length)] (#[.bool false, .int .i64 l.length, .slice none 0 0]) pp_36 zc_36 rfl rfl rfl rfl ?_
      refine ns_stA (#[.bool false, .int .i64 l.length, .slice none 0 0]) ag_36 rfl (by decide) hs rfl rfl rfl rfl (by intro u hu; simp at hu; rcases hu with rfl | rfl | rfl <;> rfl) (by simp) ?_
      refine fun w hs => ⟨trivial, ?_⟩
      refine ns_done ?_
      refine WP_ret ?_
      have hload := run_loadVarA (P := Try.prog) (t := 36) (n := 3) (ad := ⟨b4, 0, none⟩) (vs := [.bool false, .int .i64 l.length, .slice none 0 0]) ag_36 rfl (by decide) w (St.cells (n := 3) hs (by rfl))
      have e : stepL l o = (l, ⟨false, l.length, []⟩) := step_8 (of_decide_eq_true hif9)
      have hs := (hs.foc 1).up (an_nil false l.length)
      exact ⟨_, resC 4 36 rfl hload, by rw [e]; show St w0 ((BT c d b l * (Ctx c fl * AnP ⟨false, l.length, []⟩ _)) * F) w; exact hs.out⟩
    refine WP_seq ?_
    -- R22
    refine WP_seqr [⟨0, 0, []⟩, ⟨1, 0, []⟩] (by kernel_rfl) ?_
    refine ns_cmp _ rfl rfl rfl rfl rfl ?_
    refine ns_asg rfl rfl ?_
    refine ns_done ?_
    refine WP_if rfl (fun hif10 => ?_) (fun hif10 => ?_)
    · -- R23
      refine WP_seqr [⟨0, 0, []⟩, ⟨1, 0, []⟩, ⟨2, 2, []⟩] (by kernel_rfl) ?_
      refine ns_move rfl rfl ?_
      refine ns_fun' (#[ptr b5]) (#[]) rfl rfl rfl rfl ?_
      refine ns_call (f57_ok c fl d b b5 o.cnt [] l hd2 (by simp only [List.length_nil]; omega)) ck_57 (hs.foc (BT c d b l * (Ctx c fl * VisP b5 [] o.cnt))) rfl rfl rfl rfl ?_
      intro v88 w hs
      simp only [mul_assoc'] at hs
      refine ns_done ?_
      exact ⟨_, _, step_9 (of_decide_eq_true hif10), rfl, rfl, hs.out⟩
    refine WP_seq ?_
    -- R24
    refine WP_seqr [⟨0, 0, []⟩, ⟨1, 0, []⟩] (by kernel_rfl) ?_
    refine ns_cmp _ rfl rfl rfl rfl rfl ?_
    refine ns_asg rfl rfl ?_
    refine ns_done ?_
    refine WP_if rfl (fun hif11 => ?_) (fun hif11 => ?_)
    · -- R25
      refine WP_seqr [⟨0, 0, []⟩, ⟨1, 1, []⟩, ⟨2, 0, []⟩, ⟨3, 2, []⟩] (by kernel_rfl) ?_
      refine ns_move rfl rfl ?_
      refine ns_ldAB [.int .i64 o.it.key, .int .i64 o.it.val] ag_45 hs rfl rfl rfl (by rfl) (by rfl) (by decide) ?_
      refine ns_fun' (#[ptr b5]) (#[]) rfl rfl rfl rfl ?_
      refine ns_call (f59_ok c fl d b b5 o.it o.cnt [] l hd2 (by simp only [List.length_nil]; omega)) ck_59 (hs.foc (BT c d b l * (Ctx c fl * VisP b5 [] o.cnt))) rfl rfl rfl rfl ?_
      intro v94 w hs
      simp only [mul_assoc'] at hs
      refine ns_done ?_
      exact ⟨_, _, step_10 (of_decide_eq_true hif11), rfl, rfl, hs.out⟩
    refine WP_seq ?_
    -- R26
    refine WP_seqr [⟨0, 0, []⟩, ⟨1, 0, []⟩] (by kernel_rfl) ?_
    refine ns_cmp _ rfl rfl rfl rfl rfl ?_
    refine ns_asg rfl rfl ?_
    refine ns_done ?_
    refine WP_if rfl (fun hif12 => ?_) (fun hif12 => ?_)
    · -- R27
      refine WP_seqr [⟨0, 0, []⟩, ⟨1, 1, []⟩, ⟨2, 0, []⟩, ⟨3, 2, []⟩] (by kernel_rfl) ?_
      refine ns_move rfl rfl ?_
      refine ns_ldAB [.int .i64 o.it.key, .int .i64 o.it.val] ag_45 hs rfl rfl rfl (by rfl) (by rfl) (by decide) ?_
      refine ns_fun' (#[ptr b5]) (#[]) rfl rfl rfl rfl ?_
      refine ns_call (f60_ok c fl d b b5 o.it o.cnt [] l hd2 (by simp only [List.length_nil]; omega)) ck_60 (hs.foc (BT c d b l * (Ctx c fl * VisP b5 [] o.cnt))) rfl rfl rfl rfl ?_
      intro v100 w hs
      simp only [mul_assoc'] at hs
      refine ns_done ?_
      exact ⟨_, _, step_11 (of_decide_eq_true hif12), rfl, rfl, hs.out⟩
    refine WP_seq ?_
    -- R28
    refine WP_seqr [⟨0, 0, []⟩, ⟨1, 0, []⟩] (by kernel_rfl) ?_
    refine ns_cmp _ rfl rfl rfl rfl rfl ?_
    refine ns_asg rfl rfl ?_
    refine ns_done ?_
    refine WP_if rfl (fun hif13 => ?_) (fun hif13 => ?_)
    · -- R29
      refine WP_seqr [⟨0, 0, []⟩, ⟨1, 1, []⟩, ⟨2, 1, []⟩, ⟨3, 0, []⟩, ⟨4, 2, []⟩] (by kernel_rfl) ?_
      refine ns_move rfl rfl ?_
      refine ns_ldAB [.int .i64 o.it.key, .int .i64 o.it.val] ag_45 hs rfl rfl rfl (by rfl) (by rfl) (by decide) ?_
      refine ns_ldAB [.int .i64 o.it2.key, .int .i64 o.it2.val] ag_45 hs rfl rfl rfl (by rfl) (by rfl) (by decide) ?_
      refine ns_fun' (#[ptr b5]) (#[]) rfl rfl rfl rfl ?_
      refine ns_call (f61_ok c fl d b b5 o.it o.it2 o.cnt [] l hd2 (by simp only [List.length_nil]; omega)) ck_61 (hs.foc (BT c d b l * (Ctx c fl * VisP b5 [] o.cnt))) rfl rfl rfl rfl ?_
      intro v107 w hs
      simp only [mul_assoc'] at hs
      refine ns_done ?_
      exact ⟨_, _, step_12 (of_decide_eq_true hif13), rfl, rfl, hs.out⟩
    refine WP_seq ?_
    -- R30
    refine WP_seqr [⟨0, 0, []⟩, ⟨1, 0, []⟩] (by kernel_rfl) ?_
    refine ns_cmp _ rfl rfl rfl rfl rfl ?_
    refine ns_asg rfl rfl ?_
    refine ns_done ?_
    refine WP_if rfl (fun hif14 => ?_) (fun hif14 => ?_)
    · -- R31
      refine WP_seqr [⟨0, 0, []⟩, ⟨1, 0, []⟩, ⟨2, 2, []⟩] (by kernel_rfl) ?_
      refine ns_move rfl rfl ?_
      refine ns_fun' (#[ptr b5]) (#[]) rfl rfl rfl rfl ?_
      refine ns_call (f62_ok c fl d b b5 o.cnt [] l hd2 (by simp only [List.length_nil]; omega)) ck_62 (hs.foc (BT c d b l * (Ctx c fl * VisP b5 [] o.cnt))) rfl rfl rfl rfl ?_
      intro v112 w hs
      simp only [mul_assoc'] at hs
      refine ns_done ?_
      exact ⟨_, _, step_13 (of_decide_eq_true hif14), rfl, rfl, hs.out⟩
    refine WP_seq ?_
    -- R32
    refine WP_seqr [⟨0, 0, []⟩, ⟨1, 0, []⟩] (by kernel_rfl) ?_
    refine ns_cmp _ rfl rfl rfl rfl rfl ?_
    refine ns_asg rfl rfl ?_
    refine ns_done ?_
    refine WP_if rfl (fun hif15 => ?_) (fun hif15 => ?_)
    · -- R33
      refine WP_seqr [⟨0, 0, []⟩, ⟨1, 1, []⟩, ⟨2, 0, []⟩, ⟨3, 2, []⟩] (by kernel_rfl) ?_
      refine ns_move rfl rfl ?_
      refine ns_ldAB [.int .i64 o.it.key, .int .i64 o.it.val] ag_45 hs rfl rfl rfl (by rfl) (by rfl) (by decide) ?_
      refine ns_fun' (#[ptr b5]) (#[]) rfl rfl rfl rfl ?_
      refine ns_call (f63_ok c fl d b b5 o.it o.cnt [] l hd2 (by simp only [List.length_nil]; omega)) ck_63 (hs.foc (BT c d b l * (Ctx c fl * VisP b5 [] o.cnt))) rfl rfl rfl rfl ?_
      intro v118 w hs
      simp only [mul_assoc'] at hs
      refine ns_done ?_
      exact ⟨_, _, step_14 (of_decide_eq_true hif15), rfl, rfl, hs.out⟩
    refine WP_seq ?_
    -- R34
    refine WP_seqr [⟨0, 0, []⟩, ⟨1, 0, []⟩] (by kernel_rfl) ?_
    refine ns_cmp _ rfl rfl rfl rfl rfl ?_
    refine ns_asg rfl rfl ?_
    refine ns_done ?_
    refine WP_if rfl (fun hif16 => ?_) (fun hif16 => ?_)
    · -- R35
      refine WP_seqr [⟨0, 0, []⟩, ⟨1, 1, []⟩, ⟨2, 0, []⟩, ⟨3, 2, []⟩] (by kernel_rfl) ?_
      refine ns_move rfl rfl ?_
      refine ns_ldAB [.int .i64 o.it.key, .int .i64 o.it.val] ag_45 hs rfl rfl rfl (by rfl) (by rfl) (by decide) ?_
      refine ns_fun' (#[ptr b5]) (#[]) rfl rfl rfl rfl ?_
      refine ns_call (f64_ok c fl d b b5 o.it o.cnt [] l hd2 (by simp only [List.length_nil]; omega)) ck_64 (hs.foc (BT c d b l * (Ctx c fl * VisP b5 [] o.cnt))) rfl rfl rfl rfl ?_
      intro v124 w hs
      simp only [mul_assoc'] at hs
      refine ns_done ?_
      exact ⟨_, _, step_15 (of_decide_eq_true hif16), rfl, rfl, hs.out⟩
    refine WP_seq ?_
    -- R36
    refine WP_seqr [⟨0, 0, []⟩, ⟨1, 0, []⟩] (by kernel_rfl) ?_
    refine ns_cmp _ rfl rfl rfl rfl rfl ?_
    refine ns_asg rfl rfl ?_
    refine ns_done ?_
    refine WP_if rfl (fun hif17 => ?_) (fun hif17 => ?_)
    · -- R37
      refine WP_seqr [⟨0, 0, []⟩, ⟨1, 1, []⟩, ⟨2, 1, []⟩, ⟨3, 0, []⟩, ⟨4, 2, []⟩] (by kernel_rfl) ?_
      refine ns_move rfl rfl ?_
      refine ns_ldAB [.int .i64 o.it.key, .int .i64 o.it.val] ag_45 hs rfl rfl rfl (by rfl) (by rfl) (by decide) ?_
      refine ns_ldAB [.int .i64 o.it2.key, .int .i64 o.it2.val] ag_45 hs rfl rfl rfl (by rfl) (by rfl) (by decide) ?_
      refine ns_fun' (#[ptr b5]) (#[]) rfl rfl rfl rfl ?_
      refine ns_call (f65_ok c fl d b b5 o.it o.it2 o.cnt [] l hd2 (by simp only [List.length_nil]; omega)) ck_65 (hs.foc (BT c d b l * (Ctx c fl * VisP b5 [] o.cnt))) rfl rfl rfl rfl ?_
      intro v131 w hs
      simp only [mul_assoc'] at hs
      refine ns_done ?_
      exact ⟨_, _, step_16 (of_decide_eq_true hif17), rfl, rfl, hs.out⟩
    refine WP_seq ?_
    -- R38
    refine WP_seqr [⟨0, 0, []⟩, ⟨1, 0, []⟩] (by kernel_rfl) ?_
    refine ns_cmp _ rfl rfl rfl rfl rfl ?_
    refine ns_asg rfl rfl ?_
    refine ns_done ?_
    refine WP_if rfl (fun hif18 => ?_) (fun hif18 => ?_)
    · -- R39
      refine WP_seqr [⟨0, 0, []⟩, ⟨1, 0, []⟩, ⟨2, 1, []⟩, ⟨3, 0, []⟩, ⟨4, 2, []⟩] (by kernel_rfl) ?_
      refine ns_move rfl rfl ?_
      refine ns_fld fo_26_4 rfl rfl rfl ?_
      refine ns_ldB pl_2 hs rfl rfl rfl (by rfl) ?_
      refine ns_cmp _ rfl rfl rfl rfl rfl ?_
      refine ns_call (f66_ok c fl d b _ l hd2) ck_66 (hs.foc (BT c d b l * Ctx c fl)) rfl rfl rfl rfl ?_
      intro v138 w hs
      simp only [mul_assoc'] at hs
      refine ns_done ?_
      exact ⟨_, _, step_18 (of_decide_eq_true hif18), rfl, rfl, hs.out⟩
    refine WP_skip ?_
    exact ⟨_, _, step_no (of_decide_eq_false hif1) (of_decide_eq_false hif2) (of_decide_eq_false hif3) (of_decide_eq_false hif4) (of_decide_eq_false hif5) (of_decide_eq_false hif6) (of_decide_eq_false hif7) (of_decide_eq_false hif8) (of_decide_eq_false hif9) (of_decide_eq_false hif10) (of_decide_eq_false hif11) (of_decide_eq_false hif12) (of_decide_eq_false hif13) (of_decide_eq_false hif14) (of_decide_eq_false hif15) (of_decide_eq_false hif16) (of_decide_eq_false hif17) (of_decide_eq_false hif18), rfl, rfl, hs.out⟩
  rintro σ w ⟨l2, acc2, e, g4, g5, hs⟩
  obtain ⟨σ, rfl⟩ := rebase g4
  obtain ⟨σ, rfl⟩ := rebase (σ := σ) g5
  clear g4 g5
  refine WP_seq ?_
  obtain ⟨v5, hs⟩ := (hs.foc (VisP b5 acc2 o.cnt)).ex
  simp only [mul_assoc'] at hs
  obtain ⟨a5, c5, rfl, _, _⟩ := (hs.foc (IArr v5 acc2)).arr_form
  -- R40
  refine WP_seqr [⟨0, 0, []⟩, ⟨1, 1, []⟩, ⟨2, 0, []⟩, ⟨3, 2, []⟩] (by kernel_rfl) ?_
  refine ns_fld fo_89_0 rfl rfl rfl ?_
  refine ns_ldB pl_34 hs rfl rfl rfl (by rfl) ?_
  refine ns_build [(2, .slice a5 acc2.length c5)] (#[.bool false, .int .i64 0, .slice a5 acc2.length c5]) pp_36 zc_36 rfl rfl rfl rfl ?_
  refine ns_stA (#[.bool false, .int .i64 0, .slice a5 acc2.length c5]) ag_36 rfl (by decide) hs rfl rfl rfl rfl (by intro u hu; simp at hu; rcases hu with rfl | rfl | rfl <;> rfl) (by simp) ?_
  refine fun w hs => ⟨trivial, ?_⟩
  refine ns_done ?_
  refine WP_ret ?_
  have hload := run_loadVarA (P := Try.prog) (t := 36) (n := 3) (ad := ⟨b4, 0, none⟩) (vs := [.bool false, .int .i64 0, .slice a5 acc2.length c5]) ag_36 rfl (by decide) w (St.cells (n := 3) hs (by rfl))
  have hs := hs.fold (an_mk ⟨false, 0, acc2⟩ (.slice a5 acc2.length c5))
  exact ⟨_, resC 4 36 rfl hload, by rw [e]; show St w0 ((BT c d b l2 * (Ctx c fl * AnP ⟨false, 0, acc2⟩ _)) * F) w; exact hs.out⟩
end Go.Proofs.Ytnnembkganlbpaa

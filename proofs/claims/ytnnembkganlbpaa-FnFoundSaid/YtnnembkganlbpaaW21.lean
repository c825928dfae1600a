/- The walk of a script over the first of eight trees. -/
import Derived.Test.YtnnembkganlbpaaRd
namespace Go.Proofs.Ytnnembkganlbpaa
open Go Go.Sl Go.Net Go.Wk Go.Bt Go.RowKit

theorem aarr_mk {v : Value} {n : Nat} {al : List An} {ss : List Value} (hn : n = al.length) (hl : ss.length = al.length) : Ent (Arr 36 3 v n (encA al ss) * itsS al ss) (AArr v al) := fun x hxi => ⟨ss, by
  show (pu _ * _) x
  rw [pu_true hl, ← hn]; exact hxi⟩
theorem take_snoc {α : Type} {l : List α} {i : Nat} {x : α} (h : l[i]? = some x) : l.take (i + 1) = l.take i ++ [x] := by rw [List.take_add_one, h]; rfl
set_option maxHeartbeats 3200000 in
theorem f41_ok (c fl d ab tb : Nat) (R : HProp) (v : Value) (os : List Sop) (l : List It) (cs : Array Value) (hcs : cs[0]? = some (ptr tb)) (hR : RdO R v os) (hd : 2 ≤ d) (hd2 : d ≤ 1000) (hll : l.length + os.length < 100000) (h0 : ∀ o ∈ os, o.tree = 0 ∧ o.kind ≠ 17) :
    Tri Try.prog 41 #[ptr ab, v] (R * (pts ab (.cells cs 60 (0, 0)) * (BT c d tb l * Ctx c fl))) fun r => R * AArr r (runL l os) := by
  obtain ⟨hxl, a1, c1, rfl, hc1, hrd⟩ := hR
  intro w0 F w hs
  simp only [mul_assoc'] at hs
  refine calls_WP 46 #[.tmp 4] Try.func41 rfl Try.ntmps41 rfl (Nat.le_of_ble_eq_true rfl) ?_
  refine WP_seq ?_
  -- R0
  refine WP_seqr [⟨0, 0, []⟩] (by kernel_rfl) ?_
  refine ns_asg rfl rfl ?_
  refine ns_done ?_
  refine WP_seq ?_
  -- R1
  refine WP_seqr [⟨0, 2, []⟩, ⟨1, 0, []⟩] (by kernel_rfl) ?_
  refine ns_lit0 sl_28 hs rfl rfl ?_
  refine fun b9 w hs hx => ⟨trivial, ?_⟩
  refine ns_asg rfl rfl ?_
  refine ns_done ?_
  refine WP_seq_cut (fun σ w => ∃ (out : Value) (ss : List Value), ss.length = os.length ∧ σ 5 = out ∧ St w0 (R * (Arr 36 3 out os.length (encA (runL l os) ss) * (itsS (runL l os) ss * F))) w) ?_ ?_ -- S1
  · refine WP_seq ?_
    -- R2
    refine WP_seqr [⟨0, 0, []⟩, ⟨1, 0, []⟩, ⟨2, 0, []⟩] (by kernel_rfl) ?_
    refine ns_move rfl rfl ?_
    refine ns_len sl_24 rfl rfl rfl ?_
    refine ns_move rfl rfl ?_
    refine ns_done ?_
    refine WP_block ?_
    refine WP_loop (fun m σ w => ∃ (i : Nat) (out : Value) (ss : List Value), m = os.length - i ∧ i ≤ os.length ∧ ss.length = i ∧ σ 0 = ptr ab ∧ σ 5 = out ∧ σ 10 = .slice a1 os.length c1 ∧ σ 11 = .int .i64 (os.length : Int) ∧ σ 12 = .int .i64 (i : Int) ∧ St w0 (R * (Arr 36 3 out i (encA (runL l (os.take i)) ss) * (itsS (runL l (os.take i)) ss * (pts ab (.cells cs 60 (0, 0)) * (BT c d tb (afterL l (os.take i)) * (Ctx c fl * F)))))) w) os.length ?_ ?_ -- L1
    · refine ⟨0, .slice (some ⟨b9, 0, none⟩) 0 0, [], rfl, Nat.zero_le _, rfl, rfl, rfl, rfl, rfl, rfl, ?_⟩
      show St w0 (R * (Arr 36 3 _ 0 [] * (1 * (_ * (BT c d tb l * _))))) w
      rw [one_mul']
      exact hs.out
    rintro m σ w ⟨i, out, ss, rfl, hi, hss, g0, g5, g10, g11, g12, hs⟩
    obtain ⟨σ, rfl⟩ := rebase g0
    obtain ⟨σ, rfl⟩ := rebase (σ := σ) g5
    obtain ⟨σ, rfl⟩ := rebase (σ := σ) g10
    obtain ⟨σ, rfl⟩ := rebase (σ := σ) g11
    obtain ⟨σ, rfl⟩ := rebase (σ := σ) g12
    clear g0 g5 g10 g11 g12
    refine WP_seq ?_
    -- R3
    refine WP_seqr [⟨0, 0, []⟩] (by kernel_rfl) ?_
    refine ns_cmp _ rfl rfl rfl rfl rfl ?_
    refine ns_done ?_
    refine WP_seq ?_ -- S2
    refine WP_if' rfl (fun hif1 => ?_) (fun hif1 => ?_)
    · refine WP_exit ?_
      have hi2 : i = os.length := by have := of_decide_eq_false hif1; omega
      subst hi2
      refine ⟨out, ss, hss, rfl, ?_⟩
      rw [List.take_length] at hs
      exact hs.out
    refine WP_skip ?_
    have hi2 : i < os.length := by have := of_decide_eq_true hif1; omega
    obtain ⟨x, hxi⟩ : ∃ x, os[i]? = some x := ⟨os[i]'hi2, List.getElem?_eq_getElem hi2⟩
    obtain ⟨g, o, rfl, hat⟩ := hrd (by omega)
    have hx0 := h0 x (List.mem_of_getElem? hxi)
    have hal := after_len (os.take i) l
    rw [List.length_take] at hal
    have hrl := run_length (os.take i) l
    rw [List.length_take, Nat.min_eq_left hi] at hrl
    refine WP_seq ?_ -- S3
    refine WP_block ?_
    refine WP_seq ?_
    -- R4
    refine WP_seqr [⟨0, 0, []⟩, ⟨1, 1, []⟩, ⟨2, 2, []⟩, ⟨3, 2, []⟩] (by kernel_rfl) ?_
    refine ns_idx i sl_24 rfl rfl rfl rfl rfl hi2 ?_
    refine ns_ldA [.int .i64 x.kind, .int .i64 x.tree, .int .i64 x.key, .int .i64 x.to, .int .i64 x.val, .int .i64 x.cnt] ag_26 rfl rfl rfl rfl (by decide) (op_cells hat (hs.foc R) hxi) ?_
    refine ns_alloc zc_26 hs rfl rfl ?_
    intro b7 w hs
    refine ns_stA (#[.int .i64 x.kind, .int .i64 x.tree, .int .i64 x.key, .int .i64 x.to, .int .i64 x.val, .int .i64 x.cnt]) ag_26 rfl (by decide) hs rfl rfl rfl rfl (by intro u hu; simp at hu; rcases hu with rfl | rfl | rfl | rfl | rfl | rfl <;> rfl) (by simp) ?_
    refine fun w hs => ⟨trivial, ?_⟩
    refine ns_done ?_
    have hs : St w0 (pts b7 (.cells (opC x) 26 (0, 0)) * _) w := hs
    refine WP_seq ?_
    -- R5
    refine WP_net hs mix [0, 0, 2, 6, 1, 31, 63, 127] [⟨0, 0, []⟩, ⟨1, 0, []⟩, ⟨2, 1, []⟩, ⟨3, 0, []⟩, ⟨4, 0, []⟩, ⟨5, 0, []⟩, ⟨6, 1, []⟩, ⟨7, 0, []⟩] (by kernel_rfl) ?_
    intro w hs
    refine ns_move rfl rfl ?_
    refine ns_fld fo_26_1 rfl rfl rfl ?_
    refine ns_ldB pl_2 hs rfl rfl rfl (by rfl) ?_
    refine ns_and0 rfl rfl rfl rfl hx0.1 ?_
    refine ns_nil rfl rfl rfl ?_
    refine ns_idxA 0 ar_60 rfl rfl rfl rfl rfl (by decide) ?_
    refine ns_ldB pl_59 hs rfl rfl rfl hcs ?_
    refine ns_asg rfl rfl ?_
    refine ns_done ?_
    refine WP_seq ?_ -- S4
    refine WP_seq ?_
    -- R6
    refine WP_seqr [⟨0, 0, []⟩, ⟨1, 1, []⟩, ⟨2, 0, []⟩] (by kernel_rfl) ?_
    refine ns_fld fo_26_0 rfl rfl rfl ?_
    refine ns_ldB pl_2 hs rfl rfl rfl (by rfl) ?_
    refine ns_cmp false rfl rfl rfl rfl (by simp [cmpI, hx0.2]) ?_
    refine ns_done ?_
    refine WP_false rfl ?_ -- if2
    refine WP_skip ?_
    -- R9
    refine WP_seqr [⟨0, 0, []⟩, ⟨1, 0, []⟩, ⟨2, 1, []⟩, ⟨3, 2, []⟩, ⟨4, 2, []⟩, ⟨5, 2, []⟩, ⟨6, 0, []⟩] (by kernel_rfl) ?_
    refine ns_move rfl rfl ?_
    refine ns_move rfl rfl ?_
    refine ns_ldAB [.int .i64 x.kind, .int .i64 x.tree, .int .i64 x.key, .int .i64 x.to, .int .i64 x.val, .int .i64 x.cnt] ag_26 hs rfl rfl rfl (by rfl) (by rfl) (by decide) ?_
    refine ns_call (f46_ok c fl d tb x (afterL l (os.take i)) hd hd2 (by omega)) ck_46 (hs.foc (BT c d tb (afterL l (os.take i)) * Ctx c fl)) rfl rfl rfl rfl ?_
    intro v41 w hs
    generalize hst : stepL (afterL l (os.take i)) x = st at hs
    simp only [mul_assoc'] at hs
    replace hs := (hs.foc (AnP st.2 v41)).ex
    obtain ⟨s9, hs⟩ := hs
    replace hs := hs.pu
    obtain ⟨rfl, hs⟩ := hs
    obtain ⟨a5, c5, rfl, _, _⟩ := (hs.foc (IArr s9 st.2.items)).arr_form
    refine ns_lit [.agg #[.bool st.2.ok, .int .i64 st.2.n, .slice a5 st.2.items.length c5]] [.bool st.2.ok, .int .i64 st.2.n, .slice a5 st.2.items.length c5] sl_28 zr_36 (by decide) (by decide) hs rfl rfl rfl rfl (by simp [Value.cells]) rfl ?_
    refine fun b42 w hs hx => ⟨trivial, ?_⟩
    refine ns_app [.bool st.2.ok, .int .i64 st.2.n, .slice a5 st.2.items.length c5] sl_28 zr_36 by_36 rfl (by decide) (hs.foc (Arr 36 3 out i (encA (runL l (os.take i)) ss))) rfl rfl rfl rfl rfl (St.cells (n := 3) hs (by rfl)) (by intro u hu; simp at hu; rcases hu with rfl | rfl | rfl <;> rfl) (by simp only [maxLen]; omega) (by omega) ?_
    refine fun v43 w hs hv => ⟨trivial, ?_⟩
    have hs := hs.up (Ent.of_eq (congrArg (Arr 36 3 v43 (i + 1)) (encA_snoc (runL l (os.take i)) ss st.2 (.slice a5 st.2.items.length c5) (by omega)).symm))
    have hs := hs.fold (Ent.of_eq (itsS_snoc (runL l (os.take i)) ss st.2 (.slice a5 st.2.items.length c5) (by omega)).symm)
    refine ns_asg rfl rfl ?_
    refine ns_done ?_
    -- R10
    refine WP_seqr [⟨0, 0, []⟩, ⟨1, 0, []⟩] (by kernel_rfl) ?_
    refine ns_add rfl rfl rfl rfl (by omega) (by omega) ?_
    refine ns_move rfl rfl ?_
    refine ns_done ?_
    refine ⟨os.length - (i + 1), by omega, i + 1, v43, ss ++ [.slice a5 st.2.items.length c5], rfl, by omega, by simp [hss], rfl, rfl, rfl, rfl, rfl, ?_⟩
    have e2 : runL l (os.take (i + 1)) = runL l (os.take i) ++ [st.2] := by
      rw [take_snoc hxi, run_append, ← hst]; rfl
    have e3 : afterL l (os.take (i + 1)) = st.1 := by
      rw [take_snoc hxi, after_append, ← hst]; rfl
    rw [e2, e3]
    exact hs.out
    
  rintro σ w ⟨out, ss, hss, g5, hs⟩
  obtain ⟨σ, rfl⟩ := rebase g5
  refine WP_seq ?_
  -- R11
  refine WP_seqr [⟨0, 0, []⟩, ⟨1, 0, []⟩] (by kernel_rfl) ?_
  refine ns_move rfl rfl ?_
  refine ns_asg rfl rfl ?_
  refine ns_done ?_
  refine WP_ret ?_
  have hrl := run_length os l
  have hs := hs.fold (aarr_mk (v := out) (al := runL l os) (ss := ss) hrl.symm (by omega))
  refine ⟨_, res1 _, ?_⟩
  show St w0 ((R * AArr out (runL l os)) * F) w
  exact hs.out
end Go.Proofs.Ytnnembkganlbpaa

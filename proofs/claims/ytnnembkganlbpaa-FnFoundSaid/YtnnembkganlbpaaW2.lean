/- The walks of the lists within a node: inserting, taking out, the last one, cutting off. -/
import Derived.Test.YtnnembkganlbpaaW1
import Derived.Test.YtnnembkganlbpaaAr
namespace Go.Proofs.Ytnnembkganlbpaa
open Go Go.Sl Go.Net Go.Wk Go.Bt Go.RowKit
theorem f84_ok (c b i : Nat) (x : It) (its : List It) (bs : List Nat) (hi : i ≤ its.length) (hn : its.length < 1000000) :
    Tri Try.prog 84 #[.pointer (some ⟨b, 0, none⟩), .int .i64 i, itV x] (NodeP c b its bs) fun _ => NodeP c b (its.insertIdx i x) bs := by
  intro w0 F w hs
  obtain ⟨⟨v1, v2⟩, hs⟩ := hs.ex
  simp only [mul_assoc'] at hs
  obtain ⟨a, cp, rfl, hc, hcm⟩ := (hs.foc (IArr v1 its)).arr_form
  refine calls_WP 39 #[] Try.func84 rfl Try.ntmps84 rfl (Nat.le_of_ble_eq_true rfl) ?_
  refine WP_seq ?_
  -- R0
  refine WP_seqr [⟨0, 2, []⟩] (by kernel_rfl) ?_
  refine ns_box (#[.int .i64 x.key, .int .i64 x.val]) hs rfl rfl rfl rfl ?_
  intro b5 w hs
  refine ns_done ?_
  refine WP_seq ?_
  -- R1
  refine WP_seqr [⟨0, 2, []⟩] (by kernel_rfl) ?_
  refine ns_alloc zc_45 hs rfl rfl ?_
  intro b6 w hs
  refine ns_done ?_
  refine WP_seq ?_
  -- R2
  refine WP_net hs mix [0, 0, 2, 6, 0, 16, 62, 127, 255] [⟨0, 0, []⟩, ⟨1, 0, []⟩, ⟨2, 0, []⟩, ⟨3, 1, []⟩, ⟨4, 1, []⟩, ⟨5, 2, [3]⟩, ⟨6, 2, []⟩, ⟨7, 0, []⟩, ⟨8, 2, []⟩] (by kernel_rfl) ?_
  intro w hs
  refine ns_move rfl rfl ?_
  refine ns_move rfl rfl ?_
  refine ns_nil rfl rfl rfl ?_
  have hk3 := hs.c b 0
  refine ns_ldB pl_100 hs rfl rfl rfl (by rfl) ?_
  refine ns_ldAB [.int .i64 0, .int .i64 0] ag_45 hs rfl rfl rfl (by rfl) (by rfl) (by decide) ?_
  refine ns_lit [.agg #[.int .i64 0, .int .i64 0]] [.int .i64 0, .int .i64 0] sl_100 zr_45 (by decide) (by decide) hs rfl rfl rfl rfl (by simp [Value.cells]) rfl ?_
  refine fun b12 w hs hx => ⟨⟨hx _ _ hk3, trivial⟩, ?_⟩
  refine ns_app [.int .i64 0, .int .i64 0] sl_100 zr_45 by_45 rfl (by decide) (hs.foc (IArr (.slice a its.length cp) its)) rfl rfl rfl rfl rfl (St.cells (n := 2) hs (by rfl)) (by intro u hu; simp at hu; rcases hu with rfl | rfl <;> rfl) (by simp only [maxLen]; omega) (by omega) ?_
  refine fun v13 w hs hv => ⟨trivial, ?_⟩
  refine ns_nil rfl rfl rfl ?_
  obtain ⟨_, h0, _⟩ | ⟨g, cap, cur, rfl, hcap, hcm2, hsz, htk, hs⟩ := hs.arr
  · omega
  refine ns_st (.slice (some ⟨g, 0, none⟩) (its.length + 1) cap) pl_100 hs rfl rfl rfl rfl rfl (by simp) ?_
  refine fun w hs => ⟨trivial, ?_⟩
  try simp only [Nat.zero_add] at hs
  try simp only [List.setIfInBounds_toArray] at hs
  try simp only [List.set_cons_succ] at hs
  try simp only [List.set_cons_zero] at hs
  refine ns_done ?_
  refine WP_seq ?_ -- S1
  refine WP_seq ?_
  -- R3
  refine WP_seqr [⟨0, 0, []⟩, ⟨1, 0, []⟩, ⟨2, 0, []⟩, ⟨3, 1, []⟩, ⟨4, 0, []⟩, ⟨5, 0, []⟩] (by kernel_rfl) ?_
  refine ns_move rfl rfl ?_
  refine ns_move rfl rfl ?_
  refine ns_nil rfl rfl rfl ?_
  refine ns_ldB pl_100 hs rfl rfl rfl (by rfl) ?_
  refine ns_len sl_100 rfl rfl rfl ?_
  refine ns_cmp true rfl rfl rfl rfl (by simp [cmpI]; omega) ?_
  refine ns_done ?_
  refine WP_true rfl ?_ -- if1
  -- R4
  refine WP_net hs mix [0, 1, 3, 0, 8, 31, 0, 64, 192, 0, 960, 2047] [⟨0, 0, []⟩, ⟨1, 0, []⟩, ⟨2, 1, []⟩, ⟨3, 0, []⟩, ⟨4, 0, []⟩, ⟨5, 0, []⟩, ⟨6, 0, []⟩, ⟨7, 0, []⟩, ⟨8, 1, []⟩, ⟨9, 0, []⟩, ⟨10, 0, []⟩, ⟨11, 2, []⟩] (by kernel_rfl) ?_
  intro w hs
  refine ns_move rfl rfl ?_
  refine ns_nil rfl rfl rfl ?_
  refine ns_ldB pl_100 hs rfl rfl rfl (by rfl) ?_
  refine ns_move rfl rfl ?_
  refine ns_add rfl rfl rfl rfl (by omega) (by omega) ?_
  refine ns_sliceLo' (i + 1) sl_100 rfl rfl rfl rfl (by omega) (by omega) ?_
  refine ns_move rfl rfl ?_
  refine ns_nil rfl rfl rfl ?_
  refine ns_ldB pl_100 hs rfl rfl rfl (by rfl) ?_
  refine ns_move rfl rfl ?_
  refine ns_sliceLo' _ sl_100 rfl rfl rfl rfl rfl (by omega) ?_
  have hne : ¬ cap = i := by omega
  have hlen := encs_len its
  refine ns_copy ((encs its).drop (i * 2)) sl_100 hs rfl rfl rfl rfl (by rw [List.length_drop, encs_len]; simp only [Nat.min_def]; split <;> omega) ?hcl (fun u hu => encs_one its u (List.mem_of_mem_drop hu)) ?hfit ?_
  case hcl =>
    rw [if_neg hne]
    intro j u hj
    rw [List.getElem?_drop] at hj
    have hjl : i * 2 + j < its.length * 2 := by
      rcases Nat.lt_or_ge (i * 2 + j) (its.length * 2) with h | h
      · exact h
      · rw [List.getElem?_eq_none (by omega)] at hj; cases hj
    rw [add_plain, hs.c g _]
    have g1 := take_get htk (i * 2 + j) (by omega)
    rw [List.getElem?_append_left (by omega), hj] at g1
    simpa using g1
  case hfit =>
    rw [List.length_drop, hlen, hsz]; split <;> omega
  refine fun w hs => ⟨trivial, ?_⟩
  refine ns_done ?_
  -- R5
  refine WP_net hs mix [0, 1, 3, 0, 0, 31, 63] [⟨0, 0, []⟩, ⟨1, 0, []⟩, ⟨2, 1, []⟩, ⟨3, 0, []⟩, ⟨4, 1, []⟩, ⟨5, 0, []⟩, ⟨6, 2, []⟩] (by kernel_rfl) ?_
  intro w hs
  refine ns_move rfl rfl ?_
  refine ns_nil rfl rfl rfl ?_
  refine ns_ldB pl_100 hs rfl rfl rfl (by rfl) ?_
  refine ns_move rfl rfl ?_
  refine ns_ldAB _ ag_45 hs rfl rfl rfl (by rfl) (by rfl) (by decide) ?_
  refine ns_idx _ sl_100 rfl rfl rfl rfl rfl (by omega) ?_
  refine ns_stA (#[.int .i64 x.key, .int .i64 x.val]) ag_45 rfl (by decide) hs rfl rfl rfl rfl (by intro u hu; simp at hu; rcases hu with rfl | rfl <;> rfl) ?hfit2 ?_
  case hfit2 =>
    rw [splice_size (by rw [List.length_drop, hlen, hsz]; split <;> omega), hsz]; omega
  refine fun w hs => ⟨trivial, ?_⟩
  refine ns_done ?_
  have hins := ins_cells (z := [.int .i64 0, .int .i64 0]) (c := enc x) (o := 0 + if cap = i + 1 then 0 else (i + 1) * 2) hsz (encs_len its) rfl rfl hcap hi (by simp) htk
  rw [← encs_insert its i x hi] at hins
  simp only [Nat.zero_add] at hs hins
  have hsz2 : (splice (splice cur (if cap = i + 1 then 0 else (i + 1) * 2) ((encs its).drop (i * 2))) (i * 2) (enc x)).size = cap * 2 := by
    have e1 : (splice cur (if cap = i + 1 then 0 else (i + 1) * 2) ((encs its).drop (i * 2))).size = cur.size := splice_size (by rw [List.length_drop, hlen, hsz]; split <;> omega)
    rw [splice_size (by rw [e1, hsz]; simp [enc]; omega), e1, hsz]
  have hs := hs.mk_arr' hcap hcm2 hsz2 hins
  have e : its.length + 1 = (its.insertIdx i x).length := (List.length_insertIdx_of_le_length hi _).symm
  rw [e] at hs
  exact ⟨_, res0, (hs.fold (node_fold c b (.slice (some ⟨g, 0, none⟩) (its.insertIdx i x).length cap) v2 (its.insertIdx i x) bs)).out⟩
theorem f94_ok (c b i x : Nat) (its : List It) (bs : List Nat) (hi : i ≤ bs.length) (hn : bs.length < 1000000) :
    Tri Try.prog 94 #[.pointer (some ⟨b, 1, none⟩), .int .i64 i, ptr x] (NodeP c b its bs) fun _ => NodeP c b its (bs.insertIdx i x) := by
  intro w0 F w hs
  obtain ⟨⟨v1, v2⟩, hs⟩ := hs.ex
  simp only [mul_assoc'] at hs
  obtain ⟨a, cp, rfl, hc, hcm⟩ := (hs.foc (PArr v2 bs)).arr_form
  have hlen : (bs.map ptr).length = bs.length := List.length_map ..
  refine calls_WP 39 #[] Try.func94 rfl Try.ntmps94 rfl (Nat.le_of_ble_eq_true rfl) ?_
  refine WP_seq ?_
  -- R0
  refine WP_seqr [⟨0, 0, []⟩] (by kernel_rfl) ?_
  refine ns_asg rfl rfl ?_
  refine ns_done ?_
  refine WP_seq ?_
  -- R1
  refine WP_seqr [⟨0, 0, []⟩, ⟨1, 0, []⟩, ⟨2, 0, []⟩, ⟨3, 1, []⟩, ⟨4, 0, []⟩, ⟨5, 2, []⟩, ⟨6, 2, []⟩, ⟨7, 0, []⟩, ⟨8, 2, []⟩] (by kernel_rfl) ?_
  refine ns_move rfl rfl ?_
  refine ns_move rfl rfl ?_
  refine ns_nil rfl rfl rfl ?_
  refine ns_ldB pl_101 hs rfl rfl rfl (by rfl) ?_
  refine ns_move rfl rfl ?_
  refine ns_lit [.pointer none] [.pointer none] sl_101 zr_85 (by decide) (by decide) hs rfl rfl rfl rfl (by simp [Value.cells]) rfl ?_
  refine fun b12 w hs hx => ⟨trivial, ?_⟩
  refine ns_app [.pointer none] sl_101 zr_85 by_85 rfl (by decide) (hs.foc (PArr (.slice a bs.length cp) bs)) rfl rfl rfl rfl rfl (St.cells (n := 1) hs (by rfl)) (by intro u hu; simp at hu; rcases hu with rfl; rfl) (by simp only [maxLen]; omega) (by omega) ?_
  refine fun v13 w hs hv => ⟨trivial, ?_⟩
  refine ns_nil rfl rfl rfl ?_
  obtain ⟨_, h0, _⟩ | ⟨g, cap, cur, rfl, hcap, hcm2, hsz, htk, hs⟩ := hs.arr
  · omega
  refine ns_st (.slice (some ⟨g, 0, none⟩) (bs.length + 1) cap) pl_101 hs rfl rfl rfl rfl rfl (by simp) ?_
  refine fun w hs => ⟨trivial, ?_⟩
  try simp only [Nat.zero_add] at hs
  try simp only [List.setIfInBounds_toArray] at hs
  try simp only [List.set_cons_succ] at hs
  try simp only [List.set_cons_zero] at hs
  refine ns_done ?_
  refine WP_seq ?_ -- S1
  refine WP_seq ?_
  -- R2
  refine WP_seqr [⟨0, 0, []⟩, ⟨1, 0, []⟩, ⟨2, 0, []⟩, ⟨3, 1, []⟩, ⟨4, 0, []⟩, ⟨5, 0, []⟩] (by kernel_rfl) ?_
  refine ns_move rfl rfl ?_
  refine ns_move rfl rfl ?_
  refine ns_nil rfl rfl rfl ?_
  refine ns_ldB pl_101 hs rfl rfl rfl (by rfl) ?_
  refine ns_len sl_101 rfl rfl rfl ?_
  refine ns_cmp true rfl rfl rfl rfl (by simp [cmpI]; omega) ?_
  refine ns_done ?_
  refine WP_true rfl ?_ -- if1
  -- R3
  refine WP_net hs mix [0, 1, 3, 0, 8, 31, 0, 64, 192, 0, 960, 2047] [⟨0, 0, []⟩, ⟨1, 0, []⟩, ⟨2, 1, []⟩, ⟨3, 0, []⟩, ⟨4, 0, []⟩, ⟨5, 0, []⟩, ⟨6, 0, []⟩, ⟨7, 0, []⟩, ⟨8, 1, []⟩, ⟨9, 0, []⟩, ⟨10, 0, []⟩, ⟨11, 2, []⟩] (by kernel_rfl) ?_
  intro w hs
  refine ns_move rfl rfl ?_
  refine ns_nil rfl rfl rfl ?_
  refine ns_ldB pl_101 hs rfl rfl rfl (by rfl) ?_
  refine ns_move rfl rfl ?_
  refine ns_add rfl rfl rfl rfl (by omega) (by omega) ?_
  refine ns_sliceLo' (i + 1) sl_101 rfl rfl rfl rfl (by omega) (by omega) ?_
  refine ns_move rfl rfl ?_
  refine ns_nil rfl rfl rfl ?_
  refine ns_ldB pl_101 hs rfl rfl rfl (by rfl) ?_
  refine ns_move rfl rfl ?_
  refine ns_sliceLo' _ sl_101 rfl rfl rfl rfl rfl (by omega) ?_
  have hne : ¬ cap = i := by omega
  refine ns_copy ((bs.map ptr).drop (i * 1)) sl_101 hs rfl rfl rfl rfl (by rw [List.length_drop, hlen]; simp only [Nat.min_def]; split <;> omega) ?hcl (fun u hu => ptrs_one bs u (List.mem_of_mem_drop hu)) ?hfit ?_
  case hcl =>
    rw [if_neg hne]
    intro j u hj
    rw [List.getElem?_drop] at hj
    have hjl : i * 1 + j < bs.length := by
      rcases Nat.lt_or_ge (i * 1 + j) bs.length with h | h
      · exact h
      · rw [List.getElem?_eq_none (by omega)] at hj; cases hj
    rw [add_plain, hs.c g _]
    have g1 := take_get htk (i * 1 + j) (by omega)
    rw [List.getElem?_append_left (by omega), hj] at g1
    simpa using g1
  case hfit =>
    rw [List.length_drop, hlen, hsz]; split <;> omega
  refine fun w hs => ⟨trivial, ?_⟩
  refine ns_done ?_
  -- R4
  refine WP_seqr [⟨0, 0, []⟩, ⟨1, 0, []⟩, ⟨2, 1, []⟩, ⟨3, 0, []⟩, ⟨4, 0, []⟩, ⟨5, 0, []⟩, ⟨6, 2, []⟩] (by kernel_rfl) ?_
  refine ns_move rfl rfl ?_
  refine ns_nil rfl rfl rfl ?_
  refine ns_ldB pl_101 hs rfl rfl rfl (by rfl) ?_
  refine ns_move rfl rfl ?_
  refine ns_move rfl rfl ?_
  refine ns_idx _ sl_101 rfl rfl rfl rfl rfl (by omega) ?_
  have e1 : (splice cur (0 + if cap = i + 1 then 0 else (i + 1) * 1) ((bs.map ptr).drop (i * 1))).size = cur.size := splice_size (by rw [List.length_drop, hlen, hsz]; split <;> omega)
  refine ns_st (ptr x) pl_85 hs rfl rfl rfl rfl rfl (by rw [e1, hsz]; omega) ?_
  refine fun w hs => ⟨trivial, ?_⟩
  refine ns_done ?_
  have hins := ins_cells (z := [.pointer none]) (c := [ptr x]) (o := 0 + if cap = i + 1 then 0 else (i + 1) * 1) hsz (hlen.trans (Nat.mul_one _).symm) rfl rfl hcap hi (by simp) htk
  rw [← ptrs_insert bs i x hi] at hins
  rw [← splice_one (by rw [e1, hsz]; omega)] at hs
  simp only [Nat.zero_add] at hs hins e1
  have hsz2 : (splice (splice cur (if cap = i + 1 then 0 else (i + 1) * 1) ((bs.map ptr).drop (i * 1))) (i * 1) [ptr x]).size = cap * 1 := by
    rw [splice_size (by rw [e1, hsz]; simp; omega), e1, hsz]
  have hs := hs.mk_arr' hcap hcm2 hsz2 hins
  have e : bs.length + 1 = (bs.insertIdx i x).length := (List.length_insertIdx_of_le_length hi _).symm
  rw [e] at hs
  exact ⟨_, res0, (hs.fold (node_fold c b v1 (.slice (some ⟨g, 0, none⟩) (bs.insertIdx i x).length cap) its (bs.insertIdx i x))).out⟩
theorem f95_ok (c b : Nat) (x : It) (its : List It) (bs : List Nat) :
    Tri Try.prog 95 #[.pointer (some ⟨b, 0, none⟩)] (NodeP c b (its ++ [x]) bs) fun v => pu (v = itV x) * NodeP c b its bs := by
  intro w0 F w hs
  obtain ⟨⟨v1, v2⟩, hs⟩ := hs.ex
  simp only [mul_assoc'] at hs
  obtain ⟨_, h0, _⟩ | ⟨g, cap, cur, rfl, hcap, hcm2, hsz, htk, hs⟩ := (hs.foc (IArr v1 (its ++ [x]))).arr
  · simp at h0
  have hl1 : (its ++ [x]).length = its.length + 1 := by simp
  rw [hl1] at hs htk hcap
  have hm := hcm2
  simp only [maxLen] at hm
  have ek : ((its.length + 1 : Nat) : Int) - 1 = (its.length : Int) := by omega
  refine calls_WP 29 #[.cell 2 45] Try.func95 rfl Try.ntmps95 rfl (Nat.le_of_ble_eq_true rfl) ?_
  refine WP_seq ?_
  -- R0
  refine WP_seqr [⟨0, 2, []⟩] (by kernel_rfl) ?_
  refine ns_alloc zc_45 hs rfl rfl ?_
  intro b2 w hs
  refine ns_done ?_
  refine WP_seq ?_
  -- R1
  refine WP_seqr [⟨0, 0, []⟩, ⟨1, 0, []⟩, ⟨2, 1, []⟩, ⟨3, 0, []⟩, ⟨4, 0, []⟩, ⟨5, 0, []⟩] (by kernel_rfl) ?_
  refine ns_move rfl rfl ?_
  refine ns_nil rfl rfl rfl ?_
  refine ns_ldB pl_100 hs rfl rfl rfl (by rfl) ?_
  refine ns_len sl_100 rfl rfl rfl ?_
  refine ns_sub rfl rfl rfl rfl (by omega) (by omega) ?_
  refine ns_asg rfl rfl ?_
  refine ns_done ?_
  refine WP_seq ?_
  -- R2
  refine WP_seqr [⟨0, 0, []⟩, ⟨1, 0, []⟩, ⟨2, 1, []⟩, ⟨3, 0, []⟩, ⟨4, 0, []⟩, ⟨5, 1, []⟩, ⟨6, 2, []⟩] (by kernel_rfl) ?_
  refine ns_move rfl rfl ?_
  refine ns_nil rfl rfl rfl ?_
  refine ns_ldB pl_100 hs rfl rfl rfl (by rfl) ?_
  refine ns_move rfl rfl ?_
  refine ns_idx its.length sl_100 rfl rfl rfl rfl ek (by omega) ?_
  refine ns_ldA [.int .i64 x.key, .int .i64 x.val] ag_45 rfl rfl rfl rfl (by decide) (it_cells hs htk its.length (by simp)) ?_
  refine ns_stA (#[.int .i64 x.key, .int .i64 x.val]) ag_45 rfl (by decide) hs rfl rfl rfl rfl (by intro u hu; simp at hu; rcases hu with rfl | rfl <;> rfl) (by simp) ?_
  refine fun w hs => ⟨trivial, ?_⟩
  refine ns_done ?_
  refine WP_seq ?_
  -- R3
  refine WP_seqr [⟨0, 2, []⟩] (by kernel_rfl) ?_
  refine ns_alloc zc_45 hs rfl rfl ?_
  intro b4 w hs
  refine ns_done ?_
  refine WP_seq ?_
  -- R4
  refine WP_net hs mix [0, 1, 3, 0, 0, 31, 63] [⟨0, 0, []⟩, ⟨1, 0, []⟩, ⟨2, 1, []⟩, ⟨3, 0, []⟩, ⟨4, 1, []⟩, ⟨5, 0, []⟩, ⟨6, 2, []⟩] (by kernel_rfl) ?_
  intro w hs
  refine ns_move rfl rfl ?_
  refine ns_nil rfl rfl rfl ?_
  refine ns_ldB pl_100 hs rfl rfl rfl (by rfl) ?_
  refine ns_move rfl rfl ?_
  refine ns_ldAB _ ag_45 hs rfl rfl rfl (by rfl) (by rfl) (by decide) ?_
  refine ns_idx its.length sl_100 rfl rfl rfl rfl ek (by omega) ?_
  refine ns_stA (#[.int .i64 0, .int .i64 0]) ag_45 rfl (by decide) hs rfl rfl rfl rfl (by intro u hu; simp at hu; rcases hu with rfl | rfl <;> rfl) (by rw [hsz]; omega) ?_
  refine fun w hs => ⟨trivial, ?_⟩
  refine ns_done ?_
  refine WP_seq ?_
  -- R5
  refine WP_seqr [⟨0, 0, []⟩, ⟨1, 0, []⟩, ⟨2, 0, []⟩, ⟨3, 1, []⟩, ⟨4, 0, []⟩, ⟨5, 0, []⟩, ⟨6, 0, []⟩, ⟨7, 2, []⟩] (by kernel_rfl) ?_
  refine ns_move rfl rfl ?_
  refine ns_move rfl rfl ?_
  refine ns_nil rfl rfl rfl ?_
  refine ns_ldB pl_100 hs rfl rfl rfl (by rfl) ?_
  refine ns_move rfl rfl ?_
  refine ns_sliceHi its.length sl_100 rfl rfl rfl rfl ek (by omega) ?_
  refine ns_nil rfl rfl rfl ?_
  refine ns_st (.slice (some ⟨g, 0, none⟩) its.length cap) pl_100 hs rfl rfl rfl rfl rfl (by simp) ?_
  refine fun w hs => ⟨trivial, ?_⟩
  try simp only [Nat.zero_add] at hs
  try simp only [List.setIfInBounds_toArray] at hs
  try simp only [List.set_cons_succ] at hs
  try simp only [List.set_cons_zero] at hs
  refine ns_done ?_
  refine WP_ret ?_
  have hpop := pop_cells (n := its.length) (c := [.int .i64 0, .int .i64 0]) hsz rfl hcap htk
  rw [← encs_take, List.take_left] at hpop
  have hload := run_loadVarA (P := Try.prog) (t := 45) (n := 2) (ad := ⟨b2, 0, none⟩) (vs := [.int .i64 x.key, .int .i64 x.val]) ag_45 rfl (by decide) w (St.cells (n := 2) hs (by rfl))
  have hs := (hs.foc (pts g (.cells (splice cur (its.length * 2) [.int .i64 0, .int .i64 0]) 45 (0, 0)))).mk_arr' (n := its.length) (by omega) hcm2 (by rw [splice_size (by simp; omega), hsz]) hpop
  exact ⟨_, resC 2 45 rfl hload, St.mk_pu rfl (hs.fold (node_fold c b (.slice (some ⟨g, 0, none⟩) its.length cap) v2 its bs)).out⟩
theorem f101_ok (c b x : Nat) (its : List It) (bs : List Nat) :
    Tri Try.prog 101 #[.pointer (some ⟨b, 1, none⟩)] (NodeP c b its (bs ++ [x])) fun v => pu (v = ptr x) * NodeP c b its bs := by
  intro w0 F w hs
  obtain ⟨⟨v1, v2⟩, hs⟩ := hs.ex
  simp only [mul_assoc'] at hs
  obtain ⟨_, h0, _⟩ | ⟨g, cap, cur, rfl, hcap, hcm2, hsz, htk, hs⟩ := (hs.foc (PArr v2 (bs ++ [x]))).arr
  · simp at h0
  have hl1 : (bs ++ [x]).length = bs.length + 1 := by simp
  rw [hl1] at hs htk hcap
  have hm := hcm2
  simp only [maxLen] at hm
  have ek : ((bs.length + 1 : Nat) : Int) - 1 = (bs.length : Int) := by omega
  refine calls_WP 29 #[.tmp 2] Try.func101 rfl Try.ntmps101 rfl (Nat.le_of_ble_eq_true rfl) ?_
  refine WP_seq ?_
  -- R0
  refine WP_seqr [⟨0, 0, []⟩] (by kernel_rfl) ?_
  refine ns_asg rfl rfl ?_
  refine ns_done ?_
  refine WP_seq ?_
  -- R1
  refine WP_seqr [⟨0, 0, []⟩, ⟨1, 0, []⟩, ⟨2, 1, []⟩, ⟨3, 0, []⟩, ⟨4, 0, []⟩, ⟨5, 0, []⟩] (by kernel_rfl) ?_
  refine ns_move rfl rfl ?_
  refine ns_nil rfl rfl rfl ?_
  refine ns_ldB pl_101 hs rfl rfl rfl (by rfl) ?_
  refine ns_len sl_101 rfl rfl rfl ?_
  refine ns_sub rfl rfl rfl rfl (by omega) (by omega) ?_
  refine ns_asg rfl rfl ?_
  refine ns_done ?_
  refine WP_seq ?_
  -- R2
  refine WP_seqr [⟨0, 0, []⟩, ⟨1, 0, []⟩, ⟨2, 1, []⟩, ⟨3, 0, []⟩, ⟨4, 0, []⟩, ⟨5, 1, []⟩, ⟨6, 0, []⟩] (by kernel_rfl) ?_
  refine ns_move rfl rfl ?_
  refine ns_nil rfl rfl rfl ?_
  refine ns_ldB pl_101 hs rfl rfl rfl (by rfl) ?_
  refine ns_move rfl rfl ?_
  refine ns_idx bs.length sl_101 rfl rfl rfl rfl ek (by omega) ?_
  refine ns_ld pl_85 rfl rfl rfl (ptr_cell hs htk bs.length (x := x) (by simp)) ?_
  refine ns_asg rfl rfl ?_
  refine ns_done ?_
  refine WP_seq ?_
  -- R3
  refine WP_seqr [⟨0, 0, []⟩] (by kernel_rfl) ?_
  refine ns_asg rfl rfl ?_
  refine ns_done ?_
  refine WP_seq ?_
  -- R4
  refine WP_seqr [⟨0, 0, []⟩, ⟨1, 0, []⟩, ⟨2, 1, []⟩, ⟨3, 0, []⟩, ⟨4, 0, []⟩, ⟨5, 0, []⟩, ⟨6, 2, []⟩] (by kernel_rfl) ?_
  refine ns_move rfl rfl ?_
  refine ns_nil rfl rfl rfl ?_
  refine ns_ldB pl_101 hs rfl rfl rfl (by rfl) ?_
  refine ns_move rfl rfl ?_
  refine ns_move rfl rfl ?_
  refine ns_idx bs.length sl_101 rfl rfl rfl rfl ek (by omega) ?_
  refine ns_st (.pointer none) pl_85 hs rfl rfl rfl rfl rfl (by rw [hsz]; omega) ?_
  refine fun w hs => ⟨trivial, ?_⟩
  rw [← splice_one (by rw [hsz]; omega), Nat.zero_add] at hs
  refine ns_done ?_
  refine WP_seq ?_
  -- R5
  refine WP_seqr [⟨0, 0, []⟩, ⟨1, 0, []⟩, ⟨2, 0, []⟩, ⟨3, 1, []⟩, ⟨4, 0, []⟩, ⟨5, 0, []⟩, ⟨6, 0, []⟩, ⟨7, 2, []⟩] (by kernel_rfl) ?_
  refine ns_move rfl rfl ?_
  refine ns_move rfl rfl ?_
  refine ns_nil rfl rfl rfl ?_
  refine ns_ldB pl_101 hs rfl rfl rfl (by rfl) ?_
  refine ns_move rfl rfl ?_
  refine ns_sliceHi bs.length sl_101 rfl rfl rfl rfl ek (by omega) ?_
  refine ns_nil rfl rfl rfl ?_
  refine ns_st (.slice (some ⟨g, 0, none⟩) bs.length cap) pl_101 hs rfl rfl rfl rfl rfl (by simp) ?_
  refine fun w hs => ⟨trivial, ?_⟩
  try simp only [Nat.zero_add] at hs
  try simp only [List.setIfInBounds_toArray] at hs
  try simp only [List.set_cons_succ] at hs
  try simp only [List.set_cons_zero] at hs
  refine ns_done ?_
  refine WP_ret ?_
  have hpop := pop_cells (n := bs.length) (c := [.pointer none]) hsz rfl hcap htk
  rw [← List.map_take, Nat.mul_one, List.take_left] at hpop
  have hs := (hs.foc (pts g (.cells (splice cur (bs.length * 1) [.pointer none]) 85 (0, 0)))).mk_arr' (n := bs.length) (xs := bs.map ptr) (sz := 1) (by omega) hcm2 (by rw [splice_size (by simp; omega), hsz]) (by simpa using hpop)
  exact ⟨_, res1 _, St.mk_pu rfl (hs.fold (node_fold c b v1 (.slice (some ⟨g, 0, none⟩) bs.length cap) its bs)).out⟩
theorem f96_ok (c b i : Nat) (x : It) (its : List It) (bs : List Nat) (hx : its[i]? = some x) :
    Tri Try.prog 96 #[.pointer (some ⟨b, 0, none⟩), .int .i64 i] (NodeP c b its bs) fun v => pu (v = itV x) * NodeP c b (its.eraseIdx i) bs := by
  have hi : i < its.length := (List.getElem?_eq_some_iff.1 hx).1
  intro w0 F w hs
  obtain ⟨⟨v1, v2⟩, hs⟩ := hs.ex
  simp only [mul_assoc'] at hs
  obtain ⟨_, h0, _⟩ | ⟨g, cap, cur, rfl, hcap, hcm2, hsz, htk, hs⟩ := (hs.foc (IArr v1 its)).arr
  · omega
  obtain ⟨n, hn⟩ : ∃ n, its.length = n + 1 := ⟨its.length - 1, by omega⟩
  have hm := hcm2
  simp only [maxLen] at hm
  have hl := encs_len its
  have ek : ((its.length : Nat) : Int) - 1 = (n : Int) := by omega
  have hne : ¬ cap = i := by omega
  refine calls_WP 47 #[.cell 4 45] Try.func96 rfl Try.ntmps96 rfl (Nat.le_of_ble_eq_true rfl) ?_
  refine WP_seq ?_
  -- R0
  refine WP_seqr [⟨0, 2, []⟩] (by kernel_rfl) ?_
  refine ns_alloc zc_45 hs rfl rfl ?_
  intro b4 w hs
  refine ns_done ?_
  refine WP_seq ?_
  -- R1
  refine WP_seqr [⟨0, 0, []⟩, ⟨1, 0, []⟩, ⟨2, 1, []⟩, ⟨3, 0, []⟩, ⟨4, 0, []⟩, ⟨5, 1, []⟩, ⟨6, 2, []⟩, ⟨7, 2, []⟩] (by kernel_rfl) ?_
  refine ns_move rfl rfl ?_
  refine ns_nil rfl rfl rfl ?_
  refine ns_ldB pl_100 hs rfl rfl rfl (by rfl) ?_
  refine ns_move rfl rfl ?_
  refine ns_idx i sl_100 rfl rfl rfl rfl rfl hi ?_
  refine ns_ldA [.int .i64 x.key, .int .i64 x.val] ag_45 rfl rfl rfl rfl (by decide) (it_cells hs htk i hx) ?_
  refine ns_alloc zc_45 hs rfl rfl ?_
  intro b5 w hs
  refine ns_stA (#[.int .i64 x.key, .int .i64 x.val]) ag_45 rfl (by decide) hs rfl rfl rfl rfl (by intro u hu; simp at hu; rcases hu with rfl | rfl <;> rfl) (by simp) ?_
  refine fun w hs => ⟨trivial, ?_⟩
  refine ns_done ?_
  refine WP_seq ?_
  -- R2
  refine WP_net hs mix [0, 1, 3, 0, 15, 0, 32, 96, 0, 256, 992, 2047] [⟨0, 0, []⟩, ⟨1, 0, []⟩, ⟨2, 1, []⟩, ⟨3, 0, []⟩, ⟨4, 0, []⟩, ⟨5, 0, []⟩, ⟨6, 0, []⟩, ⟨7, 1, []⟩, ⟨8, 0, []⟩, ⟨9, 0, []⟩, ⟨10, 0, []⟩, ⟨11, 2, []⟩] (by kernel_rfl) ?_
  intro w hs
  refine ns_move rfl rfl ?_
  refine ns_nil rfl rfl rfl ?_
  refine ns_ldB pl_100 hs rfl rfl rfl (by rfl) ?_
  refine ns_move rfl rfl ?_
  refine ns_sliceLo' i sl_100 rfl rfl rfl rfl rfl (by omega) ?_
  refine ns_move rfl rfl ?_
  refine ns_nil rfl rfl rfl ?_
  refine ns_ldB pl_100 hs rfl rfl rfl (by rfl) ?_
  refine ns_move rfl rfl ?_
  refine ns_add rfl rfl rfl rfl (by omega) (by omega) ?_
  refine ns_sliceLo' (i + 1) sl_100 rfl rfl rfl rfl (by omega) (by omega) ?_
  refine ns_copy ((encs its).drop ((i + 1) * 2)) sl_100 hs rfl rfl rfl rfl (by rw [List.length_drop, encs_len]; simp only [Nat.min_def]; split <;> omega) (drop_cells hs htk (by omega) (i + 1)) (fun u hu => encs_one its u (List.mem_of_mem_drop hu)) (by rw [List.length_drop, hl, hsz, if_neg hne]; omega) ?_
  refine fun w hs => ⟨trivial, ?_⟩
  rw [if_neg hne, Nat.zero_add] at hs
  refine ns_done ?_
  refine WP_seq ?_
  -- R3
  refine WP_seqr [⟨0, 2, []⟩] (by kernel_rfl) ?_
  refine ns_alloc zc_45 hs rfl rfl ?_
  intro b6 w hs
  refine ns_done ?_
  refine WP_seq ?_
  -- R4
  refine WP_net hs mix [0, 1, 3, 0, 8, 24, 56, 120, 0, 511, 1023] [⟨0, 0, []⟩, ⟨1, 0, []⟩, ⟨2, 1, []⟩, ⟨3, 0, []⟩, ⟨4, 0, []⟩, ⟨5, 1, []⟩, ⟨6, 0, []⟩, ⟨7, 0, []⟩, ⟨8, 1, []⟩, ⟨9, 0, []⟩, ⟨10, 2, []⟩] (by kernel_rfl) ?_
  intro w hs
  refine ns_move rfl rfl ?_
  refine ns_nil rfl rfl rfl ?_
  refine ns_ldB pl_100 hs rfl rfl rfl (by rfl) ?_
  refine ns_move rfl rfl ?_
  refine ns_nil rfl rfl rfl ?_
  refine ns_ldB pl_100 hs rfl rfl rfl (by rfl) ?_
  refine ns_len sl_100 rfl rfl rfl ?_
  refine ns_sub rfl rfl rfl rfl (by omega) (by omega) ?_
  refine ns_ldAB [.int .i64 0, .int .i64 0] ag_45 hs rfl rfl rfl (by rfl) (by rfl) (by decide) ?_
  refine ns_idx n sl_100 rfl rfl rfl rfl ek (by omega) ?_
  have e1 : (splice cur (i * 2) ((encs its).drop ((i + 1) * 2))).size = cur.size := splice_size (by rw [List.length_drop, hl, hsz]; omega)
  refine ns_stA (#[.int .i64 0, .int .i64 0]) ag_45 rfl (by decide) hs rfl rfl rfl rfl (by intro u hu; simp at hu; rcases hu with rfl | rfl <;> rfl) (by rw [e1, hsz]; omega) ?_
  refine fun w hs => ⟨trivial, ?_⟩
  rw [Nat.zero_add] at hs
  refine ns_done ?_
  refine WP_seq ?_
  -- R5
  refine WP_net hs mix [0, 0, 2, 6, 0, 16, 48, 112, 240, 510, 1023, 2047] [⟨0, 0, []⟩, ⟨1, 0, []⟩, ⟨2, 0, []⟩, ⟨3, 1, []⟩, ⟨4, 0, []⟩, ⟨5, 0, []⟩, ⟨6, 1, []⟩, ⟨7, 0, []⟩, ⟨8, 0, []⟩, ⟨9, 0, []⟩, ⟨10, 0, []⟩, ⟨11, 2, []⟩] (by kernel_rfl) ?_
  intro w hs
  refine ns_move rfl rfl ?_
  refine ns_move rfl rfl ?_
  refine ns_nil rfl rfl rfl ?_
  refine ns_ldB pl_100 hs rfl rfl rfl (by rfl) ?_
  refine ns_move rfl rfl ?_
  refine ns_nil rfl rfl rfl ?_
  refine ns_ldB pl_100 hs rfl rfl rfl (by rfl) ?_
  refine ns_len sl_100 rfl rfl rfl ?_
  refine ns_sub rfl rfl rfl rfl (by omega) (by omega) ?_
  refine ns_sliceHi n sl_100 rfl rfl rfl rfl ek (by omega) ?_
  refine ns_nil rfl rfl rfl ?_
  refine ns_st (.slice (some ⟨g, 0, none⟩) n cap) pl_100 hs rfl rfl rfl rfl rfl (by simp) ?_
  refine fun w hs => ⟨trivial, ?_⟩
  try simp only [List.setIfInBounds_toArray] at hs
  try simp only [List.set_cons_succ] at hs
  try simp only [List.set_cons_zero] at hs
  refine ns_done ?_
  refine WP_seq ?_
  -- R6
  refine WP_seqr [⟨0, 1, []⟩, ⟨1, 2, []⟩] (by kernel_rfl) ?_
  refine ns_ldAB _ ag_45 hs rfl rfl rfl (by rfl) (by rfl) (by decide) ?_
  refine ns_stA (#[.int .i64 x.key, .int .i64 x.val]) ag_45 rfl (by decide) hs rfl rfl rfl rfl (by intro u hu; simp at hu; rcases hu with rfl | rfl <;> rfl) (by simp) ?_
  refine fun w hs => ⟨trivial, ?_⟩
  refine ns_done ?_
  refine WP_ret ?_
  have hdel := del_cells (i := i) (n := n) (c := [.int .i64 0, .int .i64 0]) hsz (hl.trans (by rw [hn])) rfl (by omega) (by omega) (by rw [← hn]; exact htk)
  rw [← encs_erase] at hdel
  have hload := run_loadVarA (P := Try.prog) (t := 45) (n := 2) (ad := ⟨b4, 0, none⟩) (vs := [.int .i64 x.key, .int .i64 x.val]) ag_45 rfl (by decide) w (St.cells (n := 2) hs (by rfl))
  have en : (its.eraseIdx i).length = n := by rw [List.length_eraseIdx, if_pos hi]; omega
  have hs := (hs.foc (pts g (.cells (splice (splice cur (i * 2) ((encs its).drop ((i + 1) * 2))) (n * 2) [.int .i64 0, .int .i64 0]) 45 (0, 0)))).mk_arr' (n := n) (cap := cap) (by omega) hcm2 (by rw [splice_size (by rw [e1, hsz]; simp; omega), e1, hsz]) hdel
  rw [← en] at hs
  exact ⟨_, resC 4 45 rfl hload, St.mk_pu rfl (hs.fold (node_fold c b (.slice (some ⟨g, 0, none⟩) (its.eraseIdx i).length cap) v2 (its.eraseIdx i) bs)).out⟩
theorem f102_ok (c b i x : Nat) (its : List It) (bs : List Nat) (hx : bs[i]? = some x) :
    Tri Try.prog 102 #[.pointer (some ⟨b, 1, none⟩), .int .i64 i] (NodeP c b its bs) fun v => pu (v = ptr x) * NodeP c b its (bs.eraseIdx i) := by
  have hi : i < bs.length := (List.getElem?_eq_some_iff.1 hx).1
  intro w0 F w hs
  obtain ⟨⟨v1, v2⟩, hs⟩ := hs.ex
  simp only [mul_assoc'] at hs
  obtain ⟨_, h0, _⟩ | ⟨g, cap, cur, rfl, hcap, hcm2, hsz, htk, hs⟩ := (hs.foc (PArr v2 bs)).arr
  · omega
  obtain ⟨n, hn⟩ : ∃ n, bs.length = n + 1 := ⟨bs.length - 1, by omega⟩
  have hm := hcm2
  simp only [maxLen] at hm
  have hl : (bs.map ptr).length = bs.length := List.length_map ..
  have ek : ((bs.length : Nat) : Int) - 1 = (n : Int) := by omega
  have hne : ¬ cap = i := by omega
  refine calls_WP 47 #[.tmp 4] Try.func102 rfl Try.ntmps102 rfl (Nat.le_of_ble_eq_true rfl) ?_
  refine WP_seq ?_
  -- R0
  refine WP_seqr [⟨0, 0, []⟩] (by kernel_rfl) ?_
  refine ns_asg rfl rfl ?_
  refine ns_done ?_
  refine WP_seq ?_
  -- R1
  refine WP_seqr [⟨0, 0, []⟩, ⟨1, 0, []⟩, ⟨2, 1, []⟩, ⟨3, 0, []⟩, ⟨4, 0, []⟩, ⟨5, 1, []⟩, ⟨6, 0, []⟩] (by kernel_rfl) ?_
  refine ns_move rfl rfl ?_
  refine ns_nil rfl rfl rfl ?_
  refine ns_ldB pl_101 hs rfl rfl rfl (by rfl) ?_
  refine ns_move rfl rfl ?_
  refine ns_idx i sl_101 rfl rfl rfl rfl rfl hi ?_
  refine ns_ld pl_85 rfl rfl rfl (ptr_cell hs htk i hx) ?_
  refine ns_asg rfl rfl ?_
  refine ns_done ?_
  refine WP_seq ?_
  -- R2
  refine WP_net hs mix [0, 1, 3, 0, 15, 0, 32, 96, 0, 256, 992, 2047] [⟨0, 0, []⟩, ⟨1, 0, []⟩, ⟨2, 1, []⟩, ⟨3, 0, []⟩, ⟨4, 0, []⟩, ⟨5, 0, []⟩, ⟨6, 0, []⟩, ⟨7, 1, []⟩, ⟨8, 0, []⟩, ⟨9, 0, []⟩, ⟨10, 0, []⟩, ⟨11, 2, []⟩] (by kernel_rfl) ?_
  intro w hs
  refine ns_move rfl rfl ?_
  refine ns_nil rfl rfl rfl ?_
  refine ns_ldB pl_101 hs rfl rfl rfl (by rfl) ?_
  refine ns_move rfl rfl ?_
  refine ns_sliceLo' i sl_101 rfl rfl rfl rfl rfl (by omega) ?_
  refine ns_move rfl rfl ?_
  refine ns_nil rfl rfl rfl ?_
  refine ns_ldB pl_101 hs rfl rfl rfl (by rfl) ?_
  refine ns_move rfl rfl ?_
  refine ns_add rfl rfl rfl rfl (by omega) (by omega) ?_
  refine ns_sliceLo' (i + 1) sl_101 rfl rfl rfl rfl (by omega) (by omega) ?_
  refine ns_copy ((bs.map ptr).drop ((i + 1) * 1)) sl_101 hs rfl rfl rfl rfl (by rw [List.length_drop, hl]; simp only [Nat.min_def]; split <;> omega) (drop_cells hs htk (by omega) (i + 1)) (fun u hu => ptrs_one bs u (List.mem_of_mem_drop hu)) (by rw [List.length_drop, hl, hsz, if_neg hne]; omega) ?_
  refine fun w hs => ⟨trivial, ?_⟩
  rw [if_neg hne, Nat.zero_add] at hs
  refine ns_done ?_
  refine WP_seq ?_
  -- R3
  refine WP_seqr [⟨0, 0, []⟩] (by kernel_rfl) ?_
  refine ns_asg rfl rfl ?_
  refine ns_done ?_
  refine WP_seq ?_
  -- R4
  refine WP_net hs mix [0, 1, 3, 0, 8, 24, 56, 120, 0, 511, 1023] [⟨0, 0, []⟩, ⟨1, 0, []⟩, ⟨2, 1, []⟩, ⟨3, 0, []⟩, ⟨4, 0, []⟩, ⟨5, 1, []⟩, ⟨6, 0, []⟩, ⟨7, 0, []⟩, ⟨8, 0, []⟩, ⟨9, 0, []⟩, ⟨10, 2, []⟩] (by kernel_rfl) ?_
  intro w hs
  refine ns_move rfl rfl ?_
  refine ns_nil rfl rfl rfl ?_
  refine ns_ldB pl_101 hs rfl rfl rfl (by rfl) ?_
  refine ns_move rfl rfl ?_
  refine ns_nil rfl rfl rfl ?_
  refine ns_ldB pl_101 hs rfl rfl rfl (by rfl) ?_
  refine ns_len sl_101 rfl rfl rfl ?_
  refine ns_sub rfl rfl rfl rfl (by omega) (by omega) ?_
  refine ns_move rfl rfl ?_
  refine ns_idx n sl_101 rfl rfl rfl rfl ek (by omega) ?_
  have e1 : (splice cur (i * 1) ((bs.map ptr).drop ((i + 1) * 1))).size = cur.size := splice_size (by rw [List.length_drop, hl, hsz]; omega)
  refine ns_st (.pointer none) pl_85 hs rfl rfl rfl rfl rfl (by rw [e1, hsz]; omega) ?_
  refine fun w hs => ⟨trivial, ?_⟩
  rw [← splice_one (o := 0 + n * 1) (by rw [e1, hsz]; omega), Nat.zero_add] at hs
  refine ns_done ?_
  refine WP_seq ?_
  -- R5
  refine WP_net hs mix [0, 0, 2, 6, 0, 16, 48, 112, 240, 510, 1023, 2047] [⟨0, 0, []⟩, ⟨1, 0, []⟩, ⟨2, 0, []⟩, ⟨3, 1, []⟩, ⟨4, 0, []⟩, ⟨5, 0, []⟩, ⟨6, 1, []⟩, ⟨7, 0, []⟩, ⟨8, 0, []⟩, ⟨9, 0, []⟩, ⟨10, 0, []⟩, ⟨11, 2, []⟩] (by kernel_rfl) ?_
  intro w hs
  refine ns_move rfl rfl ?_
  refine ns_move rfl rfl ?_
  refine ns_nil rfl rfl rfl ?_
  refine ns_ldB pl_101 hs rfl rfl rfl (by rfl) ?_
  refine ns_move rfl rfl ?_
  refine ns_nil rfl rfl rfl ?_
  refine ns_ldB pl_101 hs rfl rfl rfl (by rfl) ?_
  refine ns_len sl_101 rfl rfl rfl ?_
  refine ns_sub rfl rfl rfl rfl (by omega) (by omega) ?_
  refine ns_sliceHi n sl_101 rfl rfl rfl rfl ek (by omega) ?_
  refine ns_nil rfl rfl rfl ?_
  refine ns_st (.slice (some ⟨g, 0, none⟩) n cap) pl_101 hs rfl rfl rfl rfl rfl (by simp) ?_
  refine fun w hs => ⟨trivial, ?_⟩
  try simp only [Nat.zero_add] at hs
  try simp only [List.setIfInBounds_toArray] at hs
  try simp only [List.set_cons_succ] at hs
  try simp only [List.set_cons_zero] at hs
  refine ns_done ?_
  refine WP_seq ?_
  -- R6
  refine WP_seqr [⟨0, 0, []⟩, ⟨1, 0, []⟩] (by kernel_rfl) ?_
  refine ns_move rfl rfl ?_
  refine ns_asg rfl rfl ?_
  refine ns_done ?_
  refine WP_ret ?_
  have hdel := del_cells (i := i) (n := n) (c := [.pointer none]) hsz (hl.trans (by rw [hn]; omega)) rfl (by omega) (by omega) (by rw [← hn]; exact htk)
  rw [← ptrs_erase] at hdel
  have en : (bs.eraseIdx i).length = n := by rw [List.length_eraseIdx, if_pos hi]; omega
  have hs := (hs.foc (pts g (.cells (splice (splice cur (i * 1) ((bs.map ptr).drop ((i + 1) * 1))) (n * 1) [.pointer none]) 85 (0, 0)))).mk_arr' (n := n) (cap := cap) (by omega) hcm2 (by rw [splice_size (by rw [e1, hsz]; simp; omega), e1, hsz]) hdel
  rw [← en] at hs
  exact ⟨_, res1 _, St.mk_pu rfl (hs.fold (node_fold c b v1 (.slice (some ⟨g, 0, none⟩) (bs.eraseIdx i).length cap) its (bs.eraseIdx i))).out⟩
theorem f81_ok (c b k : Nat) (its : List It) (bs : List Nat) (hk : k ≤ its.length) :
    Tri Try.prog 81 #[.pointer (some ⟨b, 0, none⟩), .int .i64 k] (NodeP c b its bs) fun _ => NodeP c b (its.take k) bs := by
  intro w0 F w hs
  obtain ⟨⟨v1, v2⟩, hs⟩ := hs.ex
  simp only [mul_assoc'] at hs
  obtain ⟨a, cap, rfl, hc, hcm⟩ := (hs.foc (IArr v1 its)).arr_form
  have ht : (its.take k).length = k := by rw [List.length_take]; omega
  have hm := hcm
  simp only [maxLen] at hm
  refine calls_WP 29 #[] Try.func81 rfl Try.ntmps81 rfl (Nat.le_of_ble_eq_true rfl) ?_
  refine WP_seq ?_
  -- R0
  refine WP_seqr [⟨0, 0, []⟩] (by kernel_rfl) ?_
  refine ns_asg rfl rfl ?_
  refine ns_done ?_
  refine WP_seq ?_
  -- R1
  refine WP_net hs mix [0, 0, 2, 6, 0, 30, 0, 64, 192, 0, 960, 511, 2559, 8191] [⟨0, 0, []⟩, ⟨1, 0, []⟩, ⟨2, 0, []⟩, ⟨3, 1, []⟩, ⟨4, 0, []⟩, ⟨5, 0, []⟩, ⟨6, 0, []⟩, ⟨7, 0, []⟩, ⟨8, 1, []⟩, ⟨9, 0, []⟩, ⟨10, 0, []⟩, ⟨11, 0, []⟩, ⟨12, 2, []⟩, ⟨13, 0, []⟩] (by kernel_rfl) ?_
  intro w hs
  refine ns_move rfl rfl ?_
  refine ns_move rfl rfl ?_
  refine ns_nil rfl rfl rfl ?_
  refine ns_ldB pl_100 hs rfl rfl rfl (by rfl) ?_
  refine ns_move rfl rfl ?_
  refine ns_sliceHi k sl_100 rfl rfl rfl rfl rfl (by omega) ?_
  refine ns_move rfl rfl ?_
  refine ns_nil rfl rfl rfl ?_
  refine ns_ldB pl_100 hs rfl rfl rfl (by rfl) ?_
  refine ns_move rfl rfl ?_
  refine ns_sliceLo k sl_100 rfl rfl rfl rfl rfl (by omega) ?_
  refine ns_nil rfl rfl rfl ?_
  refine ns_st (.slice a k cap) pl_100 hs rfl rfl rfl rfl rfl (by simp) ?_
  refine fun w hs => ⟨trivial, ?_⟩
  try simp only [Nat.zero_add] at hs
  try simp only [List.setIfInBounds_toArray] at hs
  try simp only [List.set_cons_succ] at hs
  try simp only [List.set_cons_zero] at hs
  refine ns_asg rfl rfl ?_
  refine ns_done ?_
  have hs : St w0 (Arr 45 2 (.slice a k cap) k (encs (its.take k)) * (pts b (.cells #[.slice a k cap, v2, ptr c] 103 (0, 0)) * (PArr v2 bs * F))) w := by
    rcases (hs.foc (IArr (.slice a its.length cap) its)).arr with ⟨h0, h1, h2, hs⟩ | ⟨g, cap2, cur, h0, h1, h2, h3, h4, hs⟩
    · have : its = [] := List.eq_nil_of_length_eq_zero h1
      subst this
      have : k = 0 := by simpa using hk
      subst this
      simp at h0
      obtain ⟨rfl, rfl⟩ := h0
      simp only [IArr, PArr, List.length_nil, List.take_nil, encs_nil, Arr.nil, one_mul'] at hs ⊢
      exact hs
    · cases h0
      refine (hs.foc (pts g (.cells cur 45 (0, 0)))).mk_arr' (by omega) h2 h3 ?_
      have := congrArg (List.take (k * 2)) h4
      rw [List.take_take, Nat.min_eq_left (by omega)] at this
      rw [this]
      rw [encs_take]
  refine WP_seq ?_
  -- R2
  refine WP_seqr [⟨0, 2, []⟩] (by kernel_rfl) ?_
  refine ns_alloc zc_45 hs rfl rfl ?_
  intro b5 w hs
  refine ns_done ?_
  refine WP_seq ?_
  -- R3
  refine WP_seqr [⟨0, 0, []⟩] (by kernel_rfl) ?_
  refine ns_asg rfl rfl ?_
  refine ns_done ?_
  refine WP_block ?_
  refine WP_loop (fun m σ w => ∃ j : Nat, m = its.length - k - j ∧ j ≤ its.length - k ∧ σ 6 = .int .i64 j ∧ σ 5 = .pointer (some ⟨b5, 0, none⟩) ∧ σ 4 = .slice (if cap = k then a else a.map (·.add (k * 2))) (its.length - k) (cap - k) ∧ St w0 (pts b5 (.cells #[.int .i64 0, .int .i64 0] 45 (0, 0)) * (Arr 45 2 (.slice a k cap) k (encs (its.take k)) * (pts b (.cells #[.slice a k cap, v2, ptr c] 103 (0, 0)) * (PArr v2 bs * F)))) w) (its.length - k) ?_ ?_ -- L1
  · exact ⟨0, by omega, by omega, rfl, rfl, rfl, hs⟩
  rintro m σ w ⟨j, rfl, hj, h6, h5, h4, hs⟩
  obtain ⟨σ, rfl⟩ := rebase h6
  obtain ⟨σ, rfl⟩ := rebase (σ := σ) h5
  obtain ⟨σ, rfl⟩ := rebase (σ := σ) h4
  clear h4 h5 h6
  refine WP_seq ?_ -- S1
  refine WP_seq ?_
  -- R4
  refine WP_seqr [⟨0, 0, []⟩, ⟨1, 0, []⟩, ⟨2, 0, []⟩, ⟨3, 0, []⟩] (by kernel_rfl) ?_
  have hu := hs
  refine ns_move rfl rfl ?_
  refine ns_move rfl rfl ?_
  refine ns_len sl_100 rfl rfl rfl ?_
  refine ns_cmp _ rfl rfl rfl rfl rfl ?_
  refine ns_done ?_
  refine WP_if' rfl (fun hif1 => ?_) (fun hif1 => ?_)
  · refine WP_exit ?_
    have hs := (hs.foc (Arr 45 2 (.slice a k cap) k (encs (its.take k))))
    rw [show Arr 45 2 (.slice a k cap) k (encs (its.take k)) = IArr (.slice a k cap) (its.take k) from by simp only [IArr, ht]] at hs
    exact ⟨_, res0, (hs.fold (node_fold c b (.slice a k cap) v2 (its.take k) bs)).out⟩
  refine WP_skip ?_
  refine WP_seq ?_ -- S2
  refine WP_block ?_
  have hj2 : j < its.length - k := by simpa using hif1
  obtain ⟨h0, h1, _⟩ | ⟨g, cap2, cur, h0, h1, h2, h3, hq, hs⟩ := (hs.foc (Arr 45 2 (.slice a k cap) k (encs (its.take k)))).arr
  · simp at h0; omega
  cases h0
  have hz : (if cap = k then (some ⟨g, 0, none⟩ : Option Addr) else (some (⟨g, 0, none⟩ : Addr)).map (·.add (k * 2))) = some ⟨g, k * 2, none⟩ := by
    rw [if_neg (by omega)]; simp [add_plain]
  -- R6
  refine WP_seqr [⟨0, 0, []⟩, ⟨1, 0, []⟩, ⟨2, 1, []⟩, ⟨3, 0, []⟩, ⟨4, 2, []⟩] (by kernel_rfl) ?_
  refine ns_move rfl rfl ?_
  refine ns_move rfl rfl ?_
  refine ns_ldAB [.int .i64 0, .int .i64 0] ag_45 hs rfl rfl rfl (by rfl) (by rfl) (by decide) ?_
  refine ns_idx j sl_100 rfl rfl (show _ = Value.slice (some ⟨g, k * 2, none⟩) _ _ from congrArg (fun a => Value.slice a (its.length - k) (cap - k)) hz) rfl rfl hj2 ?_
  refine ns_stA (#[.int .i64 0, .int .i64 0]) ag_45 rfl (by decide) hs rfl rfl rfl rfl (by intro u hu; simp at hu; rcases hu with rfl | rfl <;> rfl) (by rw [h3]; omega) ?_
  refine fun w hs => ⟨trivial, ?_⟩
  refine ns_done ?_
  have hs := (hs.foc (pts g (.cells (splice cur (k * 2 + j * 2) [.int .i64 0, .int .i64 0]) 45 (0, 0)))).mk_arr' (n := k) (sz := 2) (xs := encs (its.take k)) h1 h2 (by rw [splice_size (by rw [h3]; simp; omega), h3]) (by rw [head_cells (m := k * 2) (by omega) (Nat.le_refl _) (by rw [h3]; simp; omega) hq, List.take_of_length_le (by rw [encs_len, ht]; exact Nat.le_refl _)])
  -- R5
  refine WP_seqr [⟨0, 0, []⟩, ⟨1, 0, []⟩, ⟨2, 0, []⟩] (by kernel_rfl) ?_
  refine ns_move rfl rfl ?_
  refine ns_add rfl rfl rfl rfl (by omega) (by omega) ?_
  refine ns_asg rfl rfl ?_
  refine ns_done ?_
  exact ⟨its.length - k - (j + 1), by omega, j + 1, rfl, by omega, congrArg (Value.int .i64) (by omega : ((j : Int) + 1) = ((j + 1 : Nat) : Int)), rfl, rfl, by first | exact hs | exact hs.eq (by ac_rfl)⟩
theorem f82_ok (c b k : Nat) (its : List It) (bs : List Nat) (hk : k ≤ bs.length) :
    Tri Try.prog 82 #[.pointer (some ⟨b, 1, none⟩), .int .i64 k] (NodeP c b its bs) fun _ => NodeP c b its (bs.take k) := by
  intro w0 F w hs
  obtain ⟨⟨v1, v2⟩, hs⟩ := hs.ex
  simp only [mul_assoc'] at hs
  obtain ⟨a, cap, rfl, hc, hcm⟩ := (hs.foc (PArr v2 bs)).arr_form
  have ht : (bs.take k).length = k := by rw [List.length_take]; omega
  have hm := hcm
  simp only [maxLen] at hm
  refine calls_WP 29 #[] Try.func82 rfl Try.ntmps82 rfl (Nat.le_of_ble_eq_true rfl) ?_
  refine WP_seq ?_
  -- R0
  refine WP_seqr [⟨0, 0, []⟩] (by kernel_rfl) ?_
  refine ns_asg rfl rfl ?_
  refine ns_done ?_
  refine WP_seq ?_
  -- R1
  refine WP_net hs mix [0, 0, 2, 6, 0, 30, 0, 64, 192, 0, 960, 511, 2559, 8191] [⟨0, 0, []⟩, ⟨1, 0, []⟩, ⟨2, 0, []⟩, ⟨3, 1, []⟩, ⟨4, 0, []⟩, ⟨5, 0, []⟩, ⟨6, 0, []⟩, ⟨7, 0, []⟩, ⟨8, 1, []⟩, ⟨9, 0, []⟩, ⟨10, 0, []⟩, ⟨11, 0, []⟩, ⟨12, 2, []⟩, ⟨13, 0, []⟩] (by kernel_rfl) ?_
  intro w hs
  refine ns_move rfl rfl ?_
  refine ns_move rfl rfl ?_
  refine ns_nil rfl rfl rfl ?_
  refine ns_ldB pl_101 hs rfl rfl rfl (by rfl) ?_
  refine ns_move rfl rfl ?_
  refine ns_sliceHi k sl_101 rfl rfl rfl rfl rfl (by omega) ?_
  refine ns_move rfl rfl ?_
  refine ns_nil rfl rfl rfl ?_
  refine ns_ldB pl_101 hs rfl rfl rfl (by rfl) ?_
  refine ns_move rfl rfl ?_
  refine ns_sliceLo k sl_101 rfl rfl rfl rfl rfl (by omega) ?_
  refine ns_nil rfl rfl rfl ?_
  refine ns_st (.slice a k cap) pl_101 hs rfl rfl rfl rfl rfl (by simp) ?_
  refine fun w hs => ⟨trivial, ?_⟩
  try simp only [Nat.zero_add] at hs
  try simp only [List.setIfInBounds_toArray] at hs
  try simp only [List.set_cons_succ] at hs
  try simp only [List.set_cons_zero] at hs
  refine ns_asg rfl rfl ?_
  refine ns_done ?_
  have hs : St w0 (Arr 85 1 (.slice a k cap) k ((bs.take k).map ptr) * (pts b (.cells #[v1, .slice a k cap, ptr c] 103 (0, 0)) * (IArr v1 its * F))) w := by
    rcases (hs.foc (PArr (.slice a bs.length cap) bs)).arr with ⟨h0, h1, h2, hs⟩ | ⟨g, cap2, cur, h0, h1, h2, h3, h4, hs⟩
    · have : bs = [] := List.eq_nil_of_length_eq_zero h1
      subst this
      have : k = 0 := by simpa using hk
      subst this
      simp at h0
      obtain ⟨rfl, rfl⟩ := h0
      simp only [IArr, PArr, List.length_nil, List.take_nil, List.map_nil, Arr.nil, one_mul'] at hs ⊢
      exact hs
    · cases h0
      refine (hs.foc (pts g (.cells cur 85 (0, 0)))).mk_arr' (by omega) h2 h3 ?_
      have := congrArg (List.take (k * 1)) h4
      rw [List.take_take, Nat.min_eq_left (by omega)] at this
      rw [this]
      rw [Nat.mul_one, List.map_take]
  refine WP_seq ?_
  -- R2
  refine WP_seqr [⟨0, 0, []⟩] (by kernel_rfl) ?_
  refine ns_asg rfl rfl ?_
  refine ns_done ?_
  refine WP_seq ?_
  -- R3
  refine WP_seqr [⟨0, 0, []⟩] (by kernel_rfl) ?_
  refine ns_asg rfl rfl ?_
  refine ns_done ?_
  refine WP_block ?_
  refine WP_loop (fun m σ w => ∃ j : Nat, m = bs.length - k - j ∧ j ≤ bs.length - k ∧ σ 6 = .int .i64 j ∧ σ 5 = .pointer none ∧ σ 4 = .slice (if cap = k then a else a.map (·.add (k * 1))) (bs.length - k) (cap - k) ∧ St w0 ((Arr 85 1 (.slice a k cap) k ((bs.take k).map ptr) * (pts b (.cells #[v1, .slice a k cap, ptr c] 103 (0, 0)) * (IArr v1 its * F)))) w) (bs.length - k) ?_ ?_ -- L1
  · exact ⟨0, by omega, by omega, rfl, rfl, rfl, hs⟩
  rintro m σ w ⟨j, rfl, hj, h6, h5, h4, hs⟩
  obtain ⟨σ, rfl⟩ := rebase h6
  obtain ⟨σ, rfl⟩ := rebase (σ := σ) h5
  obtain ⟨σ, rfl⟩ := rebase (σ := σ) h4
  clear h4 h5 h6
  refine WP_seq ?_ -- S1
  refine WP_seq ?_
  -- R4
  refine WP_seqr [⟨0, 0, []⟩, ⟨1, 0, []⟩, ⟨2, 0, []⟩, ⟨3, 0, []⟩] (by kernel_rfl) ?_
  have hu := hs
  refine ns_move rfl rfl ?_
  refine ns_move rfl rfl ?_
  refine ns_len sl_101 rfl rfl rfl ?_
  refine ns_cmp _ rfl rfl rfl rfl rfl ?_
  refine ns_done ?_
  refine WP_if' rfl (fun hif1 => ?_) (fun hif1 => ?_)
  · refine WP_exit ?_
    have hs := (hs.foc (Arr 85 1 (.slice a k cap) k ((bs.take k).map ptr)))
    rw [show Arr 85 1 (.slice a k cap) k ((bs.take k).map ptr) = PArr (.slice a k cap) (bs.take k) from by simp only [PArr, ht]] at hs
    exact ⟨_, res0, (hs.fold (node_fold c b v1 (.slice a k cap) its (bs.take k))).out⟩
  refine WP_skip ?_
  refine WP_seq ?_ -- S2
  refine WP_block ?_
  have hj2 : j < bs.length - k := by simpa using hif1
  obtain ⟨h0, h1, _⟩ | ⟨g, cap2, cur, h0, h1, h2, h3, hq, hs⟩ := (hs.foc (Arr 85 1 (.slice a k cap) k ((bs.take k).map ptr))).arr
  · simp at h0; omega
  cases h0
  have hz : (if cap = k then (some ⟨g, 0, none⟩ : Option Addr) else (some (⟨g, 0, none⟩ : Addr)).map (·.add (k * 1))) = some ⟨g, k * 1, none⟩ := by
    rw [if_neg (by omega)]; simp [add_plain]
  -- R6
  refine WP_seqr [⟨0, 0, []⟩, ⟨1, 0, []⟩, ⟨2, 0, []⟩, ⟨3, 0, []⟩, ⟨4, 2, []⟩] (by kernel_rfl) ?_
  refine ns_move rfl rfl ?_
  refine ns_move rfl rfl ?_
  refine ns_move rfl rfl ?_
  refine ns_idx j sl_101 rfl rfl (show _ = Value.slice (some ⟨g, k * 1, none⟩) _ _ from congrArg (fun a => Value.slice a (bs.length - k) (cap - k)) hz) rfl rfl hj2 ?_
  refine ns_st (.pointer none) pl_85 hs rfl rfl rfl rfl rfl (by rw [h3]; omega) ?_
  refine fun w hs => ⟨trivial, ?_⟩
  rw [← splice_one (o := k * 1 + j * 1) (by rw [h3]; omega)] at hs
  refine ns_done ?_
  have hs := (hs.foc (pts g (.cells (splice cur (k * 1 + j * 1) [.pointer none]) 85 (0, 0)))).mk_arr' (n := k) (sz := 1) (xs := (bs.take k).map ptr) h1 h2 (by rw [splice_size (by rw [h3]; simp; omega), h3]) (by rw [head_cells (m := k * 1) (by omega) (Nat.le_refl _) (by rw [h3]; simp; omega) hq, List.take_of_length_le (by rw [List.length_map, ht]; omega)])
  -- R5
  refine WP_seqr [⟨0, 0, []⟩, ⟨1, 0, []⟩, ⟨2, 0, []⟩] (by kernel_rfl) ?_
  refine ns_move rfl rfl ?_
  refine ns_add rfl rfl rfl rfl (by omega) (by omega) ?_
  refine ns_asg rfl rfl ?_
  refine ns_done ?_
  exact ⟨bs.length - k - (j + 1), by omega, j + 1, rfl, by omega, congrArg (Value.int .i64) (by omega : ((j : Int) + 1) = ((j + 1 : Nat) : Int)), rfl, rfl, by first | exact hs | exact hs.eq (by ac_rfl)⟩
end Go.Proofs.Ytnnembkganlbpaa

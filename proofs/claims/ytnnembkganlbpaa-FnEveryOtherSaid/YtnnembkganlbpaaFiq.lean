/- From the contract of a law's walk to the law's row: how the arguments read, and what the call leaves of what was there. -/
import Derived.Test.YtnnembkganlbpaaQ4
import Derived.Test.YtnnembkganlbpaaRows
import Derived.ProofKit
import Derived.Carry
import Derived.Deep.Slices
namespace Go.Proofs.Ytnnembkganlbpaa
open Go Go.Sl Go.Net Go.Wk Go.Bt Go.ChangeShapes Go.WideShapes Go.ChangeAt Go.RowKit Go.Deep

theorem Try.own : ownKnob Try.prog.godebug = none := by kernel_rfl
theorem Try.laidOut : laidOutB Try.prog = true := by kernel_rfl
def heapOf (W : World) : Hp := fun k => W.heap[k]?
theorem st_base (W : World) : St W (base (heapOf W) * 1) W := ⟨rfl, rfl, rfl, heapOf W, fun _ _ h => h, by rw [mul_one']; rfl⟩
theorem base_block {W w0 w : World} {F : HProp} (hs : St w0 (base (heapOf W) * F) w) {k : Nat} {o : Obj} (h : W.heap[k]? = some o) : w.heap[k]? = some o := by
  obtain ⟨x, a, p, q, hp, hq, d, rfl⟩ := hs.heap
  have hp : p = heapOf W := hp
  subst hp
  refine a k o ?_
  unfold un heapOf
  rw [h]; rfl
theorem base_at {W : World} {g o : Nat} {xs : List Value} (h : ∀ j u, xs[j]? = some u → W.cell? ⟨g, o + j, none⟩ = some u) : At (base (heapOf W)) g o xs := by
  intro w0 w F hs j u hj
  have hc := h j u hj
  have e : w.heap[g]? = W.heap[g]? := by
    cases hb : W.heap[g]? with
    | none => simp [World.cell?, hb] at hc
    | some o => exact base_block hs hb
  rw [← hc]
  exact World.cell?_of_block (w := W) e
theorem below_of {W w : World} {F : HProp} (hs : St W (base (heapOf W) * F) w) : Below W.heap.size W w := by
  refine ⟨hs.os, hs.tape, hs.output, ?_, fun k hk => ?_⟩
  · rcases Nat.eq_zero_or_pos W.heap.size with e | e
    · omega
    · have h1 : W.heap[W.heap.size - 1]? = some (W.heap[W.heap.size - 1]'(by omega)) := Array.getElem?_eq_getElem (by omega)
      have h2 := base_block hs h1
      obtain ⟨h3, _⟩ := Array.getElem?_eq_some_iff.1 h2
      omega
  · have h1 : W.heap[k]? = some (W.heap[k]'hk) := Array.getElem?_eq_getElem hk
    rw [h1]; exact base_block hs h1
/-- rows of a known width, laid in the first memory -/
theorem rd_rows {α : Type} (f : α → List Value) (k : Nat) (hk : 0 < k) (hf : ∀ x, (f x).length = k) {W : World} {a : Addr} {cap : Nat} (l : List α) (hc : l.length ≤ cap)
    (h : ∀ i x, l[i]? = some x → ∀ r u, (f x)[r]? = some u → W.cell? ((a.add (i * k)).add r) = some u) : Rd k (base (heapOf W)) (.slice (some a) l.length cap) l.length (l.flatMap f) := by
  refine ⟨row_len f k hf l, some a, cap, rfl, hc, fun hn => ?_⟩
  obtain ⟨b, off, spot⟩ := a
  have hx0 : l[0]? = some (l[0]'(by omega)) := List.getElem?_eq_getElem (by omega)
  have hu : (f (l[0]'(by omega)))[0]? = some ((f (l[0]'(by omega)))[0]'(by rw [hf]; exact hk)) := List.getElem?_eq_getElem (by rw [hf]; exact hk)
  have h00 := h 0 _ hx0 0 _ hu
  have hspot : spot = none := by simpa [Addr.add] using World.cell?_spot h00
  subst hspot
  refine ⟨b, off, rfl, base_at fun j u hj => ?_⟩
  have hjl : j < l.length * k := by
    rw [← row_len f k hf l]
    exact (List.getElem?_eq_some_iff.1 hj).1
  have hi : j / k < l.length := (Nat.div_lt_iff_lt_mul hk).2 hjl
  have hxi : l[j / k]? = some (l[j / k]'hi) := List.getElem?_eq_getElem hi
  have hr : j % k < k := Nat.mod_lt j hk
  have e := row_at f k hf l (j / k) _ hxi
  have hj2 : j / k * k + j % k = j := by rw [Nat.mul_comm]; exact Nat.div_add_mod j k
  have hg : (f (l[j / k]'hi))[j % k]? = some u := by
    rw [← e, List.getElem?_take, if_pos hr, List.getElem?_drop, hj2]; exact hj
  have := h (j / k) _ hxi (j % k) u hg
  rw [Go.Wk.add_plain, Go.Wk.add_plain, Nat.add_assoc, hj2] at this
  exact this
theorem c_26 : Try.prog.cellsOf 26 = 6 := by kernel_rfl
theorem c_2 : Try.prog.cellsOf 2 = 1 := by kernel_rfl
theorem ud_26 : (match Try.prog.underlying 26 with | some (.struct fs) => fs.toList.map (fun f => (f.type, f.offset)) | _ => []) = [(2, 0), (2, 1), (2, 2), (2, 3), (2, 4), (2, 5)] := by kernel_rfl
section
variable {H : Type} {enc : TypeId × Value → H} {W : World}
theorem op_of {n : Nat} {sp : Nat → Bool} {cs : List Value} {x : DataW H × List MemPlace} (hl : cs.length = 6) (h : DataW.trod enc Try.prog W 0 sp true n 26 cs = some x) : ∃ o : Sop, cs = (opC o).toList := by
  have hu := ud_26
  split at hu
  · rename_i fs hf
    obtain ⟨xs, k, _, _, _, hxl, hall⟩ := DataW.trod_struct hf h
    obtain ⟨fl⟩ := fs
    have hfl : fl.length = 6 := by simpa using congrArg List.length hu
    have each : ∀ i, i < 6 → ∃ z, (cs.drop i).take 1 = [.int .i64 z] := by
      intro i hi
      have hfi : (Array.mk fl)[i]? = some (fl[i]'(by omega)) := by simp [hfl, hi]
      have h1 := hall i _ hfi
      have e : (fl[i]'(by omega)).type = 2 ∧ (fl[i]'(by omega)).offset = i := by
        have h2 := congrArg (fun l => l[i]?) hu
        simp only [List.getElem?_map] at h2
        rw [List.getElem?_eq_getElem (by omega : i < fl.length)] at h2
        have hc : i = 0 ∨ i = 1 ∨ i = 2 ∨ i = 3 ∨ i = 4 ∨ i = 5 := by omega
        rcases hc with rfl | rfl | rfl | rfl | rfl | rfl <;> simpa using h2
      rw [e.1, e.2, c_2] at h1
      have hx : xs[i]? = some (xs[i]'(by rw [hxl]; simp [hfl, hi])) := List.getElem?_eq_getElem _
      rw [hx] at h1
      obtain ⟨z, hz, _⟩ := DataW.trod_int un_2 h1
      exact ⟨z, hz⟩
    rcases cs with _ | ⟨c0, _ | ⟨c1, _ | ⟨c2, _ | ⟨c3, _ | ⟨c4, _ | ⟨c5, _ | ⟨c6, cs⟩⟩⟩⟩⟩⟩⟩ <;> simp at hl
    obtain ⟨z0, h0⟩ := each 0 (by omega)
    obtain ⟨z1, h1⟩ := each 1 (by omega)
    obtain ⟨z2, h2⟩ := each 2 (by omega)
    obtain ⟨z3, h3⟩ := each 3 (by omega)
    obtain ⟨z4, h4⟩ := each 4 (by omega)
    obtain ⟨z5, h5⟩ := each 5 (by omega)
    simp at h0 h1 h2 h3 h4 h5
    subst h0; subst h1; subst h2; subst h3; subst h4; subst h5
    exact ⟨⟨z0, z1, z2, z3, z4, z5⟩, rfl⟩
  · cases hu
set_option maxRecDepth 100000 in
/-- an argument of steps -/
theorem open_ops {v : Value} {d : DataW H} {p : List MemPlace} {b0 : Nat} (hval : Value.okWide Try.prog W .any b0 24 v) (h : DataW.Trod enc Try.prog W 0 (fun _ => true) true 24 v d p) : ∃ os : List Sop, RdO (base (heapOf W)) v os := by
  obtain ⟨a0, n, c, rfl⟩ := okWide_slice Try.underlying24 hval
  obtain ⟨fuel, hf⟩ := h
  rcases open_slice Try.underlying24 hf with ⟨hcs, _⟩ | ⟨a, len, cap, m, n', D, Pl, hcs, _, hl, _, hm, _, hx⟩
  · simp [Value.cells] at hcs
    obtain ⟨rfl, rfl, rfl⟩ := hcs
    exact ⟨[], nil_rd 6 _⟩
  · simp [Value.cells] at hcs
    obtain ⟨rfl, rfl, rfl⟩ := hcs
    simp only [if_true] at hm
    subst hm
    have each : ∀ i, i < n → ∃ o : Sop, ∀ r, r < 6 → W.cell? ((a.add (i * 6)).add r) = (opC o).toList[r]? := by
      intro i hi
      obtain ⟨cs', h1, h2⟩ := hx i (by omega)
      rw [c_26] at h1
      obtain ⟨_, h3, h4⟩ := World.cells?_some h1
      obtain ⟨o, rfl⟩ := op_of h3 h2
      exact ⟨o, h4⟩
    haveI : Inhabited Sop := ⟨⟨0, 0, 0, 0, 0, 0⟩⟩
    obtain ⟨O, hO⟩ := choose_lt (α := Sop) (p := fun i o => ∀ r, r < 6 → W.cell? ((a.add (i * 6)).add r) = (opC o).toList[r]?) (n := n) each
    have hlen : ((List.range n).map O).length = n := by simp
    refine ⟨(List.range n).map O, ?_⟩
    have := rd_rows (fun o => (opC o).toList) 6 (by omega) (fun _ => rfl) (W := W) (a := a) (cap := m) ((List.range n).map O) (by rw [hlen]; exact hl) (fun i x hi r u hu => by
      rw [List.getElem?_map] at hi
      rcases Nat.lt_or_ge i n with hin | hin
      · rw [List.getElem?_range hin] at hi
        simp at hi; subst hi
        have hr : r < 6 := (List.getElem?_eq_some_iff.1 hu).1
        rw [hO i hin r hr]; exact hu
      · rw [List.getElem?_eq_none (by simpa using hin)] at hi
        cases hi)
    rw [hlen] at this
    show Rd 6 _ _ _ _
    rw [hlen]; exact this
set_option maxRecDepth 100000 in
/-- an argument of keys -/
theorem open_keys {v : Value} {d : DataW H} {p : List MemPlace} {b0 : Nat} (hval : Value.okWide Try.prog W .any b0 22 v) (h : DataW.Trod enc Try.prog W 0 (fun _ => true) true 22 v d p) : ∃ ks : List Int, RdK (base (heapOf W)) v ks ∧ ∀ k ∈ ks, -9223372036854775808 ≤ k ∧ k ≤ 9223372036854775807 := by
  obtain ⟨a0, n, c, rfl⟩ := okWide_slice Try.underlying22 hval
  obtain ⟨fuel, hf⟩ := h
  rcases open_ints Try.underlying22 un_2 c_2 hf with ⟨hcs, _⟩ | ⟨a, len, cap, zs, hcs, _, hl, _, hz, _, hcell, hwf⟩
  · simp [Value.cells] at hcs
    obtain ⟨rfl, rfl, rfl⟩ := hcs
    exact ⟨[], nil_rd 1 _, fun k hk => by cases hk⟩
  · simp [Value.cells] at hcs
    obtain ⟨rfl, rfl, rfl⟩ := hcs
    simp only [if_true] at hz
    have hlen : (zs.take n).length = n := by rw [List.length_take]; omega
    refine ⟨zs.take n, ?_, fun k hk => by
      have := hwf k (List.mem_of_mem_take hk)
      simpa [Lit.wf, IntKind.min, IntKind.max, IntKind.signed, IntKind.bits] using this⟩
    have := rd_rows (fun k : Int => [Value.int .i64 k]) 1 (by omega) (fun _ => rfl) (W := W) (a := a) (cap := c) (zs.take n) (by rw [hlen]; exact hl) (fun i x hi r u hu => by
      have hr : r < 1 := (List.getElem?_eq_some_iff.1 hu).1
      obtain rfl : r = 0 := by omega
      simp at hu; subst hu
      rw [List.getElem?_take] at hi
      split at hi
      · rename_i hin
        have hzi : i < zs.length := by omega
        rw [List.getElem?_eq_getElem hzi] at hi
        simp at hi; subst hi
        have := hcell i hzi
        rw [Nat.mul_one, show (a.add i).add 0 = a.add i from by simp [Addr.add], this]
        simp [List.getD, List.getElem?_eq_getElem hzi]
      · cases hi)
    rw [hlen] at this
    show Rd 1 _ _ _ _
    rw [hlen]; exact this
theorem trodAll_below {W' : World} (hb : Below W.heap.size W W') : ∀ (ts : List TypeId) (vs : List Value) (ds : List (DataW H)) (ps : List MemPlace), (∀ t ∈ ts, Try.prog.readableRec t = true ∧ t < Try.prog.types.size) → (∀ x ∈ ps, x.block < W.heap.size) →
    DataW.TrodAll enc Try.prog W 0 (fun _ => true) true ts vs ds ps → DataW.TrodAll enc Try.prog W' 0 (fun b => decide (b < W.heap.size)) true ts vs ds ps := by
  intro ts
  induction ts with
  | nil =>
    intro vs ds ps _ _ h
    obtain ⟨rfl, rfl, rfl⟩ := trodAll_nil h
    exact trodAll_mk0
  | cons t ts ih =>
    intro vs ds ps ht hlt h
    obtain ⟨v, vs', d, ds', p, q, rfl, rfl, rfl, h1, h2⟩ := trodAll_cons h
    refine ⟨p, q, ?_, ih vs' ds' q (fun t' ht' => ht t' (List.mem_cons_of_mem _ ht')) (fun x hx => hlt x (List.mem_append_right _ hx)) h2, rfl⟩
    exact Below.trod Try.laidOut (ht t List.mem_cons_self).1 (ht t List.mem_cons_self).2 h1 hb (fun x hx => hlt x (List.mem_append_left _ hx))
theorem ty_2 : Try.prog.readableRec 2 = true ∧ 2 < Try.prog.types.size := ⟨by kernel_rfl, of_decide_eq_true (by kernel_rfl)⟩
theorem ty_3 : Try.prog.readableRec 3 = true ∧ 3 < Try.prog.types.size := ⟨by kernel_rfl, of_decide_eq_true (by kernel_rfl)⟩
theorem ty_4 : Try.prog.readableRec 4 = true ∧ 4 < Try.prog.types.size := ⟨by kernel_rfl, of_decide_eq_true (by kernel_rfl)⟩
theorem ty_22 : Try.prog.readableRec 22 = true ∧ 22 < Try.prog.types.size := ⟨by kernel_rfl, of_decide_eq_true (by kernel_rfl)⟩
theorem ty_24 : Try.prog.readableRec 24 = true ∧ 24 < Try.prog.types.size := ⟨by kernel_rfl, of_decide_eq_true (by kernel_rfl)⟩
/-- a law's post, from its contract -/
theorem law_post {f : Func} {s : ChangeSpec} {W W' : World} {args : Array Value} {v : Value} {ds gs : List (DataW H)} {before : List MemPlace} {ts : List TypeId}
    (hW : DataW.Whole enc Try.prog f.params.toList s.vars false W args.toList ds gs before) (hr : f.resultTypes = #[4]) (hp : f.params.toList = ts) (hty : ∀ t ∈ ts, Try.prog.readableRec t = true ∧ t < Try.prog.types.size) (hvars : s.vars = [])
    (hres : (s.fn H (ds ++ gs)).results = [.lit (.bool true)]) (hargs : (s.fn H (ds ++ gs)).args = ds) (hv2 : (s.fn H (ds ++ gs)).vars = [])
    (hs : St W (pu (v = .bool true) * base (heapOf W) * 1) W') : s.post enc Try.prog f false true false false W args v W' := by
  have hs1 := hs.pu
  obtain ⟨rfl, hs2⟩ := hs1
  have hb := below_of hs2
  have hlt := hW.lt
  obtain ⟨p, q, hA, hV, rfl, _, _⟩ := id hW
  rw [hvars] at hV
  obtain ⟨rfl, rfl⟩ := trodVars_none hV
  refine ⟨ds, [], p ++ [], [], p, [], hW, ?_, ?_, ?_, hb.frame _, fun h => by cases h⟩
  · rw [hr, hres]
    exact trodAll_mk1 (shut_bool Try.underlying4 true)
  · rw [hargs]
    have hA' : DataW.TrodAll enc Try.prog W 0 (fun _ => true) true f.params.toList args.toList ds p := hA
    exact trodAll_below hb _ _ _ _ (by rw [hp]; exact hty) (fun x hx => hlt x (List.mem_append_left _ hx)) hA'
  · rw [hv2, hvars]; rfl
end
end Go.Proofs.Ytnnembkganlbpaa

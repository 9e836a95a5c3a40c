/- FnAlike: entries are those that stand in the file, whichever size sectors have (part 12 of 12). No condition but the statement's own. -/
import Derived.ChangeKeysEq
import Derived.BigQuiet
import Derived.Maps.RangeWalk
import Derived.Clock
import Derived.LaidMore
import Derived.LaidOnce
import Derived.OpenVars
import Derived.SevenTiedAt
import Derived.Test.YtokpomdfgbbhlaaDoorAlk
set_option linter.all false
set_option linter.unusedVariables false
set_option linter.unusedSimpArgs false
set_option linter.unnecessarySimpa false
/- As Loose, for what stands of the frame and the memory together. -/
namespace Go.Proofs.YtokpomdfgbbhlaaDoor
open Go Go.RowKit

section
variable {ops : Array Oper} {Q : Exit → Act → World → Prop}

/-- What stands at each moment: L tells which have come up. -/
structure LInvA (J : (Nat → Bool) → Act → World → Prop) (Sp : Nat → World → Value → Prop) (ops : Array Oper) (a0 : Act) (L : Nat → Bool) (a : Act) (w : World) : Prop where
  j : J L a w
  size : a.tmps.size = a0.tmps.size
  defers : a.defers = a0.defers
  closed : ∀ i o, L i = true → ops[i]? = some o → ∀ e ∈ o.after, Region.binds .any e = true → L e.on = true
  free : ∀ d, (∀ i o, L i = true → ops[i]? = some o → o.dst ≠ some d) → a.tmps[d]? = a0.tmps[d]?
  val : ∀ i o d, L i = true → ops[i]? = some o → o.dst = some d → Sp i w (a.tmps.getD d undef)

/-- No two write one slot; nobody waits, in every order, for one behind him. -/
def looseC (ops : Array Oper) (n : Nat) : Bool :=
  (List.range ops.size).all fun i => match ops[i]? with
    | some o => o.after.all (fun e => !Region.binds .any e || decide (e.on < i)) && o.guard.isNone && (match o.dst with | some d => decide (d < n) && (List.range ops.size).all (fun j => decide (j = i) || (match ops[j]? with | some o' => o'.dst != some d | none => true)) | none => true)
    | none => true

theorem LInvA.put {J : (Nat → Bool) → Act → World → Prop} {Sp : Nat → World → Value → Prop} {a0 a : Act} {L : Nat → Bool} {w w' : World} {i : Nat} {o : Oper} {v : Value} (hB : looseC ops a0.tmps.size = true) (h : LInvA J Sp ops a0 L a w) (hi : ops[i]? = some o) (hL : L i = false)
    (hw : ∀ e ∈ o.after, Region.binds .any e = true → L e.on = true) (hJ : J (lSet L i) (a.put o.dst v) w') (hS : ∀ j u, L j = true → Sp j w u → Sp j w' u) (hv : Sp i w' v) : LInvA J Sp ops a0 (lSet L i) (a.put o.dst v) w' := by
  have hib : i < ops.size := (Array.getElem?_eq_some_iff.1 hi).1
  have hb := List.all_eq_true.1 hB i (List.mem_range.2 hib)
  simp only [hi, Bool.and_eq_true] at hb
  refine { j := hJ, size := ?_, defers := ?_, closed := ?_, free := ?_, val := ?_ }
  · unfold Act.put
    split
    · simpa using h.size
    · exact h.size
  · unfold Act.put
    split <;> exact h.defers
  · intro k ok hk hok e he hbd
    by_cases hki : k = i
    · subst hki
      rw [hi] at hok
      cases hok
      have := hw e he hbd
      unfold lSet
      split
      · rfl
      · exact this
    · rw [lSet_ne _ _ _ hki] at hk
      have := h.closed k ok hk hok e he hbd
      unfold lSet
      split
      · rfl
      · exact this
  · intro d hd
    have hdi : o.dst ≠ some d := hd i o (lSet_self _ _) hi
    have h1 := h.free d (fun k ok hk hok => hd k ok (by unfold lSet; split <;> simp_all) hok)
    rw [← h1]
    unfold Act.put
    cases hdst : o.dst with
    | none => rfl
    | some d' =>
      have hne : d' ≠ d := fun hh => hdi (by rw [hdst, hh])
      show (a.tmps.setIfInBounds d' v)[d]? = _
      exact Array.getElem?_setIfInBounds_ne hne
  · intro k ok d hk hok hd
    by_cases hki : k = i
    · subst hki
      rw [hi] at hok
      cases hok
      rw [hd] at hb ⊢
      simp only [Bool.and_eq_true, decide_eq_true_eq] at hb
      have hdl : d < a.tmps.size := by rw [h.size]; exact hb.2.1
      have : (a.put (some d) v).tmps.getD d undef = v := by
        show (a.tmps.setIfInBounds d v).getD d undef = v
        simp [Array.getD, hdl]
      rw [this]
      exact hv
    · rw [lSet_ne _ _ _ hki] at hk
      have h1 := hS k _ hk (h.val k ok d hk hok hd)
      have : (a.put o.dst v).tmps.getD d undef = a.tmps.getD d undef := by
        unfold Act.put
        cases hdst : o.dst with
        | none => rfl
        | some d' =>
          rw [hdst] at hb
          simp only [Bool.and_eq_true, decide_eq_true_eq] at hb
          have hkb : k < ops.size := (Array.getElem?_eq_some_iff.1 hok).1
          have h2 := List.all_eq_true.1 hb.2.2 k (List.mem_range.2 hkb)
          rw [hok] at h2
          simp only [Bool.or_eq_true, decide_eq_true_eq, hki, false_or] at h2
          have hne : d' ≠ d := fun hh => by rw [hd, hh] at h2; simp at h2
          show (a.tmps.setIfInBounds d' v).getD d undef = a.tmps.getD d undef
          rw [Array.getD_eq_getD_getElem?, Array.getD_eq_getD_getElem?, Array.getElem?_setIfInBounds_ne hne]
      rw [this]
      exact h1

theorem loose_goA {J : (Nat → Bool) → Act → World → Prop} {Sp : Nat → World → Value → Prop} {a0 : Act} (hB : looseC ops a0.tmps.size = true)
    (hstep : ∀ L a w i o, LInvA J Sp ops a0 L a w → ops[i]? = some o → L i = false → (∀ e ∈ o.after, Region.binds .any e = true → L e.on = true) →
      o.wp Tryd.prog a w (fun a' w' => ∃ v, a' = a.put o.dst v ∧ J (lSet L i) a' w' ∧ (∀ j u, L j = true → Sp j w u → Sp j w' u) ∧ Sp i w' v) Q)
    (hend : ∀ L a w, LInvA J Sp ops a0 L a w → (∀ i, i < ops.size → L i = true) → Q .normal a w) :
    ∀ (fuel : Nat) (l : Array Bool) (a : Act) (w : World), l.size = ops.size → unl l ≤ fuel → LInvA J Sp ops a0 (fun i => l.getD i false) a w → wpAny Tryd.prog .any ops Q fuel l a w := by
  have hall : ∀ (l : Array Bool), l.size = ops.size → Region.ready .any ops l = [] → ∀ i, i < ops.size → l.getD i false = true := by
    intro l hl hr i
    induction i using Nat.strongRecOn with
    | _ i ih =>
      intro hi
      rcases hb : l.getD i false with _ | _
      · exfalso
        have hm : i ∈ Region.ready .any ops l := by
          rw [mem_ready]
          have hb' : l.getD i true = false := by
            have hil : i < l.size := by omega
            simp [Array.getD, hil] at hb ⊢
            exact hb
          refine ⟨hb', ops[i], Array.getElem?_eq_getElem hi, fun e he hbd => ?_⟩
          have h1 := List.all_eq_true.1 hB i (List.mem_range.2 hi)
          rw [Array.getElem?_eq_getElem hi] at h1
          simp only [Bool.and_eq_true] at h1
          have h2 := Array.all_eq_true'.1 h1.1.1 e he
          have h3 : e.on < i := by rw [hbd] at h2; simpa using h2
          exact ih e.on h3 (by omega)
        rw [hr] at hm
        cases hm
      · rfl
  intro fuel
  induction fuel with
  | zero =>
    intro l a w hl hu hI
    have hz : ∀ i, i < ops.size → l.getD i false = true := fun i hi => unl_zero l (by omega) i (by omega)
    refine ⟨?_, hend _ a w hI hz⟩
    apply List.eq_nil_iff_forall_not_mem.2
    intro i hm
    rw [mem_ready] at hm
    obtain ⟨h1, o, h2, _⟩ := hm
    have h3 := hz i (Array.getElem?_eq_some_iff.1 h2).1
    have hil : i < l.size := by rw [hl]; exact (Array.getElem?_eq_some_iff.1 h2).1
    simp [Array.getD, hil] at h1 h3
    rw [h1] at h3
    cases h3
  | succ fuel ih =>
    intro l a w hl hu hI
    refine ⟨fun hr => hend _ a w hI (hall l hl hr), fun i hm => ?_⟩
    rw [mem_ready] at hm
    obtain ⟨h1, o, h2, h3⟩ := hm
    have hib : i < ops.size := (Array.getElem?_eq_some_iff.1 h2).1
    have hil : i < l.size := by omega
    have hLi : (fun i => l.getD i false) i = false := by
      simp [Array.getD, hil] at h1 ⊢
      exact h1
    have hs := hstep _ a w i o hI h2 hLi h3
    have hg : o.guard = none := by
      have h4 := List.all_eq_true.1 hB i (List.mem_range.2 hib)
      rw [h2] at h4
      simp only [Bool.and_eq_true] at h4
      exact Option.isNone_iff_eq_none.1 h4.1.2
    unfold wpOp
    simp only [h2]
    have hw : Region.wanted o (yielded ops a.tmps) = true := by simp [Region.wanted, hg]
    rw [if_pos hw]
    refine .inl (Oper.wp_mono ?_ hs)
    rintro a' w' ⟨v, rfl, e2, e3, e4⟩
    have hp := hI.put hB h2 hLi h3 e2 e3 e4
    refine ih _ _ _ (by simpa using hl) (by have := unl_set l i h1; omega) ?_
    have e5 : (fun j => (l.setIfInBounds i true).getD j false) = lSet (fun i => l.getD i false) i := by
      funext j
      unfold lSet
      by_cases hji : j = i
      · subst hji
        simp [Array.getD, hil]
      · rw [if_neg hji]
        show (l.setIfInBounds i true).getD j false = l.getD j false
        rw [Array.getD_eq_getD_getElem?, Array.getD_eq_getD_getElem?, Array.getElem?_setIfInBounds_ne (Ne.symm hji)]
    rw [e5]
    exact hp

/-- The region: any order. -/
theorem wp_region_looseA {id : Nat} {J : (Nat → Bool) → Act → World → Prop} {Sp : Nat → World → Value → Prop} {a0 : Act} {w : World} (hm : Tryd.prog.follows .mixedOrders = true) (hB : looseC ops a0.tmps.size = true) (h0 : J (fun _ => false) a0 w.drew)
    (hstep : ∀ L a w i o, LInvA J Sp ops a0 L a w → ops[i]? = some o → L i = false → (∀ e ∈ o.after, Region.binds .any e = true → L e.on = true) →
      o.wp Tryd.prog a w (fun a' w' => ∃ v, a' = a.put o.dst v ∧ J (lSet L i) a' w' ∧ (∀ j u, L j = true → Sp j w u → Sp j w' u) ∧ Sp i w' v) Q)
    (hend : ∀ L a w, LInvA J Sp ops a0 L a w → (∀ i, i < ops.size → L i = true) → Q .normal a w) : (Code.region id ops true).wp Tryd.prog Q a0 w := by
  refine wp_region_any hm (loose_goA hB hstep hend ops.size (Array.replicate ops.size false) a0 _ (by simp) ?_ ?_)
  · unfold unl
    exact Nat.le_trans (List.length_filter_le _ _) (by simp)
  · have e : (fun i => (Array.replicate ops.size false).getD i false) = fun _ => false := by
      funext i
      rw [Array.getD_eq_getD_getElem?, Array.getElem?_replicate]
      split <;> rfl
    rw [e]
    exact { j := h0, size := rfl, defers := rfl, closed := fun i o h => (by cases h), free := fun d _ => rfl, val := fun i o d h => (by cases h) }
end
theorem LInvA.outer {J : (Nat → Bool) → Act → World → Prop} {Sp : Nat → World → Value → Prop} {ops : Array Oper} {a0 a : Act} {L : Nat → Bool} {w : World} (h : LInvA J Sp ops a0 L a w) (d : Nat) (hb : noDstB ops d = true) (v : Value) (hv : a0.tmps[d]? = some v) : a.tmps.getD d undef = v := by
  have h1 := h.free d (fun i o _ hi hd => by
    unfold noDstB at hb
    rw [← Array.all_toList, List.all_eq_true] at hb
    have := hb o (Array.mem_toList_iff.2 (Array.mem_of_getElem? hi))
    rw [hd] at this
    simp at this)
  rw [Array.getD_eq_getD_getElem?, h1, hv]
  rfl
theorem LInvA.before {J : (Nat → Bool) → Act → World → Prop} {Sp : Nat → World → Value → Prop} {ops : Array Oper} {a0 a : Act} {L : Nat → Bool} {w : World} (h : LInvA J Sp ops a0 L a w) {i j : Nat} {o : Oper} (hi : L i = false) (hj : ops[j]? = some o) (hb : (o.after.any fun e => Region.binds .any e && e.on == i) = true) : L j = false := by
  rcases hl : L j with _ | _
  · rfl
  · exfalso
    rw [← Array.any_toList, List.any_eq_true] at hb
    obtain ⟨e, he, h2⟩ := hb
    simp only [Bool.and_eq_true, beq_iff_eq] at h2
    have := h.closed j o hl hj e (Array.mem_toList_iff.1 he) h2.1
    rw [h2.2, hi] at this
    cases this
theorem LInvA.then {J : (Nat → Bool) → Act → World → Prop} {Sp : Nat → World → Value → Prop} {ops : Array Oper} {a0 a : Act} {L : Nat → Bool} {w : World} (h : LInvA J Sp ops a0 L a w) {i j : Nat} {o : Oper} (hi : L i = true) (hj : ops[i]? = some o) (hb : (o.after.any fun e => Region.binds .any e && e.on == j) = true) : L j = true :=
  waits_of (h.closed i o hi hj) j hb
/-- The frame behind the region, written out. -/
theorem LInvA.lit {J : (Nat → Bool) → Act → World → Prop} {Sp : Nat → World → Value → Prop} {ops : Array Oper} {a0 a : Act} {L : Nat → Bool} {w : World} (h : LInvA J Sp ops a0 L a w) (ds : List Nat)
    (hb : (ops.all fun o => match o.dst with | some d => ds.contains d | none => true) = true) : a = ⟨ds.foldl (fun t d => t.setIfInBounds d (a.tmps.getD d undef)) a0.tmps, a0.defers⟩ := by
  obtain ⟨t, df⟩ := a
  have hd : df = a0.defers := h.defers
  subst hd
  congr 1
  apply Array.ext_getElem?
  intro k
  rw [fold_set_get]
  have hs : t.size = a0.tmps.size := h.size
  by_cases h1 : k < a0.tmps.size
  · by_cases h2 : k ∈ ds
    · rw [if_pos ⟨h2, h1⟩]
      have : k < t.size := by omega
      simp [Array.getD, this]
    · rw [if_neg (fun h => h2 h.1)]
      refine h.free k (fun i o _ hi hdst => ?_)
      rw [← Array.all_toList, List.all_eq_true] at hb
      have := hb o (Array.mem_toList_iff.2 (Array.mem_of_getElem? hi))
      rw [hdst] at this
      simp only [List.contains_iff_mem] at this
      exact h2 this
  · rw [if_neg (fun h => h1 h.2), Array.getElem?_eq_none (by omega), Array.getElem?_eq_none (by omega)]
end Go.Proofs.YtokpomdfgbbhlaaDoor

/- Loads and stores of whole structs as steps of a region that draws its order. -/
namespace Go.Proofs.YtokpomdfgbbhlaaDoor
open Go Go.RowKit

theorem step_load_row {ops : Array Oper} {o : Oper} {a : Act} {w : World} {K : Act → World → Prop} {Q : Exit → Act → World → Prop} {E : Prop} (hgd : o.guard = none) (ty : TypeId) (x : Operand) (ho : o.op = .load ty x)
    (b off : Nat) (hx : a.eval x = .pointer (some ⟨b, off, none⟩)) (cs : Array Value) (d : TypeDesc) (hu : Tryd.prog.underlying ty = some d) (hd : d.isRow = true) (n : Nat) (hi : (Tryd.prog.info? ty).map (·.size) = some n) (hn : cs.size = n)
    (hc : ∀ (j : Nat) (v : Value), cs.toList[j]? = some v → w.cell? ⟨b, off + j, none⟩ = some v) (h : K (a.put o.dst (.agg cs)) w) : if Region.wanted o (yielded ops a.tmps) = true then Oper.wp Tryd.prog o a w K Q else E := by
  have hw : Region.wanted o (yielded ops a.tmps) = true := by simp [Region.wanted, hgd]
  rw [if_pos hw]
  have hl := run_loadVar_mid (P := Tryd.prog) w b off ty cs.toList d hc hu hd (by rw [hi]; simp [hn])
  refine lw (.agg cs) ?_ h
  unfold execOp
  simp only [ho, hx, Instr.loadAt, Instr.sureAddr, Sem.run_bind, Sem.run_pure, Result.andThen_ok, hl]

theorem step_store_row {ops : Array Oper} {o : Oper} {a : Act} {w : World} {K : Act → World → Prop} {Q : Exit → Act → World → Prop} {E : Prop} (hgd : o.guard = none) (ty : TypeId) (x y : Operand) (ho : o.op = .store ty x y)
    (b : Nat) (cells : Array Value) (hx : a.eval x = .pointer (some ⟨b, 0, none⟩)) (hy : a.eval y = .agg cells) (T : TypeId) (l : List Value) (hb : Blk w b T l) (hn : l.length = cells.size) (hi : (Tryd.prog.info? ty).map (·.size) = some cells.size) (h1 : cells.all (·.oneCell') = true)
    (h : ∀ w', Fr [b] w w' → Blk w' b T cells.toList → K (a.put o.dst undef) w') : if Region.wanted o (yielded ops a.tmps) = true then Oper.wp Tryd.prog o a w K Q else E := by
  have hw : Region.wanted o (yielded ops a.tmps) = true := by simp [Region.wanted, hgd]
  rw [if_pos hw]
  obtain ⟨h2, h3⟩ := setCells_blk (b := b) (T := T) cells.toList 0 w l hb (by simp [hn])
  rw [splice_whole _ _ (by simpa using hn)] at h2
  refine wp_store_mid ty x y ho b 0 cells hx hy ?_ hi h1 (h _ h3 h2)
  intro j hj
  exact ⟨by obtain ⟨v, hv⟩ := hb.some (0 + j) (by omega); rw [hv]; rfl, hb.frozen _⟩

theorem ow_load_row {o : Oper} {a : Act} {w : World} {K : Act → World → Prop} {Q : Exit → Act → World → Prop} (ty : TypeId) (x : Operand) (ho : o.op = .load ty x)
    (b off : Nat) (hx : a.eval x = .pointer (some ⟨b, off, none⟩)) (cs : Array Value) (d : TypeDesc) (hu : Tryd.prog.underlying ty = some d) (hd : d.isRow = true) (n : Nat) (hi : (Tryd.prog.info? ty).map (·.size) = some n) (hn : cs.size = n)
    (hc : ∀ (j : Nat) (v : Value), cs.toList[j]? = some v → w.cell? ⟨b, off + j, none⟩ = some v) (h : K (a.put o.dst (.agg cs)) w) : Oper.wp Tryd.prog o a w K Q := by
  have hl := run_loadVar_mid (P := Tryd.prog) w b off ty cs.toList d hc hu hd (by rw [hi]; simp [hn])
  refine lw (.agg cs) ?_ h
  unfold execOp
  simp only [ho, hx, Instr.loadAt, Instr.sureAddr, Sem.run_bind, Sem.run_pure, Result.andThen_ok, hl]

theorem wpList_load_g {ops : Array Oper} {rest : List Oper} {op : Oper} {a : Act} {w : World} {Q : Exit → Act → World → Prop} (ty : TypeId) (x : Operand) (ho : op.op = .load ty x)
    (b off : Nat) (hx : a.eval x = .pointer (some ⟨b, off, none⟩)) (cs : Array Value) (hl : (loadVar ty ⟨b, off, none⟩).run Tryd.prog w = .ok (.agg cs) w) (hw : Region.wanted op (yielded ops a.tmps) = true) (h : wpList Tryd.prog ops Q rest (a.put op.dst (.agg cs)) w) : wpList Tryd.prog ops Q (op :: rest) a w := by
  unfold wpList
  rw [if_pos hw]
  left
  refine lw (.agg cs) ?_ h
  unfold execOp
  simp only [ho, hx, Instr.loadAt, Instr.sureAddr, Sem.run_bind, Sem.run_pure, Result.andThen_ok, hl]

theorem ow_store_row {o : Oper} {a : Act} {w : World} {K : Act → World → Prop} {Q : Exit → Act → World → Prop} (ty : TypeId) (x y : Operand) (ho : o.op = .store ty x y)
    (b : Nat) (cells : Array Value) (hx : a.eval x = .pointer (some ⟨b, 0, none⟩)) (hy : a.eval y = .agg cells) (T : TypeId) (l : List Value) (hb : Blk w b T l) (hn : l.length = cells.size) (hi : (Tryd.prog.info? ty).map (·.size) = some cells.size) (h1 : cells.all (·.oneCell') = true)
    (h : ∀ w', Fr [b] w w' → Blk w' b T cells.toList → K (a.put o.dst undef) w') : Oper.wp Tryd.prog o a w K Q := by
  obtain ⟨h2, h3⟩ := setCells_blk (b := b) (T := T) cells.toList 0 w l hb (by simp [hn])
  rw [splice_whole _ _ (by simpa using hn)] at h2
  refine wp_store_mid ty x y ho b 0 cells hx hy ?_ hi h1 (h _ h3 h2)
  intro j hj
  exact ⟨by obtain ⟨v, hv⟩ := hb.some (0 + j) (by omega); rw [hv]; rfl, hb.frozen _⟩

/-- Two rows laid anew and filled: what stands meanwhile. -/
structure TwoJ (T d1 d2 i1 i2 s1 s2 n : Nat) (wr : World) (e1 e2 : List Value) (L : Nat → Bool) (a : Act) (w : World) : Prop where
  fr : Fr [] wr w
  p1 : L i1 = true → ∃ g, a.tmps.getD d1 undef = .pointer (some ⟨g, 0, none⟩) ∧ wr.heap.size ≤ g ∧ ∃ l, l.length = n ∧ Blk w g T l ∧ (L s1 = true → l = e1)
  p2 : L i2 = true → ∃ g, a.tmps.getD d2 undef = .pointer (some ⟨g, 0, none⟩) ∧ wr.heap.size ≤ g ∧ ∃ l, l.length = n ∧ Blk w g T l ∧ (L s2 = true → l = e2)
  ne : L i1 = true → L i2 = true → a.tmps.getD d1 undef ≠ a.tmps.getD d2 undef
theorem put_getD_ne (a : Act) (d k : Nat) (v : Value) (h : d ≠ k) : (a.put (some d) v).tmps.getD k undef = a.tmps.getD k undef := by
  show (a.tmps.setIfInBounds d v).getD k undef = a.tmps.getD k undef
  rw [Array.getD_eq_getD_getElem?, Array.getD_eq_getD_getElem?, Array.getElem?_setIfInBounds_ne h]
theorem put_getD_self (a : Act) (d : Nat) (v : Value) (h : d < a.tmps.size) : (a.put (some d) v).tmps.getD d undef = v := by
  show (a.tmps.setIfInBounds d v).getD d undef = v
  simp [Array.getD, h]
section
variable {T d1 d2 i1 i2 s1 s2 n : Nat} {wr w : World} {e1 e2 : List Value} {L : Nat → Bool} {a : Act}
theorem TwoJ.keep (h : TwoJ T d1 d2 i1 i2 s1 s2 n wr e1 e2 L a w) (i d : Nat) (v : Value) (hi : i ≠ i1 ∧ i ≠ i2 ∧ i ≠ s1 ∧ i ≠ s2) (hd : d ≠ d1 ∧ d ≠ d2) : TwoJ T d1 d2 i1 i2 s1 s2 n wr e1 e2 (lSet L i) (a.put (some d) v) w where
  fr := h.fr
  p1 := by rw [lSet_ne _ _ _ (Ne.symm hi.1), lSet_ne _ _ _ (Ne.symm hi.2.2.1), put_getD_ne _ _ _ _ hd.1]; exact h.p1
  p2 := by rw [lSet_ne _ _ _ (Ne.symm hi.2.1), lSet_ne _ _ _ (Ne.symm hi.2.2.2), put_getD_ne _ _ _ _ hd.2]; exact h.p2
  ne := by rw [lSet_ne _ _ _ (Ne.symm hi.1), lSet_ne _ _ _ (Ne.symm hi.2.1), put_getD_ne _ _ _ _ hd.1, put_getD_ne _ _ _ _ hd.2]; exact h.ne
theorem TwoJ.al1 (h : TwoJ T d1 d2 i1 i2 s1 s2 n wr e1 e2 L a w) (z : Array Value) (hz : z.size = n) (hs : L s1 = false) (hd : d1 ≠ d2) (hdl : d1 < a.tmps.size) (hi : i1 ≠ i2 ∧ s1 ≠ i1 ∧ s2 ≠ i1) :
    TwoJ T d1 d2 i1 i2 s1 s2 n wr e1 e2 (lSet L i1) (a.put (some d1) (.pointer (some ⟨w.heap.size, 0, none⟩))) (w.alloc (.cells z T)) where
  fr := h.fr.alloc _
  p1 := fun _ => ⟨w.heap.size, put_getD_self _ _ _ hdl, h.fr.size, z.toList, by simpa using hz, Blk.new' _ _ _, fun hh => by rw [lSet_ne _ _ _ hi.2.1, hs] at hh; cases hh⟩
  p2 := by
    rw [lSet_ne _ _ _ (Ne.symm hi.1), lSet_ne _ _ _ hi.2.2, put_getD_ne _ _ _ _ hd]
    intro hl
    obtain ⟨g, a1, a2, l, a3, a4, a5⟩ := h.p2 hl
    exact ⟨g, a1, a2, l, a3, a4.alloc _, a5⟩
  ne := by
    rw [lSet_ne _ _ _ (Ne.symm hi.1), put_getD_ne _ _ _ _ hd, put_getD_self _ _ _ hdl]
    intro _ hl heq
    obtain ⟨g, a1, a2, l, a3, a4, a5⟩ := h.p2 hl
    rw [a1] at heq
    have := a4.lt
    injection heq with e
    injection e with e
    injection e with e
    omega
theorem TwoJ.al2 (h : TwoJ T d1 d2 i1 i2 s1 s2 n wr e1 e2 L a w) (z : Array Value) (hz : z.size = n) (hs : L s2 = false) (hd : d1 ≠ d2) (hdl : d2 < a.tmps.size) (hi : i1 ≠ i2 ∧ s1 ≠ i2 ∧ s2 ≠ i2) :
    TwoJ T d1 d2 i1 i2 s1 s2 n wr e1 e2 (lSet L i2) (a.put (some d2) (.pointer (some ⟨w.heap.size, 0, none⟩))) (w.alloc (.cells z T)) where
  fr := h.fr.alloc _
  p2 := fun _ => ⟨w.heap.size, put_getD_self _ _ _ hdl, h.fr.size, z.toList, by simpa using hz, Blk.new' _ _ _, fun hh => by rw [lSet_ne _ _ _ hi.2.2, hs] at hh; cases hh⟩
  p1 := by
    rw [lSet_ne _ _ _ hi.1, lSet_ne _ _ _ hi.2.1, put_getD_ne _ _ _ _ (Ne.symm hd)]
    intro hl
    obtain ⟨g, a1, a2, l, a3, a4, a5⟩ := h.p1 hl
    exact ⟨g, a1, a2, l, a3, a4.alloc _, a5⟩
  ne := by
    rw [lSet_ne _ _ _ hi.1, put_getD_ne _ _ _ _ (Ne.symm hd), put_getD_self _ _ _ hdl]
    intro hl _ heq
    obtain ⟨g, a1, a2, l, a3, a4, a5⟩ := h.p1 hl
    rw [a1] at heq
    have := a4.lt
    injection heq with e
    injection e with e
    injection e with e
    omega
theorem TwoJ.st1 (h : TwoJ T d1 d2 i1 i2 s1 s2 n wr e1 e2 L a w) (l1 : L i1 = true) (l2 : L i2 = true) {g : Nat} (hg : a.tmps.getD d1 undef = .pointer (some ⟨g, 0, none⟩)) {w' : World} (hf : Fr [g] w w') (hb : Blk w' g T e1) (hn : e1.length = n) (hi : i1 ≠ s1 ∧ i2 ≠ s1 ∧ s2 ≠ s1) :
    TwoJ T d1 d2 i1 i2 s1 s2 n wr e1 e2 (lSet L s1) (a.put none undef) w' := by
  obtain ⟨g1, a1, a2, _⟩ := h.p1 l1
  obtain ⟨g2, b1, b2, l, b3, b4, b5⟩ := h.p2 l2
  obtain rfl : g1 = g := by
    rw [a1] at hg
    injection hg with e
    injection e with e
    injection e
  have hne : g2 ≠ g1 := fun e => h.ne l1 l2 (by rw [a1, b1, e])
  exact {
    fr := h.fr.trans hf (fun x hx => .inr (by simp at hx; omega))
    p1 := fun _ => ⟨g1, a1, a2, e1, hn, hb, fun _ => rfl⟩
    p2 := by
      rw [lSet_ne _ _ _ hi.2.1, lSet_ne _ _ _ hi.2.2]
      exact fun _ => ⟨g2, b1, b2, l, b3, b4.fr hf (by simpa using hne), b5⟩
    ne := fun _ _ => h.ne l1 l2 }
theorem TwoJ.st2 (h : TwoJ T d1 d2 i1 i2 s1 s2 n wr e1 e2 L a w) (l1 : L i1 = true) (l2 : L i2 = true) {g : Nat} (hg : a.tmps.getD d2 undef = .pointer (some ⟨g, 0, none⟩)) {w' : World} (hf : Fr [g] w w') (hb : Blk w' g T e2) (hn : e2.length = n) (hi : i1 ≠ s2 ∧ i2 ≠ s2 ∧ s1 ≠ s2) :
    TwoJ T d1 d2 i1 i2 s1 s2 n wr e1 e2 (lSet L s2) (a.put none undef) w' := by
  obtain ⟨g1, a1, a2, _⟩ := h.p2 l2
  obtain ⟨g2, b1, b2, l, b3, b4, b5⟩ := h.p1 l1
  obtain rfl : g1 = g := by
    rw [a1] at hg
    injection hg with e
    injection e with e
    injection e
  have hne : g2 ≠ g1 := fun e => h.ne l1 l2 (by rw [a1, b1, e])
  exact {
    fr := h.fr.trans hf (fun x hx => .inr (by simp at hx; omega))
    p2 := fun _ => ⟨g1, a1, a2, e2, hn, hb, fun _ => rfl⟩
    p1 := by
      rw [lSet_ne _ _ _ hi.1, lSet_ne _ _ _ hi.2.2]
      exact fun _ => ⟨g2, b1, b2, l, b3, b4.fr hf (by simpa using hne), b5⟩
    ne := fun _ _ => h.ne l1 l2 }
end
theorem ow_alloc {o : Oper} {a : Act} {w : World} {K : Act → World → Prop} {Q : Exit → Act → World → Prop} (ty : TypeId) (ho : o.op = .alloc ty) (i : TypeInfo) (z : Value) (hi : Tryd.prog.info? ty = some i) (hz : i.zero = some z)
    (h : K (a.put o.dst (.pointer (some ⟨w.heap.size, 0, none⟩))) (w.alloc (.cells z.cells ty))) : Oper.wp Tryd.prog o a w K Q := by
  have ht : (typeInfo ty).run Tryd.prog w = .ok i w := by simp [typeInfo, hi]
  refine lw _ ?_ h
  unfold execOp
  simp [ho, Instr.alloc, zeroValue, newVar, go_sem, ht, hz]
end Go.Proofs.YtokpomdfgbbhlaaDoor

/- An array of bytes against itself. -/
namespace Go.Proofs.YtokpomdfgbbhlaaDoor
open Go Go.RowKit

theorem plain5 : Tryd.prog.plainKey 5 = true := by kernel_rfl
theorem cells5 : Tryd.prog.cellsOf 5 = 1 := by kernel_rfl
theorem run_items_u8 (w : World) (d : Nat) (xs : Array Value) (n : Nat) (hx : ∀ i, i < n → ∃ z : Int, xs[i]? = some (.int .u8 z)) : ∀ is : List Nat, (∀ i ∈ is, i < n) → (Op.eqItems (d + 1) 5 1 xs xs is).run Tryd.prog w = .ok true w
  | [], _ => rfl
  | i :: is, h => by
    obtain ⟨z, hz⟩ := hx i (h i (by simp))
    have h1 : (part 5 xs (i * 1)).run Tryd.prog w = .ok (.int .u8 z) w := run_part_plain w plain5 (by rw [Nat.mul_one]; exact hz)
    have h2 := run_equalIn_int (P := Tryd.prog) w d 5 .u8 .u8 z z Tryd.underlying5
    simp only [Op.eqItems, Sem.run_bind, h1, h2, Result.andThen_ok]
    simpa using run_items_u8 w d xs n hx is (fun j hj => h j (by simp [hj]))
theorem info5_any : ∃ i, Tryd.prog.info? 5 = some i := by
  have : (Tryd.prog.info? 5).isSome = true := by kernel_rfl
  exact Option.isSome_iff_exists.1 this
theorem run_eql_bytes (w : World) (t n : Nat) (ht : Tryd.prog.underlying t = some (.array n 5)) (xs : Array Value) (hx : ∀ i, i < n → ∃ z : Int, xs[i]? = some (.int .u8 z)) : (binOp .eql t (.agg xs) (.agg xs)).run Tryd.prog w = .ok (.bool true) w := by
  obtain ⟨i, hi⟩ := info5_any
  rw [run_eql_struct]
  rw [run_equalIn_array w 9999 xs xs ht hi, cells5, run_items_u8 w 9998 xs n hx _ (fun j hj => List.mem_range.1 hj)]
  rfl
theorem run_equalIn_bytes (w : World) (t n : Nat) (ht : Tryd.prog.underlying t = some (.array n 5)) (xs : Array Value) (hx : ∀ i, i < n → ∃ z : Int, xs[i]? = some (.int .u8 z)) : (Op.equalIn 10000 t (.agg xs) (.agg xs)).run Tryd.prog w = .ok true w := by
  obtain ⟨i, hi⟩ := info5_any
  rw [run_equalIn_array w 9999 xs xs ht hi, cells5, run_items_u8 w 9998 xs n hx _ (fun j hj => List.mem_range.1 hj)]
/-- A row that is loaded whole in a region that draws its order. -/
theorem quiet_load {C : World → Prop} {K : Act → Prop} {a : Act} {o : Oper} (ty : TypeId) (x : Operand) (ho : o.op = .load ty x) (b off : Nat) (hx : a.eval x = .pointer (some ⟨b, off, none⟩)) (cs : Array Value)
    (hl : ∀ w, C w → (loadVar ty ⟨b, off, none⟩).run Tryd.prog w = .ok (.agg cs) w) (hk : K (a.put o.dst (.agg cs))) : o.quiet Tryd.prog a C K :=
  ⟨_, fun w hw => by
    unfold Oper.quietAt execOp
    simp only [ho, hx, Instr.loadAt, Instr.sureAddr, Sem.run_bind, Sem.run_pure, Result.andThen_ok, hl w hw]
    exact ⟨rfl, rfl⟩, hk⟩
theorem run_neq_bytes (w : World) (t n : Nat) (ht : Tryd.prog.underlying t = some (.array n 5)) (xs : Array Value) (hx : ∀ i, i < n → ∃ z : Int, xs[i]? = some (.int .u8 z)) : (binOp .neq t (.agg xs) (.agg xs)).run Tryd.prog w = .ok (.bool false) w := by
  obtain ⟨i, hi⟩ := info5_any
  rw [run_neq_struct]
  rw [run_equalIn_array w 9999 xs xs ht hi, cells5, run_items_u8 w 9998 xs n hx _ (fun j hj => List.mem_range.1 hj)]
  rfl
theorem tab_u8 (n : Nat) (f : Nat → UInt8) : ∀ i, i < n → ∃ z : Int, (tab n (fun i => U8 (f i))).toArray[i]? = some (.int .u8 z) := fun i hi => ⟨_, by rw [List.getElem?_toArray]; exact tab_get _ _ _ hi⟩
end Go.Proofs.YtokpomdfgbbhlaaDoor

/- The walk of FnAlike. -/
namespace Go.Proofs.YtokpomdfgbbhlaaDoor
open Go Go.RowKit Go.Maps

/-- What the region that takes the two entries yields. -/
def alSp (bx by_ N cx cy k : Nat) (e3 e4 : List Value) : Nat → World → Value → Prop
  | 0, _, v => v = .slice (some ⟨bx, 0, none⟩) N cx
  | 1, _, v => v = I64 k
  | 2, _, v => v = .pointer (some ⟨bx, k * 27, none⟩)
  | 3, _, v => v = .agg e3.toArray
  | 4, _, v => v = .slice (some ⟨by_, 0, none⟩) N cy
  | 5, _, v => v = I64 k
  | 6, _, v => v = .pointer (some ⟨by_, k * 27, none⟩)
  | 7, _, v => v = .agg e4.toArray
  | _, _, _ => True
theorem alSp_any (bx by_ N cx cy k : Nat) (e3 e4 : List Value) (w w' : World) (j : Nat) (u : Value) (h : alSp bx by_ N cx cy k e3 e4 j w u) : alSp bx by_ N cx cy k e3 e4 j w' u := by
  unfold alSp at h ⊢
  split at h <;> exact h

set_option maxRecDepth 100000 in
set_option maxHeartbeats 8000000 in
theorem alike_any (nb no nn ncap cb co cn ccap : Nat) (num : Nat → Nat) (cl : Nat → UInt8) (na ca : Option Addr) (step other : Nat) (w : World) (hstep : step < 256) (hother : other < 256) (hnc : nn ≤ ncap ∧ ncap ≤ 9223372036854775807) (hcc : cn ≤ ccap ∧ ccap ≤ 9223372036854775807)
    (hnum : ∀ i, num i < 4294967296) (hna : 0 < nn → na = some ⟨nb, no, none⟩) (hca : 0 < cn → ca = some ⟨cb, co, none⟩) (hnums : ∀ i, i < nn → w.cell? ⟨nb, no + i, none⟩ = some (.int .u32 (num i : Nat))) (hcls : ∀ i, i < cn → w.cell? ⟨cb, co + i, none⟩ = some (U8 (cl i)))
    (hp : ∀ i, 65 ≤ i → i ≤ 90 → w.cell? ⟨2, i, none⟩ = some (.int .u8 160)) (h2w : 2 < w.heap.size) :
    Calls Tryd.prog 3 #[.slice na nn ncap, .slice ca cn ccap, .int .u8 (step : Int), .int .u8 (other : Int)] w fun e w' => e = .returned (.bool true) ∧ Fr [] w w' := by
  have HNUM := Lib.hid hnum
  have HNA := Lib.hid hna
  have HCA := Lib.hid hca
  have HNUMS := Lib.hid hnums
  have HCLS := Lib.hid hcls
  have HP := Lib.hid hp
  clear hnum hna hca hnums hcls hp
  by_cases h1 : 2147483647 < nn
  · have hd : decide ((2147483647 : Int) < (nn : Int)) = true := by simp; omega
    go_enter Tryd.func3, Tryd.ntmps3
    go_wp2_with fail
    go_ret
    exact ⟨rfl, Fr.refl _ _⟩
  have hd1 : decide ((2147483647 : Int) < (nn : Int)) = false := by simp; omega
  by_cases h2 : 2147483647 < cn
  · have hd : decide ((2147483647 : Int) < (cn : Int)) = true := by simp; omega
    go_enter Tryd.func3, Tryd.ntmps3
    go_wp2_with fail
    go_ret
    exact ⟨rfl, Fr.refl _ _⟩
  have hd2 : decide ((2147483647 : Int) < (cn : Int)) = false := by simp; omega
  by_cases h3 : 100 < nn
  · go_enter Tryd.func3, Tryd.ntmps3
    go_wp2_with fail
    refine (few_no1 _ _ nn cn _ _ _ h3).mono ?_
    rintro e w1 ⟨rfl, rfl⟩
    go_wp2_with fail
    go_ret
    exact ⟨rfl, Fr.refl _ _⟩
  by_cases h4 : 1000 < cn
  · go_enter Tryd.func3, Tryd.ntmps3
    go_wp2_with fail
    refine (few_no2 _ _ nn cn _ _ _ (by omega) h4).mono ?_
    rintro e w1 ⟨rfl, rfl⟩
    go_wp2_with fail
    go_ret
    exact ⟨rfl, Fr.refl _ _⟩
  go_enter Tryd.func3, Tryd.ntmps3
  go_wp2_with fail
  refine (few_yes _ _ nn cn _ _ _ (by omega) (by omega)).mono ?_
  rintro e w1 ⟨rfl, rfl⟩
  go_wp2_with fail
  refine (nodes_any nb no nn ncap cb co cn ccap num cl na ca w hnc (by omega) HNUM.out HNA.out HCA.out HNUMS.out HCLS.out).mono ?_
  rintro e w1 ⟨lb, N, cap, nd, dv, t, rfl, hcap1, hcap2, hf1, hN⟩
  have hn1 := hN.n1
  have hn2 := hN.n2
  have HN := Lib.hid hN
  have HF1 := Lib.hid hf1
  clear hN hf1
  go_upto_region 6 with (fail)
  have hA := write_a lb cap ⟨N, nd, false, step⟩ dv w1 (HN.out.ok _ _) (HN.out.nds _ _) ⟨hcap1, hcap2⟩ (by show step ≤ 300; omega)
  obtain ⟨A, hAe⟩ : ∃ A : Lay, A = ⟨N, nd, false, step⟩ := ⟨_, rfl⟩
  rw [← hAe] at hA
  rw [show A.ver = 3 by rw [hAe]; rfl, show A.N = N by rw [hAe], show A.step = step by rw [hAe]] at hA
  have HA := Lib.hid hA
  clear hA
  go_wp2_with fail
  refine HA.out.mono ?_
  rintro e w2 ⟨oa, FA, fatA, mfA, WA, rfl, hf2, hoa, hBA, hWA⟩
  have hN2 := HN.out.fr hf2
  have hB := write_a lb cap ⟨N, nd, true, other⟩ dv w2 (hN2.ok _ _) (hN2.nds _ _) ⟨hcap1, hcap2⟩ (by show other ≤ 300; omega)
  obtain ⟨B, hBe⟩ : ∃ B : Lay, B = ⟨N, nd, true, other⟩ := ⟨_, rfl⟩
  rw [← hBe] at hB
  rw [show B.ver = 4 by rw [hBe]; rfl, show B.N = N by rw [hBe], show B.step = other by rw [hBe]] at hB
  have HB := Lib.hid hB
  have HAF := Lib.hid (And.intro hBA hWA)
  have hlA : A.nd = nd ∧ A.N = N := by rw [hAe]; exact ⟨rfl, rfl⟩
  have hlB : B.nd = nd ∧ B.N = N := by rw [hBe]; exact ⟨rfl, rfl⟩
  have HLA := Lib.hid hlA
  have HLB := Lib.hid hlB
  have HF2 := Lib.hid (HF1.out.trans0 hf2)
  have HG2 := Lib.hid hf2
  clear hB hBA hWA hlA hlB hAe hBe HA hN2 hf2
  go_wp2_with fail
  refine HB.out.mono ?_
  rintro e w3 ⟨ob, FB, fatB, mfB, WB, rfl, hf3, hob, hBB, hWB⟩
  have HBF := Lib.hid (And.intro hBB hWB)
  have HF3 := Lib.hid (HF2.out.trans0 hf3)
  have HG3 := Lib.hid hf3
  clear hBB hWB HB
  by_cases hb1 : 131072 < A.bytes
  · have hd : (131072 : Int) < (A.bytes : Int) := by omega
    clear hf3
    go_wp2_with fail
    go_ret
    exact ⟨rfl, HF3.out⟩
  have hb1I : ¬ (131072 : Int) < (A.bytes : Int) := by omega
  by_cases hb2 : 131072 < B.bytes
  · have hd : (131072 : Int) < (B.bytes : Int) := by omega
    clear hf3
    go_wp2_with fail
    go_ret
    exact ⟨rfl, HF3.out⟩
  have hb2I : ¬ (131072 : Int) < (B.bytes : Int) := by omega
  have hN3 := HN.out.fr (HG2.out.trans0 hf3)
  have hent1 := entries_wrote hN3 A HLA.out HAF.out.2 (by omega) oa (HAF.out.1.fr0 hf3) (fun i a b => HF3.out.cell0 (HP.out i a b)) (Nat.lt_of_lt_of_le h2w HF3.out.size)
  have HE1 := Lib.hid hent1
  have HN3 := Lib.hid hN3
  have hlen : t.order.length = N := hN3.tree.len
  have HLEN := Lib.hid hlen
  clear hent1 hN3 hf3 hlen HN HAF
  go_wp2_with fail
  refine HE1.out.mono ?_
  rintro e w4 ⟨hf4, vx, rfl, hex⟩
  have hN4 := HN3.out.fr hf4
  have HF4 := Lib.hid (HF3.out.trans0 hf4)
  have hent2 := entries_wrote hN4 B HLB.out HBF.out.2 (by omega) ob (HBF.out.1.fr0 hf4) (fun i a b => HF4.out.cell0 (HP.out i a b)) (Nat.lt_of_lt_of_le h2w HF4.out.size)
  have HE2 := Lib.hid hent2
  have HN4 := Lib.hid hN4
  obtain ⟨bx, cx, pthx, rfl, hcx1, hcx2, hxc, hxt⟩ := hex
  have HXC := Lib.hid hxc
  have HXT := Lib.hid hxt
  clear hent2 hN4 hf4 HE1 HN3 HBF hxc hxt
  go_wp2_with fail
  refine HE2.out.mono ?_
  rintro e w5 ⟨hf5, vy, rfl, hey⟩
  have hN5 := HN4.out.fr hf5
  have HF5 := Lib.hid (HF4.out.trans0 hf5)
  have HG5 := Lib.hid hf5
  have HN5 := Lib.hid hN5
  obtain ⟨by_, cy, pthy, rfl, hcy1, hcy2, hyc, hyt⟩ := hey
  have HYC := Lib.hid hyc
  have HYT := Lib.hid hyt
  have hord := order_any lb N cap hn2 ⟨hcap1, hcap2⟩ nd dv t w5 hN5.row hN5.tree.fits hN5.tree.lt (by rw [hN5.tree.len]; omega)
  rw [HLEN.out] at hord
  have HO := Lib.hid hord
  clear hN5 hf5 HE2 HN4 hord hyc hyt
  go_wp2_with fail
  refine HO.out.mono ?_
  rintro e w6 ⟨v1, v2, vs, rfl, hf6, ho1, ho2, hpa⟩
  have HN6 := Lib.hid (HN5.out.fr hf6)
  have HF6 := Lib.hid (HF5.out.trans0 hf6)
  have hg46 := HG5.out.trans0 hf6
  have HXC6 := Lib.hid (fun k j u (hk : k < N) (hj : j < 27) hu => hg46.cell0 (HXC.out k j u hk hj hu))
  have HYC6 := Lib.hid (fun k j u (hk : k < N) (hj : j < 27) hu => hf6.cell0 (HYC.out k j u hk hj hu))
  have HXT6 := Lib.hid (fun i (hi : i < N) => own_fr0 (HXT.out i hi) hg46)
  have HYT6 := Lib.hid (fun i (hi : i < N) => own_fr0 (HYT.out i hi) hf6)
  obtain ⟨b1, c1, l1, rfl, _, hl1, hg1, hb1a, hb1b, _⟩ := own_blkS ho1 hn1
  obtain ⟨b2, c2, l2, rfl, _, hl2, hg2, hb2a, hb2b, _⟩ := own_blkS ho2 hn1
  have hord6 : ∀ k, k < N → w6.cell? ⟨b1, k, none⟩ = some (I64 (t.order.getD k 0)) ∧ t.order.getD k 0 < N := by
    intro k hk
    have hkl : k < t.order.length := by rw [HLEN.out]; exact hk
    have e1 : t.order.getD k 0 = t.order[k] := by rw [List.getD_eq_getElem?_getD, List.getElem?_eq_getElem hkl]; rfl
    rw [hl1.cell, hg1 k (by omega), List.getElem?_map, List.getElem?_eq_getElem hkl, e1]
    exact ⟨rfl, HN6.out.tree.lt _ (List.getElem_mem hkl)⟩
  have hpth6 : ∀ k, k < N → ∃ u, w6.cell? ⟨b2, k, none⟩ = some u ∧ TextsIs w6 w5.heap.size u ((t.pths (fun k => (nd k).name) []).getD k []) := by
    intro k hk
    have hvl : vs.length = N := by have := ho2.1; omega
    refine ⟨vs.getD k undef, ?_, hpa.2 k (by omega)⟩
    rw [hl2.cell, hg2 k (by omega), List.getD_eq_getElem?_getD, List.getElem?_eq_getElem (by omega)]
    rfl
  have HORD := Lib.hid hord6
  have HPTH := Lib.hid hpth6
  clear ho1 ho2 hpa hl1 hg1 hl2 hg2 hord6 hpth6 hf6 hg46 HXC HYC HXT HYT HN5 HF5 HF4 HG5
  go_wp2_with fail
  go_loopw [92] (fun s92 wr => ∃ k : Nat, k ≤ N ∧ s92 = .int .i64 k ∧ Fr [] w6 wr) (fun s92 _ => N - (intOf s92).toNat)
  case atStart => exact ⟨0, by omega, rfl, Fr.refl _ _⟩
  case round =>
    obtain ⟨k, hk, rfl, hf⟩ := hrel
    by_cases hlt : k < N
    · have hltI : (k : Int) < (N : Int) := by omega
      obtain ⟨q1, he⟩ := HORD.out k hlt
      obtain ⟨up, q2, hup⟩ := HPTH.out k hlt
      have hxt := own_fr0 (HXT6.out k hlt) hf
      have hyt := own_fr0 (HYT6.out k hlt) hf
      have hpt := own_fr0 hup hf
      have hxc := fun j u hj hu => hf.cell0 (HXC6.out k j u hlt hj hu)
      have hyc := fun j u hj hu => hf.cell0 (HYC6.out k j u hlt hj hu)
      have hrow := HN6.out.row.fr hf (by simp)
      have hdat := (HN6.out.dat _ he).fr hf (fun _ _ _ => by simp)
      have hemp := HN6.out.emp _ he
      replace q1 := hf.cell0 q1
      replace q2 := hf.cell0 q2
      generalize hpp : (t.pths (fun k => (nd k).name) []).getD k [] = pp at *
      generalize pthx k = px at *
      generalize pthy k = py at *
      generalize t.order.getD k 0 = e at *
      obtain ⟨ax, sx, rfl⟩ := own_slice hxt
      obtain ⟨ay, sy, rfl⟩ := own_slice hyt
      obtain ⟨au, su, rfl⟩ := own_slice hpt
      have HXT := Lib.hid hxt
      have HYT := Lib.hid hyt
      have HXC := Lib.hid hxc
      have HYC := Lib.hid hyc
      have HROW := Lib.hid hrow
      have HDAT := Lib.hid hdat
      have HEMP := Lib.hid hemp
      clear hup hxt hyt hpt hxc hyc hrow hdat hemp
      go_upto_region 17 with (fail)
      go_cut [19, 20] from 95 to 102 (fun s19 s20 w1 => ∃ g1 g2 : Nat, s19 = .pointer (some ⟨g1, 0, none⟩) ∧ s20 = .pointer (some ⟨g2, 0, none⟩) ∧ Fr [] wr w1 ∧ Blk w1 g1 40 (eCells (nd e) e (.slice ax pp.length sx)) ∧ Blk w1 g2 40 (eCells (nd e) e (.slice ay pp.length sy)) ∧ wr.heap.size ≤ g1 ∧ wr.heap.size ≤ g2)
      case first =>
        obtain ⟨i40, z40, hi40, hz40, hs40, _, hc40⟩ := info40_parts
        obtain ⟨e3, he3⟩ : ∃ l, l = eCells (nd e) e (.slice ax pp.length sx) := ⟨_, rfl⟩
        obtain ⟨e4, he4⟩ : ∃ l, l = eCells (nd e) e (.slice ay pp.length sy) := ⟨_, rfl⟩
        have l3 : e3.length = 27 := by rw [he3]; exact eCells_length _ _ _
        have l4 : e4.length = 27 := by rw [he4]; exact eCells_length _ _ _
        refine wp_region_looseA (J := TwoJ 40 19 20 8 9 10 11 27 wr e3 e4) (Sp := alSp bx by_ N cx cy k e3 e4) (by kernel_rfl) (by kernel_rfl) ?_ ?_ ?_
        · exact ⟨(Fr.refl _ _).drew, fun h => (by cases h), fun h => (by cases h), fun h => (by cases h)⟩
        · intro L a w1 i o hI hi hL hw
          have hj := hI.j
          have hsz : a.tmps.size = 252 := hI.size
          have nop : ∀ (w' : World) j u, L j = true → alSp bx by_ N cx cy k e3 e4 j w1 u → alSp bx by_ N cx cy k e3 e4 j w' u := fun _ _ _ _ h => alSp_any _ _ _ _ _ _ _ _ _ _ _ _ h
          rcases i with _ | _ | _ | _ | _ | _ | _ | _ | _ | _ | _ | _ | i
          · obtain rfl := Option.some.inj hi
            exact ow_move (.tmp 12) rfl _ (hI.outer 12 (by kernel_rfl) (.slice (some ⟨bx, 0, none⟩) N cx) rfl) ⟨_, rfl, hj.keep 0 95 _ (by decide) (by decide), nop _, rfl⟩
          · obtain rfl := Option.some.inj hi
            exact ow_move (.tmp 18) rfl _ (hI.outer 18 (by kernel_rfl) (.int .i64 k) rfl) ⟨_, rfl, hj.keep 1 96 _ (by decide) (by decide), nop _, rfl⟩
          · obtain rfl := Option.some.inj hi
            have v0 : a.tmps.getD 95 undef = .slice (some ⟨bx, 0, none⟩) N cx := hI.val 0 _ 95 (waits_of hw 0 (by kernel_rfl)) rfl rfl
            have v1 : a.tmps.getD 96 undef = I64 k := hI.val 1 _ 96 (waits_of hw 1 (by kernel_rfl)) rfl rfl
            rw [Array.getD_eq_getD_getElem?] at v0 v1
            refine lw (.pointer (some ⟨bx, k * 27, none⟩)) ?_ ⟨_, rfl, hj.keep 2 97 _ (by decide) (by decide), nop _, rfl⟩
            simp [go_sem, v0, v1, hltI]
          · obtain rfl := Option.some.inj hi
            have v2 : a.tmps.getD 97 undef = .pointer (some ⟨bx, k * 27, none⟩) := hI.val 2 _ 97 (waits_of hw 2 (by kernel_rfl)) rfl rfl
            exact ow_load_row 40 (.tmp 97) rfl bx (k * 27) v2 e3.toArray _ Tryd.underlying40 rfl 27 (by kernel_rfl) (by simpa using l3) (fun j u hju => by
              have hjl : j < 27 := by have := (List.getElem?_eq_some_iff.1 hju).1; simp at this; omega
              exact hj.fr.cell0 (HXC.out j u hjl (by rw [← he3]; simpa using hju))) ⟨_, rfl, hj.keep 3 98 _ (by decide) (by decide), nop _, rfl⟩
          · obtain rfl := Option.some.inj hi
            exact ow_move (.tmp 14) rfl _ (hI.outer 14 (by kernel_rfl) (.slice (some ⟨by_, 0, none⟩) N cy) rfl) ⟨_, rfl, hj.keep 4 99 _ (by decide) (by decide), nop _, rfl⟩
          · obtain rfl := Option.some.inj hi
            exact ow_move (.tmp 18) rfl _ (hI.outer 18 (by kernel_rfl) (.int .i64 k) rfl) ⟨_, rfl, hj.keep 5 100 _ (by decide) (by decide), nop _, rfl⟩
          · obtain rfl := Option.some.inj hi
            have v0 : a.tmps.getD 99 undef = .slice (some ⟨by_, 0, none⟩) N cy := hI.val 4 _ 99 (waits_of hw 4 (by kernel_rfl)) rfl rfl
            have v1 : a.tmps.getD 100 undef = I64 k := hI.val 5 _ 100 (waits_of hw 5 (by kernel_rfl)) rfl rfl
            rw [Array.getD_eq_getD_getElem?] at v0 v1
            refine lw (.pointer (some ⟨by_, k * 27, none⟩)) ?_ ⟨_, rfl, hj.keep 6 101 _ (by decide) (by decide), nop _, rfl⟩
            simp [go_sem, v0, v1, hltI]
          · obtain rfl := Option.some.inj hi
            have v2 : a.tmps.getD 101 undef = .pointer (some ⟨by_, k * 27, none⟩) := hI.val 6 _ 101 (waits_of hw 6 (by kernel_rfl)) rfl rfl
            exact ow_load_row 40 (.tmp 101) rfl by_ (k * 27) v2 e4.toArray _ Tryd.underlying40 rfl 27 (by kernel_rfl) (by simpa using l4) (fun j u hju => by
              have hjl : j < 27 := by have := (List.getElem?_eq_some_iff.1 hju).1; simp at this; omega
              exact hj.fr.cell0 (HYC.out j u hjl (by rw [← he4]; simpa using hju))) ⟨_, rfl, hj.keep 7 102 _ (by decide) (by decide), nop _, rfl⟩
          · obtain rfl := Option.some.inj hi
            have h10 : L 10 = false := hI.before (j := 10) hL rfl (by kernel_rfl)
            exact ow_alloc 40 rfl i40 z40 hi40 hz40 ⟨_, rfl, hj.al1 _ hc40 h10 (by decide) (by rw [hsz]; decide) (by decide), nop _, trivial⟩
          · obtain rfl := Option.some.inj hi
            have h11 : L 11 = false := hI.before (j := 11) hL rfl (by kernel_rfl)
            exact ow_alloc 40 rfl i40 z40 hi40 hz40 ⟨_, rfl, hj.al2 _ hc40 h11 (by decide) (by rw [hsz]; decide) (by decide), nop _, trivial⟩
          · obtain rfl := Option.some.inj hi
            have l8 := waits_of hw 8 (by kernel_rfl)
            have l9 := waits_of hw 9 (by kernel_rfl)
            obtain ⟨g, a1, a2, l, a3, a4, _⟩ := hj.p1 l8
            have v3 : a.tmps.getD 98 undef = .agg e3.toArray := hI.val 3 _ 98 (waits_of hw 3 (by kernel_rfl)) rfl rfl
            exact ow_store_row 40 (.tmp 19) (.tmp 98) rfl g e3.toArray a1 v3 40 l a4 (by simp [a3, l3]) (by rw [List.size_toArray, l3]; kernel_rfl) (all_oneCell_toArray (by rw [he3]; exact eCells_one _ _ _ _ _)) (fun w' hf' hb' =>
              ⟨_, rfl, hj.st1 l8 l9 a1 hf' hb' l3 (by decide), nop _, trivial⟩)
          · obtain rfl := Option.some.inj hi
            have l8 := waits_of hw 8 (by kernel_rfl)
            have l9 := waits_of hw 9 (by kernel_rfl)
            obtain ⟨g, a1, a2, l, a3, a4, _⟩ := hj.p2 l9
            have v3 : a.tmps.getD 102 undef = .agg e4.toArray := hI.val 7 _ 102 (waits_of hw 7 (by kernel_rfl)) rfl rfl
            exact ow_store_row 40 (.tmp 20) (.tmp 102) rfl g e4.toArray a1 v3 40 l a4 (by simp [a3, l4]) (by rw [List.size_toArray, l4]; kernel_rfl) (all_oneCell_toArray (by rw [he4]; exact eCells_one _ _ _ _ _)) (fun w' hf' hb' =>
              ⟨_, rfl, hj.st2 l8 l9 a1 hf' hb' l4 (by decide), nop _, trivial⟩)
          · cases hi
        · intro L a w1 hI hall
          have hj := hI.j
          obtain ⟨g1, a1, a2, l, a3, a4, a5⟩ := hj.p1 (hall 8 (by decide))
          obtain ⟨g2, b1, b2, m, b3, b4, b5⟩ := hj.p2 (hall 9 (by decide))
          obtain rfl := a5 (hall 10 (by decide))
          obtain rfl := b5 (hall 11 (by decide))
          have hlit := hI.lit [95, 96, 97, 98, 99, 100, 101, 102, 19, 20] (by kernel_rfl)
          have HD := Lib.hid (And.intro hj.fr (And.intro a4 (And.intro b4 (And.intro a2 b2))))
          rw [hlit]
          simp only [List.foldl, List.setIfInBounds_toArray, List.set_cons_succ, List.set_cons_zero, a1, b1]
          rename (∀ (a : Act) (w : World), Met _ a w → _) => hK
          refine hK _ _ ?_
          go_meet
          case rel =>
            have h := HD.out
            rw [he3, he4] at h
            exact ⟨_, _, rfl, rfl, h⟩
      case rest =>
      obtain ⟨g1, g2, rfl, rfl, hfA, hbA, hbB, hgA, hgB⟩ := hcut
      have HFA := Lib.hid hfA
      have HBA := Lib.hid hbA
      have HBB := Lib.hid hbB
      have q1' := hfA.cell0 q1
      have q2' := hfA.cell0 q2
      obtain ⟨ll, hll, hlc⟩ := HROW.out.fr hfA (by simp)
      have hcs : (ll.drop (e * 28)).take 28 = ndCells (nd e) (dv e) := by
        apply List.ext_getElem?
        intro j
        rw [List.getElem?_take]
        by_cases hj : j < 28
        · rw [if_pos hj, List.getElem?_drop]; exact hlc e he j hj
        · rw [if_neg hj, List.getElem?_eq_none (by rw [ndCells_length]; omega)]
      have hle : e * 28 + 28 ≤ ll.length := by
        have h0 := hlc e he 27 (by omega)
        rw [List.getElem?_eq_getElem (show 27 < (ndCells (nd e) (dv e)).length by rw [ndCells_length]; omega)] at h0
        have := (List.getElem?_eq_some_iff.1 h0).1
        omega
      obtain ⟨xl, hxl⟩ : ∃ x : Array Value, x = (ndCells (nd e) (dv e)).toArray := ⟨_, rfl⟩
      have hcs2 : (ll.drop (e * 28)).take 28 = xl.toList := by rw [hxl]; exact hcs
      have hxsz : xl.size = 28 := by rw [hxl]; simp [ndCells_length]
      have hxone : xl.all (·.oneCell') = true := by
        rw [hxl]
        refine all_oneCell_toArray (fun v hv => ?_)
        obtain ⟨ad, ac, hdv, _⟩ := HDAT.out
        rw [hdv] at hv
        unfold ndCells at hv
        simp only [tab, List.mem_append, List.mem_cons, List.not_mem_nil, or_false, List.mem_map] at hv
        rcases hv with ((h | ⟨i, _, rfl⟩) | ⟨i, _, rfl⟩) | h
        · rcases h with rfl | rfl | rfl | rfl | rfl | rfl <;> rfl
        · rfl
        · rfl
        · rcases h with rfl | rfl <;> rfl
      have heI : (e : Int) < (N : Int) := by omega
      have HXL := Lib.hid hxl
      have HXS := Lib.hid hxsz
      have HCS2 := Lib.hid hcs2
      have HGG := Lib.hid (And.intro hgA hgB)
      clear hfA hbA hbB hlc hcs hxl hxsz hcs2 hgA hgB
      go_upto_region 18 with (fail)
      go_cut [21] from 103 to 109 (fun s21 w1 => ∃ g3 : Nat, s21 = .pointer (some ⟨g3, 0, none⟩) ∧ Fr [] wc w1 ∧ Blk w1 g3 42 (ndCells (nd e) (dv e)) ∧ wc.heap.size ≤ g3)
      case first =>
        go_wp2_with (first | (refine wpList_load_blk rfl 42 (.tmp 108) rfl lb (e * 28) rfl 42 ll hll _ Tryd.underlying42 rfl 28 (by kernel_rfl) hle xl HCS2.out ?_) | (refine wpList_store_blk rfl 42 (.tmp 21) (.tmp 109) rfl wc.heap.size 0 xl rfl rfl 42 _ (Blk.new' wc 42 _) ?_ ?_ hxone ?_))
        · rw [HXS.out]; show 0 + 28 ≤ 28; omega
        · rw [HXS.out]; kernel_rfl
        · intro w5 hf5 hb5
          rw [splice_whole _ _ (by show (28 : Nat) = xl.toList.length; rw [Array.length_toList, HXS.out]), HXL.out] at hb5
          have HR := Lib.hid (And.intro (((Fr.refl [] wc).alloc _).trans hf5 (by simp)) hb5)
          clear hf5 hb5
          go_wp2_with fail
          go_meet
          case rel => exact ⟨_, rfl, HR.out.1, HR.out.2, Nat.le_refl _⟩
      case rest =>
      obtain ⟨g3, rfl, hfB, hbC, hgC⟩ := hcut
      have hfC : Fr [] wr wc := HFA.out.trans0 hfB
      have hbA := HBA.out.fr0 hfB
      have hbB := HBB.out.fr0 hfB
      have HFC := Lib.hid hfC
      have q2' := hfB.cell0 q2'
      have q1' := hfB.cell0 q1'
      obtain ⟨st, hst⟩ : ∃ st, st = (nd e).stream := ⟨_, rfl⟩
      have k1 : wc.cell? ⟨g3, 1, none⟩ = some (.bool st) := by rw [hst]; exact hbC.cell 1
      obtain ⟨kd, hkd⟩ : ∃ kd, kd = kindN (nd e) e := ⟨_, rfl⟩
      have HKD := Lib.hid hkd
      have HST := Lib.hid hst
      have HBA := Lib.hid hbA
      have HBB := Lib.hid hbB
      have HBC := Lib.hid hbC
      clear hkd hst hfB hfC hbA hbB hbC
      go_upto_if 114 with (fail)
      go_cut [22] from 110 to 116 (fun s22 w1 => wc = w1 ∧ s22 = .int .i64 kd)
      case first =>
        by_cases h0 : e = 0
        · have h0B : ((e : Int) == 0) = true := by simpa using h0
          have HK : kd = 5 := by rw [HKD.out]; unfold kindN; rw [if_pos h0]
          have H0 := Lib.hid h0
          clear h0
          have HK2 := Lib.hid HK
          clear HK
          go_wp2_with fail
          go_meet
          case rel => exact ⟨rfl, by rw [HK2.out]; rfl⟩
        · have h0B : ((e : Int) == 0) = false := by simpa using h0
          cases st
          · have HK2 := Lib.hid (show kd = 1 by rw [HKD.out]; unfold kindN; rw [if_neg h0, if_neg (by rw [← HST.out]; decide)])
            go_wp2_with fail
            go_meet
            case rel => exact ⟨rfl, by rw [HK2.out]; rfl⟩
          · have HK2 := Lib.hid (show kd = 2 by rw [HKD.out]; unfold kindN; rw [if_neg h0, if_pos HST.out.symm])
            go_wp2_with fail
            go_meet
            case rel => exact ⟨rfl, by rw [HK2.out]; rfl⟩
      case rest =>
      obtain ⟨rfl, rfl⟩ := hcut
      clear k1
      have hsize : (if (nd e).stream = true then ((nd e).len : Int) else 0) = ((nd e).len : Int) := by
        split
        · rfl
        · rename_i h
          rw [HEMP.out (by simpa using h)]
          rfl
      have ec : ∀ pv : Value, eCells (nd e) e pv = [.string (nd e).name, pv, .int .i64 (kd : Nat), .int .i64 ((nd e).len : Int), .int .i64 (((nd e).name.data.toList.getD 0 0).toNat : Nat)] ++ (guidA (nd e).cls).toList ++ (stateA (nd e).sts).toList ++ [.int .u64 (nd e).cr, .int .u64 (nd e).md] := by
        intro pv
        unfold eCells
        rw [hsize, ← HKD.out]
      have bA := HBA.out
      have bB := HBB.out
      have bC := HBC.out
      rw [ec] at bA bB
      obtain ⟨da, dc, hdv, hdl, hdc, _⟩ := HDAT.out
      rw [hdv] at bC
      obtain ⟨nmv, hnmv⟩ : ∃ x, x = (nd e).name := ⟨_, rfl⟩
      obtain ⟨gA, hgA⟩ : ∃ x, x = guidA (nd e).cls := ⟨_, rfl⟩
      obtain ⟨sA, hsA⟩ : ∃ x, x = stateA (nd e).sts := ⟨_, rfl⟩
      have hgsz : gA.size = 16 := by rw [hgA]; exact guidA_size _
      have hssz : sA.size = 4 := by rw [hsA]; simp [stateA]
      have a0 : wc.cell? ⟨g1, 0, none⟩ = some (.string nmv) := by rw [hnmv]; exact bA.cell 0
      have a1 : wc.cell? ⟨g1, 1, none⟩ = some (.slice ax pp.length sx) := bA.cell 1
      have a2 : wc.cell? ⟨g1, 2, none⟩ = some (.int .i64 kd) := bA.cell 2
      have a3 : wc.cell? ⟨g1, 3, none⟩ = some (.int .i64 (nd e).len) := bA.cell 3
      have a25 : wc.cell? ⟨g1, 25, none⟩ = some (.int .u64 (nd e).cr) := bA.cell 25
      have a26 : wc.cell? ⟨g1, 26, none⟩ = some (.int .u64 (nd e).md) := bA.cell 26
      have b0 : wc.cell? ⟨g2, 0, none⟩ = some (.string nmv) := by rw [hnmv]; exact bB.cell 0
      have b1' : wc.cell? ⟨g2, 1, none⟩ = some (.slice ay pp.length sy) := bB.cell 1
      have b2' : wc.cell? ⟨g2, 2, none⟩ = some (.int .i64 kd) := bB.cell 2
      have b3 : wc.cell? ⟨g2, 3, none⟩ = some (.int .i64 (nd e).len) := bB.cell 3
      have b25 : wc.cell? ⟨g2, 25, none⟩ = some (.int .u64 (nd e).cr) := bB.cell 25
      have b26 : wc.cell? ⟨g2, 26, none⟩ = some (.int .u64 (nd e).md) := bB.cell 26
      have d0 : wc.cell? ⟨g3, 0, none⟩ = some (.string nmv) := by rw [hnmv]; exact bC.cell 0
      have d2 : wc.cell? ⟨g3, 2, none⟩ = some (.slice da (nd e).len dc) := bC.cell 2
      have d26 : wc.cell? ⟨g3, 26, none⟩ = some (.int .u64 (nd e).cr) := bC.cell 26
      have d27 : wc.cell? ⟨g3, 27, none⟩ = some (.int .u64 (nd e).md) := bC.cell 27
      have mid : ∀ (b off : Nat) (T : TypeId) (l : List Value) (ty n : Nat) (cs : Array Value), Blk wc b T l → (∀ (j : Nat) (v : Value), cs.toList[j]? = some v → l[off + j]? = some v) → Tryd.prog.underlying ty = some (.array n 5) → (Tryd.prog.info? ty).map (·.size) = some cs.toList.length →
          ∀ w', Fr [] wc w' → (loadVar ty ⟨b, off, none⟩).run Tryd.prog w' = .ok (.agg cs) w' := by
        intro b off T l ty n cs hb hc hu hi w' hfm
        have := run_loadVar_mid (P := Tryd.prog) w' b off ty cs.toList _ (fun j v hj => by
          have := (hb.fr0 hfm).cell (off + j)
          rw [this]
          exact hc j v hj) hu rfl hi
        simpa using this
      have gl : ∀ (l1 l2 l3 : List Value) (cs : Array Value) (o : Nat), l1.length = o → ∀ (j : Nat) (v : Value), cs.toList[j]? = some v → (l1 ++ cs.toList ++ l2 ++ l3)[o + j]? = some v := by
        intro l1 l2 l3 cs o ho j v hj
        have hjl := (List.getElem?_eq_some_iff.1 hj).1
        rw [List.append_assoc, List.append_assoc, List.getElem?_append_right (by omega), show o + j - l1.length = j by omega, List.getElem?_append_left hjl]
        exact hj
      have HLA := Lib.hid (mid g1 5 40 _ 36 16 gA bA (by rw [hgA]; exact gl _ _ _ _ 5 rfl) Tryd.underlying36 (by rw [Array.length_toList, hgsz]; kernel_rfl))
      have HLB := Lib.hid (mid g2 5 40 _ 36 16 gA bB (by rw [hgA]; exact gl _ _ _ _ 5 rfl) Tryd.underlying36 (by rw [Array.length_toList, hgsz]; kernel_rfl))
      have HLC := Lib.hid (mid g3 6 42 _ 36 16 gA bC (by rw [hgA]; unfold ndCells guidA; exact gl _ _ _ _ 6 rfl) Tryd.underlying36 (by rw [Array.length_toList, hgsz]; kernel_rfl))
      have HSA := Lib.hid (mid g1 21 40 _ 37 4 sA bA (by rw [hsA]; have := gl ([.string (nd e).name, .slice ax pp.length sx, .int .i64 (kd : Nat), .int .i64 ((nd e).len : Int), .int .i64 (((nd e).name.data.toList.getD 0 0).toNat : Nat)] ++ (guidA (nd e).cls).toList) [.int .u64 (nd e).cr, .int .u64 (nd e).md] [] (stateA (nd e).sts) 21 (by simp [guidA]); simpa using this) Tryd.underlying37 (by rw [Array.length_toList, hssz]; kernel_rfl))
      have HSB := Lib.hid (mid g2 21 40 _ 37 4 sA bB (by rw [hsA]; have := gl ([.string (nd e).name, .slice ay pp.length sy, .int .i64 (kd : Nat), .int .i64 ((nd e).len : Int), .int .i64 (((nd e).name.data.toList.getD 0 0).toNat : Nat)] ++ (guidA (nd e).cls).toList) [.int .u64 (nd e).cr, .int .u64 (nd e).md] [] (stateA (nd e).sts) 21 (by simp [guidA]); simpa using this) Tryd.underlying37 (by rw [Array.length_toList, hssz]; kernel_rfl))
      have hq1 : ∀ w, (binOp .neq 36 (.agg gA) (.agg gA)).run Tryd.prog w = .ok (.bool false) w := fun w => run_neq_bytes w 36 16 Tryd.underlying36 gA (fun i hi => by rw [hgA]; exact tab_u8 16 _ i hi)
      have hq2 : ∀ w, (Op.equalIn 10000 36 (.agg gA) (.agg gA)).run Tryd.prog w = .ok true w := fun w => run_equalIn_bytes w 36 16 Tryd.underlying36 gA (fun i hi => by rw [hgA]; exact tab_u8 16 _ i hi)
      have hs1 : ∀ w, (binOp .neq 37 (.agg sA) (.agg sA)).run Tryd.prog w = .ok (.bool false) w := fun w => run_neq_bytes w 37 4 Tryd.underlying37 sA (fun i hi => by rw [hsA]; exact tab_u8 4 _ i hi)
      have hs2 : ∀ w, (Op.equalIn 10000 37 (.agg sA) (.agg sA)).run Tryd.prog w = .ok true w := fun w => run_equalIn_bytes w 37 4 Tryd.underlying37 sA (fun i hi => by rw [hsA]; exact tab_u8 4 _ i hi)
      generalize (nd e).cr = crv at *
      generalize (nd e).md = mdv at *
      generalize (nd e).len = lenv at *
      clear bA bB bC ec mid gl hsize hnmv hgA hsA hgsz hssz hdv
      have hq1H := Lib.hid hq1
      go_upto_region 24 with (fail)
      go_cut [171] from 117 to 171 (fun s171 w1 => s171 = .bool false ∧ Fr [] wc w1)
      case first =>
        by_cases h5 : kd = 5
        · have h5B : ((kd : Int) != 5) = false := by simp [h5]
          have H5 := Lib.hid h5
          clear h5
          refine wp_region_quiet_lit (by kernel_rfl) (by kernel_rfl) ?_
          iterate 25 (go_big_quiet_step (fail))
          go_big_quiet_want
          refine quiet_load 36 (.tmp 141) rfl g1 5 rfl gA (fun w' h' => by obtain ⟨n', rfl⟩ := h'; exact HLA.out _ ((Fr.refl _ _).drewN _)) ?_
          go_frame
          go_big_quiet_on
          go_big_quiet_step (fail)
          go_big_quiet_want
          refine quiet_load 36 (.tmp 143) rfl g3 6 rfl gA (fun w' h' => by obtain ⟨n', rfl⟩ := h'; exact HLC.out _ ((Fr.refl _ _).drewN _)) ?_
          go_frame
          go_big_quiet_on
          repeat (go_big_quiet_step (fail))
          refine wpQuiet_nil ?_
          intro _ hw'
          obtain ⟨nq, hw''⟩ := hw'
          subst hw''
          rename (∀ (a : Act) (w : World), Met _ a w → _) => hK
          refine hK _ _ ?_
          go_meet
          case rel => exact ⟨rfl, (Fr.refl _ _).drewN _⟩
        · have h5B : ((kd : Int) != 5) = true := by simp; omega
          refine wp_region_quiet_lit (by kernel_rfl) (by kernel_rfl) ?_
          iterate 25 (go_big_quiet_step (fail))
          go_big_quiet_want
          refine quiet_load 36 (.tmp 141) rfl g1 5 rfl gA (fun w' h' => by obtain ⟨n', rfl⟩ := h'; exact HLA.out _ ((Fr.refl _ _).drewN _)) ?_
          go_frame
          go_big_quiet_on
          go_big_quiet_step (fail)
          go_big_quiet_want
          refine quiet_load 36 (.tmp 143) rfl g3 6 rfl gA (fun w' h' => by obtain ⟨n', rfl⟩ := h'; exact HLC.out _ ((Fr.refl _ _).drewN _)) ?_
          go_frame
          go_big_quiet_on
          repeat (go_big_quiet_step (fail))
          refine wpQuiet_nil ?_
          intro _ hw'
          obtain ⟨nq, hw''⟩ := hw'
          subst hw''
          rename (∀ (a : Act) (w : World), Met _ a w → _) => hK
          refine hK _ _ ?_
          go_meet
          case rel => exact ⟨rfl, (Fr.refl _ _).drewN _⟩
      case rest =>
      obtain ⟨rfl, hfD⟩ := hcut
      have HFD := Lib.hid hfD
      replace a0 := hfD.cell0 a0
      replace a1 := hfD.cell0 a1
      replace a2 := hfD.cell0 a2
      replace a3 := hfD.cell0 a3
      replace a25 := hfD.cell0 a25
      replace a26 := hfD.cell0 a26
      replace b0 := hfD.cell0 b0
      replace b1' := hfD.cell0 b1'
      replace b2' := hfD.cell0 b2'
      replace b3 := hfD.cell0 b3
      replace b25 := hfD.cell0 b25
      replace b26 := hfD.cell0 b26
      clear d0 d2 d26 d27 q1' q2' hfD
      go_upto_region 26 with (fail)
      go_cut [232] from 172 to 232 (fun s232 w1 => s232 = .bool false ∧ wc = w1)
      case first =>
        by_cases h5 : kd = 5
        · have h5B : ((kd : Int) != 5) = false := by simp [h5]
          have H5 := Lib.hid h5
          clear h5
          go_wp2_with (first
            | (refine wpList_load_g 36 (.tmp 197) rfl g1 5 rfl gA (HLA.out wc HFD.out) rfl ?_)
            | (refine wpList_load_g 36 (.tmp 199) rfl g2 5 rfl gA (HLB.out wc HFD.out) rfl ?_)
            | (refine wpList_load_g 37 (.tmp 204) rfl g1 21 rfl sA (HSA.out wc HFD.out) rfl ?_)
            | (refine wpList_load_g 37 (.tmp 206) rfl g2 21 rfl sA (HSB.out wc HFD.out) rfl ?_))
          go_meet
          case rel => exact ⟨rfl, rfl⟩
        · have h5B : ((kd : Int) != 5) = true := by simp; omega
          go_wp2_with (first
            | (refine wpList_load_g 36 (.tmp 197) rfl g1 5 rfl gA (HLA.out wc HFD.out) rfl ?_)
            | (refine wpList_load_g 36 (.tmp 199) rfl g2 5 rfl gA (HLB.out wc HFD.out) rfl ?_)
            | (refine wpList_load_g 37 (.tmp 204) rfl g1 21 rfl sA (HSA.out wc HFD.out) rfl ?_)
            | (refine wpList_load_g 37 (.tmp 206) rfl g2 21 rfl sA (HSB.out wc HFD.out) rfl ?_))
          go_meet
          case rel => exact ⟨rfl, rfl⟩
      case rest =>
      obtain ⟨rfl, rfl⟩ := hcut
      clear a0 a2 a3 a25 a26 b0 b2' b3 b25 b26
      have hxt := own_fr0 HXT.out (HFC.out.trans0 HFD.out)
      have hyt := own_fr0 HYT.out (HFC.out.trans0 HFD.out)
      have HX2 := Lib.hid hxt
      have HY2 := Lib.hid hyt
      clear hxt hyt
      have HWW := Lib.hid (hf.trans0 (HFC.out.trans0 HFD.out))
      go_wp2_with fail
      go_loopw [23, 236] (fun s23 s236 wr1 => ∃ j : Nat, j ≤ pp.length ∧ s236 = .int .i64 j ∧ Fr [] wc wr1) (fun _ s236 _ => pp.length - (intOf s236).toNat)
      case atStart => exact ⟨0, by omega, rfl, Fr.refl _ _⟩
      case round =>
        obtain ⟨j, hj, rfl, hfj⟩ := hrel
        by_cases hlt2 : j < pp.length
        · obtain ⟨gx, xc, lx, hxe, _, hlx, hlxg, hxc1, hxc2, _⟩ := own_blkS HX2.out (by omega)
          obtain ⟨gy, yc, ly, hye, _, hly, hlyg, hyc1, hyc2, _⟩ := own_blkS HY2.out (by omega)
          injection hxe with hx1 hx2 hx3
          injection hye with hy1 hy2 hy3
          subst hx1 hy1
          have hjI : (j : Int) < (pp.length : Int) := by omega
          obtain ⟨sj, hsj⟩ : ∃ s, pp[j]? = some s := ⟨_, List.getElem?_eq_getElem hlt2⟩
          have m1 : wr.cell? ⟨gx, j, none⟩ = some (.string sj) := hfj.cell0 (by rw [hlx.cell, hlxg j (by omega), List.getElem?_map, hsj]; rfl)
          have m2 : wr.cell? ⟨gy, j, none⟩ = some (.string sj) := hfj.cell0 (by rw [hly.cell, hlyg j (by omega), List.getElem?_map, hsj]; rfl)
          have m3 := hfj.cell0 a1
          have m4 := hfj.cell0 b1'
          clear hlx hly hlxg hlyg hsj
          go_upto_region 31 with (fail)
          go_quiet (fail)
          go_wp2_with fail
          go_roundw
          case rel => exact ⟨j + 1, by omega, by go_num, hfj.drewN _⟩
          case measure => simp [intOf]; omega
        · obtain rfl : j = pp.length := by omega
          have HW := Lib.hid (HWW.out.trans0 hfj)
          clear a1 b1'
          go_wp2_with fail
          go_roundw
          case rel => exact ⟨k + 1, by omega, by go_num, HW.out⟩
          case measure => simp [intOf]; omega
    · obtain rfl : k = N := by omega
      have H := Lib.hid (HF6.out.trans0 hf)
      go_wp2_with fail
      go_ret
      exact ⟨rfl, H.out⟩
end Go.Proofs.YtokpomdfgbbhlaaDoor

/- FnAlike: entries are those that stand in the file, whichever size sectors have, for every numbers, bytes and steps. -/
namespace Go.Proofs.YtokpomdfgbbhlaaDoor
open Go Go.ChangeShapes Go.WideShapes Go.ChangeAt Go.RowKit Go.Clock

theorem wf_u32a {n : Int} (h : (Lit.int .u32 n).wf = true) : 0 ≤ n ∧ n ≤ 4294967295 := by simpa [Lit.wf, IntKind.min, IntKind.max, IntKind.signed, IntKind.bits] using h
theorem wf_u8a {n : Int} (h : (Lit.int .u8 n).wf = true) : 0 ≤ n ∧ n ≤ 255 := by simpa [Lit.wf, IntKind.min, IntKind.max, IntKind.signed, IntKind.bits] using h
theorem u8_cella {n : Int} (h : (Lit.int .u8 n).wf = true) : Value.int .u8 n = U8 (UInt8.ofNat n.toNat) := by
  have := wf_u8a h
  unfold U8
  congr 1
  simp
  omega

theorem alikeTs : ∀ t ∈ Tryd.f3.params.toList, Tryd.prog.readableRec t = true ∧ t < Tryd.prog.types.size := by
  have h : (Tryd.f3.params.toList.all fun t => Tryd.prog.readableRec t && decide (t < Tryd.prog.types.size)) = true := by kernel_rfl
  intro t ht
  have := List.all_eq_true.1 h t ht
  simpa using this

set_option maxRecDepth 100000 in
theorem alike_contract (H : Type) (enc : TypeId × Value → H) (W : World) (base : Nat) (args : Array Value) (ds gs : List (DataW H)) (before : List MemPlace)
    (hval : ∀ (j : Nat) t v, Tryd.f3.params[j]? = some t → args[j]? = some v → Value.okWide Tryd.prog W .any base t v)
    (hW : DataW.Whole enc Tryd.prog Tryd.f3.params.toList Rows.fnAlikeSpec.vars false W args.toList ds gs before) (hL : laidMet Tryd.prog Rows.fnAlikeRow.laid W) :
    Calls Tryd.prog 3 args W fun e W' => ∃ v, e = .returned v ∧ Rows.fnAlikeSpec.post enc Tryd.prog Tryd.f3 false true false false W args v W' ∧ W'.os = W.os := by
  have hp := props_head hL
  have h2w : 2 < W.heap.size := World.block_lt_of_cell? _ _ (hp 65 (by omega) (by omega))
  have hW' := hW
  obtain ⟨p, q, hA0, hV, rfl, hfz, hnd⟩ := hW
  have hA : DataW.TrodAll enc Tryd.prog W 0 (fun _ => true) true Tryd.f3.params.toList args.toList ds p := hA0
  rw [Tryd.params3] at hA hval
  obtain ⟨v0, vs0, d0, ds0, p0, q0, hargs, rfl, rfl, h0, r0⟩ := trodAll_cons hA
  obtain ⟨v1, vs1, d1, ds1, p1, q1, rfl, rfl, rfl, h1, r1⟩ := trodAll_cons r0
  obtain ⟨v2, vs2, d2, ds2, p2, q2, rfl, rfl, rfl, h2, r2⟩ := trodAll_cons r1
  obtain ⟨v3, vs3, d3, ds3, p3, q3, rfl, rfl, rfl, h3, r3⟩ := trodAll_cons r2
  obtain ⟨rfl, rfl, rfl⟩ := trodAll_nil r3
  obtain rfl : args = #[v0, v1, v2, v3] := by cases args; simp_all
  obtain ⟨rfl, rfl⟩ := trodVars_none hV
  obtain ⟨na, nn, ncap, nb, no, num, rfl, hnc, hna, hnums, hnw⟩ := open_sl Tryd.underlying22 Tryd.underlying63 rcells63 (hval 0 22 v0 rfl rfl) h0
  obtain ⟨ca, cn, ccap, cb, co, cl, rfl, hcc, hca, hcls, hcw⟩ := open_sl Tryd.underlying23 Tryd.underlying5 rcells5 (hval 1 23 v1 rfl rfl) h1
  obtain ⟨s1, rfl, rfl, rfl, ws1⟩ := open_int Tryd.underlying5 (hval 2 5 v2 rfl rfl) h2
  obtain ⟨s2, rfl, rfl, rfl, ws2⟩ := open_int Tryd.underlying5 (hval 3 5 v3 rfl rfl) h3
  clear hA0 hval
  simp only [List.append_nil] at hW'
  obtain ⟨aN, rfl⟩ := Int.eq_ofNat_of_zero_le (wf_u8a ws1).1
  obtain ⟨bN, rfl⟩ := Int.eq_ofNat_of_zero_le (wf_u8a ws2).1
  have ha := (wf_u8a ws1).2
  have hb := (wf_u8a ws2).2
  refine (alike_any nb no nn ncap cb co cn ccap (fun i => (num i).toNat) (fun i => UInt8.ofNat (cl i).toNat) na ca aN bN W (by omega) (by omega) hnc hcc
    (fun i => by have := wf_u32a (hnw i); omega) hna hca (fun i hi => by rw [hnums i hi]; have := wf_u32a (hnw i); congr 2; omega) (fun i hi => by rw [hcls i hi, u8_cella (hcw i)]) hp h2w).mono ?_
  rintro e W' ⟨rfl, hf⟩
  exact ⟨_, rfl, post_law rfl (by kernel_rfl) alikeTs rfl hW' hf.below, hf.os⟩

noncomputable def alikeWorld (os : Os) : World := World.laidAll Tryd.prog os Rows.fnAlikeRow.laid
def alikeArgs : Array Value := #[.slice none 0 0, .slice none 0 0, .int .u8 0, .int .u8 0]
theorem alike_met (os : Os) : laidMet Tryd.prog Rows.fnAlikeRow.laid ((alikeWorld os).forCall (fun _ _ => 0) ⟨#[], alikeArgs, []⟩).memory :=
  laidMet_laidAll _ (by kernel_rfl) (by kernel_rfl)
theorem alike_reads (os : Os) {H : Type} (enc : TypeId × Value → H) : ∃ places, DataW.whole enc Tryd.prog ((alikeWorld os).forCall (fun _ _ => 0) ⟨#[], alikeArgs, []⟩).memory Tryd.f3.params.toList Rows.fnAlikeSpec.vars false alikeArgs.toList 8 =
    some ([.nil, .nil, .lit (.int .u8 0), .lit (.int .u8 0)], [], places) :=
  ⟨[], by kernel_rfl⟩

set_option maxRecDepth 100000 in
theorem alike_lifted (os : Os) (started : os.Started) (H : Type) (enc : TypeId × Value → H) (F : Stop.Interp) :
    ReturnsInHanded {} Tryd.checked os 3 .any ((OpenSpec.ofChange Rows.fnAlikeSpec).preRow enc Tryd.prog Tryd.f3 Rows.fnAlikeRow.domain false Rows.fnAlikeRow.laid) (((OpenSpec.ofChange Rows.fnAlikeSpec).at F).post enc Tryd.prog Tryd.f3 false true false false) := by
  obtain ⟨places, hx⟩ := alike_reads os enc
  refine returnsInHanded_of_row (C := Tryd.checked) (s := OpenSpec.ofChange Rows.fnAlikeSpec) own started (by kernel_rfl) Tryd.func3
    (witness_row_at (enc := enc) (C := Tryd.checked) false (alikeWorld os) alikeArgs rfl (by kernel_rfl) (by kernel_rfl) (by kernel_rfl)
      (OpenSpec.preRow_of_cond 8 hx (by kernel_rfl) (fun k hk => by cases hk) (by kernel_rfl) (alike_met os))) ?_
  intro W base args ds gs before hval hW _ _ _ hL _ _
  refine (alike_contract H enc W base args ds gs before hval hW hL).mono ?_
  rintro e W' ⟨v, he, hpost, _⟩
  exact ⟨v, he, hpost⟩

set_option maxRecDepth 100000 in
theorem alike_lifted2 (os : Os) (started : os.Started) (H : Type) (enc : TypeId × Value → H) (F : Stop.Interp) :
    ReturnsInHanded { calm := true } Tryd.checked os 3 .any (fun w args => (Rows.fnAlikeSpec.pre enc Tryd.prog Tryd.f3 [] false w args ∧ laidMetH Tryd.prog Rows.fnAlikeRow.laid w) ∧ sizedMet enc Tryd.prog Tryd.f3 (OpenSpec.ofChange Rows.fnAlikeSpec) false w args)
      ((OpenSpec.ofChange Rows.fnAlikeSpec).postWith enc Tryd.prog Tryd.f3 F (outsideKept [.timePasses]) false true false) := by
  refine returns_of_change (C := Tryd.checked) (X := fun w _ => laidMetH Tryd.prog Rows.fnAlikeRow.laid w) (fun _ _ _ hh h => h.of_heap hh) own started (by kernel_rfl) Tryd.func3
    (witness_at (enc := enc) (C := Tryd.checked) (X := fun w _ => laidMetH Tryd.prog Rows.fnAlikeRow.laid w) (World.laidAll Tryd.prog os Rows.fnAlikeRow.laid) alikeArgs 8 (World.laidAll_os _ _ _) (World.shaped_of_ZipB (by kernel_rfl) (by kernel_rfl)) (by kernel_rfl) (by kernel_rfl) (by kernel_rfl)
      (by rw [MakeChecks.laidMetH_plain _ _ _ (by kernel_rfl)]; exact laidMet_laidAll _ (by kernel_rfl) (by kernel_rfl))) ?_
  intro W base args ds gs before hval hW _ _ hL _
  rw [MakeChecks.laidMetH_plain _ _ _ (by kernel_rfl)] at hL
  refine (alike_contract H enc W base args ds gs before hval hW hL).mono ?_
  rintro e W' ⟨v, he, hpost, ho⟩
  have hos : { W' with os := W.os } = W' := by rw [← ho]
  refine ⟨v, he, ?_, by rw [ho]; exact Later.refl _⟩
  rw [hos]
  exact hpost

theorem alike_said : Rows.FnAlikeSaid := by
  first
    | exact OpenClaim.holds_of_cond 3 Tryd.f3 rfl rfl rfl rfl rfl rfl rfl ⟨rfl, rfl, rfl, rfl, rfl⟩ rfl rfl rfl rfl rfl (by kernel_rfl) Tryd.func3 (by kernel_rfl)
        (of_decide_eq_true (by kernel_rfl)) (by unfold Func.isWrapper; first | (rw [if_pos (by decide +kernel)]; kernel_rfl) | (rw [if_neg (by decide +kernel)]; exact ⟨rfl, rfl⟩))
        (fun os started H enc _ F => by rw [OpenClaim.pre_eq_preRow]; exact alike_lifted os started H enc F)
    | exact holds_of_wide_time 3 Tryd.f3 rfl rfl rfl rfl rfl rfl rfl ⟨rfl, rfl, rfl, rfl, rfl⟩ rfl rfl rfl rfl rfl (by kernel_rfl) Tryd.func3 (by kernel_rfl)
        (of_decide_eq_true (by kernel_rfl)) (by unfold Func.isWrapper; first | (rw [if_pos (by decide +kernel)]; kernel_rfl) | (rw [if_neg (by decide +kernel)]; exact ⟨rfl, rfl⟩))
        (fun os started H enc _ F => alike_lifted2 os started H enc F)

theorem alike_plain (f : FuncId) (fn : Func) (hf : Tryd.pinned.checked.prog.funcNamed "loop.example/pub-g03458/laws.FnAlike" = some f) (hfn : Tryd.pinned.checked.prog.funcs[f]? = some fn) :
    true = Tryd.pinned.checked.prog.looks [] ∧ ∀ (j : Nat) t, fn.params[j]? = some t → Tryd.pinned.checked.prog.wantsStandIn t = false := by
  obtain rfl : f = 3 := Option.some.inj ((show Tryd.prog.funcNamed "loop.example/pub-g03458/laws.FnAlike" = some 3 by kernel_rfl).symm.trans hf) |>.symm
  obtain rfl : fn = Tryd.f3 := (Option.some.inj (Tryd.func3.symm.trans hfn)).symm
  refine ⟨by kernel_rfl, fun j t ht => ?_⟩
  have h : (Tryd.f3.params.toList.all fun t => !Tryd.prog.wantsStandIn t) = true := by kernel_rfl
  have := List.all_eq_true.1 h t (by simpa using Array.mem_of_getElem? ht)
  exact (show Tryd.prog.wantsStandIn t = false by simpa using this)

theorem alike_card : Rows.FnAlikeCardSaid :=
  Claim7.holds_tied_plain_at .later [] _ _ _ _ alike_said (fun _ h => by cases h) (by kernel_rfl) (fun _ h => by cases h) fnAlike_row_tie rfl ⟨rfl, rfl⟩ (by kernel_rfl) rfl alike_plain (by kernel_rfl)
end Go.Proofs.YtokpomdfgbbhlaaDoor
#print axioms Go.Proofs.YtokpomdfgbbhlaaDoor.alike_card

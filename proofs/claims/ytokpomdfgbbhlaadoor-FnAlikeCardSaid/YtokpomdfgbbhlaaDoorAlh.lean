/- FnAlike: entries are those that stand in the file, whichever size sectors have (part 8 of 12). No condition but the statement's own. -/
import Derived.Deep.CutBlock
import Derived.Laws.Cover4
import Derived.Test.YtokpomdfgbbhlaaDoorAlg
set_option linter.all false
set_option linter.unusedVariables false
set_option linter.unusedSimpArgs false
set_option linter.unnecessarySimpa false
/- Single operations, over a frame that is a variable. -/
namespace Go.Proofs.YtokpomdfgbbhlaaDoor
open Go Go.RowKit

section
variable {o : Oper} {a : Act} {w w' : World} {K : Act → World → Prop} {Q : Exit → Act → World → Prop}
theorem lw (v : Value) (hr : (execOp a.eval o).run Tryd.prog w = .ok (.value v) w') (hK : K (a.put o.dst v) w') : o.wp Tryd.prog a w K Q := by
  unfold Oper.wp
  rw [hr]
  exact hK
theorem lw_skip (hr : (execOp a.eval o).run Tryd.prog w = .ok .skip w') (hK : K (a.put o.dst undef) w') : o.wp Tryd.prog a w K Q := by
  unfold Oper.wp
  rw [hr]
  exact hK
theorem eval_at (d : Nat) (v : Value) (h : a.tmps.getD d undef = v) : a.eval (.tmp d) = v := h
theorem ow_move (x : Operand) (ho : o.op = .move x) (v : Value) (hv : a.eval x = v) (hK : K (a.put o.dst v) w) : o.wp Tryd.prog a w K Q := by
  refine lw v ?_ hK
  unfold execOp
  simp only [ho, hv, Sem.run_pure]
theorem ow_assign (x : Operand) (ho : o.op = .assign x) (v : Value) (hv : a.eval x = v) (hK : K (a.put o.dst v) w) : o.wp Tryd.prog a w K Q := by
  refine lw v ?_ hK
  unfold execOp
  simp only [ho, hv, Sem.run_pure]
theorem ow_load (ty : TypeId) (x : Operand) (ho : o.op = .load ty x) (b i : Nat) (hx : a.eval x = .pointer (some ⟨b, i, none⟩)) (d : TypeDesc) (hu : Tryd.prog.underlying ty = some d) (hd : d.isRow = false) (v : Value) (hc : w.cell? ⟨b, i, none⟩ = some v)
    (hl : (loadVar ty ⟨b, i, none⟩).run Tryd.prog w = .ok v w) (hK : K (a.put o.dst v) w) : o.wp Tryd.prog a w K Q := by
  refine lw v ?_ hK
  unfold execOp
  simp only [ho, hx, Instr.loadAt, Instr.sureAddr, Sem.run_bind, Sem.run_pure, Result.andThen_ok, hl]
theorem ow_build1 (hg : True) (t e : TypeId) (x : Operand) (ho : o.op = .buildSlice t 1 #[(0, x)]) (v : Value) (hx : a.eval x = v) (hv : v.cells = #[v]) (ht : Tryd.prog.underlying t = some (.slice e)) (hi : (Tryd.prog.info? e).map (fun i => (i.zero.isSome, i.size)) = some (true, 1))
    (hK : K (a.put o.dst (.slice (some ⟨w.heap.size, 0, none⟩) 1 1)) (w.alloc (.cells #[v] e))) : o.wp Tryd.prog a w K Q := by
  cases hie : Tryd.prog.info? e with
  | none => rw [hie] at hi; simp at hi
  | some i =>
    rw [hie] at hi
    simp only [Option.map_some, Option.some.injEq, Prod.mk.injEq] at hi
    obtain ⟨z, hz⟩ := Option.isSome_iff_exists.1 hi.1
    refine wp_buildSlice t e 1 #[(0, x)] ho #[v] i z ht hie hz (by rw [hi.2]; omega) (by rw [hi.2]; omega) ?_ hK
    obtain ⟨r, hr, hrs, hrk⟩ := Great.fill_dense (s := 1) (by omega) [v] 0 ((Array.range (1 * 1)).map (z.cells[· % z.cells.size]!)) (fun u hu => by simp at hu; subst hu; rw [hv]; rfl) (by simp)
    have e1 : (#[(0, x)].map fun (p : Nat × Operand) => (p.1, a.eval p.2)).toList = ([v].zipIdx 0).map fun x => (x.2, x.1) := by simp [hx]
    have e2 : r = #[v] := by
      apply Array.ext_getElem?
      intro k
      rw [hrk k]
      by_cases hk : k < 1
      · obtain rfl : k = 0 := by omega
        simp [hv]
      · rw [if_neg (by simp; omega), Array.getElem?_eq_none (by simp; omega), Array.getElem?_eq_none (by simp; omega)]
    rw [hi.2]
    rw [e2] at hr
    exact (congrArg _ e1).trans hr
theorem ow_app (s x : Operand) (t : TypeId) (ho : o.op = .call { callee := .builtin .append, args := #[s, x], argTypes := #[t, t] }) (e : TypeId) (i : TypeInfo) (z : Value) (size bytes : Nat) (ht : Tryd.prog.underlying t = some (.slice e))
    (hi : Tryd.prog.info? e = some i) (hz : i.zero = some z) (hsize : i.size = size) (hby : i.bytes = bytes) (hzs : z.cells.size = size) (hsz : 0 < size)
    (base : Nat) (v : Value) (n : Nat) (xs : List Value) (hs : a.eval s = v) (hown : w.ownsRow base e size v n xs) (ad : Addr) (m c : Nat) (news : List Value) (hx : a.eval x = .slice (some ad) m c) (hl : news.length = m * size)
    (hnews : ∀ j u, news[j]? = some u → w.cell? (ad.add j) = some u) (h1 : ∀ u ∈ news, u.oneCell' = true) (h63 : n + m ≤ maxLen) (hbt : (n + m) * bytes ≤ 140737488355328) (hb : base ≤ w.heap.size)
    (h : ∀ v' w', w'.ownsRow base e size v' (n + m) (xs ++ news) → Fr v.ownBlock.toList w w' → K (a.put o.dst v') w') : o.wp Tryd.prog a w K Q := by
  obtain ⟨v', w', hr, h2, h3, _⟩ := run_append_own (P := Tryd.prog) w base t o.type e i z size bytes ht hi hz hsize hby hzs hsz v n xs hown ad m c news hl hnews h1 h63 hbt hb
  unfold Oper.wp
  simp only [execOp, ho, resolve, invoke, builtin, Sem.run_bind, Sem.run_pure, Result.andThen_ok, List.map_toArray, List.map_cons, List.map_nil, hs, hx, hr]
  exact h v' w' h2 (Fr.of_grown h3)
theorem ow_store (ty : TypeId) (x y : Operand) (ho : o.op = .store ty x y) (b : Nat) (v : Value) (hx : a.eval x = .pointer (some ⟨b, 0, none⟩)) (hy : a.eval y = v) (hv : v.cells = #[v]) (h1 : v.oneCell' = true) (T : TypeId) (old : Value) (hb : Blk w b T [old]) (hi : (Tryd.prog.info? ty).map (·.size) = some 1)
    (hK : K (a.put o.dst undef) (w.setRow b #[v])) : o.wp Tryd.prog a w K Q := by
  unfold Oper.wp execOp
  have h := run_storeVar_one (P := Tryd.prog) w b T ty old v hb hi h1
  simp only [ho, hx, hy, Instr.storeAt, Instr.sureAddr, Sem.run_bind, Sem.run_pure, Result.andThen_ok, h]
  exact hK
end
/-- Nobody in the region writes this slot. -/
def noDstB (ops : Array Oper) (d : Nat) : Bool := ops.all (fun o => o.dst != some d)
theorem LInv.outer {J : (Nat → Bool) → World → Prop} {Sp : Nat → World → Value → Prop} {ops : Array Oper} {a0 a : Act} {L : Nat → Bool} {w : World} (h : LInv J Sp ops a0 L a w) (d : Nat) (hb : noDstB ops d = true) (v : Value) (hv : a0.tmps[d]? = some v) : a.tmps.getD d undef = v := by
  have h1 := h.free d (fun i o _ hi hd => by
    unfold noDstB at hb
    rw [← Array.all_toList, List.all_eq_true] at hb
    have := hb o (Array.mem_toList_iff.2 (Array.mem_of_getElem? hi))
    rw [hd] at this
    simp at this)
  rw [Array.getD_eq_getD_getElem?, h1, hv]
  rfl
theorem LInv.before {J : (Nat → Bool) → World → Prop} {Sp : Nat → World → Value → Prop} {ops : Array Oper} {a0 a : Act} {L : Nat → Bool} {w : World} (h : LInv J Sp ops a0 L a w) {i j : Nat} {o : Oper} (hi : L i = false) (hj : ops[j]? = some o) (hb : (o.after.any fun e => Region.binds .any e && e.on == i) = true) : L j = false := by
  rcases hl : L j with _ | _
  · rfl
  · exfalso
    rw [← Array.any_toList, List.any_eq_true] at hb
    obtain ⟨e, he, h2⟩ := hb
    simp only [Bool.and_eq_true, beq_iff_eq] at h2
    have := h.closed j o hl hj e (Array.mem_toList_iff.1 he) h2.1
    rw [h2.2, hi] at this
    cases this
theorem waits_of {o : Oper} {L : Nat → Bool} (hw : ∀ e ∈ o.after, Region.binds .any e = true → L e.on = true) (j : Nat) (hb : (o.after.any fun e => Region.binds .any e && e.on == j) = true) : L j = true := by
  rw [← Array.any_toList, List.any_eq_true] at hb
  obtain ⟨e, he, h2⟩ := hb
  simp only [Bool.and_eq_true, beq_iff_eq] at h2
  rw [← h2.2]
  exact hw e (Array.mem_toList_iff.1 he) h2.1
theorem LInv.then {J : (Nat → Bool) → World → Prop} {Sp : Nat → World → Value → Prop} {ops : Array Oper} {a0 a : Act} {L : Nat → Bool} {w : World} (h : LInv J Sp ops a0 L a w) {i j : Nat} {o : Oper} (hi : L i = true) (hj : ops[i]? = some o) (hb : (o.after.any fun e => Region.binds .any e && e.on == j) = true) : L j = true :=
  waits_of (h.closed i o hi hj) j hb
theorem fold_set_get (f : Nat → Value) : ∀ (ds : List Nat) (t : Array Value) (k : Nat), (ds.foldl (fun t d => t.setIfInBounds d (f d)) t)[k]? = if k ∈ ds ∧ k < t.size then some (f k) else t[k]?
  | [], t, k => by simp
  | d :: ds, t, k => by
    rw [List.foldl_cons, fold_set_get f ds, Array.size_setIfInBounds]
    by_cases h1 : k < t.size
    · by_cases h2 : k ∈ ds
      · rw [if_pos ⟨h2, h1⟩, if_pos ⟨List.mem_cons_of_mem _ h2, h1⟩]
      · rw [if_neg (fun h => h2 h.1)]
        by_cases h3 : d = k
        · subst h3
          rw [if_pos ⟨List.mem_cons_self, h1⟩]
          simp [h1]
        · rw [Array.getElem?_setIfInBounds_ne h3, if_neg]
          rintro ⟨h, _⟩
          rcases List.mem_cons.1 h with h | h
          · exact h3 h.symm
          · exact h2 h
    · rw [if_neg (fun h => h1 h.2), if_neg (fun h => h1 h.2), Array.getElem?_eq_none (by simp; omega), Array.getElem?_eq_none (by omega)]
/-- The frame behind the region, written out. -/
theorem LInv.lit {J : (Nat → Bool) → World → Prop} {Sp : Nat → World → Value → Prop} {ops : Array Oper} {a0 a : Act} {L : Nat → Bool} {w : World} (h : LInv J Sp ops a0 L a w) (ds : List Nat)
    (hb : (ops.all fun o => match o.dst with | some d => ds.contains d | none => true) = true) : a = ⟨ds.foldl (fun t d => t.setIfInBounds d (a.tmps.getD d undef)) a0.tmps, a0.defers⟩ := by
  obtain ⟨t, df⟩ := a
  have hd : df = a0.defers := h.defers
  subst hd
  congr 1
  apply Array.ext_getElem?
  intro k
  rw [fold_set_get]
  have hs : t.size = a0.tmps.size := h.size
  by_cases h1 : k < a0.tmps.size
  · by_cases h2 : k ∈ ds
    · rw [if_pos ⟨h2, h1⟩]
      have : k < t.size := by omega
      simp [Array.getD, this]
    · rw [if_neg (fun h => h2 h.1)]
      refine h.free k (fun i o _ hi hdst => ?_)
      rw [← Array.all_toList, List.all_eq_true] at hb
      have := hb o (Array.mem_toList_iff.2 (Array.mem_of_getElem? hi))
      rw [hdst] at this
      simp only [List.contains_iff_mem] at this
      exact h2 this
  · rw [if_neg (fun h => h1 h.2), Array.getElem?_eq_none (by omega), Array.getElem?_eq_none (by omega)]
theorem setRow_blk {w : World} {b : Nat} {T : TypeId} {old v : Value} (h : Blk w b T [old]) : Blk (w.setRow b #[v]) b T [v] := by
  have := setRow_heap w b _ #[v] T _ h
  simpa [Blk] using this
theorem setRow_fr (w : World) (b : Nat) (c : Array Value) : Fr [b] w (w.setRow b c) := ⟨rfl, rfl, rfl, by simp [World.setRow], fun k _ hk => setRow_other w b k _ (by simpa using hk)⟩
end Go.Proofs.YtokpomdfgbbhlaaDoor

/- The contracts of unicode.IsPrint at a capital letter and of utf16.Decode at units below 128. -/
namespace Go.Proofs.YtokpomdfgbbhlaaDoor
open Go Go.RowKit

set_option maxRecDepth 100000 in
set_option maxHeartbeats 400000 in
theorem isPrint_any (r : Nat) (w : World) (h1 : 65 ≤ r) (h2 : r ≤ 90) (hp : w.cell? ⟨2, r, none⟩ = some (.int .u8 160)) :
    Calls Tryd.prog 71 #[.int .i32 r] w fun e w' => e = .returned (.bool true) ∧ w = w' := by
  go_enter Tryd.func71, Tryd.ntmps71
  go_wp2_with fail
  go_ret
  exact ⟨rfl, rfl⟩

set_option maxRecDepth 100000 in
set_option maxHeartbeats 1000000 in
theorem decode_any (sb so len scap nb : Nat) (c : Nat → Nat) (l : List Value) (w : World) (hc : ∀ i, i < len → w.cell? ⟨sb, so + i, none⟩ = some (.int .u16 (c i))) (hlow : ∀ i, c i < 128)
    (hlen : len ≤ 64) (hb : Blk w nb 21 l) (hl : l.length = 64) (hne : sb ≠ nb) :
    Calls Tryd.prog 74 #[.slice (some ⟨sb, so, none⟩) len scap, .slice (some ⟨nb, 0, none⟩) 0 64] w fun e w' =>
      e = .returned (.slice (some ⟨nb, 0, none⟩) len 64) ∧ Fr [nb] w w' ∧ ∃ l', Blk w' nb 21 l' ∧ l'.length = 64 ∧ ∀ i, i < len → l'[i]? = some (.int .i32 (c i)) := by
  go_enter Tryd.func74, Tryd.ntmps74
  go_wp2_with fail
  go_loopw [5, 1] (fun s5 s1 wr => ∃ k : Nat, k ≤ len ∧ s5 = .int .i64 k ∧ s1 = .slice (some ⟨nb, 0, none⟩) k 64 ∧ Fr [nb] w wr ∧ ∃ l', Blk wr nb 21 l' ∧ l'.length = 64 ∧ ∀ i, i < k → l'[i]? = some (.int .i32 (c i))) (fun s5 _ _ => len - (intOf s5).toNat)
  case atStart => exact ⟨0, by omega, rfl, rfl, Fr.refl _ _, l, hb, hl, fun i hi => by omega⟩
  case round =>
    obtain ⟨k, hk, rfl, rfl, hf, l', hb', hl', hd⟩ := hrel
    have hD := Lib.hid hd
    clear hd
    by_cases hlt : k < len
    · have hkI : (k : Int) < (len : Int) := by omega
      have hck : ∀ _ : k < len, wr.cell? ⟨sb, so + k, none⟩ = some (.int .u16 (c k)) := fun _ => hf.cell (by simpa using hne) (hc k hlt)
      have hck' := hck hlt
      have hlk := hlow k
      have hI : (c k : Int) < 55296 := by omega
      go_wp2_with (at_builtin; refine wpList_append_room_blk rfl (.tmp 66) (.tmp 68) 165 rfl 21 Tryd.underlying165 1 (by kernel_rfl) nb k 64 l' rfl (hb'.alloc _) ⟨wr.heap.size, 0, none⟩ 1 1 [.int .i32 (c k)] rfl rfl ?_ ?_ ?_ ?_ ?_)
      · exact cell_one_new _ _ _
      · simp [Value.oneCell']
      · omega
      · simp; omega
      · intro w1 hf1 hb1
        have hD1 : ∀ i, i < k + 1 → (splice l' k [.int .i32 (c k)])[i]? = some (.int .i32 (c i)) := by
          intro i hi
          rw [splice_get _ _ _ (by simp; omega)]
          by_cases hik : i = k
          · subst hik; rw [if_pos (by simp)]; simp
          · rw [if_neg (by simp; omega)]; exact hD.out i (by omega)
        have hl1 : (splice l' k [Value.int .i32 (c k)]).length = 64 := by rw [length_splice _ _ _ (by simp; omega)]; exact hl'
        have hf2 : Fr [nb] w w1 := (hf.alloc _).trans_same hf1
        have HD1 := Lib.hid hD1
        clear hD1 hf1 hc hck hck'
        go_wp2_with fail
        go_roundw
        case rel => exact ⟨k + 1, by omega, by go_num, rfl, hf2, _, hb1, hl1, HD1.out⟩
        case measure => simp [intOf]; omega
    · obtain rfl : k = len := by omega
      go_wp2_with fail
      go_ret
      exact ⟨rfl, hf, l', hb', hl', hD.out⟩

theorem make64 (w : World) : (Instr.makeSlice 165 (.int .i64 0) (.int .i64 64)).run Tryd.prog w = .ok (.slice (some ⟨w.heap.size, 0, none⟩) 0 64) (w.alloc (.cells (List.replicate 64 (.int .i32 0)).toArray 21)) := by kernel_rfl

set_option maxRecDepth 100000 in
set_option maxHeartbeats 1000000 in
theorem utf16Decode_any (sb so len scap : Nat) (c : Nat → Nat) (w : World) (hc : ∀ i, i < len → w.cell? ⟨sb, so + i, none⟩ = some (.int .u16 (c i))) (hlow : ∀ i, c i < 128)
    (hlen : len ≤ 64) (hsb : sb < w.heap.size) :
    Calls Tryd.prog 72 #[.slice (some ⟨sb, so, none⟩) len scap] w fun e w' =>
      e = .returned (.slice (some ⟨w.heap.size, 0, none⟩) len 64) ∧ Fr [] w w' ∧ ∃ l', Blk w' w.heap.size 21 l' ∧ l'.length = 64 ∧ ∀ i, i < len → l'[i]? = some (.int .i32 (c i)) := by
  have hmk := make64
  go_enter Tryd.func72, Tryd.ntmps72
  go_wp2_with fail
  refine (decode_any sb so len scap w.heap.size c (List.replicate 64 (.int .i32 0)) _ ?_ hlow hlen (Blk.new' _ _ _) (by simp) (by omega)).mono ?_
  · exact fun i hi => ((Fr.refl [] w).alloc _).cell0 (hc i hi)
  rintro e w1 ⟨rfl, hf, hl⟩
  go_wp2_with fail
  go_ret
  exact ⟨rfl, ((Fr.refl [] w).alloc _).trans hf (by simp), hl⟩
end Go.Proofs.YtokpomdfgbbhlaaDoor

/- The contracts of the leaves: encoding/binary's three readers, fileOffset. Conditions: the bytes lie in the slice. -/
namespace Go.Proofs.YtokpomdfgbbhlaaDoor
open Go Go.RowKit

set_option maxHeartbeats 400000 in
theorem fileOffset_any (ss sn A : Nat) (hA : (sn + 1) * ss = A) (w : World) (h1 : ss ≤ 65536) (h3 : sn ≤ 65536) :
    Calls Tryd.prog 58 #[.int .u32 ss, .int .u32 sn] w fun e w' => e = .returned (.int .i64 A) ∧ w = w' := by
  have hb2 : (sn + 1) * ss ≤ 65537 * 65536 := Nat.mul_le_mul (by omega) h1
  have e : ((sn : Int) + 1) * (ss : Int) = (A : Nat) := by rw [← hA]; push_cast; rfl
  have hb : 0 ≤ ((sn : Int) + 1) * (ss : Int) ∧ ((sn : Int) + 1) * (ss : Int) ≤ 65537 * 65536 := by rw [e]; omega
  obtain ⟨hb0, hb1⟩ := hb
  have E := Lib.hid e
  clear e hb2 hA
  go_enter Tryd.func58, Tryd.ntmps58
  go_wp2
  go_ret
  exact ⟨by rw [← E.out]; rfl, rfl⟩

set_option maxHeartbeats 400000 in
theorem uint32_any (b off len cap : Nat) (f : Nat → UInt8) (w : World) (hl : 4 ≤ len) (hl' : len ≤ 9223372036854775807)
    (hc : ∀ i, i < 4 → w.cell? ⟨b, off + i, none⟩ = some (U8 (f i))) :
    Calls Tryd.prog 59 #[.agg #[], .slice (some ⟨b, off, none⟩) len cap] w fun e w' => e = .returned (.int .u32 (le f 4)) ∧ Fr [] w w' := by
  have c0 := hc 0 (by omega)
  have c1 := hc 1 (by omega)
  have c2 := hc 2 (by omega)
  have c3 := hc 3 (by omega)
  have hbw := World.block_lt_of_cell? w _ c0
  have e0 := (f 0).toNat_lt
  have e1 := (f 1).toNat_lt
  have e2 := (f 2).toNat_lt
  have e3 := (f 3).toNat_lt
  simp only [Nat.add_zero] at c0
  dsimp only at hbw
  clear hc
  have hv : ((le f 4 : Nat) : Int) = ((f 0).toNat : Int) + ((f 1).toNat : Int) * 256 + ((f 2).toNat : Int) * 65536 + ((f 3).toNat : Int) * 16777216 := by
    simp only [le, Nat.zero_add, Nat.reduceAdd]; omega
  have HV := Lib.hid hv
  clear hv
  go_enter Tryd.func59, Tryd.ntmps59
  go_wp2
  go_quiet (fail)
  go_wp2
  go_ret
  refine ⟨?_, ((Fr.refl _ _).alloc _).drewN _⟩
  simp (disch := omega) only [u32_or8, u32_or16, u32_or24]
  rw [HV.out]
  rfl

set_option maxHeartbeats 400000 in
theorem uint16_any (b off len cap : Nat) (f : Nat → UInt8) (w : World) (hl : 2 ≤ len) (hl' : len ≤ 9223372036854775807)
    (hc : ∀ i, i < 2 → w.cell? ⟨b, off + i, none⟩ = some (U8 (f i))) :
    Calls Tryd.prog 67 #[.agg #[], .slice (some ⟨b, off, none⟩) len cap] w fun e w' => e = .returned (.int .u16 (le f 2)) ∧ Fr [] w w' := by
  have c0 := hc 0 (by omega)
  have c1 := hc 1 (by omega)
  have hbw := World.block_lt_of_cell? w _ c0
  have e0 := (f 0).toNat_lt
  have e1 := (f 1).toNat_lt
  simp only [Nat.add_zero] at c0
  dsimp only at hbw
  clear hc
  have hv : ((le f 2 : Nat) : Int) = ((f 0).toNat : Int) + ((f 1).toNat : Int) * 256 := by
    simp only [le, Nat.zero_add]; omega
  have HV := Lib.hid hv
  clear hv
  go_enter Tryd.func67, Tryd.ntmps67
  go_wp2
  go_quiet (fail)
  go_wp2
  go_ret
  refine ⟨?_, ((Fr.refl _ _).alloc _).drewN _⟩
  simp (disch := omega) only [u16_or8]
  rw [HV.out]
  rfl

set_option maxHeartbeats 1000000 in
theorem uint64_any (b off len cap : Nat) (f : Nat → UInt8) (w : World) (hl : 8 ≤ len) (hl' : len ≤ 9223372036854775807)
    (hc : ∀ i, i < 8 → w.cell? ⟨b, off + i, none⟩ = some (U8 (f i))) :
    Calls Tryd.prog 66 #[.agg #[], .slice (some ⟨b, off, none⟩) len cap] w fun e w' => e = .returned (.int .u64 (le f 8)) ∧ Fr [] w w' := by
  have c0 := hc 0 (by omega)
  have c1 := hc 1 (by omega)
  have c2 := hc 2 (by omega)
  have c3 := hc 3 (by omega)
  have c4 := hc 4 (by omega)
  have c5 := hc 5 (by omega)
  have c6 := hc 6 (by omega)
  have c7 := hc 7 (by omega)
  have hbw := World.block_lt_of_cell? w _ c0
  have e0 := (f 0).toNat_lt
  have e1 := (f 1).toNat_lt
  have e2 := (f 2).toNat_lt
  have e3 := (f 3).toNat_lt
  have e4 := (f 4).toNat_lt
  have e5 := (f 5).toNat_lt
  have e6 := (f 6).toNat_lt
  have e7 := (f 7).toNat_lt
  simp only [Nat.add_zero] at c0
  dsimp only at hbw
  clear hc
  have hv : ((le f 8 : Nat) : Int) = ((f 0).toNat : Int) + ((f 1).toNat : Int) * 256 + ((f 2).toNat : Int) * 65536 + ((f 3).toNat : Int) * 16777216 + ((f 4).toNat : Int) * 4294967296 + ((f 5).toNat : Int) * 1099511627776 + ((f 6).toNat : Int) * 281474976710656 + ((f 7).toNat : Int) * 72057594037927936 := by
    simp only [le, Nat.zero_add, Nat.reduceAdd]; omega
  have HV := Lib.hid hv
  clear hv
  have q0 : 0 < len := by omega
  have q1 : (1 : Int) < (len : Int) := by omega
  have q2 : (2 : Int) < (len : Int) := by omega
  have q3 : (3 : Int) < (len : Int) := by omega
  have q4 : (4 : Int) < (len : Int) := by omega
  have q5 : (5 : Int) < (len : Int) := by omega
  have q6 : (6 : Int) < (len : Int) := by omega
  have q7 : (7 : Int) < (len : Int) := by omega
  go_enter Tryd.func66, Tryd.ntmps66
  go_wp2
  go_quiet (fail)
  go_wp2
  go_ret
  refine ⟨?_, ((Fr.refl _ _).alloc _).drewN _⟩
  simp (disch := omega) only [u64_or8, u64_or16, u64_or24, u64_or32, u64_or40, u64_or48, u64_or56]
  rw [HV.out]
  rfl
end Go.Proofs.YtokpomdfgbbhlaaDoor

/- The contracts of the store's reader: (*bytes.Reader).ReadAt, (*store).ReadAt, where all that is asked for lies in the file. -/
namespace Go.Proofs.YtokpomdfgbbhlaaDoor
open Go Go.RowKit

set_option maxRecDepth 100000 in
set_option maxHeartbeats 400000 in
theorem rdAt_any (rb pb po m pc bb n cap off : Nat) (o : Int) (ho : o = off) (F : Nat → UInt8) (l : List Value) (w : World) (hm : 1 ≤ m) (hoff : off + m ≤ n) (hn : n ≤ cap)
    (hr : w.cell? ⟨rb, 0, none⟩ = some (.slice (some ⟨bb, 0, none⟩) n cap))
    (hF : ∀ i, i < n → w.cell? ⟨bb, i, none⟩ = some (U8 (F i)))
    (hl : Blk w pb 5 l) (hpo : po + m ≤ l.length) :
    Calls Tryd.prog 97 #[.pointer (some ⟨rb, 0, none⟩), .slice (some ⟨pb, po, none⟩) m pc, .int .i64 o] w fun e w' =>
      e = .returned (.tuple #[.int .i64 m, .nilIface]) ∧ Fr [pb] w w' ∧ Blk w' pb 5 (splice l po (tab m (fun i => U8 (F (off + i))))) := by
  subst ho
  have hne : ¬ cap = off := by omega
  go_enter Tryd.func97, Tryd.ntmps97
  go_wp2_with (with_reducible refine wpList_copy_blk rfl (.tmp 19) (.tmp 25) 23 23 rfl 5 Tryd.underlying23 (by kernel_rfl) _ _ _ _ _ _ rfl rfl pb po l 5 ?_ m (fun i => U8 (F (off + i))) ?_ ?_ ?_ ?_ ?_)
  · exact hl
  · omega
  · intro _ j hj
    exact hF _ (by omega)
  · exact hpo
  · intro j _; rfl
  · intro w1 hf1 hb1
    go_wp2
    go_ret2
    exact ⟨rfl, hf1, hb1⟩

set_option maxRecDepth 100000 in
set_option maxHeartbeats 400000 in
theorem stAt_any (sb pb po m pc bb n cap off : Nat) (o : Int) (ho : o = off) (F : Nat → UInt8) (l : List Value) (w : World) (hm : 1 ≤ m) (hoff : off + m ≤ n) (hn : n ≤ cap) 
    (hr : w.cell? ⟨sb, 0, none⟩ = some (.slice (some ⟨bb, 0, none⟩) n cap))
    (hF : ∀ i, i < n → w.cell? ⟨bb, i, none⟩ = some (U8 (F i)))
    (hl : Blk w pb 5 l) (hpo : po + m ≤ l.length) :
    Calls Tryd.prog 94 #[.pointer (some ⟨sb, 0, none⟩), .slice (some ⟨pb, po, none⟩) m pc, .int .i64 o] w fun e w' =>
      e = .returned (.tuple #[.int .i64 m, .nilIface]) ∧ Fr [pb] w w' ∧ Blk w' pb 5 (splice l po (tab m (fun i => U8 (F (off + i))))) := by
  subst ho
  have hsb := World.block_lt_of_cell? w _ hr
  have hbb := World.block_lt_of_cell? w _ (hF 0 (by omega))
  dsimp only at hbb
  go_enter Tryd.func94, Tryd.ntmps94
  go_wp2_with (go_at_call 96; go_in)
  refine (rdAt_any _ pb po m pc bb n cap off _ rfl F l _ hm hoff hn ?_ ?_ ?_ hpo).mono ?_
  · simp
  · exact fun i hi => (World.cell?_alloc_lt _ _ ⟨bb, i, none⟩ hbb).trans (hF i hi)
  · exact hl.alloc _
  rintro e w1 ⟨rfl, hf1, hb1⟩
  go_wp2
  go_ret2
  exact ⟨rfl, ((Fr.refl _ _).alloc _).trans_same hf1, hb1⟩
/-- A row that a read has filled: its cells. -/
theorem blk_read {w : World} {b : Nat} {l : List Value} {po m : Nat} {f : Nat → Value} (h : Blk w b 5 (splice l po (tab m f))) (hl : po + m ≤ l.length) (i : Nat) (hi : i < m) :
    w.cell? ⟨b, po + i, none⟩ = some (f i) := by
  rw [h.cell]
  unfold splice
  rw [List.getElem?_append_right (by simp; omega)]
  have : po + i - (List.take po l).length = i := by simp; omega
  rw [this, List.getElem?_append_left (by simp; omega), tab_get _ _ _ hi]

end Go.Proofs.YtokpomdfgbbhlaaDoor

/- The contracts of zzGuid and zzTime. -/
namespace Go.Proofs.YtokpomdfgbbhlaaDoor
open Go Go.RowKit

set_option maxRecDepth 100000 in
set_option maxHeartbeats 400000 in
theorem zzTime_any (b off len cap : Nat) (f : Nat → UInt8) (w : World) (hl : 8 ≤ len) (hl' : len ≤ 9223372036854775807)
    (hc : ∀ i, i < 8 → w.cell? ⟨b, off + i, none⟩ = some (U8 (f i))) :
    Calls Tryd.prog 69 #[.slice (some ⟨b, off, none⟩) len cap] w fun e w' => e = .returned (.int .u64 (le f 8)) ∧ Fr [] w w' := by
  go_enter Tryd.func69, Tryd.ntmps69
  go_wp2_with fail
  refine (uint64_any b off len cap f _ hl hl' hc).mono ?_
  rintro e w1 ⟨rfl, hf⟩
  go_wp2_with fail
  go_ret
  exact ⟨rfl, hf⟩

/-- The sixteen bytes of a class. -/
def guidA (f : Nat → UInt8) : Array Value := (tab 16 (fun i => U8 (f i))).toArray
theorem guidA_size (f : Nat → UInt8) : (guidA f).size = 16 := by simp [guidA]
theorem guidA_one (f : Nat → UInt8) : (guidA f).all (·.oneCell') = true := tab_oneCell (fun _ _ => rfl)

set_option maxRecDepth 100000 in
set_option maxHeartbeats 1000000 in
theorem zzGuid_any (b off cap : Nat) (f : Nat → UInt8) (w : World) (hbw : b < w.heap.size)
    (hc : ∀ i, i < 16 → w.cell? ⟨b, off + i, none⟩ = some (U8 (f i))) :
    Calls Tryd.prog 68 #[.slice (some ⟨b, off, none⟩) 16 cap] w fun e w' => e = .returned (.agg (guidA f)) ∧ Fr [] w w' := by
  go_enter Tryd.func68, Tryd.ntmps68
  go_wp2_with (with_reducible refine wpList_copy_blk rfl (.tmp 4) (.tmp 5) 23 23 rfl 5 Tryd.underlying23 (by kernel_rfl) _ _ _ _ _ _ rfl rfl (w.heap.size + 1) 0 (List.replicate 16 (.int .u8 0)) 97 ?_ 16 (fun i => U8 (f i)) ?_ ?_ ?_ ?_ ?_)
  · have := Blk.new' (w.alloc (.cells (List.replicate 16 (.int .u8 0)).toArray 97)) 97 (List.replicate 16 (.int .u8 0)).toArray
    simpa using this
  · exact fun j hj => hc j hj
  · simp
  · intro j _; rfl
  · intro w1 hf1 hb1
    have hb2 : Blk w1 (w.heap.size + 1) 97 (tab 16 (fun i => U8 (f i))) := by
      have e := splice_whole (List.replicate 16 (.int .u8 0)) (tab 16 (fun i => U8 (f i))) (by simp)
      rw [← e]; exact hb1
    have hr1 : Blk w1 w.heap.size 97 (List.replicate 16 (.int .u8 0)) := ((Blk.new' w 97 (List.replicate 16 (.int .u8 0)).toArray).alloc _).fr hf1 (by simp)
    have hfr : Fr [] w w1 := ((((Fr.refl [] w).alloc _).alloc _).trans hf1 (by simp))
    clear hf1 hb1 hc
    go_wp2_with (first
      | (with_reducible refine wpList_load_blk rfl 97 (.tmp 3) rfl (w.heap.size + 1) 0 rfl 97 _ hb2 _ Tryd.underlying97 rfl 16 (by kernel_rfl) (by simp) (guidA f) ?_ ?_)
      | (with_reducible refine wpList_store_blk rfl 97 (.tmp 2) (.tmp 7) rfl w.heap.size 0 (guidA f) rfl rfl 97 _ hr1 ?_ ?_ (guidA_one f) ?_))
    · rw [tab_drop_take _ _ _ _ (by omega)]; simp [guidA]
    · simp [guidA_size]
    · rw [guidA_size]; kernel_rfl
    · intro w2 hf2 hb3
      have e3 := splice_whole (List.replicate 16 (.int .u8 0)) (guidA f).toList (by simp [guidA])
      have hb4 : Blk w2 w.heap.size 97 (guidA f).toList := by rw [← e3]; exact hb3
      have hld : (loadVar 97 ⟨w.heap.size, 0, none⟩).run Tryd.prog w2 = .ok (.agg (guidA f)) w2 := by
        have := run_loadVar_mid (P := Tryd.prog) w2 w.heap.size 0 97 (guidA f).toList _ (fun j v hj => by rw [hb4.cell]; simpa using hj) Tryd.underlying97 rfl (by rw [Array.length_toList, guidA_size]; kernel_rfl)
        simpa using this
      clear hb3 hb4 e3
      go_wp2_with fail
      refine bodyPost_ret (v := .agg (guidA f)) ?_ rfl ⟨rfl, hfr.trans hf2 (by simp)⟩
      simp [results, Tryd.results68, asAddr, hld]
end Go.Proofs.YtokpomdfgbbhlaaDoor

/- The contract of (*Reader).findNext where the entry lies in the table and in the file. -/
namespace Go.Proofs.YtokpomdfgbbhlaaDoor
open Go Go.RowKit

/-- The file's bytes as the store holds them. -/
structure Src (w : World) (sb bb n cap : Nat) (F : Nat → UInt8) : Prop where
  sc : w.cell? ⟨sb, 0, none⟩ = some (.slice (some ⟨bb, 0, none⟩) n cap)
  bytes : ∀ i, i < n → w.cell? ⟨bb, i, none⟩ = some (U8 (F i))
  ncap : n ≤ cap
  capm : cap ≤ 9223372036854775807

theorem Src.fr {w w' : World} {sb bb n cap : Nat} {F : Nat → UInt8} (h : Src w sb bb n cap F) {ms : List Nat} (f : Fr ms w w') (h1 : sb ∉ ms) (h2 : bb ∉ ms) : Src w' sb bb n cap F :=
  ⟨f.cell h1 h.sc, fun i hi => f.cell h2 (h.bytes i hi), h.ncap, h.capm⟩

theorem Src.fr0 {w w' : World} {sb bb n cap : Nat} {F : Nat → UInt8} (h : Src w sb bb n cap F) (f : Fr [] w w') : Src w' sb bb n cap F := h.fr f (by simp) (by simp)

/-- The cells of a Reader. -/
def rdCells (ss : Nat) (buf hdr file dir : Value) (entry : Int) (sb : Nat) (wa : Value) : List Value :=
  [.bool false, .int .u32 ss, buf, hdr, file, dir, .int .i64 entry, .iface 81 (.pointer (some ⟨sb, 0, none⟩)), wa]

theorem nil_ahead_ra (a : Addr) (w : World) : (nilAhead 324 81 (.pointer (some a)) "ReadAt").run Tryd.prog w = .ok (some false) w := by kernel_rfl
theorem method_ra (a : Addr) (w : World) : (method 324 81 (.pointer (some a)) "ReadAt").run Tryd.prog w = .ok (94, .pointer (some a)) w := by kernel_rfl

theorem make4 (w : World) : (Instr.makeSlice 23 (.int .i64 4) (.int .i64 4)).run Tryd.prog w = .ok (.slice (some ⟨w.heap.size, 0, none⟩) 4 4) (w.alloc (.cells #[.int .u8 0, .int .u8 0, .int .u8 0, .int .u8 0] 5)) := by kernel_rfl

set_option maxRecDepth 100000 in
set_option maxHeartbeats 400000 in
theorem findNext_reg (rb hb sb bb ss n cap sn fb : Nat) (F : Nat → UInt8) (loc : Nat) (w : World) (hS : Src w sb bb n cap F)
    (h1 : w.cell? ⟨rb, 1, none⟩ = some (.int .u32 ss)) (h2 : w.cell? ⟨rb, 3, none⟩ = some (.pointer (some ⟨hb, 0, none⟩)))
    (h3 : w.cell? ⟨rb, 7, none⟩ = some (.iface 81 (.pointer (some ⟨sb, 0, none⟩))))
    (hss : ss = 512 ∨ ss = 4096) (hsn : sn / (ss / 4) < 109) (hloc : loc ≤ 65535)
    (hd : w.cell? ⟨hb, 1, none⟩ = some (.slice (some ⟨fb, 45, none⟩) 109 109))
    (hdi : w.cell? ⟨fb, 45 + sn / (ss / 4), none⟩ = some (.int .u32 loc))
    (hn : (loc + 1) * ss + sn % (ss / 4) * 4 + 4 ≤ n) :
    Calls Tryd.prog 62 #[.pointer (some ⟨rb, 0, none⟩), .int .u32 sn, .bool false] w fun e w' =>
      e = .returned (.tuple #[.int .u32 (le (fun i => F ((loc + 1) * ss + sn % (ss / 4) * 4 + i)) 4), .nilIface]) ∧ Fr [] w w' := by
  have hsn2 : sn < 109 * 1024 := by rcases hss with rfl | rfl <;> omega
  have hq0 : 0 ≤ (sn : Int) / ((ss : Int) / 4) := by rcases hss with rfl | rfl <;> omega
  have hq1 : (sn : Int) / ((ss : Int) / 4) < 109 := by rcases hss with rfl | rfl <;> omega
  have hr0 : 0 ≤ (sn : Int) % ((ss : Int) / 4) := by rcases hss with rfl | rfl <;> omega
  have hr1 : (sn : Int) % ((ss : Int) / 4) < 1024 := by rcases hss with rfl | rfl <;> omega
  have hs1 : 1 ≤ (ss : Int) / 4 := by omega
  have hs2 : ss ≤ 4096 := by omega
  have hnI : ((loc + 1) * ss : Nat) + (sn : Int) % ((ss : Int) / 4) * 4 + 4 ≤ n := by rcases hss with rfl | rfl <;> omega
  have HS := Lib.hid hss
  clear hss
  generalize hA : (loc + 1) * ss = A at *
  have hA2 : A ≤ n := by omega
  have hn2 : n ≤ 9223372036854775807 := by have := hS.ncap; have := hS.capm; omega
  have HA := Lib.hid hA
  clear hA
  have l1 := World.block_lt_of_cell? w _ h1
  dsimp only at l1
  have hna := nil_ahead_ra
  have hme := method_ra
  have hmk := make4
  go_enter Tryd.func62, Tryd.ntmps62
  go_wp2_with (go_at_call 58; go_must (refine (fileOffset_any ss loc A HA.out _ (by omega) (by omega)).mono ?_; rintro e w' ⟨rfl, rfl⟩))
  refine (stAt_any sb w.heap.size 0 4 4 bb n cap (A + sn % (ss / 4) * 4) _ ?_ F [.int .u8 0, .int .u8 0, .int .u8 0, .int .u8 0] _ (by omega) hn hS.ncap ?_ ?_ ?_ (by simp)).mono ?_
  · push_cast; rfl
  · exact (World.cell?_alloc_lt _ _ ⟨sb, 0, none⟩ (World.block_lt_of_cell? w _ hS.sc)).trans hS.sc
  · exact fun i hi => (World.cell?_alloc_lt _ _ ⟨bb, i, none⟩ (World.block_lt_of_cell? w _ (hS.bytes i hi))).trans (hS.bytes i hi)
  · exact Blk.new' _ _ _
  rintro e w1 ⟨rfl, hf1, hb1⟩
  go_wp2_with fail
  refine (uint32_any w.heap.size 0 4 4 (fun i => F (A + sn % (ss / 4) * 4 + i)) _ (by omega) (by omega) (fun i hi => blk_read hb1 (by simp) i hi)).mono ?_
  rintro e w2 ⟨rfl, hf2⟩
  go_wp2
  go_ret2
  exact ⟨rfl, (((Fr.refl _ _).alloc _).trans (hf1.trans0 hf2) (by simp))⟩
end Go.Proofs.YtokpomdfgbbhlaaDoor

/- The contract of makeHeader: a new block with the fields that the first 512 bytes spell. Condition: 512 bytes lie in the slice. (Printed by gen/gen_header.py.) -/
namespace Go.Proofs.YtokpomdfgbbhlaaDoor
open Go Go.RowKit

/-- The zero value of headerFields. -/
def hdrZero : List Value := [.int .u64 0] ++ List.replicate 16 (.int .u8 0) ++ [.int .u16 0, .int .u16 0, .int .u8 0, .int .u8 0, .int .u16 0] ++ List.replicate 8 (.int .u8 0) ++ [.int .u32 0, .int .u32 0, .int .u32 0] ++ List.replicate 8 (.int .u8 0) ++ List.replicate 113 (.int .u32 0)

def hdrL1 (F : Nat → UInt8) : List Value := (hdrZero).set 0 (.int .u64 (le (fun i => F (0 + i)) 8))
def hdrL2 (F : Nat → UInt8) : List Value := (hdrL1 F).set 17 (.int .u16 (le (fun i => F (24 + i)) 2))
def hdrL3 (F : Nat → UInt8) : List Value := (hdrL2 F).set 18 (.int .u16 (le (fun i => F (26 + i)) 2))
def hdrL4 (F : Nat → UInt8) : List Value := (hdrL3 F).set 21 (.int .u16 (le (fun i => F (30 + i)) 2))
def hdrL5 (F : Nat → UInt8) : List Value := (hdrL4 F).set 30 (.int .u32 (le (fun i => F (40 + i)) 4))
def hdrL6 (F : Nat → UInt8) : List Value := (hdrL5 F).set 31 (.int .u32 (le (fun i => F (44 + i)) 4))
def hdrL7 (F : Nat → UInt8) : List Value := (hdrL6 F).set 32 (.int .u32 (le (fun i => F (48 + i)) 4))
def hdrL8 (F : Nat → UInt8) : List Value := (hdrL7 F).set 41 (.int .u32 (le (fun i => F (60 + i)) 4))
def hdrL9 (F : Nat → UInt8) : List Value := (hdrL8 F).set 42 (.int .u32 (le (fun i => F (64 + i)) 4))
def hdrL10 (F : Nat → UInt8) : List Value := (hdrL9 F).set 43 (.int .u32 (le (fun i => F (68 + i)) 4))
def hdrL11 (F : Nat → UInt8) : List Value := (hdrL10 F).set 44 (.int .u32 (le (fun i => F (72 + i)) 4))

/-- What the block holds when i of the 109 places are filled. -/
def hdrN (F : Nat → UInt8) : Nat → List Value
  | 0 => hdrL11 F
  | i + 1 => (hdrN F i).set (45 + i) (.int .u32 (le (fun j => F (76 + 4 * i + j)) 4))

theorem hdrLlen0 : (hdrZero).length = 154 := by simp [hdrZero]
theorem hdrLlen1 (F : Nat → UInt8) : (hdrL1 F).length = 154 := by unfold hdrL1; rw [List.length_set]; exact hdrLlen0
theorem hdrLlen2 (F : Nat → UInt8) : (hdrL2 F).length = 154 := by unfold hdrL2; rw [List.length_set]; exact hdrLlen1 F
theorem hdrLlen3 (F : Nat → UInt8) : (hdrL3 F).length = 154 := by unfold hdrL3; rw [List.length_set]; exact hdrLlen2 F
theorem hdrLlen4 (F : Nat → UInt8) : (hdrL4 F).length = 154 := by unfold hdrL4; rw [List.length_set]; exact hdrLlen3 F
theorem hdrLlen5 (F : Nat → UInt8) : (hdrL5 F).length = 154 := by unfold hdrL5; rw [List.length_set]; exact hdrLlen4 F
theorem hdrLlen6 (F : Nat → UInt8) : (hdrL6 F).length = 154 := by unfold hdrL6; rw [List.length_set]; exact hdrLlen5 F
theorem hdrLlen7 (F : Nat → UInt8) : (hdrL7 F).length = 154 := by unfold hdrL7; rw [List.length_set]; exact hdrLlen6 F
theorem hdrLlen8 (F : Nat → UInt8) : (hdrL8 F).length = 154 := by unfold hdrL8; rw [List.length_set]; exact hdrLlen7 F
theorem hdrLlen9 (F : Nat → UInt8) : (hdrL9 F).length = 154 := by unfold hdrL9; rw [List.length_set]; exact hdrLlen8 F
theorem hdrLlen10 (F : Nat → UInt8) : (hdrL10 F).length = 154 := by unfold hdrL10; rw [List.length_set]; exact hdrLlen9 F
theorem hdrLlen11 (F : Nat → UInt8) : (hdrL11 F).length = 154 := by unfold hdrL11; rw [List.length_set]; exact hdrLlen10 F
theorem hdrN_len (F : Nat → UInt8) (i : Nat) : (hdrN F i).length = 154 := by
  induction i with
  | zero => exact hdrLlen11 F
  | succ i ih => rw [hdrN, List.length_set, ih]

theorem hdrN_low (F : Nat → UInt8) (n j : Nat) (hj : j < 45) : (hdrN F n)[j]? = (hdrL11 F)[j]? := by
  induction n with
  | zero => rfl
  | succ n ih => rw [hdrN, List.getElem?_set_ne (by omega), ih]

theorem hdrN_tab (F : Nat → UInt8) (n j : Nat) (hn : n ≤ 109) (hj : j < n) : (hdrN F n)[45 + j]? = some (.int .u32 (fld F (76 + 4 * j) 4)) := by
  induction n with
  | zero => omega
  | succ n ih =>
    rw [hdrN]
    by_cases h : j = n
    · subst h
      rw [List.getElem?_set_self (by rw [hdrN_len]; omega)]; rfl
    · rw [List.getElem?_set_ne (by omega), ih (by omega) (by omega)]

theorem hdr_sig (F : Nat → UInt8) : (hdrN F 109)[0]? = some (.int .u64 (fld F 0 8)) := by rw [hdrN_low _ _ _ (by omega)]; rfl
theorem hdr_major (F : Nat → UInt8) : (hdrN F 109)[18]? = some (.int .u16 (fld F 26 2)) := by rw [hdrN_low _ _ _ (by omega)]; rfl
theorem hdr_shift (F : Nat → UInt8) : (hdrN F 109)[21]? = some (.int .u16 (fld F 30 2)) := by rw [hdrN_low _ _ _ (by omega)]; rfl
theorem hdr_ndir (F : Nat → UInt8) : (hdrN F 109)[30]? = some (.int .u32 (fld F 40 4)) := by rw [hdrN_low _ _ _ (by omega)]; rfl
theorem hdr_nfat (F : Nat → UInt8) : (hdrN F 109)[31]? = some (.int .u32 (fld F 44 4)) := by rw [hdrN_low _ _ _ (by omega)]; rfl
theorem hdr_dir (F : Nat → UInt8) : (hdrN F 109)[32]? = some (.int .u32 (fld F 48 4)) := by rw [hdrN_low _ _ _ (by omega)]; rfl
theorem hdr_mf (F : Nat → UInt8) : (hdrN F 109)[41]? = some (.int .u32 (fld F 60 4)) := by rw [hdrN_low _ _ _ (by omega)]; rfl
theorem hdr_nmf (F : Nat → UInt8) : (hdrN F 109)[42]? = some (.int .u32 (fld F 64 4)) := by rw [hdrN_low _ _ _ (by omega)]; rfl
theorem hdr_ndf (F : Nat → UInt8) : (hdrN F 109)[44]? = some (.int .u32 (fld F 72 4)) := by rw [hdrN_low _ _ _ (by omega)]; rfl

set_option maxRecDepth 100000 in
set_option maxHeartbeats 4000000 in
theorem makeHeader_any (b len cap : Nat) (F : Nat → UInt8) (w : World) (hl : 512 ≤ len) (hl' : len ≤ 4096) (hlc : len ≤ cap) (hcap : cap ≤ 9223372036854775807)
    (hF : ∀ i, i < 512 → w.cell? ⟨b, i, none⟩ = some (U8 (F i))) :
    Calls Tryd.prog 57 #[.slice (some ⟨b, 0, none⟩) len cap] w fun e w' => e = .returned (.pointer (some ⟨w.heap.size, 0, none⟩)) ∧ Fr [] w w' ∧ Blk w' w.heap.size 147 (hdrN F 109) := by
  go_enter Tryd.func57, Tryd.ntmps57
  go_upto_region 1 with (fail)
  go_cut [3] from 6 to 7 (fun s3 w1 => s3 = .pointer (some ⟨w.heap.size, 0, none⟩) ∧ Fr [] w w1 ∧ Blk w1 w.heap.size 147 hdrZero)
  case first =>
    go_wp2
    go_meet
    case rel => exact ⟨rfl, (Fr.refl _ _).alloc _, Blk.new' _ _ _⟩
  case rest =>
  obtain ⟨rfl, hf, hb⟩ := hcut
  go_upto_region 2 with (fail)
  go_cut [3] from 8 to 14 (fun s3 w1 => s3 = .pointer (some ⟨w.heap.size, 0, none⟩) ∧ Fr [] w w1 ∧ Blk w1 w.heap.size 147 (hdrL1 F))
  case first =>
    have g1 : ∀ i, i < 8 → wc.drew.cell? ⟨b, 0 + i, none⟩ = some (U8 (F (0 + i))) := fun i hi => hf.cells0 hF _ (by omega)
    have hbd : Blk wc.drew w.heap.size 147 (hdrZero) := hb
    go_region_with (go_at_call 66; refine (uint64_any b 0 8 _ (fun i => F (0 + i)) _ (by omega) (by omega) g1).mono ?_; rintro e w2 ⟨rfl, hf2⟩; have hb2 := hbd.fr0 hf2; obtain ⟨v2, hc2⟩ := hb2.some 0 (by rw [hdrLlen0]; omega); have hz2 := hb2.frozen 0)
    all_goals
      go_wp2_with fail
      go_meet
      case rel => exact ⟨rfl, (hf.drew.trans0 hf2).setCell (.inr (Nat.le_refl _)) _, hb2.set _ _⟩
  case rest =>
  clear hf hb
  obtain ⟨rfl, hf, hb⟩ := hcut
  go_upto_region 3 with (fail)
  go_cut [3] from 15 to 21 (fun s3 w1 => s3 = .pointer (some ⟨w.heap.size, 0, none⟩) ∧ Fr [] w w1 ∧ Blk w1 w.heap.size 147 (hdrL2 F))
  case first =>
    have g1 : ∀ i, i < 2 → wc.drew.cell? ⟨b, 24 + i, none⟩ = some (U8 (F (24 + i))) := fun i hi => hf.cells0 hF _ (by omega)
    have hbd : Blk wc.drew w.heap.size 147 (hdrL1 F) := hb
    go_region_with (go_at_call 67; refine (uint16_any b 24 2 _ (fun i => F (24 + i)) _ (by omega) (by omega) g1).mono ?_; rintro e w2 ⟨rfl, hf2⟩; have hb2 := hbd.fr0 hf2; obtain ⟨v2, hc2⟩ := hb2.some 17 (by rw [hdrLlen1]; omega); have hz2 := hb2.frozen 17)
    all_goals
      go_wp2_with fail
      go_meet
      case rel => exact ⟨rfl, (hf.drew.trans0 hf2).setCell (.inr (Nat.le_refl _)) _, hb2.set _ _⟩
  case rest =>
  clear hf hb
  obtain ⟨rfl, hf, hb⟩ := hcut
  go_upto_region 4 with (fail)
  go_cut [3] from 22 to 28 (fun s3 w1 => s3 = .pointer (some ⟨w.heap.size, 0, none⟩) ∧ Fr [] w w1 ∧ Blk w1 w.heap.size 147 (hdrL3 F))
  case first =>
    have g1 : ∀ i, i < 2 → wc.drew.cell? ⟨b, 26 + i, none⟩ = some (U8 (F (26 + i))) := fun i hi => hf.cells0 hF _ (by omega)
    have hbd : Blk wc.drew w.heap.size 147 (hdrL2 F) := hb
    go_region_with (go_at_call 67; refine (uint16_any b 26 2 _ (fun i => F (26 + i)) _ (by omega) (by omega) g1).mono ?_; rintro e w2 ⟨rfl, hf2⟩; have hb2 := hbd.fr0 hf2; obtain ⟨v2, hc2⟩ := hb2.some 18 (by rw [hdrLlen2]; omega); have hz2 := hb2.frozen 18)
    all_goals
      go_wp2_with fail
      go_meet
      case rel => exact ⟨rfl, (hf.drew.trans0 hf2).setCell (.inr (Nat.le_refl _)) _, hb2.set _ _⟩
  case rest =>
  clear hf hb
  obtain ⟨rfl, hf, hb⟩ := hcut
  go_upto_region 5 with (fail)
  go_cut [3] from 29 to 35 (fun s3 w1 => s3 = .pointer (some ⟨w.heap.size, 0, none⟩) ∧ Fr [] w w1 ∧ Blk w1 w.heap.size 147 (hdrL4 F))
  case first =>
    have g1 : ∀ i, i < 2 → wc.drew.cell? ⟨b, 30 + i, none⟩ = some (U8 (F (30 + i))) := fun i hi => hf.cells0 hF _ (by omega)
    have hbd : Blk wc.drew w.heap.size 147 (hdrL3 F) := hb
    go_region_with (go_at_call 67; refine (uint16_any b 30 2 _ (fun i => F (30 + i)) _ (by omega) (by omega) g1).mono ?_; rintro e w2 ⟨rfl, hf2⟩; have hb2 := hbd.fr0 hf2; obtain ⟨v2, hc2⟩ := hb2.some 21 (by rw [hdrLlen3]; omega); have hz2 := hb2.frozen 21)
    all_goals
      go_wp2_with fail
      go_meet
      case rel => exact ⟨rfl, (hf.drew.trans0 hf2).setCell (.inr (Nat.le_refl _)) _, hb2.set _ _⟩
  case rest =>
  clear hf hb
  obtain ⟨rfl, hf, hb⟩ := hcut
  go_upto_region 6 with (fail)
  go_cut [3] from 36 to 42 (fun s3 w1 => s3 = .pointer (some ⟨w.heap.size, 0, none⟩) ∧ Fr [] w w1 ∧ Blk w1 w.heap.size 147 (hdrL5 F))
  case first =>
    have g1 : ∀ i, i < 4 → wc.drew.cell? ⟨b, 40 + i, none⟩ = some (U8 (F (40 + i))) := fun i hi => hf.cells0 hF _ (by omega)
    have hbd : Blk wc.drew w.heap.size 147 (hdrL4 F) := hb
    go_region_with (go_at_call 59; refine (uint32_any b 40 4 _ (fun i => F (40 + i)) _ (by omega) (by omega) g1).mono ?_; rintro e w2 ⟨rfl, hf2⟩; have hb2 := hbd.fr0 hf2; obtain ⟨v2, hc2⟩ := hb2.some 30 (by rw [hdrLlen4]; omega); have hz2 := hb2.frozen 30)
    all_goals
      go_wp2_with fail
      go_meet
      case rel => exact ⟨rfl, (hf.drew.trans0 hf2).setCell (.inr (Nat.le_refl _)) _, hb2.set _ _⟩
  case rest =>
  clear hf hb
  obtain ⟨rfl, hf, hb⟩ := hcut
  go_upto_region 7 with (fail)
  go_cut [3] from 43 to 49 (fun s3 w1 => s3 = .pointer (some ⟨w.heap.size, 0, none⟩) ∧ Fr [] w w1 ∧ Blk w1 w.heap.size 147 (hdrL6 F))
  case first =>
    have g1 : ∀ i, i < 4 → wc.drew.cell? ⟨b, 44 + i, none⟩ = some (U8 (F (44 + i))) := fun i hi => hf.cells0 hF _ (by omega)
    have hbd : Blk wc.drew w.heap.size 147 (hdrL5 F) := hb
    go_region_with (go_at_call 59; refine (uint32_any b 44 4 _ (fun i => F (44 + i)) _ (by omega) (by omega) g1).mono ?_; rintro e w2 ⟨rfl, hf2⟩; have hb2 := hbd.fr0 hf2; obtain ⟨v2, hc2⟩ := hb2.some 31 (by rw [hdrLlen5]; omega); have hz2 := hb2.frozen 31)
    all_goals
      go_wp2_with fail
      go_meet
      case rel => exact ⟨rfl, (hf.drew.trans0 hf2).setCell (.inr (Nat.le_refl _)) _, hb2.set _ _⟩
  case rest =>
  clear hf hb
  obtain ⟨rfl, hf, hb⟩ := hcut
  go_upto_region 8 with (fail)
  go_cut [3] from 50 to 56 (fun s3 w1 => s3 = .pointer (some ⟨w.heap.size, 0, none⟩) ∧ Fr [] w w1 ∧ Blk w1 w.heap.size 147 (hdrL7 F))
  case first =>
    have g1 : ∀ i, i < 4 → wc.drew.cell? ⟨b, 48 + i, none⟩ = some (U8 (F (48 + i))) := fun i hi => hf.cells0 hF _ (by omega)
    have hbd : Blk wc.drew w.heap.size 147 (hdrL6 F) := hb
    go_region_with (go_at_call 59; refine (uint32_any b 48 4 _ (fun i => F (48 + i)) _ (by omega) (by omega) g1).mono ?_; rintro e w2 ⟨rfl, hf2⟩; have hb2 := hbd.fr0 hf2; obtain ⟨v2, hc2⟩ := hb2.some 32 (by rw [hdrLlen6]; omega); have hz2 := hb2.frozen 32)
    all_goals
      go_wp2_with fail
      go_meet
      case rel => exact ⟨rfl, (hf.drew.trans0 hf2).setCell (.inr (Nat.le_refl _)) _, hb2.set _ _⟩
  case rest =>
  clear hf hb
  obtain ⟨rfl, hf, hb⟩ := hcut
  go_upto_region 9 with (fail)
  go_cut [3] from 57 to 63 (fun s3 w1 => s3 = .pointer (some ⟨w.heap.size, 0, none⟩) ∧ Fr [] w w1 ∧ Blk w1 w.heap.size 147 (hdrL8 F))
  case first =>
    have g1 : ∀ i, i < 4 → wc.drew.cell? ⟨b, 60 + i, none⟩ = some (U8 (F (60 + i))) := fun i hi => hf.cells0 hF _ (by omega)
    have hbd : Blk wc.drew w.heap.size 147 (hdrL7 F) := hb
    go_region_with (go_at_call 59; refine (uint32_any b 60 4 _ (fun i => F (60 + i)) _ (by omega) (by omega) g1).mono ?_; rintro e w2 ⟨rfl, hf2⟩; have hb2 := hbd.fr0 hf2; obtain ⟨v2, hc2⟩ := hb2.some 41 (by rw [hdrLlen7]; omega); have hz2 := hb2.frozen 41)
    all_goals
      go_wp2_with fail
      go_meet
      case rel => exact ⟨rfl, (hf.drew.trans0 hf2).setCell (.inr (Nat.le_refl _)) _, hb2.set _ _⟩
  case rest =>
  clear hf hb
  obtain ⟨rfl, hf, hb⟩ := hcut
  go_upto_region 10 with (fail)
  go_cut [3] from 64 to 70 (fun s3 w1 => s3 = .pointer (some ⟨w.heap.size, 0, none⟩) ∧ Fr [] w w1 ∧ Blk w1 w.heap.size 147 (hdrL9 F))
  case first =>
    have g1 : ∀ i, i < 4 → wc.drew.cell? ⟨b, 64 + i, none⟩ = some (U8 (F (64 + i))) := fun i hi => hf.cells0 hF _ (by omega)
    have hbd : Blk wc.drew w.heap.size 147 (hdrL8 F) := hb
    go_region_with (go_at_call 59; refine (uint32_any b 64 4 _ (fun i => F (64 + i)) _ (by omega) (by omega) g1).mono ?_; rintro e w2 ⟨rfl, hf2⟩; have hb2 := hbd.fr0 hf2; obtain ⟨v2, hc2⟩ := hb2.some 42 (by rw [hdrLlen8]; omega); have hz2 := hb2.frozen 42)
    all_goals
      go_wp2_with fail
      go_meet
      case rel => exact ⟨rfl, (hf.drew.trans0 hf2).setCell (.inr (Nat.le_refl _)) _, hb2.set _ _⟩
  case rest =>
  clear hf hb
  obtain ⟨rfl, hf, hb⟩ := hcut
  go_upto_region 11 with (fail)
  go_cut [3] from 71 to 77 (fun s3 w1 => s3 = .pointer (some ⟨w.heap.size, 0, none⟩) ∧ Fr [] w w1 ∧ Blk w1 w.heap.size 147 (hdrL10 F))
  case first =>
    have g1 : ∀ i, i < 4 → wc.drew.cell? ⟨b, 68 + i, none⟩ = some (U8 (F (68 + i))) := fun i hi => hf.cells0 hF _ (by omega)
    have hbd : Blk wc.drew w.heap.size 147 (hdrL9 F) := hb
    go_region_with (go_at_call 59; refine (uint32_any b 68 4 _ (fun i => F (68 + i)) _ (by omega) (by omega) g1).mono ?_; rintro e w2 ⟨rfl, hf2⟩; have hb2 := hbd.fr0 hf2; obtain ⟨v2, hc2⟩ := hb2.some 43 (by rw [hdrLlen9]; omega); have hz2 := hb2.frozen 43)
    all_goals
      go_wp2_with fail
      go_meet
      case rel => exact ⟨rfl, (hf.drew.trans0 hf2).setCell (.inr (Nat.le_refl _)) _, hb2.set _ _⟩
  case rest =>
  clear hf hb
  obtain ⟨rfl, hf, hb⟩ := hcut
  go_upto_region 12 with (fail)
  go_cut [3] from 78 to 84 (fun s3 w1 => s3 = .pointer (some ⟨w.heap.size, 0, none⟩) ∧ Fr [] w w1 ∧ Blk w1 w.heap.size 147 (hdrL11 F))
  case first =>
    have g1 : ∀ i, i < 4 → wc.drew.cell? ⟨b, 72 + i, none⟩ = some (U8 (F (72 + i))) := fun i hi => hf.cells0 hF _ (by omega)
    have hbd : Blk wc.drew w.heap.size 147 (hdrL10 F) := hb
    go_region_with (go_at_call 59; refine (uint32_any b 72 4 _ (fun i => F (72 + i)) _ (by omega) (by omega) g1).mono ?_; rintro e w2 ⟨rfl, hf2⟩; have hb2 := hbd.fr0 hf2; obtain ⟨v2, hc2⟩ := hb2.some 44 (by rw [hdrLlen10]; omega); have hz2 := hb2.frozen 44)
    all_goals
      go_wp2_with fail
      go_meet
      case rel => exact ⟨rfl, (hf.drew.trans0 hf2).setCell (.inr (Nat.le_refl _)) _, hb2.set _ _⟩
  case rest =>
  clear hf hb
  obtain ⟨rfl, hf, hb⟩ := hcut
  go_wp2_with fail
  go_loopw [4, 5] (fun s4 s5 wr => ∃ k : Nat, k ≤ 109 ∧ s4 = .int .i64 k ∧ s5 = .int .i64 (76 + 4 * (k : Int)) ∧ Fr [] w wr ∧ Blk wr w.heap.size 147 (hdrN F k)) (fun s4 _ _ => 109 - (intOf s4).toNat)
  case atStart => exact ⟨0, by omega, rfl, rfl, hf, hb⟩
  case round =>
    obtain ⟨k, hk, rfl, rfl, hf, hb⟩ := hrel
    by_cases hlt : k < 109
    · have h5 : 76 + 4 * k + 4 ≤ 512 := by omega
      have h6 : 76 + 4 * (k : Int) < 512 := by omega
      have hk0 : (0 : Int) ≤ (k : Int) := by omega
      have hk1 : (k : Int) < 109 := by omega
      go_wp2_with fail
      go_cut [4] from 89 to 100 (fun s4 w1 => s4 = .int .i64 k ∧ Fr [] w w1 ∧ Blk w1 w.heap.size 147 (hdrN F (k + 1)))
      case first =>
        have g1 : ∀ i, i < 4 → wr.drew.cell? ⟨b, 76 + 4 * k + i, none⟩ = some (U8 (F (76 + 4 * k + i))) := fun i hi => hf.cells0 hF _ (by omega)
        have hbd : Blk wr.drew w.heap.size 147 (hdrN F k) := hb
        have hcon := Lib.hid (uint32_any b (76 + 4 * k) 4 (cap - (76 + 4 * k)) (fun i => F (76 + 4 * k + i)) wr.drew (by omega) (by omega) g1)
        have hln : 45 + k < (hdrN F k).length := by rw [hdrN_len]; omega
        have hne : ¬ cap = 76 + 4 * k := by omega
        clear g1
        have hw1 : IntKind.i64.wrap (76 + 4 * (k : Int) + 4) = 76 + 4 * (k : Int) + 4 := IntWalk.i64_in _ (by omega)
        have hw2 : (76 + 4 * (k : Int)).toNat = 76 + 4 * k := by omega
        have hw3 : (76 + 4 * (k : Int) + 4).toNat = 76 + 4 * k + 4 := by omega
        have hw4 : 0 ≤ 76 + 4 * (k : Int) := by omega
        have hw5 : 76 + 4 * (k : Int) ≤ 76 + 4 * (k : Int) + 4 := by omega
        have hw6 : 76 + 4 * (k : Int) + 4 ≤ (cap : Int) := by omega
        go_region_with (go_at_call 59; refine hcon.out.mono ?_; clear hcon hw1 hw2 hw3 hw4 hw5 hw6; rintro e w2 ⟨rfl, hf2⟩; have hb2 := hbd.fr0 hf2; obtain ⟨v2, hc2⟩ := hb2.some (45 + k) hln; have hz2 := hb2.frozen (45 + k))
        all_goals
          go_wp2_with fail
          go_meet
          case rel => exact ⟨rfl, (hf.drew.trans0 hf2).setCell (.inr (Nat.le_refl _)) _, hb2.set _ _⟩
      case rest =>
        clear hf hb
        obtain ⟨rfl, hf, hb⟩ := hcut
        go_wp2_with fail
        go_roundw
        case rel => exact ⟨k + 1, by omega, by go_num, by go_num, hf, hb⟩
        case measure => simp [intOf]; omega
    · obtain rfl : k = 109 := by omega
      go_wp2_with fail
      go_ret
      exact ⟨rfl, hf, hb⟩
end Go.Proofs.YtokpomdfgbbhlaaDoor

/- The contract of makeDirEntry: a new block with the fields that 128 bytes spell. Condition: 128 bytes lie in the slice. (Printed by gen/gen_dir.py.) -/
namespace Go.Proofs.YtokpomdfgbbhlaaDoor
open Go Go.RowKit

/-- The zero value of directoryEntryFields, cell by cell. -/
def dirZ (j : Nat) : Value := if j < 33 then .int .u16 0 else if j < 35 then .int .u8 0 else if j < 38 then .int .u32 0 else if j < 58 then .int .u8 0 else if j < 60 then .int .u64 0 else if j = 60 then .int .u32 0 else .int .u8 0
def dirN (G : Nat → UInt8) (k : Nat) (j : Nat) : Value := if j < k then .int .u16 (fld G (2 * j) 2) else dirZ j
def dirL1 (G : Nat → UInt8) (j : Nat) : Value := if j = 32 then .int .u16 (fld G 64 2) else dirN G 32 j
def dirL2 (G : Nat → UInt8) (j : Nat) : Value := if j = 33 then U8 (G 66) else dirL1 G j
def dirL3 (G : Nat → UInt8) (j : Nat) : Value := if j = 34 then U8 (G 67) else dirL2 G j
def dirL4 (G : Nat → UInt8) (j : Nat) : Value := if j = 35 then .int .u32 (fld G 68 4) else dirL3 G j
def dirL5 (G : Nat → UInt8) (j : Nat) : Value := if j = 36 then .int .u32 (fld G 72 4) else dirL4 G j
def dirL6 (G : Nat → UInt8) (j : Nat) : Value := if j = 37 then .int .u32 (fld G 76 4) else dirL5 G j
def dirL7 (G : Nat → UInt8) (j : Nat) : Value := if 38 ≤ j ∧ j < 38 + 16 then U8 (G (80 + (j - 38))) else dirL6 G j
def dirL8 (G : Nat → UInt8) (j : Nat) : Value := if 54 ≤ j ∧ j < 54 + 4 then U8 (G (96 + (j - 54))) else dirL7 G j
def dirL9 (G : Nat → UInt8) (j : Nat) : Value := if j = 58 then .int .u64 (fld G 100 8) else dirL8 G j
def dirL10 (G : Nat → UInt8) (j : Nat) : Value := if j = 59 then .int .u64 (fld G 108 8) else dirL9 G j
def dirL11 (G : Nat → UInt8) (j : Nat) : Value := if j = 60 then .int .u32 (fld G 116 4) else dirL10 G j
def dirL12 (G : Nat → UInt8) (j : Nat) : Value := if 61 ≤ j ∧ j < 61 + 8 then U8 (G (120 + (j - 61))) else dirL11 G j

set_option maxRecDepth 100000 in
set_option maxHeartbeats 8000000 in
theorem makeDirEntry_any (b base len cap : Nat) (G : Nat → UInt8) (w : World) (hl : 128 ≤ len) (hl' : len ≤ 4096) (hlc : len ≤ cap) (hcap : cap ≤ 9223372036854775807)
    (hF : ∀ i, i < 128 → w.cell? ⟨b, base + i, none⟩ = some (U8 (G i))) :
    Calls Tryd.prog 60 #[.slice (some ⟨b, base, none⟩) len cap] w fun e w' => e = .returned (.pointer (some ⟨w.heap.size, 0, none⟩)) ∧ Fr [] w w' ∧ Blk w' w.heap.size 119 (tab 69 (dirL12 G)) := by
  have hbw := World.block_lt_of_cell? w _ (hF 0 (by omega))
  dsimp only at hbw
  go_enter Tryd.func60, Tryd.ntmps60
  go_upto_region 1 with (fail)
  go_cut [3] from 5 to 6 (fun s3 w1 => s3 = .pointer (some ⟨w.heap.size, 0, none⟩) ∧ Fr [] w w1 ∧ Blk w1 w.heap.size 119 (tab 69 (dirN G 0)))
  case first =>
    go_wp2
    go_meet
    case rel => exact ⟨rfl, (Fr.refl _ _).alloc _, Blk.new' _ _ _⟩
  case rest =>
  obtain ⟨rfl, hf, hb⟩ := hcut
  go_upto_block 0 with (fail)
  go_cut [] from 4 to 24 (fun w1 => Fr [] w w1 ∧ Blk w1 w.heap.size 119 (tab 69 (dirN G 32)))
  case first =>
    go_wp2_with fail
    go_loopw [7] (fun s7 wr => ∃ k : Nat, k ≤ 32 ∧ s7 = .int .i64 k ∧ Fr [] w wr ∧ Blk wr w.heap.size 119 (tab 69 (dirN G k))) (fun s7 _ => 32 - (intOf s7).toNat)
    case atStart => exact ⟨0, by omega, rfl, hf, hb⟩
    case round =>
      obtain ⟨k, hk, rfl, hf, hb⟩ := hrel
      by_cases hlt : k < 32
      · have h6 : (k : Int) < 32 := by omega
        have hk0 : (0 : Int) ≤ (k : Int) := by omega
        go_upto_region 5 with (fail)
        have g1 : ∀ i, i < 2 → wr.drew.cell? ⟨b, base + k * 2 + i, none⟩ = some (U8 (G (2 * k + i))) := fun i hi => by
          have := hf.cell0 (hF (2 * k + i) (by omega))
          rw [show base + k * 2 + i = base + (2 * k + i) from by omega]; exact this
        have hcon := Lib.hid (uint16_any b (base + k * 2) 2 (cap - k * 2) (fun i => G (2 * k + i)) wr.drew (by omega) (by omega) g1)
        have hbd : Blk wr.drew w.heap.size 119 (tab 69 (dirN G k)) := hb
        have hln : k < (tab 69 (dirN G k)).length := by rw [tab_length]; omega
        have hne : ¬ cap = k * 2 := by omega
        clear g1
        have hw0 : IntKind.i64.wrap ((k : Int) * 2) = (k : Int) * 2 := IntWalk.i64_in _ (by omega)
        have hw1 : IntKind.i64.wrap ((k : Int) * 2 + 2) = (k : Int) * 2 + 2 := IntWalk.i64_in _ (by omega)
        have hw2 : ((k : Int) * 2).toNat = k * 2 := by omega
        have hw3 : ((k : Int) * 2 + 2).toNat = k * 2 + 2 := by omega
        have hw4 : 0 ≤ (k : Int) * 2 := by omega
        have hw5 : (k : Int) * 2 ≤ (k : Int) * 2 + 2 := by omega
        have hw6 : (k : Int) * 2 + 2 ≤ (cap : Int) := by omega
        go_region_with (go_at_call 67; refine hcon.out.mono ?_; clear hcon hw0 hw1 hw2 hw3 hw4 hw5 hw6; rintro e w2 ⟨rfl, hf2⟩; have hb2 := hbd.fr0 hf2; obtain ⟨v2, hc2⟩ := hb2.some k hln; have hz2 := hb2.frozen k)
        all_goals
          go_wp2_with fail
          go_roundw
          case rel =>
            refine ⟨k + 1, by omega, by go_num, (hf.drew.trans0 hf2).setCell (.inr (Nat.le_refl _)) _, ?_⟩
            have h9 := hb2.set k (.int .u16 (fld G (2 * k) 2))
            rw [tab_set] at h9
            have e9 : tab 69 (dirN G (k + 1)) = tab 69 (fun j => if j = k then .int .u16 (fld G (2 * k) 2) else dirN G k j) := tab_congr (fun j _ => by
              unfold dirN
              by_cases hj : j = k
              · subst hj; rw [if_pos (by omega), if_pos rfl]
              · rw [if_neg hj]
                by_cases hj2 : j < k
                · rw [if_pos (by omega), if_pos hj2]
                · rw [if_neg (by omega), if_neg hj2])
            rw [e9]; exact h9
          case measure => simp [intOf]; omega
      · obtain rfl : k = 32 := by omega
        go_wp2_with fail
        go_meet
        case rel => exact ⟨hf, hb⟩
  case rest =>
  clear hf hb
  obtain ⟨hf, hb⟩ := hcut
  go_upto_region 7 with (fail)
  go_cut [3] from 25 to 31 (fun s3 w1 => s3 = .pointer (some ⟨w.heap.size, 0, none⟩) ∧ Fr [] w w1 ∧ Blk w1 w.heap.size 119 (tab 69 (dirL1 G)))
  case first =>
    have g1 : ∀ i, i < 2 → wc.drew.cell? ⟨b, base + 64 + i, none⟩ = some (U8 (G (64 + i))) := fun i hi => by
      rw [Nat.add_assoc]; exact hf.cell0 (hF _ (by omega))
    have hcon := Lib.hid (uint16_any b (base + 64) 2 (cap - 64) (fun i => G (64 + i)) wc.drew (by omega) (by omega) g1)
    have hbd : Blk wc.drew w.heap.size 119 (tab 69 (dirN G 32)) := hb
    clear g1
    go_region_with (go_at_call 67; refine hcon.out.mono ?_; rintro e w2 ⟨rfl, hf2⟩; have hb2 := hbd.fr0 hf2; obtain ⟨v2, hc2⟩ := hb2.some 32 (by simp); have hz2 := hb2.frozen 32)
    all_goals
      go_wp2_with fail
      go_meet
      case rel => exact ⟨rfl, (hf.drew.trans0 hf2).setCell (.inr (Nat.le_refl _)) _, by have h9 := hb2.set 32 (.int .u16 (fld G 64 2)); rw [tab_set] at h9; exact h9⟩
  case rest =>
  clear hf hb
  obtain ⟨rfl, hf, hb⟩ := hcut
  go_upto_region 8 with (fail)
  go_cut [3] from 32 to 37 (fun s3 w1 => s3 = .pointer (some ⟨w.heap.size, 0, none⟩) ∧ Fr [] w w1 ∧ Blk w1 w.heap.size 119 (tab 69 (dirL2 G)))
  case first =>
    have g1 : wc.cell? ⟨b, base + 66, none⟩ = some (U8 (G 66)) := hf.cell0 (hF _ (by omega))
    obtain ⟨v2, hc2⟩ := hb.some 33 (by simp)
    have hz2 := hb.frozen 33
    go_wp2_with fail
    go_meet
    case rel => exact ⟨rfl, hf.setCell (.inr (Nat.le_refl _)) _, by have h9 := hb.set 33 (U8 (G 66)); rw [tab_set] at h9; exact h9⟩
  case rest =>
  clear hf hb
  obtain ⟨rfl, hf, hb⟩ := hcut
  go_upto_region 9 with (fail)
  go_cut [3] from 38 to 43 (fun s3 w1 => s3 = .pointer (some ⟨w.heap.size, 0, none⟩) ∧ Fr [] w w1 ∧ Blk w1 w.heap.size 119 (tab 69 (dirL3 G)))
  case first =>
    have g1 : wc.cell? ⟨b, base + 67, none⟩ = some (U8 (G 67)) := hf.cell0 (hF _ (by omega))
    obtain ⟨v2, hc2⟩ := hb.some 34 (by simp)
    have hz2 := hb.frozen 34
    go_wp2_with fail
    go_meet
    case rel => exact ⟨rfl, hf.setCell (.inr (Nat.le_refl _)) _, by have h9 := hb.set 34 (U8 (G 67)); rw [tab_set] at h9; exact h9⟩
  case rest =>
  clear hf hb
  obtain ⟨rfl, hf, hb⟩ := hcut
  go_upto_region 10 with (fail)
  go_cut [3] from 44 to 50 (fun s3 w1 => s3 = .pointer (some ⟨w.heap.size, 0, none⟩) ∧ Fr [] w w1 ∧ Blk w1 w.heap.size 119 (tab 69 (dirL4 G)))
  case first =>
    have g1 : ∀ i, i < 4 → wc.drew.cell? ⟨b, base + 68 + i, none⟩ = some (U8 (G (68 + i))) := fun i hi => by
      rw [Nat.add_assoc]; exact hf.cell0 (hF _ (by omega))
    have hcon := Lib.hid (uint32_any b (base + 68) 4 (cap - 68) (fun i => G (68 + i)) wc.drew (by omega) (by omega) g1)
    have hbd : Blk wc.drew w.heap.size 119 (tab 69 (dirL3 G)) := hb
    clear g1
    go_region_with (go_at_call 59; refine hcon.out.mono ?_; rintro e w2 ⟨rfl, hf2⟩; have hb2 := hbd.fr0 hf2; obtain ⟨v2, hc2⟩ := hb2.some 35 (by simp); have hz2 := hb2.frozen 35)
    all_goals
      go_wp2_with fail
      go_meet
      case rel => exact ⟨rfl, (hf.drew.trans0 hf2).setCell (.inr (Nat.le_refl _)) _, by have h9 := hb2.set 35 (.int .u32 (fld G 68 4)); rw [tab_set] at h9; exact h9⟩
  case rest =>
  clear hf hb
  obtain ⟨rfl, hf, hb⟩ := hcut
  go_upto_region 11 with (fail)
  go_cut [3] from 51 to 57 (fun s3 w1 => s3 = .pointer (some ⟨w.heap.size, 0, none⟩) ∧ Fr [] w w1 ∧ Blk w1 w.heap.size 119 (tab 69 (dirL5 G)))
  case first =>
    have g1 : ∀ i, i < 4 → wc.drew.cell? ⟨b, base + 72 + i, none⟩ = some (U8 (G (72 + i))) := fun i hi => by
      rw [Nat.add_assoc]; exact hf.cell0 (hF _ (by omega))
    have hcon := Lib.hid (uint32_any b (base + 72) 4 (cap - 72) (fun i => G (72 + i)) wc.drew (by omega) (by omega) g1)
    have hbd : Blk wc.drew w.heap.size 119 (tab 69 (dirL4 G)) := hb
    clear g1
    go_region_with (go_at_call 59; refine hcon.out.mono ?_; rintro e w2 ⟨rfl, hf2⟩; have hb2 := hbd.fr0 hf2; obtain ⟨v2, hc2⟩ := hb2.some 36 (by simp); have hz2 := hb2.frozen 36)
    all_goals
      go_wp2_with fail
      go_meet
      case rel => exact ⟨rfl, (hf.drew.trans0 hf2).setCell (.inr (Nat.le_refl _)) _, by have h9 := hb2.set 36 (.int .u32 (fld G 72 4)); rw [tab_set] at h9; exact h9⟩
  case rest =>
  clear hf hb
  obtain ⟨rfl, hf, hb⟩ := hcut
  go_upto_region 12 with (fail)
  go_cut [3] from 58 to 64 (fun s3 w1 => s3 = .pointer (some ⟨w.heap.size, 0, none⟩) ∧ Fr [] w w1 ∧ Blk w1 w.heap.size 119 (tab 69 (dirL6 G)))
  case first =>
    have g1 : ∀ i, i < 4 → wc.drew.cell? ⟨b, base + 76 + i, none⟩ = some (U8 (G (76 + i))) := fun i hi => by
      rw [Nat.add_assoc]; exact hf.cell0 (hF _ (by omega))
    have hcon := Lib.hid (uint32_any b (base + 76) 4 (cap - 76) (fun i => G (76 + i)) wc.drew (by omega) (by omega) g1)
    have hbd : Blk wc.drew w.heap.size 119 (tab 69 (dirL5 G)) := hb
    clear g1
    go_region_with (go_at_call 59; refine hcon.out.mono ?_; rintro e w2 ⟨rfl, hf2⟩; have hb2 := hbd.fr0 hf2; obtain ⟨v2, hc2⟩ := hb2.some 37 (by simp); have hz2 := hb2.frozen 37)
    all_goals
      go_wp2_with fail
      go_meet
      case rel => exact ⟨rfl, (hf.drew.trans0 hf2).setCell (.inr (Nat.le_refl _)) _, by have h9 := hb2.set 37 (.int .u32 (fld G 76 4)); rw [tab_set] at h9; exact h9⟩
  case rest =>
  clear hf hb
  obtain ⟨rfl, hf, hb⟩ := hcut
  go_upto_region 13 with (fail)
  go_cut [3] from 65 to 70 (fun s3 w1 => s3 = .pointer (some ⟨w.heap.size, 0, none⟩) ∧ Fr [] w w1 ∧ Blk w1 w.heap.size 119 (tab 69 (dirL7 G)))
  case first =>
    have g1 : ∀ i, i < 16 → wc.cell? ⟨b, base + 80 + i, none⟩ = some (U8 (G (80 + i))) := fun i hi => by
      rw [Nat.add_assoc]; exact hf.cell0 (hF _ (by omega))
    go_wp2_with fail
    refine (zzGuid_any b (base + 80) (cap - 80) (fun i => G (80 + i)) _ (Nat.lt_of_lt_of_le hbw hf.size) g1).mono ?_
    rintro e w2 ⟨rfl, hf2⟩
    have hb2 := hb.fr0 hf2
    go_wp2_with (with_reducible refine wpList_store_blk rfl 97 (.tmp 70) (.tmp 68) rfl w.heap.size 38 (guidA (fun i => G (80 + i))) rfl rfl 119 _ hb2 ?_ ?_ (guidA_one _) ?_)
    · rw [guidA_size]; simp
    · rw [guidA_size]; kernel_rfl
    · intro w3 hf3 hb3
      go_wp2_with fail
      go_meet
      case rel => exact ⟨rfl, (hf.trans0 hf2).trans hf3 (by simp), by have h9 := hb3; rw [guidA, List.toList_toArray, tab_splice _ _ _ _ _ (by omega)] at h9; exact h9⟩
  case rest =>
  clear hf hb
  obtain ⟨rfl, hf, hb⟩ := hcut
  go_upto_region 14 with (fail)
  go_cut [3] from 71 to 77 (fun s3 w1 => s3 = .pointer (some ⟨w.heap.size, 0, none⟩) ∧ Fr [] w w1 ∧ Blk w1 w.heap.size 119 (tab 69 (dirL8 G)))
  case first =>
    have hl2 : wc.heap.size = wc.heap.size := rfl
    have hbd : Blk wc.drew w.heap.size 119 (tab 69 (dirL7 G)) := hb
    have g1 : ∀ i, i < 4 → wc.drew.cell? ⟨b, base + 96 + i, none⟩ = some (U8 (G (96 + i))) := fun i hi => by
      rw [Nat.add_assoc]; exact hf.cell0 (hF _ (by omega))
    have G1 := Lib.hid g1
    have q1 : (100 : Int) ≤ (cap : Int) := by omega
    have q2 : ¬ cap = 96 := by omega
    clear g1 hl2
    go_region_law (refine step_copy_blk rfl (.tmp 74) (.tmp 76) 23 23 rfl 5 Tryd.underlying23 (by kernel_rfl) (some ⟨w.heap.size, 54, none⟩) (some ⟨b, base + 96, none⟩) 4 4 4 (cap - 96) (by simp [Act.eval, Act.put]) (by simp [Act.eval, Act.put]) w.heap.size 54 (tab 69 (dirL7 G)) 119 hbd 4 (fun i => U8 (G (96 + i))) (by omega) (fun _ => ⟨rfl, _, rfl, fun j hj => by rw [Addr.add_mid]; exact G1.out j hj⟩) (by simp) (fun _ _ => rfl) ?_; intro w2 hf2 hb2)
    all_goals
      go_wp2_with fail
      go_meet
      case rel => exact ⟨rfl, hf.drew.trans hf2 (by simp), by have h9 := hb2; rw [tab_splice _ _ _ _ _ (by omega)] at h9; exact h9⟩
  case rest =>
  clear hf hb
  obtain ⟨rfl, hf, hb⟩ := hcut
  go_upto_region 15 with (fail)
  go_cut [3] from 78 to 83 (fun s3 w1 => s3 = .pointer (some ⟨w.heap.size, 0, none⟩) ∧ Fr [] w w1 ∧ Blk w1 w.heap.size 119 (tab 69 (dirL9 G)))
  case first =>
    have g1 : ∀ i, i < 8 → wc.cell? ⟨b, base + 100 + i, none⟩ = some (U8 (G (100 + i))) := fun i hi => by
      rw [Nat.add_assoc]; exact hf.cell0 (hF _ (by omega))
    go_wp2_with fail
    refine (zzTime_any b (base + 100) 8 (cap - 100) (fun i => G (100 + i)) _ (by omega) (by omega) g1).mono ?_
    rintro e w2 ⟨rfl, hf2⟩
    have hb2 := hb.fr0 hf2
    obtain ⟨v2, hc2⟩ := hb2.some 58 (by simp)
    have hz2 := hb2.frozen 58
    go_wp2_with fail
    go_meet
    case rel => exact ⟨rfl, (hf.trans0 hf2).setCell (.inr (Nat.le_refl _)) _, by have h9 := hb2.set 58 (.int .u64 (fld G 100 8)); rw [tab_set] at h9; exact h9⟩
  case rest =>
  clear hf hb
  obtain ⟨rfl, hf, hb⟩ := hcut
  go_upto_region 16 with (fail)
  go_cut [3] from 84 to 89 (fun s3 w1 => s3 = .pointer (some ⟨w.heap.size, 0, none⟩) ∧ Fr [] w w1 ∧ Blk w1 w.heap.size 119 (tab 69 (dirL10 G)))
  case first =>
    have g1 : ∀ i, i < 8 → wc.cell? ⟨b, base + 108 + i, none⟩ = some (U8 (G (108 + i))) := fun i hi => by
      rw [Nat.add_assoc]; exact hf.cell0 (hF _ (by omega))
    go_wp2_with fail
    refine (zzTime_any b (base + 108) 8 (cap - 108) (fun i => G (108 + i)) _ (by omega) (by omega) g1).mono ?_
    rintro e w2 ⟨rfl, hf2⟩
    have hb2 := hb.fr0 hf2
    obtain ⟨v2, hc2⟩ := hb2.some 59 (by simp)
    have hz2 := hb2.frozen 59
    go_wp2_with fail
    go_meet
    case rel => exact ⟨rfl, (hf.trans0 hf2).setCell (.inr (Nat.le_refl _)) _, by have h9 := hb2.set 59 (.int .u64 (fld G 108 8)); rw [tab_set] at h9; exact h9⟩
  case rest =>
  clear hf hb
  obtain ⟨rfl, hf, hb⟩ := hcut
  go_upto_region 17 with (fail)
  go_cut [3] from 90 to 96 (fun s3 w1 => s3 = .pointer (some ⟨w.heap.size, 0, none⟩) ∧ Fr [] w w1 ∧ Blk w1 w.heap.size 119 (tab 69 (dirL11 G)))
  case first =>
    have g1 : ∀ i, i < 4 → wc.drew.cell? ⟨b, base + 116 + i, none⟩ = some (U8 (G (116 + i))) := fun i hi => by
      rw [Nat.add_assoc]; exact hf.cell0 (hF _ (by omega))
    have hcon := Lib.hid (uint32_any b (base + 116) 4 (cap - 116) (fun i => G (116 + i)) wc.drew (by omega) (by omega) g1)
    have hbd : Blk wc.drew w.heap.size 119 (tab 69 (dirL10 G)) := hb
    clear g1
    go_region_with (go_at_call 59; refine hcon.out.mono ?_; rintro e w2 ⟨rfl, hf2⟩; have hb2 := hbd.fr0 hf2; obtain ⟨v2, hc2⟩ := hb2.some 60 (by simp); have hz2 := hb2.frozen 60)
    all_goals
      go_wp2_with fail
      go_meet
      case rel => exact ⟨rfl, (hf.drew.trans0 hf2).setCell (.inr (Nat.le_refl _)) _, by have h9 := hb2.set 60 (.int .u32 (fld G 116 4)); rw [tab_set] at h9; exact h9⟩
  case rest =>
  clear hf hb
  obtain ⟨rfl, hf, hb⟩ := hcut
  go_upto_region 18 with (fail)
  go_cut [3] from 97 to 103 (fun s3 w1 => s3 = .pointer (some ⟨w.heap.size, 0, none⟩) ∧ Fr [] w w1 ∧ Blk w1 w.heap.size 119 (tab 69 (dirL12 G)))
  case first =>
    have hl2 : wc.heap.size = wc.heap.size := rfl
    have hbd : Blk wc.drew w.heap.size 119 (tab 69 (dirL11 G)) := hb
    have g1 : ∀ i, i < 8 → wc.drew.cell? ⟨b, base + 120 + i, none⟩ = some (U8 (G (120 + i))) := fun i hi => by
      rw [Nat.add_assoc]; exact hf.cell0 (hF _ (by omega))
    have G1 := Lib.hid g1
    have q1 : (128 : Int) ≤ (cap : Int) := by omega
    have q2 : ¬ cap = 120 := by omega
    clear g1 hl2
    go_region_law (refine step_copy_blk rfl (.tmp 100) (.tmp 102) 23 23 rfl 5 Tryd.underlying23 (by kernel_rfl) (some ⟨w.heap.size, 61, none⟩) (some ⟨b, base + 120, none⟩) 8 8 8 (cap - 120) (by simp [Act.eval, Act.put]) (by simp [Act.eval, Act.put]) w.heap.size 61 (tab 69 (dirL11 G)) 119 hbd 8 (fun i => U8 (G (120 + i))) (by omega) (fun _ => ⟨rfl, _, rfl, fun j hj => by rw [Addr.add_mid]; exact G1.out j hj⟩) (by simp) (fun _ _ => rfl) ?_; intro w2 hf2 hb2)
    all_goals
      go_wp2_with fail
      go_meet
      case rel => exact ⟨rfl, hf.drew.trans hf2 (by simp), by have h9 := hb2; rw [tab_splice _ _ _ _ _ (by omega)] at h9; exact h9⟩
  case rest =>
  clear hf hb
  obtain ⟨rfl, hf, hb⟩ := hcut
  go_wp2_with fail
  go_ret
  exact ⟨rfl, hf, hb⟩
end Go.Proofs.YtokpomdfgbbhlaaDoor

/- The contract of fixName: an unused entry; a name of letters. -/
namespace Go.Proofs.YtokpomdfgbbhlaaDoor
open Go Go.RowKit

/-- The text of m units below 128. -/
theorem encode_low (n : Nat) (h : n < 128) : Utf8.encode (n : Int) = ⟨#[UInt8.ofNat n]⟩ := by
  have hv : Utf8.valid (n : Int) = true := by
    unfold Utf8.valid
    simp; omega
  unfold Utf8.encode
  simp only [hv, if_true, Int.toNat_natCast]
  rw [if_pos (by omega)]

theorem nameOf_congr {c c' : Nat → Nat} (m : Nat) (h : ∀ i, i < m → c i = c' i) : nameOf c m = nameOf c' m := by
  unfold nameOf
  congr 2
  exact List.map_congr_left (fun j hj => by rw [h j (List.mem_range.1 hj)])

theorem runesBytes_low (c : Nat → Nat) (hlow : ∀ i, c i < 128) (m : Nat) : runesBytes ((List.range m).map (fun i => (c i : Int))) = nameOf c m := by
  unfold runesBytes nameOf
  induction m with
  | zero => rfl
  | succ m ih =>
    rw [List.range_succ, List.map_append, List.foldl_append, ih, List.map_append]
    simp only [List.map_cons, List.map_nil, List.foldl_cons, List.foldl_nil]
    rw [encode_low _ (hlow m)]
    apply ByteArray.ext
    simp

/-- The cells of a File. -/
def flCells (name : ByteArray) (initial : Nat) (path : Value) (size i : Int) (cur : Nat) (rem : Int) (d r : Nat) : List Value :=
  [.string name, .int .u16 initial, path, .int .i64 size, .int .i64 i, .int .u32 cur, .int .i64 rem, .pointer (some ⟨d, 0, none⟩), .pointer (some ⟨r, 0, none⟩)]

theorem dir_name (G : Nat → UInt8) (i : Nat) (hi : i < 32) : (tab 69 (dirL12 G))[i]? = some (.int .u16 (fld G (2 * i) 2)) := by
  rw [tab_get _ _ _ (by omega)]
  simp only [dirL12, dirL11, dirL10, dirL9, dirL8, dirL7, dirL6, dirL5, dirL4, dirL3, dirL2, dirL1, dirN]
  rw [if_neg (by omega), if_neg (by omega), if_neg (by omega), if_neg (by omega), if_neg (by omega), if_neg (by omega), if_neg (by omega), if_neg (by omega), if_neg (by omega), if_neg (by omega), if_neg (by omega), if_neg (by omega), if_pos (by omega)]
theorem dir_len (G : Nat → UInt8) : (tab 69 (dirL12 G))[32]? = some (.int .u16 (fld G 64 2)) := tab_get _ _ _ (by omega)
theorem dir_type (G : Nat → UInt8) : (tab 69 (dirL12 G))[33]? = some (U8 (G 66)) := tab_get _ _ _ (by omega)
theorem dir_left (G : Nat → UInt8) : (tab 69 (dirL12 G))[35]? = some (.int .u32 (fld G 68 4)) := tab_get _ _ _ (by omega)
theorem dir_right (G : Nat → UInt8) : (tab 69 (dirL12 G))[36]? = some (.int .u32 (fld G 72 4)) := tab_get _ _ _ (by omega)
theorem dir_child (G : Nat → UInt8) : (tab 69 (dirL12 G))[37]? = some (.int .u32 (fld G 76 4)) := tab_get _ _ _ (by omega)
theorem dir_create (G : Nat → UInt8) : (tab 69 (dirL12 G))[58]? = some (.int .u64 (fld G 100 8)) := tab_get _ _ _ (by omega)
theorem dir_modify (G : Nat → UInt8) : (tab 69 (dirL12 G))[59]? = some (.int .u64 (fld G 108 8)) := tab_get _ _ _ (by omega)
theorem dir_start (G : Nat → UInt8) : (tab 69 (dirL12 G))[60]? = some (.int .u32 (fld G 116 4)) := tab_get _ _ _ (by omega)
theorem dir_size (G : Nat → UInt8) (j : Nat) (hj : j < 8) : (tab 69 (dirL12 G))[61 + j]? = some (U8 (G (120 + j))) := by
  rw [tab_get _ _ _ (by omega)]
  simp only [dirL12]
  rw [if_pos (by omega)]
  congr 2
  congr 2; omega

theorem arrLen116 : Tryd.prog.arrayLen 116 = 32 := by kernel_rfl
theorem size116 (w : World) : (sizeOf (Tryd.prog.elem 116)).run Tryd.prog w = .ok 1 w := by kernel_rfl
theorem und116 : Tryd.prog.underlying 116 = some (.array (Tryd.prog.arrayLen 116) (Tryd.prog.elem 116)) := by kernel_rfl
theorem slice116 (d : Nat) (hi : Int) (m : Nat) (hm : hi = m) (h : m ≤ 31) (w : World) :
    (Instr.sliceAt 116 (.pointer (some ⟨d, 0, none⟩)) (some (.int .i64 0)) (some (.int .i64 hi)) none).run Tryd.prog w = .ok (.slice (some ⟨d, 0, none⟩) m 32) w := by
  subst hm
  rw [run_sliceAt_array_lh (P := Tryd.prog) w 116 _ und116 _ _ _ _ (by omega) (by omega) (by rw [arrLen116]; omega), size116]
  simp [slicedAt, arrLen116, Addr.add]

set_option maxRecDepth 100000 in
set_option maxHeartbeats 1000000 in
theorem fixName_unused (fk d : Nat) (name : ByteArray) (initial : Nat) (path : Value) (size i : Int) (cur : Nat) (rem : Int) (r : Nat) (G : Nat → UInt8) (w : World)
    (hf : Blk w fk 95 (flCells name initial path size i cur rem d r)) (hd : Blk w d 119 (tab 69 (dirL12 G))) (hn : fld G 64 2 = 0) :
    Calls Tryd.prog 70 #[.pointer (some ⟨fk, 0, none⟩)] w fun e w' => e = .returned (.tuple #[]) ∧ w = w' := by
  have c7 : w.cell? ⟨fk, 7, none⟩ = some (.pointer (some ⟨d, 0, none⟩)) := hf.cell 7
  have d32 := (hd.cell 32).trans (dir_len G)
  rw [hn] at d32
  clear hn
  go_enter Tryd.func70, Tryd.ntmps70
  go_wp2_with fail
  refine bodyPost_ret (results_none rfl _ _ _) rfl ?_
  exact ⟨rfl, rfl⟩

set_option maxRecDepth 100000 in
set_option maxHeartbeats 1000000 in
theorem fixName_any (fk d : Nat) (name : ByteArray) (initial : Nat) (path : Value) (size i : Int) (cur : Nat) (rem : Int) (r : Nat) (G : Nat → UInt8) (m : Nat) (w : World)
    (hf : Blk w fk 95 (flCells name initial path size i cur rem d r)) (hd : Blk w d 119 (tab 69 (dirL12 G))) (hm1 : 1 ≤ m) (hm2 : m ≤ 31) (hn : fld G 64 2 = 2 * m + 2)
    (hlow0 : ∀ i, i < m → fld G (2 * i) 2 < 128) (h65 : 65 ≤ fld G 0 2) (h90 : fld G 0 2 ≤ 90) (hp : w.cell? ⟨2, fld G 0 2, none⟩ = some (.int .u8 160)) (h2 : fk ≠ 2) :
    Calls Tryd.prog 70 #[.pointer (some ⟨fk, 0, none⟩)] w fun e w' => e = .returned (.tuple #[]) ∧ Fr [fk] w w' ∧
      Blk w' fk 95 (flCells (nameOf (fun i => fld G (2 * i) 2) m) (fld G 0 2) path size i cur rem d r) := by
  rw [nameOf_congr (c' := fun i => if i < m then fld G (2 * i) 2 else 0) m (fun i hi => by rw [if_pos hi])]
  obtain ⟨c, hcd⟩ : ∃ c : Nat → Nat, c = fun i => if i < m then fld G (2 * i) 2 else 0 := ⟨_, rfl⟩
  rw [← hcd]
  have hlow : ∀ i, c i < 128 := by
    intro i
    rw [hcd]
    show (if i < m then fld G (2 * i) 2 else 0) < 128
    split
    · rename_i h; exact hlow0 i h
    · omega
  have hci : ∀ i, i < m → fld G (2 * i) 2 = c i := by
    intro i hi
    rw [hcd]
    show _ = if i < m then fld G (2 * i) 2 else 0
    rw [if_pos hi]
  have HCI := Lib.hid hci
  clear hci hcd hlow0
  have hfd : fk ≠ d := fun h => by subst h; exact absurd (hf.unique hd).1 (by decide)
  have c7 : w.cell? ⟨fk, 7, none⟩ = some (.pointer (some ⟨d, 0, none⟩)) := hf.cell 7
  have c1 : w.cell? ⟨fk, 1, none⟩ = some (.int .u16 initial) := hf.cell 1
  have c0 : w.cell? ⟨fk, 0, none⟩ = some (.string name) := hf.cell 0
  have z1 := hf.frozen 1
  have z0 := hf.frozen 0
  have d32 := (hd.cell 32).trans (dir_len G)
  have d0 : w.cell? ⟨d, 0, none⟩ = some (.int .u16 (fld G 0 2)) := (hd.cell 0).trans (dir_name G 0 (by omega))
  rw [hn] at d32
  obtain ⟨NL, hNL⟩ : ∃ NL, NL = 2 * m + 2 := ⟨_, rfl⟩
  rw [← hNL] at d32
  have q1 : 4 ≤ NL := by omega
  have q2 : NL ≤ 64 := by omega
  have q3 : (0 : Int) ≤ (NL : Int) / 2 - 1 := by omega
  have q4 : (NL : Int) / 2 - 1 ≤ 32 := by omega
  have q5 := fun w => slice116 d ((NL : Int) / 2 - 1) m (by omega) (by omega) w
  have b1 : decide ((NL : Int) < 4) = false := by simp; omega
  have b2 : decide (NL < 4) = false := by simp; omega
  have b3 : decide (64 < NL) = false := by simp; omega
  have b4 : decide ((64 : Int) < NL) = false := by simp; omega
  have HN := Lib.hid hNL
  clear hn hNL
  generalize hch : fld G 0 2 = ch at *
  have HC := Lib.hid hch
  clear hch
  go_enter Tryd.func70, Tryd.ntmps70
  go_wp2_with fail
  refine (isPrint_any ch _ h65 h90 ?_).mono ?_
  · rw [World.cell?_setCell_other _ _ _ _ (by intro e; injection e with e1 e2; exact h2 e1)]; exact hp
  rintro e w1 ⟨rfl, rfl⟩
  go_wp2_with fail
  have hb1 := hf.set 1 (.int .u16 ch)
  have hd1 := hd.setOther (p := ⟨fk, 1, none⟩) (by exact hfd) (.int .u16 ch)
  refine (utf16Decode_any d 0 m 32 c _ ?_ hlow (by omega) (hd1.lt)).mono ?_
  · intro i hi
    rw [Nat.zero_add, hd1.cell]
    rw [← HCI.out i hi]
    exact dir_name G i (by omega)
  rintro e w1 ⟨rfl, hf1, l', hl1, hl2, hl3⟩
  have hb2 := hb1.fr0 hf1
  have hcv := run_convert_runes (P := Tryd.prog) w1 165 9 21 ⟨(w.setCell ⟨fk, 1, none⟩ (.int .u16 ch)).heap.size, 0, none⟩ m 64 ((List.range m).map (fun i => (c i : Int))) (by simp)
    Tryd.underlying165 Tryd.underlying21 Tryd.underlying9 (by
      intro j hj
      simp at hj
      rw [Addr.add_mid, Nat.zero_add, hl1.cell, hl3 j hj]
      simp [List.getD, hj])
  rw [List.take_of_length_le (by simp), runesBytes_low _ hlow] at hcv
  have e0 : w1.cell? ⟨fk, 0, none⟩ = some (.string name) := hb2.cell 0
  have y0 := hb2.frozen 0
  have hsz : (w.setCell ⟨fk, 1, none⟩ (.int .u16 ch)).heap.size = w.heap.size := by simp
  rw [hsz] at hcv
  clear hsz
  go_wp2_with fail
  go_end0
  exact ⟨rfl, (((Fr.refl [fk] w).setCell (.inl (by simp)) _).trans0 hf1).setCell (.inl (by simp)) _, hb2.set 0 _⟩
end Go.Proofs.YtokpomdfgbbhlaaDoor

/- The contract of fixFile: an unused entry; a named entry, a stream or not. -/
namespace Go.Proofs.YtokpomdfgbbhlaaDoor
open Go Go.RowKit

theorem arrLen117 : Tryd.prog.arrayLen 117 = 8 := by kernel_rfl
theorem size117 (w : World) : (sizeOf (Tryd.prog.elem 117)).run Tryd.prog w = .ok 1 w := by kernel_rfl
theorem und117 : Tryd.prog.underlying 117 = some (.array (Tryd.prog.arrayLen 117) (Tryd.prog.elem 117)) := by kernel_rfl
theorem slice117_all (d o : Nat) (w : World) :
    (Instr.sliceAt 117 (.pointer (some ⟨d, o, none⟩)) none none none).run Tryd.prog w = .ok (.slice (some ⟨d, o, none⟩) 8 8) w := by
  rw [run_sliceAt_array_all (P := Tryd.prog) w 117 _ und117, size117]
  simp [slicedAt, arrLen117, Addr.add]
theorem slice117_4 (d o : Nat) (w : World) :
    (Instr.sliceAt 117 (.pointer (some ⟨d, o, none⟩)) none (some (.int .i64 4)) none).run Tryd.prog w = .ok (.slice (some ⟨d, o, none⟩) 4 8) w := by
  rw [run_sliceAt_array_h (P := Tryd.prog) w 117 _ und117 _ _ (by omega) (by rw [arrLen117]; omega), size117]
  simp [slicedAt, arrLen117, Addr.add]

set_option maxRecDepth 100000 in
set_option maxHeartbeats 1000000 in
theorem fixFile_unused (v fk d : Nat) (name : ByteArray) (initial : Nat) (path : Value) (size i : Int) (cur : Nat) (rem : Int) (r : Nat) (G : Nat → UInt8) (w : World)
    (hf : Blk w fk 95 (flCells name initial path size i cur rem d r)) (hd : Blk w d 119 (tab 69 (dirL12 G))) (hn : fld G 64 2 = 0) (ht : G 66 = 0) :
    Calls Tryd.prog 61 #[.int .u16 v, .pointer (some ⟨fk, 0, none⟩)] w fun e w' => e = .returned (.tuple #[]) ∧ w = w' := by
  have c7 : w.cell? ⟨fk, 7, none⟩ = some (.pointer (some ⟨d, 0, none⟩)) := hf.cell 7
  have d33 := (hd.cell 33).trans (dir_type G)
  rw [ht] at d33
  go_enter Tryd.func61, Tryd.ntmps61
  go_wp2_with fail
  refine (fixName_unused fk d name initial path size i cur rem r G _ hf hd hn).mono ?_
  rintro e w1 ⟨rfl, rfl⟩
  go_wp2_with fail
  refine bodyPost_ret (results_none rfl _ _ _) rfl ?_
  exact ⟨rfl, rfl⟩

set_option maxRecDepth 100000 in
set_option maxHeartbeats 2000000 in
theorem fixFile_any (v fk d : Nat) (name : ByteArray) (initial : Nat) (path : Value) (i : Int) (cur : Nat) (rem : Int) (r : Nat) (G : Nat → UInt8) (m sz : Nat) (w : World)
    (hf : Blk w fk 95 (flCells name initial path 0 i cur rem d r)) (hd : Blk w d 119 (tab 69 (dirL12 G))) (hm1 : 1 ≤ m) (hm2 : m ≤ 31) (hn : fld G 64 2 = 2 * m + 2)
    (hlow : ∀ i, i < m → fld G (2 * i) 2 < 128) (h65 : 65 ≤ fld G 0 2) (h90 : fld G 0 2 ≤ 90) (hp : w.cell? ⟨2, fld G 0 2, none⟩ = some (.int .u8 160)) (h2 : fk ≠ 2)
    (hs8 : fld G 120 8 = sz) (hs4 : fld G 120 4 = sz) (hsz : sz ≤ 2147483647) (S : Int) (hS : (G 66 = 2 ∧ S = (sz : Int)) ∨ (G 66 ≠ 2 ∧ S = 0)) :
    Calls Tryd.prog 61 #[.int .u16 v, .pointer (some ⟨fk, 0, none⟩)] w fun e w' => e = .returned (.tuple #[]) ∧ Fr [fk] w w' ∧
      Blk w' fk 95 (flCells (nameOf (fun i => fld G (2 * i) 2) m) (fld G 0 2) path S i cur rem d r) := by
  have hfd : d ≠ fk := fun h => by subst h; exact absurd (hf.unique hd).1 (by decide)
  go_enter Tryd.func61, Tryd.ntmps61
  go_wp2_with fail
  refine (fixName_any fk d name initial path 0 i cur rem r G m _ hf hd hm1 hm2 hn hlow h65 h90 hp h2).mono ?_
  rintro e w1 ⟨rfl, hf1, hb1⟩
  have hd1 := hd.fr hf1 (by simpa using hfd)
  have c7 : w1.cell? ⟨fk, 7, none⟩ = some (.pointer (some ⟨d, 0, none⟩)) := hb1.cell 7
  have c3 : w1.cell? ⟨fk, 3, none⟩ = some (.int .i64 0) := hb1.cell 3
  have z3 := hb1.frozen 3
  have d33 := (hd1.cell 33).trans (dir_type G)
  rcases hS with ⟨ht, rfl⟩ | ⟨ht, rfl⟩
  · rw [ht] at d33
    clear ht
    have hby : ∀ i, i < 8 → w1.cell? ⟨d, 61 + i, none⟩ = some (U8 (G (120 + i))) := fun i hi => (hd1.cell _).trans (dir_size G i hi)
    have hcon8 := uint64_any d 61 8 8 (fun i => G (120 + i)) w1.drew (by omega) (by omega) hby
    have hcon4 := uint32_any d 61 4 8 (fun i => G (120 + i)) w1.drew (by omega) (by omega) (fun i hi => hby i (by omega))
    have e8 : le (fun i => G (120 + i)) 8 = sz := hs8
    have e4 : le (fun i => G (120 + i)) 4 = sz := hs4
    rw [e8] at hcon8
    rw [e4] at hcon4
    have H8 := Lib.hid hcon8
    have H4 := Lib.hid hcon4
    clear hcon8 hcon4 hby e8 e4 hs8 hs4 hn hlow hp
    have q8 := slice117_all d 61
    have q4 := slice117_4 d 61
    have hw : IntKind.i64.wrap (sz : Int) = sz := IntWalk.i64_in _ (by omega)
    by_cases hv : 3 < v
    · have hvI : (3 : Int) < (v : Int) := by omega
      go_upto_region 3 with (fail)
      go_cut [] from 16 to 28 (fun w2 => Fr [fk] w w2 ∧ Blk w2 fk 95 (flCells (nameOf (fun i => fld G (2 * i) 2) m) (fld G 0 2) path (sz : Int) i cur rem d r))
      case first =>
        go_region_held3 (fun w' => w'.cell? ⟨fk, 7, none⟩ = some (.pointer (some ⟨d, 0, none⟩))) (first | go_keep | exact hf2.cell0 c7 | (rw [World.cell?_setCell_other _ _ _ _ (by intro e; injection e with e1 e2; cases e2)]; exact hf2.cell0 c7))
          (first | (go_at_call 66; refine H8.out.mono ?_; rintro e w2 ⟨rfl, hf2⟩; have hb2 := hb1.drew.fr0 hf2; have c32 : w2.cell? ⟨fk, 3, none⟩ = some (.int .i64 0) := hb2.cell 3; have z32 := hb2.frozen 3))
        all_goals
          go_wp2_with fail
          go_meet
          case rel => exact ⟨(hf1.drew.trans0 hf2).setCell (.inl (by simp)) _, hb2.set 3 _⟩
      case rest =>
        obtain ⟨hf2, hb2⟩ := hcut
        have e3 : wc.cell? ⟨fk, 3, none⟩ = some (.int .i64 sz) := hb2.cell 3
        go_wp2_with fail
        go_end0
        exact ⟨rfl, hf2, hb2⟩
    · have hvI : decide ((3 : Int) < (v : Int)) = false := by simp; omega
      have hvJ : decide (3 < v) = false := by simp; omega
      go_upto_region 4 with (fail)
      go_cut [] from 29 to 41 (fun w2 => Fr [fk] w w2 ∧ Blk w2 fk 95 (flCells (nameOf (fun i => fld G (2 * i) 2) m) (fld G 0 2) path (sz : Int) i cur rem d r))
      case first =>
        go_region_held3 (fun w' => w'.cell? ⟨fk, 7, none⟩ = some (.pointer (some ⟨d, 0, none⟩))) (first | go_keep | exact hf2.cell0 c7 | (rw [World.cell?_setCell_other _ _ _ _ (by intro e; injection e with e1 e2; cases e2)]; exact hf2.cell0 c7))
          (first | (go_at_call 59; refine H4.out.mono ?_; rintro e w2 ⟨rfl, hf2⟩; have hb2 := hb1.drew.fr0 hf2; have c32 : w2.cell? ⟨fk, 3, none⟩ = some (.int .i64 0) := hb2.cell 3; have z32 := hb2.frozen 3))
        all_goals
          go_wp2_with fail
          go_meet
          case rel => exact ⟨(hf1.drew.trans0 hf2).setCell (.inl (by simp)) _, hb2.set 3 _⟩
      case rest =>
        obtain ⟨hf2, hb2⟩ := hcut
        have e3 : wc.cell? ⟨fk, 3, none⟩ = some (.int .i64 sz) := hb2.cell 3
        go_wp2_with fail
        go_end0
        exact ⟨rfl, hf2, hb2⟩
  · have hn2 : ((G 66).toNat : Int) ≠ 2 := fun h => ht (by
      have h9 : (G 66).toNat = 2 := by omega
      exact UInt8.toNat_inj.1 h9)
    clear ht
    go_wp2_with fail
    refine bodyPost_ret (results_none rfl _ _ _) rfl ?_
    exact ⟨rfl, hf1, hb1⟩
end Go.Proofs.YtokpomdfgbbhlaaDoor

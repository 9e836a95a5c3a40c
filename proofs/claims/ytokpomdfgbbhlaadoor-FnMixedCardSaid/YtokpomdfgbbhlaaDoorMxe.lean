/- FnMixed: a stream is read, sought and written by steps, what is told is what stands there then, the file behind all is that of the stream with these bytes (part 5 of 18). No condition but the statement's own. -/
import Derived.Laws.BitsAllLaws
import Derived.Great.BuildSlice
import Derived.OrdersHeld
import Derived.Test.YtokpomdfgbbhlaaDoorMxd
set_option linter.all false
set_option linter.unusedVariables false
set_option linter.unusedSimpArgs false
set_option linter.unnecessarySimpa false
/- One node more: what nodesOf holds behind the three appends of a round. -/
namespace Go.Proofs.YtokpomdfgbbhlaaDoor
open Go Go.RowKit

theorem info42 : (Tryd.prog.info? 42).map (fun i => (i.zero.map (·.cells.size), i.size, i.bytes)) = some (some 28, 28, 112) := by kernel_rfl
theorem info42_parts : ∃ i z, Tryd.prog.info? 42 = some i ∧ i.zero = some z ∧ i.size = 28 ∧ i.bytes = 112 ∧ z.cells.size = 28 := by
  obtain ⟨i, hi, hzz⟩ := Option.map_eq_some_iff.1 info42
  simp only [Prod.mk.injEq] at hzz
  obtain ⟨z, h1, h2⟩ := Option.map_eq_some_iff.1 hzz.1
  exact ⟨i, z, hi, h1, hzz.2.1, hzz.2.2, h2⟩

/-- A slice of one value of many cells. -/
theorem wpList_build_one {ops : Array Oper} {rest : List Oper} {o : Oper} {a : Act} {Q : Exit → Act → World → Prop} {w : World} (hgd : o.guard = none) (t e : TypeId) (x : Operand) (ho : o.op = .buildSlice t 1 #[(0, x)])
    (xl : Array Value) (hx : a.eval x = .agg xl) (ht : Tryd.prog.underlying t = some (.slice e)) (i : TypeInfo) (z : Value) (hi : Tryd.prog.info? e = some i) (hz : i.zero = some z) (size : Nat) (hs : i.size = size) (hxs : xl.size = size)
    (h0 : 0 < size) (h24 : size ≤ 1000) (h : wpList Tryd.prog ops Q rest (a.put o.dst (.slice (some ⟨w.heap.size, 0, none⟩) 1 1)) (w.alloc (.cells xl e))) : wpList Tryd.prog ops Q (o :: rest) a w := by
  refine wpList_buildSlice hgd t e 1 #[(0, x)] ho xl i z ht hi hz (by rw [hs]; omega) (by rw [hs]; omega) ?_ h
  have hv : (Value.agg xl).cells.size = size := hxs
  obtain ⟨r, hr, hrs, hrk⟩ := Great.fill_dense (s := size) h0 [Value.agg xl] 0 ((Array.range (1 * size)).map (z.cells[· % z.cells.size]!)) (fun v hv' => by simp at hv'; subst hv'; exact hv) (by simp)
  have e1 : (#[(0, x)].map fun (p : Nat × Operand) => (p.1, a.eval p.2)).toList = ([Value.agg xl].zipIdx 0).map fun x => (x.2, x.1) := by simp [hx]
  have e2 : r = xl := by
    apply Array.ext_getElem?
    intro k
    rw [hrk k]
    by_cases hk : k < size
    · rw [if_pos (by simp; omega), Nat.div_eq_of_lt hk, Nat.mod_eq_of_lt hk]
      rfl
    · rw [if_neg (by simp; omega), Array.getElem?_eq_none (by simp; omega), Array.getElem?_eq_none (by omega)]
  rw [hs]
  rw [e2] at hr
  exact (congrArg _ e1).trans hr

theorem all_oneCell_mem {xl : Array Value} (h : xl.all (·.oneCell') = true) : ∀ u ∈ xl.toList, u.oneCell' = true := by
  rw [← Array.all_toList, List.all_eq_true] at h
  exact h
theorem add_zero' (b j : Nat) : (⟨b, 0, none⟩ : Addr).add j = ⟨b, j, none⟩ := by unfold Addr.add; split <;> simp_all
theorem info31 : (Tryd.prog.info? 31).map (fun i => (i.zero, i.size, i.bytes)) = some (some (.slice none 0 0), 1, 24) := by kernel_rfl
theorem own_sep {w : World} {base base' : Nat} {e e' : TypeId} {size size' n n' : Nat} {v v' : Value} {xs xs' : List Value} (h : w.ownsRow base e size v n xs) (h' : w.ownsRow base' e' size' v' n' xs') (he : e ≠ e') :
    ∀ g, v.ownBlock = some g → g ∉ v'.ownBlock.toList := by
  intro g hg hg'
  rcases h.2 with ⟨rfl, _⟩ | ⟨b, cap, cur, rfl, _, hb, _⟩
  · simp [Value.ownBlock] at hg
  · rcases h'.2 with ⟨rfl, _⟩ | ⟨b', cap', cur', rfl, _, hb', _⟩
    · simp [Value.ownBlock] at hg'
    · simp only [Value.ownBlock, Option.some.injEq, Option.toList_some, List.mem_singleton] at hg hg'
      subst hg
      subst hg'
      rw [hb] at hb'
      simp at hb'
      exact he hb'.2

theorem DatIs.fr {w w' : World} {x : Nd} {dv : Value} {ms : List Nat} (h : DatIs w x dv) (f : Fr ms w w') (hm : ∀ b l, Blk w b 5 l → b ∉ ms) : DatIs w' x dv := by
  obtain ⟨a, cap, h1, h2, h3, h4⟩ := h
  refine ⟨a, cap, h1, h2, h3, fun hl => ?_⟩
  obtain ⟨b, o, e, l, hb, hg⟩ := h4 hl
  exact ⟨b, o, e, l, hb.fr f (hm _ _ hb), hg⟩

/-- An owned row that is not empty, as a block. -/
theorem own_blkS {w : World} {base : Nat} {e : TypeId} {size n : Nat} {v : Value} {xs : List Value} (h : w.ownsRow base e size v n xs) (hn : 1 ≤ n) :
    ∃ b cap l, v = .slice (some ⟨b, 0, none⟩) n cap ∧ base ≤ b ∧ Blk w b e l ∧ (∀ i, i < n * size → l[i]? = xs[i]?) ∧ n ≤ cap ∧ cap ≤ 9223372036854775807 ∧ l.length = cap * size := by
  rcases h.2 with ⟨_, h0⟩ | ⟨b, cap, cur, rfl, hb, hg, h4, h5, h6, ht⟩
  · omega
  · refine ⟨b, cap, cur.toList, rfl, hb, by simpa [Blk] using hg, fun i hi => ?_, h4, by simpa [maxLen] using h5, by simpa using h6⟩
    rw [← ht, List.getElem?_take, if_pos hi]

/-- A value stored into an owned row of one-celled elements. -/
theorem own_set {w : World} {base : Nat} {e : TypeId} {n cap b : Nat} {g : Nat → Value} (h : w.ownsRow base e 1 (.slice (some ⟨b, 0, none⟩) n cap) n (tab n g)) (i : Nat) (hi : i < n) (u : Value) :
    (w.setCell ⟨b, i, none⟩ u).ownsRow base e 1 (.slice (some ⟨b, 0, none⟩) n cap) n (tab n (fun j => if j = i then u else g j)) := by
  refine ⟨by simp, ?_⟩
  rcases h.2 with ⟨h0, _⟩ | ⟨b', cap', cur, hv, hb, hg, h4, h5, h6, ht⟩
  · cases h0
  · injection hv with e1 e2 e3
    cases e1
    subst e3
    have hB : Blk w b e cur.toList := by simpa [Blk] using hg
    have hB2 := hB.set i u
    refine .inr ⟨b, cap, (cur.toList.set i u).toArray, rfl, hb, by simpa [Blk] using hB2, h4, h5, by simpa using h6, ?_⟩
    rw [List.take_set, ht, tab_set]

theorem NInv.step {base n p gb cap : Nat} {w w1 w2 w3 : World} {v5 v6 v5' v3 dx : Value} {nd : Nat → Nd} {dv bv : Nat → Value} {B : Nat → List Nat} {par : Nat → Nat} {X : Nd}
    (h : NInv base w n v5 v6 nd dv bv B par) (hn : 1 ≤ n) (hp : p < n) (hX : NdOK X) (hdx : DatIs w X dx)
    (r1 : w1.ownsRow base 42 28 v5' (n + 1) (ndRow n nd dv ++ ndCells X dx)) (f1 : Fr v5.ownBlock.toList w w1)
    (r2 : w2.ownsRow base 31 1 (.slice (some ⟨gb, 0, none⟩) (n + 1) cap) (n + 1) (tab n bv ++ [.slice none 0 0])) (f2 : Fr v6.ownBlock.toList w1 w2)
    (r3 : w3.ownsRow base 3 1 v3 ((B p).length + 1) ((B p).map (fun e => I64 e) ++ [I64 n])) (f3 : Fr (bv p).ownBlock.toList w2 w3) (b3 : ∀ g, v3.ownBlock = some g → (bv p).ownBlock = some g ∨ w2.heap.size ≤ g) :
    NInv base (w3.setCell ⟨gb, p, none⟩ v3) (n + 1) v5' (.slice (some ⟨gb, 0, none⟩) (n + 1) cap) (insI n nd X) (insI n dv dx) (fun i => if i = p then v3 else insI n bv (.slice none 0 0) i)
      (fun i => if i = p then B p ++ [n] else insI n B [] i) (insI n par p) := by
  have f4 : Fr [gb] w3 (w3.setCell ⟨gb, p, none⟩ v3) := (Fr.refl _ _).setCell (.inl (by simp)) _
  have e6 : (Value.slice (some ⟨gb, 0, none⟩) (n + 1) cap).ownBlock.toList = [gb] := rfl
  -- rows of below at each stage
  have bel1 := own_fr h.bel f1 (own_sep h.bel h.row (by decide))
  have bs1 : ∀ i, i < n → w1.ownsRow base 3 1 (bv i) (B i).length ((B i).map (fun e => I64 e)) := fun i hi => own_fr (h.bs i hi) f1 (own_sep (h.bs i hi) h.row (by decide))
  have bs2 : ∀ i, i < n → w2.ownsRow base 3 1 (bv i) (B i).length ((B i).map (fun e => I64 e)) := fun i hi => own_fr (bs1 i hi) f2 (own_sep (bs1 i hi) bel1 (by decide))
  have dnot : ∀ i, i < n → i ≠ p → ∀ g, (bv i).ownBlock = some g → g ∉ (bv p).ownBlock.toList := by
    intro i hi hip g hg hgp
    exact h.dis i p hi hp hip g hg (by simpa using hgp)
  have bs3 : ∀ i, i < n → i ≠ p → w3.ownsRow base 3 1 (bv i) (B i).length ((B i).map (fun e => I64 e)) := fun i hi hip => own_fr (bs2 i hi) f3 (dnot i hi hip)
  have r2' : w3.ownsRow base 31 1 (.slice (some ⟨gb, 0, none⟩) (n + 1) cap) (n + 1) (tab n bv ++ [.slice none 0 0]) := own_fr r2 f3 (own_sep r2 (bs2 p hp) (by decide))
  have r1' : w2.ownsRow base 42 28 v5' (n + 1) (ndRow n nd dv ++ ndCells X dx) := own_fr r1 f2 (own_sep r1 bel1 (by decide))
  have r1'' : w3.ownsRow base 42 28 v5' (n + 1) (ndRow n nd dv ++ ndCells X dx) := own_fr r1' f3 (own_sep r1' (bs2 p hp) (by decide))
  have hb5 : ∀ {wa wb : World} {e : TypeId} {size m : Nat} {v : Value} {xs : List Value} {x : Nd} {d : Value}, DatIs wa x d → wa.ownsRow base e size v m xs → e ≠ 5 → Fr v.ownBlock.toList wa wb → DatIs wb x d :=
    fun hd ho he hf => hd.fr hf (fun b l hb => own_ne ho hb (Ne.symm he))
  have dat3 : ∀ {x : Nd} {d : Value}, DatIs w x d → DatIs (w3.setCell ⟨gb, p, none⟩ v3) x d := by
    intro x d hd
    have d1 := hb5 hd h.row (by decide) f1
    have d2 := hb5 d1 bel1 (by decide) f2
    have d3 := hb5 d2 (bs2 p hp) (by decide) f3
    exact hb5 d3 r2' (by decide) (by rw [e6]; exact f4)
  have inn : ∀ {α : Type} (f : Nat → α) (x : α) (i : Nat), i < n → insI n f x i = f i := fun f x i hi => insI_ne _ _ _ _ (by omega)
  refine {
    row := ?_
    bel := ?_
    bs := ?_
    dis := ?_
    dat := ?_
    ok := ?_
    root := ?_
    mem := ?_
    nodup := ?_
    le := ?_
    all := ?_ }
  · have := own_fr r1'' f4 (by have := own_sep r1'' r2' (by decide); rwa [e6] at this)
    rw [ndRow_snoc] at this
    exact this
  · have e : tab n bv ++ [Value.slice none 0 0] = tab (n + 1) (insI n bv (.slice none 0 0)) := by
      rw [tab_snoc, insI_self]
      congr 1
      exact tab_congr (fun i hi => (inn bv _ i hi).symm)
    rw [e] at r2'
    exact own_set r2' p (by omega) v3
  · intro i hi
    by_cases hip : i = p
    · subst hip
      simp only [if_pos rfl]
      have := own_fr r3 f4 (by have := own_sep r3 r2' (by decide); rwa [e6] at this)
      simpa using this
    · simp only [if_neg hip]
      by_cases hin : i < n
      · rw [inn bv _ i hin, inn B _ i hin]
        exact own_fr (bs3 i hin hip) f4 (by have := own_sep (bs3 i hin hip) r2' (by decide); rwa [e6] at this)
      · obtain rfl : i = n := by omega
        rw [insI_self, insI_self]
        exact own_nil _ _ _ _
  · have lem : ∀ i, i < n + 1 → i ≠ p → ∀ g, (insI n bv (.slice none 0 0) i).ownBlock = some g → i < n ∧ (bv i).ownBlock = some g := by
      intro i hi hip g hg
      by_cases hin : i < n
      · rw [inn bv _ i hin] at hg; exact ⟨hin, hg⟩
      · obtain rfl : i = n := by omega
        rw [insI_self] at hg
        simp [Value.ownBlock] at hg
    have lem3 : ∀ i, i < n → i ≠ p → ∀ g, v3.ownBlock = some g → (bv i).ownBlock ≠ some g := by
      intro i hi hip g hg hg2
      rcases b3 g hg with h1 | h1
      · exact h.dis i p hi hp hip g hg2 h1
      · have := ((bs2 i hi).lt g hg2).2
        omega
    intro i j hi hj hij g hg
    by_cases hip : i = p
    · subst hip
      simp only [if_pos rfl] at hg
      rw [if_neg (Ne.symm hij)]
      intro hg2
      obtain ⟨a, b⟩ := lem j hj (Ne.symm hij) g hg2
      exact lem3 j a (Ne.symm hij) g hg b
    · simp only [if_neg hip] at hg
      obtain ⟨a, b⟩ := lem i hi hip g hg
      by_cases hjp : j = p
      · subst hjp
        simp only [if_pos rfl]
        intro hg2
        exact lem3 i a hip g hg2 b
      · simp only [if_neg hjp]
        intro hg2
        obtain ⟨c, d⟩ := lem j hj hjp g hg2
        exact h.dis i j a c hij g b d
  · intro i hi
    by_cases hin : i < n
    · rw [inn nd _ i hin, inn dv _ i hin]; exact dat3 (h.dat i hin)
    · obtain rfl : i = n := by omega
      rw [insI_self, insI_self]; exact dat3 hdx
  · intro i hi
    by_cases hin : i < n
    · rw [inn nd _ i hin]; exact h.ok i hin
    · obtain rfl : i = n := by omega
      rw [insI_self]; exact hX
  · rw [inn nd _ 0 (by omega)]; exact h.root
  · intro i hi e he
    by_cases hip : i = p
    · subst hip
      rw [if_pos rfl] at he
      rcases List.mem_append.1 he with he | he
      rotate_left
      · obtain rfl := List.mem_singleton.1 he
        rw [insI_self]; exact ⟨hp, by omega, rfl⟩
      · obtain ⟨a1, a2, a3⟩ := h.mem i hp e he
        rw [inn par _ e a2]
        exact ⟨a1, by omega, a3⟩
    · simp only [if_neg hip] at he
      by_cases hin : i < n
      · rw [inn B _ i hin] at he
        obtain ⟨a1, a2, a3⟩ := h.mem i hin e he
        rw [inn par _ e a2]
        exact ⟨a1, by omega, a3⟩
      · obtain rfl : i = n := by omega
        rw [insI_self] at he
        simp at he
  · intro i hi
    by_cases hip : i = p
    · subst hip
      rw [if_pos rfl, List.nodup_append]
      refine ⟨h.nodup i hp, by simp, ?_⟩
      intro a ha b hb hab
      have := (h.mem i hp a ha).2.1
      simp at hb
      omega
    · simp only [if_neg hip]
      by_cases hin : i < n
      · rw [inn B _ i hin]; exact h.nodup i hin
      · obtain rfl : i = n := by omega
        rw [insI_self]; simp
  · intro x
    by_cases hx : x = n
    · subst hx; rw [insI_self]; omega
    · rw [insI_ne _ _ _ _ hx]; exact h.le x
  · intro x h1 h2
    by_cases hx : x = n
    · subst hx
      rw [insI_self]
      exact ⟨hp, by simp⟩
    · rw [insI_ne _ _ _ _ hx]
      obtain ⟨a, b⟩ := h.all x h1 (by omega)
      refine ⟨a, ?_⟩
      by_cases hq : par x = p
      · rw [if_pos hq, ← hq]; exact List.mem_append_left _ b
      · rw [if_neg hq, inn B _ _ (by omega)]; exact b
theorem NInv.len_le {base n : Nat} {w : World} {v5 v6 : Value} {nd : Nat → Nd} {dv bv : Nat → Value} {B : Nat → List Nat} {par : Nat → Nat} (h : NInv base w n v5 v6 nd dv bv B par) (p : Nat) (hp : p < n) : (B p).length ≤ n :=
  nodup_le n (h.nodup p hp) (fun e he => (h.mem p hp e he).2.1)
end Go.Proofs.YtokpomdfgbbhlaaDoor

/- The contract of fixFile: an unused entry; a named entry, a stream or not. -/
namespace Go.Proofs.YtokpomdfgbbhlaaDoor
open Go Go.RowKit

theorem arrLen117 : Tryd.prog.arrayLen 117 = 8 := by kernel_rfl
theorem size117 (w : World) : (sizeOf (Tryd.prog.elem 117)).run Tryd.prog w = .ok 1 w := by kernel_rfl
theorem und117 : Tryd.prog.underlying 117 = some (.array (Tryd.prog.arrayLen 117) (Tryd.prog.elem 117)) := by kernel_rfl
theorem slice117_all (d o : Nat) (w : World) :
    (Instr.sliceAt 117 (.pointer (some ⟨d, o, none⟩)) none none none).run Tryd.prog w = .ok (.slice (some ⟨d, o, none⟩) 8 8) w := by
  rw [run_sliceAt_array_all (P := Tryd.prog) w 117 _ und117, size117]
  simp [slicedAt, arrLen117, Addr.add]
theorem slice117_4 (d o : Nat) (w : World) :
    (Instr.sliceAt 117 (.pointer (some ⟨d, o, none⟩)) none (some (.int .i64 4)) none).run Tryd.prog w = .ok (.slice (some ⟨d, o, none⟩) 4 8) w := by
  rw [run_sliceAt_array_h (P := Tryd.prog) w 117 _ und117 _ _ (by omega) (by rw [arrLen117]; omega), size117]
  simp [slicedAt, arrLen117, Addr.add]

set_option maxRecDepth 100000 in
set_option maxHeartbeats 1000000 in
theorem fixFile_unused (v fk d : Nat) (name : ByteArray) (initial : Nat) (path : Value) (size i : Int) (cur : Nat) (rem : Int) (r : Nat) (G : Nat → UInt8) (w : World)
    (hf : Blk w fk 95 (flCells name initial path size i cur rem d r)) (hd : Blk w d 119 (tab 69 (dirL12 G))) (hn : fld G 64 2 = 0) (ht : G 66 = 0) :
    Calls Tryd.prog 61 #[.int .u16 v, .pointer (some ⟨fk, 0, none⟩)] w fun e w' => e = .returned (.tuple #[]) ∧ w = w' := by
  have c7 : w.cell? ⟨fk, 7, none⟩ = some (.pointer (some ⟨d, 0, none⟩)) := hf.cell 7
  have d33 := (hd.cell 33).trans (dir_type G)
  rw [ht] at d33
  go_enter Tryd.func61, Tryd.ntmps61
  go_wp2_with fail
  refine (fixName_unused fk d name initial path size i cur rem r G _ hf hd hn).mono ?_
  rintro e w1 ⟨rfl, rfl⟩
  go_wp2_with fail
  refine bodyPost_ret (results_none rfl _ _ _) rfl ?_
  exact ⟨rfl, rfl⟩

set_option maxRecDepth 100000 in
set_option maxHeartbeats 2000000 in
theorem fixFile_any (v fk d : Nat) (name : ByteArray) (initial : Nat) (path : Value) (i : Int) (cur : Nat) (rem : Int) (r : Nat) (G : Nat → UInt8) (m sz : Nat) (w : World)
    (hf : Blk w fk 95 (flCells name initial path 0 i cur rem d r)) (hd : Blk w d 119 (tab 69 (dirL12 G))) (hm1 : 1 ≤ m) (hm2 : m ≤ 31) (hn : fld G 64 2 = 2 * m + 2)
    (hlow : ∀ i, i < m → fld G (2 * i) 2 < 128) (h65 : 65 ≤ fld G 0 2) (h90 : fld G 0 2 ≤ 90) (hp : w.cell? ⟨2, fld G 0 2, none⟩ = some (.int .u8 160)) (h2 : fk ≠ 2)
    (hs8 : fld G 120 8 = sz) (hs4 : fld G 120 4 = sz) (hsz : sz ≤ 2147483647) (S : Int) (hS : (G 66 = 2 ∧ S = (sz : Int)) ∨ (G 66 ≠ 2 ∧ S = 0)) :
    Calls Tryd.prog 61 #[.int .u16 v, .pointer (some ⟨fk, 0, none⟩)] w fun e w' => e = .returned (.tuple #[]) ∧ Fr [fk] w w' ∧
      Blk w' fk 95 (flCells (nameOf (fun i => fld G (2 * i) 2) m) (fld G 0 2) path S i cur rem d r) := by
  have hfd : d ≠ fk := fun h => by subst h; exact absurd (hf.unique hd).1 (by decide)
  go_enter Tryd.func61, Tryd.ntmps61
  go_wp2_with fail
  refine (fixName_any fk d name initial path 0 i cur rem r G m _ hf hd hm1 hm2 hn hlow h65 h90 hp h2).mono ?_
  rintro e w1 ⟨rfl, hf1, hb1⟩
  have hd1 := hd.fr hf1 (by simpa using hfd)
  have c7 : w1.cell? ⟨fk, 7, none⟩ = some (.pointer (some ⟨d, 0, none⟩)) := hb1.cell 7
  have c3 : w1.cell? ⟨fk, 3, none⟩ = some (.int .i64 0) := hb1.cell 3
  have z3 := hb1.frozen 3
  have d33 := (hd1.cell 33).trans (dir_type G)
  rcases hS with ⟨ht, rfl⟩ | ⟨ht, rfl⟩
  · rw [ht] at d33
    clear ht
    have hby : ∀ i, i < 8 → w1.cell? ⟨d, 61 + i, none⟩ = some (U8 (G (120 + i))) := fun i hi => (hd1.cell _).trans (dir_size G i hi)
    have hcon8 := uint64_any d 61 8 8 (fun i => G (120 + i)) w1.drew (by omega) (by omega) hby
    have hcon4 := uint32_any d 61 4 8 (fun i => G (120 + i)) w1.drew (by omega) (by omega) (fun i hi => hby i (by omega))
    have e8 : le (fun i => G (120 + i)) 8 = sz := hs8
    have e4 : le (fun i => G (120 + i)) 4 = sz := hs4
    rw [e8] at hcon8
    rw [e4] at hcon4
    have H8 := Lib.hid hcon8
    have H4 := Lib.hid hcon4
    clear hcon8 hcon4 hby e8 e4 hs8 hs4 hn hlow hp
    have q8 := slice117_all d 61
    have q4 := slice117_4 d 61
    have hw : IntKind.i64.wrap (sz : Int) = sz := IntWalk.i64_in _ (by omega)
    by_cases hv : 3 < v
    · have hvI : (3 : Int) < (v : Int) := by omega
      go_upto_region 3 with (fail)
      go_cut [] from 16 to 28 (fun w2 => Fr [fk] w w2 ∧ Blk w2 fk 95 (flCells (nameOf (fun i => fld G (2 * i) 2) m) (fld G 0 2) path (sz : Int) i cur rem d r))
      case first =>
        go_region_held3 (fun w' => w'.cell? ⟨fk, 7, none⟩ = some (.pointer (some ⟨d, 0, none⟩))) (first | go_keep | exact hf2.cell0 c7 | (rw [World.cell?_setCell_other _ _ _ _ (by intro e; injection e with e1 e2; cases e2)]; exact hf2.cell0 c7))
          (first | (go_at_call 66; refine H8.out.mono ?_; rintro e w2 ⟨rfl, hf2⟩; have hb2 := hb1.drew.fr0 hf2; have c32 : w2.cell? ⟨fk, 3, none⟩ = some (.int .i64 0) := hb2.cell 3; have z32 := hb2.frozen 3))
        all_goals
          go_wp2_with fail
          go_meet
          case rel => exact ⟨(hf1.drew.trans0 hf2).setCell (.inl (by simp)) _, hb2.set 3 _⟩
      case rest =>
        obtain ⟨hf2, hb2⟩ := hcut
        have e3 : wc.cell? ⟨fk, 3, none⟩ = some (.int .i64 sz) := hb2.cell 3
        go_wp2_with fail
        go_end0
        exact ⟨rfl, hf2, hb2⟩
    · have hvI : decide ((3 : Int) < (v : Int)) = false := by simp; omega
      have hvJ : decide (3 < v) = false := by simp; omega
      go_upto_region 4 with (fail)
      go_cut [] from 29 to 41 (fun w2 => Fr [fk] w w2 ∧ Blk w2 fk 95 (flCells (nameOf (fun i => fld G (2 * i) 2) m) (fld G 0 2) path (sz : Int) i cur rem d r))
      case first =>
        go_region_held3 (fun w' => w'.cell? ⟨fk, 7, none⟩ = some (.pointer (some ⟨d, 0, none⟩))) (first | go_keep | exact hf2.cell0 c7 | (rw [World.cell?_setCell_other _ _ _ _ (by intro e; injection e with e1 e2; cases e2)]; exact hf2.cell0 c7))
          (first | (go_at_call 59; refine H4.out.mono ?_; rintro e w2 ⟨rfl, hf2⟩; have hb2 := hb1.drew.fr0 hf2; have c32 : w2.cell? ⟨fk, 3, none⟩ = some (.int .i64 0) := hb2.cell 3; have z32 := hb2.frozen 3))
        all_goals
          go_wp2_with fail
          go_meet
          case rel => exact ⟨(hf1.drew.trans0 hf2).setCell (.inl (by simp)) _, hb2.set 3 _⟩
      case rest =>
        obtain ⟨hf2, hb2⟩ := hcut
        have e3 : wc.cell? ⟨fk, 3, none⟩ = some (.int .i64 sz) := hb2.cell 3
        go_wp2_with fail
        go_end0
        exact ⟨rfl, hf2, hb2⟩
  · have hn2 : ((G 66).toNat : Int) ≠ 2 := fun h => ht (by
      have h9 : (G 66).toNat = 2 := by omega
      exact UInt8.toNat_inj.1 h9)
    clear ht
    go_wp2_with fail
    refine bodyPost_ret (results_none rfl _ _ _) rfl ?_
    exact ⟨rfl, hf1, hb1⟩
end Go.Proofs.YtokpomdfgbbhlaaDoor

/- The contract of (*Reader).readAt, where what is asked for lies in the file and fits into the buffer. -/
namespace Go.Proofs.YtokpomdfgbbhlaaDoor
open Go Go.RowKit

set_option maxRecDepth 100000 in
set_option maxHeartbeats 1000000 in
theorem readAt_any (rb sb bb n cap off m ub ul uc : Nat) (F : Nat → UInt8) (L : List Value) (w : World) (hS : Src w sb bb n cap F)
    (h3 : w.cell? ⟨rb, 7, none⟩ = some (.iface 81 (.pointer (some ⟨sb, 0, none⟩))))
    (hsl : w.cell? ⟨rb, 0, none⟩ = some (.bool false)) (hbc : w.cell? ⟨rb, 2, none⟩ = some (.slice (some ⟨ub, 0, none⟩) ul uc)) (hul : ul ≤ uc)
    (hL : Blk w ub 5 L) (h1m : 1 ≤ m) (hm : m ≤ ul) (hLm : m ≤ L.length) (hn : off + m ≤ n) (hru : rb ≠ ub) :
    Calls Tryd.prog 56 #[.pointer (some ⟨rb, 0, none⟩), .int .i64 off, .int .i64 m] w fun e w' =>
      e = .returned (.tuple #[.slice (some ⟨ub, 0, none⟩) m uc, .nilIface]) ∧ Fr [ub] w w' ∧ Blk w' ub 5 (splice L 0 (tab m (fun i => U8 (F (off + i))))) := by
  have hd : decide (ul < m) = false := by simp; omega
  have hm0 : (0 : Int) ≤ (m : Int) := by omega
  have hm1 : (m : Int) ≤ (uc : Int) := by omega
  have hna := nil_ahead_ra
  have hme := method_ra
  go_enter Tryd.func56, Tryd.ntmps56
  go_upto_region 8 with (fail)
  go_cut [10, 11] from 47 to 63 (fun s10 s11 w1 => s10 = .int .i64 m ∧ s11 = .nilIface ∧ Fr [ub] w w1 ∧ Blk w1 ub 5 (splice L 0 (tab m (fun i => U8 (F (off + i))))))
  case first =>
    have hcon := Lib.hid (stAt_any sb ub 0 m uc bb n cap off _ rfl F L w.drew h1m hn hS.ncap hS.sc hS.bytes hL (by omega))
    go_region_held3 (fun w' => w'.cell? ⟨rb, 7, none⟩ = some (.iface 81 (.pointer (some ⟨sb, 0, none⟩))) ∧ w'.cell? ⟨rb, 2, none⟩ = some (.slice (some ⟨ub, 0, none⟩) ul uc))
      (first | go_keep | exact ⟨hf2.cell (by simp; exact hru) h3, hf2.cell (by simp; exact hru) hbc⟩)
      (first | (go_at_call 94; refine hcon.out.mono ?_; rintro e w2 ⟨rfl, hf2, hb2⟩))
    all_goals
      go_wp2_with fail
      go_meet
      case rel => exact ⟨rfl, rfl, (Fr.refl _ _).drew.trans_same hf2, hb2⟩
  case rest =>
    obtain ⟨rfl, rfl, hf, hb2⟩ := hcut
    have h5 := hf.cell (by simp; exact hru) hbc
    go_wp2_with fail
    go_ret2
    exact ⟨rfl, hf, hb2⟩
end Go.Proofs.YtokpomdfgbbhlaaDoor

/- The contract of (*Reader).setHeader over a file whose header is sound. -/
namespace Go.Proofs.YtokpomdfgbbhlaaDoor
open Go Go.RowKit

set_option maxRecDepth 100000 in
set_option maxHeartbeats 1000000 in
theorem setHeader_any (rb sb bb n cap ub uc ss : Nat) (F : Nat → UInt8) (L : List Value) (w : World) (hS : Src w sb bb n cap F) (hn : 512 ≤ n)
    (hrb : Blk w rb 91 (rdCells 0 (.slice (some ⟨ub, 0, none⟩) 512 uc) (.pointer none) (.slice none 0 0) (.slice none 0 0) 0 sb .nilIface)) (huc : 512 ≤ uc ∧ uc ≤ 9223372036854775807)
    (hL : Blk w ub 5 L) (hLl : 512 ≤ L.length) (hH : HdrOK F ss) :
    Calls Tryd.prog 49 #[.pointer (some ⟨rb, 0, none⟩)] w fun e w' =>
      e = .returned .nilIface ∧ Fr [rb, ub] w w' ∧ ∃ hb fb, w.heap.size ≤ hb ∧ w.heap.size ≤ fb ∧
        Blk w' rb 91 (rdCells ss (.slice (some ⟨ub, 0, none⟩) 512 uc) (.pointer (some ⟨hb, 0, none⟩)) (.slice none 0 0) (.slice none 0 0) 0 sb .nilIface) ∧
        Blk w' hb 142 [.pointer (some ⟨fb, 0, none⟩), .slice none 0 0, .slice none 0 0, .slice none 0 0] ∧ Blk w' fb 147 (hdrN F 109) ∧
        ∃ L', Blk w' ub 5 L' ∧ L'.length = L.length := by
  have hru : rb ≠ ub := fun h => by subst h; exact absurd (hrb.unique hL).1 (by decide)
  go_enter Tryd.func49, Tryd.ntmps49
  go_wp2_with fail
  refine (readAt_any rb sb bb n cap 0 512 ub 512 uc F L _ hS (hrb.cell 7) (hrb.cell 0) (hrb.cell 2) huc.1 hL (by omega) (by omega) hLl (by omega) hru).mono ?_
  rintro e w1 ⟨rfl, hf1, hb1⟩
  go_wp2_with fail
  have hrb1 := hrb.fr hf1 (by simpa using hru)
  refine (makeHeader_any ub 512 uc F w1 (by omega) (by omega) huc.1 huc.2 ?_).mono ?_
  · intro i hi
    have := blk_read hb1 (by omega) i hi
    simpa using this
  rintro e w2 ⟨rfl, hf2, hb2⟩
  have hrb2 := hrb1.fr0 hf2
  have l1 := hb2.lt
  have l3 := hrb1.lt
  have l2 := hrb2.lt
  have c3 := hrb2.cell 3
  have z3 := hrb2.frozen 3
  simp only [rdCells] at c3
  have hub2 := hb1.fr0 hf2
  have hz1 := hf1.size
  have hz2 := hf2.size
  have c0 := fun i => hb2.cell i
  have g0 := (c0 0).trans (hdr_sig F)
  rw [hH.sig] at g0
  clear c0
  go_upto_region 5 with (fail)
  go_cut [31] from 21 to 30 (fun s31 w3 => s31 = .bool false ∧ Fr [rb, ub] w w3 ∧ w1.heap.size < w2.heap.size ∧ Blk w3 rb 91 (rdCells 0 (.slice (some ⟨ub, 0, none⟩) 512 uc) (.pointer (some ⟨w2.heap.size, 0, none⟩)) (.slice none 0 0) (.slice none 0 0) 0 sb .nilIface) ∧
      Blk w3 w2.heap.size 142 [.pointer (some ⟨w1.heap.size, 0, none⟩), .slice none 0 0, .slice none 0 0, .slice none 0 0] ∧ Blk w3 w1.heap.size 147 (hdrN F 109) ∧
      ∃ L', Blk w3 ub 5 L' ∧ L'.length = L.length)
  case first =>
    go_wp2_with fail
    go_meet
    case rel =>
      refine ⟨rfl, (((hf1.mono (ms' := [rb, ub]) (by simp)).trans0 hf2).setCell (.inl (by simp)) _).alloc _, l1, (hrb2.set 3 _).alloc _, ?_, (hb2.setOther (by dsimp only; omega) _).alloc _, _, (hub2.setOther (by exact hru) _).alloc _, ?_⟩
      · have := Blk.new' (w2.setCell ⟨rb, 3, none⟩ (.pointer (some ⟨w2.heap.size, 0, none⟩))) 142 #[.pointer (some ⟨w1.heap.size, 0, none⟩), .slice none 0 0, .slice none 0 0, .slice none 0 0]
        simpa using this
      · rw [length_splice _ _ _ (by simp; omega)]
  case rest =>
  obtain ⟨rfl, hf, hlt, hrb, hhb, hfb, hub⟩ := hcut
  have e1 := hrb.cell 1
  have e3 := hrb.cell 3
  have y1 := hrb.frozen 1
  have d0 := hhb.cell 0
  have f21 := (hfb.cell 21).trans (hdr_shift F)
  have f44 := (hfb.cell 44).trans (hdr_ndf F)
  have f42 := (hfb.cell 42).trans (hdr_nmf F)
  have f31 := (hfb.cell 31).trans (hdr_nfat F)
  rw [hH.ndf] at f44
  have hnf := hH.nfat
  have hnm := hH.nmf
  have hmi := hH.mini
  simp only [rdCells] at e1 e3
  obtain ⟨L', hub, hLL⟩ := hub
  have n1 : rb ≠ w2.heap.size := Nat.ne_of_lt l2
  have n2 : rb ≠ w1.heap.size := Nat.ne_of_lt l3
  rcases hH.shift with ⟨h9, rfl⟩ | ⟨h12, rfl⟩
  · rw [h9] at f21
    generalize fld F 64 4 = nmf at *
    generalize fld F 44 4 = nfat at *
    by_cases hnz : 0 < nmf
    · go_upto_region 17 with (fail)
      go_quiet (fail)
      go_upto_region 19 with (fail)
      go_quiet (fail)
      go_wp2_with fail
      go_ret
      exact ⟨rfl, ((hf.setCell (.inl (by simp)) _).drewN _).drewN _, _, _, Nat.le_trans hz1 hz2, hz1, hrb.set 1 _, hhb.setOther (by exact n1) _, hfb.setOther (by exact n2) _, L', hub.setOther (by exact hru) _, hLL⟩
    · go_wp2_with fail
      go_ret
      exact ⟨rfl, (hf.setCell (.inl (by simp)) _), _, _, Nat.le_trans hz1 hz2, hz1, hrb.set 1 _, hhb.setOther (by exact n1) _, hfb.setOther (by exact n2) _, L', hub.setOther (by exact hru) _, hLL⟩
  · rw [h12] at f21
    generalize fld F 64 4 = nmf at *
    generalize fld F 44 4 = nfat at *
    by_cases hnz : 0 < nmf
    · go_upto_region 17 with (fail)
      go_quiet (fail)
      go_upto_region 19 with (fail)
      go_quiet (fail)
      go_wp2_with fail
      go_ret
      exact ⟨rfl, ((hf.setCell (.inl (by simp)) _).drewN _).drewN _, _, _, Nat.le_trans hz1 hz2, hz1, hrb.set 1 _, hhb.setOther (by exact n1) _, hfb.setOther (by exact n2) _, L', hub.setOther (by exact hru) _, hLL⟩
    · go_wp2_with fail
      go_ret
      exact ⟨rfl, (hf.setCell (.inl (by simp)) _), _, _, Nat.le_trans hz1 hz2, hz1, hrb.set 1 _, hhb.setOther (by exact n1) _, hfb.setOther (by exact n2) _, L', hub.setOther (by exact hru) _, hLL⟩
end Go.Proofs.YtokpomdfgbbhlaaDoor

/- The contract of (*Reader).setDifats where the header names no sectors of the DIFAT. -/
namespace Go.Proofs.YtokpomdfgbbhlaaDoor
open Go Go.RowKit

/-- The cells of a header. -/
def hdCells (fb : Nat) (difats mf ms : Value) : List Value := [.pointer (some ⟨fb, 0, none⟩), difats, mf, ms]

set_option maxRecDepth 100000 in
set_option maxHeartbeats 1000000 in
theorem setDifats_any (rb hb fb : Nat) (F : Nat → UInt8) (w : World) (h3 : w.cell? ⟨rb, 3, none⟩ = some (.pointer (some ⟨hb, 0, none⟩)))
    (hhb : Blk w hb 142 (hdCells fb (.slice none 0 0) (.slice none 0 0) (.slice none 0 0))) (hfb : Blk w fb 147 (hdrN F 109)) (hnd : fld F 72 4 = 0) (hrh : rb ≠ hb) :
    Calls Tryd.prog 50 #[.pointer (some ⟨rb, 0, none⟩)] w fun e w' =>
      e = .returned .nilIface ∧ Fr [hb] w w' ∧ Blk w' hb 142 (hdCells fb (.slice (some ⟨fb, 45, none⟩) 109 109) (.slice none 0 0) (.slice none 0 0)) := by
  have d0 := hhb.cell 0
  have d1 := hhb.cell 1
  have z1 := hhb.frozen 1
  have f44 := (hfb.cell 44).trans (hdr_ndf F)
  rw [hnd] at f44
  have hhf : fb ≠ hb := fun h => by subst h; exact absurd (hfb.unique hhb).1 (by decide)
  simp only [hdCells] at d0 d1
  go_enter Tryd.func50, Tryd.ntmps50
  go_wp2_with fail
  go_region
  go_wp2_with fail
  go_ret
  exact ⟨rfl, ((Fr.refl _ _).drew.setCell (.inl (by simp)) _), hhb.drew.set 1 _⟩
end Go.Proofs.YtokpomdfgbbhlaaDoor

/- The contract of (*Reader).setDirEntries over a sound directory. -/
namespace Go.Proofs.YtokpomdfgbbhlaaDoor
open Go Go.RowKit Go.Maps

/-- The files e < E lie in memory. -/
def Files (w : World) (base rb : Nat) (G : Nat → Nat → UInt8) (P : Nat → EntP) (fk dk : Nat → Nat) (E : Nat) : Prop :=
  ∀ e, e < E → base ≤ fk e ∧ base ≤ dk e ∧ Blk w (fk e) 95 (flCells (P e).name (P e).init (.slice none 0 0) (P e).size 0 (fld (G e) 116 4) 0 (dk e) rb) ∧ Blk w (dk e) 119 (tab 69 (dirL12 (G e)))

theorem Files.fr {w w' : World} {base rb : Nat} {G : Nat → Nat → UInt8} {P : Nat → EntP} {fk dk : Nat → Nat} {E : Nat} {ms : List Nat} (h : Files w base rb G P fk dk E) (f : Fr ms w w')
    (h1 : ∀ e, e < E → fk e ∉ ms) (h2 : ∀ e, e < E → dk e ∉ ms) : Files w' base rb G P fk dk E := fun e he => by
  obtain ⟨a, b, c, d⟩ := h e he
  exact ⟨a, b, c.fr f (h1 e he), d.fr f (h2 e he)⟩

theorem info92 : (Tryd.prog.info? 92).map (fun i => (i.zero, i.size, i.bytes)) = some (some (.pointer none), 1, 8) := by kernel_rfl

theorem fixFile_ok (v fk d : Nat) (p : EntP) (path : Value) (i : Int) (cur : Nat) (rem : Int) (r : Nat) (G : Nat → UInt8) (w : World)
    (hf : Blk w fk 95 (flCells ByteArray.empty 0 path 0 i cur rem d r)) (hd : Blk w d 119 (tab 69 (dirL12 G))) (hp : EntOK G p)
    (hpr : ∀ i, 65 ≤ i → i ≤ 90 → w.cell? ⟨2, i, none⟩ = some (.int .u8 160)) (h2 : fk ≠ 2) :
    Calls Tryd.prog 61 #[.int .u16 v, .pointer (some ⟨fk, 0, none⟩)] w fun e w' => e = .returned (.tuple #[]) ∧ Fr [fk] w w' ∧ Blk w' fk 95 (flCells p.name p.init path p.size i cur rem d r) := by
  rcases hp with ⟨a, b, c, e, f⟩ | ⟨m, sz, a1, a2, a3, a4, a5, a6, a7, a8, a9, b1, b2, b3⟩
  · refine (fixFile_unused v fk d _ _ path 0 i cur rem r G w hf hd a b).mono ?_
    rintro e' w' ⟨rfl, rfl⟩
    rw [c, e, f]
    exact ⟨rfl, Fr.refl _ _, hf⟩
  · rw [b1, b2]
    exact fixFile_any v fk d _ _ path i cur rem r G m sz w hf hd a1 a2 a3 (fun i hi => a4 i (by omega)) a5 a6 (hpr _ a5 a6) h2 a7 a8 a9 _ b3

theorem findNext_at (rb hb fb sb bb n cap ss sn : Nat) (F : Nat → UInt8) (buf file dir mf ms wa : Value) (entry : Int) (w : World) (hS : Src w sb bb n cap F)
    (hrb : Blk w rb 91 (rdCells ss buf (.pointer (some ⟨hb, 0, none⟩)) file dir entry sb wa)) (hhb : Blk w hb 142 (hdCells fb (.slice (some ⟨fb, 45, none⟩) 109 109) mf ms)) (hfb : Blk w fb 147 (hdrN F 109))
    (hss : ss = 512 ∨ ss = 4096) (hat : FatAt F n ss sn) :
    Calls Tryd.prog 62 #[.pointer (some ⟨rb, 0, none⟩), .int .u32 sn, .bool false] w fun e w' => e = .returned (.tuple #[.int .u32 (fatNext F ss sn), .nilIface]) ∧ Fr [] w w' :=
  findNext_reg rb hb sb bb ss n cap sn fb F _ w hS (hrb.cell 1) (hrb.cell 3) (hrb.cell 7) hss hat.idx hat.loc (hhb.cell 1) ((hfb.cell _).trans (hdrN_tab F 109 _ (Nat.le_refl _) hat.idx)) hat.here

/-- One file more behind the row. -/
theorem dir_step {w w2 w3 w5 : World} {rb ub N fkb mb : Nat} {B : Nat → Nat → UInt8} {P : Nat → EntP} {fk dk : Nat → Nat} {u4 v' : Value} {S : Nat → Prop} {L2 l0 : List Value} {o : Obj}
    (lw : w.heap.size ≤ fkb) (hlu : ub < w.heap.size) (hfr2 : Fr [ub] w w2) (hbu2 : Blk w2 ub 5 L2) (hfi2 : Files w2 w.heap.size rb B P fk dk N) (hlt : ∀ e, e < N → fk e < fkb ∧ dk e < fkb)
    (hmo : ∀ a b, a < b → b < N → fk a < fk b ∧ dk a < dk b) (hown2 : w2.ownsRow w.heap.size 92 1 u4 N (tab N (fun e => .pointer (some ⟨fk e, 0, none⟩)))) (hms2 : MSet w2 mb S) (hbk2 : Blk w2 fkb 95 l0)
    (hbd2 : Blk w2 (fkb + 1) 119 (tab 69 (dirL12 (B N)))) (hf24 : Fr [fkb] w2 w3) (hbk4 : Blk w3 fkb 95 (flCells (P N).name (P N).init (.slice none 0 0) (P N).size 0 0 0 (fkb + 1) rb))
    (hown5 : w5.ownsRow w.heap.size 92 1 v' (N + 1) (tab N (fun e => .pointer (some ⟨fk e, 0, none⟩)) ++ [.pointer (some ⟨fkb, 0, none⟩)]))
    (hg : ((w3.setCell ⟨fkb, 5, none⟩ (.int .u32 (fld (B N) 116 4))).alloc o).grownBy w5 u4.ownBlock) :
    ∃ fk' dk', Fr [ub] w w5 ∧ Files w5 w.heap.size rb B P fk' dk' (N + 1) ∧ (∀ a b, a < b → b < N + 1 → fk' a < fk' b ∧ dk' a < dk' b) ∧
      w5.ownsRow w.heap.size 92 1 v' (N + 1) (tab (N + 1) (fun e => .pointer (some ⟨fk' e, 0, none⟩))) ∧ MSet w5 mb S ∧ Blk w5 ub 5 L2 := by
  have n1 := own_ne hown2 hbk2 (by decide)
  have n2 := own_ne hown2 hbu2 (by decide)
  have n3 := own_mset hown2 hms2
  have n4 := own_ne hown2 hbd2 (by decide)
  have hF : Fr (fkb :: u4.ownBlock.toList) w2 w5 := by
    have a1 : Fr [fkb] w2 ((w3.setCell ⟨fkb, 5, none⟩ (.int .u32 (fld (B N) 116 4))).alloc o) := (hf24.setCell (.inl (by simp)) _).alloc _
    exact (a1.mono (fun x hx => .inl (by simp at hx; simp [hx]))).trans (Fr.of_grown hg) (fun x hx => .inl (by simp at hx; simp [hx]))
  have e5 : Blk w5 fkb 95 (flCells (P N).name (P N).init (.slice none 0 0) (P N).size 0 (fld (B N) 116 4) 0 (fkb + 1) rb) := by
    have := (hbk4.set 5 (.int .u32 (fld (B N) 116 4))).alloc o
    exact this.fr (Fr.of_grown hg) n1
  refine ⟨fun e => if e = N then fkb else fk e, fun e => if e = N then fkb + 1 else dk e, ?_, ?_, ?_, ?_, ?_, ?_⟩
  · refine hfr2.trans hF ?_
    intro x hx
    simp only [List.mem_cons, Option.mem_toList, Option.mem_def] at hx
    rcases hx with rfl | hx
    · exact .inr lw
    · exact .inr (hown2.lt x hx).1
  · intro e he
    by_cases h : e = N
    · subst h
      simp only [if_true]
      refine ⟨lw, by omega, e5, ?_⟩
      exact hbd2.fr hF (by simp only [List.mem_cons]; rintro (h | h); omega; exact n4 h)
    · simp only [if_neg h]
      obtain ⟨a, b, c, d⟩ := hfi2 e (by omega)
      have := hlt e (by omega)
      exact ⟨a, b, c.fr hF (by simp only [List.mem_cons]; rintro (h | h); omega; exact own_ne hown2 c (by decide) h), d.fr hF (by simp only [List.mem_cons]; rintro (h | h); omega; exact own_ne hown2 d (by decide) h)⟩
  · intro a b hab hb
    by_cases h : b = N
    · have := hlt a (by omega)
      have ha : ¬ a = N := by omega
      simp only [if_pos h, if_neg ha]; omega
    · have ha : ¬ a = N := by omega
      simp only [if_neg h, if_neg ha]
      exact hmo a b hab (by omega)
  · rw [tab_snoc]
    simp only [if_true]
    rw [tab_congr (g' := fun e => .pointer (some ⟨fk e, 0, none⟩)) (fun i hi => by rw [if_neg (by omega)])]
    exact hown5
  · exact hms2.fr hF (by simp only [List.mem_cons]; rintro (h | h); exact hms2.notBlk hbk2 h; exact n3 h)
  · exact hbu2.fr hF (by simp only [List.mem_cons]; rintro (h | h); omega; exact n2 h)

set_option maxRecDepth 100000 in
set_option maxHeartbeats 1000000 in
theorem setDir_any (rb hb fb sb bb n cap ub ul uc ss : Nat) (F : Nat → UInt8) (L : List Value) (m : Nat) (cs : Nat → Nat) (P : Nat → EntP) (w : World) (hS : Src w sb bb n cap F) (hn : n ≤ 1000000)
    (hss : ss = 512 ∨ ss = 4096)
    (hrb : Blk w rb 91 (rdCells ss (.slice (some ⟨ub, 0, none⟩) ul uc) (.pointer (some ⟨hb, 0, none⟩)) (.slice none 0 0) (.slice none 0 0) 0 sb .nilIface)) (huc : ul ≤ uc ∧ uc ≤ 9223372036854775807) (hul : ss ≤ ul)
    (hhb : Blk w hb 142 (hdCells fb (.slice (some ⟨fb, 45, none⟩) 109 109) (.slice none 0 0) (.slice none 0 0))) (hfb : Blk w fb 147 (hdrN F 109))
    (hL : Blk w ub 5 L) (hLl : ss ≤ L.length) (hub : bb ≠ ub) (hsu0 : sb ≠ ub) (hp : ∀ i, 65 ≤ i → i ≤ 90 → w.cell? ⟨2, i, none⟩ = some (.int .u8 160)) (h2u : 2 ≠ ub) (h2w : 2 < w.heap.size)
    (hmaj : fld F 26 2 = 3 ∨ (fld F 26 2 = 4 ∧ 1 ≤ fld F 40 4 ∧ fld F 40 4 ≤ 64000)) (hch : Chain F n ss (fld F 48 4) m cs) (hc1 : 1 ≤ m) (hc2 : m ≤ 1000)
    (hP : ∀ e, e < m * (ss / 128) → EntOK (entB F ss cs e) (P e)) :
    Calls Tryd.prog 51 #[.pointer (some ⟨rb, 0, none⟩)] w fun e w' =>
      e = .returned .nilIface ∧ Fr [rb, ub] w w' ∧ ∃ fk dk v, Files w' w.heap.size rb (entB F ss cs) P fk dk (m * (ss / 128)) ∧ (∀ i j, i < j → j < m * (ss / 128) → fk i < fk j ∧ dk i < dk j) ∧
        w'.ownsRow w.heap.size 92 1 v (m * (ss / 128)) (tab (m * (ss / 128)) (fun e => .pointer (some ⟨fk e, 0, none⟩))) ∧
        Blk w' rb 91 (rdCells ss (.slice (some ⟨ub, 0, none⟩) ul uc) (.pointer (some ⟨hb, 0, none⟩)) (.slice none 0 0) v 0 sb .nilIface) ∧
        ∃ L', Blk w' ub 5 L' ∧ L'.length = L.length := by
  have r1 : w.cell? ⟨rb, 1, none⟩ = some (.int .u32 ss) := hrb.cell 1
  have r3 : w.cell? ⟨rb, 3, none⟩ = some (.pointer (some ⟨hb, 0, none⟩)) := hrb.cell 3
  have d0 : w.cell? ⟨hb, 0, none⟩ = some (.pointer (some ⟨fb, 0, none⟩)) := hhb.cell 0
  have f18 := (hfb.cell 18).trans (hdr_major F)
  have f30 := (hfb.cell 30).trans (hdr_ndir F)
  have f32 := (hfb.cell 32).trans (hdr_dir F)
  have lr := hrb.lt
  have lh := hhb.lt
  have lf := hfb.lt
  go_enter Tryd.func51, Tryd.ntmps51
  go_upto_region 2 with (fail)
  go_cut [36] from 13 to 35 (fun s36 w1 => w = w1 ∧ ((s36 = .bool false) ∨ (s36 = .bool true ∧ 1 ≤ fld F 40 4 ∧ fld F 40 4 ≤ 64000)))
  case first =>
    rcases hmaj with h | ⟨h, hx, hy⟩
    · rw [h] at f18
      clear h
      go_wp2_with fail
      go_meet
      case rel => exact ⟨rfl, .inl rfl⟩
    · rw [h] at f18
      clear h
      have hxN : decide (0 < fld F 40 4) = true := by simp; omega
      go_wp2_with fail
      go_meet
      case rel => exact ⟨rfl, .inr ⟨rfl, hx, hy⟩⟩
  case rest =>
  obtain ⟨rfl, hs36⟩ := hcut
  go_upto_if 36 with (fail)
  go_cut [3] from 37 to 58 (fun s3 w1 => w = w1 ∧ ∃ c : Nat, 1 ≤ c ∧ c ≤ 64000 ∧ s3 = .int .i64 c)
  case first =>
    rcases hs36 with rfl | ⟨rfl, hx, hy⟩
    · go_wp2_with fail
      go_meet
      case rel => exact ⟨rfl, 20, by omega, by omega, rfl⟩
    · have hyI : (fld F 40 4 : Int) ≤ 64000 := by omega
      go_wp2_with fail
      go_meet
      case rel => exact ⟨rfl, fld F 40 4, by omega, by omega, rfl⟩
  case rest =>
  obtain ⟨rfl, c, hc1', hc2', rfl⟩ := hcut
  have h0 : (1 : Nat) ≤ 1 := Nat.le_refl 1
  obtain ⟨i0, hi, hz0, hz1, hz2⟩ := info_parts info92
  have hmm := @run_makeMap Tryd.prog
  have HP := Lib.hid hP
  clear hP
  have hPR := Lib.hid hp
  clear hp
  generalize hnum : ss / 128 = num at *
  have hnumI : (ss : Int) / 128 = (num : Int) := by omega
  have hRB := Lib.hid hrb
  have hHB := Lib.hid hhb
  have hFB := Lib.hid hfb
  have hCH := Lib.hid hch
  clear hch
  have hSS := Lib.hid hss
  clear hss
  have hnw : (num : Int) % 4294967296 = num := by have := hSS.out; omega
  have hn2 : num = 4 ∨ num = 32 := by have := hSS.out; omega
  have hs512 : 512 ≤ ss ∧ ss ≤ 4096 := by have := hSS.out; omega
  have hrul : rb ≠ ub := fun h => by subst h; exact absurd (hrb.unique hL).1 (by decide)
  have hhu : hb ≠ ub := fun h => by subst h; exact absurd (hhb.unique hL).1 (by decide)
  have hfu : fb ≠ ub := fun h => by subst h; exact absurd (hfb.unique hL).1 (by decide)
  have hsu : sb ≠ ub := hsu0
  go_upto_region 6 with (fail)
  go_wp2_with (refine wpList_make_own _ rfl _ _ 85 rfl w.heap.size 92 i0 (.pointer none) 1 Tryd.underlying85 hi hz0 hz1 .i64 .i64 (c : Int) c rfl rfl rfl (by rw [hz2]; omega) (by unfold maxLen; omega) (Nat.le_refl _) ?_; intro w1 hown1 hg1; have hf1 : Fr [] w (w1.alloc (Obj.map #[] 0)) := Fr.alloc (Fr.of_grown hg1) _; have q1 := hf1.cell0 r1; have q3 := hf1.cell0 r3; have q0 := hf1.cell0 d0; have q32 := hf1.cell0 f32)
  have hms := MSet.made w1 (fun k => ∃ i, 1 ≤ i ∧ i ≤ 0 ∧ k = cs i)
  have hmb : w.heap.size ≤ w1.heap.size := hg1.size
  generalize w1.heap.size = mb at *
  go_loopw [2, 4, 7] (fun s2 s4 s7 wr => ∃ (j : Nat) (fk dk : Nat → Nat), j ≤ m ∧ s2 = .nilIface ∧ s7 = .int .u32 (cs j : Nat) ∧ Fr [ub] w wr ∧ Files wr w.heap.size rb (entB F ss cs) P fk dk (j * num) ∧ (∀ a b, a < b → b < j * num → fk a < fk b ∧ dk a < dk b) ∧
      wr.ownsRow w.heap.size 92 1 s4 (j * num) (tab (j * num) (fun e => .pointer (some ⟨fk e, 0, none⟩))) ∧ MSet wr mb (fun k => ∃ i, 1 ≤ i ∧ i ≤ j ∧ k = cs i) ∧ ∃ L', Blk wr ub 5 L' ∧ L'.length = L.length) (fun _ s4 _ _ => m * num - lenOf s4)
  case atStart => 
    refine ⟨0, fun _ => 0, fun _ => 0, by omega, rfl, ?_, hf1.mono (by simp), ?_, ?_, ?_, hms, L, hL.fr0 hf1, rfl⟩
    · rw [hCH.out.first]
    · intro e he; omega
    · intro a b _ hb; omega
    · simp only [Nat.zero_mul]
      exact hown1.alloc _
  case round =>
    obtain ⟨j, fk, dk, hj, rfl, rfl, hf, hfi, hmo, hown, hmset, L', hb', hl'⟩ := hrel
    by_cases hlt : j < m
    · have hsn := hCH.out.low j hlt
      have hne : decide (cs j = 4294967294) = false := by simp; omega
      go_wp2_with fail
      go_cut [8, 9] from 78 to 95 (fun s8 s9 w2 => s8 = .slice (some ⟨ub, 0, none⟩) ss uc ∧ s9 = .nilIface ∧ Fr [ub] wr w2 ∧ Blk w2 ub 5 (splice L' 0 (tab ss (fun i => U8 (F ((cs j + 1) * ss + i))))))
      case first =>
        generalize hA : (cs j + 1) * ss = A at *
        clear hPR HP hmm hfi hmo hown hmset hown1 hg1 hms hi hz0 hz1 hz2 hs36 hmaj f18 f30 f32 d0 r3 q1 q3 q0 q32 r1
        have hW : wr.drew.drew = wr.drewN 2 := rfl
        have hrb2 := hRB.out.fr hf (by simpa using hrul)
        have hcon1 := Lib.hid (fun w0 => fileOffset_any ss (cs j) A hA w0 (by omega) (by omega))
        have hcon := Lib.hid (fun w0 (f0 : Fr [] wr w0) => readAt_any rb sb bb n cap A ss ub ul uc F L' w0 ((hS.fr hf (by simpa using hsu) (by simpa using hub)).fr0 f0) ((hrb2.fr0 f0).cell 7) ((hrb2.fr0 f0).cell 0) ((hrb2.fr0 f0).cell 2) huc.1 (hb'.fr0 f0) (by omega) (by omega) (by omega) (by omega) hrul)
        have q1w : wr.cell? ⟨rb, 1, none⟩ = some (.int .u32 ss) := hrb2.cell 1
        have hB := Lib.hid hb'
        clear hb' hrb hhb hfb hL hS
        have hAn := hsn.2
        have hc16 := hsn.1
        clear hsn hne hA
        have hs5 : ss ≤ 4096 := hs512.2
        have hs6 : IntKind.i64.wrap (ss : Int) = ss := by unfold IntKind.wrap; simp [IntKind.bits, IntKind.signed]; omega
        go_region_held3 (fun w' => w'.cell? ⟨rb, 1, none⟩ = some (.int .u32 ss))
          (first | go_keep | exact (hrb2.drew.fr hf3 (by simpa using hrul)).cell 1)
          (first | (go_at_call 58; refine (hcon1.out _).mono ?_; rintro e w3 ⟨rfl, rfl⟩) | (go_at_call 56; refine (hcon.out _ ((Fr.refl _ _).drew)).mono ?_; rintro e w3 ⟨rfl, hf3, hb3⟩))
        all_goals
          go_wp2_with fail
          go_meet
          case rel => exact ⟨rfl, rfl, (Fr.refl _ _).drew.trans_same hf3, hb3⟩
      case rest =>
        obtain ⟨rfl, rfl, hf2, hb2⟩ := hcut
        have hfw := hf.trans_same hf2
        have hfi2 := hfi.fr hf2 (fun e he => by simp; intro h; have := (hfi e he).1; have := hL.lt; omega) (fun e he => by simp; intro h; have := (hfi e he).2.1; have := hL.lt; omega)
        have hown2 := own_fr hown hf2 (fun k hk => by simp; rintro rfl; have := (hown.lt _ hk).1; have := hL.lt; omega)
        have hms2 := hmset.fr hf2 (by simpa using hmset.notBlk hb')
        generalize hLL : splice L' 0 (tab ss (fun i => U8 (F ((cs j + 1) * ss + i)))) = L2 at hb2
        have hLread : ∀ i, i < ss → L2[i]? = some (U8 (F ((cs j + 1) * ss + i))) := fun i hi => by rw [← hLL, splice_get _ _ _ (by simp; omega), if_pos (by simp; omega), Nat.sub_zero, tab_get _ _ _ hi]
        have hlen0 := own_len hown
        have hL2 : L2.length = L.length := by rw [← hLL, length_splice _ _ _ (by simp; omega)]; exact hl'
        clear hLL hb' hf hf2 hfi hown hmset
        go_wp2_with fail
        go_loopw [4, 10] (fun s4 s10 wi => ∃ (k : Nat) (fk dk : Nat → Nat), k ≤ num ∧ s10 = .int .i64 k ∧ Fr [ub] w wi ∧ Files wi w.heap.size rb (entB F ss cs) P fk dk (j * num + k) ∧ (∀ a b, a < b → b < j * num + k → fk a < fk b ∧ dk a < dk b) ∧
          wi.ownsRow w.heap.size 92 1 s4 (j * num + k) (tab (j * num + k) (fun e => .pointer (some ⟨fk e, 0, none⟩))) ∧ MSet wi mb (fun k => ∃ i, 1 ≤ i ∧ i ≤ j ∧ k = cs i) ∧ Blk wi ub 5 L2) (fun _ s10 _ => num - (intOf s10).toNat)
        case atStart => exact ⟨0, fk, dk, by omega, rfl, hfw, hfi2, hmo, hown2, hms2, hb2⟩
        case round =>
          clear hfw hfi2 hmo hown2 hms2 hb2
          clear fk dk
          obtain ⟨k, fk, dk, hk, rfl, hf, hfi, hmo, hown, hmset, hbu⟩ := hrel
          by_cases hkn : k < num
          · have hknI : (k : Int) < (num : Int) := by omega
            go_wp2_with fail
            have hent : ∀ x, entB F ss cs (j * num + k) x = F ((cs j + 1) * ss + k * 128 + x) := by
              intro x
              unfold entB
              rw [hnum, Nat.mul_comm j num, Nat.mul_add_div (by omega), Nat.mul_add_mod, Nat.div_eq_of_lt hkn, Nat.mod_eq_of_lt hkn]; simp
            have hEok := HP.out (j * num + k) (by have := Nat.mul_le_mul_right num hlt; rw [Nat.succ_mul] at this; omega)
            have hfiA := hfi
            generalize hG : entB F ss cs (j * num + k) = G at *
            have hfk : Fr [] wr (wr.alloc (Obj.cells #[Value.string { data := #[] }, Value.int IntKind.u16 0, Value.slice none 0 0, Value.int IntKind.i64 0, Value.int IntKind.i64 0, Value.int IntKind.u32 0, Value.int IntKind.i64 0, Value.pointer none, Value.pointer (some { block := rb, off := 0 })] 95)) := (Fr.refl _ _).alloc _
            have hbk := Blk.new' wr 95 #[Value.string { data := #[] }, Value.int IntKind.u16 0, Value.slice none 0 0, Value.int IntKind.i64 0, Value.int IntKind.i64 0, Value.int IntKind.u32 0, Value.int IntKind.i64 0, Value.pointer none, Value.pointer (some { block := rb, off := 0 })]
            refine (makeDirEntry_any ub (k * 128) (ss - k * 128) (uc - k * 128) G _ (by omega) (by omega) (by omega) (by omega) ?_).mono ?_
            · intro i hi
              rw [hent, Nat.add_assoc]
              exact hfk.cell0 ((hbu.cell (k * 128 + i)).trans (hLread _ (by omega)))
            rintro e w2 ⟨rfl, hf2, hbd⟩
            have hbk2 := hbk.fr0 hf2
            have k7 := hbk2.cell 7
            have z7 := hbk2.frozen 7
            have hfr2 := hf.trans0 (hfk.trans0 hf2)
            have hbu2 := hbu.fr0 (hfk.trans0 hf2)
            have hfi2 := hfi.fr (hfk.trans0 hf2) (by simp) (by simp)
            have hown2 := own_fr hown (hfk.trans0 hf2) (by simp)
            have hms2 := hmset.fr (hfk.trans0 hf2) (by simp)
            have hfks : (wr.alloc (Obj.cells #[Value.string { data := #[] }, Value.int IntKind.u16 0, Value.slice none 0 0, Value.int IntKind.i64 0, Value.int IntKind.i64 0, Value.int IntKind.u32 0, Value.int IntKind.i64 0, Value.pointer none, Value.pointer (some { block := rb, off := 0 })] 95)).heap.size = wr.heap.size + 1 := by simp
            rw [hfks] at hbd
            have HG := Lib.hid hG
            clear hbk hfk hf2 hG
            generalize hfb' : wr.heap.size = fkb at *
            have lw : w.heap.size ≤ fkb := by rw [← hfb']; exact hf.size
            have q3' : w2.cell? ⟨rb, 3, none⟩ = some (.pointer (some ⟨hb, 0, none⟩)) := hfr2.cell (by simpa using hrul) r3
            have q0' : w2.cell? ⟨hb, 0, none⟩ = some (.pointer (some ⟨fb, 0, none⟩)) := hfr2.cell (by simpa using hhu) d0
            have q18' : w2.cell? ⟨fb, 18, none⟩ = some (.int .u16 (fld F 26 2 : Nat)) := hfr2.cell (by simpa using hfu) f18
            have n1 : rb ≠ fkb := by omega
            have n2 : hb ≠ fkb := by omega
            have n3 : fb ≠ fkb := by omega
            have hlu := hL.lt
            have HEok := Lib.hid hEok
            clear hEok hent hfks hown hmset hbu hfi hf
            go_wp2_with fail
            have hbk3 : Blk (w2.setCell ⟨fkb, 7, none⟩ (.pointer (some ⟨fkb + 1, 0, none⟩))) fkb 95 (flCells ByteArray.empty 0 (.slice none 0 0) 0 0 0 0 (fkb + 1) rb) := hbk2.set 7 _
            have hbd3 : Blk (w2.setCell ⟨fkb, 7, none⟩ (.pointer (some ⟨fkb + 1, 0, none⟩))) (fkb + 1) 119 (tab 69 (dirL12 G)) := hbd.setOther (by simp) _
            have hf3 : Fr [fkb] w2 (w2.setCell ⟨fkb, 7, none⟩ (.pointer (some ⟨fkb + 1, 0, none⟩))) := (Fr.refl _ _).setCell (.inl (by simp)) _
            refine (fixFile_ok _ fkb (fkb + 1) (P (j * num + k)) (.slice none 0 0) 0 0 0 rb G _ hbk3 hbd3 HEok.out ?_ ?_).mono ?_
            · intro i h1 h2
              exact hf3.cell (by simp; omega) (hfr2.cell (by simpa using h2u) (hPR.out i h1 h2))
            · omega
            rintro e w3 ⟨rfl, hf4, hbk4⟩
            have hbd4 := hbd3.fr hf4 (by simp)
            have hf24 := hf3.trans_same hf4
            clear hbk3 hbd3 hf3 hf4 k7 z7 q3' q0' q18'
            have k7 : w3.cell? ⟨fkb, 7, none⟩ = some (.pointer (some ⟨fkb + 1, 0, none⟩)) := hbk4.cell 7
            have k5 : w3.cell? ⟨fkb, 5, none⟩ = some (.int .u32 0) := hbk4.cell 5
            have z5 := hbk4.frozen 5
            have d60 := (hbd4.cell 60).trans (dir_start G)
            have hfs : ∀ e, e < j * num + k → fk e < fkb ∧ dk e < fkb := fun e he => by rw [← hfb']; exact ⟨(hfiA e he).2.2.1.lt, (hfiA e he).2.2.2.lt⟩
            have hjk : j * num + k ≤ 32000 := by
              have := Nat.mul_le_mul (show j ≤ 999 by omega) (show num ≤ 32 by omega)
              omega
            have hf5 : Fr [fkb] w3 (w3.setCell ⟨fkb, 5, none⟩ (.int .u32 (fld G 116 4 : Nat))) := (Fr.refl _ _).setCell (.inl (by simp)) _
            have hown4 := own_fr hown2 (hf24.trans_same hf5) (fun k hk => by simp; rintro rfl; exact own_ne hown2 hbk2 (by decide) (by simp [hk]))
            have hsz4 : w.heap.size ≤ (w3.setCell ⟨fkb, 5, none⟩ (.int .u32 (fld G 116 4 : Nat))).heap.size := by have := hfr2.size; have := (hf24.trans_same hf5).size; omega
            have hsz5 : (w3.setCell ⟨fkb, 5, none⟩ (.int .u32 (fld G 116 4 : Nat))).heap.size = w3.heap.size := by simp
            have HO := Lib.hid hown4
            have HI := Lib.hid hfi2
            have HO2 := Lib.hid hown2
            have HM := Lib.hid hms2
            have HM2 := Lib.hid hmo
            have HFS := Lib.hid hfs
            clear hown4 hfi2 hown2 hms2 hmo hfs hfiA hf5
            go_upto_region 21 with (fail)
            have hS5 := Lib.hid (hbk4.set 5 (.int .u32 (fld G 116 4 : Nat)))
            clear hsz5
            generalize hw4 : w3.setCell ⟨fkb, 5, none⟩ (.int .u32 (fld G 116 4 : Nat)) = w4 at *
            go_wp2_with (at_builtin; refine wpList_append_own _ rfl (.tmp 148) (.tmp 150) 85 rfl w.heap.size 92 i0 (.pointer none) 1 8 Tryd.underlying85 hi hz0 hz1 hz2 rfl (by decide) _ _ _ rfl (HO.out.alloc _) ⟨w4.heap.size, 0, none⟩ 1 1 [.pointer (some ⟨fkb, 0, none⟩)] rfl rfl ?c1 ?c2 ?c3 ?c4 ?c5 ?_; rotate_left; rotate_left; rotate_left; rotate_left; rotate_left; intro v' w5 hown5 hg5 _)
            case c1 =>
              exact cell_one_new _ _ _
            case c2 => simp [Value.oneCell']
            case c3 => unfold maxLen; omega
            case c4 => omega
            case c5 => simp; omega
            subst hw4
            obtain rfl := HG.out
            obtain ⟨fk', dk', z1, z2, z3, z4, z5, z6⟩ := dir_step lw hlu hfr2 hbu2 HI.out HFS.out HM2.out HO2.out HM.out hbk2 hbd hf24 hbk4 hown5 hg5
            go_wp2_with fail
            go_roundw
            case rel => exact ⟨k + 1, fk', dk', by omega, by go_num, z1, z2, z3, z4, z5, z6⟩
            case measure => simp [intOf]; omega
          · have hknI : ¬ (k : Int) < (num : Int) := by omega
            obtain rfl : num = k := by omega
            have hat := hCH.out.at_ j hlt
            have hnx := hCH.out.next j hlt
            have hnx4 : (j + 1 < m ∧ cs (j + 1) ≤ 65535) ∨ (j + 1 = m ∧ cs (j + 1) = 4294967294) := by
              by_cases h : j + 1 < m
              · exact .inl ⟨h, (hCH.out.low _ h).1⟩
              · have e : j + 1 = m := by omega
                right; exact ⟨e, by rw [e]; exact hCH.out.last⟩
            have hnS : cs (j + 1) ≤ cs j → ¬ ∃ i, 1 ≤ i ∧ i ≤ j ∧ cs (j + 1) = cs i := by
              intro h ⟨i, a, b, c⟩
              exact hCH.out.nodup i (j + 1) (by omega) (by omega) c.symm
            have hne1 : cs (j + 1) ≤ cs j → cs j ≠ cs (j + 1) := by
              intro h
              exact hCH.out.nodup j (j + 1) (by omega) (by omega)
            have hlen1 := own_len hown
            have hmul : (j + 1) * num ≤ m * num := Nat.mul_le_mul_right num hlt
            have hsuc : (j + 1) * num = j * num + num := by rw [Nat.succ_mul]
            have hrel : ∀ S : Nat → Prop, S = S := fun _ => rfl
            go_wp2_with fail
            refine (findNext_at rb hb fb sb bb n cap ss (cs j) F _ _ _ _ _ _ _ _ (hS.fr hf (by simpa using hsu) (by simpa using hub)) (hRB.out.fr hf (by simpa using hrul)) (hHB.out.fr hf (by simpa using hhu)) (hFB.out.fr hf (by simpa using hfu)) hSS.out hat).mono ?_
            rintro e w6 ⟨rfl, hf6⟩
            rw [hnx]
            have y1 := hf.trans0 hf6
            have y2 := hfi.fr hf6 (by simp) (by simp)
            have y3 := own_fr hown hf6 (by simp)
            have y4 := hmset.fr hf6 (by simp)
            have y5 := hbu.fr0 hf6
            rw [← hsuc] at y2 y3 hmo
            by_cases hle : cs (j + 1) ≤ cs j
            · have q1 : decide (cs (j + 1) ≤ cs j) = true := by simpa using hle
              have q2 : decide (cs (j + 1) = cs j) = false := by simpa using fun h => hne1 hle h.symm
              have q2' : ¬ (cs (j + 1) = cs j) := fun h => hne1 hle h.symm
              have q3 := y4.run_lookup (cs (j + 1)) (by omega) (hnS hle)
              go_wp2_with (at_mapUpdate; refine wpList_update_mset rfl _ _ _ rfl mb _ rfl y4 (cs (j + 1)) rfl (by omega) (hnS hle) ?_; intro w7 hf7 hm7)
              go_roundw
              case rel =>
                have n1 : mb ≠ ub := y4.notBlk y5
                refine ⟨j + 1, fk, dk, by omega, rfl, by go_num, y1.trans hf7 (fun x hx => .inr (by simp at hx; omega)), y2.fr hf7 (fun e he => by simp; exact fun h => y4.notBlk (y2 e he).2.2.1 h.symm) (fun e he => by simp; exact fun h => y4.notBlk (y2 e he).2.2.2 h.symm), hmo, own_fr y3 hf7 (fun k hk => by simp; rintro rfl; exact own_mset y3 y4 (by simp [hk])), hm7.mono ?_, L2, y5.fr hf7 (by simpa using n1.symm), hL2⟩
                rintro k (⟨i, a, b, c⟩ | h)
                · exact ⟨i, a, by omega, c⟩
                · exact ⟨j + 1, by omega, by omega, h⟩
              case measure => rw [hlen0, hlen1]; omega
            · have q1 : decide (cs (j + 1) ≤ cs j) = false := by simpa using hle
              go_wp2_with fail
              go_roundw
              case rel => exact ⟨j + 1, fk, dk, by omega, rfl, by go_num, y1, y2, hmo, y3, y4.mono (fun k ⟨i, a, b, c⟩ => ⟨i, a, by omega, c⟩), L2, y5, hL2⟩
              case measure => rw [hlen0, hlen1]; omega
    · obtain rfl : j = m := by omega
      have hcl := hCH.out.last
      have hown' := own_slice hown
      obtain ⟨ao, co, rfl⟩ := hown'
      have hrb2 := hRB.out.fr hf (by simpa using hrul)
      have z5 := hrb2.frozen 5
      have k5 : wr.cell? ⟨rb, 5, none⟩ = some (.slice none 0 0) := hrb2.cell 5
      have hfin := (hrb2.set 5 (.slice ao (j * num) co))
      have hff := (hf.mono (ms' := [rb, ub]) (fun x hx => .inl (by simp at hx; simp [hx]))).setCell (p := ⟨rb, 5, none⟩) (.inl (by simp)) (.slice ao (j * num) co)
      have hfi2 : Files (wr.setCell ⟨rb, 5, none⟩ (.slice ao (j * num) co)) w.heap.size rb (entB F ss cs) P fk dk (j * num) := hfi.fr ((Fr.refl [rb] wr).setCell (.inl (by simp)) _) (fun e he => by simp; intro h; have := (hfi e he).1; omega) (fun e he => by simp; intro h; have := (hfi e he).2.1; omega)
      have hown2 := own_fr hown ((Fr.refl [rb] wr).setCell (p := ⟨rb, 5, none⟩) (.inl (by simp)) (.slice ao (j * num) co)) (fun k hk => by simp; rintro rfl; have := (hown.lt _ hk).1; omega)
      have hub2 := hb'.setOther (p := ⟨rb, 5, none⟩) hrul (.slice ao (j * num) co)
      have HF := Lib.hid hfi2
      have HO := Lib.hid hown2
      have HM := Lib.hid hmo
      have hpos : 1 ≤ j * num := by have := Nat.mul_le_mul hc1 (show 1 ≤ num by omega); omega
      have hposI : decide (((j * num : Nat) : Int) = 0) = false := by simp; omega
      clear hfi2 hown2 hmo hown hfi
      generalize hjn : j * num = jn at *
      go_wp2_with fail
      subst hnum
      subst hjn
      go_ret
      exact ⟨rfl, hff, fk, dk, _, HF.out, HM.out, HO.out, hfin, _, hub2, hl'⟩
end Go.Proofs.YtokpomdfgbbhlaaDoor

/- A region that draws its order and whose operations make memory: any order is borne, operation by operation, by what each leaves. -/
namespace Go.Proofs.YtokpomdfgbbhlaaDoor
open Go Go.RowKit

/-- How many have not come up. -/
def unl (l : Array Bool) : Nat := (l.toList.filter (fun b => !b)).length
theorem unl_set (l : Array Bool) (i : Nat) (h : l.getD i true = false) : unl (l.setIfInBounds i true) + 1 = unl l := by
  obtain ⟨l⟩ := l
  have h' : l[i]? = some false := by
    by_cases hi : i < l.length
    · rw [List.getElem?_eq_getElem hi]
      simp [Array.getD, hi] at h
      rw [h]
    · simp [Array.getD, hi] at h
  unfold unl
  rw [List.setIfInBounds_toArray]
  show ((l.set i true).filter (fun b => !b)).length + 1 = (l.filter (fun b => !b)).length
  induction l generalizing i with
  | nil => simp at h'
  | cons b l ih =>
    cases i with
    | zero =>
      simp at h'
      subst h'
      simp
    | succ i =>
      rw [List.set_cons_succ, List.filter_cons, List.filter_cons]
      have := ih i (by simpa using h) (by simpa using h')
      split <;> simp_all
theorem unl_zero (l : Array Bool) (h : unl l = 0) (i : Nat) (hi : i < l.size) : l.getD i false = true := by
  obtain ⟨l⟩ := l
  unfold unl at h
  have h1 := List.filter_eq_nil_iff.1 (List.eq_nil_of_length_eq_zero h)
  simp only [List.size_toArray] at hi
  have h2 := h1 l[i] (List.getElem_mem hi)
  simp [Array.getD, hi]
  simpa using h2

section
variable {ops : Array Oper} {Q : Exit → Act → World → Prop}

/-- What stands at each moment: L tells which have come up. -/
structure LInv (J : (Nat → Bool) → World → Prop) (Sp : Nat → World → Value → Prop) (ops : Array Oper) (a0 : Act) (L : Nat → Bool) (a : Act) (w : World) : Prop where
  j : J L w
  size : a.tmps.size = a0.tmps.size
  defers : a.defers = a0.defers
  closed : ∀ i o, L i = true → ops[i]? = some o → ∀ e ∈ o.after, Region.binds .any e = true → L e.on = true
  free : ∀ d, (∀ i o, L i = true → ops[i]? = some o → o.dst ≠ some d) → a.tmps[d]? = a0.tmps[d]?
  val : ∀ i o d, L i = true → ops[i]? = some o → o.dst = some d → Sp i w (a.tmps.getD d undef)

def lSet (L : Nat → Bool) (i : Nat) : Nat → Bool := fun j => if j = i then true else L j
theorem lSet_ne (L : Nat → Bool) (i j : Nat) (h : j ≠ i) : lSet L i j = L j := by unfold lSet; rw [if_neg h]
theorem lSet_self (L : Nat → Bool) (i : Nat) : lSet L i i = true := by unfold lSet; rw [if_pos rfl]

/-- No two write one slot; nobody waits for one behind him. -/
def looseB (ops : Array Oper) (n : Nat) : Bool :=
  (List.range ops.size).all fun i => match ops[i]? with
    | some o => o.after.all (fun e => decide (e.on < i)) && o.guard.isNone && (match o.dst with | some d => decide (d < n) && (List.range ops.size).all (fun j => decide (j = i) || (match ops[j]? with | some o' => o'.dst != some d | none => true)) | none => true)
    | none => true

theorem LInv.put {J : (Nat → Bool) → World → Prop} {Sp : Nat → World → Value → Prop} {a0 a : Act} {L : Nat → Bool} {w w' : World} {i : Nat} {o : Oper} {v : Value} (hB : looseB ops a0.tmps.size = true) (h : LInv J Sp ops a0 L a w) (hi : ops[i]? = some o) (hL : L i = false)
    (hw : ∀ e ∈ o.after, Region.binds .any e = true → L e.on = true) (hJ : J (lSet L i) w') (hS : ∀ j u, L j = true → Sp j w u → Sp j w' u) (hv : Sp i w' v) : LInv J Sp ops a0 (lSet L i) (a.put o.dst v) w' := by
  have hib : i < ops.size := (Array.getElem?_eq_some_iff.1 hi).1
  have hb := List.all_eq_true.1 hB i (List.mem_range.2 hib)
  simp only [hi, Bool.and_eq_true] at hb
  refine { j := hJ, size := ?_, defers := ?_, closed := ?_, free := ?_, val := ?_ }
  · unfold Act.put
    split
    · simpa using h.size
    · exact h.size
  · unfold Act.put
    split <;> exact h.defers
  · intro k ok hk hok e he hbd
    by_cases hki : k = i
    · subst hki
      rw [hi] at hok
      cases hok
      have := hw e he hbd
      unfold lSet
      split
      · rfl
      · exact this
    · rw [lSet_ne _ _ _ hki] at hk
      have := h.closed k ok hk hok e he hbd
      unfold lSet
      split
      · rfl
      · exact this
  · intro d hd
    have hdi : o.dst ≠ some d := hd i o (lSet_self _ _) hi
    have h1 := h.free d (fun k ok hk hok => hd k ok (by unfold lSet; split <;> simp_all) hok)
    rw [← h1]
    unfold Act.put
    cases hdst : o.dst with
    | none => rfl
    | some d' =>
      have hne : d' ≠ d := fun hh => hdi (by rw [hdst, hh])
      show (a.tmps.setIfInBounds d' v)[d]? = _
      exact Array.getElem?_setIfInBounds_ne hne
  · intro k ok d hk hok hd
    by_cases hki : k = i
    · subst hki
      rw [hi] at hok
      cases hok
      rw [hd] at hb ⊢
      simp only [Bool.and_eq_true, decide_eq_true_eq] at hb
      have hdl : d < a.tmps.size := by rw [h.size]; exact hb.2.1
      have : (a.put (some d) v).tmps.getD d undef = v := by
        show (a.tmps.setIfInBounds d v).getD d undef = v
        simp [Array.getD, hdl]
      rw [this]
      exact hv
    · rw [lSet_ne _ _ _ hki] at hk
      have h1 := hS k _ hk (h.val k ok d hk hok hd)
      have : (a.put o.dst v).tmps.getD d undef = a.tmps.getD d undef := by
        unfold Act.put
        cases hdst : o.dst with
        | none => rfl
        | some d' =>
          rw [hdst] at hb
          simp only [Bool.and_eq_true, decide_eq_true_eq] at hb
          have hkb : k < ops.size := (Array.getElem?_eq_some_iff.1 hok).1
          have h2 := List.all_eq_true.1 hb.2.2 k (List.mem_range.2 hkb)
          rw [hok] at h2
          simp only [Bool.or_eq_true, decide_eq_true_eq, hki, false_or] at h2
          have hne : d' ≠ d := fun hh => by rw [hd, hh] at h2; simp at h2
          show (a.tmps.setIfInBounds d' v).getD d undef = a.tmps.getD d undef
          rw [Array.getD_eq_getD_getElem?, Array.getD_eq_getD_getElem?, Array.getElem?_setIfInBounds_ne hne]
      rw [this]
      exact h1

theorem loose_go {J : (Nat → Bool) → World → Prop} {Sp : Nat → World → Value → Prop} {a0 : Act} (hB : looseB ops a0.tmps.size = true)
    (hstep : ∀ L a w i o, LInv J Sp ops a0 L a w → ops[i]? = some o → L i = false → (∀ e ∈ o.after, Region.binds .any e = true → L e.on = true) →
      o.wp Tryd.prog a w (fun a' w' => ∃ v, a' = a.put o.dst v ∧ J (lSet L i) w' ∧ (∀ j u, L j = true → Sp j w u → Sp j w' u) ∧ Sp i w' v) Q)
    (hend : ∀ L a w, LInv J Sp ops a0 L a w → (∀ i, i < ops.size → L i = true) → Q .normal a w) :
    ∀ (fuel : Nat) (l : Array Bool) (a : Act) (w : World), l.size = ops.size → unl l ≤ fuel → LInv J Sp ops a0 (fun i => l.getD i false) a w → wpAny Tryd.prog .any ops Q fuel l a w := by
  have hall : ∀ (l : Array Bool), l.size = ops.size → Region.ready .any ops l = [] → ∀ i, i < ops.size → l.getD i false = true := by
    intro l hl hr i
    induction i using Nat.strongRecOn with
    | _ i ih =>
      intro hi
      rcases hb : l.getD i false with _ | _
      · exfalso
        have hm : i ∈ Region.ready .any ops l := by
          rw [mem_ready]
          have hb' : l.getD i true = false := by
            have hil : i < l.size := by omega
            simp [Array.getD, hil] at hb ⊢
            exact hb
          refine ⟨hb', ops[i], Array.getElem?_eq_getElem hi, fun e he _ => ?_⟩
          have h1 := List.all_eq_true.1 hB i (List.mem_range.2 hi)
          rw [Array.getElem?_eq_getElem hi] at h1
          simp only [Bool.and_eq_true] at h1
          have h2 := Array.all_eq_true'.1 h1.1.1 e he
          have h3 : e.on < i := by simpa using h2
          exact ih e.on h3 (by omega)
        rw [hr] at hm
        cases hm
      · rfl
  intro fuel
  induction fuel with
  | zero =>
    intro l a w hl hu hI
    have hz : ∀ i, i < ops.size → l.getD i false = true := fun i hi => unl_zero l (by omega) i (by omega)
    refine ⟨?_, hend _ a w hI hz⟩
    apply List.eq_nil_iff_forall_not_mem.2
    intro i hm
    rw [mem_ready] at hm
    obtain ⟨h1, o, h2, _⟩ := hm
    have h3 := hz i (Array.getElem?_eq_some_iff.1 h2).1
    have hil : i < l.size := by rw [hl]; exact (Array.getElem?_eq_some_iff.1 h2).1
    simp [Array.getD, hil] at h1 h3
    rw [h1] at h3
    cases h3
  | succ fuel ih =>
    intro l a w hl hu hI
    refine ⟨fun hr => hend _ a w hI (hall l hl hr), fun i hm => ?_⟩
    rw [mem_ready] at hm
    obtain ⟨h1, o, h2, h3⟩ := hm
    have hib : i < ops.size := (Array.getElem?_eq_some_iff.1 h2).1
    have hil : i < l.size := by omega
    have hLi : (fun i => l.getD i false) i = false := by
      simp [Array.getD, hil] at h1 ⊢
      exact h1
    have hs := hstep _ a w i o hI h2 hLi h3
    have hg : o.guard = none := by
      have h4 := List.all_eq_true.1 hB i (List.mem_range.2 hib)
      rw [h2] at h4
      simp only [Bool.and_eq_true] at h4
      exact Option.isNone_iff_eq_none.1 h4.1.2
    unfold wpOp
    simp only [h2]
    have hw : Region.wanted o (yielded ops a.tmps) = true := by simp [Region.wanted, hg]
    rw [if_pos hw]
    refine .inl (Oper.wp_mono ?_ hs)
    rintro a' w' ⟨v, rfl, e2, e3, e4⟩
    have hp := hI.put hB h2 hLi h3 e2 e3 e4
    refine ih _ _ _ (by simpa using hl) (by have := unl_set l i h1; omega) ?_
    have e5 : (fun j => (l.setIfInBounds i true).getD j false) = lSet (fun i => l.getD i false) i := by
      funext j
      unfold lSet
      by_cases hji : j = i
      · subst hji
        simp [Array.getD, hil]
      · rw [if_neg hji]
        show (l.setIfInBounds i true).getD j false = l.getD j false
        rw [Array.getD_eq_getD_getElem?, Array.getD_eq_getD_getElem?, Array.getElem?_setIfInBounds_ne (Ne.symm hji)]
    rw [e5]
    exact hp

/-- The region: any order. -/
theorem wp_region_loose {id : Nat} {J : (Nat → Bool) → World → Prop} {Sp : Nat → World → Value → Prop} {a0 : Act} {w : World} (hm : Tryd.prog.follows .mixedOrders = true) (hB : looseB ops a0.tmps.size = true) (h0 : J (fun _ => false) w.drew)
    (hstep : ∀ L a w i o, LInv J Sp ops a0 L a w → ops[i]? = some o → L i = false → (∀ e ∈ o.after, Region.binds .any e = true → L e.on = true) →
      o.wp Tryd.prog a w (fun a' w' => ∃ v, a' = a.put o.dst v ∧ J (lSet L i) w' ∧ (∀ j u, L j = true → Sp j w u → Sp j w' u) ∧ Sp i w' v) Q)
    (hend : ∀ L a w, LInv J Sp ops a0 L a w → (∀ i, i < ops.size → L i = true) → Q .normal a w) : (Code.region id ops true).wp Tryd.prog Q a0 w := by
  refine wp_region_any hm (loose_go hB hstep hend ops.size (Array.replicate ops.size false) a0 _ (by simp) ?_ ?_)
  · unfold unl
    exact Nat.le_trans (List.length_filter_le _ _) (by simp)
  · have e : (fun i => (Array.replicate ops.size false).getD i false) = fun _ => false := by
      funext i
      rw [Array.getD_eq_getD_getElem?, Array.getElem?_replicate]
      split <;> rfl
    rw [e]
    exact { j := h0, size := rfl, defers := rfl, closed := fun i o h => (by cases h), free := fun d _ => rfl, val := fun i o d h => (by cases h) }
end
end Go.Proofs.YtokpomdfgbbhlaaDoor

/- Single operations, over a frame that is a variable. -/
namespace Go.Proofs.YtokpomdfgbbhlaaDoor
open Go Go.RowKit

section
variable {o : Oper} {a : Act} {w w' : World} {K : Act → World → Prop} {Q : Exit → Act → World → Prop}
theorem lw (v : Value) (hr : (execOp a.eval o).run Tryd.prog w = .ok (.value v) w') (hK : K (a.put o.dst v) w') : o.wp Tryd.prog a w K Q := by
  unfold Oper.wp
  rw [hr]
  exact hK
theorem lw_skip (hr : (execOp a.eval o).run Tryd.prog w = .ok .skip w') (hK : K (a.put o.dst undef) w') : o.wp Tryd.prog a w K Q := by
  unfold Oper.wp
  rw [hr]
  exact hK
theorem eval_at (d : Nat) (v : Value) (h : a.tmps.getD d undef = v) : a.eval (.tmp d) = v := h
theorem ow_move (x : Operand) (ho : o.op = .move x) (v : Value) (hv : a.eval x = v) (hK : K (a.put o.dst v) w) : o.wp Tryd.prog a w K Q := by
  refine lw v ?_ hK
  unfold execOp
  simp only [ho, hv, Sem.run_pure]
theorem ow_assign (x : Operand) (ho : o.op = .assign x) (v : Value) (hv : a.eval x = v) (hK : K (a.put o.dst v) w) : o.wp Tryd.prog a w K Q := by
  refine lw v ?_ hK
  unfold execOp
  simp only [ho, hv, Sem.run_pure]
theorem ow_load (ty : TypeId) (x : Operand) (ho : o.op = .load ty x) (b i : Nat) (hx : a.eval x = .pointer (some ⟨b, i, none⟩)) (d : TypeDesc) (hu : Tryd.prog.underlying ty = some d) (hd : d.isRow = false) (v : Value) (hc : w.cell? ⟨b, i, none⟩ = some v)
    (hl : (loadVar ty ⟨b, i, none⟩).run Tryd.prog w = .ok v w) (hK : K (a.put o.dst v) w) : o.wp Tryd.prog a w K Q := by
  refine lw v ?_ hK
  unfold execOp
  simp only [ho, hx, Instr.loadAt, Instr.sureAddr, Sem.run_bind, Sem.run_pure, Result.andThen_ok, hl]
theorem ow_build1 (hg : True) (t e : TypeId) (x : Operand) (ho : o.op = .buildSlice t 1 #[(0, x)]) (v : Value) (hx : a.eval x = v) (hv : v.cells = #[v]) (ht : Tryd.prog.underlying t = some (.slice e)) (hi : (Tryd.prog.info? e).map (fun i => (i.zero.isSome, i.size)) = some (true, 1))
    (hK : K (a.put o.dst (.slice (some ⟨w.heap.size, 0, none⟩) 1 1)) (w.alloc (.cells #[v] e))) : o.wp Tryd.prog a w K Q := by
  cases hie : Tryd.prog.info? e with
  | none => rw [hie] at hi; simp at hi
  | some i =>
    rw [hie] at hi
    simp only [Option.map_some, Option.some.injEq, Prod.mk.injEq] at hi
    obtain ⟨z, hz⟩ := Option.isSome_iff_exists.1 hi.1
    refine wp_buildSlice t e 1 #[(0, x)] ho #[v] i z ht hie hz (by rw [hi.2]; omega) (by rw [hi.2]; omega) ?_ hK
    obtain ⟨r, hr, hrs, hrk⟩ := Great.fill_dense (s := 1) (by omega) [v] 0 ((Array.range (1 * 1)).map (z.cells[· % z.cells.size]!)) (fun u hu => by simp at hu; subst hu; rw [hv]; rfl) (by simp)
    have e1 : (#[(0, x)].map fun (p : Nat × Operand) => (p.1, a.eval p.2)).toList = ([v].zipIdx 0).map fun x => (x.2, x.1) := by simp [hx]
    have e2 : r = #[v] := by
      apply Array.ext_getElem?
      intro k
      rw [hrk k]
      by_cases hk : k < 1
      · obtain rfl : k = 0 := by omega
        simp [hv]
      · rw [if_neg (by simp; omega), Array.getElem?_eq_none (by simp; omega), Array.getElem?_eq_none (by simp; omega)]
    rw [hi.2]
    rw [e2] at hr
    exact (congrArg _ e1).trans hr
theorem ow_app (s x : Operand) (t : TypeId) (ho : o.op = .call { callee := .builtin .append, args := #[s, x], argTypes := #[t, t] }) (e : TypeId) (i : TypeInfo) (z : Value) (size bytes : Nat) (ht : Tryd.prog.underlying t = some (.slice e))
    (hi : Tryd.prog.info? e = some i) (hz : i.zero = some z) (hsize : i.size = size) (hby : i.bytes = bytes) (hzs : z.cells.size = size) (hsz : 0 < size)
    (base : Nat) (v : Value) (n : Nat) (xs : List Value) (hs : a.eval s = v) (hown : w.ownsRow base e size v n xs) (ad : Addr) (m c : Nat) (news : List Value) (hx : a.eval x = .slice (some ad) m c) (hl : news.length = m * size)
    (hnews : ∀ j u, news[j]? = some u → w.cell? (ad.add j) = some u) (h1 : ∀ u ∈ news, u.oneCell' = true) (h63 : n + m ≤ maxLen) (hbt : (n + m) * bytes ≤ 140737488355328) (hb : base ≤ w.heap.size)
    (h : ∀ v' w', w'.ownsRow base e size v' (n + m) (xs ++ news) → Fr v.ownBlock.toList w w' → K (a.put o.dst v') w') : o.wp Tryd.prog a w K Q := by
  obtain ⟨v', w', hr, h2, h3, _⟩ := run_append_own (P := Tryd.prog) w base t o.type e i z size bytes ht hi hz hsize hby hzs hsz v n xs hown ad m c news hl hnews h1 h63 hbt hb
  unfold Oper.wp
  simp only [execOp, ho, resolve, invoke, builtin, Sem.run_bind, Sem.run_pure, Result.andThen_ok, List.map_toArray, List.map_cons, List.map_nil, hs, hx, hr]
  exact h v' w' h2 (Fr.of_grown h3)
theorem ow_store (ty : TypeId) (x y : Operand) (ho : o.op = .store ty x y) (b : Nat) (v : Value) (hx : a.eval x = .pointer (some ⟨b, 0, none⟩)) (hy : a.eval y = v) (hv : v.cells = #[v]) (h1 : v.oneCell' = true) (T : TypeId) (old : Value) (hb : Blk w b T [old]) (hi : (Tryd.prog.info? ty).map (·.size) = some 1)
    (hK : K (a.put o.dst undef) (w.setRow b #[v])) : o.wp Tryd.prog a w K Q := by
  unfold Oper.wp execOp
  have h := run_storeVar_one (P := Tryd.prog) w b T ty old v hb hi h1
  simp only [ho, hx, hy, Instr.storeAt, Instr.sureAddr, Sem.run_bind, Sem.run_pure, Result.andThen_ok, h]
  exact hK
end
/-- Nobody in the region writes this slot. -/
def noDstB (ops : Array Oper) (d : Nat) : Bool := ops.all (fun o => o.dst != some d)
theorem LInv.outer {J : (Nat → Bool) → World → Prop} {Sp : Nat → World → Value → Prop} {ops : Array Oper} {a0 a : Act} {L : Nat → Bool} {w : World} (h : LInv J Sp ops a0 L a w) (d : Nat) (hb : noDstB ops d = true) (v : Value) (hv : a0.tmps[d]? = some v) : a.tmps.getD d undef = v := by
  have h1 := h.free d (fun i o _ hi hd => by
    unfold noDstB at hb
    rw [← Array.all_toList, List.all_eq_true] at hb
    have := hb o (Array.mem_toList_iff.2 (Array.mem_of_getElem? hi))
    rw [hd] at this
    simp at this)
  rw [Array.getD_eq_getD_getElem?, h1, hv]
  rfl
theorem LInv.before {J : (Nat → Bool) → World → Prop} {Sp : Nat → World → Value → Prop} {ops : Array Oper} {a0 a : Act} {L : Nat → Bool} {w : World} (h : LInv J Sp ops a0 L a w) {i j : Nat} {o : Oper} (hi : L i = false) (hj : ops[j]? = some o) (hb : (o.after.any fun e => Region.binds .any e && e.on == i) = true) : L j = false := by
  rcases hl : L j with _ | _
  · rfl
  · exfalso
    rw [← Array.any_toList, List.any_eq_true] at hb
    obtain ⟨e, he, h2⟩ := hb
    simp only [Bool.and_eq_true, beq_iff_eq] at h2
    have := h.closed j o hl hj e (Array.mem_toList_iff.1 he) h2.1
    rw [h2.2, hi] at this
    cases this
theorem waits_of {o : Oper} {L : Nat → Bool} (hw : ∀ e ∈ o.after, Region.binds .any e = true → L e.on = true) (j : Nat) (hb : (o.after.any fun e => Region.binds .any e && e.on == j) = true) : L j = true := by
  rw [← Array.any_toList, List.any_eq_true] at hb
  obtain ⟨e, he, h2⟩ := hb
  simp only [Bool.and_eq_true, beq_iff_eq] at h2
  rw [← h2.2]
  exact hw e (Array.mem_toList_iff.1 he) h2.1
theorem LInv.then {J : (Nat → Bool) → World → Prop} {Sp : Nat → World → Value → Prop} {ops : Array Oper} {a0 a : Act} {L : Nat → Bool} {w : World} (h : LInv J Sp ops a0 L a w) {i j : Nat} {o : Oper} (hi : L i = true) (hj : ops[i]? = some o) (hb : (o.after.any fun e => Region.binds .any e && e.on == j) = true) : L j = true :=
  waits_of (h.closed i o hi hj) j hb
theorem fold_set_get (f : Nat → Value) : ∀ (ds : List Nat) (t : Array Value) (k : Nat), (ds.foldl (fun t d => t.setIfInBounds d (f d)) t)[k]? = if k ∈ ds ∧ k < t.size then some (f k) else t[k]?
  | [], t, k => by simp
  | d :: ds, t, k => by
    rw [List.foldl_cons, fold_set_get f ds, Array.size_setIfInBounds]
    by_cases h1 : k < t.size
    · by_cases h2 : k ∈ ds
      · rw [if_pos ⟨h2, h1⟩, if_pos ⟨List.mem_cons_of_mem _ h2, h1⟩]
      · rw [if_neg (fun h => h2 h.1)]
        by_cases h3 : d = k
        · subst h3
          rw [if_pos ⟨List.mem_cons_self, h1⟩]
          simp [h1]
        · rw [Array.getElem?_setIfInBounds_ne h3, if_neg]
          rintro ⟨h, _⟩
          rcases List.mem_cons.1 h with h | h
          · exact h3 h.symm
          · exact h2 h
    · rw [if_neg (fun h => h1 h.2), if_neg (fun h => h1 h.2), Array.getElem?_eq_none (by simp; omega), Array.getElem?_eq_none (by omega)]
/-- The frame behind the region, written out. -/
theorem LInv.lit {J : (Nat → Bool) → World → Prop} {Sp : Nat → World → Value → Prop} {ops : Array Oper} {a0 a : Act} {L : Nat → Bool} {w : World} (h : LInv J Sp ops a0 L a w) (ds : List Nat)
    (hb : (ops.all fun o => match o.dst with | some d => ds.contains d | none => true) = true) : a = ⟨ds.foldl (fun t d => t.setIfInBounds d (a.tmps.getD d undef)) a0.tmps, a0.defers⟩ := by
  obtain ⟨t, df⟩ := a
  have hd : df = a0.defers := h.defers
  subst hd
  congr 1
  apply Array.ext_getElem?
  intro k
  rw [fold_set_get]
  have hs : t.size = a0.tmps.size := h.size
  by_cases h1 : k < a0.tmps.size
  · by_cases h2 : k ∈ ds
    · rw [if_pos ⟨h2, h1⟩]
      have : k < t.size := by omega
      simp [Array.getD, this]
    · rw [if_neg (fun h => h2 h.1)]
      refine h.free k (fun i o _ hi hdst => ?_)
      rw [← Array.all_toList, List.all_eq_true] at hb
      have := hb o (Array.mem_toList_iff.2 (Array.mem_of_getElem? hi))
      rw [hdst] at this
      simp only [List.contains_iff_mem] at this
      exact h2 this
  · rw [if_neg (fun h => h1 h.2), Array.getElem?_eq_none (by omega), Array.getElem?_eq_none (by omega)]
theorem setRow_blk {w : World} {b : Nat} {T : TypeId} {old v : Value} (h : Blk w b T [old]) : Blk (w.setRow b #[v]) b T [v] := by
  have := setRow_heap w b _ #[v] T _ h
  simpa [Blk] using this
theorem setRow_fr (w : World) (b : Nat) (c : Array Value) : Fr [b] w (w.setRow b c) := ⟨rfl, rfl, rfl, by simp [World.setRow], fun k _ hk => setRow_other w b k _ (by simpa using hk)⟩
end Go.Proofs.YtokpomdfgbbhlaaDoor

/- A drawn region that appends one value where there is room and stores the slice anew. -/
namespace Go.Proofs.YtokpomdfgbbhlaaDoor
open Go Go.RowKit

structure AR where
  (wr : World)
  (sb k gb n cap B A S : Nat)
  (T : TypeId)
  (l : List Value)
  (u : Value)
  (cst : Nat → Value)
def AR.nv (R : AR) : Value := .slice (some ⟨R.gb, 0, none⟩) (R.n + 1) R.cap
structure AR.J (R : AR) (L : Nat → Bool) (w : World) : Prop where
  a : L R.S = false → Fr [R.gb] R.wr w
  b : L R.A = false → L R.S = false → Blk w R.gb R.T R.l
  c : L R.A = true → L R.S = false → Blk w R.gb R.T (splice R.l R.n [R.u])
  d : L R.S = true → ∃ w3, Fr [R.gb] R.wr w3 ∧ Blk w3 R.gb R.T (splice R.l R.n [R.u]) ∧ w = w3.setCell ⟨R.sb, R.k, none⟩ R.nv
def AR.Sp (R : AR) (i : Nat) (w : World) (v : Value) : Prop := if i = R.B then (∃ g, v = .slice (some ⟨g, 0, none⟩) 1 1 ∧ Blk w g R.T [R.u] ∧ R.wr.heap.size ≤ g) else v = R.cst i
theorem AR.sp_c {R : AR} {i : Nat} {w : World} {v : Value} (h : i ≠ R.B) (hv : v = R.cst i) : R.Sp i w v := by unfold AR.Sp; rw [if_neg h]; exact hv
theorem AR.of_sp {R : AR} {i : Nat} {w : World} {v : Value} (hs : R.Sp i w v) (h : i ≠ R.B) : v = R.cst i := by unfold AR.Sp at hs; rwa [if_neg h] at hs
theorem AR.of_spB {R : AR} {w : World} {v : Value} (hs : R.Sp R.B w v) : ∃ g, v = .slice (some ⟨g, 0, none⟩) 1 1 ∧ Blk w g R.T [R.u] ∧ R.wr.heap.size ≤ g := by unfold AR.Sp at hs; rwa [if_pos rfl] at hs
theorem AR.Sp_fr {R : AR} {w w' : World} {b : Nat} (f : Fr [b] w w') (hb : b < R.wr.heap.size) (i : Nat) (u : Value) (h : R.Sp i w u) : R.Sp i w' u := by
  unfold AR.Sp at h ⊢
  split at h
  · obtain ⟨g, e1, e2, e3⟩ := h
    rename_i hi
    rw [if_pos hi]
    exact ⟨g, e1, e2.fr f (by simp; omega), e3⟩
  · rename_i hi
    rw [if_neg hi]
    exact h
theorem AR.Sp_fr0 {R : AR} {w w' : World} (f : Fr [] w w') (i : Nat) (u : Value) (h : R.Sp i w u) : R.Sp i w' u := by
  unfold AR.Sp at h ⊢
  split at h
  · obtain ⟨g, e1, e2, e3⟩ := h
    rename_i hi
    rw [if_pos hi]
    exact ⟨g, e1, e2.fr0 f, e3⟩
  · rename_i hi
    rw [if_neg hi]
    exact h
section
variable {R : AR} {L : Nat → Bool} {w w' : World}
theorem AR.J.alloc (h : R.J L w) (hS : L R.S = false) (f : Fr [] w w') (i : Nat) (hi : i ≠ R.A ∧ i ≠ R.S) : R.J (lSet L i) w' where
  a := fun _ => (h.a hS).trans0 f
  b := fun hl _ => (h.b (by rwa [lSet_ne _ _ _ (Ne.symm hi.1)] at hl) hS).fr0 f
  c := fun hl _ => (h.c (by rwa [lSet_ne _ _ _ (Ne.symm hi.1)] at hl) hS).fr0 f
  d := fun hl => by rw [lSet_ne _ _ _ (Ne.symm hi.2), hS] at hl; cases hl
theorem AR.J.app (h : R.J L w) (hS : L R.S = false) (hne : R.A ≠ R.S) (f : Fr [R.gb] w w') (hb : Blk w' R.gb R.T (splice R.l R.n [R.u])) : R.J (lSet L R.A) w' where
  a := fun _ => (h.a hS).trans_same f
  b := fun hl _ => by rw [lSet_self] at hl; cases hl
  c := fun _ _ => hb
  d := fun hl => by rw [lSet_ne _ _ _ (Ne.symm hne), hS] at hl; cases hl
theorem AR.J.store (h : R.J L w) (hS : L R.S = false) (hA : L R.A = true) : R.J (lSet L R.S) (w.setCell ⟨R.sb, R.k, none⟩ R.nv) where
  a := fun hl => by rw [lSet_self] at hl; cases hl
  b := fun _ hl => by rw [lSet_self] at hl; cases hl
  c := fun _ hl => by rw [lSet_self] at hl; cases hl
  d := fun _ => ⟨w, h.a hS, h.c hA hS, rfl⟩
end
theorem ow_app_room {o : Oper} {a : Act} {w : World} {K : Act → World → Prop} {Q : Exit → Act → World → Prop} (s x : Operand) (t : TypeId) (ho : o.op = Op.call { callee := Callee.builtin Builtin.append, args := #[s, x], argTypes := #[t, t] })
    (e : TypeId) (h1 : Tryd.prog.underlying t = some (.slice e)) (h2 : (Tryd.prog.info? e).map (·.size) = some 1) (g n cap : Nat) (l : List Value) (hs : a.eval s = .slice (some ⟨g, 0, none⟩) n cap) (hb : Blk w g e l) (gx : Nat) (u : Value) (hx : a.eval x = .slice (some ⟨gx, 0, none⟩) 1 1)
    (hc : Blk w gx e [u]) (h1c : u.oneCell' = true) (hroom : n + 1 ≤ cap) (hfit : n + 1 ≤ l.length) (hK : ∀ w', Fr [g] w w' → Blk w' g e (splice l n [u]) → K (a.put o.dst (.slice (some ⟨g, 0, none⟩) (n + 1) cap)) w') : o.wp Tryd.prog a w K Q := by
  cases hq : Tryd.prog.info? e with
  | none => simp [hq] at h2
  | some i =>
    have hsz : i.size = 1 := by simpa [hq] using h2
    have hrun := run_append_room (P := Tryd.prog) w t o.type e i h1 hq g n cap l.toArray hb ⟨gx, 0, none⟩ 1 1 [u] (by simp [hsz]) (fun j y hj => by rw [add_zero']; exact (hc.cell j).trans hj) (by simpa using h1c) hroom (by simp [hsz]; omega)
    rw [hsz, Nat.mul_one] at hrun
    have hsr : Blk (w.setRow g (l.toArray.toList.take n ++ [u] ++ l.toArray.toList.drop (n + [u].length)).toArray) g e (splice l n [u]) := by
      have := setRow_heap w g _ (l.toArray.toList.take n ++ [u] ++ l.toArray.toList.drop (n + [u].length)).toArray e _ hb
      simpa [Blk, splice] using this
    unfold Oper.wp
    simp only [execOp, ho, resolve, invoke, builtin, Sem.run_bind, Sem.run_pure, Result.andThen_ok, List.map_toArray, List.map_cons, List.map_nil, hs, hx, hrun]
    exact hK _ (setRow_fr _ _ _) hsr
end Go.Proofs.YtokpomdfgbbhlaaDoor

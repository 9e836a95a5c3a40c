/- FnCodes: a file with another byte of its signature or size of sectors is an error of its format, a short one an error of reading (part 2 of 12). No condition but the statement's own. -/
import Derived.Deep.RegionLaw
import Derived.Deep.CutBlock
import Derived.Laws.Cover4
import Derived.Maps.Own
import Derived.Maps.OwnOps
import Derived.Test.YtokpomdfgbbhlaaDoorCda
set_option linter.all false
set_option linter.unusedVariables false
set_option linter.unusedSimpArgs false
set_option linter.unnecessarySimpa false
/- The built-in copy as a step of a region that draws its order; rows and frames, more. -/
namespace Go.Proofs.YtokpomdfgbbhlaaDoor
open Go Go.RowKit

/-- The built-in copy as a step of a region that draws its order. -/
theorem step_copy_blk {P : Program} {ops : Array Oper} {o : Oper} {a : Act} {w : World} {K : Act → World → Prop} {Q : Exit → Act → World → Prop} {E : Prop} (hgd : o.guard = none) (d s : Operand) (dT sT : TypeId)
    (ho : o.op = .call { callee := .builtin .copy, args := #[d, s], argTypes := #[dT, sT] }) (elem : TypeId) (hu : P.underlying dT = some (.slice elem)) (hsz : (P.info? elem).map (·.size) = some 1)
    (dp sp : Option Addr) (dLen dCap sLen sCap : Nat) (hd : a.eval d = .slice dp dLen dCap) (hs : a.eval s = .slice sp sLen sCap)
    (g off : Nat) (cur : List Value) (t : TypeId) (hg : Blk w g t cur) (n : Nat) (f : Nat → Value) (hn1 : n ≤ sLen ∧ n ≤ dLen ∧ (n = sLen ∨ n = dLen))
    (hpos : 0 < n → dp = some ⟨g, off, none⟩ ∧ ∃ ad, sp = some ad ∧ ∀ j, j < n → w.cell? (ad.add j) = some (f j))
    (hfit : off + n ≤ cur.length) (h1 : ∀ j, j < n → (f j).oneCell' = true)
    (h : ∀ w', Fr [g] w w' → Blk w' g t (splice cur off (tab n f)) → K (a.put o.dst (goInt n)) w') :
    if Region.wanted o (yielded ops a.tmps) = true then Oper.wp P o a w K Q else E := by
  have hw : Region.wanted o (yielded ops a.tmps) = true := by simp [Region.wanted, hgd]
  rw [if_pos hw]
  have hn : n = Nat.min sLen dLen := by
    show n = min sLen dLen
    omega
  clear hn1
  have hl : (tab n f).length = n := tab_length _ _
  by_cases h0 : n = 0
  · subst h0
    have hrun := run_copy_none (P := P) w dT sT o.type elem dp sp dLen dCap sLen sCap hu hsz hn.symm
    unfold Oper.wp
    simp [execOp, ho, resolve, invoke, builtin, hd, hs, hrun, Result.andThen]
    exact h w (Fr.refl _ _) (by simpa [splice, tab] using hg)
  · obtain ⟨rfl, ad, rfl, hsrc⟩ := hpos (by omega)
    have h2 := h (w.setRow g (cur.toArray.toList.take off ++ (tab n f ++ cur.toArray.toList.drop (off + (tab n f).length))).toArray)
      ⟨rfl, rfl, rfl, by simp [World.setRow], fun k _ hk => setRow_other w g k _ (by simpa using hk)⟩
      (by
        have := setRow_heap w g _ (cur.toArray.toList.take off ++ (tab n f ++ cur.toArray.toList.drop (off + (tab n f).length))).toArray t _ hg
        simpa [Blk, splice] using this)
    have hrun := run_copy_row (P := P) w dT sT o.type elem g off dLen dCap ad sLen sCap cur.toArray t (tab n f) hu hsz hg (by rw [hl]; exact hn) (by
      intro j v hj
      rw [tab_get?] at hj
      split at hj
      · rename_i hjn
        rw [hsrc j hjn]; exact hj
      · cases hj) (by rw [hl]; simpa using hfit) (by
      intro v hv
      obtain ⟨i, hi⟩ := List.getElem?_of_mem hv
      rw [tab_get?] at hi
      split at hi
      · rename_i hin
        simp at hi; subst hi; exact h1 i hin
      · cases hi)
    unfold Oper.wp
    simp [execOp, ho, resolve, invoke, builtin, hd, hs, hrun, Result.andThen]
    rw [hl] at h2
    simp only [Oper.upon]
    simpa using h2

/-- A row that a copy has filled: its cells. -/
theorem blk_read' {w : World} {b : Nat} {T : TypeId} {l : List Value} {po m : Nat} {f : Nat → Value} (h : Blk w b T (splice l po (tab m f))) (hl : po + m ≤ l.length) (i : Nat) (hi : i < m) :
    w.cell? ⟨b, po + i, none⟩ = some (f i) := by
  rw [h.cell]
  unfold splice
  rw [List.getElem?_append_right (by simp; omega)]
  have : po + i - (List.take po l).length = i := by simp; omega
  rw [this, List.getElem?_append_left (by simp; omega), tab_get _ _ _ hi]

theorem splice_cons (l : List Value) (o : Nat) (v : Value) (r : List Value) (h : o + 1 + r.length ≤ l.length) : splice (l.set o v) (o + 1) r = splice l o (v :: r) := by
  unfold splice
  have h1 : (l.set o v).take (o + 1) = l.take o ++ [v] := by
    rw [List.take_set, List.take_succ_eq_append_getElem (by omega), List.set_append_right _ _ (by simp; omega)]
    have : o - (List.take o l).length = 0 := by simp; omega
    rw [this]; rfl
  have h2 : (l.set o v).drop (o + 1 + r.length) = l.drop (o + (v :: r).length) := by
    rw [List.drop_set_of_lt (by omega)]
    congr 1
    simp; omega
  rw [h1, h2]
  simp

theorem setCells_blk {b : Nat} {T : TypeId} (vs : List Value) : ∀ (o : Nat) (w : World) (l : List Value), Blk w b T l → o + vs.length ≤ l.length →
    Blk (w.setCells b o vs) b T (splice l o vs) ∧ Fr [b] w (w.setCells b o vs) := by
  induction vs with
  | nil =>
    intro o w l h _
    exact ⟨by simpa [World.setCells, splice] using h, Fr.refl _ _⟩
  | cons v r ih =>
    intro o w l h hl
    simp only [List.length_cons] at hl
    obtain ⟨h1, h2⟩ := ih (o + 1) (w.setCell ⟨b, o, none⟩ v) (l.set o v) (h.set o v) (by rw [List.length_set]; omega)
    rw [World.setCells]
    exact ⟨by rw [← splice_cons l o v r (by omega)]; exact h1, ((Fr.refl [b] w).setCell (.inl (by simp)) v).trans_same h2⟩

/-- The load of a whole array or struct out of a block. -/
theorem wpList_load_blk {P : Program} {ops : Array Oper} {rest : List Oper} {op : Oper} {a : Act} {w : World} {Q : Exit → Act → World → Prop} (hgd : op.guard = none) (ty : TypeId) (x : Operand) (ho : op.op = .load ty x)
    (b o : Nat) (hx : a.eval x = .pointer (some ⟨b, o, none⟩)) (T : TypeId) (l : List Value) (hb : Blk w b T l) (d : TypeDesc) (hu : P.underlying ty = some d) (hd : d.isRow = true)
    (n : Nat) (hi : (P.info? ty).map (·.size) = some n) (hn : o + n ≤ l.length) (cs : Array Value) (hcs : (l.drop o).take n = cs.toList)
    (h : wpList P ops Q rest (a.put op.dst (.agg cs)) w) : wpList P ops Q (op :: rest) a w := by
  have hcs' : ((l.drop o).take n).toArray = cs := by rw [hcs]
  subst hcs'
  refine wpList_load_mid hgd ty x ho b o hx ((l.drop o).take n) d ?_ hu hd (by rw [hi]; simp; omega) h
  intro j v hj
  rw [hb.cell]
  rw [List.getElem?_take] at hj
  split at hj
  · rw [List.getElem?_drop] at hj; exact hj
  · cases hj

/-- The store of a whole array or struct into a block. -/
theorem wpList_store_blk {P : Program} {ops : Array Oper} {rest : List Oper} {op : Oper} {a : Act} {w : World} {Q : Exit → Act → World → Prop} (hgd : op.guard = none) (ty : TypeId) (x y : Operand) (ho : op.op = .store ty x y)
    (b o : Nat) (cells : Array Value) (hx : a.eval x = .pointer (some ⟨b, o, none⟩)) (hy : a.eval y = .agg cells)
    (T : TypeId) (l : List Value) (hb : Blk w b T l) (hn : o + cells.size ≤ l.length) (hi : (P.info? ty).map (·.size) = some cells.size) (h1 : cells.all (·.oneCell') = true)
    (h : ∀ w', Fr [b] w w' → Blk w' b T (splice l o cells.toList) → wpList P ops Q rest (a.put op.dst undef) w') : wpList P ops Q (op :: rest) a w := by
  obtain ⟨h2, h3⟩ := setCells_blk (b := b) (T := T) cells.toList o w l hb (by simpa using hn)
  refine wpList_store_mid hgd ty x y ho b o cells hx hy ?_ hi h1 (h _ h3 h2)
  intro j hj
  exact ⟨by obtain ⟨v, hv⟩ := hb.some (o + j) (by omega); rw [hv]; rfl, hb.frozen _⟩

theorem tab_drop_take (n : Nat) (g : Nat → Value) (o m : Nat) (h : o + m ≤ n) : ((tab n g).drop o).take m = tab m (fun i => g (o + i)) := by
  apply List.ext_getElem?
  intro i
  rw [List.getElem?_take, tab_get?]
  by_cases hi : i < m
  · rw [if_pos hi, if_pos hi, List.getElem?_drop, tab_get _ _ _ (by omega)]
  · rw [if_neg hi, if_neg hi]

theorem splice_whole (l r : List Value) (h : l.length = r.length) : splice l 0 r = r := by
  unfold splice
  simp [h]

theorem tab_oneCell {n : Nat} {g : Nat → Value} (h : ∀ i, i < n → (g i).oneCell' = true) : (tab n g).toArray.all (·.oneCell') = true := by
  refine all_oneCell_toArray (fun v hv => ?_)
  obtain ⟨i, hi⟩ := List.getElem?_of_mem hv
  rw [tab_get?] at hi
  split at hi
  · rename_i hin
    simp at hi; subst hi; exact h i hin
  · cases hi

/-- append where there is room, onto a slice at a block's head. -/
theorem wpList_append_room_blk {P : Program} {w : World} {ops : Array Oper} {rest : List Oper} {o : Oper} {a : Act} {Q : Exit → Act → World → Prop}
    (hg : o.guard = none) (s x : Operand) (t : TypeId) (hop : o.op = Op.call { callee := Callee.builtin Builtin.append, args := #[s, x], argTypes := #[t, t] })
    (e : TypeId) (h1 : P.underlying t = some (.slice e)) (size : Nat) (h2 : (P.info? e).map (·.size) = some size)
    (g n cap : Nat) (l : List Value) (hs : a.eval s = .slice (some ⟨g, 0, none⟩) n cap) (hb : Blk w g e l) (ad : Addr) (m c : Nat) (news : List Value) (hx : a.eval x = .slice (some ad) m c) (hn : news.length = m * size)
    (hc : ∀ j u, news[j]? = some u → w.cell? (ad.add j) = some u) (h1c : ∀ u ∈ news, u.oneCell' = true) (hroom : n + m ≤ cap) (hfit : n * size + news.length ≤ l.length)
    (hK : ∀ w', Fr [g] w w' → Blk w' g e (splice l (n * size) news) → wpList P ops Q rest (a.put o.dst (.slice (some ⟨g, 0, none⟩) (n + m) cap)) w') :
    wpList P ops Q (o :: rest) a w := by
  refine wpList_plain hg fun K hK' => ?_
  cases hq : P.info? e with
  | none => simp [hq] at h2
  | some i =>
    have hsz : i.size = size := by simpa [hq] using h2
    subst hsz
    have hrun := run_append_room (P := P) w t o.type e i h1 hq g n cap l.toArray hb ad m c news hn hc h1c hroom (by simpa using hfit)
    have h3 := hK (w.setRow g (l.toArray.toList.take (n * i.size) ++ news ++ l.toArray.toList.drop (n * i.size + news.length)).toArray)
      ⟨rfl, rfl, rfl, by simp [World.setRow], fun k _ hk => setRow_other w g k _ (by simpa using hk)⟩
      (by
        have := setRow_heap w g _ (l.toArray.toList.take (n * i.size) ++ news ++ l.toArray.toList.drop (n * i.size + news.length)).toArray e _ hb
        simpa [Blk, splice] using this)
    unfold Oper.wp
    simp [execOp, hop, resolve, invoke, builtin, hs, hx, hrun, Result.andThen]
    exact hK' _ _ (by simpa using h3)

theorem splice_get (l : List Value) (o : Nat) (r : List Value) (h : o + r.length ≤ l.length) (i : Nat) :
    (splice l o r)[i]? = if o ≤ i ∧ i < o + r.length then r[i - o]? else l[i]? := by
  unfold splice
  by_cases h1 : i < o
  · rw [List.getElem?_append_left (by simp; omega), List.getElem?_take, if_pos h1, if_neg (by omega)]
  · rw [List.getElem?_append_right (by simp; omega)]
    have hl : (List.take o l).length = o := by simp; omega
    rw [hl]
    by_cases h2 : i < o + r.length
    · rw [List.getElem?_append_left (by omega), if_pos (by omega)]
    · rw [List.getElem?_append_right (by omega), if_neg (by omega), List.getElem?_drop]
      congr 1; omega

end Go.Proofs.YtokpomdfgbbhlaaDoor

/- The contracts of unicode.IsPrint at a capital letter and of utf16.Decode at units below 128. -/
namespace Go.Proofs.YtokpomdfgbbhlaaDoor
open Go Go.RowKit

set_option maxRecDepth 100000 in
set_option maxHeartbeats 400000 in
theorem isPrint_any (r : Nat) (w : World) (h1 : 65 ≤ r) (h2 : r ≤ 90) (hp : w.cell? ⟨2, r, none⟩ = some (.int .u8 160)) :
    Calls Tryd.prog 71 #[.int .i32 r] w fun e w' => e = .returned (.bool true) ∧ w = w' := by
  go_enter Tryd.func71, Tryd.ntmps71
  go_wp2_with fail
  go_ret
  exact ⟨rfl, rfl⟩

set_option maxRecDepth 100000 in
set_option maxHeartbeats 1000000 in
theorem decode_any (sb so len scap nb : Nat) (c : Nat → Nat) (l : List Value) (w : World) (hc : ∀ i, i < len → w.cell? ⟨sb, so + i, none⟩ = some (.int .u16 (c i))) (hlow : ∀ i, c i < 128)
    (hlen : len ≤ 64) (hb : Blk w nb 21 l) (hl : l.length = 64) (hne : sb ≠ nb) :
    Calls Tryd.prog 74 #[.slice (some ⟨sb, so, none⟩) len scap, .slice (some ⟨nb, 0, none⟩) 0 64] w fun e w' =>
      e = .returned (.slice (some ⟨nb, 0, none⟩) len 64) ∧ Fr [nb] w w' ∧ ∃ l', Blk w' nb 21 l' ∧ l'.length = 64 ∧ ∀ i, i < len → l'[i]? = some (.int .i32 (c i)) := by
  go_enter Tryd.func74, Tryd.ntmps74
  go_wp2_with fail
  go_loopw [5, 1] (fun s5 s1 wr => ∃ k : Nat, k ≤ len ∧ s5 = .int .i64 k ∧ s1 = .slice (some ⟨nb, 0, none⟩) k 64 ∧ Fr [nb] w wr ∧ ∃ l', Blk wr nb 21 l' ∧ l'.length = 64 ∧ ∀ i, i < k → l'[i]? = some (.int .i32 (c i))) (fun s5 _ _ => len - (intOf s5).toNat)
  case atStart => exact ⟨0, by omega, rfl, rfl, Fr.refl _ _, l, hb, hl, fun i hi => by omega⟩
  case round =>
    obtain ⟨k, hk, rfl, rfl, hf, l', hb', hl', hd⟩ := hrel
    have hD := Lib.hid hd
    clear hd
    by_cases hlt : k < len
    · have hkI : (k : Int) < (len : Int) := by omega
      have hck : ∀ _ : k < len, wr.cell? ⟨sb, so + k, none⟩ = some (.int .u16 (c k)) := fun _ => hf.cell (by simpa using hne) (hc k hlt)
      have hck' := hck hlt
      have hlk := hlow k
      have hI : (c k : Int) < 55296 := by omega
      go_wp2_with (at_builtin; refine wpList_append_room_blk rfl (.tmp 66) (.tmp 68) 165 rfl 21 Tryd.underlying165 1 (by kernel_rfl) nb k 64 l' rfl (hb'.alloc _) ⟨wr.heap.size, 0, none⟩ 1 1 [.int .i32 (c k)] rfl rfl ?_ ?_ ?_ ?_ ?_)
      · exact cell_one_new _ _ _
      · simp [Value.oneCell']
      · omega
      · simp; omega
      · intro w1 hf1 hb1
        have hD1 : ∀ i, i < k + 1 → (splice l' k [.int .i32 (c k)])[i]? = some (.int .i32 (c i)) := by
          intro i hi
          rw [splice_get _ _ _ (by simp; omega)]
          by_cases hik : i = k
          · subst hik; rw [if_pos (by simp)]; simp
          · rw [if_neg (by simp; omega)]; exact hD.out i (by omega)
        have hl1 : (splice l' k [Value.int .i32 (c k)]).length = 64 := by rw [length_splice _ _ _ (by simp; omega)]; exact hl'
        have hf2 : Fr [nb] w w1 := (hf.alloc _).trans_same hf1
        have HD1 := Lib.hid hD1
        clear hD1 hf1 hc hck hck'
        go_wp2_with fail
        go_roundw
        case rel => exact ⟨k + 1, by omega, by go_num, rfl, hf2, _, hb1, hl1, HD1.out⟩
        case measure => simp [intOf]; omega
    · obtain rfl : k = len := by omega
      go_wp2_with fail
      go_ret
      exact ⟨rfl, hf, l', hb', hl', hD.out⟩

theorem make64 (w : World) : (Instr.makeSlice 165 (.int .i64 0) (.int .i64 64)).run Tryd.prog w = .ok (.slice (some ⟨w.heap.size, 0, none⟩) 0 64) (w.alloc (.cells (List.replicate 64 (.int .i32 0)).toArray 21)) := by kernel_rfl

set_option maxRecDepth 100000 in
set_option maxHeartbeats 1000000 in
theorem utf16Decode_any (sb so len scap : Nat) (c : Nat → Nat) (w : World) (hc : ∀ i, i < len → w.cell? ⟨sb, so + i, none⟩ = some (.int .u16 (c i))) (hlow : ∀ i, c i < 128)
    (hlen : len ≤ 64) (hsb : sb < w.heap.size) :
    Calls Tryd.prog 72 #[.slice (some ⟨sb, so, none⟩) len scap] w fun e w' =>
      e = .returned (.slice (some ⟨w.heap.size, 0, none⟩) len 64) ∧ Fr [] w w' ∧ ∃ l', Blk w' w.heap.size 21 l' ∧ l'.length = 64 ∧ ∀ i, i < len → l'[i]? = some (.int .i32 (c i)) := by
  have hmk := make64
  go_enter Tryd.func72, Tryd.ntmps72
  go_wp2_with fail
  refine (decode_any sb so len scap w.heap.size c (List.replicate 64 (.int .i32 0)) _ ?_ hlow hlen (Blk.new' _ _ _) (by simp) (by omega)).mono ?_
  · exact fun i hi => ((Fr.refl [] w).alloc _).cell0 (hc i hi)
  rintro e w1 ⟨rfl, hf, hl⟩
  go_wp2_with fail
  go_ret
  exact ⟨rfl, ((Fr.refl [] w).alloc _).trans hf (by simp), hl⟩
end Go.Proofs.YtokpomdfgbbhlaaDoor

/- The contracts of zzGuid and zzTime. -/
namespace Go.Proofs.YtokpomdfgbbhlaaDoor
open Go Go.RowKit

set_option maxRecDepth 100000 in
set_option maxHeartbeats 400000 in
theorem zzTime_any (b off len cap : Nat) (f : Nat → UInt8) (w : World) (hl : 8 ≤ len) (hl' : len ≤ 9223372036854775807)
    (hc : ∀ i, i < 8 → w.cell? ⟨b, off + i, none⟩ = some (U8 (f i))) :
    Calls Tryd.prog 69 #[.slice (some ⟨b, off, none⟩) len cap] w fun e w' => e = .returned (.int .u64 (le f 8)) ∧ Fr [] w w' := by
  go_enter Tryd.func69, Tryd.ntmps69
  go_wp2_with fail
  refine (uint64_any b off len cap f _ hl hl' hc).mono ?_
  rintro e w1 ⟨rfl, hf⟩
  go_wp2_with fail
  go_ret
  exact ⟨rfl, hf⟩

/-- The sixteen bytes of a class. -/
def guidA (f : Nat → UInt8) : Array Value := (tab 16 (fun i => U8 (f i))).toArray
theorem guidA_size (f : Nat → UInt8) : (guidA f).size = 16 := by simp [guidA]
theorem guidA_one (f : Nat → UInt8) : (guidA f).all (·.oneCell') = true := tab_oneCell (fun _ _ => rfl)

set_option maxRecDepth 100000 in
set_option maxHeartbeats 1000000 in
theorem zzGuid_any (b off cap : Nat) (f : Nat → UInt8) (w : World) (hbw : b < w.heap.size)
    (hc : ∀ i, i < 16 → w.cell? ⟨b, off + i, none⟩ = some (U8 (f i))) :
    Calls Tryd.prog 68 #[.slice (some ⟨b, off, none⟩) 16 cap] w fun e w' => e = .returned (.agg (guidA f)) ∧ Fr [] w w' := by
  go_enter Tryd.func68, Tryd.ntmps68
  go_wp2_with (with_reducible refine wpList_copy_blk rfl (.tmp 4) (.tmp 5) 23 23 rfl 5 Tryd.underlying23 (by kernel_rfl) _ _ _ _ _ _ rfl rfl (w.heap.size + 1) 0 (List.replicate 16 (.int .u8 0)) 97 ?_ 16 (fun i => U8 (f i)) ?_ ?_ ?_ ?_ ?_)
  · have := Blk.new' (w.alloc (.cells (List.replicate 16 (.int .u8 0)).toArray 97)) 97 (List.replicate 16 (.int .u8 0)).toArray
    simpa using this
  · exact fun j hj => hc j hj
  · simp
  · intro j _; rfl
  · intro w1 hf1 hb1
    have hb2 : Blk w1 (w.heap.size + 1) 97 (tab 16 (fun i => U8 (f i))) := by
      have e := splice_whole (List.replicate 16 (.int .u8 0)) (tab 16 (fun i => U8 (f i))) (by simp)
      rw [← e]; exact hb1
    have hr1 : Blk w1 w.heap.size 97 (List.replicate 16 (.int .u8 0)) := ((Blk.new' w 97 (List.replicate 16 (.int .u8 0)).toArray).alloc _).fr hf1 (by simp)
    have hfr : Fr [] w w1 := ((((Fr.refl [] w).alloc _).alloc _).trans hf1 (by simp))
    clear hf1 hb1 hc
    go_wp2_with (first
      | (with_reducible refine wpList_load_blk rfl 97 (.tmp 3) rfl (w.heap.size + 1) 0 rfl 97 _ hb2 _ Tryd.underlying97 rfl 16 (by kernel_rfl) (by simp) (guidA f) ?_ ?_)
      | (with_reducible refine wpList_store_blk rfl 97 (.tmp 2) (.tmp 7) rfl w.heap.size 0 (guidA f) rfl rfl 97 _ hr1 ?_ ?_ (guidA_one f) ?_))
    · rw [tab_drop_take _ _ _ _ (by omega)]; simp [guidA]
    · simp [guidA_size]
    · rw [guidA_size]; kernel_rfl
    · intro w2 hf2 hb3
      have e3 := splice_whole (List.replicate 16 (.int .u8 0)) (guidA f).toList (by simp [guidA])
      have hb4 : Blk w2 w.heap.size 97 (guidA f).toList := by rw [← e3]; exact hb3
      have hld : (loadVar 97 ⟨w.heap.size, 0, none⟩).run Tryd.prog w2 = .ok (.agg (guidA f)) w2 := by
        have := run_loadVar_mid (P := Tryd.prog) w2 w.heap.size 0 97 (guidA f).toList _ (fun j v hj => by rw [hb4.cell]; simpa using hj) Tryd.underlying97 rfl (by rw [Array.length_toList, guidA_size]; kernel_rfl)
        simpa using this
      clear hb3 hb4 e3
      go_wp2_with fail
      refine bodyPost_ret (v := .agg (guidA f)) ?_ rfl ⟨rfl, hfr.trans hf2 (by simp)⟩
      simp [results, Tryd.results68, asAddr, hld]
end Go.Proofs.YtokpomdfgbbhlaaDoor

/- The contract of makeDirEntry: a new block with the fields that 128 bytes spell. Condition: 128 bytes lie in the slice. (Printed by gen/gen_dir.py.) -/
namespace Go.Proofs.YtokpomdfgbbhlaaDoor
open Go Go.RowKit

/-- The zero value of directoryEntryFields, cell by cell. -/
def dirZ (j : Nat) : Value := if j < 33 then .int .u16 0 else if j < 35 then .int .u8 0 else if j < 38 then .int .u32 0 else if j < 58 then .int .u8 0 else if j < 60 then .int .u64 0 else if j = 60 then .int .u32 0 else .int .u8 0
def dirN (G : Nat → UInt8) (k : Nat) (j : Nat) : Value := if j < k then .int .u16 (fld G (2 * j) 2) else dirZ j
def dirL1 (G : Nat → UInt8) (j : Nat) : Value := if j = 32 then .int .u16 (fld G 64 2) else dirN G 32 j
def dirL2 (G : Nat → UInt8) (j : Nat) : Value := if j = 33 then U8 (G 66) else dirL1 G j
def dirL3 (G : Nat → UInt8) (j : Nat) : Value := if j = 34 then U8 (G 67) else dirL2 G j
def dirL4 (G : Nat → UInt8) (j : Nat) : Value := if j = 35 then .int .u32 (fld G 68 4) else dirL3 G j
def dirL5 (G : Nat → UInt8) (j : Nat) : Value := if j = 36 then .int .u32 (fld G 72 4) else dirL4 G j
def dirL6 (G : Nat → UInt8) (j : Nat) : Value := if j = 37 then .int .u32 (fld G 76 4) else dirL5 G j
def dirL7 (G : Nat → UInt8) (j : Nat) : Value := if 38 ≤ j ∧ j < 38 + 16 then U8 (G (80 + (j - 38))) else dirL6 G j
def dirL8 (G : Nat → UInt8) (j : Nat) : Value := if 54 ≤ j ∧ j < 54 + 4 then U8 (G (96 + (j - 54))) else dirL7 G j
def dirL9 (G : Nat → UInt8) (j : Nat) : Value := if j = 58 then .int .u64 (fld G 100 8) else dirL8 G j
def dirL10 (G : Nat → UInt8) (j : Nat) : Value := if j = 59 then .int .u64 (fld G 108 8) else dirL9 G j
def dirL11 (G : Nat → UInt8) (j : Nat) : Value := if j = 60 then .int .u32 (fld G 116 4) else dirL10 G j
def dirL12 (G : Nat → UInt8) (j : Nat) : Value := if 61 ≤ j ∧ j < 61 + 8 then U8 (G (120 + (j - 61))) else dirL11 G j

set_option maxRecDepth 100000 in
set_option maxHeartbeats 8000000 in
theorem makeDirEntry_any (b base len cap : Nat) (G : Nat → UInt8) (w : World) (hl : 128 ≤ len) (hl' : len ≤ 4096) (hlc : len ≤ cap) (hcap : cap ≤ 9223372036854775807)
    (hF : ∀ i, i < 128 → w.cell? ⟨b, base + i, none⟩ = some (U8 (G i))) :
    Calls Tryd.prog 60 #[.slice (some ⟨b, base, none⟩) len cap] w fun e w' => e = .returned (.pointer (some ⟨w.heap.size, 0, none⟩)) ∧ Fr [] w w' ∧ Blk w' w.heap.size 119 (tab 69 (dirL12 G)) := by
  have hbw := World.block_lt_of_cell? w _ (hF 0 (by omega))
  dsimp only at hbw
  go_enter Tryd.func60, Tryd.ntmps60
  go_upto_region 1 with (fail)
  go_cut [3] from 5 to 6 (fun s3 w1 => s3 = .pointer (some ⟨w.heap.size, 0, none⟩) ∧ Fr [] w w1 ∧ Blk w1 w.heap.size 119 (tab 69 (dirN G 0)))
  case first =>
    go_wp2
    go_meet
    case rel => exact ⟨rfl, (Fr.refl _ _).alloc _, Blk.new' _ _ _⟩
  case rest =>
  obtain ⟨rfl, hf, hb⟩ := hcut
  go_upto_block 0 with (fail)
  go_cut [] from 4 to 24 (fun w1 => Fr [] w w1 ∧ Blk w1 w.heap.size 119 (tab 69 (dirN G 32)))
  case first =>
    go_wp2_with fail
    go_loopw [7] (fun s7 wr => ∃ k : Nat, k ≤ 32 ∧ s7 = .int .i64 k ∧ Fr [] w wr ∧ Blk wr w.heap.size 119 (tab 69 (dirN G k))) (fun s7 _ => 32 - (intOf s7).toNat)
    case atStart => exact ⟨0, by omega, rfl, hf, hb⟩
    case round =>
      obtain ⟨k, hk, rfl, hf, hb⟩ := hrel
      by_cases hlt : k < 32
      · have h6 : (k : Int) < 32 := by omega
        have hk0 : (0 : Int) ≤ (k : Int) := by omega
        go_upto_region 5 with (fail)
        have g1 : ∀ i, i < 2 → wr.drew.cell? ⟨b, base + k * 2 + i, none⟩ = some (U8 (G (2 * k + i))) := fun i hi => by
          have := hf.cell0 (hF (2 * k + i) (by omega))
          rw [show base + k * 2 + i = base + (2 * k + i) from by omega]; exact this
        have hcon := Lib.hid (uint16_any b (base + k * 2) 2 (cap - k * 2) (fun i => G (2 * k + i)) wr.drew (by omega) (by omega) g1)
        have hbd : Blk wr.drew w.heap.size 119 (tab 69 (dirN G k)) := hb
        have hln : k < (tab 69 (dirN G k)).length := by rw [tab_length]; omega
        have hne : ¬ cap = k * 2 := by omega
        clear g1
        have hw0 : IntKind.i64.wrap ((k : Int) * 2) = (k : Int) * 2 := IntWalk.i64_in _ (by omega)
        have hw1 : IntKind.i64.wrap ((k : Int) * 2 + 2) = (k : Int) * 2 + 2 := IntWalk.i64_in _ (by omega)
        have hw2 : ((k : Int) * 2).toNat = k * 2 := by omega
        have hw3 : ((k : Int) * 2 + 2).toNat = k * 2 + 2 := by omega
        have hw4 : 0 ≤ (k : Int) * 2 := by omega
        have hw5 : (k : Int) * 2 ≤ (k : Int) * 2 + 2 := by omega
        have hw6 : (k : Int) * 2 + 2 ≤ (cap : Int) := by omega
        go_region_with (go_at_call 67; refine hcon.out.mono ?_; clear hcon hw0 hw1 hw2 hw3 hw4 hw5 hw6; rintro e w2 ⟨rfl, hf2⟩; have hb2 := hbd.fr0 hf2; obtain ⟨v2, hc2⟩ := hb2.some k hln; have hz2 := hb2.frozen k)
        all_goals
          go_wp2_with fail
          go_roundw
          case rel =>
            refine ⟨k + 1, by omega, by go_num, (hf.drew.trans0 hf2).setCell (.inr (Nat.le_refl _)) _, ?_⟩
            have h9 := hb2.set k (.int .u16 (fld G (2 * k) 2))
            rw [tab_set] at h9
            have e9 : tab 69 (dirN G (k + 1)) = tab 69 (fun j => if j = k then .int .u16 (fld G (2 * k) 2) else dirN G k j) := tab_congr (fun j _ => by
              unfold dirN
              by_cases hj : j = k
              · subst hj; rw [if_pos (by omega), if_pos rfl]
              · rw [if_neg hj]
                by_cases hj2 : j < k
                · rw [if_pos (by omega), if_pos hj2]
                · rw [if_neg (by omega), if_neg hj2])
            rw [e9]; exact h9
          case measure => simp [intOf]; omega
      · obtain rfl : k = 32 := by omega
        go_wp2_with fail
        go_meet
        case rel => exact ⟨hf, hb⟩
  case rest =>
  clear hf hb
  obtain ⟨hf, hb⟩ := hcut
  go_upto_region 7 with (fail)
  go_cut [3] from 25 to 31 (fun s3 w1 => s3 = .pointer (some ⟨w.heap.size, 0, none⟩) ∧ Fr [] w w1 ∧ Blk w1 w.heap.size 119 (tab 69 (dirL1 G)))
  case first =>
    have g1 : ∀ i, i < 2 → wc.drew.cell? ⟨b, base + 64 + i, none⟩ = some (U8 (G (64 + i))) := fun i hi => by
      rw [Nat.add_assoc]; exact hf.cell0 (hF _ (by omega))
    have hcon := Lib.hid (uint16_any b (base + 64) 2 (cap - 64) (fun i => G (64 + i)) wc.drew (by omega) (by omega) g1)
    have hbd : Blk wc.drew w.heap.size 119 (tab 69 (dirN G 32)) := hb
    clear g1
    go_region_with (go_at_call 67; refine hcon.out.mono ?_; rintro e w2 ⟨rfl, hf2⟩; have hb2 := hbd.fr0 hf2; obtain ⟨v2, hc2⟩ := hb2.some 32 (by simp); have hz2 := hb2.frozen 32)
    all_goals
      go_wp2_with fail
      go_meet
      case rel => exact ⟨rfl, (hf.drew.trans0 hf2).setCell (.inr (Nat.le_refl _)) _, by have h9 := hb2.set 32 (.int .u16 (fld G 64 2)); rw [tab_set] at h9; exact h9⟩
  case rest =>
  clear hf hb
  obtain ⟨rfl, hf, hb⟩ := hcut
  go_upto_region 8 with (fail)
  go_cut [3] from 32 to 37 (fun s3 w1 => s3 = .pointer (some ⟨w.heap.size, 0, none⟩) ∧ Fr [] w w1 ∧ Blk w1 w.heap.size 119 (tab 69 (dirL2 G)))
  case first =>
    have g1 : wc.cell? ⟨b, base + 66, none⟩ = some (U8 (G 66)) := hf.cell0 (hF _ (by omega))
    obtain ⟨v2, hc2⟩ := hb.some 33 (by simp)
    have hz2 := hb.frozen 33
    go_wp2_with fail
    go_meet
    case rel => exact ⟨rfl, hf.setCell (.inr (Nat.le_refl _)) _, by have h9 := hb.set 33 (U8 (G 66)); rw [tab_set] at h9; exact h9⟩
  case rest =>
  clear hf hb
  obtain ⟨rfl, hf, hb⟩ := hcut
  go_upto_region 9 with (fail)
  go_cut [3] from 38 to 43 (fun s3 w1 => s3 = .pointer (some ⟨w.heap.size, 0, none⟩) ∧ Fr [] w w1 ∧ Blk w1 w.heap.size 119 (tab 69 (dirL3 G)))
  case first =>
    have g1 : wc.cell? ⟨b, base + 67, none⟩ = some (U8 (G 67)) := hf.cell0 (hF _ (by omega))
    obtain ⟨v2, hc2⟩ := hb.some 34 (by simp)
    have hz2 := hb.frozen 34
    go_wp2_with fail
    go_meet
    case rel => exact ⟨rfl, hf.setCell (.inr (Nat.le_refl _)) _, by have h9 := hb.set 34 (U8 (G 67)); rw [tab_set] at h9; exact h9⟩
  case rest =>
  clear hf hb
  obtain ⟨rfl, hf, hb⟩ := hcut
  go_upto_region 10 with (fail)
  go_cut [3] from 44 to 50 (fun s3 w1 => s3 = .pointer (some ⟨w.heap.size, 0, none⟩) ∧ Fr [] w w1 ∧ Blk w1 w.heap.size 119 (tab 69 (dirL4 G)))
  case first =>
    have g1 : ∀ i, i < 4 → wc.drew.cell? ⟨b, base + 68 + i, none⟩ = some (U8 (G (68 + i))) := fun i hi => by
      rw [Nat.add_assoc]; exact hf.cell0 (hF _ (by omega))
    have hcon := Lib.hid (uint32_any b (base + 68) 4 (cap - 68) (fun i => G (68 + i)) wc.drew (by omega) (by omega) g1)
    have hbd : Blk wc.drew w.heap.size 119 (tab 69 (dirL3 G)) := hb
    clear g1
    go_region_with (go_at_call 59; refine hcon.out.mono ?_; rintro e w2 ⟨rfl, hf2⟩; have hb2 := hbd.fr0 hf2; obtain ⟨v2, hc2⟩ := hb2.some 35 (by simp); have hz2 := hb2.frozen 35)
    all_goals
      go_wp2_with fail
      go_meet
      case rel => exact ⟨rfl, (hf.drew.trans0 hf2).setCell (.inr (Nat.le_refl _)) _, by have h9 := hb2.set 35 (.int .u32 (fld G 68 4)); rw [tab_set] at h9; exact h9⟩
  case rest =>
  clear hf hb
  obtain ⟨rfl, hf, hb⟩ := hcut
  go_upto_region 11 with (fail)
  go_cut [3] from 51 to 57 (fun s3 w1 => s3 = .pointer (some ⟨w.heap.size, 0, none⟩) ∧ Fr [] w w1 ∧ Blk w1 w.heap.size 119 (tab 69 (dirL5 G)))
  case first =>
    have g1 : ∀ i, i < 4 → wc.drew.cell? ⟨b, base + 72 + i, none⟩ = some (U8 (G (72 + i))) := fun i hi => by
      rw [Nat.add_assoc]; exact hf.cell0 (hF _ (by omega))
    have hcon := Lib.hid (uint32_any b (base + 72) 4 (cap - 72) (fun i => G (72 + i)) wc.drew (by omega) (by omega) g1)
    have hbd : Blk wc.drew w.heap.size 119 (tab 69 (dirL4 G)) := hb
    clear g1
    go_region_with (go_at_call 59; refine hcon.out.mono ?_; rintro e w2 ⟨rfl, hf2⟩; have hb2 := hbd.fr0 hf2; obtain ⟨v2, hc2⟩ := hb2.some 36 (by simp); have hz2 := hb2.frozen 36)
    all_goals
      go_wp2_with fail
      go_meet
      case rel => exact ⟨rfl, (hf.drew.trans0 hf2).setCell (.inr (Nat.le_refl _)) _, by have h9 := hb2.set 36 (.int .u32 (fld G 72 4)); rw [tab_set] at h9; exact h9⟩
  case rest =>
  clear hf hb
  obtain ⟨rfl, hf, hb⟩ := hcut
  go_upto_region 12 with (fail)
  go_cut [3] from 58 to 64 (fun s3 w1 => s3 = .pointer (some ⟨w.heap.size, 0, none⟩) ∧ Fr [] w w1 ∧ Blk w1 w.heap.size 119 (tab 69 (dirL6 G)))
  case first =>
    have g1 : ∀ i, i < 4 → wc.drew.cell? ⟨b, base + 76 + i, none⟩ = some (U8 (G (76 + i))) := fun i hi => by
      rw [Nat.add_assoc]; exact hf.cell0 (hF _ (by omega))
    have hcon := Lib.hid (uint32_any b (base + 76) 4 (cap - 76) (fun i => G (76 + i)) wc.drew (by omega) (by omega) g1)
    have hbd : Blk wc.drew w.heap.size 119 (tab 69 (dirL5 G)) := hb
    clear g1
    go_region_with (go_at_call 59; refine hcon.out.mono ?_; rintro e w2 ⟨rfl, hf2⟩; have hb2 := hbd.fr0 hf2; obtain ⟨v2, hc2⟩ := hb2.some 37 (by simp); have hz2 := hb2.frozen 37)
    all_goals
      go_wp2_with fail
      go_meet
      case rel => exact ⟨rfl, (hf.drew.trans0 hf2).setCell (.inr (Nat.le_refl _)) _, by have h9 := hb2.set 37 (.int .u32 (fld G 76 4)); rw [tab_set] at h9; exact h9⟩
  case rest =>
  clear hf hb
  obtain ⟨rfl, hf, hb⟩ := hcut
  go_upto_region 13 with (fail)
  go_cut [3] from 65 to 70 (fun s3 w1 => s3 = .pointer (some ⟨w.heap.size, 0, none⟩) ∧ Fr [] w w1 ∧ Blk w1 w.heap.size 119 (tab 69 (dirL7 G)))
  case first =>
    have g1 : ∀ i, i < 16 → wc.cell? ⟨b, base + 80 + i, none⟩ = some (U8 (G (80 + i))) := fun i hi => by
      rw [Nat.add_assoc]; exact hf.cell0 (hF _ (by omega))
    go_wp2_with fail
    refine (zzGuid_any b (base + 80) (cap - 80) (fun i => G (80 + i)) _ (Nat.lt_of_lt_of_le hbw hf.size) g1).mono ?_
    rintro e w2 ⟨rfl, hf2⟩
    have hb2 := hb.fr0 hf2
    go_wp2_with (with_reducible refine wpList_store_blk rfl 97 (.tmp 70) (.tmp 68) rfl w.heap.size 38 (guidA (fun i => G (80 + i))) rfl rfl 119 _ hb2 ?_ ?_ (guidA_one _) ?_)
    · rw [guidA_size]; simp
    · rw [guidA_size]; kernel_rfl
    · intro w3 hf3 hb3
      go_wp2_with fail
      go_meet
      case rel => exact ⟨rfl, (hf.trans0 hf2).trans hf3 (by simp), by have h9 := hb3; rw [guidA, List.toList_toArray, tab_splice _ _ _ _ _ (by omega)] at h9; exact h9⟩
  case rest =>
  clear hf hb
  obtain ⟨rfl, hf, hb⟩ := hcut
  go_upto_region 14 with (fail)
  go_cut [3] from 71 to 77 (fun s3 w1 => s3 = .pointer (some ⟨w.heap.size, 0, none⟩) ∧ Fr [] w w1 ∧ Blk w1 w.heap.size 119 (tab 69 (dirL8 G)))
  case first =>
    have hl2 : wc.heap.size = wc.heap.size := rfl
    have hbd : Blk wc.drew w.heap.size 119 (tab 69 (dirL7 G)) := hb
    have g1 : ∀ i, i < 4 → wc.drew.cell? ⟨b, base + 96 + i, none⟩ = some (U8 (G (96 + i))) := fun i hi => by
      rw [Nat.add_assoc]; exact hf.cell0 (hF _ (by omega))
    have G1 := Lib.hid g1
    have q1 : (100 : Int) ≤ (cap : Int) := by omega
    have q2 : ¬ cap = 96 := by omega
    clear g1 hl2
    go_region_law (refine step_copy_blk rfl (.tmp 74) (.tmp 76) 23 23 rfl 5 Tryd.underlying23 (by kernel_rfl) (some ⟨w.heap.size, 54, none⟩) (some ⟨b, base + 96, none⟩) 4 4 4 (cap - 96) (by simp [Act.eval, Act.put]) (by simp [Act.eval, Act.put]) w.heap.size 54 (tab 69 (dirL7 G)) 119 hbd 4 (fun i => U8 (G (96 + i))) (by omega) (fun _ => ⟨rfl, _, rfl, fun j hj => by rw [Addr.add_mid]; exact G1.out j hj⟩) (by simp) (fun _ _ => rfl) ?_; intro w2 hf2 hb2)
    all_goals
      go_wp2_with fail
      go_meet
      case rel => exact ⟨rfl, hf.drew.trans hf2 (by simp), by have h9 := hb2; rw [tab_splice _ _ _ _ _ (by omega)] at h9; exact h9⟩
  case rest =>
  clear hf hb
  obtain ⟨rfl, hf, hb⟩ := hcut
  go_upto_region 15 with (fail)
  go_cut [3] from 78 to 83 (fun s3 w1 => s3 = .pointer (some ⟨w.heap.size, 0, none⟩) ∧ Fr [] w w1 ∧ Blk w1 w.heap.size 119 (tab 69 (dirL9 G)))
  case first =>
    have g1 : ∀ i, i < 8 → wc.cell? ⟨b, base + 100 + i, none⟩ = some (U8 (G (100 + i))) := fun i hi => by
      rw [Nat.add_assoc]; exact hf.cell0 (hF _ (by omega))
    go_wp2_with fail
    refine (zzTime_any b (base + 100) 8 (cap - 100) (fun i => G (100 + i)) _ (by omega) (by omega) g1).mono ?_
    rintro e w2 ⟨rfl, hf2⟩
    have hb2 := hb.fr0 hf2
    obtain ⟨v2, hc2⟩ := hb2.some 58 (by simp)
    have hz2 := hb2.frozen 58
    go_wp2_with fail
    go_meet
    case rel => exact ⟨rfl, (hf.trans0 hf2).setCell (.inr (Nat.le_refl _)) _, by have h9 := hb2.set 58 (.int .u64 (fld G 100 8)); rw [tab_set] at h9; exact h9⟩
  case rest =>
  clear hf hb
  obtain ⟨rfl, hf, hb⟩ := hcut
  go_upto_region 16 with (fail)
  go_cut [3] from 84 to 89 (fun s3 w1 => s3 = .pointer (some ⟨w.heap.size, 0, none⟩) ∧ Fr [] w w1 ∧ Blk w1 w.heap.size 119 (tab 69 (dirL10 G)))
  case first =>
    have g1 : ∀ i, i < 8 → wc.cell? ⟨b, base + 108 + i, none⟩ = some (U8 (G (108 + i))) := fun i hi => by
      rw [Nat.add_assoc]; exact hf.cell0 (hF _ (by omega))
    go_wp2_with fail
    refine (zzTime_any b (base + 108) 8 (cap - 108) (fun i => G (108 + i)) _ (by omega) (by omega) g1).mono ?_
    rintro e w2 ⟨rfl, hf2⟩
    have hb2 := hb.fr0 hf2
    obtain ⟨v2, hc2⟩ := hb2.some 59 (by simp)
    have hz2 := hb2.frozen 59
    go_wp2_with fail
    go_meet
    case rel => exact ⟨rfl, (hf.trans0 hf2).setCell (.inr (Nat.le_refl _)) _, by have h9 := hb2.set 59 (.int .u64 (fld G 108 8)); rw [tab_set] at h9; exact h9⟩
  case rest =>
  clear hf hb
  obtain ⟨rfl, hf, hb⟩ := hcut
  go_upto_region 17 with (fail)
  go_cut [3] from 90 to 96 (fun s3 w1 => s3 = .pointer (some ⟨w.heap.size, 0, none⟩) ∧ Fr [] w w1 ∧ Blk w1 w.heap.size 119 (tab 69 (dirL11 G)))
  case first =>
    have g1 : ∀ i, i < 4 → wc.drew.cell? ⟨b, base + 116 + i, none⟩ = some (U8 (G (116 + i))) := fun i hi => by
      rw [Nat.add_assoc]; exact hf.cell0 (hF _ (by omega))
    have hcon := Lib.hid (uint32_any b (base + 116) 4 (cap - 116) (fun i => G (116 + i)) wc.drew (by omega) (by omega) g1)
    have hbd : Blk wc.drew w.heap.size 119 (tab 69 (dirL10 G)) := hb
    clear g1
    go_region_with (go_at_call 59; refine hcon.out.mono ?_; rintro e w2 ⟨rfl, hf2⟩; have hb2 := hbd.fr0 hf2; obtain ⟨v2, hc2⟩ := hb2.some 60 (by simp); have hz2 := hb2.frozen 60)
    all_goals
      go_wp2_with fail
      go_meet
      case rel => exact ⟨rfl, (hf.drew.trans0 hf2).setCell (.inr (Nat.le_refl _)) _, by have h9 := hb2.set 60 (.int .u32 (fld G 116 4)); rw [tab_set] at h9; exact h9⟩
  case rest =>
  clear hf hb
  obtain ⟨rfl, hf, hb⟩ := hcut
  go_upto_region 18 with (fail)
  go_cut [3] from 97 to 103 (fun s3 w1 => s3 = .pointer (some ⟨w.heap.size, 0, none⟩) ∧ Fr [] w w1 ∧ Blk w1 w.heap.size 119 (tab 69 (dirL12 G)))
  case first =>
    have hl2 : wc.heap.size = wc.heap.size := rfl
    have hbd : Blk wc.drew w.heap.size 119 (tab 69 (dirL11 G)) := hb
    have g1 : ∀ i, i < 8 → wc.drew.cell? ⟨b, base + 120 + i, none⟩ = some (U8 (G (120 + i))) := fun i hi => by
      rw [Nat.add_assoc]; exact hf.cell0 (hF _ (by omega))
    have G1 := Lib.hid g1
    have q1 : (128 : Int) ≤ (cap : Int) := by omega
    have q2 : ¬ cap = 120 := by omega
    clear g1 hl2
    go_region_law (refine step_copy_blk rfl (.tmp 100) (.tmp 102) 23 23 rfl 5 Tryd.underlying23 (by kernel_rfl) (some ⟨w.heap.size, 61, none⟩) (some ⟨b, base + 120, none⟩) 8 8 8 (cap - 120) (by simp [Act.eval, Act.put]) (by simp [Act.eval, Act.put]) w.heap.size 61 (tab 69 (dirL11 G)) 119 hbd 8 (fun i => U8 (G (120 + i))) (by omega) (fun _ => ⟨rfl, _, rfl, fun j hj => by rw [Addr.add_mid]; exact G1.out j hj⟩) (by simp) (fun _ _ => rfl) ?_; intro w2 hf2 hb2)
    all_goals
      go_wp2_with fail
      go_meet
      case rel => exact ⟨rfl, hf.drew.trans hf2 (by simp), by have h9 := hb2; rw [tab_splice _ _ _ _ _ (by omega)] at h9; exact h9⟩
  case rest =>
  clear hf hb
  obtain ⟨rfl, hf, hb⟩ := hcut
  go_wp2_with fail
  go_ret
  exact ⟨rfl, hf, hb⟩
end Go.Proofs.YtokpomdfgbbhlaaDoor

/- The contract of fixName: an unused entry; a name of letters. -/
namespace Go.Proofs.YtokpomdfgbbhlaaDoor
open Go Go.RowKit

/-- The text of m units below 128. -/
theorem encode_low (n : Nat) (h : n < 128) : Utf8.encode (n : Int) = ⟨#[UInt8.ofNat n]⟩ := by
  have hv : Utf8.valid (n : Int) = true := by
    unfold Utf8.valid
    simp; omega
  unfold Utf8.encode
  simp only [hv, if_true, Int.toNat_natCast]
  rw [if_pos (by omega)]

theorem nameOf_congr {c c' : Nat → Nat} (m : Nat) (h : ∀ i, i < m → c i = c' i) : nameOf c m = nameOf c' m := by
  unfold nameOf
  congr 2
  exact List.map_congr_left (fun j hj => by rw [h j (List.mem_range.1 hj)])

theorem runesBytes_low (c : Nat → Nat) (hlow : ∀ i, c i < 128) (m : Nat) : runesBytes ((List.range m).map (fun i => (c i : Int))) = nameOf c m := by
  unfold runesBytes nameOf
  induction m with
  | zero => rfl
  | succ m ih =>
    rw [List.range_succ, List.map_append, List.foldl_append, ih, List.map_append]
    simp only [List.map_cons, List.map_nil, List.foldl_cons, List.foldl_nil]
    rw [encode_low _ (hlow m)]
    apply ByteArray.ext
    simp

/-- The cells of a File. -/
def flCells (name : ByteArray) (initial : Nat) (path : Value) (size i : Int) (cur : Nat) (rem : Int) (d r : Nat) : List Value :=
  [.string name, .int .u16 initial, path, .int .i64 size, .int .i64 i, .int .u32 cur, .int .i64 rem, .pointer (some ⟨d, 0, none⟩), .pointer (some ⟨r, 0, none⟩)]

theorem dir_name (G : Nat → UInt8) (i : Nat) (hi : i < 32) : (tab 69 (dirL12 G))[i]? = some (.int .u16 (fld G (2 * i) 2)) := by
  rw [tab_get _ _ _ (by omega)]
  simp only [dirL12, dirL11, dirL10, dirL9, dirL8, dirL7, dirL6, dirL5, dirL4, dirL3, dirL2, dirL1, dirN]
  rw [if_neg (by omega), if_neg (by omega), if_neg (by omega), if_neg (by omega), if_neg (by omega), if_neg (by omega), if_neg (by omega), if_neg (by omega), if_neg (by omega), if_neg (by omega), if_neg (by omega), if_neg (by omega), if_pos (by omega)]
theorem dir_len (G : Nat → UInt8) : (tab 69 (dirL12 G))[32]? = some (.int .u16 (fld G 64 2)) := tab_get _ _ _ (by omega)
theorem dir_type (G : Nat → UInt8) : (tab 69 (dirL12 G))[33]? = some (U8 (G 66)) := tab_get _ _ _ (by omega)
theorem dir_left (G : Nat → UInt8) : (tab 69 (dirL12 G))[35]? = some (.int .u32 (fld G 68 4)) := tab_get _ _ _ (by omega)
theorem dir_right (G : Nat → UInt8) : (tab 69 (dirL12 G))[36]? = some (.int .u32 (fld G 72 4)) := tab_get _ _ _ (by omega)
theorem dir_child (G : Nat → UInt8) : (tab 69 (dirL12 G))[37]? = some (.int .u32 (fld G 76 4)) := tab_get _ _ _ (by omega)
theorem dir_create (G : Nat → UInt8) : (tab 69 (dirL12 G))[58]? = some (.int .u64 (fld G 100 8)) := tab_get _ _ _ (by omega)
theorem dir_modify (G : Nat → UInt8) : (tab 69 (dirL12 G))[59]? = some (.int .u64 (fld G 108 8)) := tab_get _ _ _ (by omega)
theorem dir_start (G : Nat → UInt8) : (tab 69 (dirL12 G))[60]? = some (.int .u32 (fld G 116 4)) := tab_get _ _ _ (by omega)
theorem dir_size (G : Nat → UInt8) (j : Nat) (hj : j < 8) : (tab 69 (dirL12 G))[61 + j]? = some (U8 (G (120 + j))) := by
  rw [tab_get _ _ _ (by omega)]
  simp only [dirL12]
  rw [if_pos (by omega)]
  congr 2
  congr 2; omega

theorem arrLen116 : Tryd.prog.arrayLen 116 = 32 := by kernel_rfl
theorem size116 (w : World) : (sizeOf (Tryd.prog.elem 116)).run Tryd.prog w = .ok 1 w := by kernel_rfl
theorem und116 : Tryd.prog.underlying 116 = some (.array (Tryd.prog.arrayLen 116) (Tryd.prog.elem 116)) := by kernel_rfl
theorem slice116 (d : Nat) (hi : Int) (m : Nat) (hm : hi = m) (h : m ≤ 31) (w : World) :
    (Instr.sliceAt 116 (.pointer (some ⟨d, 0, none⟩)) (some (.int .i64 0)) (some (.int .i64 hi)) none).run Tryd.prog w = .ok (.slice (some ⟨d, 0, none⟩) m 32) w := by
  subst hm
  rw [run_sliceAt_array_lh (P := Tryd.prog) w 116 _ und116 _ _ _ _ (by omega) (by omega) (by rw [arrLen116]; omega), size116]
  simp [slicedAt, arrLen116, Addr.add]

set_option maxRecDepth 100000 in
set_option maxHeartbeats 1000000 in
theorem fixName_unused (fk d : Nat) (name : ByteArray) (initial : Nat) (path : Value) (size i : Int) (cur : Nat) (rem : Int) (r : Nat) (G : Nat → UInt8) (w : World)
    (hf : Blk w fk 95 (flCells name initial path size i cur rem d r)) (hd : Blk w d 119 (tab 69 (dirL12 G))) (hn : fld G 64 2 = 0) :
    Calls Tryd.prog 70 #[.pointer (some ⟨fk, 0, none⟩)] w fun e w' => e = .returned (.tuple #[]) ∧ w = w' := by
  have c7 : w.cell? ⟨fk, 7, none⟩ = some (.pointer (some ⟨d, 0, none⟩)) := hf.cell 7
  have d32 := (hd.cell 32).trans (dir_len G)
  rw [hn] at d32
  clear hn
  go_enter Tryd.func70, Tryd.ntmps70
  go_wp2_with fail
  refine bodyPost_ret (results_none rfl _ _ _) rfl ?_
  exact ⟨rfl, rfl⟩

set_option maxRecDepth 100000 in
set_option maxHeartbeats 1000000 in
theorem fixName_any (fk d : Nat) (name : ByteArray) (initial : Nat) (path : Value) (size i : Int) (cur : Nat) (rem : Int) (r : Nat) (G : Nat → UInt8) (m : Nat) (w : World)
    (hf : Blk w fk 95 (flCells name initial path size i cur rem d r)) (hd : Blk w d 119 (tab 69 (dirL12 G))) (hm1 : 1 ≤ m) (hm2 : m ≤ 31) (hn : fld G 64 2 = 2 * m + 2)
    (hlow0 : ∀ i, i < m → fld G (2 * i) 2 < 128) (h65 : 65 ≤ fld G 0 2) (h90 : fld G 0 2 ≤ 90) (hp : w.cell? ⟨2, fld G 0 2, none⟩ = some (.int .u8 160)) (h2 : fk ≠ 2) :
    Calls Tryd.prog 70 #[.pointer (some ⟨fk, 0, none⟩)] w fun e w' => e = .returned (.tuple #[]) ∧ Fr [fk] w w' ∧
      Blk w' fk 95 (flCells (nameOf (fun i => fld G (2 * i) 2) m) (fld G 0 2) path size i cur rem d r) := by
  rw [nameOf_congr (c' := fun i => if i < m then fld G (2 * i) 2 else 0) m (fun i hi => by rw [if_pos hi])]
  obtain ⟨c, hcd⟩ : ∃ c : Nat → Nat, c = fun i => if i < m then fld G (2 * i) 2 else 0 := ⟨_, rfl⟩
  rw [← hcd]
  have hlow : ∀ i, c i < 128 := by
    intro i
    rw [hcd]
    show (if i < m then fld G (2 * i) 2 else 0) < 128
    split
    · rename_i h; exact hlow0 i h
    · omega
  have hci : ∀ i, i < m → fld G (2 * i) 2 = c i := by
    intro i hi
    rw [hcd]
    show _ = if i < m then fld G (2 * i) 2 else 0
    rw [if_pos hi]
  have HCI := Lib.hid hci
  clear hci hcd hlow0
  have hfd : fk ≠ d := fun h => by subst h; exact absurd (hf.unique hd).1 (by decide)
  have c7 : w.cell? ⟨fk, 7, none⟩ = some (.pointer (some ⟨d, 0, none⟩)) := hf.cell 7
  have c1 : w.cell? ⟨fk, 1, none⟩ = some (.int .u16 initial) := hf.cell 1
  have c0 : w.cell? ⟨fk, 0, none⟩ = some (.string name) := hf.cell 0
  have z1 := hf.frozen 1
  have z0 := hf.frozen 0
  have d32 := (hd.cell 32).trans (dir_len G)
  have d0 : w.cell? ⟨d, 0, none⟩ = some (.int .u16 (fld G 0 2)) := (hd.cell 0).trans (dir_name G 0 (by omega))
  rw [hn] at d32
  obtain ⟨NL, hNL⟩ : ∃ NL, NL = 2 * m + 2 := ⟨_, rfl⟩
  rw [← hNL] at d32
  have q1 : 4 ≤ NL := by omega
  have q2 : NL ≤ 64 := by omega
  have q3 : (0 : Int) ≤ (NL : Int) / 2 - 1 := by omega
  have q4 : (NL : Int) / 2 - 1 ≤ 32 := by omega
  have q5 := fun w => slice116 d ((NL : Int) / 2 - 1) m (by omega) (by omega) w
  have b1 : decide ((NL : Int) < 4) = false := by simp; omega
  have b2 : decide (NL < 4) = false := by simp; omega
  have b3 : decide (64 < NL) = false := by simp; omega
  have b4 : decide ((64 : Int) < NL) = false := by simp; omega
  have HN := Lib.hid hNL
  clear hn hNL
  generalize hch : fld G 0 2 = ch at *
  have HC := Lib.hid hch
  clear hch
  go_enter Tryd.func70, Tryd.ntmps70
  go_wp2_with fail
  refine (isPrint_any ch _ h65 h90 ?_).mono ?_
  · rw [World.cell?_setCell_other _ _ _ _ (by intro e; injection e with e1 e2; exact h2 e1)]; exact hp
  rintro e w1 ⟨rfl, rfl⟩
  go_wp2_with fail
  have hb1 := hf.set 1 (.int .u16 ch)
  have hd1 := hd.setOther (p := ⟨fk, 1, none⟩) (by exact hfd) (.int .u16 ch)
  refine (utf16Decode_any d 0 m 32 c _ ?_ hlow (by omega) (hd1.lt)).mono ?_
  · intro i hi
    rw [Nat.zero_add, hd1.cell]
    rw [← HCI.out i hi]
    exact dir_name G i (by omega)
  rintro e w1 ⟨rfl, hf1, l', hl1, hl2, hl3⟩
  have hb2 := hb1.fr0 hf1
  have hcv := run_convert_runes (P := Tryd.prog) w1 165 9 21 ⟨(w.setCell ⟨fk, 1, none⟩ (.int .u16 ch)).heap.size, 0, none⟩ m 64 ((List.range m).map (fun i => (c i : Int))) (by simp)
    Tryd.underlying165 Tryd.underlying21 Tryd.underlying9 (by
      intro j hj
      simp at hj
      rw [Addr.add_mid, Nat.zero_add, hl1.cell, hl3 j hj]
      simp [List.getD, hj])
  rw [List.take_of_length_le (by simp), runesBytes_low _ hlow] at hcv
  have e0 : w1.cell? ⟨fk, 0, none⟩ = some (.string name) := hb2.cell 0
  have y0 := hb2.frozen 0
  have hsz : (w.setCell ⟨fk, 1, none⟩ (.int .u16 ch)).heap.size = w.heap.size := by simp
  rw [hsz] at hcv
  clear hsz
  go_wp2_with fail
  go_end0
  exact ⟨rfl, (((Fr.refl [fk] w).setCell (.inl (by simp)) _).trans0 hf1).setCell (.inl (by simp)) _, hb2.set 0 _⟩
end Go.Proofs.YtokpomdfgbbhlaaDoor

/- The contract of fixFile: an unused entry; a named entry, a stream or not. -/
namespace Go.Proofs.YtokpomdfgbbhlaaDoor
open Go Go.RowKit

theorem arrLen117 : Tryd.prog.arrayLen 117 = 8 := by kernel_rfl
theorem size117 (w : World) : (sizeOf (Tryd.prog.elem 117)).run Tryd.prog w = .ok 1 w := by kernel_rfl
theorem und117 : Tryd.prog.underlying 117 = some (.array (Tryd.prog.arrayLen 117) (Tryd.prog.elem 117)) := by kernel_rfl
theorem slice117_all (d o : Nat) (w : World) :
    (Instr.sliceAt 117 (.pointer (some ⟨d, o, none⟩)) none none none).run Tryd.prog w = .ok (.slice (some ⟨d, o, none⟩) 8 8) w := by
  rw [run_sliceAt_array_all (P := Tryd.prog) w 117 _ und117, size117]
  simp [slicedAt, arrLen117, Addr.add]
theorem slice117_4 (d o : Nat) (w : World) :
    (Instr.sliceAt 117 (.pointer (some ⟨d, o, none⟩)) none (some (.int .i64 4)) none).run Tryd.prog w = .ok (.slice (some ⟨d, o, none⟩) 4 8) w := by
  rw [run_sliceAt_array_h (P := Tryd.prog) w 117 _ und117 _ _ (by omega) (by rw [arrLen117]; omega), size117]
  simp [slicedAt, arrLen117, Addr.add]

set_option maxRecDepth 100000 in
set_option maxHeartbeats 1000000 in
theorem fixFile_unused (v fk d : Nat) (name : ByteArray) (initial : Nat) (path : Value) (size i : Int) (cur : Nat) (rem : Int) (r : Nat) (G : Nat → UInt8) (w : World)
    (hf : Blk w fk 95 (flCells name initial path size i cur rem d r)) (hd : Blk w d 119 (tab 69 (dirL12 G))) (hn : fld G 64 2 = 0) (ht : G 66 = 0) :
    Calls Tryd.prog 61 #[.int .u16 v, .pointer (some ⟨fk, 0, none⟩)] w fun e w' => e = .returned (.tuple #[]) ∧ w = w' := by
  have c7 : w.cell? ⟨fk, 7, none⟩ = some (.pointer (some ⟨d, 0, none⟩)) := hf.cell 7
  have d33 := (hd.cell 33).trans (dir_type G)
  rw [ht] at d33
  go_enter Tryd.func61, Tryd.ntmps61
  go_wp2_with fail
  refine (fixName_unused fk d name initial path size i cur rem r G _ hf hd hn).mono ?_
  rintro e w1 ⟨rfl, rfl⟩
  go_wp2_with fail
  refine bodyPost_ret (results_none rfl _ _ _) rfl ?_
  exact ⟨rfl, rfl⟩

set_option maxRecDepth 100000 in
set_option maxHeartbeats 2000000 in
theorem fixFile_any (v fk d : Nat) (name : ByteArray) (initial : Nat) (path : Value) (i : Int) (cur : Nat) (rem : Int) (r : Nat) (G : Nat → UInt8) (m sz : Nat) (w : World)
    (hf : Blk w fk 95 (flCells name initial path 0 i cur rem d r)) (hd : Blk w d 119 (tab 69 (dirL12 G))) (hm1 : 1 ≤ m) (hm2 : m ≤ 31) (hn : fld G 64 2 = 2 * m + 2)
    (hlow : ∀ i, i < m → fld G (2 * i) 2 < 128) (h65 : 65 ≤ fld G 0 2) (h90 : fld G 0 2 ≤ 90) (hp : w.cell? ⟨2, fld G 0 2, none⟩ = some (.int .u8 160)) (h2 : fk ≠ 2)
    (hs8 : fld G 120 8 = sz) (hs4 : fld G 120 4 = sz) (hsz : sz ≤ 2147483647) (S : Int) (hS : (G 66 = 2 ∧ S = (sz : Int)) ∨ (G 66 ≠ 2 ∧ S = 0)) :
    Calls Tryd.prog 61 #[.int .u16 v, .pointer (some ⟨fk, 0, none⟩)] w fun e w' => e = .returned (.tuple #[]) ∧ Fr [fk] w w' ∧
      Blk w' fk 95 (flCells (nameOf (fun i => fld G (2 * i) 2) m) (fld G 0 2) path S i cur rem d r) := by
  have hfd : d ≠ fk := fun h => by subst h; exact absurd (hf.unique hd).1 (by decide)
  go_enter Tryd.func61, Tryd.ntmps61
  go_wp2_with fail
  refine (fixName_any fk d name initial path 0 i cur rem r G m _ hf hd hm1 hm2 hn hlow h65 h90 hp h2).mono ?_
  rintro e w1 ⟨rfl, hf1, hb1⟩
  have hd1 := hd.fr hf1 (by simpa using hfd)
  have c7 : w1.cell? ⟨fk, 7, none⟩ = some (.pointer (some ⟨d, 0, none⟩)) := hb1.cell 7
  have c3 : w1.cell? ⟨fk, 3, none⟩ = some (.int .i64 0) := hb1.cell 3
  have z3 := hb1.frozen 3
  have d33 := (hd1.cell 33).trans (dir_type G)
  rcases hS with ⟨ht, rfl⟩ | ⟨ht, rfl⟩
  · rw [ht] at d33
    clear ht
    have hby : ∀ i, i < 8 → w1.cell? ⟨d, 61 + i, none⟩ = some (U8 (G (120 + i))) := fun i hi => (hd1.cell _).trans (dir_size G i hi)
    have hcon8 := uint64_any d 61 8 8 (fun i => G (120 + i)) w1.drew (by omega) (by omega) hby
    have hcon4 := uint32_any d 61 4 8 (fun i => G (120 + i)) w1.drew (by omega) (by omega) (fun i hi => hby i (by omega))
    have e8 : le (fun i => G (120 + i)) 8 = sz := hs8
    have e4 : le (fun i => G (120 + i)) 4 = sz := hs4
    rw [e8] at hcon8
    rw [e4] at hcon4
    have H8 := Lib.hid hcon8
    have H4 := Lib.hid hcon4
    clear hcon8 hcon4 hby e8 e4 hs8 hs4 hn hlow hp
    have q8 := slice117_all d 61
    have q4 := slice117_4 d 61
    have hw : IntKind.i64.wrap (sz : Int) = sz := IntWalk.i64_in _ (by omega)
    by_cases hv : 3 < v
    · have hvI : (3 : Int) < (v : Int) := by omega
      go_upto_region 3 with (fail)
      go_cut [] from 16 to 28 (fun w2 => Fr [fk] w w2 ∧ Blk w2 fk 95 (flCells (nameOf (fun i => fld G (2 * i) 2) m) (fld G 0 2) path (sz : Int) i cur rem d r))
      case first =>
        go_region_held3 (fun w' => w'.cell? ⟨fk, 7, none⟩ = some (.pointer (some ⟨d, 0, none⟩))) (first | go_keep | exact hf2.cell0 c7 | (rw [World.cell?_setCell_other _ _ _ _ (by intro e; injection e with e1 e2; cases e2)]; exact hf2.cell0 c7))
          (first | (go_at_call 66; refine H8.out.mono ?_; rintro e w2 ⟨rfl, hf2⟩; have hb2 := hb1.drew.fr0 hf2; have c32 : w2.cell? ⟨fk, 3, none⟩ = some (.int .i64 0) := hb2.cell 3; have z32 := hb2.frozen 3))
        all_goals
          go_wp2_with fail
          go_meet
          case rel => exact ⟨(hf1.drew.trans0 hf2).setCell (.inl (by simp)) _, hb2.set 3 _⟩
      case rest =>
        obtain ⟨hf2, hb2⟩ := hcut
        have e3 : wc.cell? ⟨fk, 3, none⟩ = some (.int .i64 sz) := hb2.cell 3
        go_wp2_with fail
        go_end0
        exact ⟨rfl, hf2, hb2⟩
    · have hvI : decide ((3 : Int) < (v : Int)) = false := by simp; omega
      have hvJ : decide (3 < v) = false := by simp; omega
      go_upto_region 4 with (fail)
      go_cut [] from 29 to 41 (fun w2 => Fr [fk] w w2 ∧ Blk w2 fk 95 (flCells (nameOf (fun i => fld G (2 * i) 2) m) (fld G 0 2) path (sz : Int) i cur rem d r))
      case first =>
        go_region_held3 (fun w' => w'.cell? ⟨fk, 7, none⟩ = some (.pointer (some ⟨d, 0, none⟩))) (first | go_keep | exact hf2.cell0 c7 | (rw [World.cell?_setCell_other _ _ _ _ (by intro e; injection e with e1 e2; cases e2)]; exact hf2.cell0 c7))
          (first | (go_at_call 59; refine H4.out.mono ?_; rintro e w2 ⟨rfl, hf2⟩; have hb2 := hb1.drew.fr0 hf2; have c32 : w2.cell? ⟨fk, 3, none⟩ = some (.int .i64 0) := hb2.cell 3; have z32 := hb2.frozen 3))
        all_goals
          go_wp2_with fail
          go_meet
          case rel => exact ⟨(hf1.drew.trans0 hf2).setCell (.inl (by simp)) _, hb2.set 3 _⟩
      case rest =>
        obtain ⟨hf2, hb2⟩ := hcut
        have e3 : wc.cell? ⟨fk, 3, none⟩ = some (.int .i64 sz) := hb2.cell 3
        go_wp2_with fail
        go_end0
        exact ⟨rfl, hf2, hb2⟩
  · have hn2 : ((G 66).toNat : Int) ≠ 2 := fun h => ht (by
      have h9 : (G 66).toNat = 2 := by omega
      exact UInt8.toNat_inj.1 h9)
    clear ht
    go_wp2_with fail
    refine bodyPost_ret (results_none rfl _ _ _) rfl ?_
    exact ⟨rfl, hf1, hb1⟩
end Go.Proofs.YtokpomdfgbbhlaaDoor

/- The contract of (*Reader).setDifats where the header names no sectors of the DIFAT. -/
namespace Go.Proofs.YtokpomdfgbbhlaaDoor
open Go Go.RowKit

/-- The cells of a header. -/
def hdCells (fb : Nat) (difats mf ms : Value) : List Value := [.pointer (some ⟨fb, 0, none⟩), difats, mf, ms]

set_option maxRecDepth 100000 in
set_option maxHeartbeats 1000000 in
theorem setDifats_any (rb hb fb : Nat) (F : Nat → UInt8) (w : World) (h3 : w.cell? ⟨rb, 3, none⟩ = some (.pointer (some ⟨hb, 0, none⟩)))
    (hhb : Blk w hb 142 (hdCells fb (.slice none 0 0) (.slice none 0 0) (.slice none 0 0))) (hfb : Blk w fb 147 (hdrN F 109)) (hnd : fld F 72 4 = 0) (hrh : rb ≠ hb) :
    Calls Tryd.prog 50 #[.pointer (some ⟨rb, 0, none⟩)] w fun e w' =>
      e = .returned .nilIface ∧ Fr [hb] w w' ∧ Blk w' hb 142 (hdCells fb (.slice (some ⟨fb, 45, none⟩) 109 109) (.slice none 0 0) (.slice none 0 0)) := by
  have d0 := hhb.cell 0
  have d1 := hhb.cell 1
  have z1 := hhb.frozen 1
  have f44 := (hfb.cell 44).trans (hdr_ndf F)
  rw [hnd] at f44
  have hhf : fb ≠ hb := fun h => by subst h; exact absurd (hfb.unique hhb).1 (by decide)
  simp only [hdCells] at d0 d1
  go_enter Tryd.func50, Tryd.ntmps50
  go_wp2_with fail
  go_region
  go_wp2_with fail
  go_ret
  exact ⟨rfl, ((Fr.refl _ _).drew.setCell (.inl (by simp)) _), hhb.drew.set 1 _⟩
end Go.Proofs.YtokpomdfgbbhlaaDoor

/- A map[uint32]bool of the call's own that is asked for keys that it has not: the two laws. -/
namespace Go.Proofs.YtokpomdfgbbhlaaDoor
open Go Go.RowKit Go.Maps

/-- Block b is a map of type map[uint32]bool, all whose keys are in S. -/
def MSet (w : World) (b : Nat) (S : Nat → Prop) : Prop := ∃ es cl, w.heap[b]? = some (.map es cl) ∧ ∀ e ∈ es, ∃ k : Nat, e.key = .int .u32 k ∧ k < 4294967296 ∧ S k

theorem MSet.fr {w w' : World} {b : Nat} {S : Nat → Prop} {ms : List Nat} (h : MSet w b S) (f : Fr ms w w') (hb : b ∉ ms) : MSet w' b S := by
  obtain ⟨es, cl, h1, h2⟩ := h
  exact ⟨es, cl, (f.block b (Array.getElem?_eq_some_iff.1 h1).1 hb).trans h1, h2⟩

theorem MSet.mono {w : World} {b : Nat} {S S' : Nat → Prop} (h : MSet w b S) (hs : ∀ k, S k → S' k) : MSet w b S' := by
  obtain ⟨es, cl, h1, h2⟩ := h
  exact ⟨es, cl, h1, fun e he => by obtain ⟨k, a, b, c⟩ := h2 e he; exact ⟨k, a, b, hs k c⟩⟩

theorem MSet.lt {w : World} {b : Nat} {S : Nat → Prop} (h : MSet w b S) : b < w.heap.size := by
  obtain ⟨es, cl, h1, h2⟩ := h
  exact (Array.getElem?_eq_some_iff.1 h1).1

theorem MSet.made (w : World) (S : Nat → Prop) : MSet (w.alloc (.map #[] 0)) w.heap.size S := ⟨#[], 0, heap_alloc_new w _, by simp⟩

theorem MSet.notBlk {w : World} {b b' : Nat} {S : Nat → Prop} {T : TypeId} {l : List Value} (h : MSet w b S) (h' : Blk w b' T l) : b ≠ b' := by
  obtain ⟨es, cl, h1, h2⟩ := h
  intro e
  subst e
  unfold Blk at h'
  rw [h1] at h'
  cases h'

theorem u32_keyed : Keyed Tryd.prog 63 := int_keyed Tryd.underlying63
theorem u32_key (k : Nat) (h : k < 4294967296) : keyOf Tryd.prog 63 (.int .u32 k) = some (.int .u32 k) := keyOf_int_mk Tryd.underlying63 (WalkArith.wf_u32 (by omega))

theorem MSet.find {w : World} {S : Nat → Prop} {es : Array MapEntry} (hes : ∀ e ∈ es, ∃ k : Nat, e.key = .int .u32 k ∧ k < 4294967296 ∧ S k) (k : Nat) (hk : k < 4294967296) (hS : ¬ S k) :
    (Instr.findKey 63 (.int .u32 k) es.toList).run Tryd.prog w = .ok none w := by
  rcases u32_keyed.find w (u32_key k hk) es.toList (fun e he => by
    obtain ⟨k', h1, h2, _⟩ := hes e (by simpa using he)
    exact ⟨_, by rw [h1]; exact u32_key k' h2⟩) with ⟨h, _⟩ | ⟨j, e, _, h1, h2⟩
  · exact h
  · exfalso
    have he := List.mem_of_getElem? h1
    obtain ⟨k', a, b', c⟩ := hes e (by simpa using he)
    rw [a] at h2
    simp at h2
    have : k' = k := by omega
    subst this
    exact hS c

theorem MSet.run_lookup {w : World} {b : Nat} {S : Nat → Prop} (h : MSet w b S) (k : Nat) (hk : k < 4294967296) (hS : ¬ S k) :
    (Instr.lookup 148 (.map (some b)) (.int .u32 k) false).run Tryd.prog w = .ok (.bool false) w := by
  obtain ⟨es, cl, h1, h2⟩ := h
  have hf := MSet.find (w := w) h2 k hk hS
  have hc := u32_keyed.check w es.isEmpty (u32_key k hk)
  have hz : (zeroValue 4).run Tryd.prog w = .ok (.bool false) w := by kernel_rfl
  simp [Instr.lookup, run_underlying Tryd.underlying148, getObj, Sem.run, h1, hc, hf, hz]

theorem MSet.run_update {w : World} {b : Nat} {S : Nat → Prop} (h : MSet w b S) (k : Nat) (hk : k < 4294967296) (hS : ¬ S k) (v : Value) :
    ∃ w', (Instr.mapUpdate 148 (.map (some b)) (.int .u32 k) v).run Tryd.prog w = .ok () w' ∧ Fr [b] w w' ∧ MSet w' b (fun j => S j ∨ j = k) := by
  obtain ⟨es, cl, h1, h2⟩ := h
  have hf := MSet.find (w := w) h2 k hk hS
  have hc := u32_keyed.check w false (u32_key k hk)
  refine ⟨{ w with heap := w.heap.setIfInBounds b (.map (es.push { key := .int .u32 k, val := v, born := cl }) (cl + 1)) }, ?_, ⟨rfl, rfl, rfl, by simp, fun j _ hj => ?_⟩, ?_⟩
  · simp [Instr.mapUpdate, run_underlying Tryd.underlying148, getObj, setObj, Sem.run, h1, hc, hf]
  · simp only [List.mem_singleton] at hj
    simp [Ne.symm hj]
  · have hlt := (Array.getElem?_eq_some_iff.1 h1).1
    refine ⟨es.push { key := .int .u32 k, val := v, born := cl }, cl + 1, by simp [hlt], ?_⟩
    intro e he
    rcases Array.mem_push.1 he with he | he
    · obtain ⟨k', a, b', c⟩ := h2 e he
      exact ⟨k', a, b', .inl c⟩
    · subst he
      exact ⟨k, rfl, hk, .inr rfl⟩

/-- 'm[k] = v' at the walk, k a key that the map has not. -/
theorem wpList_update_mset {w : World} {ops : Array Oper} {rest : List Oper} {o : Oper} {a : Act} {Q : Exit → Act → World → Prop} (hg : o.guard = none) (m x v : Operand) (hop : o.op = Op.mapUpdate 148 m x v)
    (b : Nat) (S : Nat → Prop) (hm : a.eval m = .map (some b)) (h : MSet w b S) (k : Nat) (hx : a.eval x = .int .u32 k) (hk : k < 4294967296) (hS : ¬ S k)
    (hK : ∀ w', Fr [b] w w' → MSet w' b (fun j => S j ∨ j = k) → wpList Tryd.prog ops Q rest (a.put o.dst undef) w') : wpList Tryd.prog ops Q (o :: rest) a w := by
  refine wpList_plain hg fun K' hK' => ?_
  obtain ⟨w', hrun, r1, r2⟩ := h.run_update k hk hS (a.eval v)
  unfold Oper.wp
  simp [execOp, hop, hm, hx, hrun, Result.andThen]
  exact hK' _ _ (hK w' r1 r2)
end Go.Proofs.YtokpomdfgbbhlaaDoor

/- Rows of the call's own: frames, blocks. -/
namespace Go.Proofs.YtokpomdfgbbhlaaDoor
open Go Go.RowKit Go.Maps

/-- An owned row's own block is of its type. -/
theorem own_ne {w : World} {base : Nat} {e T : TypeId} {size n : Nat} {v : Value} {xs l : List Value} {b : Nat} (h : w.ownsRow base e size v n xs) (hb : Blk w b T l) (hT : T ≠ e) : b ∉ v.ownBlock.toList := by
  rcases h.2 with ⟨rfl, _⟩ | ⟨g, cap, cur, rfl, _, hg, _⟩
  · simp [Value.ownBlock]
  · simp only [Value.ownBlock, Option.toList_some, List.mem_singleton]
    rintro rfl
    unfold Blk at hb
    rw [hg] at hb
    simp at hb
    exact hT hb.2.symm
theorem own_mset {w : World} {base : Nat} {e : TypeId} {size n : Nat} {v : Value} {xs : List Value} {b : Nat} {S : Nat → Prop} (h : w.ownsRow base e size v n xs) (hb : MSet w b S) : b ∉ v.ownBlock.toList := by
  rcases h.2 with ⟨rfl, _⟩ | ⟨g, cap, cur, rfl, _, hg, _⟩
  · simp [Value.ownBlock]
  · simp only [Value.ownBlock, Option.toList_some, List.mem_singleton]
    rintro rfl
    obtain ⟨es, cl, h1, _⟩ := hb
    rw [hg] at h1
    cases h1
theorem Fr.of_grown {w w' : World} {row : Option Nat} (h : w.grownBy w' row) : Fr row.toList w w' :=
  ⟨h.os, h.tape, h.output, h.size, fun k hk hm => h.block k hk (by intro e; subst e; simp at hm)⟩
theorem own_fr {w w' : World} {base : Nat} {e : TypeId} {size n : Nat} {v : Value} {xs : List Value} {ms : List Nat} (h : w.ownsRow base e size v n xs) (f : Fr ms w w') (hm : ∀ k, v.ownBlock = some k → k ∉ ms) : w'.ownsRow base e size v n xs := by
  refine ⟨h.1, ?_⟩
  rcases h.2 with hn | ⟨g, cap, cur, rfl, hb, hg, rest⟩
  · exact .inl hn
  · refine .inr ⟨g, cap, cur, rfl, hb, ?_, rest⟩
    rw [f.block g (Array.getElem?_eq_some_iff.1 hg).1 (hm g rfl)]
    exact hg
theorem own_slice {w : World} {base : Nat} {e : TypeId} {size n : Nat} {v : Value} {xs : List Value} (h : w.ownsRow base e size v n xs) : ∃ a c, v = .slice a n c := by
  rcases h.2 with ⟨rfl, rfl⟩ | ⟨g, cap, cur, rfl, _, hg, _⟩
  · exact ⟨_, _, rfl⟩
  · exact ⟨_, _, rfl⟩

/-- A slice's length. -/
def lenOf : Value → Nat
  | .slice _ n _ => n
  | _ => 0

theorem own_len {w : World} {base : Nat} {e : TypeId} {size n : Nat} {v : Value} {xs : List Value} (h : w.ownsRow base e size v n xs) : lenOf v = n := by
  obtain ⟨a, c, rfl⟩ := own_slice h
  rfl

theorem tab_snoc (n : Nat) (g : Nat → Value) : tab (n + 1) g = tab n g ++ [g n] := by simp [tab, List.range_succ]

/-- An owned row of one-celled elements that is not empty, as a block. -/
theorem own_blk {w : World} {base : Nat} {e : TypeId} {n : Nat} {v : Value} {g : Nat → Value} (h : w.ownsRow base e 1 v n (tab n g)) (hn : 1 ≤ n) :
    ∃ b cap l, v = .slice (some ⟨b, 0, none⟩) n cap ∧ base ≤ b ∧ Blk w b e l ∧ ∀ i, i < n → l[i]? = some (g i) := by
  rcases h.2 with ⟨_, h0⟩ | ⟨b, cap, cur, rfl, hb, hg, _, _, _, ht⟩
  · omega
  · refine ⟨b, cap, cur.toList, rfl, hb, by simpa [Blk] using hg, fun i hi => ?_⟩
    have h1 : (cur.toList.take (n * 1))[i]? = (tab n g)[i]? := by rw [ht]
    rw [List.getElem?_take, if_pos (by omega), tab_get _ _ _ hi] at h1
    exact h1

theorem own_blk2 {w : World} {base : Nat} {e : TypeId} {n : Nat} {v : Value} {g : Nat → Value} (h : w.ownsRow base e 1 v n (tab n g)) (hn : 1 ≤ n) :
    ∃ b cap l, v = .slice (some ⟨b, 0, none⟩) n cap ∧ base ≤ b ∧ Blk w b e l ∧ (∀ i, i < n → l[i]? = some (g i)) ∧ n ≤ cap ∧ cap ≤ 9223372036854775807 := by
  obtain ⟨b, cap, l, rfl, h1, h2, h3⟩ := own_blk h hn
  rcases h.2 with ⟨h0, _⟩ | ⟨b', cap', cur, h0, _, _, h4, h5, _⟩
  · cases h0
  · injection h0 with e1 e2 e3
    subst e3
    exact ⟨b, cap, l, rfl, h1, h2, h3, h4, by simpa [maxLen] using h5⟩

end Go.Proofs.YtokpomdfgbbhlaaDoor

/- FnCodes: a file with another byte of its signature or size of sectors is an error of its format, a short one an error of reading (part 5 of 12). No condition but the statement's own. -/
import Derived.Laws.BitsAllLaws
import Derived.Great.BuildSlice
import Derived.Deep.CutBlock
import Derived.StillTailTactics
import Derived.Test.YtokpomdfgbbhlaaDoorCdd
set_option linter.all false
set_option linter.unusedVariables false
set_option linter.unusedSimpArgs false
set_option linter.unnecessarySimpa false
/- What nodesOf holds while it lays node after node. -/
namespace Go.Proofs.YtokpomdfgbbhlaaDoor
open Go Go.RowKit

/-- What nodesOf gives each node. -/
structure NdOK (x : Nd) : Prop where
  len : x.len ≤ 9000
  nm1 : 1 ≤ x.name.size
  nm2 : x.name.size ≤ 10
  nmc : ∀ j, (x.name.data.toList.getD j 0).toNat < 128
  nm0 : 65 ≤ (x.name.data.toList.getD 0 0).toNat ∧ (x.name.data.toList.getD 0 0).toNat ≤ 90
  left : x.left = -1
  right : x.right = -1
  child : x.child = -1
  cr : x.cr < 18446744073709551616
  md : x.md < 18446744073709551616
  emp : x.stream = false → x.len = 0

/-- The cells of n nodes. -/
def ndRow (n : Nat) (nd : Nat → Nd) (dv : Nat → Value) : List Value := (List.range n).flatMap (fun i => ndCells (nd i) (dv i))
def insI {α : Type} (n : Nat) (f : Nat → α) (x : α) : Nat → α := fun i => if i = n then x else f i
theorem insI_self {α : Type} (n : Nat) (f : Nat → α) (x : α) : insI n f x n = x := by unfold insI; rw [if_pos rfl]
theorem insI_ne {α : Type} (n : Nat) (f : Nat → α) (x : α) (i : Nat) (h : i ≠ n) : insI n f x i = f i := by unfold insI; rw [if_neg h]
theorem ndRow_snoc (n : Nat) (nd : Nat → Nd) (dv : Nat → Value) (x : Nd) (v : Value) : ndRow n nd dv ++ ndCells x v = ndRow (n + 1) (insI n nd x) (insI n dv v) := by
  unfold ndRow
  rw [List.range_succ, List.flatMap_append]
  congr 1
  · rw [List.flatMap_def, List.flatMap_def]
    congr 1
    apply List.map_congr_left
    intro i hi
    have := List.mem_range.1 hi
    rw [insI_ne _ _ _ _ (by omega), insI_ne _ _ _ _ (by omega)]
  · simp [insI_self]
theorem ndRow_get (n : Nat) (nd : Nat → Nd) (dv : Nat → Value) (k j : Nat) (hk : k < n) (hj : j < 28) : (ndRow n nd dv)[k * 28 + j]? = (ndCells (nd k) (dv k))[j]? := by
  induction n with
  | zero => omega
  | succ n ih =>
    have hl : ∀ m, (ndRow m nd dv).length = m * 28 := by
      intro m
      induction m with
      | zero => rfl
      | succ m ih2 => 
        have : ndRow (m + 1) nd dv = ndRow m nd dv ++ ndCells (nd m) (dv m) := by unfold ndRow; rw [List.range_succ, List.flatMap_append]; simp
        rw [this, List.length_append, ih2, ndCells_length]; omega
    have : ndRow (n + 1) nd dv = ndRow n nd dv ++ ndCells (nd n) (dv n) := by unfold ndRow; rw [List.range_succ, List.flatMap_append]; simp
    rw [this]
    by_cases h : k < n
    · rw [List.getElem?_append_left (by rw [hl]; omega)]; exact ih h
    · obtain rfl : k = n := by omega
      rw [List.getElem?_append_right (by rw [hl]; omega), hl]
      congr 1; omega

/-- What nodesOf holds while it lays node after node. -/
structure NInv (base : Nat) (w : World) (n : Nat) (v5 v6 : Value) (nd : Nat → Nd) (dv bv : Nat → Value) (B : Nat → List Nat) (par : Nat → Nat) : Prop where
  row : w.ownsRow base 42 28 v5 n (ndRow n nd dv)
  bel : w.ownsRow base 31 1 v6 n (tab n bv)
  bs : ∀ i, i < n → w.ownsRow base 3 1 (bv i) (B i).length ((B i).map (fun e => I64 e))
  dis : ∀ i j, i < n → j < n → i ≠ j → ∀ g, (bv i).ownBlock = some g → (bv j).ownBlock ≠ some g
  dat : ∀ i, i < n → DatIs w (nd i) (dv i)
  ok : ∀ i, i < n → NdOK (nd i)
  root : (nd 0).stream = false
  mem : ∀ i, i < n → ∀ e, e ∈ B i → i < e ∧ e < n ∧ par e = i
  nodup : ∀ i, i < n → (B i).Nodup
  le : ∀ x, par x ≤ x
  all : ∀ x, 1 ≤ x → x < n → par x < x ∧ x ∈ B (par x)

theorem NInv.fr {base n : Nat} {w w' : World} {v5 v6 : Value} {nd : Nat → Nd} {dv bv : Nat → Value} {B : Nat → List Nat} {par : Nat → Nat} (h : NInv base w n v5 v6 nd dv bv B par) (f : Fr [] w w') : NInv base w' n v5 v6 nd dv bv B par :=
  { h with
    row := own_fr h.row f (by simp)
    bel := own_fr h.bel f (by simp)
    bs := fun i hi => own_fr (h.bs i hi) f (by simp)
    dat := fun i hi => by
      obtain ⟨a, cap, h1, h2, h3, h4⟩ := h.dat i hi
      refine ⟨a, cap, h1, h2, h3, fun hl => ?_⟩
      obtain ⟨b, o, e, l, hb, hg⟩ := h4 hl
      exact ⟨b, o, e, l, hb.fr0 f, hg⟩ }

def rootNd : Nd := ⟨⟨#[82, 111, 111, 116, 32, 69, 110, 116, 114, 121]⟩, false, 0, fun _ => 0, -1, -1, -1, fun _ => 0, fun _ => 0, 0, 0⟩


def newCells (name : ByteArray) (st : Bool) (cr md : Int) : Array Value := #[.string name, .bool st, .slice none 0 0, .int .i64 (-1), .int .i64 (-1), .int .i64 (-1), .int .u8 0, .int .u8 0, .int .u8 0, .int .u8 0, .int .u8 0, .int .u8 0, .int .u8 0, .int .u8 0,
  .int .u8 0, .int .u8 0, .int .u8 0, .int .u8 0, .int .u8 0, .int .u8 0, .int .u8 0, .int .u8 0, .int .u8 0, .int .u8 0, .int .u8 0, .int .u8 0, .int .u64 cr, .int .u64 md]
theorem newCells_one (name : ByteArray) (st : Bool) (cr md : Int) : (newCells name st cr md).all (·.oneCell') = true := by
  have := all_oneCell_toArray (cs := (newCells name st cr md).toList) (fun v hv => by
    simp only [newCells, List.mem_cons, List.not_mem_nil, or_false] at hv
    repeat (rcases hv with rfl | hv; · rfl))
  rwa [Array.toArray_toList] at this
theorem newCells_nd (name : ByteArray) (st : Bool) (cr md : Int) (h1 : 0 ≤ cr) (h2 : 0 ≤ md) : (newCells name st cr md).toList = ndCells ⟨name, st, 0, fun _ => 0, -1, -1, -1, fun _ => 0, fun _ => 0, cr.toNat, md.toNat⟩ (.slice none 0 0) := by
  simp only [ndCells, Int.toNat_of_nonneg h1, Int.toNat_of_nonneg h2]
  rfl
theorem u8_any (z : Int) (h0 : 0 ≤ z) (h1 : z < 256) : ∃ b : UInt8, Value.int .u8 z = U8 b := by
  refine ⟨UInt8.ofNat z.toNat, ?_⟩
  unfold U8
  have : ((UInt8.ofNat z.toNat).toNat : Int) = z := by simp; omega
  rw [this]
theorem nd_setCls (X : Nd) (dv : Value) (j : Nat) (b : UInt8) (hj : j < 16) : (ndCells X dv).set (6 + j) (U8 b) = ndCells { X with cls := fun i => if i = j then b else X.cls i } dv := by
  have h : (tab 16 (fun i => U8 (X.cls i))).set j (U8 b) = tab 16 (fun i => U8 (if i = j then b else X.cls i)) := by
    rw [tab_set]
    exact tab_congr (fun i _ => by split <;> rfl)
  unfold ndCells
  rw [← h]
  rcases j with _|_|_|_|_|_|_|_|_|_|_|_|_|_|_|_|j <;> first | omega | rfl
theorem nd_setSts (X : Nd) (dv : Value) (j : Nat) (b : UInt8) (hj : j < 4) : (ndCells X dv).set (22 + j) (U8 b) = ndCells { X with sts := fun i => if i = j then b else X.sts i } dv := by
  have h : (tab 4 (fun i => U8 (X.sts i))).set j (U8 b) = tab 4 (fun i => U8 (if i = j then b else X.sts i)) := by
    rw [tab_set]
    exact tab_congr (fun i _ => by split <;> rfl)
  unfold ndCells
  rw [← h]
  rcases j with _|_|_|_|j <;> first | omega | rfl
/-- The new node on its way: a block of its own. -/
def XBlk (w0 w : World) (b : Nat) (X : Nd) : Prop := w0.heap.size ≤ b ∧ Fr [] w0 w ∧ Blk w b 42 (ndCells X (.slice none 0 0)) ∧ NdOK X ∧ X.len = 0
/-- The new node with its bytes. -/
structure XDone (w0 w : World) (b : Nat) (X : Nd) (dx : Value) : Prop where
  ge : w0.heap.size ≤ b
  fr : Fr [] w0 w
  blk : Blk w b 42 (ndCells X dx)
  ok : NdOK X
  dat : DatIs w X dx
theorem XBlk.done {w0 w : World} {b : Nat} {X : Nd} (h : XBlk w0 w b X) : XDone w0 w b X (.slice none 0 0) :=
  ⟨h.1, h.2.1, h.2.2.1, h.2.2.2.1, ⟨none, 0, by rw [h.2.2.2.2], by have := h.2.2.2.2; omega, by omega, fun h2 => by have := h.2.2.2.2; omega⟩⟩
/-- What the loop of bytes holds. -/
def XLoop (w0 w1 w : World) (b : Nat) (X : Nd) (j : Nat) : Prop :=
  ∃ (g : Nat → UInt8) (dx : Value), w0.heap.size ≤ b ∧ b < w1.heap.size ∧ Fr [] w0 w ∧ w1.heap.size ≤ w.heap.size ∧ Blk w b 42 (ndCells { X with len := j, dat := g } dx) ∧ w.ownsRow w1.heap.size 5 1 dx j (tab j (fun i => U8 (g i)))
theorem XLoop.done {w0 w1 w : World} {b : Nat} {X : Nd} {j : Nat} (h : XLoop w0 w1 w b X j) (hX : NdOK X) (hs : X.stream = true) (hj : j ≤ 9000) : ∃ X' dx, XDone w0 w b X' dx := by
  obtain ⟨g, dx, h1, h2, h3, h4, h5, h6⟩ := h
  refine ⟨{ X with len := j, dat := g }, dx, h1, h3, h5, { hX with len := hj, emp := fun he => by rw [show Nd.stream { X with len := j, dat := g } = X.stream from rfl, hs] at he; cases he }, ?_⟩
  by_cases h0 : 1 ≤ j
  · obtain ⟨c, cap, l, e1, e2, e3, e4, e5, e6⟩ := own_blk2 h6 h0
    exact ⟨_, cap, e1, e5, e6, fun _ => ⟨c, 0, rfl, l, e3, fun i hi => by rw [Nat.zero_add]; exact e4 i hi⟩⟩
  · obtain rfl : j = 0 := by omega
    obtain ⟨a, c, rfl⟩ := own_slice h6
    refine ⟨a, c, rfl, by show 0 ≤ c; omega, ?_, fun h => absurd h (by show ¬ 0 < 0; omega)⟩
    rcases h6.2 with ⟨e, _⟩ | ⟨b', cap', cur, e, _, _, _, e4, _⟩
    · cases e; omega
    · cases e; simpa [maxLen] using e4
theorem XBlk.cls {w0 w : World} {b : Nat} {X : Nd} (h : XBlk w0 w b X) (j : Nat) (hj : j < 16) (z : Int) (h0 : 0 ≤ z) (h1 : z < 256) : ∃ X', XBlk w0 (w.setCell ⟨b, 6 + j, none⟩ (.int .u8 z)) b X' := by
  obtain ⟨y, hy⟩ := u8_any z h0 h1
  obtain ⟨a1, a2, a3, a4, a5⟩ := h
  refine ⟨{ X with cls := fun i => if i = j then y else X.cls i }, a1, a2.setCell (.inr a1) _, ?_, ?_, a5⟩
  · rw [hy]
    have := a3.set (6 + j) (U8 y)
    rw [nd_setCls X _ j y hj] at this
    exact this
  · exact { a4 with }
theorem XBlk.sts {w0 w : World} {b : Nat} {X : Nd} (h : XBlk w0 w b X) (j : Nat) (hj : j < 4) (z : Int) (h0 : 0 ≤ z) (h1 : z < 256) : ∃ X', XBlk w0 (w.setCell ⟨b, 22 + j, none⟩ (.int .u8 z)) b X' := by
  obtain ⟨y, hy⟩ := u8_any z h0 h1
  obtain ⟨a1, a2, a3, a4, a5⟩ := h
  refine ⟨{ X with sts := fun i => if i = j then y else X.sts i }, a1, a2.setCell (.inr a1) _, ?_, ?_, a5⟩
  · rw [hy]
    have := a3.set (22 + j) (U8 y)
    rw [nd_setSts X _ j y hj] at this
    exact this
  · exact { a4 with }
def nmLit : ByteArray := { data := #[65, 66, 67, 68, 69, 70, 71, 72, 73, 74] }
def nmGood (x : ByteArray) : Bool := decide (1 ≤ x.size) && decide (x.size ≤ 10) && x.data.toList.all (fun b => decide (b.toNat < 128)) && decide (65 ≤ (x.data.toList.getD 0 0).toNat) && decide ((x.data.toList.getD 0 0).toNat ≤ 90)
theorem newNd_ok (name : ByteArray) (st : Bool) (cr md : Nat) (hg : nmGood name = true) (h1 : cr < 18446744073709551616) (h2 : md < 18446744073709551616) : NdOK ⟨name, st, 0, fun _ => 0, -1, -1, -1, fun _ => 0, fun _ => 0, cr, md⟩ := by
  simp only [nmGood, Bool.and_eq_true, decide_eq_true_eq, List.all_eq_true] at hg
  obtain ⟨⟨⟨⟨g1, g2⟩, g3⟩, g4⟩, g5⟩ := hg
  exact { len := by simp, nm1 := g1, nm2 := g2, nmc := fun j => by
            show (name.data.toList.getD j 0).toNat < 128
            rw [List.getD_eq_getElem?_getD]
            by_cases hj : j < name.data.toList.length
            · rw [List.getElem?_eq_getElem hj]
              exact g3 _ (List.getElem_mem hj)
            · rw [List.getElem?_eq_none (by omega)]; decide
          nm0 := ⟨g4, g5⟩, left := rfl, right := rfl, child := rfl, cr := h1, md := h2, emp := fun _ => rfl }
theorem newX (w w1 : World) (name : ByteArray) (st : Bool) (cr md : Int) (l : List Value) (hl : l.length = 28) (hf : Fr [w.heap.size] (w.alloc (.cells l.toArray 42)) w1) (hb : Blk w1 w.heap.size 42 (splice l 0 (newCells name st cr md).toList)) (hg : nmGood name = true)
    (h1 : 0 ≤ cr ∧ cr < 18446744073709551616) (h2 : 0 ≤ md ∧ md < 18446744073709551616) : ∃ X : Nd, XBlk w w1 w.heap.size X := by
  refine ⟨⟨name, st, 0, fun _ => 0, -1, -1, -1, fun _ => 0, fun _ => 0, cr.toNat, md.toNat⟩, Nat.le_refl _, ((Fr.refl [] w).alloc _).trans hf (by simp), ?_, newNd_ok _ _ _ _ hg (by omega) (by omega), rfl⟩
  rw [← newCells_nd _ _ _ _ h1.1 h2.1]
  have := splice_whole l (newCells name st cr md).toList (by rw [hl]; rfl)
  rw [this] at hb
  exact hb
set_option maxRecDepth 100000 in
theorem nm_all : ∀ q, q < 7 → ∀ k : Nat, k < 19 → nmGood (nmLit.extract 0 (1 + q) ++ Utf8.encode (65 + (k : Int))) = true := by decide
set_option maxRecDepth 100000 in
theorem nm_sz : ∀ q, q < 7 → (nmLit.extract 0 (1 + q)).size ≤ 8 := by decide
set_option maxRecDepth 100000 in
theorem nm_sz2 : ∀ k : Nat, k < 19 → (Utf8.encode (65 + (k : Int))).size ≤ 4 := by decide

def rootCells : Array Value := #[Value.string { data := #[82, 111, 111, 116, 32, 69, 110, 116, 114, 121] }, Value.bool false, Value.slice none 0 0, Value.int IntKind.i64 (-1), Value.int IntKind.i64 (-1), Value.int IntKind.i64 (-1),
            Value.int IntKind.u8 0, Value.int IntKind.u8 0, Value.int IntKind.u8 0, Value.int IntKind.u8 0, Value.int IntKind.u8 0, Value.int IntKind.u8 0, Value.int IntKind.u8 0, Value.int IntKind.u8 0,
            Value.int IntKind.u8 0, Value.int IntKind.u8 0, Value.int IntKind.u8 0, Value.int IntKind.u8 0, Value.int IntKind.u8 0, Value.int IntKind.u8 0, Value.int IntKind.u8 0, Value.int IntKind.u8 0,
            Value.int IntKind.u8 0, Value.int IntKind.u8 0, Value.int IntKind.u8 0, Value.int IntKind.u8 0, Value.int IntKind.u64 0, Value.int IntKind.u64 0]

theorem own_nil (w : World) (base : Nat) (e : TypeId) (size : Nat) : w.ownsRow base e size (.slice none 0 0) 0 [] := ⟨by simp, .inl ⟨rfl, rfl⟩⟩

theorem own_made (w : World) (base : Nat) (e : TypeId) (size n : Nat) (cs : Array Value) (hb : base ≤ w.heap.size) (hn : n ≤ 1000000) (hc : cs.size = n * size) : (w.alloc (.cells cs e)).ownsRow base e size (.slice (some ⟨w.heap.size, 0, none⟩) n n) n cs.toList :=
  ⟨by simpa using hc, .inr ⟨w.heap.size, n, cs, rfl, hb, heap_alloc_new w _, Nat.le_refl _, by unfold maxLen; omega, hc, List.take_of_length_le (by simp [hc])⟩⟩

theorem NInv.init (w : World) : NInv w.heap.size ((w.alloc (.cells rootCells 42)).alloc (.cells #[.slice none 0 0] 31)) 1 (.slice (some ⟨w.heap.size, 0, none⟩) 1 1) (.slice (some ⟨w.heap.size + 1, 0, none⟩) 1 1)
    (fun _ => rootNd) (fun _ => .slice none 0 0) (fun _ => .slice none 0 0) (fun _ => []) (fun _ => 0) where
  row := (own_made w _ 42 28 1 rootCells (Nat.le_refl _) (by omega) rfl).alloc _
  bel := by
    have := own_made (w.alloc (.cells rootCells 42)) w.heap.size 31 1 1 #[.slice none 0 0] (by simp) (by omega) rfl
    rw [World.size_alloc] at this
    exact this
  bs := fun i hi => own_nil _ _ _ _
  dis := fun i j hi hj hij g hg => by simp [Value.ownBlock] at hg
  dat := fun i hi => ⟨none, 0, rfl, by simp [rootNd], by omega, fun h => by simp [rootNd] at h⟩
  ok := fun i hi => {
    len := by simp [rootNd]
    nm1 := by simp [rootNd, ByteArray.size]
    nm2 := by simp [rootNd, ByteArray.size]
    nmc := fun j => by
      rcases j with _ | _ | _ | _ | _ | _ | _ | _ | _ | _ | j <;> simp [rootNd]
    nm0 := by simp [rootNd]
    left := rfl
    right := rfl
    child := rfl
    cr := by simp [rootNd]
    md := by simp [rootNd]
    emp := fun _ => rfl }
  root := rfl
  mem := fun i hi e he => by simp at he
  nodup := fun i hi => by simp
  le := fun x => by omega
  all := fun x h1 h2 => by omega

end Go.Proofs.YtokpomdfgbbhlaaDoor

/- One node more: what nodesOf holds behind the three appends of a round. -/
namespace Go.Proofs.YtokpomdfgbbhlaaDoor
open Go Go.RowKit

theorem info42 : (Tryd.prog.info? 42).map (fun i => (i.zero.map (·.cells.size), i.size, i.bytes)) = some (some 28, 28, 112) := by kernel_rfl
theorem info42_parts : ∃ i z, Tryd.prog.info? 42 = some i ∧ i.zero = some z ∧ i.size = 28 ∧ i.bytes = 112 ∧ z.cells.size = 28 := by
  obtain ⟨i, hi, hzz⟩ := Option.map_eq_some_iff.1 info42
  simp only [Prod.mk.injEq] at hzz
  obtain ⟨z, h1, h2⟩ := Option.map_eq_some_iff.1 hzz.1
  exact ⟨i, z, hi, h1, hzz.2.1, hzz.2.2, h2⟩

/-- A slice of one value of many cells. -/
theorem wpList_build_one {ops : Array Oper} {rest : List Oper} {o : Oper} {a : Act} {Q : Exit → Act → World → Prop} {w : World} (hgd : o.guard = none) (t e : TypeId) (x : Operand) (ho : o.op = .buildSlice t 1 #[(0, x)])
    (xl : Array Value) (hx : a.eval x = .agg xl) (ht : Tryd.prog.underlying t = some (.slice e)) (i : TypeInfo) (z : Value) (hi : Tryd.prog.info? e = some i) (hz : i.zero = some z) (size : Nat) (hs : i.size = size) (hxs : xl.size = size)
    (h0 : 0 < size) (h24 : size ≤ 1000) (h : wpList Tryd.prog ops Q rest (a.put o.dst (.slice (some ⟨w.heap.size, 0, none⟩) 1 1)) (w.alloc (.cells xl e))) : wpList Tryd.prog ops Q (o :: rest) a w := by
  refine wpList_buildSlice hgd t e 1 #[(0, x)] ho xl i z ht hi hz (by rw [hs]; omega) (by rw [hs]; omega) ?_ h
  have hv : (Value.agg xl).cells.size = size := hxs
  obtain ⟨r, hr, hrs, hrk⟩ := Great.fill_dense (s := size) h0 [Value.agg xl] 0 ((Array.range (1 * size)).map (z.cells[· % z.cells.size]!)) (fun v hv' => by simp at hv'; subst hv'; exact hv) (by simp)
  have e1 : (#[(0, x)].map fun (p : Nat × Operand) => (p.1, a.eval p.2)).toList = ([Value.agg xl].zipIdx 0).map fun x => (x.2, x.1) := by simp [hx]
  have e2 : r = xl := by
    apply Array.ext_getElem?
    intro k
    rw [hrk k]
    by_cases hk : k < size
    · rw [if_pos (by simp; omega), Nat.div_eq_of_lt hk, Nat.mod_eq_of_lt hk]
      rfl
    · rw [if_neg (by simp; omega), Array.getElem?_eq_none (by simp; omega), Array.getElem?_eq_none (by omega)]
  rw [hs]
  rw [e2] at hr
  exact (congrArg _ e1).trans hr

theorem all_oneCell_mem {xl : Array Value} (h : xl.all (·.oneCell') = true) : ∀ u ∈ xl.toList, u.oneCell' = true := by
  rw [← Array.all_toList, List.all_eq_true] at h
  exact h
theorem add_zero' (b j : Nat) : (⟨b, 0, none⟩ : Addr).add j = ⟨b, j, none⟩ := by unfold Addr.add; split <;> simp_all
theorem info31 : (Tryd.prog.info? 31).map (fun i => (i.zero, i.size, i.bytes)) = some (some (.slice none 0 0), 1, 24) := by kernel_rfl
theorem own_sep {w : World} {base base' : Nat} {e e' : TypeId} {size size' n n' : Nat} {v v' : Value} {xs xs' : List Value} (h : w.ownsRow base e size v n xs) (h' : w.ownsRow base' e' size' v' n' xs') (he : e ≠ e') :
    ∀ g, v.ownBlock = some g → g ∉ v'.ownBlock.toList := by
  intro g hg hg'
  rcases h.2 with ⟨rfl, _⟩ | ⟨b, cap, cur, rfl, _, hb, _⟩
  · simp [Value.ownBlock] at hg
  · rcases h'.2 with ⟨rfl, _⟩ | ⟨b', cap', cur', rfl, _, hb', _⟩
    · simp [Value.ownBlock] at hg'
    · simp only [Value.ownBlock, Option.some.injEq, Option.toList_some, List.mem_singleton] at hg hg'
      subst hg
      subst hg'
      rw [hb] at hb'
      simp at hb'
      exact he hb'.2

theorem DatIs.fr {w w' : World} {x : Nd} {dv : Value} {ms : List Nat} (h : DatIs w x dv) (f : Fr ms w w') (hm : ∀ b l, Blk w b 5 l → b ∉ ms) : DatIs w' x dv := by
  obtain ⟨a, cap, h1, h2, h3, h4⟩ := h
  refine ⟨a, cap, h1, h2, h3, fun hl => ?_⟩
  obtain ⟨b, o, e, l, hb, hg⟩ := h4 hl
  exact ⟨b, o, e, l, hb.fr f (hm _ _ hb), hg⟩

/-- An owned row that is not empty, as a block. -/
theorem own_blkS {w : World} {base : Nat} {e : TypeId} {size n : Nat} {v : Value} {xs : List Value} (h : w.ownsRow base e size v n xs) (hn : 1 ≤ n) :
    ∃ b cap l, v = .slice (some ⟨b, 0, none⟩) n cap ∧ base ≤ b ∧ Blk w b e l ∧ (∀ i, i < n * size → l[i]? = xs[i]?) ∧ n ≤ cap ∧ cap ≤ 9223372036854775807 ∧ l.length = cap * size := by
  rcases h.2 with ⟨_, h0⟩ | ⟨b, cap, cur, rfl, hb, hg, h4, h5, h6, ht⟩
  · omega
  · refine ⟨b, cap, cur.toList, rfl, hb, by simpa [Blk] using hg, fun i hi => ?_, h4, by simpa [maxLen] using h5, by simpa using h6⟩
    rw [← ht, List.getElem?_take, if_pos hi]

/-- A value stored into an owned row of one-celled elements. -/
theorem own_set {w : World} {base : Nat} {e : TypeId} {n cap b : Nat} {g : Nat → Value} (h : w.ownsRow base e 1 (.slice (some ⟨b, 0, none⟩) n cap) n (tab n g)) (i : Nat) (hi : i < n) (u : Value) :
    (w.setCell ⟨b, i, none⟩ u).ownsRow base e 1 (.slice (some ⟨b, 0, none⟩) n cap) n (tab n (fun j => if j = i then u else g j)) := by
  refine ⟨by simp, ?_⟩
  rcases h.2 with ⟨h0, _⟩ | ⟨b', cap', cur, hv, hb, hg, h4, h5, h6, ht⟩
  · cases h0
  · injection hv with e1 e2 e3
    cases e1
    subst e3
    have hB : Blk w b e cur.toList := by simpa [Blk] using hg
    have hB2 := hB.set i u
    refine .inr ⟨b, cap, (cur.toList.set i u).toArray, rfl, hb, by simpa [Blk] using hB2, h4, h5, by simpa using h6, ?_⟩
    rw [List.take_set, ht, tab_set]

theorem NInv.step {base n p gb cap : Nat} {w w1 w2 w3 : World} {v5 v6 v5' v3 dx : Value} {nd : Nat → Nd} {dv bv : Nat → Value} {B : Nat → List Nat} {par : Nat → Nat} {X : Nd}
    (h : NInv base w n v5 v6 nd dv bv B par) (hn : 1 ≤ n) (hp : p < n) (hX : NdOK X) (hdx : DatIs w X dx)
    (r1 : w1.ownsRow base 42 28 v5' (n + 1) (ndRow n nd dv ++ ndCells X dx)) (f1 : Fr v5.ownBlock.toList w w1)
    (r2 : w2.ownsRow base 31 1 (.slice (some ⟨gb, 0, none⟩) (n + 1) cap) (n + 1) (tab n bv ++ [.slice none 0 0])) (f2 : Fr v6.ownBlock.toList w1 w2)
    (r3 : w3.ownsRow base 3 1 v3 ((B p).length + 1) ((B p).map (fun e => I64 e) ++ [I64 n])) (f3 : Fr (bv p).ownBlock.toList w2 w3) (b3 : ∀ g, v3.ownBlock = some g → (bv p).ownBlock = some g ∨ w2.heap.size ≤ g) :
    NInv base (w3.setCell ⟨gb, p, none⟩ v3) (n + 1) v5' (.slice (some ⟨gb, 0, none⟩) (n + 1) cap) (insI n nd X) (insI n dv dx) (fun i => if i = p then v3 else insI n bv (.slice none 0 0) i)
      (fun i => if i = p then B p ++ [n] else insI n B [] i) (insI n par p) := by
  have f4 : Fr [gb] w3 (w3.setCell ⟨gb, p, none⟩ v3) := (Fr.refl _ _).setCell (.inl (by simp)) _
  have e6 : (Value.slice (some ⟨gb, 0, none⟩) (n + 1) cap).ownBlock.toList = [gb] := rfl
  -- rows of below at each stage
  have bel1 := own_fr h.bel f1 (own_sep h.bel h.row (by decide))
  have bs1 : ∀ i, i < n → w1.ownsRow base 3 1 (bv i) (B i).length ((B i).map (fun e => I64 e)) := fun i hi => own_fr (h.bs i hi) f1 (own_sep (h.bs i hi) h.row (by decide))
  have bs2 : ∀ i, i < n → w2.ownsRow base 3 1 (bv i) (B i).length ((B i).map (fun e => I64 e)) := fun i hi => own_fr (bs1 i hi) f2 (own_sep (bs1 i hi) bel1 (by decide))
  have dnot : ∀ i, i < n → i ≠ p → ∀ g, (bv i).ownBlock = some g → g ∉ (bv p).ownBlock.toList := by
    intro i hi hip g hg hgp
    exact h.dis i p hi hp hip g hg (by simpa using hgp)
  have bs3 : ∀ i, i < n → i ≠ p → w3.ownsRow base 3 1 (bv i) (B i).length ((B i).map (fun e => I64 e)) := fun i hi hip => own_fr (bs2 i hi) f3 (dnot i hi hip)
  have r2' : w3.ownsRow base 31 1 (.slice (some ⟨gb, 0, none⟩) (n + 1) cap) (n + 1) (tab n bv ++ [.slice none 0 0]) := own_fr r2 f3 (own_sep r2 (bs2 p hp) (by decide))
  have r1' : w2.ownsRow base 42 28 v5' (n + 1) (ndRow n nd dv ++ ndCells X dx) := own_fr r1 f2 (own_sep r1 bel1 (by decide))
  have r1'' : w3.ownsRow base 42 28 v5' (n + 1) (ndRow n nd dv ++ ndCells X dx) := own_fr r1' f3 (own_sep r1' (bs2 p hp) (by decide))
  have hb5 : ∀ {wa wb : World} {e : TypeId} {size m : Nat} {v : Value} {xs : List Value} {x : Nd} {d : Value}, DatIs wa x d → wa.ownsRow base e size v m xs → e ≠ 5 → Fr v.ownBlock.toList wa wb → DatIs wb x d :=
    fun hd ho he hf => hd.fr hf (fun b l hb => own_ne ho hb (Ne.symm he))
  have dat3 : ∀ {x : Nd} {d : Value}, DatIs w x d → DatIs (w3.setCell ⟨gb, p, none⟩ v3) x d := by
    intro x d hd
    have d1 := hb5 hd h.row (by decide) f1
    have d2 := hb5 d1 bel1 (by decide) f2
    have d3 := hb5 d2 (bs2 p hp) (by decide) f3
    exact hb5 d3 r2' (by decide) (by rw [e6]; exact f4)
  have inn : ∀ {α : Type} (f : Nat → α) (x : α) (i : Nat), i < n → insI n f x i = f i := fun f x i hi => insI_ne _ _ _ _ (by omega)
  refine {
    row := ?_
    bel := ?_
    bs := ?_
    dis := ?_
    dat := ?_
    ok := ?_
    root := ?_
    mem := ?_
    nodup := ?_
    le := ?_
    all := ?_ }
  · have := own_fr r1'' f4 (by have := own_sep r1'' r2' (by decide); rwa [e6] at this)
    rw [ndRow_snoc] at this
    exact this
  · have e : tab n bv ++ [Value.slice none 0 0] = tab (n + 1) (insI n bv (.slice none 0 0)) := by
      rw [tab_snoc, insI_self]
      congr 1
      exact tab_congr (fun i hi => (inn bv _ i hi).symm)
    rw [e] at r2'
    exact own_set r2' p (by omega) v3
  · intro i hi
    by_cases hip : i = p
    · subst hip
      simp only [if_pos rfl]
      have := own_fr r3 f4 (by have := own_sep r3 r2' (by decide); rwa [e6] at this)
      simpa using this
    · simp only [if_neg hip]
      by_cases hin : i < n
      · rw [inn bv _ i hin, inn B _ i hin]
        exact own_fr (bs3 i hin hip) f4 (by have := own_sep (bs3 i hin hip) r2' (by decide); rwa [e6] at this)
      · obtain rfl : i = n := by omega
        rw [insI_self, insI_self]
        exact own_nil _ _ _ _
  · have lem : ∀ i, i < n + 1 → i ≠ p → ∀ g, (insI n bv (.slice none 0 0) i).ownBlock = some g → i < n ∧ (bv i).ownBlock = some g := by
      intro i hi hip g hg
      by_cases hin : i < n
      · rw [inn bv _ i hin] at hg; exact ⟨hin, hg⟩
      · obtain rfl : i = n := by omega
        rw [insI_self] at hg
        simp [Value.ownBlock] at hg
    have lem3 : ∀ i, i < n → i ≠ p → ∀ g, v3.ownBlock = some g → (bv i).ownBlock ≠ some g := by
      intro i hi hip g hg hg2
      rcases b3 g hg with h1 | h1
      · exact h.dis i p hi hp hip g hg2 h1
      · have := ((bs2 i hi).lt g hg2).2
        omega
    intro i j hi hj hij g hg
    by_cases hip : i = p
    · subst hip
      simp only [if_pos rfl] at hg
      rw [if_neg (Ne.symm hij)]
      intro hg2
      obtain ⟨a, b⟩ := lem j hj (Ne.symm hij) g hg2
      exact lem3 j a (Ne.symm hij) g hg b
    · simp only [if_neg hip] at hg
      obtain ⟨a, b⟩ := lem i hi hip g hg
      by_cases hjp : j = p
      · subst hjp
        simp only [if_pos rfl]
        intro hg2
        exact lem3 i a hip g hg2 b
      · simp only [if_neg hjp]
        intro hg2
        obtain ⟨c, d⟩ := lem j hj hjp g hg2
        exact h.dis i j a c hij g b d
  · intro i hi
    by_cases hin : i < n
    · rw [inn nd _ i hin, inn dv _ i hin]; exact dat3 (h.dat i hin)
    · obtain rfl : i = n := by omega
      rw [insI_self, insI_self]; exact dat3 hdx
  · intro i hi
    by_cases hin : i < n
    · rw [inn nd _ i hin]; exact h.ok i hin
    · obtain rfl : i = n := by omega
      rw [insI_self]; exact hX
  · rw [inn nd _ 0 (by omega)]; exact h.root
  · intro i hi e he
    by_cases hip : i = p
    · subst hip
      rw [if_pos rfl] at he
      rcases List.mem_append.1 he with he | he
      rotate_left
      · obtain rfl := List.mem_singleton.1 he
        rw [insI_self]; exact ⟨hp, by omega, rfl⟩
      · obtain ⟨a1, a2, a3⟩ := h.mem i hp e he
        rw [inn par _ e a2]
        exact ⟨a1, by omega, a3⟩
    · simp only [if_neg hip] at he
      by_cases hin : i < n
      · rw [inn B _ i hin] at he
        obtain ⟨a1, a2, a3⟩ := h.mem i hin e he
        rw [inn par _ e a2]
        exact ⟨a1, by omega, a3⟩
      · obtain rfl : i = n := by omega
        rw [insI_self] at he
        simp at he
  · intro i hi
    by_cases hip : i = p
    · subst hip
      rw [if_pos rfl, List.nodup_append]
      refine ⟨h.nodup i hp, by simp, ?_⟩
      intro a ha b hb hab
      have := (h.mem i hp a ha).2.1
      simp at hb
      omega
    · simp only [if_neg hip]
      by_cases hin : i < n
      · rw [inn B _ i hin]; exact h.nodup i hin
      · obtain rfl : i = n := by omega
        rw [insI_self]; simp
  · intro x
    by_cases hx : x = n
    · subst hx; rw [insI_self]; omega
    · rw [insI_ne _ _ _ _ hx]; exact h.le x
  · intro x h1 h2
    by_cases hx : x = n
    · subst hx
      rw [insI_self]
      exact ⟨hp, by simp⟩
    · rw [insI_ne _ _ _ _ hx]
      obtain ⟨a, b⟩ := h.all x h1 (by omega)
      refine ⟨a, ?_⟩
      by_cases hq : par x = p
      · rw [if_pos hq, ← hq]; exact List.mem_append_left _ b
      · rw [if_neg hq, inn B _ _ (by omega)]; exact b
theorem NInv.len_le {base n : Nat} {w : World} {v5 v6 : Value} {nd : Nat → Nd} {dv bv : Nat → Value} {B : Nat → List Nat} {par : Nat → Nat} (h : NInv base w n v5 v6 nd dv bv B par) (p : Nat) (hp : p < n) : (B p).length ≤ n :=
  nodup_le n (h.nodup p hp) (fun e he => (h.mem p hp e he).2.1)
end Go.Proofs.YtokpomdfgbbhlaaDoor

/- Single operations, over a frame that is a variable. -/
namespace Go.Proofs.YtokpomdfgbbhlaaDoor
open Go Go.RowKit

section
variable {o : Oper} {a : Act} {w w' : World} {K : Act → World → Prop} {Q : Exit → Act → World → Prop}
theorem lw (v : Value) (hr : (execOp a.eval o).run Tryd.prog w = .ok (.value v) w') (hK : K (a.put o.dst v) w') : o.wp Tryd.prog a w K Q := by
  unfold Oper.wp
  rw [hr]
  exact hK
theorem lw_skip (hr : (execOp a.eval o).run Tryd.prog w = .ok .skip w') (hK : K (a.put o.dst undef) w') : o.wp Tryd.prog a w K Q := by
  unfold Oper.wp
  rw [hr]
  exact hK
theorem eval_at (d : Nat) (v : Value) (h : a.tmps.getD d undef = v) : a.eval (.tmp d) = v := h
theorem ow_move (x : Operand) (ho : o.op = .move x) (v : Value) (hv : a.eval x = v) (hK : K (a.put o.dst v) w) : o.wp Tryd.prog a w K Q := by
  refine lw v ?_ hK
  unfold execOp
  simp only [ho, hv, Sem.run_pure]
theorem ow_assign (x : Operand) (ho : o.op = .assign x) (v : Value) (hv : a.eval x = v) (hK : K (a.put o.dst v) w) : o.wp Tryd.prog a w K Q := by
  refine lw v ?_ hK
  unfold execOp
  simp only [ho, hv, Sem.run_pure]
theorem ow_load (ty : TypeId) (x : Operand) (ho : o.op = .load ty x) (b i : Nat) (hx : a.eval x = .pointer (some ⟨b, i, none⟩)) (d : TypeDesc) (hu : Tryd.prog.underlying ty = some d) (hd : d.isRow = false) (v : Value) (hc : w.cell? ⟨b, i, none⟩ = some v)
    (hl : (loadVar ty ⟨b, i, none⟩).run Tryd.prog w = .ok v w) (hK : K (a.put o.dst v) w) : o.wp Tryd.prog a w K Q := by
  refine lw v ?_ hK
  unfold execOp
  simp only [ho, hx, Instr.loadAt, Instr.sureAddr, Sem.run_bind, Sem.run_pure, Result.andThen_ok, hl]
theorem ow_build1 (hg : True) (t e : TypeId) (x : Operand) (ho : o.op = .buildSlice t 1 #[(0, x)]) (v : Value) (hx : a.eval x = v) (hv : v.cells = #[v]) (ht : Tryd.prog.underlying t = some (.slice e)) (hi : (Tryd.prog.info? e).map (fun i => (i.zero.isSome, i.size)) = some (true, 1))
    (hK : K (a.put o.dst (.slice (some ⟨w.heap.size, 0, none⟩) 1 1)) (w.alloc (.cells #[v] e))) : o.wp Tryd.prog a w K Q := by
  cases hie : Tryd.prog.info? e with
  | none => rw [hie] at hi; simp at hi
  | some i =>
    rw [hie] at hi
    simp only [Option.map_some, Option.some.injEq, Prod.mk.injEq] at hi
    obtain ⟨z, hz⟩ := Option.isSome_iff_exists.1 hi.1
    refine wp_buildSlice t e 1 #[(0, x)] ho #[v] i z ht hie hz (by rw [hi.2]; omega) (by rw [hi.2]; omega) ?_ hK
    obtain ⟨r, hr, hrs, hrk⟩ := Great.fill_dense (s := 1) (by omega) [v] 0 ((Array.range (1 * 1)).map (z.cells[· % z.cells.size]!)) (fun u hu => by simp at hu; subst hu; rw [hv]; rfl) (by simp)
    have e1 : (#[(0, x)].map fun (p : Nat × Operand) => (p.1, a.eval p.2)).toList = ([v].zipIdx 0).map fun x => (x.2, x.1) := by simp [hx]
    have e2 : r = #[v] := by
      apply Array.ext_getElem?
      intro k
      rw [hrk k]
      by_cases hk : k < 1
      · obtain rfl : k = 0 := by omega
        simp [hv]
      · rw [if_neg (by simp; omega), Array.getElem?_eq_none (by simp; omega), Array.getElem?_eq_none (by simp; omega)]
    rw [hi.2]
    rw [e2] at hr
    exact (congrArg _ e1).trans hr
theorem ow_app (s x : Operand) (t : TypeId) (ho : o.op = .call { callee := .builtin .append, args := #[s, x], argTypes := #[t, t] }) (e : TypeId) (i : TypeInfo) (z : Value) (size bytes : Nat) (ht : Tryd.prog.underlying t = some (.slice e))
    (hi : Tryd.prog.info? e = some i) (hz : i.zero = some z) (hsize : i.size = size) (hby : i.bytes = bytes) (hzs : z.cells.size = size) (hsz : 0 < size)
    (base : Nat) (v : Value) (n : Nat) (xs : List Value) (hs : a.eval s = v) (hown : w.ownsRow base e size v n xs) (ad : Addr) (m c : Nat) (news : List Value) (hx : a.eval x = .slice (some ad) m c) (hl : news.length = m * size)
    (hnews : ∀ j u, news[j]? = some u → w.cell? (ad.add j) = some u) (h1 : ∀ u ∈ news, u.oneCell' = true) (h63 : n + m ≤ maxLen) (hbt : (n + m) * bytes ≤ 140737488355328) (hb : base ≤ w.heap.size)
    (h : ∀ v' w', w'.ownsRow base e size v' (n + m) (xs ++ news) → Fr v.ownBlock.toList w w' → K (a.put o.dst v') w') : o.wp Tryd.prog a w K Q := by
  obtain ⟨v', w', hr, h2, h3, _⟩ := run_append_own (P := Tryd.prog) w base t o.type e i z size bytes ht hi hz hsize hby hzs hsz v n xs hown ad m c news hl hnews h1 h63 hbt hb
  unfold Oper.wp
  simp only [execOp, ho, resolve, invoke, builtin, Sem.run_bind, Sem.run_pure, Result.andThen_ok, List.map_toArray, List.map_cons, List.map_nil, hs, hx, hr]
  exact h v' w' h2 (Fr.of_grown h3)
theorem ow_store (ty : TypeId) (x y : Operand) (ho : o.op = .store ty x y) (b : Nat) (v : Value) (hx : a.eval x = .pointer (some ⟨b, 0, none⟩)) (hy : a.eval y = v) (hv : v.cells = #[v]) (h1 : v.oneCell' = true) (T : TypeId) (old : Value) (hb : Blk w b T [old]) (hi : (Tryd.prog.info? ty).map (·.size) = some 1)
    (hK : K (a.put o.dst undef) (w.setRow b #[v])) : o.wp Tryd.prog a w K Q := by
  unfold Oper.wp execOp
  have h := run_storeVar_one (P := Tryd.prog) w b T ty old v hb hi h1
  simp only [ho, hx, hy, Instr.storeAt, Instr.sureAddr, Sem.run_bind, Sem.run_pure, Result.andThen_ok, h]
  exact hK
end
/-- Nobody in the region writes this slot. -/
def noDstB (ops : Array Oper) (d : Nat) : Bool := ops.all (fun o => o.dst != some d)
theorem LInv.outer {J : (Nat → Bool) → World → Prop} {Sp : Nat → World → Value → Prop} {ops : Array Oper} {a0 a : Act} {L : Nat → Bool} {w : World} (h : LInv J Sp ops a0 L a w) (d : Nat) (hb : noDstB ops d = true) (v : Value) (hv : a0.tmps[d]? = some v) : a.tmps.getD d undef = v := by
  have h1 := h.free d (fun i o _ hi hd => by
    unfold noDstB at hb
    rw [← Array.all_toList, List.all_eq_true] at hb
    have := hb o (Array.mem_toList_iff.2 (Array.mem_of_getElem? hi))
    rw [hd] at this
    simp at this)
  rw [Array.getD_eq_getD_getElem?, h1, hv]
  rfl
theorem LInv.before {J : (Nat → Bool) → World → Prop} {Sp : Nat → World → Value → Prop} {ops : Array Oper} {a0 a : Act} {L : Nat → Bool} {w : World} (h : LInv J Sp ops a0 L a w) {i j : Nat} {o : Oper} (hi : L i = false) (hj : ops[j]? = some o) (hb : (o.after.any fun e => Region.binds .any e && e.on == i) = true) : L j = false := by
  rcases hl : L j with _ | _
  · rfl
  · exfalso
    rw [← Array.any_toList, List.any_eq_true] at hb
    obtain ⟨e, he, h2⟩ := hb
    simp only [Bool.and_eq_true, beq_iff_eq] at h2
    have := h.closed j o hl hj e (Array.mem_toList_iff.1 he) h2.1
    rw [h2.2, hi] at this
    cases this
theorem waits_of {o : Oper} {L : Nat → Bool} (hw : ∀ e ∈ o.after, Region.binds .any e = true → L e.on = true) (j : Nat) (hb : (o.after.any fun e => Region.binds .any e && e.on == j) = true) : L j = true := by
  rw [← Array.any_toList, List.any_eq_true] at hb
  obtain ⟨e, he, h2⟩ := hb
  simp only [Bool.and_eq_true, beq_iff_eq] at h2
  rw [← h2.2]
  exact hw e (Array.mem_toList_iff.1 he) h2.1
theorem LInv.then {J : (Nat → Bool) → World → Prop} {Sp : Nat → World → Value → Prop} {ops : Array Oper} {a0 a : Act} {L : Nat → Bool} {w : World} (h : LInv J Sp ops a0 L a w) {i j : Nat} {o : Oper} (hi : L i = true) (hj : ops[i]? = some o) (hb : (o.after.any fun e => Region.binds .any e && e.on == j) = true) : L j = true :=
  waits_of (h.closed i o hi hj) j hb
theorem fold_set_get (f : Nat → Value) : ∀ (ds : List Nat) (t : Array Value) (k : Nat), (ds.foldl (fun t d => t.setIfInBounds d (f d)) t)[k]? = if k ∈ ds ∧ k < t.size then some (f k) else t[k]?
  | [], t, k => by simp
  | d :: ds, t, k => by
    rw [List.foldl_cons, fold_set_get f ds, Array.size_setIfInBounds]
    by_cases h1 : k < t.size
    · by_cases h2 : k ∈ ds
      · rw [if_pos ⟨h2, h1⟩, if_pos ⟨List.mem_cons_of_mem _ h2, h1⟩]
      · rw [if_neg (fun h => h2 h.1)]
        by_cases h3 : d = k
        · subst h3
          rw [if_pos ⟨List.mem_cons_self, h1⟩]
          simp [h1]
        · rw [Array.getElem?_setIfInBounds_ne h3, if_neg]
          rintro ⟨h, _⟩
          rcases List.mem_cons.1 h with h | h
          · exact h3 h.symm
          · exact h2 h
    · rw [if_neg (fun h => h1 h.2), if_neg (fun h => h1 h.2), Array.getElem?_eq_none (by simp; omega), Array.getElem?_eq_none (by omega)]
/-- The frame behind the region, written out. -/
theorem LInv.lit {J : (Nat → Bool) → World → Prop} {Sp : Nat → World → Value → Prop} {ops : Array Oper} {a0 a : Act} {L : Nat → Bool} {w : World} (h : LInv J Sp ops a0 L a w) (ds : List Nat)
    (hb : (ops.all fun o => match o.dst with | some d => ds.contains d | none => true) = true) : a = ⟨ds.foldl (fun t d => t.setIfInBounds d (a.tmps.getD d undef)) a0.tmps, a0.defers⟩ := by
  obtain ⟨t, df⟩ := a
  have hd : df = a0.defers := h.defers
  subst hd
  congr 1
  apply Array.ext_getElem?
  intro k
  rw [fold_set_get]
  have hs : t.size = a0.tmps.size := h.size
  by_cases h1 : k < a0.tmps.size
  · by_cases h2 : k ∈ ds
    · rw [if_pos ⟨h2, h1⟩]
      have : k < t.size := by omega
      simp [Array.getD, this]
    · rw [if_neg (fun h => h2 h.1)]
      refine h.free k (fun i o _ hi hdst => ?_)
      rw [← Array.all_toList, List.all_eq_true] at hb
      have := hb o (Array.mem_toList_iff.2 (Array.mem_of_getElem? hi))
      rw [hdst] at this
      simp only [List.contains_iff_mem] at this
      exact h2 this
  · rw [if_neg (fun h => h1 h.2), Array.getElem?_eq_none (by omega), Array.getElem?_eq_none (by omega)]
theorem setRow_blk {w : World} {b : Nat} {T : TypeId} {old v : Value} (h : Blk w b T [old]) : Blk (w.setRow b #[v]) b T [v] := by
  have := setRow_heap w b _ #[v] T _ h
  simpa [Blk] using this
theorem setRow_fr (w : World) (b : Nat) (c : Array Value) : Fr [b] w (w.setRow b c) := ⟨rfl, rfl, rfl, by simp [World.setRow], fun k _ hk => setRow_other w b k _ (by simpa using hk)⟩
end Go.Proofs.YtokpomdfgbbhlaaDoor

/- A drawn region that appends one value where there is room and stores the slice anew. -/
namespace Go.Proofs.YtokpomdfgbbhlaaDoor
open Go Go.RowKit

structure AR where
  (wr : World)
  (sb k gb n cap B A S : Nat)
  (T : TypeId)
  (l : List Value)
  (u : Value)
  (cst : Nat → Value)
def AR.nv (R : AR) : Value := .slice (some ⟨R.gb, 0, none⟩) (R.n + 1) R.cap
structure AR.J (R : AR) (L : Nat → Bool) (w : World) : Prop where
  a : L R.S = false → Fr [R.gb] R.wr w
  b : L R.A = false → L R.S = false → Blk w R.gb R.T R.l
  c : L R.A = true → L R.S = false → Blk w R.gb R.T (splice R.l R.n [R.u])
  d : L R.S = true → ∃ w3, Fr [R.gb] R.wr w3 ∧ Blk w3 R.gb R.T (splice R.l R.n [R.u]) ∧ w = w3.setCell ⟨R.sb, R.k, none⟩ R.nv
def AR.Sp (R : AR) (i : Nat) (w : World) (v : Value) : Prop := if i = R.B then (∃ g, v = .slice (some ⟨g, 0, none⟩) 1 1 ∧ Blk w g R.T [R.u] ∧ R.wr.heap.size ≤ g) else v = R.cst i
theorem AR.sp_c {R : AR} {i : Nat} {w : World} {v : Value} (h : i ≠ R.B) (hv : v = R.cst i) : R.Sp i w v := by unfold AR.Sp; rw [if_neg h]; exact hv
theorem AR.of_sp {R : AR} {i : Nat} {w : World} {v : Value} (hs : R.Sp i w v) (h : i ≠ R.B) : v = R.cst i := by unfold AR.Sp at hs; rwa [if_neg h] at hs
theorem AR.of_spB {R : AR} {w : World} {v : Value} (hs : R.Sp R.B w v) : ∃ g, v = .slice (some ⟨g, 0, none⟩) 1 1 ∧ Blk w g R.T [R.u] ∧ R.wr.heap.size ≤ g := by unfold AR.Sp at hs; rwa [if_pos rfl] at hs
theorem AR.Sp_fr {R : AR} {w w' : World} {b : Nat} (f : Fr [b] w w') (hb : b < R.wr.heap.size) (i : Nat) (u : Value) (h : R.Sp i w u) : R.Sp i w' u := by
  unfold AR.Sp at h ⊢
  split at h
  · obtain ⟨g, e1, e2, e3⟩ := h
    rename_i hi
    rw [if_pos hi]
    exact ⟨g, e1, e2.fr f (by simp; omega), e3⟩
  · rename_i hi
    rw [if_neg hi]
    exact h
theorem AR.Sp_fr0 {R : AR} {w w' : World} (f : Fr [] w w') (i : Nat) (u : Value) (h : R.Sp i w u) : R.Sp i w' u := by
  unfold AR.Sp at h ⊢
  split at h
  · obtain ⟨g, e1, e2, e3⟩ := h
    rename_i hi
    rw [if_pos hi]
    exact ⟨g, e1, e2.fr0 f, e3⟩
  · rename_i hi
    rw [if_neg hi]
    exact h
section
variable {R : AR} {L : Nat → Bool} {w w' : World}
theorem AR.J.alloc (h : R.J L w) (hS : L R.S = false) (f : Fr [] w w') (i : Nat) (hi : i ≠ R.A ∧ i ≠ R.S) : R.J (lSet L i) w' where
  a := fun _ => (h.a hS).trans0 f
  b := fun hl _ => (h.b (by rwa [lSet_ne _ _ _ (Ne.symm hi.1)] at hl) hS).fr0 f
  c := fun hl _ => (h.c (by rwa [lSet_ne _ _ _ (Ne.symm hi.1)] at hl) hS).fr0 f
  d := fun hl => by rw [lSet_ne _ _ _ (Ne.symm hi.2), hS] at hl; cases hl
theorem AR.J.app (h : R.J L w) (hS : L R.S = false) (hne : R.A ≠ R.S) (f : Fr [R.gb] w w') (hb : Blk w' R.gb R.T (splice R.l R.n [R.u])) : R.J (lSet L R.A) w' where
  a := fun _ => (h.a hS).trans_same f
  b := fun hl _ => by rw [lSet_self] at hl; cases hl
  c := fun _ _ => hb
  d := fun hl => by rw [lSet_ne _ _ _ (Ne.symm hne), hS] at hl; cases hl
theorem AR.J.store (h : R.J L w) (hS : L R.S = false) (hA : L R.A = true) : R.J (lSet L R.S) (w.setCell ⟨R.sb, R.k, none⟩ R.nv) where
  a := fun hl => by rw [lSet_self] at hl; cases hl
  b := fun _ hl => by rw [lSet_self] at hl; cases hl
  c := fun _ hl => by rw [lSet_self] at hl; cases hl
  d := fun _ => ⟨w, h.a hS, h.c hA hS, rfl⟩
end
theorem ow_app_room {o : Oper} {a : Act} {w : World} {K : Act → World → Prop} {Q : Exit → Act → World → Prop} (s x : Operand) (t : TypeId) (ho : o.op = Op.call { callee := Callee.builtin Builtin.append, args := #[s, x], argTypes := #[t, t] })
    (e : TypeId) (h1 : Tryd.prog.underlying t = some (.slice e)) (h2 : (Tryd.prog.info? e).map (·.size) = some 1) (g n cap : Nat) (l : List Value) (hs : a.eval s = .slice (some ⟨g, 0, none⟩) n cap) (hb : Blk w g e l) (gx : Nat) (u : Value) (hx : a.eval x = .slice (some ⟨gx, 0, none⟩) 1 1)
    (hc : Blk w gx e [u]) (h1c : u.oneCell' = true) (hroom : n + 1 ≤ cap) (hfit : n + 1 ≤ l.length) (hK : ∀ w', Fr [g] w w' → Blk w' g e (splice l n [u]) → K (a.put o.dst (.slice (some ⟨g, 0, none⟩) (n + 1) cap)) w') : o.wp Tryd.prog a w K Q := by
  cases hq : Tryd.prog.info? e with
  | none => simp [hq] at h2
  | some i =>
    have hsz : i.size = 1 := by simpa [hq] using h2
    have hrun := run_append_room (P := Tryd.prog) w t o.type e i h1 hq g n cap l.toArray hb ⟨gx, 0, none⟩ 1 1 [u] (by simp [hsz]) (fun j y hj => by rw [add_zero']; exact (hc.cell j).trans hj) (by simpa using h1c) hroom (by simp [hsz]; omega)
    rw [hsz, Nat.mul_one] at hrun
    have hsr : Blk (w.setRow g (l.toArray.toList.take n ++ [u] ++ l.toArray.toList.drop (n + [u].length)).toArray) g e (splice l n [u]) := by
      have := setRow_heap w g _ (l.toArray.toList.take n ++ [u] ++ l.toArray.toList.drop (n + [u].length)).toArray e _ hb
      simpa [Blk, splice] using this
    unfold Oper.wp
    simp only [execOp, ho, resolve, invoke, builtin, Sem.run_bind, Sem.run_pure, Result.andThen_ok, List.map_toArray, List.map_cons, List.map_nil, hs, hx, hrun]
    exact hK _ (setRow_fr _ _ _) hsr
end Go.Proofs.YtokpomdfgbbhlaaDoor

/- The contract of (*Reader).setMiniStream. -/
namespace Go.Proofs.YtokpomdfgbbhlaaDoor
open Go Go.RowKit Go.Maps

theorem madeCells_tab (z : Value) (n : Nat) (h : z.cells = #[z]) : madeCells z.cells (n * 1) = (tab n (fun _ => z)).toArray := by
  apply Array.ext'
  rw [h]
  simp [madeCells, tab, List.map_const', Nat.mod_one]

/-- make([]T, l, c) of one-celled elements. -/
theorem make_tab {t e : TypeId} {z : Value} {bytes : Nat} (ht : Tryd.prog.underlying t = some (.slice e)) (hi : (Tryd.prog.info? e).map (fun i => (i.zero, i.size, i.bytes)) = some (some z, 1, bytes)) (hz : z.cells = #[z])
    (l c : Nat) (hlc : l ≤ c) (hb : bytes * c ≤ 281474976710656) (h63 : c ≤ 9223372036854775807) (w : World) :
    (Instr.makeSlice t (.int .i64 l) (.int .i64 c)).run Tryd.prog w = .ok (.slice (some ⟨w.heap.size, 0, none⟩) l c) (w.alloc (.cells (tab c (fun _ => z)).toArray e)) := by
  obtain ⟨i, h1, h2, h3, h4⟩ := info_parts hi
  have := run_make (P := Tryd.prog) w t e i z ht h1 h2 .i64 .i64 l c (by omega) (by omega) (by rw [h4]; have h : ((bytes * c : Nat) : Int) ≤ 281474976710656 := by omega
                                                                                               rwa [Int.natCast_mul] at h) (by omega)
  rw [this, h3, Int.toNat_natCast, Int.toNat_natCast, madeCells_tab z c hz]

theorem info63 : (Tryd.prog.info? 63).map (fun i => (i.zero, i.size, i.bytes)) = some (some (.int .u32 0), 1, 4) := by kernel_rfl
theorem make_u32 (c : Nat) (h : c ≤ 1000000) (w : World) : (Instr.makeSlice 22 (.int .i64 c) (.int .i64 c)).run Tryd.prog w = .ok (.slice (some ⟨w.heap.size, 0, none⟩) c c) (w.alloc (.cells (tab c (fun _ => .int .u32 0)).toArray 63)) :=
  make_tab Tryd.underlying22 info63 rfl c c (Nat.le_refl _) (by omega) (by omega) w
theorem make_u32_0 (c : Nat) (h : c ≤ 1000000) (w : World) : (Instr.makeSlice 22 (.int .i64 0) (.int .i64 c)).run Tryd.prog w = .ok (.slice (some ⟨w.heap.size, 0, none⟩) 0 c) (w.alloc (.cells (tab c (fun _ => .int .u32 0)).toArray 63)) :=
  make_tab Tryd.underlying22 info63 rfl 0 c (by omega) (by omega) (by omega) w

/-- append where there is room, as a step of a region that draws its order. -/
theorem step_append_room_blk {P : Program} {ops : Array Oper} {o : Oper} {a : Act} {w : World} {K : Act → World → Prop} {Q : Exit → Act → World → Prop} {E : Prop}
    (hg : o.guard = none) (s x : Operand) (t : TypeId) (hop : o.op = Op.call { callee := Callee.builtin Builtin.append, args := #[s, x], argTypes := #[t, t] })
    (e : TypeId) (h1 : P.underlying t = some (.slice e)) (size : Nat) (h2 : (P.info? e).map (·.size) = some size)
    (g n cap : Nat) (l : List Value) (hs : a.eval s = .slice (some ⟨g, 0, none⟩) n cap) (hb : Blk w g e l) (ad : Addr) (m c : Nat) (news : List Value) (hx : a.eval x = .slice (some ad) m c) (hn : news.length = m * size)
    (hc : ∀ j u, news[j]? = some u → w.cell? (ad.add j) = some u) (h1c : ∀ u ∈ news, u.oneCell' = true) (hroom : n + m ≤ cap) (hfit : n * size + news.length ≤ l.length)
    (hK : ∀ w', Fr [g] w w' → Blk w' g e (splice l (n * size) news) → K (a.put o.dst (.slice (some ⟨g, 0, none⟩) (n + m) cap)) w') :
    if Region.wanted o (yielded ops a.tmps) = true then Oper.wp P o a w K Q else E := by
  have hw : Region.wanted o (yielded ops a.tmps) = true := by simp [Region.wanted, hg]
  rw [if_pos hw]
  cases hq : P.info? e with
  | none => simp [hq] at h2
  | some i =>
    have hsz : i.size = size := by simpa [hq] using h2
    subst hsz
    have hrun := run_append_room (P := P) w t o.type e i h1 hq g n cap l.toArray hb ad m c news hn hc h1c hroom (by simpa using hfit)
    have h3 := hK (w.setRow g (l.toArray.toList.take (n * i.size) ++ news ++ l.toArray.toList.drop (n * i.size + news.length)).toArray)
      ⟨rfl, rfl, rfl, by simp [World.setRow], fun k _ hk => setRow_other w g k _ (by simpa using hk)⟩
      (by
        have := setRow_heap w g _ (l.toArray.toList.take (n * i.size) ++ news ++ l.toArray.toList.drop (n * i.size + news.length)).toArray e _ hb
        simpa [Blk, splice] using this)
    unfold Oper.wp
    simp [execOp, hop, resolve, invoke, builtin, hs, hx, hrun, Result.andThen]
    simp only [Oper.upon]
    simpa using h3

set_option maxRecDepth 100000 in
set_option maxHeartbeats 1000000 in
/-- Nothing is done where there is no ministream. -/
theorem setMini_none (rb hb fb ss g f0 d0 E cap : Nat) (F G : Nat → UInt8) (buf difats mf ms file wa : Value) (entry : Int) (sb : Nat) (w : World)
    (hrb : Blk w rb 91 (rdCells ss buf (.pointer (some ⟨hb, 0, none⟩)) file (.slice (some ⟨g, 0, none⟩) E cap) entry sb wa)) (hE : 1 ≤ E)
    (hhb : Blk w hb 142 (hdCells fb difats mf ms)) (hfb : Blk w fb 147 (hdrN F 109)) (hg : w.cell? ⟨g, 0, none⟩ = some (.pointer (some ⟨f0, 0, none⟩)))
    (h7 : w.cell? ⟨f0, 7, none⟩ = some (.pointer (some ⟨d0, 0, none⟩))) (hd : Blk w d0 119 (tab 69 (dirL12 G))) (hs : fld G 116 4 = 4294967294) :
    Calls Tryd.prog 52 #[.pointer (some ⟨rb, 0, none⟩)] w fun e w' => e = .returned .nilIface ∧ w = w' := by
  have r5 : w.cell? ⟨rb, 5, none⟩ = some (.slice (some ⟨g, 0, none⟩) E cap) := hrb.cell 5
  have d60 := (hd.cell 60).trans (dir_start G)
  rw [hs] at d60
  clear hs
  go_enter Tryd.func52, Tryd.ntmps52
  go_wp2_with fail
  go_ret
  exact ⟨rfl, rfl⟩

set_option maxRecDepth 100000 in
set_option maxHeartbeats 1000000 in
theorem setMini_some (rb hb fb sb bb n ncap ss g f0 d0 E cap c m : Nat) (F G : Nat → UInt8) (cf cs : Nat → Nat) (buf file wa : Value) (entry : Int) (w : World) (hS : Src w sb bb n ncap F)
    (hss : ss = 512 ∨ ss = 4096)
    (hrb : Blk w rb 91 (rdCells ss buf (.pointer (some ⟨hb, 0, none⟩)) file (.slice (some ⟨g, 0, none⟩) E cap) entry sb wa)) (hE : 1 ≤ E)
    (hhb : Blk w hb 142 (hdCells fb (.slice (some ⟨fb, 45, none⟩) 109 109) (.slice none 0 0) (.slice none 0 0))) (hfb : Blk w fb 147 (hdrN F 109)) (hg : w.cell? ⟨g, 0, none⟩ = some (.pointer (some ⟨f0, 0, none⟩)))
    (h7 : w.cell? ⟨f0, 7, none⟩ = some (.pointer (some ⟨d0, 0, none⟩))) (hd : Blk w d0 119 (tab 69 (dirL12 G))) (hgh : g ≠ hb) (hfh : f0 ≠ hb) (hsh : sb ≠ hb) (hbh : bb ≠ hb)
    (hch : Chain F n ss (fld G 116 4) m cs) (hm : 1 ≤ m) (hc1 : 1 ≤ c) (hc : fld F 64 4 = c) (hcs : ss / 4 * c ≤ 64000) (hmc : m ≤ ss / 4 * c) (hcf0 : fld F 60 4 = cf 0) (hcfl : cf 0 ≤ 65535)
    (hcf : ∀ j, j + 1 < c → FatAt F n ss (cf j) ∧ fatNext F ss (cf j) = cf (j + 1)) :
    Calls Tryd.prog 52 #[.pointer (some ⟨rb, 0, none⟩)] w fun e w' => e = .returned .nilIface ∧ Fr [hb] w w' ∧ ∃ mf ms k,
      Blk w' hb 142 (hdCells fb (.slice (some ⟨fb, 45, none⟩) 109 109) (.slice (some ⟨mf, 0, none⟩) c c) (.slice (some ⟨ms, 0, none⟩) m k)) ∧ w.heap.size ≤ mf ∧ w.heap.size ≤ ms ∧ m ≤ k ∧
      (∀ i, i < c → w'.cell? ⟨mf, i, none⟩ = some (.int .u32 (cf i))) ∧ (∀ i, i < m → w'.cell? ⟨ms, i, none⟩ = some (.int .u32 (cs i))) := by
  have r3 : w.cell? ⟨rb, 3, none⟩ = some (.pointer (some ⟨hb, 0, none⟩)) := hrb.cell 3
  have r5 : w.cell? ⟨rb, 5, none⟩ = some (.slice (some ⟨g, 0, none⟩) E cap) := hrb.cell 5
  have d0' : w.cell? ⟨hb, 0, none⟩ = some (.pointer (some ⟨fb, 0, none⟩)) := hhb.cell 0
  have d60 := (hd.cell 60).trans (dir_start G)
  have f41 := (hfb.cell 41).trans (hdr_mf F)
  have f42 := (hfb.cell 42).trans (hdr_nmf F)
  have hst : fld G 116 4 ≤ 65535 := by rw [hch.first]; exact (hch.low 0 (by omega)).1
  have hc64 : c ≤ 64000 := by have := Nat.mul_le_mul (show 1 ≤ ss / 4 by omega) (Nat.le_refl c); omega
  have t1 : (((fld G 116 4 : Nat) : Int) == 4294967294) = false := by simp; omega
  have t2 : (((cf 0 : Nat) : Int) == 4294967294) = false := by simp; omega
  have t3 : ((c : Int) == 0) = false := by simp; omega
  have t4 : decide ((64000 : Int) < c) = false := by simp; omega
  have tw : wrap64 (c : Int) = c := by unfold wrap64; omega
  rw [hc] at f42
  rw [hcf0] at f41
  clear hc hcf0
  go_enter Tryd.func52, Tryd.ntmps52
  go_upto_region 6 with (fail)
  go_cut [] from 85 to 92 (fun w1 => Fr [hb] w w1 ∧ Blk w1 hb 142 (hdCells fb (.slice (some ⟨fb, 45, none⟩) 109 109) (.slice (some ⟨w.heap.size, 0, none⟩) c c) (.slice none 0 0)) ∧ Blk w1 w.heap.size 63 (tab c (fun _ => .int .u32 0)))
  case first =>
    have hmk := make_u32 c (by omega)
    have h2 : w.cell? ⟨hb, 2, none⟩ = some (.slice none 0 0) := hhb.cell 2
    have z2 := hhb.frozen 2
    have a3 : (w.alloc (Obj.cells (tab c (fun _ => Value.int .u32 0)).toArray 63)).cell? ⟨rb, 3, none⟩ = some (.pointer (some ⟨hb, 0, none⟩)) := (hrb.alloc _).cell 3
    have a2 : (w.alloc (Obj.cells (tab c (fun _ => Value.int .u32 0)).toArray 63)).cell? ⟨hb, 2, none⟩ = some (.slice none 0 0) := (hhb.alloc _).cell 2
    have az2 := (hhb.alloc (Obj.cells (tab c (fun _ => Value.int .u32 0)).toArray 63)).frozen 2
    have hlh := hhb.lt
    go_region
    all_goals
      go_wp2_with fail
      go_meet
      case rel =>
        refine ⟨(((Fr.refl [hb] _).setCell (p := ⟨hb, 2, none⟩) (.inl (by simp)) _).alloc _).drew, ((hhb.set 2 _).alloc _).drew, ?_⟩
        have := Blk.new (w.setCell ⟨hb, 2, none⟩ (.slice (some ⟨w.heap.size, 0, none⟩) c c)) 63 (tab c (fun _ => Value.int .u32 0))
        rw [show (w.setCell ⟨hb, 2, none⟩ (.slice (some ⟨w.heap.size, 0, none⟩) c c)).heap.size = w.heap.size by simp] at this
        exact this
  case rest =>
  obtain ⟨hf1, hhb1, hmb1⟩ := hcut
  have hlh := hhb.lt
  have hlr := hrb.lt
  generalize hMB : w.heap.size = mb at *
  have hrh : rb ≠ hb := fun h => by subst h; exact absurd (hrb.unique hhb).1 (by decide)
  have hfbh : fb ≠ hb := fun h => by subst h; exact absurd (hfb.unique hhb).1 (by decide)
  have hdh : d0 ≠ hb := fun h => by subst h; exact absurd (hd.unique hhb).1 (by decide)
  go_upto_region 7 with (fail)
  go_cut [] from 93 to 110 (fun w1 => Fr [hb] w w1 ∧ Blk w1 hb 142 (hdCells fb (.slice (some ⟨fb, 45, none⟩) 109 109) (.slice (some ⟨mb, 0, none⟩) c c) (.slice none 0 0)) ∧ Blk w1 mb 63 (tab c (fun j => .int .u32 (if j < 1 then cf j else 0 : Nat))))
  case first =>
    have a3 : wc.cell? ⟨rb, 3, none⟩ = some (.pointer (some ⟨hb, 0, none⟩)) := hf1.cell (by simpa using hrh) r3
    have a2 : wc.cell? ⟨hb, 2, none⟩ = some (.slice (some ⟨mb, 0, none⟩) c c) := hhb1.cell 2
    have a0 : wc.cell? ⟨hb, 0, none⟩ = some (.pointer (some ⟨fb, 0, none⟩)) := hhb1.cell 0
    have a41 := hf1.cell (by simpa using hfbh) f41
    have m0 : wc.cell? ⟨mb, 0, none⟩ = some (.int .u32 0) := (hmb1.cell 0).trans (tab_get _ _ _ (by omega))
    have mz := hmb1.frozen 0
    have c0 : (0 : Int) < c := by omega
    go_region
    all_goals
      go_wp2_with fail
      go_meet
      case rel =>
        refine ⟨hf1.drew.setCell (.inr (by simp; omega)) _, hhb1.drew.setOther (by simp; omega) _, ?_⟩
        have := hmb1.drew.set 0 (.int .u32 (cf 0 : Nat))
        rw [tab_set] at this
        rw [tab_congr (g' := fun j => .int .u32 (if j < 1 then cf j else 0 : Nat)) ?_] at this
        · exact this
        · intro i hi
          by_cases h : i = 0
          · subst h; simp
          · rw [if_neg h, if_neg (by omega)]; rfl
  case rest =>
  clear hf1 hhb1 hmb1
  obtain ⟨hf1, hhb1, hmb1⟩ := hcut
  have HSs := Lib.hid hss
  have HCH := Lib.hid hch
  clear hss hch

  go_upto_block 0 with fail
  go_cut [2, 4, 5, 6] from 111 to 161 (fun s2 _ _ _ w1 => s2 = .nilIface ∧ Fr [hb] w w1 ∧ Blk w1 hb 142 (hdCells fb (.slice (some ⟨fb, 45, none⟩) 109 109) (.slice (some ⟨mb, 0, none⟩) c c) (.slice none 0 0)) ∧ Blk w1 mb 63 (tab c (fun j => .int .u32 (cf j : Nat))))
  case first =>
    go_wp2_with fail
    go_loopw [2, 4] (fun s2 s4 wr => ∃ k : Nat, 1 ≤ k ∧ k ≤ c ∧ s2 = .nilIface ∧ s4 = .int .i64 k ∧ Fr [hb] w wr ∧ Blk wr hb 142 (hdCells fb (.slice (some ⟨fb, 45, none⟩) 109 109) (.slice (some ⟨mb, 0, none⟩) c c) (.slice none 0 0)) ∧
      Blk wr mb 63 (tab c (fun j => .int .u32 (if j < k then cf j else 0 : Nat)))) (fun _ s4 _ => c - (intOf s4).toNat)
    case atStart => exact ⟨1, by omega, by omega, rfl, rfl, hf1, hhb1, hmb1⟩
    case round =>
      clear hf1 hhb1 hmb1
      obtain ⟨k, hk1, hk2, rfl, rfl, hf1, hhb1, hmb1⟩ := hrel
      by_cases hlt : k < c
      · have hltI : (k : Int) < c := by omega
        have a3 : wr.cell? ⟨rb, 3, none⟩ = some (.pointer (some ⟨hb, 0, none⟩)) := hf1.cell (by simpa using hrh) r3
        have a2 : wr.cell? ⟨hb, 2, none⟩ = some (.slice (some ⟨mb, 0, none⟩) c c) := hhb1.cell 2
        have mk : wr.cell? ⟨mb, k - 1, none⟩ = some (.int .u32 (cf (k - 1) : Nat)) := by
          rw [hmb1.cell, tab_get _ _ _ (by omega), if_pos (by omega)]
        obtain ⟨hat, hnx⟩ := hcf (k - 1) (by omega)
        have hfk : (((k : Int) - 1).toNat) = k - 1 := by omega
        go_wp2_with fail
        refine (findNext_at rb hb fb sb bb n ncap ss (cf (k - 1)) F _ _ _ _ _ _ _ _ (hS.fr hf1 (by simpa using hsh) (by simpa using hbh)) (hrb.fr hf1 (by simpa using hrh)) hhb1 (hfb.fr hf1 (by simpa using hfbh)) HSs.out hat).mono ?_
        rintro e w6 ⟨rfl, hf6⟩
        rw [hnx, show k - 1 + 1 = k by omega]
        have a3' := hf6.cell0 a3
        have a2' := hf6.cell0 a2
        have hhb2 := hhb1.fr0 hf6
        have hmb2 := hmb1.fr0 hf6
        have mk' : w6.cell? ⟨mb, k, none⟩ = some (.int .u32 0) := by
          rw [hmb2.cell, tab_get _ _ _ hlt, if_neg (by omega)]; rfl
        have mz := hmb2.frozen k
        have hf2 := hf1.trans0 hf6
        go_wp2_with fail
        go_roundw
        case rel =>
          refine ⟨k + 1, by omega, by omega, rfl, by go_num, hf2.setCell (.inr (by simp; omega)) _, hhb2.setOther (by simp; omega) _, ?_⟩
          have := hmb2.set k (.int .u32 (cf k : Nat))
          rw [tab_set] at this
          rw [tab_congr (g' := fun j => .int .u32 (if j < k + 1 then cf j else 0 : Nat)) ?_] at this
          · exact this
          · intro i hi
            by_cases h : i = k
            · subst h; simp
            · rw [if_neg h]
              by_cases h2 : i < k
              · rw [if_pos h2, if_pos (by omega)]
              · rw [if_neg h2, if_neg (by omega)]
        case measure => simp [intOf]; omega
      · obtain rfl : k = c := by omega
        go_wp2_with fail
        go_meet
        case rel =>
          refine ⟨rfl, hf1, hhb1, ?_⟩
          rw [tab_congr (g' := fun j => .int .u32 (cf j : Nat)) (fun i hi => by rw [if_pos hi])] at hmb1
          exact hmb1
  case rest =>
  clear hf1 hhb1 hmb1
  obtain ⟨rfl, hf1, hhb1, hmb1⟩ := hcut
  generalize hC : ss / 4 * c = C at *
  have hmk := make_u32_0 C (by omega)
  have hCI : ((ss : Int) / 4) * c = C := by rw [← hC]; push_cast; rfl
  have a3 : wc.cell? ⟨rb, 3, none⟩ = some (.pointer (some ⟨hb, 0, none⟩)) := hf1.cell (by simpa using hrh) r3
  have a1 : wc.cell? ⟨rb, 1, none⟩ = some (.int .u32 ss) := hf1.cell (by simpa using hrh) (hrb.cell 1)
  have a0 : wc.cell? ⟨hb, 0, none⟩ = some (.pointer (some ⟨fb, 0, none⟩)) := hhb1.cell 0
  have a42 := hf1.cell (by simpa using hfbh) f42
  have hw1 : ((ss : Int) / 4) % 4294967296 = (ss : Int) / 4 := by have := HSs.out; omega
  have t5 : decide ((64000 : Int) < C) = false := by simp; omega
  have hw2 : (C : Int) % 4294967296 = C := by omega
  go_upto_region 15 with (fail)
  go_cut [3] from 162 to 178 (fun s3 w1 => s3 = .int .i64 C ∧ Fr [] wc w1)
  case first =>
    go_quiet (fail)
    go_wp2_with fail
    go_meet
    case rel => exact ⟨by go_num, (Fr.refl _ _).drewN _⟩
  case rest =>
  have hf1c := hf1
  have hhb1c := hhb1
  have hmb1c := hmb1
  clear hf1 hhb1 hmb1
  obtain ⟨rfl, hfc⟩ := hcut
  have hf1 := hf1c.trans0 hfc
  have hhb1 := hhb1c.fr0 hfc
  have hmb1 := hmb1c.fr0 hfc
  clear hf1c hhb1c hmb1c a3 a1 a0 a42
  obtain ⟨msb, hMS⟩ : ∃ x, wc.heap.size = x := ⟨_, rfl⟩
  have hsz : w.heap.size ≤ msb := by rw [← hMS]; exact hf1.size
  have hms1 : mb < msb := by rw [← hMS]; exact hmb1.lt
  go_upto_region 18 with (fail)
  go_cut [] from 181 to 188 (fun w1 => Fr [hb] w w1 ∧ Blk w1 hb 142 (hdCells fb (.slice (some ⟨fb, 45, none⟩) 109 109) (.slice (some ⟨mb, 0, none⟩) c c) (.slice (some ⟨msb, 0, none⟩) 0 C)) ∧ Blk w1 mb 63 (tab c (fun j => .int .u32 (cf j : Nat))) ∧
    Blk w1 msb 63 (tab C (fun _ => .int .u32 0)) ∧ msb < w1.heap.size)
  case first =>
    have h2 : wc.cell? ⟨hb, 3, none⟩ = some (.slice none 0 0) := hhb1.cell 3
    have z2 := hhb1.frozen 3
    have a3 : wc.cell? ⟨rb, 3, none⟩ = some (.pointer (some ⟨hb, 0, none⟩)) := hf1.cell (by simpa using hrh) r3
    have a3' : (wc.alloc (Obj.cells (tab C (fun _ => Value.int .u32 0)).toArray 63)).cell? ⟨rb, 3, none⟩ = some (.pointer (some ⟨hb, 0, none⟩)) := ((Fr.refl [] wc).alloc _).cell0 a3
    have a2 : (wc.alloc (Obj.cells (tab C (fun _ => Value.int .u32 0)).toArray 63)).cell? ⟨hb, 3, none⟩ = some (.slice none 0 0) := (hhb1.alloc _).cell 3
    have az2 := (hhb1.alloc (Obj.cells (tab C (fun _ => Value.int .u32 0)).toArray 63)).frozen 3
    go_region
    all_goals
      go_wp2_with fail
      go_meet
      case rel =>
        subst hMS
        exact ⟨((hf1.alloc _).setCell (p := ⟨hb, 3, none⟩) (.inl (by simp)) _).drew, ((hhb1.alloc _).set 3 _).drew, ((hmb1.alloc _).setOther (by simp; omega) _).drew, ((Blk.new _ _ _).setOther (by simp; omega) _).drew, by simp⟩
  case rest =>
  clear hf1 hhb1 hmb1 hfc hMS
  obtain ⟨hf1', hhb1', hmb1', hsb1', hlt1⟩ := hcut
  have hf1 := hf1'.alloc (Obj.map #[] 0)
  have hhb1 := hhb1'.alloc (Obj.map #[] 0)
  have hmb1 := hmb1'.alloc (Obj.map #[] 0)
  have hsb1 := hsb1'.alloc (Obj.map #[] 0)
  have hms := MSet.made wc (fun k => ∃ i, 1 ≤ i ∧ i ≤ 0 ∧ k = cs i)
  clear hf1' hhb1' hmb1' hsb1'
  have hmm := @run_makeMap Tryd.prog
  have c5 := hf1.cell (by simpa using hrh) r5
  have cg := hf1.cell (by simpa using hgh) hg
  have c7 := hf1.cell (by simpa using hfh) h7
  have c60 := hf1.cell (by simpa using hdh) d60
  go_wp2_with fail
  have hmw : msb < wc.heap.size := hlt1
  generalize hM2 : wc.heap.size = mp at *
  go_loopw [2, 8] (fun s2 s8 wr => ∃ (j : Nat) (l' : List Value), j ≤ m ∧ s2 = .nilIface ∧ s8 = .int .u32 (cs j : Nat) ∧ Fr [hb] w wr ∧ Blk wr hb 142 (hdCells fb (.slice (some ⟨fb, 45, none⟩) 109 109) (.slice (some ⟨mb, 0, none⟩) c c) (.slice (some ⟨msb, 0, none⟩) j C)) ∧
    Blk wr mb 63 (tab c (fun j => .int .u32 (cf j : Nat))) ∧ Blk wr msb 63 l' ∧ l'.length = C ∧ (∀ i, i < j → l'[i]? = some (.int .u32 (cs i : Nat))) ∧ MSet wr mp (fun k => ∃ i, 1 ≤ i ∧ i ≤ j ∧ k = cs i)) (fun _ _ wr => m - lenOf ((wr.cell? ⟨hb, 3, none⟩).getD .nilIface))
  case atStart => exact ⟨0, _, by omega, rfl, by rw [HCH.out.first], hf1, hhb1, hmb1, hsb1, by simp, fun i hi => by omega, hms⟩
  case round =>
    clear hf1 hhb1 hmb1 hsb1 hms c5 cg c7 c60
    obtain ⟨j, l', hj, rfl, rfl, hf1, hhb1, hmb1, hsb1, hl1, hl2, hms⟩ := hrel
    have hL2 := Lib.hid hl2
    have xm0 : (wr.cell? ⟨hb, 3, none⟩).getD .nilIface = (.slice (some ⟨msb, 0, none⟩) j C) := by rw [hhb1.cell 3]; rfl
    clear hl2
    by_cases hlt : j < m
    · have hsn := HCH.out.low j hlt
      have hne : ((cs j : Nat) : Int) ≠ 4294967294 := by omega
      have a3 : wr.cell? ⟨rb, 3, none⟩ = some (.pointer (some ⟨hb, 0, none⟩)) := hf1.cell (by simpa using hrh) r3
      have a2 : wr.cell? ⟨hb, 3, none⟩ = some (.slice (some ⟨msb, 0, none⟩) j C) := hhb1.cell 3
      have z3 := hhb1.frozen 3
      go_upto_region 22 with (fail)
      go_cut [] from 202 to 219 (fun w1 => Fr [hb, msb] wr w1 ∧ Blk w1 hb 142 (hdCells fb (.slice (some ⟨fb, 45, none⟩) 109 109) (.slice (some ⟨mb, 0, none⟩) c c) (.slice (some ⟨msb, 0, none⟩) (j + 1) C)) ∧ Blk w1 msb 63 (splice l' j [.int .u32 (cs j : Nat)]))
      case first =>
        obtain ⟨R, hR⟩ : ∃ R : AR, R = ⟨wr, hb, 3, msb, j, C, 12, 13, 16, 63, l', .int .u32 (cs j : Nat), fun i => match i with
          | 0 | 1 | 4 | 5 => .pointer (some ⟨rb, 0, none⟩)
          | 2 | 6 => .pointer (some ⟨rb, 3, none⟩)
          | 3 | 7 | 8 | 14 => .pointer (some ⟨hb, 0, none⟩)
          | 9 | 15 => .pointer (some ⟨hb, 3, none⟩)
          | 10 => .slice (some ⟨msb, 0, none⟩) j C
          | 11 => .int .u32 (cs j : Nat)
          | 13 => .slice (some ⟨msb, 0, none⟩) (j + 1) C
          | _ => undef⟩ := ⟨_, rfl⟩
        have rB : R.B = 12 := by rw [hR]
        have rA : R.A = 13 := by rw [hR]
        have rS : R.S = 16 := by rw [hR]
        have rT : R.T = 63 := by rw [hR]
        have nhm : hb ≠ msb := by omega
        have nrm : rb ≠ msb := by omega
        have hxc : ∀ w1, Fr [msb] wr w1 → w1.cell? ⟨rb, 3, none⟩ = some (.pointer (some ⟨hb, 0, none⟩)) ∧ w1.cell? ⟨hb, 3, none⟩ = some (.slice (some ⟨msb, 0, none⟩) j C) := fun w1 hf1 => ⟨hf1.cell (by simpa using nrm) a3, hf1.cell (by simpa using nhm) a2⟩
        have hsc : ∀ w1, Fr [msb] wr w1 → w1.cell? ⟨hb, 3, none⟩ = some (.slice (some ⟨msb, 0, none⟩) j C) ∧ w1.frozen? ⟨hb, 3, none⟩ = false := fun w1 hf1 => ⟨hf1.cell (by simpa using nhm) a2, (hhb1.fr hf1 (by simpa using nhm)).frozen 3⟩
        have hroomA : j + 1 ≤ C := by omega
        have hroomL : j + 1 ≤ l'.length := by omega
        have hgl : R.gb < R.wr.heap.size := by rw [hR]; exact hsb1.lt
        have hsl : R.sb < R.wr.heap.size := by rw [hR]; exact hhb1.lt
        refine wp_region_loose (J := R.J) (Sp := R.Sp) (by kernel_rfl) (by kernel_rfl) ?_ ?_ ?_
        · subst hR
          exact ⟨fun _ => (Fr.refl _ _).drew, fun _ _ => hsb1, fun h => (by cases h), fun h => (by cases h)⟩
        · intro L a w1 i o hI hi hL hw
          have hj := hI.j
          have same : L R.S = false → ∀ i, i ≠ 13 ∧ i ≠ 16 → R.J (lSet L i) w1 := fun hS i hi => hj.alloc hS (Fr.refl _ _) i (by rw [rA, rS]; exact hi)
          have nop : ∀ j u, L j = true → R.Sp j w1 u → R.Sp j w1 u := fun _ _ _ h => h
          rcases i with _ | _ | _ | _ | _ | _ | _ | _ | _ | _ | _ | _ | _ | _ | _ | _ | _ | i
          · obtain rfl := Option.some.inj hi
            have hS : L 16 = false := hI.before (i := 0) (j := 16) hL rfl (by kernel_rfl)
            have hS' : L R.S = false := by rw [hR]; exact hS
            have e0 := hI.outer 0 (by kernel_rfl) (.pointer (some ⟨rb, 0, none⟩)) rfl
            rw [Array.getD_eq_getD_getElem?] at e0
            exact lw (.pointer (some ⟨rb, 0, none⟩)) (by simp [go_sem, e0]) ⟨_, rfl, same hS' 0 (by decide), nop, AR.sp_c (by rw [rB]; decide) (by subst hR; rfl)⟩
          · obtain rfl := Option.some.inj hi
            have hS : L 16 = false := hI.before (i := 1) (j := 16) hL rfl (by kernel_rfl)
            have hS' : L R.S = false := by rw [hR]; exact hS
            have l0 := waits_of hw 0 (by kernel_rfl)
            have e0 : a.tmps.getD 204 undef = .pointer (some ⟨rb, 0, none⟩) := (AR.of_sp (hI.val 0 _ 204 l0 rfl rfl) (by rw [rB]; decide)).trans (by subst hR; rfl)
            rw [Array.getD_eq_getD_getElem?] at e0
            exact lw (.pointer (some ⟨rb, 0, none⟩)) (by simp [go_sem, e0]) ⟨_, rfl, same hS' 1 (by decide), nop, AR.sp_c (by rw [rB]; decide) (by subst hR; rfl)⟩
          · obtain rfl := Option.some.inj hi
            have hS : L 16 = false := hI.before (i := 2) (j := 16) hL rfl (by kernel_rfl)
            have hS' : L R.S = false := by rw [hR]; exact hS
            have l0 := waits_of hw 1 (by kernel_rfl)
            have e0 : a.tmps.getD 205 undef = .pointer (some ⟨rb, 0, none⟩) := (AR.of_sp (hI.val 1 _ 205 l0 rfl rfl) (by rw [rB]; decide)).trans (by subst hR; rfl)
            rw [Array.getD_eq_getD_getElem?] at e0
            exact lw (.pointer (some ⟨rb, 3, none⟩)) (by simp [go_sem, e0]) ⟨_, rfl, same hS' 2 (by decide), nop, AR.sp_c (by rw [rB]; decide) (by subst hR; rfl)⟩
          · obtain rfl := Option.some.inj hi
            have hS : L 16 = false := hI.before (i := 3) (j := 16) hL rfl (by kernel_rfl)
            have hS' : L R.S = false := by rw [hR]; exact hS
            have l0 := waits_of hw 2 (by kernel_rfl)
            have e0 : a.tmps.getD 206 undef = .pointer (some ⟨rb, 3, none⟩) := (AR.of_sp (hI.val 2 _ 206 l0 rfl rfl) (by rw [rB]; decide)).trans (by subst hR; rfl)
            rw [Array.getD_eq_getD_getElem?] at e0
            have hc := (hxc w1 (by have := hj.a hS'; rw [hR] at this; exact this)).1
            exact lw (.pointer (some ⟨hb, 0, none⟩)) (by simp [go_sem, e0, hc]) ⟨_, rfl, same hS' 3 (by decide), nop, AR.sp_c (by rw [rB]; decide) (by subst hR; rfl)⟩
          · obtain rfl := Option.some.inj hi
            have hS : L 16 = false := hI.before (i := 4) (j := 16) hL rfl (by kernel_rfl)
            have hS' : L R.S = false := by rw [hR]; exact hS
            have e0 := hI.outer 0 (by kernel_rfl) (.pointer (some ⟨rb, 0, none⟩)) rfl
            rw [Array.getD_eq_getD_getElem?] at e0
            exact lw (.pointer (some ⟨rb, 0, none⟩)) (by simp [go_sem, e0]) ⟨_, rfl, same hS' 4 (by decide), nop, AR.sp_c (by rw [rB]; decide) (by subst hR; rfl)⟩
          · obtain rfl := Option.some.inj hi
            have hS : L 16 = false := hI.before (i := 5) (j := 16) hL rfl (by kernel_rfl)
            have hS' : L R.S = false := by rw [hR]; exact hS
            have l0 := waits_of hw 4 (by kernel_rfl)
            have e0 : a.tmps.getD 208 undef = .pointer (some ⟨rb, 0, none⟩) := (AR.of_sp (hI.val 4 _ 208 l0 rfl rfl) (by rw [rB]; decide)).trans (by subst hR; rfl)
            rw [Array.getD_eq_getD_getElem?] at e0
            exact lw (.pointer (some ⟨rb, 0, none⟩)) (by simp [go_sem, e0]) ⟨_, rfl, same hS' 5 (by decide), nop, AR.sp_c (by rw [rB]; decide) (by subst hR; rfl)⟩
          · obtain rfl := Option.some.inj hi
            have hS : L 16 = false := hI.before (i := 6) (j := 16) hL rfl (by kernel_rfl)
            have hS' : L R.S = false := by rw [hR]; exact hS
            have l0 := waits_of hw 5 (by kernel_rfl)
            have e0 : a.tmps.getD 209 undef = .pointer (some ⟨rb, 0, none⟩) := (AR.of_sp (hI.val 5 _ 209 l0 rfl rfl) (by rw [rB]; decide)).trans (by subst hR; rfl)
            rw [Array.getD_eq_getD_getElem?] at e0
            exact lw (.pointer (some ⟨rb, 3, none⟩)) (by simp [go_sem, e0]) ⟨_, rfl, same hS' 6 (by decide), nop, AR.sp_c (by rw [rB]; decide) (by subst hR; rfl)⟩
          · obtain rfl := Option.some.inj hi
            have hS : L 16 = false := hI.before (i := 7) (j := 16) hL rfl (by kernel_rfl)
            have hS' : L R.S = false := by rw [hR]; exact hS
            have l0 := waits_of hw 6 (by kernel_rfl)
            have e0 : a.tmps.getD 210 undef = .pointer (some ⟨rb, 3, none⟩) := (AR.of_sp (hI.val 6 _ 210 l0 rfl rfl) (by rw [rB]; decide)).trans (by subst hR; rfl)
            rw [Array.getD_eq_getD_getElem?] at e0
            have hc := (hxc w1 (by have := hj.a hS'; rw [hR] at this; exact this)).1
            exact lw (.pointer (some ⟨hb, 0, none⟩)) (by simp [go_sem, e0, hc]) ⟨_, rfl, same hS' 7 (by decide), nop, AR.sp_c (by rw [rB]; decide) (by subst hR; rfl)⟩
          · obtain rfl := Option.some.inj hi
            have hS : L 16 = false := hI.before (i := 8) (j := 16) hL rfl (by kernel_rfl)
            have hS' : L R.S = false := by rw [hR]; exact hS
            have l0 := waits_of hw 7 (by kernel_rfl)
            have e0 : a.tmps.getD 211 undef = .pointer (some ⟨hb, 0, none⟩) := (AR.of_sp (hI.val 7 _ 211 l0 rfl rfl) (by rw [rB]; decide)).trans (by subst hR; rfl)
            rw [Array.getD_eq_getD_getElem?] at e0
            exact lw (.pointer (some ⟨hb, 0, none⟩)) (by simp [go_sem, e0]) ⟨_, rfl, same hS' 8 (by decide), nop, AR.sp_c (by rw [rB]; decide) (by subst hR; rfl)⟩
          · obtain rfl := Option.some.inj hi
            have hS : L 16 = false := hI.before (i := 9) (j := 16) hL rfl (by kernel_rfl)
            have hS' : L R.S = false := by rw [hR]; exact hS
            have l0 := waits_of hw 8 (by kernel_rfl)
            have e0 : a.tmps.getD 212 undef = .pointer (some ⟨hb, 0, none⟩) := (AR.of_sp (hI.val 8 _ 212 l0 rfl rfl) (by rw [rB]; decide)).trans (by subst hR; rfl)
            rw [Array.getD_eq_getD_getElem?] at e0
            exact lw (.pointer (some ⟨hb, 3, none⟩)) (by simp [go_sem, e0]) ⟨_, rfl, same hS' 9 (by decide), nop, AR.sp_c (by rw [rB]; decide) (by subst hR; rfl)⟩
          · obtain rfl := Option.some.inj hi
            have hS : L 16 = false := hI.before (i := 10) (j := 16) hL rfl (by kernel_rfl)
            have hS' : L R.S = false := by rw [hR]; exact hS
            have l0 := waits_of hw 9 (by kernel_rfl)
            have e0 : a.tmps.getD 213 undef = .pointer (some ⟨hb, 3, none⟩) := (AR.of_sp (hI.val 9 _ 213 l0 rfl rfl) (by rw [rB]; decide)).trans (by subst hR; rfl)
            rw [Array.getD_eq_getD_getElem?] at e0
            have hc := (hxc w1 (by have := hj.a hS'; rw [hR] at this; exact this)).2
            exact lw (.slice (some ⟨msb, 0, none⟩) j C) (by simp [go_sem, e0, hc]) ⟨_, rfl, same hS' 10 (by decide), nop, AR.sp_c (by rw [rB]; decide) (by subst hR; rfl)⟩
          · obtain rfl := Option.some.inj hi
            have hS : L 16 = false := hI.before (i := 11) (j := 16) hL rfl (by kernel_rfl)
            have hS' : L R.S = false := by rw [hR]; exact hS
            have e0 := hI.outer 8 (by kernel_rfl) (.int .u32 (cs j : Nat)) rfl
            rw [Array.getD_eq_getD_getElem?] at e0
            exact lw (.int .u32 (cs j : Nat)) (by simp [go_sem, e0]) ⟨_, rfl, same hS' 11 (by decide), nop, AR.sp_c (by rw [rB]; decide) (by subst hR; rfl)⟩
          · obtain rfl := Option.some.inj hi
            have hS : L 16 = false := hI.before (j := 16) hL rfl (by kernel_rfl)
            have hS' : L R.S = false := by rw [hR]; exact hS
            have l0 := waits_of hw 11 (by kernel_rfl)
            have e0 : a.tmps.getD 215 undef = R.u := (AR.of_sp (hI.val 11 _ 215 l0 rfl rfl) (by rw [rB]; decide)).trans (by subst hR; rfl)
            have f := (Fr.refl [] w1).alloc (.cells #[R.u] 63)
            have hnew : Blk (w1.alloc (.cells #[R.u] 63)) w1.heap.size R.T [R.u] := by rw [rT]; exact Blk.new' _ _ _
            exact ow_build1 trivial 22 63 (.tmp 215) rfl R.u e0 (by subst hR; rfl) Tryd.underlying22 (by kernel_rfl) ⟨_, rfl, hj.alloc hS' f 12 (by rw [rA, rS]; decide), fun j u _ => AR.Sp_fr0 f j u, by unfold AR.Sp; rw [rB, if_pos rfl]; exact ⟨w1.heap.size, rfl, hnew, (hj.a hS').size⟩⟩
          · obtain rfl := Option.some.inj hi
            have hS : L 16 = false := hI.before (j := 16) hL rfl (by kernel_rfl)
            have hS' : L R.S = false := by rw [hR]; exact hS
            have l0 := waits_of hw 10 (by kernel_rfl)
            have l1 := waits_of hw 12 (by kernel_rfl)
            have e0 : a.tmps.getD 214 undef = .slice (some ⟨R.gb, 0, none⟩) R.n R.cap := (AR.of_sp (hI.val 10 _ 214 l0 rfl rfl) (by rw [rB]; decide)).trans (by subst hR; rfl)
            obtain ⟨g, e1, hg, hge⟩ := AR.of_spB (R := R) (by rw [rB]; exact hI.val 12 _ 216 l1 rfl rfl)
            rw [rT] at hg
            have hgb := hj.b (by rw [rA]; exact hL) hS'
            rw [rT] at hgb
            refine ow_app_room (.tmp 214) (.tmp 216) 22 rfl 63 Tryd.underlying22 (by kernel_rfl) R.gb R.n R.cap R.l e0 hgb g R.u e1 hg (by subst hR; rfl) (by subst hR; exact hroomA) (by subst hR; exact hroomL) ?_
            intro w' hf hb
            have hja := hj.app hS' (by rw [rA, rS]; decide) hf (by rw [rT]; exact hb)
            rw [rA] at hja
            exact ⟨_, rfl, hja, fun j u _ => AR.Sp_fr hf hgl j u, AR.sp_c (by rw [rB]; decide) (by subst hR; rfl)⟩
          · obtain rfl := Option.some.inj hi
            have hvia : L 15 = false := hI.before (j := 15) hL rfl (by kernel_rfl)
            have hS : L 16 = false := hI.before (i := 15) (j := 16) hvia rfl (by kernel_rfl)
            have hS' : L R.S = false := by rw [hR]; exact hS
            have l0 := waits_of hw 3 (by kernel_rfl)
            have e0 : a.tmps.getD 207 undef = .pointer (some ⟨hb, 0, none⟩) := (AR.of_sp (hI.val 3 _ 207 l0 rfl rfl) (by rw [rB]; decide)).trans (by subst hR; rfl)
            rw [Array.getD_eq_getD_getElem?] at e0
            exact lw (.pointer (some ⟨hb, 0, none⟩)) (by simp [go_sem, e0]) ⟨_, rfl, same hS' 14 (by decide), nop, AR.sp_c (by rw [rB]; decide) (by subst hR; rfl)⟩
          · obtain rfl := Option.some.inj hi
            have hS : L 16 = false := hI.before (i := 15) (j := 16) hL rfl (by kernel_rfl)
            have hS' : L R.S = false := by rw [hR]; exact hS
            have l0 := waits_of hw 14 (by kernel_rfl)
            have e0 : a.tmps.getD 218 undef = .pointer (some ⟨hb, 0, none⟩) := (AR.of_sp (hI.val 14 _ 218 l0 rfl rfl) (by rw [rB]; decide)).trans (by subst hR; rfl)
            rw [Array.getD_eq_getD_getElem?] at e0
            exact lw (.pointer (some ⟨hb, 3, none⟩)) (by simp [go_sem, e0]) ⟨_, rfl, same hS' 15 (by decide), nop, AR.sp_c (by rw [rB]; decide) (by subst hR; rfl)⟩
          · obtain rfl := Option.some.inj hi
            have hS' : L R.S = false := by rw [rS]; exact hL
            have l0 := waits_of hw 15 (by kernel_rfl)
            have l1 := waits_of hw 13 (by kernel_rfl)
            have e0 : a.tmps.getD 219 undef = .pointer (some ⟨hb, 3, none⟩) := (AR.of_sp (hI.val 15 _ 219 l0 rfl rfl) (by rw [rB]; decide)).trans (by subst hR; rfl)
            have e1 : a.tmps.getD 217 undef = .slice (some ⟨msb, 0, none⟩) (j + 1) C := (AR.of_sp (hI.val 13 _ 217 l1 rfl rfl) (by rw [rB]; decide)).trans (by subst hR; rfl)
            rw [Array.getD_eq_getD_getElem?] at e0 e1
            have hSc := hsc w1 (by have := hj.a hS'; rw [hR] at this; exact this)
            have hJ := hj.store hS' (by rw [rA]; exact l1)
            have hSp : ∀ j u, L j = true → R.Sp j w1 u → R.Sp j (w1.setCell ⟨R.sb, R.k, none⟩ R.nv) u := fun j u _ => AR.Sp_fr ((Fr.refl [R.sb] w1).setCell (.inl (by simp)) _) hsl j u
            rw [rS] at hJ
            have hend : R.Sp 16 (w1.setCell ⟨R.sb, R.k, none⟩ R.nv) undef := AR.sp_c (by rw [rB]; decide) (by subst hR; rfl)
            subst hR
            exact lw_skip (by simp [go_sem, e0, e1, hSc.1, hSc.2]; rfl) ⟨_, rfl, hJ, hSp, hend⟩
          · cases hi
        · intro L a w1 hI hall
          have hd := hI.j.d (by rw [rS]; exact hall 16 (by decide))
          rw [hR] at hd
          obtain ⟨w3, g1, g2, g3⟩ := hd
          have hlit := hI.lit [204, 205, 206, 207, 208, 209, 210, 211, 212, 213, 214, 215, 216, 217, 218, 219] (by kernel_rfl)
          rw [hlit]
          simp only [List.foldl, List.setIfInBounds_toArray, List.set_cons_succ, List.set_cons_zero]
          rename (∀ (a : Act) (w : World), Met _ a w → _) => hK
          refine hK _ _ ?_
          go_meet
          case rel =>
            subst g3
            exact ⟨(g1.mono (by simp)).setCell (.inl (by simp)) _, (hhb1.fr g1 (by simpa using nhm)).set 3 _, g2.setOther (p := ⟨hb, 3, none⟩) nhm _⟩
      case rest =>
        obtain ⟨hf2, hhb2, hsb2⟩ := hcut
        have y1 : Fr [hb] w wc := hf1.trans hf2 (by simp; omega)
        have ymb := hmb1.fr hf2 (by simp; omega)
        have yms := hms.fr hf2 (by simp; omega)
        have hD1 : ∀ i, i < j + 1 → (splice l' j [Value.int .u32 (cs j : Nat)])[i]? = some (.int .u32 (cs i : Nat)) := by
          intro i hi
          rw [splice_get _ _ _ (by simp; omega)]
          by_cases hik : i = j
          · subst hik; rw [if_pos (by simp)]; simp
          · rw [if_neg (by simp; omega)]; exact hL2.out i (by omega)
        have hl3 : (splice l' j [Value.int .u32 (cs j : Nat)]).length = C := by rw [length_splice _ _ _ (by simp; omega)]; exact hl1
        have HD1 := Lib.hid hD1
        clear hD1 hf1 hhb1 hmb1 hsb1 hms hf2
        generalize hLL : splice l' j [Value.int .u32 (cs j : Nat)] = l2 at *
        have hat := HCH.out.at_ j hlt
        have hnx := HCH.out.next j hlt
        have hnx4 : (j + 1 < m ∧ cs (j + 1) ≤ 65535) ∨ (j + 1 = m ∧ cs (j + 1) = 4294967294) := by
          by_cases h : j + 1 < m
          · exact .inl ⟨h, (HCH.out.low _ h).1⟩
          · have e : j + 1 = m := by omega
            right; exact ⟨e, by rw [e]; exact HCH.out.last⟩
        have hnS : cs (j + 1) ≤ cs j → ¬ ∃ i, 1 ≤ i ∧ i ≤ j ∧ cs (j + 1) = cs i := by
          intro h ⟨i, a, b, c⟩
          exact HCH.out.nodup i (j + 1) (by omega) (by omega) c.symm
        have hne1 : cs (j + 1) ≤ cs j → cs j ≠ cs (j + 1) := by
          intro h
          exact HCH.out.nodup j (j + 1) (by omega) (by omega)
        go_wp2_with fail
        refine (findNext_at rb hb fb sb bb n ncap ss (cs j) F _ _ _ _ _ _ _ _ (hS.fr y1 (by simpa using hsh) (by simpa using hbh)) (hrb.fr y1 (by simpa using hrh)) hhb2 (hfb.fr y1 (by simpa using hfbh)) HSs.out hat).mono ?_
        rintro e w6 ⟨rfl, hf6⟩
        rw [hnx]
        have x1 := y1.trans0 hf6
        have x2 := hhb2.fr0 hf6
        have x3 := ymb.fr0 hf6
        have x4 := yms.fr hf6 (by simp)
        have x5 := hsb2.fr0 hf6
        have xm : (w6.cell? ⟨hb, 3, none⟩).getD .nilIface = (.slice (some ⟨msb, 0, none⟩) (j + 1) C) := by rw [x2.cell 3]; rfl
        by_cases hle : cs (j + 1) ≤ cs j
        · have q1 : decide (cs (j + 1) ≤ cs j) = true := by simpa using hle
          have q2 : decide (cs (j + 1) = cs j) = false := by simpa using fun h => hne1 hle h.symm
          have q2' : ¬ (cs (j + 1) = cs j) := fun h => hne1 hle h.symm
          have q3 := x4.run_lookup (cs (j + 1)) (by omega) (hnS hle)
          go_wp2_with (at_mapUpdate; refine wpList_update_mset rfl _ _ _ rfl mp _ rfl x4 (cs (j + 1)) rfl (by omega) (hnS hle) ?_; intro w7 hf7 hm7)
          have n1 : mp ≠ hb := by omega
          have xm' : (w7.cell? ⟨hb, 3, none⟩).getD .nilIface = (.slice (some ⟨msb, 0, none⟩) (j + 1) C) := by rw [(x2.fr hf7 (by simpa using n1.symm)).cell 3]; rfl
          go_roundw
          case rel =>
            refine ⟨j + 1, l2, by omega, rfl, by go_num, x1.trans hf7 (fun x hx => .inr (by simp at hx; omega)), x2.fr hf7 (by simpa using n1.symm), x3.fr hf7 (by simp; omega), x5.fr hf7 (by simp; omega), hl3, HD1.out, hm7.mono ?_⟩
            rintro k (⟨i, a, b, c⟩ | h)
            · exact ⟨i, a, by omega, c⟩
            · exact ⟨j + 1, by omega, by omega, h⟩
          case measure => rw [xm', xm0]; simp [lenOf]; omega
        · have q1 : decide (cs (j + 1) ≤ cs j) = false := by simpa using hle
          have xm' := xm
          go_wp2_with fail
          go_roundw
          case rel => exact ⟨j + 1, l2, by omega, rfl, by go_num, x1, x2, x3, x5, hl3, HD1.out, x4.mono (fun k ⟨i, a, b, c⟩ => ⟨i, a, by omega, c⟩)⟩
          case measure => rw [xm', xm0]; simp [lenOf]; omega
    · obtain rfl : j = m := by omega
      have hcl := HCH.out.last
      go_wp2_with fail
      go_ret
      refine ⟨rfl, hf1, mb, msb, C, hhb1, by omega, hsz, hmc, ?_, ?_⟩
      · intro i hi
        rw [hmb1.cell, tab_get _ _ _ hi]
      · intro i hi
        rw [hsb1.cell]
        exact hL2.out i hi
end Go.Proofs.YtokpomdfgbbhlaaDoor

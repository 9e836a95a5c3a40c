/- FnMixed: a stream is read, sought and written by steps, what is told is what stands there then, the file behind all is that of the stream with these bytes (part 11 of 18). No condition but the statement's own. -/
import Derived.Laws.BytesArg
import Derived.BigQuiet
import Derived.Deep.QuietTactic
import Derived.Test.YtokpomdfgbbhlaaDoorMxj
set_option linter.all false
set_option linter.unusedVariables false
set_option linter.unusedSimpArgs false
set_option linter.unnecessarySimpa false
/- The contract of same: rows of the same bytes. -/
namespace Go.Proofs.YtokpomdfgbbhlaaDoor
open Go Go.RowKit Go.Maps

/-- A slice of n bytes. -/
def BytesV (w : World) (v : Value) (n : Nat) (f : Nat → UInt8) : Prop :=
  ((∃ a c, v = .slice a 0 c) ∧ n = 0) ∨ ∃ b o c : Nat, v = .slice (some ⟨b, o, none⟩) n c ∧ ∀ i, i < n → w.cell? ⟨b, o + i, none⟩ = some (U8 (f i))

theorem BytesV.fr0 {w w' : World} {v : Value} {n : Nat} {f : Nat → UInt8} (h : BytesV w v n f) (g : Fr [] w w') : BytesV w' v n f := by
  rcases h with h | ⟨b, o, c, h1, h2⟩
  · exact .inl h
  · exact .inr ⟨b, o, c, h1, fun i hi => g.cell0 (h2 i hi)⟩

theorem BytesV.of_own {w : World} {base n : Nat} {v : Value} {f : Nat → UInt8} (h : w.ownsRow base 5 1 v n (tab n (fun i => U8 (f i)))) : BytesV w v n f := by
  rcases Nat.eq_zero_or_pos n with h0 | h0
  · subst h0
    obtain ⟨_, ⟨h1, h2⟩ | ⟨g, cap, cur, h1, h2⟩⟩ := h
    · exact .inl ⟨⟨none, 0, h1⟩, rfl⟩
    · exact .inr ⟨g, 0, cap, h1, fun i hi => absurd hi (Nat.not_lt_zero _)⟩
  · obtain ⟨b, cap, l, h1, h2, h3, h4, _⟩ := own_blk2 h h0
    exact .inr ⟨b, 0, cap, h1, fun i hi => by rw [Nat.zero_add]; exact (h3.cell i).trans (h4 i hi)⟩

/-- n bytes as a string. -/
def strN (n : Nat) (f : Nat → UInt8) : ByteArray := strOfNums ((List.range n).map (fun i => ((f i).toNat : Int)))

theorem conv_nil (c : Nat) (w : World) : (convert 23 9 (.slice none 0 c)).run Tryd.prog w = .ok (.string (strN 0 (fun _ => 0))) w := by kernel_rfl
theorem conv_zero (a : Option Addr) (c : Nat) (w : World) : (convert 23 9 (.slice a 0 c)).run Tryd.prog w = .ok (.string (strN 0 (fun _ => 0))) w := by
  cases a with
  | none => exact conv_nil c w
  | some ad =>
    rw [run_convert_bytes_string w 23 9 5 _ 0 c Tryd.underlying23 Tryd.underlying5 Tryd.underlying9, run_bytesToString w ad 0 c [] rfl]
    rfl

theorem conv_str {w : World} {v : Value} {n : Nat} {f : Nat → UInt8} (h : BytesV w v n f) : (convert 23 9 v).run Tryd.prog w = .ok (.string (strN n f)) w := by
  rcases h with ⟨⟨a, c, rfl⟩, rfl⟩ | ⟨b, o, c, rfl, h⟩
  · exact conv_zero a c w
  · refine run_convert_bytes_arg w 23 5 Tryd.underlying23 Tryd.underlying5 b o n c _ (by simp) (fun i hi => ?_) 9 Tryd.underlying9
    rw [h i hi]
    simp [U8, hi]

set_option maxRecDepth 100000 in
theorem same_any (a b : Value) (n : Nat) (f : Nat → UInt8) (w : World) (ha : BytesV w a n f) (hb : BytesV w b n f) : Calls Tryd.prog 16 #[a, b] w fun e w' => e = .returned (.bool true) ∧ w = w' := by
  have h1 := conv_str ha
  have h2 := conv_str hb
  generalize strN n f = s at *
  clear ha hb
  go_enter Tryd.func16, Tryd.ntmps16
  go_wp2_with fail
  go_ret
  exact ⟨rfl, rfl⟩
end Go.Proofs.YtokpomdfgbbhlaaDoor

/- What nodesOf holds while it sorts the places below each node and links them. -/
namespace Go.Proofs.YtokpomdfgbbhlaaDoor
open Go Go.RowKit

theorem Fr.trans1 {a b c : World} {g : Nat} (h : Fr [] a b) (k : Fr [g] b c) (hg : a.heap.size ≤ g) : Fr [] a c :=
  h.trans k (fun x hx => .inr (by have e : x = g := List.mem_singleton.1 hx; omega))

/-- The same node but for its links. -/
structure SameF (a b : Nd) : Prop where
  name : a.name = b.name
  stream : a.stream = b.stream
  len : a.len = b.len
  dat : a.dat = b.dat
  cls : a.cls = b.cls
  sts : a.sts = b.sts
  cr : a.cr = b.cr
  md : a.md = b.md
theorem SameF.trans {a b c : Nd} (h : SameF a b) (k : SameF b c) : SameF a c :=
  ⟨h.name.trans k.name, h.stream.trans k.stream, h.len.trans k.len, h.dat.trans k.dat, h.cls.trans k.cls, h.sts.trans k.sts, h.cr.trans k.cr, h.md.trans k.md⟩
theorem SameF.refl (a : Nd) : SameF a a := ⟨rfl, rfl, rfl, rfl, rfl, rfl, rfl, rfl⟩
theorem SameF.datIs {a b : Nd} (h : SameF a b) {w : World} {d : Value} (hd : DatIs w b d) : DatIs w a d := by
  unfold DatIs at hd ⊢
  rw [h.len, h.dat]
  exact hd

def Bnd (N : Nat) (v : Int) : Prop := -1 ≤ v ∧ v < (N : Int)

theorem Sh.Fits.congr2 {nd nd' : Nat → Nd} : ∀ {t : Sh}, t.Fits nd → (∀ e, e ∈ t.order → (nd' e).left = (nd e).left ∧ (nd' e).right = (nd e).right) → t.Fits nd'
  | .nil, _, _ => trivial
  | .node e l r, h, hx => by
    obtain ⟨h1, h2, h3, h4⟩ := h
    have he := hx e (by simp [order])
    exact ⟨he.1.trans h1, he.2.trans h2, h3.congr2 (fun y hy => hx y (by simp [order, hy])), h4.congr2 (fun y hy => hx y (by simp [order, hy]))⟩
theorem Sh.Fits.bnd {nd : Nat → Nd} {N : Nat} : ∀ {t : Sh}, t.Fits nd → (∀ e, e ∈ t.order → e < N) → ∀ e, e ∈ t.order → Bnd N (nd e).left ∧ Bnd N (nd e).right
  | .nil, _, _, e, he => by simp [order] at he
  | .node a l r, h, hx, e, he => by
    obtain ⟨h1, h2, h3, h4⟩ := h
    have hl : ∀ y, y ∈ l.order → y < N := fun y hy => hx y (by simp [order, hy])
    have hr : ∀ y, y ∈ r.order → y < N := fun y hy => hx y (by simp [order, hy])
    simp only [order, List.mem_append, List.mem_cons] at he
    rcases he with he | rfl | he
    · exact h3.bnd hl e he
    · exact ⟨by rw [h1]; exact top_lt hl, by rw [h2]; exact top_lt hr⟩
    · exact h4.bnd hr e he

/-- Who stands below whom. -/
structure Par (N : Nat) (B : Nat → List Nat) (par : Nat → Nat) : Prop where
  mem : ∀ i, i < N → ∀ e, e ∈ B i → i < e ∧ e < N ∧ par e = i
  nodup : ∀ i, i < N → (B i).Nodup
  le : ∀ x, par x ≤ x
  all : ∀ x, 1 ≤ x → x < N → par x < x ∧ x ∈ B (par x)

structure SInv (base lb N k : Nat) (w : World) (v6 : Value) (nd nd' : Nat → Nd) (dv bv : Nat → Value) (B B' : Nat → List Nat) (sh : Nat → Sh) : Prop where
  row : NdRow w lb N nd' dv
  bel : w.ownsRow base 31 1 v6 N (tab N bv)
  bs : ∀ i, i < N → w.ownsRow base 3 1 (bv i) (B i).length ((B' i).map (fun e => I64 e))
  dis : ∀ i j, i < N → j < N → i ≠ j → ∀ g, (bv i).ownBlock = some g → (bv j).ownBlock ≠ some g
  perm : ∀ i, i < N → (B' i).Perm (B i)
  dat : ∀ i, i < N → DatIs w (nd i) (dv i)
  same : ∀ x, SameF (nd' x) (nd x)
  root : (nd' 0).left = -1 ∧ (nd' 0).right = -1
  lk : ∀ x, x < N → Bnd N (nd' x).left ∧ Bnd N (nd' x).right ∧ Bnd N (nd' x).child
  ord : ∀ i, i < k → (sh i).order = B' i
  fits : ∀ i, i < k → (sh i).Fits nd'
  child : ∀ i, i < k → (nd' i).child = (sh i).top

theorem SInv.init {base n lb : Nat} {w : World} {v5 v6 : Value} {nd : Nat → Nd} {dv bv : Nat → Value} {B : Nat → List Nat} {par : Nat → Nat} (h : NInv base w n v5 v6 nd dv bv B par) (hn : 1 ≤ n) (hr : NdRow w lb n nd dv) :
    SInv base lb n 0 w v6 nd nd dv bv B B (fun _ => .nil) where
  row := hr
  bel := h.bel
  bs := h.bs
  dis := h.dis
  perm := fun i hi => List.Perm.refl _
  dat := h.dat
  same := fun x => SameF.refl _
  root := ⟨(h.ok 0 (by omega)).left, (h.ok 0 (by omega)).right⟩
  lk := fun x hx => by
    have := h.ok x hx
    unfold Bnd
    rw [this.left, this.right, this.child]
    omega
  ord := fun i hi => by omega
  fits := fun i hi => by omega
  child := fun i hi => by omega

theorem NdRow.lbk {w : World} {lb N : Nat} {nd : Nat → Nd} {dv : Nat → Value} (h : NdRow w lb N nd dv) : ∃ l, Blk w lb 42 l := ⟨h.choose, h.choose_spec.1⟩

/-- The places below k, sorted. -/
theorem SInv.sorted {base lb N k : Nat} {w w1 : World} {v6 : Value} {nd nd' : Nat → Nd} {dv bv : Nat → Value} {B B' : Nat → List Nat} {sh : Nat → Sh} (h : SInv base lb N k w v6 nd nd' dv bv B B' sh) (hk : k < N)
    (C : List Nat) (hC : C.Perm (B k)) (ho : w1.ownsRow base 3 1 (bv k) (B k).length (C.map (fun e => I64 e))) (hf : Fr (bv k).ownBlock.toList w w1) :
    SInv base lb N k w1 v6 nd nd' dv bv B (fun i => if i = k then C else B' i) sh where
  row := by
    obtain ⟨l, hl, hc⟩ := h.row
    exact ⟨l, hl.fr hf (own_ne (h.bs k hk) hl (by decide)), hc⟩
  bel := own_fr h.bel hf (own_sep h.bel (h.bs k hk) (by decide))
  bs := fun i hi => by
    by_cases hik : i = k
    · subst hik; simpa using ho
    · simp only [if_neg hik]
      exact own_fr (h.bs i hi) hf (fun g hg hg2 => h.dis i k hi hk hik g hg (by simpa using hg2))
  dis := h.dis
  perm := fun i hi => by
    by_cases hik : i = k
    · subst hik; simpa using hC
    · simp only [if_neg hik]; exact h.perm i hi
  dat := fun i hi => (h.dat i hi).fr hf (fun b l hb => own_ne (h.bs k hk) hb (by decide))
  same := h.same
  root := h.root
  lk := h.lk
  ord := fun i hi => by simp only [if_neg (show i ≠ k by omega)]; exact h.ord i hi
  fits := h.fits
  child := h.child

/-- The places below k, linked. -/
theorem SInv.shape {base lb N k : Nat} {w w2 : World} {v6 : Value} {nd nd' nd2 : Nat → Nd} {dv bv : Nat → Value} {B B' : Nat → List Nat} {par : Nat → Nat} {sh : Nat → Sh} {s : Sh} (h : SInv base lb N k w v6 nd nd' dv bv B B' sh) (hP : Par N B par) (hk : k < N)
    (hord : s.order = B' k) (hf : Fr [lb] w w2) (hrow : NdRow w2 lb N nd2 dv) (hout : ∀ e, e ∉ B' k → nd2 e = nd' e) (hsame : ∀ e, nd2 e = { nd' e with left := (nd2 e).left, right := (nd2 e).right }) (hfit : s.Fits nd2) :
    SInv base lb N (k + 1) (w2.setCell ⟨lb, k * 28 + 5, none⟩ (.int .i64 s.top)) v6 nd (setC nd2 k s.top) dv bv B B' (fun i => if i = k then s else sh i) := by
  have hf' : Fr [lb] w (w2.setCell ⟨lb, k * 28 + 5, none⟩ (.int .i64 s.top)) := hf.setCell (.inl (by simp)) _
  obtain ⟨ll, hll⟩ := h.row.lbk
  have memB : ∀ i, i < N → ∀ e, e ∈ B' i → i < e ∧ e < N ∧ par e = i := fun i hi e he => hP.mem i hi e ((h.perm i hi).mem_iff.1 he)
  have hsl : ∀ e, (setC nd2 k s.top e).left = (nd2 e).left ∧ (setC nd2 k s.top e).right = (nd2 e).right := fun e => by
    unfold setC; split <;> exact ⟨rfl, rfl⟩
  have hsf : ∀ e, SameF (nd2 e) (nd' e) := fun e => by rw [hsame e]; exact ⟨rfl, rfl, rfl, rfl, rfl, rfl, rfl, rfl⟩
  have hsc : ∀ e, (nd2 e).child = (nd' e).child := fun e => by rw [hsame e]
  have hstop : Bnd N s.top := Sh.top_lt (fun e he => by rw [hord] at he; exact (memB k hk e he).2.1)
  exact {
    row := hrow.set k 5 s.top _ (fun x hx => by unfold setC; rw [if_neg hx]) (.inr (.inr ⟨rfl, by unfold setC; rw [if_pos rfl]⟩)) hk
    bel := own_fr h.bel hf' (fun g hg hg2 => by
      have : g = lb := by simpa using hg2
      subst this
      exact own_ne h.bel hll (by decide) (by simpa using hg))
    bs := fun i hi => own_fr (h.bs i hi) hf' (fun g hg hg2 => by
      have : g = lb := by simpa using hg2
      subst this
      exact own_ne (h.bs i hi) hll (by decide) (by simpa using hg))
    dis := h.dis
    perm := h.perm
    dat := fun i hi => (h.dat i hi).fr hf' (fun b l hb hb2 => by
      have : b = lb := by simpa using hb2
      subst this
      exact absurd (hb.unique hll).1 (by decide))
    same := fun x => by
      refine SameF.trans ?_ ((hsf x).trans (h.same x))
      unfold setC
      split <;> exact ⟨rfl, rfl, rfl, rfl, rfl, rfl, rfl, rfl⟩
    root := by
      have h0 : 0 ∉ B' k := fun h0 => by have := (memB k hk 0 h0).1; omega
      rw [(hsl 0).1, (hsl 0).2, hout 0 h0]
      exact h.root
    lk := fun x hx => by
      rw [(hsl x).1, (hsl x).2]
      have hc : Bnd N (setC nd2 k s.top x).child := by
        unfold setC
        split
        · exact hstop
        · rw [hsc x]; exact (h.lk x hx).2.2
      by_cases hm : x ∈ B' k
      · have := hfit.bnd (N := N) (fun e he => by rw [hord] at he; exact (memB k hk e he).2.1) x (by rw [hord]; exact hm)
        exact ⟨this.1, this.2, hc⟩
      · have := h.lk x hx
        rw [← hout x hm] at this
        exact ⟨this.1, this.2.1, hc⟩
    ord := fun i hi => by
      by_cases hik : i = k
      · subst hik; simpa using hord
      · simp only [if_neg hik]; exact h.ord i (by omega)
    fits := fun i hi => by
      by_cases hik : i = k
      · subst hik
        simp only [if_pos rfl]
        exact hfit.congr2 (fun e he => hsl e)
      · simp only [if_neg hik]
        refine (h.fits i (by omega)).congr2 (fun e he => ?_)
        rw [h.ord i (by omega)] at he
        have hne : e ∉ B' k := fun h2 => by
          have a := (memB i (by omega) e he).2.2
          have b := (memB k hk e h2).2.2
          omega
        rw [(hsl e).1, (hsl e).2, hout e hne]
        exact ⟨rfl, rfl⟩
    child := fun i hi => by
      by_cases hik : i = k
      · subst hik; simp [setC]
      · simp only [if_neg hik]
        have : (setC nd2 k s.top i).child = (nd2 i).child := by unfold setC; rw [if_neg hik]
        rw [this, hsc i]
        exact h.child i (by omega) }

/-- What nodesOf answers: a row of nodes that hang as one tree. -/
structure NodesOK (base lb N : Nat) (w : World) (nd : Nat → Nd) (dv : Nat → Value) (t : NT) : Prop where
  n1 : 1 ≤ N
  n2 : N ≤ 20
  lbb : base ≤ lb
  row : NdRow w lb N nd dv
  dat : ∀ k, k < N → DatIs w (nd k) (dv k)
  ok : ∀ four step, LayOK ⟨N, nd, four, step⟩
  tree : TreeOK N nd t
  emp : ∀ k, k < N → (nd k).stream = false → (nd k).len = 0
def NodesPost (w : World) (e : Ending) (w' : World) : Prop :=
  ∃ (lb N cap : Nat) (nd : Nat → Nd) (dv : Nat → Value) (t : NT), e = .returned (.slice (some ⟨lb, 0, none⟩) N cap) ∧ N ≤ cap ∧ cap ≤ 9223372036854775807 ∧ Fr [] w w' ∧ NodesOK w.heap.size lb N w' nd dv t

theorem SInv.done {base lb N : Nat} {w : World} {v6 : Value} {nd nd' : Nat → Nd} {dv bv : Nat → Value} {B B' : Nat → List Nat} {par : Nat → Nat} {sh : Nat → Sh} (h : SInv base lb N N w v6 nd nd' dv bv B B' sh) (hP : Par N B par) (hn : 1 ≤ N) (hn2 : N ≤ 20)
    (hok : ∀ i, i < N → NdOK (nd i)) (hroot : (nd 0).stream = false) (hb : base ≤ lb) : NodesOK base lb N w nd' dv (wholeT sh N) where
  n1 := hn
  n2 := hn2
  lbb := hb
  row := h.row
  dat := fun k hk => (h.same k).datIs (h.dat k hk)
  ok := fun four step => {
    n1 := hn
    n2 := hn2
    root := by show (nd' 0).stream = false; rw [(h.same 0).stream]; exact hroot
    len := fun k hk => by show (nd' k).len ≤ 9000; rw [(h.same k).len]; exact (hok k hk).len
    nm1 := fun k hk => by show 1 ≤ (nd' k).name.size; rw [(h.same k).name]; exact (hok k hk).nm1
    nm2 := fun k hk => by show (nd' k).name.size ≤ 10; rw [(h.same k).name]; exact (hok k hk).nm2
    nmc := fun k j hk => by show ((nd' k).name.data.toList.getD j 0).toNat < 128; rw [(h.same k).name]; exact (hok k hk).nmc j
    nm0 := fun k hk => by show 65 ≤ ((nd' k).name.data.toList.getD 0 0).toNat ∧ ((nd' k).name.data.toList.getD 0 0).toNat ≤ 90; rw [(h.same k).name]; exact (hok k hk).nm0
    lks := fun k hk => by
      obtain ⟨a, b, c⟩ := h.lk k hk
      unfold Bnd at a b c
      show (-1 ≤ (nd' k).left ∧ (nd' k).left < 20) ∧ (-1 ≤ (nd' k).right ∧ (nd' k).right < 20) ∧ (-1 ≤ (nd' k).child ∧ (nd' k).child < 20)
      have : N ≤ 20 := hn2
      omega
    cr := fun k hk => by show (nd' k).cr < _; rw [(h.same k).cr]; exact (hok k hk).cr
    md := fun k hk => by show (nd' k).md < _; rw [(h.same k).md]; exact (hok k hk).md }
  tree := by
    have hF : Forest N sh par := {
      mem := fun i hi e he => by rw [h.ord i hi] at he; exact hP.mem i hi e ((h.perm i hi).mem_iff.1 he)
      nodup := fun i hi => by rw [h.ord i hi]; exact (h.perm i hi).nodup_iff.2 (hP.nodup i hi)
      le := hP.le
      all := fun x h1 h2 => by
        obtain ⟨a, b⟩ := hP.all x h1 h2
        refine ⟨a, ?_⟩
        rw [h.ord _ (by omega)]
        exact (h.perm _ (by omega)).mem_iff.2 b }
    exact hF.tree nd' h.fits h.child hn h.root.1 h.root.2
  emp := fun k hk hs => by rw [(h.same k).stream] at hs; rw [(h.same k).len]; exact (hok k hk).emp hs

def lessB (a b : ByteArray) : Bool := if a.size = b.size then Op.bytesLess a.toList b.toList else decide (a.size < b.size)
theorem less_is (a b : ByteArray) (w : World) (ha : a.size ≤ 1000) (hb : b.size ≤ 1000) : Calls Tryd.prog 19 #[.string a, .string b] w fun e w' => e = .returned (.bool (lessB a b)) ∧ w' = w := by
  by_cases h : a.size = b.size
  · have hI : ((a.size : Int) == (b.size : Int)) = true := by simp [h]
    have hI2 : ((a.size : Int) != (b.size : Int)) = false := by simp [h]
    have H := Lib.hid h
    clear h
    go_enter Tryd.func19, Tryd.ntmps19
    go_wp2_with fail
    go_ret
    exact ⟨by unfold lessB; rw [if_pos H.out]; rfl, rfl⟩
  · have hI : ((a.size : Int) == (b.size : Int)) = false := by simp; omega
    have hI2 : ((a.size : Int) != (b.size : Int)) = true := by simp; omega
    have H := Lib.hid h
    clear h
    go_enter Tryd.func19, Tryd.ntmps19
    go_wp2_with fail
    go_ret
    exact ⟨by unfold lessB; rw [if_neg H.out]; rfl, rfl⟩

theorem own_any {w : World} {base : Nat} {e : TypeId} {size n : Nat} {v : Value} {xs : List Value} (h : w.ownsRow base e size v n xs) :
    ∃ pa cap pb, v = .slice pa n cap ∧ n ≤ cap ∧ cap ≤ 9223372036854775807 ∧ (0 < n → pa = some ⟨pb, 0, none⟩) := by
  rcases h.2 with ⟨rfl, rfl⟩ | ⟨b, cap, cur, rfl, hb, hg, h4, h5, h6, ht⟩
  · exact ⟨none, 0, 0, rfl, Nat.le_refl _, by omega, fun h => by omega⟩
  · exact ⟨_, cap, b, rfl, h4, by simpa [maxLen] using h5, fun _ => rfl⟩

theorem swap_perm (C : List Nat) (i : Nat) (hi : i + 1 < C.length) : ((C.set (i + 1) (C.getD i 0)).set i (C.getD (i + 1) 0)).Perm C := by
  have h1 : C.getD i 0 = C[i] := by rw [List.getD_eq_getElem?_getD, List.getElem?_eq_getElem (by omega)]; rfl
  have h2 : C.getD (i + 1) 0 = C[i + 1] := by rw [List.getD_eq_getElem?_getD, List.getElem?_eq_getElem hi]; rfl
  rw [h1, h2]
  have e1 : C = C.take i ++ C[i] :: C[i + 1] :: C.drop (i + 2) := by
    rw [List.getElem_cons_drop, List.getElem_cons_drop, List.take_append_drop]
  have e2 : (C.set (i + 1) C[i]).set i C[i + 1] = C.take i ++ C[i + 1] :: C[i] :: C.drop (i + 2) := by
    apply List.ext_getElem?
    intro j
    rw [List.getElem?_set, List.getElem?_set]
    have hl : (C.take i).length = i := by rw [List.length_take]; omega
    by_cases a : i = j
    · subst a
      rw [if_pos rfl, if_pos (by simp; omega), List.getElem?_append_right (by omega), hl, Nat.sub_self]
      rfl
    · rw [if_neg a]
      by_cases b : i + 1 = j
      · subst b
        rw [if_pos rfl, if_pos hi, List.getElem?_append_right (by omega), hl, show i + 1 - i = 1 by omega]
        rfl
      · rw [if_neg b]
        by_cases c : j < i
        · rw [List.getElem?_append_left (by omega), List.getElem?_take, if_pos c]
        · rw [List.getElem?_append_right (by omega), hl]
          obtain ⟨d, rfl⟩ : ∃ d, j = i + 2 + d := ⟨j - (i + 2), by omega⟩
          rw [show i + 2 + d - i = d + 2 by omega, List.getElem?_cons_succ, List.getElem?_cons_succ, List.getElem?_drop]
  rw [e2]
  conv => rhs; rw [e1]
  exact (List.Perm.swap _ _ _).append_left _

/-- Two cells of a row of places stored. -/
theorem own_map_set {w : World} {base pb cap n : Nat} {C : List Nat} (h : w.ownsRow base 3 1 (.slice (some ⟨pb, 0, none⟩) n cap) n (C.map (fun e => I64 e))) (i x : Nat) (v : Value) (hv : v = I64 x) :
    (w.setCell ⟨pb, i, none⟩ v).ownsRow base 3 1 (.slice (some ⟨pb, 0, none⟩) n cap) n ((C.set i x).map (fun e => I64 e)) := by
  subst hv
  refine ⟨by simpa using h.1, ?_⟩
  rcases h.2 with ⟨h0, _⟩ | ⟨b', cap', cur, hv, hb, hg, h4, h5, h6, ht⟩
  · cases h0
  · injection hv with e1 e2 e3
    cases e1
    subst e3
    have hB : Blk w pb 3 cur.toList := by simpa [Blk] using hg
    have hB2 := hB.set i (I64 x)
    refine .inr ⟨pb, cap, (cur.toList.set i (I64 x)).toArray, rfl, hb, by simpa [Blk] using hB2, h4, h5, by simpa using h6, ?_⟩
    rw [List.take_set, ht, List.map_set]
theorem own_map_cell {w : World} {base pb cap n : Nat} {C : List Nat} (h : w.ownsRow base 3 1 (.slice (some ⟨pb, 0, none⟩) n cap) n (C.map (fun e => I64 e))) (i : Nat) (hi : i < n) : w.cell? ⟨pb, i, none⟩ = some (I64 (C.getD i 0)) := by
  have hl := h.1
  rw [List.length_map, Nat.mul_one] at hl
  have := h.cells rfl i (I64 (C.getD i 0)) (by rw [List.getElem?_map, List.getD_eq_getElem?_getD, List.getElem?_eq_getElem (by omega)]; rfl)
  rwa [add_zero'] at this
theorem own_frz {w : World} {base pb cap n : Nat} {e : TypeId} {size : Nat} {xs : List Value} (h : w.ownsRow base e size (.slice (some ⟨pb, 0, none⟩) n cap) n xs) (i : Nat) : w.frozen? ⟨pb, i, none⟩ = false := by
  rcases h.2 with ⟨h0, _⟩ | ⟨b', cap', cur, hv, hb, hg, h4, h5, h6, ht⟩
  · cases h0
  · injection hv with e1 e2 e3
    cases e1
    have hB : Blk w pb e cur.toList := by simpa [Blk] using hg
    exact hB.frozen i
end Go.Proofs.YtokpomdfgbbhlaaDoor

/- The contract of laws.nodesOf. -/
namespace Go.Proofs.YtokpomdfgbbhlaaDoor
open Go Go.RowKit

theorem pinfo5 : (Tryd.prog.info? 5).map (fun i => (i.zero, i.size, i.bytes)) = some (some (.int .u8 0), 1, 1) := by kernel_rfl
theorem xor_any (a : Int) (y : UInt8) (h0 : 0 ≤ a) (h1 : a < 256) : ∃ b : UInt8, Value.int .u8 (bits .xor .u8 a (y.toNat : Int)) = U8 b := by
  have hy := y.toNat_lt
  rw [u8_xor a _ h0 h1 (by omega) (by omega)]
  exact u8_any _ (by omega) (by
    have : a.toNat ^^^ (y.toNat : Int).toNat < 2 ^ 8 := Nat.xor_lt_two_pow (by omega) (by omega)
    omega)
theorem XLoop.step {w0 w1 w w' : World} {b : Nat} {X : Nd} {j : Nat} {g : Nat → UInt8} {dx v : Value} {y : UInt8} (h1 : w0.heap.size ≤ b) (h2 : b < w1.heap.size) (h3 : Fr [] w0 w) (h4 : w1.heap.size ≤ w.heap.size)
    (h5 : Blk w b 42 (ndCells { X with len := j, dat := g } dx)) (h6 : w.ownsRow w1.heap.size 5 1 dx j (tab j (fun i => U8 (g i)))) (hn : w'.ownsRow w1.heap.size 5 1 v (j + 1) (tab j (fun i => U8 (g i)) ++ [U8 y])) (hg : Fr dx.ownBlock.toList w w') :
    XLoop w0 w1 (w'.setCell ⟨b, 2, none⟩ v) b X (j + 1) := by
  have hbd : b ∉ dx.ownBlock.toList := fun h => by have := (h6.lt b (by simpa using h)).1; omega
  have h5' := h5.fr hg hbd
  have hvb : ∀ k, v.ownBlock = some k → k ∉ [b] := fun k hk => by have := (hn.lt k hk).1; simp; omega
  refine ⟨insI j g y, v, h1, h2, ?_, ?_, ?_, ?_⟩
  · refine (h3.trans hg ?_).setCell (.inr h1) _
    intro x hx
    right
    have := (h6.lt x (by simpa using hx)).1
    have := h3.size
    omega
  · have := hg.size; simp; omega
  · have := h5'.set 2 v
    exact this
  · have := own_fr hn ((Fr.refl [b] w').setCell (p := ⟨b, 2, none⟩) (.inl (by simp)) v) hvb
    have e : tab j (fun i => U8 (g i)) ++ [U8 y] = tab (j + 1) (fun i => U8 (insI j g y i)) := by
      rw [tab_snoc]
      simp only [insI_self]
      congr 1
      exact tab_congr (fun i hi => by rw [insI_ne _ _ _ _ (by omega)])
    rw [e] at this
    exact this

set_option maxRecDepth 100000 in
set_option maxHeartbeats 16000000 in
theorem nodes_any (nb no nn ncap db do_ dn dcap : Nat) (num : Nat → Nat) (dat : Nat → UInt8) (na da : Option Addr) (w : World) (hnc : nn ≤ ncap ∧ ncap ≤ 9223372036854775807) (hdc : dn ≤ dcap ∧ dcap ≤ 9223372036854775807) (hnum : ∀ i, num i < 4294967296)
    (hna : 0 < nn → na = some ⟨nb, no, none⟩) (hda : 0 < dn → da = some ⟨db, do_, none⟩) (hnums : ∀ i, i < nn → w.cell? ⟨nb, no + i, none⟩ = some (.int .u32 (num i : Nat))) (hdats : ∀ i, i < dn → w.cell? ⟨db, do_ + i, none⟩ = some (U8 (dat i))) :
    Calls Tryd.prog 9 #[.slice na nn ncap, .slice da dn dcap] w (NodesPost w) := by
  have HNUM := Lib.hid hnum
  have HNA := Lib.hid hna
  have HDA := Lib.hid hda
  have HNUMS := Lib.hid hnums
  have HDATS := Lib.hid hdats
  clear hnum hna hda hnums hdats
  go_enter Tryd.func9, Tryd.ntmps9
  go_upto_region 4 with (fail)
  go_cut [5, 6, 7, 31, 32, 33] from 5 to 33 (fun s5 s6 s7 s31 s32 s33 w1 => Fr [] w w1 ∧ NInv w.heap.size w1 1 s5 s6 (fun _ => rootNd) (fun _ => .slice none 0 0) (fun _ => .slice none 0 0) (fun _ => []) (fun _ => 0) ∧ s7 = .int .i64 0 ∧ s31 = .slice na (min nn 19 : Nat) ncap ∧ s32 = .int .i64 ((min nn 19 : Nat) : Int) ∧ s33 = .int .i64 0)
  case first =>
    by_cases h19 : 19 < nn
    · have hm : min nn 19 = 19 := by omega
      have hmI : ¬ (nn : Int) ≤ 19 := by omega
      have hmI2 : (19 : Int) ≤ (nn : Int) := by omega
      have hmI3 : (19 : Int) ≤ (ncap : Int) := by omega
      have HM := Lib.hid hm
      clear hm
      obtain rfl := HNA.out (by omega)
      go_wp2_with fail
      go_meet
      case rel => exact ⟨((Fr.refl [] w).alloc _).alloc _, NInv.init w, rfl, by rw [HM.out], by rw [HM.out]; rfl, rfl⟩
    · have hm : min nn 19 = nn := by omega
      have hmI : (nn : Int) ≤ 19 := by omega
      have hmI3 : (nn : Int) ≤ (ncap : Int) := by omega
      have HM := Lib.hid hm
      clear hm
      by_cases h0 : 0 < nn
      · obtain rfl := HNA.out h0
        go_wp2_with fail
        go_meet
        case rel => exact ⟨((Fr.refl [] w).alloc _).alloc _, NInv.init w, rfl, by rw [HM.out], by rw [HM.out], rfl⟩
      · obtain rfl : nn = 0 := by omega
        go_wp2_with fail
        go_meet
        case rel => exact ⟨((Fr.refl [] w).alloc _).alloc _, NInv.init w, rfl, by rw [HM.out], by rw [HM.out]; rfl, rfl⟩
  case rest =>
  obtain ⟨hf, hinv, rfl, rfl, rfl, rfl⟩ := hcut
  generalize hm : min nn 19 = m at *
  have hmn : m ≤ nn ∧ m ≤ 19 := by omega
  clear hm
  go_upto_block 0 with (fail)
  go_cut [5, 6] from 5 to 180 (fun s5 s6 w1 => ∃ (nd : Nat → Nd) (dv bv : Nat → Value) (B : Nat → List Nat) (par : Nat → Nat), Fr [] w w1 ∧ NInv w.heap.size w1 (m + 1) s5 s6 nd dv bv B par)
  case first =>
    go_wp2_with fail
    go_loopw [5, 6, 7, 33] (fun s5 s6 s7 s33 wr => ∃ (k at_ : Nat) (nd : Nat → Nd) (dv bv : Nat → Value) (B : Nat → List Nat) (par : Nat → Nat), k ≤ m ∧ s33 = .int .i64 k ∧ s7 = .int .i64 at_ ∧ at_ ≤ 9000 * k ∧ Fr [] w wr ∧ NInv w.heap.size wr (k + 1) s5 s6 nd dv bv B par) (fun _ _ _ s33 _ => m - (intOf s33).toNat)
    case atStart => exact ⟨0, 0, _, _, _, _, _, by omega, rfl, rfl, by omega, hf, hinv⟩
    case round =>
      obtain ⟨k, at_, nd, dv, bv, B, par, hk, rfl, rfl, hat, hf, hinv⟩ := hrel
      have HINV := Lib.hid hinv
      clear hinv
      obtain ⟨wq, hwq⟩ : ∃ x, x = wr := ⟨_, rfl⟩
      subst hwq
      by_cases hlt : k < m
      · obtain rfl := HNA.out (by omega)
        have cn := hf.cell0 (HNUMS.out k (by omega))
        have hnl := HNUM.out k
        go_upto_region 8 with (fail)
        generalize num k = n at *
        go_cut [10, 11, 31, 32, 33] from 34 to 59 (fun s10 s11 s31 s32 s33 w1 => ∃ (h b : Nat) (X : Nd), s10 = .int .u32 h ∧ h < 4294967296 ∧ s11 = .pointer (some ⟨b, 0, none⟩) ∧ s31 = .slice (some ⟨nb, no, none⟩) m ncap ∧ s32 = .int .i64 m ∧ s33 = .int .i64 k ∧ XBlk wq w1 b X)
        case first =>
          obtain ⟨nA, hA⟩ : ∃ x : ByteArray, ({ data := #[65, 66, 67, 68, 69, 70, 71, 72, 73, 74] } : ByteArray).extract 0 (1 + n % 7) = x := ⟨_, rfl⟩
          obtain ⟨nB, hB⟩ : ∃ x : ByteArray, Utf8.encode (65 + (k : Int)) = x := ⟨_, rfl⟩
          have hq : n % 7 < 7 := Nat.mod_lt _ (by omega)
          have hgood : nmGood (nA ++ nB) = true := by rw [← hA, ← hB]; exact nm_all _ hq k (by omega)
          have hsA : nA.size ≤ 8 := by rw [← hA]; exact nm_sz _ hq
          have hsB : nB.size ≤ 4 := by rw [← hB]; exact nm_sz2 k (by omega)
          have HGOOD := Lib.hid hgood
          clear hgood hq
          have hone := newCells_one (nA ++ nB) (decide ((0 : Int) < (n : Int) / 8 % 3)) ((n : Int) * 2654435761 % 4294967296 * 77) ((n : Int) * 1048576)
          go_wp2_with (refine wpList_store_blk rfl 42 (.tmp 11) (.tmp 59) rfl wq.heap.size 0 (newCells (nA ++ nB) (decide ((0 : Int) < (n : Int) / 8 % 3)) ((n : Int) * 2654435761 % 4294967296 * 77) ((n : Int) * 1048576)) rfl rfl 42 _ (Blk.new' wq 42 _) (by show 0 + 28 ≤ 28; omega) (show _ = some 28 by kernel_rfl) hone ?_)
          intro w1 hf1 hb1
          obtain ⟨X0, hX⟩ := newX _ _ _ _ _ _ _ rfl hf1 hb1 HGOOD.out ⟨by omega, by omega⟩ ⟨by omega, by omega⟩
          have HX := Lib.hid hX
          clear hX hb1 hf1 hone
          go_wp2_with fail
          go_meet
          case rel =>
            obtain ⟨h, hh⟩ := Int.eq_ofNat_of_zero_le (show (0 : Int) ≤ (n : Int) * 2654435761 % 4294967296 by omega)
            have hh2 : h < 4294967296 := by omega
            exact ⟨h, wq.heap.size, X0, congrArg (Value.int .u32) hh, hh2, rfl, rfl, rfl, rfl, HX.out⟩
        case rest =>
        obtain ⟨h, b, X, rfl, hh, rfl, rfl, rfl, rfl, hX⟩ := hcut
        clear cn
        go_upto_block 2 with (fail)
        go_cut [31, 32, 33] from 60 to 71 (fun s31 s32 s33 w1 => s31 = .slice (some ⟨nb, no, none⟩) m ncap ∧ s32 = .int .i64 m ∧ s33 = .int .i64 k ∧ ∃ X : Nd, XBlk wq w1 b X)
        case first =>
          go_wp2_with fail
          go_loopw [60] (fun s60 wr1 => ∃ (j : Nat) (X : Nd), j ≤ 16 ∧ s60 = .int .i64 j ∧ XBlk wq wr1 b X) (fun s60 _ => 16 - (intOf s60).toNat)
          case atStart => exact ⟨0, X, by omega, rfl, hX⟩
          case round =>
            obtain ⟨j, X, hj, rfl, hX⟩ := hrel
            have hbz := hX.2.2.1.frozen (6 + j)
            obtain ⟨u, hu⟩ : ∃ u, wr.cell? ⟨b, 6 + j, none⟩ = some u := hX.2.2.1.some _ (by rw [ndCells_length]; omega)
            by_cases hj2 : j < 16
            · have HX := Lib.hid hX
              go_wp2_with fail
              go_roundw
              case rel =>
                obtain ⟨X', hX'⟩ := HX.out.cls j hj2 _ (Int.emod_nonneg _ (by decide)) (Int.emod_lt_of_pos _ (by decide))
                exact ⟨j + 1, X', by omega, by go_num, hX'⟩
              case measure => simp [intOf]; omega
            · obtain rfl : j = 16 := by omega
              go_wp2_with fail
              go_meet
              case rel => exact ⟨rfl, rfl, rfl, X, hX⟩
        case rest =>
        clear hX X
        obtain ⟨rfl, rfl, rfl, X, hX⟩ := hcut
        go_upto_block 4 with (fail)
        go_cut [31, 32, 33] from 72 to 83 (fun s31 s32 s33 w1 => s31 = .slice (some ⟨nb, no, none⟩) m ncap ∧ s32 = .int .i64 m ∧ s33 = .int .i64 k ∧ ∃ X : Nd, XBlk wq w1 b X)
        case first =>
          go_wp2_with fail
          go_loopw [72] (fun s72 wr1 => ∃ (j : Nat) (X : Nd), j ≤ 4 ∧ s72 = .int .i64 j ∧ XBlk wq wr1 b X) (fun s72 _ => 4 - (intOf s72).toNat)
          case atStart => exact ⟨0, X, by omega, rfl, hX⟩
          case round =>
            obtain ⟨j, X, hj, rfl, hX⟩ := hrel
            have hbz := hX.2.2.1.frozen (22 + j)
            obtain ⟨u, hu⟩ : ∃ u, wr.cell? ⟨b, 22 + j, none⟩ = some u := hX.2.2.1.some _ (by rw [ndCells_length]; omega)
            by_cases hj2 : j < 4
            · have HX := Lib.hid hX
              go_wp2_with fail
              go_roundw
              case rel =>
                obtain ⟨X', hX'⟩ := HX.out.sts j hj2 _ (Int.emod_nonneg _ (by decide)) (Int.emod_lt_of_pos _ (by decide))
                exact ⟨j + 1, X', by omega, by go_num, hX'⟩
              case measure => simp [intOf]; omega
            · obtain rfl : j = 4 := by omega
              go_wp2_with fail
              go_meet
              case rel => exact ⟨rfl, rfl, rfl, X, hX⟩
        case rest =>
        clear hX X
        obtain ⟨rfl, rfl, rfl, X, hX⟩ := hcut
        obtain ⟨st, hst⟩ : ∃ st, st = X.stream := ⟨_, rfl⟩
        have k1 : wc.cell? ⟨b, 1, none⟩ = some (.bool st) := by rw [hst]; exact hX.2.2.1.cell 1
        have HX := Lib.hid hX
        have HST := Lib.hid hst
        clear hX hst
        go_upto_if 85 with (fail)
        go_cut [7, 10, 11, 31, 32, 33] from 84 to 135 (fun s7 s10 s11 s31 s32 s33 w1 => ∃ (at2 : Nat) (X : Nd) (dx : Value), s7 = .int .i64 at2 ∧ at2 ≤ at_ + 9000 ∧ s10 = .int .u32 h ∧ s11 = .pointer (some ⟨b, 0, none⟩) ∧ s31 = .slice (some ⟨nb, no, none⟩) m ncap ∧ s32 = .int .i64 m ∧ s33 = .int .i64 k ∧ XDone wq w1 b X dx)
        case first =>
          cases st
          · go_wp2_with fail
            go_meet
            case rel => exact ⟨at_, X, _, rfl, by omega, rfl, rfl, rfl, rfl, rfl, HX.out.done⟩
          · clear k1
            go_upto_if 93 with (fail)
            go_cut [14, 31, 32, 33] from 84 to 97 (fun s14 s31 s32 s33 w1 => wc = w1 ∧ s31 = .slice (some ⟨nb, no, none⟩) m ncap ∧ s32 = .int .i64 m ∧ s33 = .int .i64 k ∧ ∃ z : Nat, s14 = .int .i64 z ∧ z ≤ 9000)
            case first =>
              by_cases h8 : (n : Int) / 16384 % 8 = 0
              · have h8B : (((n : Int) / 16384 % 8) == 0) = true := by simpa using h8
                go_wp2_with fail
                go_meet
                case rel =>
                  obtain ⟨z, hz⟩ := Int.eq_ofNat_of_zero_le (show (0 : Int) ≤ (n : Int) / 32 % 9000 by omega)
                  exact ⟨rfl, rfl, rfl, rfl, z, congrArg (Value.int .i64) hz, by omega⟩
              · have h8B : (((n : Int) / 16384 % 8) == 0) = false := by simpa using h8
                go_wp2_with fail
                go_meet
                case rel =>
                  obtain ⟨z, hz⟩ := Int.eq_ofNat_of_zero_le (show (0 : Int) ≤ (n : Int) / 32 % 300 by omega)
                  exact ⟨rfl, rfl, rfl, rfl, z, congrArg (Value.int .i64) hz, by omega⟩
            case rest =>
            obtain ⟨rfl, rfl, rfl, rfl, z, rfl, hz⟩ := hcut
            go_upto_block 6 with (fail)
            go_cut [31, 32, 33] from 98 to 132 (fun s31 s32 s33 w1 => s31 = .slice (some ⟨nb, no, none⟩) m ncap ∧ s32 = .int .i64 m ∧ s33 = .int .i64 k ∧ ∃ (X : Nd) (dx : Value), XDone wq w1 b X dx)
            case first =>
              have hX0 : XLoop wq wc wc b X 0 := by
                obtain ⟨h1, h2, h3, h4, h5⟩ := HX.out
                exact ⟨fun _ => 0, .slice none 0 0, h1, h3.lt, h2, Nat.le_refl _, h3, own_nil _ _ _ _⟩
              go_wp2_with fail
              go_loopw [99] (fun s99 wr1 => ∃ j : Nat, j ≤ z ∧ s99 = .int .i64 j ∧ XLoop wq wc wr1 b X j) (fun s99 _ => z - (intOf s99).toNat)
              case atStart => exact ⟨0, by omega, rfl, hX0⟩
              case round =>
                clear hX0
                obtain ⟨j, hj, rfl, g, dx, h1, h2, h3, h4, h5, h6⟩ := hrel
                by_cases hlt : j < z
                · have h2c : wr.cell? ⟨b, 2, none⟩ = some dx := h5.cell 2
                  have H5 := Lib.hid h5
                  have H6 := Lib.hid h6
                  have H3 := Lib.hid h3
                  clear h5 h6 h3
                  go_upto_if 114 with (fail)
                  go_cut [16] from 100 to 125 (fun s16 w1 => wr = w1 ∧ ∃ y : UInt8, s16 = U8 y)
                  case first =>
                    by_cases h0 : 0 < dn
                    · obtain rfl := HDA.out h0
                      have hml := Nat.mod_lt (j + at_) h0
                      have cd : wr.cell? ⟨db, do_ + (j + at_) % dn, none⟩ = some (U8 (dat ((j + at_) % dn))) := H3.out.cell0 (hf.cell0 (HDATS.out _ hml))
                      have hnI : (0 : Int) < (dn : Int) := by omega
                      have hmod0 : (0 : Int) ≤ ((j : Int) + (at_ : Int)) % (dn : Int) := Int.emod_nonneg _ (by omega)
                      have hmod1 : ((j : Int) + (at_ : Int)) % (dn : Int) < (dn : Int) := Int.emod_lt_of_pos _ hnI
                      generalize dat ((j + at_) % dn) = yd at *
                      go_wp2_with fail
                      go_meet
                      case rel => exact ⟨rfl, xor_any _ _ (Int.emod_nonneg _ (by decide)) (Int.emod_lt_of_pos _ (by decide))⟩
                    · have hnI : ¬ (0 : Int) < (dn : Int) := by omega
                      go_wp2_with fail
                      go_meet
                      case rel => exact ⟨rfl, u8_any _ (Int.emod_nonneg _ (by decide)) (Int.emod_lt_of_pos _ (by decide))⟩
                  case rest =>
                  obtain ⟨rfl, y, rfl⟩ := hcut
                  have h5 := H5.out
                  have h6 := H6.out
                  have h3 := H3.out
                  have hbd : b ∉ dx.ownBlock.toList := fun h => by have := (h6.lt b (by simpa using h)).1; omega
                  have H5 := Lib.hid h5
                  have H3 := Lib.hid h3
                  clear h5 h3
                  go_wp2_with (at_builtin; (refine wpList_app2 rfl (.tmp 127) (.tmp 129) 23 rfl 5 (.int .u8 0) 1 Tryd.underlying23 pinfo5 rfl (by decide) wc.heap.size _ j _ rfl _ h6 rfl rfl (by omega) h4 ?_))
                  intro v w1 hn1 hg1 hd1
                  have h5' := H5.out.fr hg1 hbd
                  have hfz := h5'.frozen 2
                  have h2c' : w1.cell? ⟨b, 2, none⟩ = some dx := h5'.cell 2
                  have hstep := XLoop.step h1 h2 H3.out h4 H5.out h6 hn1 hg1
                  have HS := Lib.hid hstep
                  obtain ⟨va, vc, rfl⟩ := own_slice hn1
                  clear hstep h5' hn1 hg1 hd1 hbd h6 h2c
                  go_wp2_with fail
                  go_roundw
                  case rel => exact ⟨j + 1, by omega, by go_num, HS.out⟩
                  case measure => simp [intOf]; omega
                · obtain rfl : j = z := by omega
                  have hl : XLoop wq wc wr b X j := ⟨g, dx, h1, h2, h3, h4, h5, h6⟩
                  obtain ⟨X', dx', hX'⟩ := hl.done HX.out.2.2.2.1 HST.out.symm hz
                  have HX' := Lib.hid hX'
                  clear hX' hl h3 h5 h6
                  go_wp2_with fail
                  go_meet
                  case rel => exact ⟨rfl, rfl, rfl, X', dx', HX'.out⟩
            case rest =>
            obtain ⟨rfl, rfl, rfl, X', dx, hX'⟩ := hcut
            have HX' := Lib.hid hX'
            clear hX'
            go_wp2_with fail
            go_meet
            case rel => exact ⟨at_ + z, X', dx, by go_num, by omega, rfl, rfl, rfl, rfl, rfl, HX'.out⟩
        case rest =>
        clear k1 HX
        obtain ⟨at2, X, dx, rfl, hat2, rfl, rfl, rfl, rfl, rfl, hX⟩ := hcut
        have hN := HINV.out.fr hX.fr
        have hfW : Fr [] w wc := hf.trans0 hX.fr
        obtain ⟨lb, lcap, ll, rfl, hlb, hll, hlg, hlc1, hlc2, _⟩ := own_blkS hN.row (by omega)
        have hrow : NdRow wc lb (k + 1) nd dv := ⟨ll, hll, fun e he j hj => (hlg _ (by omega)).trans (ndRow_get _ _ _ _ _ he hj)⟩
        have HROW := Lib.hid hrow
        have HN := Lib.hid hN
        have HX := Lib.hid hX
        clear hX hN hrow hlg hll
        go_upto_block 8 with (fail)
        go_cut [17] from 136 to 159 (fun s17 w1 => wc = w1 ∧ ∃ p : Nat, s17 = .int .i64 p ∧ p < k + 1)
        case first =>
          go_wp2_with fail
          go_loop [17, 138] (fun s17 s138 => s17 = .int .i64 0 ∧ ∃ j : Nat, j ≤ k + 1 ∧ s138 = .int .i64 j) (fun _ s138 => k + 1 - (intOf s138).toNat)
          case atStart => exact ⟨rfl, 0, by omega, rfl⟩
          case round =>
            obtain ⟨rfl, j, hj, rfl⟩ := hrel
            by_cases hlt : j < k + 1
            · have hltI : (j : Int) < (k : Int) + 1 := by omega
              go_upto_region 36 with (fail)
              go_cut [19] from 141 to 148 (fun s19 w1 => wc = w1 ∧ ∃ p : Nat, s19 = .int .i64 p ∧ p < k + 1)
              case first =>
                go_wp2_with fail
                go_meet
                case rel =>
                  obtain ⟨p, hp⟩ := Int.eq_ofNat_of_zero_le (show (0 : Int) ≤ ((h : Int) / 1048576 + (j : Int)) % ((k : Int) + 1) from Int.emod_nonneg _ (by omega))
                  have hp2 := Int.emod_lt_of_pos ((h : Int) / 1048576 + (j : Int)) (show (0 : Int) < (k : Int) + 1 by omega)
                  exact ⟨rfl, p, congrArg (Value.int .i64) hp, by omega⟩
              case rest =>
              obtain ⟨rfl, p, rfl, hp⟩ := hcut
              have cs : wc.cell? ⟨lb, p * 28 + 1, none⟩ = some (.bool (nd p).stream) := HROW.out.cell hp (by omega)
              have hpI : (p : Int) < (k : Int) + 1 := by omega
              generalize (nd p).stream = st at *
              by_cases hp0 : p = 0
              · have hB : ((p : Int) == 0) = true := by simpa using hp0
                have HP := Lib.hid hp0
                clear hp0
                go_wp2_with fail
                go_meet
                case rel => exact ⟨rfl, p, rfl, hp⟩
              · have hB : ((p : Int) == 0) = false := by simpa using hp0
                cases st
                · go_wp2_with fail
                  go_meet
                  case rel => exact ⟨rfl, p, rfl, hp⟩
                · go_wp2_with fail
                  go_round
                  case rel => exact ⟨rfl, j + 1, by omega, by go_num⟩
                  case measure => simp [intOf]; omega
            · have hltI : ¬ (j : Int) < (k : Int) + 1 := by omega
              go_wp2_with fail
              go_meet
              case rel => exact ⟨rfl, 0, rfl, by omega⟩
        case rest =>
        obtain ⟨rfl, p, rfl, hp⟩ := hcut
        obtain ⟨xl, hxl⟩ : ∃ xl, xl = (ndCells X dx).toArray := ⟨_, rfl⟩
        have hXb : Blk wc b 42 xl.toList := by rw [hxl]; exact HX.out.blk
        have hXs : xl.size = 28 := by rw [hxl]; exact ndCells_length _ _
        have hone : xl.all (·.oneCell') = true := by
          obtain ⟨a, xcap, hdx, _⟩ := HX.out.dat
          rw [hxl, hdx]; exact ndCells_one _ _ _ _
        have hcs : (xl.toList.drop 0).take 28 = xl.toList := by rw [List.drop_zero, List.take_of_length_le (by simp; omega)]
        have HCS := Lib.hid hcs
        have HXS := Lib.hid hXs
        have HXL := Lib.hid hxl
        have hle : 0 + 28 ≤ xl.toList.length := by simp; omega
        clear hcs hXs hxl
        obtain ⟨i0, z0, hi0⟩ := info42_parts
        have HI := Lib.hid hi0
        clear hi0
        have hbase : w.heap.size ≤ wc.heap.size := hfW.size
        have hnews : ∀ j u, xl.toList[j]? = some u → (wc.alloc (.cells xl 42)).cell? ((⟨wc.heap.size, 0, none⟩ : Addr).add j) = some u := by
          intro j u hj
          have := (Blk.new' wc 42 xl).cell j
          have e : (⟨wc.heap.size, 0, none⟩ : Addr).add j = ⟨wc.heap.size, j, none⟩ := add_zero' _ _
          rw [e, this]; exact hj
        have h1one : ∀ u ∈ xl.toList, u.oneCell' = true := all_oneCell_mem hone
        have hbA : w.heap.size ≤ (wc.alloc (.cells xl 42)).heap.size := by rw [World.size_alloc]; omega
        have HNEWS := Lib.hid hnews
        have HONE := Lib.hid h1one
        have hlen28 : xl.toList.length = 1 * 28 := by simpa using HXS.out
        have HL28 := Lib.hid hlen28
        clear hnews h1one hlen28 hone
        go_wp2_with (first | (refine wpList_load_blk rfl 42 (.tmp 11) rfl b 0 rfl 42 xl.toList hXb _ Tryd.underlying42 rfl 28 (by kernel_rfl) hle xl HCS.out ?_) | (refine wpList_build_one rfl 25 42 (.tmp 162) rfl xl rfl Tryd.underlying25 i0 z0 HI.out.1 HI.out.2.1 28 HI.out.2.2.1 HXS.out (by decide) (by decide) ?_) | (at_builtin; (refine wpList_app rfl (.tmp 161) (.tmp 163) 25 rfl 42 i0 z0 28 112 Tryd.underlying25 HI.out.1 HI.out.2.1 HI.out.2.2.1 HI.out.2.2.2.1 HI.out.2.2.2.2 (by decide) (by decide) w.heap.size _ (k + 1) _ rfl (HN.out.row.alloc _) ⟨wc.heap.size, 0, none⟩ 1 1 xl.toList rfl (by decide) HL28.out HNEWS.out HONE.out (by omega) hbA ?_)))
        intro v1 w1 hr1 hg1 hd1
        have f1 : Fr (Value.slice (some ⟨lb, 0, none⟩) (k + 1) lcap).ownBlock.toList wc w1 := (((Fr.refl [] wc).alloc _).mono (by simp)).trans hg1 (fun x hx => .inl hx)
        rw [HXL.out, List.toList_toArray] at hr1
        have hbel1 := own_fr HN.out.bel f1 (own_sep HN.out.bel HN.out.row (by decide))
        have hbase1 : w.heap.size ≤ w1.heap.size := Nat.le_trans hbase f1.size
        obtain ⟨va, vc, rfl⟩ := own_slice hr1
        have HR1 := Lib.hid hr1
        have HF1 := Lib.hid f1
        clear hr1 f1 hd1 hg1
        go_wp2_with (at_builtin; (refine wpList_app2 rfl (.tmp 165) (.tmp 166) 70 rfl 31 (.slice none 0 0) 24 Tryd.underlying70 info31 rfl (by decide) w.heap.size _ (k + 1) _ rfl _ hbel1 rfl rfl (by omega) hbase1 ?_))
        intro v2 w2 hr2 hg2 hd2
        have hbp2 := own_fr (own_fr (HN.out.bs p hp) HF1.out (own_sep (HN.out.bs p hp) HN.out.row (by decide))) hg2 (own_sep (own_fr (HN.out.bs p hp) HF1.out (own_sep (HN.out.bs p hp) HN.out.row (by decide))) hbel1 (by decide))
        have hbase2 : w.heap.size ≤ w2.heap.size := Nat.le_trans hbase1 hg2.size
        obtain ⟨gb, gcap, gl, rfl, hgb, hgl, hgg, hgc1, hgc2, _⟩ := own_blkS hr2 (by omega)
        have cp : w2.cell? ⟨gb, p, none⟩ = some (bv p) := by
          rw [hgl.cell, hgg p (by omega), List.getElem?_append_left (by rw [tab_length]; exact hp), tab_get _ _ _ hp]
        have hpI : (p : Int) < (k : Int) + 1 + 1 := by omega
        have hlenp := HN.out.len_le p hp
        generalize hpl : (B p).length = pl at *
        have HPL := Lib.hid hpl
        have HR2 := Lib.hid hr2
        have HG2 := Lib.hid hg2
        clear hr2 hg2 hd2 hgg hpl
        go_wp2_with (at_builtin; (refine wpList_app2 rfl (.tmp 173) (.tmp 177) 31 rfl 3 (.int .i64 0) 8 Tryd.underlying31 info3 rfl (by decide) w.heap.size _ pl _ rfl _ hbp2 rfl rfl (by omega) hbase2 ?_))
        intro v3 w3 hr3 hg3 hd3
        have hr3' : w3.ownsRow w.heap.size 3 1 v3 ((B p).length + 1) ((B p).map (fun e => I64 e) ++ [I64 (k + 1 : Nat)]) := by
          rw [HPL.out]
          exact hr3
        obtain ⟨v3a, v3c, rfl⟩ := own_slice hr3'
        have hgl3 := hgl.fr hg3 (fun hx => own_sep HR2.out hbp2 (by decide) gb rfl hx)
        have hst := NInv.step HN.out (by omega) hp HX.out.ok HX.out.dat HR1.out HF1.out HR2.out HG2.out hr3' hg3 hd3
        have hfin : Fr [] w (w3.setCell ⟨gb, p, none⟩ (.slice v3a ((B p).length + 1) v3c)) := (((hfW.own HN.out.row (Nat.le_refl _) HF1.out).own hbel1 (Nat.le_refl _) HG2.out).own hbp2 (Nat.le_refl _) hg3).setCell (.inr hgb) _
        have c3 : w3.cell? ⟨gb, p, none⟩ = some (bv p) := (hgl3.cell p).trans ((hgl.cell p).symm.trans cp)
        have z3 := hgl3.frozen p
        have HST := Lib.hid hst
        have HFIN := Lib.hid hfin
        clear hst hfin hr3 hr3' hg3 hd3 hbp2 hbel1 hgl hgl3 cp hXb
        go_wp2_with fail
        go_roundw
        case rel => exact ⟨k + 1, at2, _, _, _, _, _, by omega, by go_num, rfl, by omega, HFIN.out, HST.out⟩
        case measure => simp [intOf]; omega
      · obtain rfl : k = m := by omega
        go_wp2_with fail
        go_meet
        case rel => exact ⟨nd, dv, bv, B, par, hf, HINV.out⟩
  case rest =>
  obtain ⟨nd, dv, bv, B, par, hf, hinv⟩ := hcut
  obtain ⟨lb, lcap, ll, rfl, hlb, hll, hlg, hlc1, hlc2, _⟩ := own_blkS hinv.row (by omega)
  have hrow : NdRow wc lb (m + 1) nd dv := ⟨ll, hll, fun e he j hj => (hlg _ (by omega)).trans (ndRow_get _ _ _ _ _ he hj)⟩
  have hst := SInv.init hinv (by omega) hrow
  have hP : Par (m + 1) B par := ⟨hinv.mem, hinv.nodup, hinv.le, hinv.all⟩
  obtain ⟨gb, gcap, gl, rfl, hgb, hgl, hgg, hgc1, hgc2, _⟩ := own_blkS hinv.bel (by omega)
  have HP := Lib.hid hP
  have HOK := Lib.hid hinv.ok
  have HROOT := Lib.hid hinv.root
  have hmm : m ≤ 19 := by omega
  clear hP hrow hlg hll hgg hgl hinv
  go_wp2_with fail
  go_loopw [183] (fun s183 wr => ∃ (k : Nat) (nd' : Nat → Nd) (B' : Nat → List Nat) (sh : Nat → Sh), k ≤ m + 1 ∧ s183 = .int .i64 k ∧ Fr [] w wr ∧ SInv w.heap.size lb (m + 1) k wr (.slice (some ⟨gb, 0, none⟩) (m + 1) gcap) nd nd' dv bv B B' sh) (fun s183 _ => m + 1 - (intOf s183).toNat)
  case atStart => exact ⟨0, nd, B, _, by omega, rfl, hf, hst⟩
  case round =>
    clear hst
    obtain ⟨k, nd', B', sh, hk, rfl, hf, hst⟩ := hrel
    obtain ⟨wq, hwq⟩ : ∃ x, x = wr := ⟨_, rfl⟩
    subst hwq
    by_cases hlt : k < m + 1
    · have ck : wq.cell? ⟨gb, k, none⟩ = some (bv k) := by
        have := hst.bel.cells rfl k (bv k) (tab_get _ _ _ hlt)
        rwa [add_zero'] at this
      obtain ⟨pa, pcap, pb, hbv, hpc1, hpc2, hpa⟩ := own_any (hst.bs k hlt)
      have hbk := hst.bs k hlt
      have hpm := hst.perm k hlt
      have hlen : (B' k).length = (B k).length := hpm.length_eq
      have hle : (B k).length ≤ m + 1 := nodup_le _ (HP.out.nodup k hlt) (fun e he => (HP.out.mem k hlt e he).2.1)
      rw [hbv] at ck hbk
      have HBV := Lib.hid hbv
      have HST := Lib.hid hst
      have HPM := Lib.hid hpm
      have HPA := Lib.hid hpa
      clear hbv hst hpm hpa hlen
      generalize hpl : (B k).length = pl at *
      have HPL := Lib.hid hpl
      clear hpl
      have hltI : (k : Int) < (m : Int) + 1 := by omega
      go_upto_block 12 with (fail)
      go_cut [] from 188 to 234 (fun w1 => ∃ C : List Nat, C.Perm (B k) ∧ w1.ownsRow w.heap.size 3 1 (.slice pa pl pcap) pl (C.map (fun e => I64 e)) ∧ Fr (Value.slice pa pl pcap).ownBlock.toList wq w1)
      case first =>
        go_wp2_with fail
        go_loopw [190] (fun s190 wr1 => ∃ (j : Nat) (C : List Nat), j ≤ pl ∧ s190 = .int .i64 j ∧ C.Perm (B k) ∧ wr1.ownsRow w.heap.size 3 1 (.slice pa pl pcap) pl (C.map (fun e => I64 e)) ∧ Fr (Value.slice pa pl pcap).ownBlock.toList wq wr1) (fun s190 _ => pl - (intOf s190).toNat)
        case atStart => exact ⟨0, B' k, by omega, rfl, HPM.out, hbk, Fr.refl _ _⟩
        case round =>
          clear hbk
          obtain ⟨j, C, hj, rfl, hC, hoC, hfC⟩ := hrel
          obtain ⟨wp, hwp⟩ : ∃ x, x = wr := ⟨_, rfl⟩
          subst hwp
          by_cases hjl : j < pl
          · obtain rfl := HPA.out (by omega)
            go_wp2_with fail
            go_loopw [23] (fun s23 w1 => ∃ (i : Nat) (C : List Nat), i ≤ j ∧ s23 = .int .i64 i ∧ C.Perm (B k) ∧ w1.ownsRow w.heap.size 3 1 (.slice (some ⟨pb, 0, none⟩) pl pcap) pl (C.map (fun e => I64 e)) ∧ Fr (Value.slice (some ⟨pb, 0, none⟩) pl pcap).ownBlock.toList wq w1) (fun s23 _ => (intOf s23).toNat)
            case atStart => exact ⟨j, C, by omega, rfl, hC, hoC, hfC⟩
            case round =>
              clear hC hoC hfC
              obtain ⟨i, C, hi, rfl, hC, hoC, hfC⟩ := hrel
              by_cases h0 : 0 < i
              · obtain ⟨i, rfl⟩ : ∃ x, i = x + 1 := ⟨i - 1, by omega⟩
                have hCl : C.length = pl := by rw [hC.length_eq]; exact HPL.out
                have hSS := (HST.out.sorted hlt C hC (by rw [HBV.out, HPL.out]; exact hoC) (by rw [HBV.out]; exact hfC))
                have c1 := own_map_cell hoC (i + 1) (by omega)
                have c2 := own_map_cell hoC i (by omega)
                have z1 := own_frz hoC (i + 1)
                have z2 := own_frz hoC i
                have hm1 : C.getD (i + 1) 0 < m + 1 := (HP.out.mem k hlt _ (hC.mem_iff.1 (getD_mem C (i + 1) (by omega)))).2.1
                have hm2 : C.getD i 0 < m + 1 := (HP.out.mem k hlt _ (hC.mem_iff.1 (getD_mem C i (by omega)))).2.1
                have n1 : wr.cell? ⟨lb, C.getD (i + 1) 0 * 28, none⟩ = some (.string (nd' (C.getD (i + 1) 0)).name) := (hSS.row.cell hm1 (show 0 < 28 by omega)).trans rfl
                have n2 : wr.cell? ⟨lb, C.getD i 0 * 28, none⟩ = some (.string (nd' (C.getD i 0)).name) := (hSS.row.cell hm2 (show 0 < 28 by omega)).trans rfl
                have s1 : (nd' (C.getD (i + 1) 0)).name.size ≤ 10 := by rw [(HST.out.same _).name]; exact (HOK.out _ hm1).nm2
                have s2 : (nd' (C.getD i 0)).name.size ≤ 10 := by rw [(HST.out.same _).name]; exact (HOK.out _ hm2).nm2
                have hsp := swap_perm C i (by omega)
                have hos := own_map_set (own_map_set hoC (i + 1) (C.getD i 0) _ rfl) i (C.getD (i + 1) 0) _ rfl
                have hos2 := own_map_set (own_map_set hoC i (C.getD (i + 1) 0) _ rfl) (i + 1) (C.getD i 0) _ rfl
                have hcc : (C.set i (C.getD (i + 1) 0)).set (i + 1) (C.getD i 0) = (C.set (i + 1) (C.getD i 0)).set i (C.getD (i + 1) 0) := List.set_comm _ _ (by omega)
                rw [hcc] at hos2
                generalize (C.set (i + 1) (C.getD i 0)).set i (C.getD (i + 1) 0) = C2 at *
                have hC2 := hsp.trans hC
                have HC2 := Lib.hid hC2
                have HOS := Lib.hid hos
                have HOS2 := Lib.hid hos2
                generalize (nd' (C.getD (i + 1) 0)).name = nm1 at *
                generalize (nd' (C.getD i 0)).name = nm2 at *
                generalize C.getD (i + 1) 0 = e1 at *
                generalize C.getD i 0 = e2 at *
                have HOC := Lib.hid hoC
                have HFC := Lib.hid hfC
                have HC := Lib.hid hC
                clear hsp hC2 hos hos2 hcc hSS hCl hoC hC hfC
                have hiI : (0 : Int) < (i : Int) + 1 := by omega
                have hiI2 : (i : Int) + 1 < (pl : Int) := by omega
                have hiI3 : (i : Int) < (pl : Int) := by omega
                have hm1I : (e1 : Int) < (m : Int) + 1 := by omega
                have hm2I : (e2 : Int) < (m : Int) + 1 := by omega
                have hw1 : IntKind.i64.wrap ((i : Int) + 1 - 1) = (i : Int) := IntWalk.i64_in _ (by omega) |>.trans (by omega)
                have hd : decide ((0 : Int) < (i : Int) + 1) = true := decide_eq_true (by omega)
                go_upto_region 51 with (fail)
                go_quiet ((go_at_call 19; exact Calls.quiet_of_same (less_is _ _ _ (by omega) (by omega))))
                generalize lessB nm1 nm2 = bl at *
                cases bl
                · go_wp2_with fail
                  go_roundw
                  case rel => exact ⟨j + 1, C, by omega, by go_num, HC.out, HOC.out, HFC.out.drewN _⟩
                  case measure => simp [intOf]; omega
                · have hw2 : IntKind.i64.wrap ((i : Int) + 1 - 1) = (i : Int) := IntWalk.i64_in _ (by omega) |>.trans (by omega)
                  go_upto_region 53 with (fail)
                  go_region
                  all_goals
                    go_wp2_with fail
                    go_roundw
                    case rel => exact ⟨i, C2, by omega, by go_num, HC2.out, HOS.out, ((HFC.out.drewN _).setCell (.inl (by simp [Value.ownBlock])) _).setCell (.inl (by simp [Value.ownBlock])) _⟩
                    case measure => simp [intOf]
              · obtain rfl : i = 0 := by omega
                have hd : decide ((0 : Int) < 0) = false := by decide
                have HC := Lib.hid hC
                clear hC
                go_upto_region 51 with (fail)
                go_quiet (fail)
                go_wp2_with fail
                go_roundw
                case rel => exact ⟨j + 1, C, by omega, by go_num, HC.out, hoC, hfC.drewN _⟩
                case measure => simp [intOf]; omega
          · obtain rfl : j = pl := by omega
            go_wp2_with fail
            go_meet
            case rel => exact ⟨C, hC, hoC, hfC⟩
      case rest =>
      obtain ⟨C, hC, hoC, hfC⟩ := hcut
      have hCl : C.length = pl := by rw [hC.length_eq]; exact HPL.out
      have hfw : Fr [] w wc := hf.trans hfC (fun x hx => .inr (by have := (hoC.lt x (by simpa using hx)).1; omega))
      have hSS := HST.out.sorted hlt C hC (by rw [HBV.out, HPL.out]; exact hoC) (by rw [HBV.out]; exact hfC)
      obtain ⟨lx, hlx⟩ := hSS.row.lbk
      obtain ⟨pb', hpa', hpb', hps'⟩ : ∃ pb' : Nat, (0 < pl → pa = some ⟨pb', 0, none⟩) ∧ pb' ≠ lb ∧ ∀ i, i < pl → wc.cell? ⟨pb', 0 + i, none⟩ = some (I64 (C.getD i 0)) := by
        by_cases h0 : 0 < pl
        · obtain rfl := HPA.out h0
          refine ⟨pb, fun _ => rfl, fun h => ?_, fun i hi => by rw [Nat.zero_add]; exact own_map_cell hoC i hi⟩
          subst h
          exact own_ne hoC hlx (by decide) (by simp [Value.ownBlock])
        · exact ⟨lb + 1, fun h => absurd h h0, by omega, fun i hi => by omega⟩
      obtain ⟨nb', hna', hnb', hns'⟩ : ∃ nb' : Nat, (0 < nn → na = some ⟨nb', no, none⟩) ∧ nb' ≠ lb ∧ ∀ i, i < nn → wc.cell? ⟨nb', no + i, none⟩ = some (.int .u32 (num i : Nat)) := by
        by_cases h0 : 0 < nn
        · have h1 := World.block_lt_of_cell? _ _ (HNUMS.out 0 h0)
          exact ⟨nb, HNA.out, fun h => by subst h; simp at h1; omega, fun i hi => hfw.cell0 (HNUMS.out i hi)⟩
        · exact ⟨lb + 1, fun h => absurd h h0, by omega, fun i hi => by omega⟩
      have hP2 : P2 20 = 1048576 := by decide
      have hbig : (k + 2) * P2 20 ≤ 1000000000000 := by rw [hP2]; omega
      have hsh := shaped_any lb (m + 1) lcap nb' no nn ncap dv num na (by omega) ⟨hlc1, hlc2⟩ hnc HNUM.out hna' hnb' 20 C pb' 0 pcap k pa (k : Int) nd' wc (by omega) (by omega) hbig rfl (by rw [hCl]; exact hpa') (by omega) hpc2
        (by rw [hCl]; exact hps') (hC.nodup_iff.2 (HP.out.nodup k hlt)) (fun e he => (HP.out.mem k hlt e (hC.mem_iff.1 he)).2.1) hSS.row hpb' hns'
      rw [hCl] at hsh
      have HSH := Lib.hid hsh
      have HSS := Lib.hid hSS
      have HFW := Lib.hid hfw
      clear hsh hSS hfw hbig hP2 hns' hna' hps' hpa' hCl hoC hfC hlx hC ck
      go_wp2_with fail
      refine HSH.out.mono ?_
      rintro e1 w2 ⟨s, nd2, rfl, hs1, hf1, hr1, hx1, hy1, hz1⟩
      have cN : w2.cell? ⟨lb, k * 28 + 5, none⟩ = some (.int .i64 (nd2 k).child) := (hr1.cell hlt (by omega)).trans rfl
      have zN := hr1.frozen (k * 28 + 5)
      have hnext := HSS.out.shape HP.out hlt (by simpa using hs1) hf1 hr1 (fun e he => hx1 e (by simpa using he)) hy1 hz1
      have hfin := (HFW.out.trans1 hf1 hlb).setCell (p := ⟨lb, k * 28 + 5, none⟩) (.inr hlb) (.int .i64 s.top)
      have HN := Lib.hid hnext
      have HF := Lib.hid hfin
      clear hnext hfin hs1 hf1 hr1 hx1 hy1 hz1
      go_wp2_with fail
      go_roundw
      case rel => exact ⟨k + 1, _, _, _, by omega, by go_num, HF.out, HN.out⟩
      case measure => simp [intOf]; omega
    · obtain rfl : k = m + 1 := by omega
      have hdone := hst.done HP.out (by omega) (by omega) HOK.out HROOT.out hlb
      have HD := Lib.hid hdone
      clear hdone hst
      go_wp2_with fail
      go_ret
      exact ⟨lb, m + 1, lcap, nd', dv, _, rfl, hlc1, hlc2, hf, HD.out⟩
end Go.Proofs.YtokpomdfgbbhlaaDoor

/- The parts of spec.Write's code. -/
namespace Go.Proofs.YtokpomdfgbbhlaaDoor
open Go Go.RowKit

/-- The code from region n on. -/
def dropTo (n : Nat) : Code → Option Code
  | .seq a b => match dropTo n a with
    | some a' => some (.seq a' b)
    | none => dropTo n b
  | .region id ops f => if id = n then some (.region id ops f) else none
  | _ => none
noncomputable def rest57 : Code := (Tryd.f10.body.bind (dropTo 57)).getD .skip

noncomputable def rest76 : Code := (Tryd.f10.body.bind (dropTo 76)).getD .skip
noncomputable def rest86 : Code := (Tryd.f10.body.bind (dropTo 86)).getD .skip
noncomputable def rest93 : Code := (Tryd.f10.body.bind (dropTo 93)).getD .skip
noncomputable def rest104 : Code := (Tryd.f10.body.bind (dropTo 104)).getD .skip
noncomputable def rest143 : Code := (Tryd.f10.body.bind (dropTo 143)).getD .skip

/-- What Write answers. -/
def WPost (L : Lay) (w0 : World) (e : Ending) (w' : World) : Prop :=
  ∃ (b : Nat) (F : Nat → UInt8) (fat mfat : Nat → Nat) (W : Nat → UInt8), e = .returned (.slice (some ⟨b, 0, none⟩) L.bytes L.bytes) ∧ Fr [] w0 w' ∧ w0.heap.size ≤ b ∧ Bts w' b L.bytes F ∧ Wrote L F fat mfat W
end Go.Proofs.YtokpomdfgbbhlaaDoor

/- The map of two sizes that Write makes: its equations. -/
namespace Go.Proofs.YtokpomdfgbbhlaaDoor
open Go Go.RowKit Go.Maps

/-- The first fields of the header. -/
def hA6 (L : Lay) : Nat → UInt8 := upd (upd (upd (upd (upd (cpy (fun _ => 0) 0 8 sigB) 24 2 62) 26 2 L.ver) 28 2 65534) 30 2 (if L.four = true then 12 else 9)) 32 2 6
def hA7 (L : Lay) : Nat → UInt8 := if L.four = true then upd (hA6 L) 40 4 (L.cnt 0) else hA6 L

theorem start_lt (L : Lay) (hL : LayOK L) (c : Nat) : L.start c < 4294967296 := by
  unfold Lay.start
  split
  · omega
  · have := hL.pl_lt (L.base c)
    have := hL.sum_le
    have := hL.fats_ok.2.2
    unfold Lay.tot at *
    omega

theorem u64w (x : Nat) (h : x < 18446744073709551616) : IntKind.u64.wrap (x : Int) = x := by
  unfold IntKind.wrap
  simp [IntKind.bits, IntKind.signed]
  omega
theorem u64w4 (x : Nat) (h : x < 4294967296) : IntKind.u64.wrap (x : Int) = x := u64w x (by omega)

theorem int_keyed3 : Keyed Tryd.prog 3 := int_keyed Tryd.underlying3
theorem int_key (k : Nat) (h : k ≤ 10000) : keyOf Tryd.prog 3 (.int .i64 k) = some (.int .i64 k) := keyOf_int_mk Tryd.underlying3 (WalkArith.wf_i64 (by omega))

def mE1 : MapEntry := { key := .int .i64 512, val := .int .u64 9, born := 0 }
def mE2 : MapEntry := { key := .int .i64 4096, val := .int .u64 12, born := 1 }

theorem find_nil (w : World) (k : Value) : (Instr.findKey 3 k []).run Tryd.prog w = .ok none w := by kernel_rfl
theorem find_12 (w : World) : (Instr.findKey 3 (.int .i64 4096) [mE1]).run Tryd.prog w = .ok none w := by kernel_rfl
theorem find_a (w : World) : (Instr.findKey 3 (.int .i64 512) [mE1, mE2]).run Tryd.prog w = .ok (some (0, .int .u64 9)) w := by kernel_rfl
theorem find_b (w : World) : (Instr.findKey 3 (.int .i64 4096) [mE1, mE2]).run Tryd.prog w = .ok (some (1, .int .u64 12)) w := by kernel_rfl

theorem alloc_set (w : World) (o o' : Obj) : ({ w.alloc o with heap := (w.alloc o).heap.setIfInBounds w.heap.size o' } : World) = w.alloc o' := by
  have h : (w.heap.push o).setIfInBounds w.heap.size o' = w.heap.push o' := by
    apply Array.ext'
    simp
  show ({ w with heap := (w.heap.push o).setIfInBounds w.heap.size o' } : World) = { w with heap := w.heap.push o' }
  rw [h]
theorem key512 : keyOf Tryd.prog 3 (.int .i64 512) = some (.int .i64 512) := int_key 512 (by omega)
theorem key4096 : keyOf Tryd.prog 3 (.int .i64 4096) = some (.int .i64 4096) := int_key 4096 (by omega)

theorem ins1 (w : World) : (Instr.mapUpdate 79 (.map (some w.heap.size)) (.int .i64 512) (.int .u64 9)).run Tryd.prog (w.alloc (.map #[] 0)) = .ok () (w.alloc (.map #[mE1] 1)) := by
  have hf := find_nil (w.alloc (.map #[] 0)) (.int .i64 512)
  have hc := int_keyed3.check (w.alloc (.map #[] 0)) false key512
  have h1 : (w.alloc (.map #[] 0)).heap[w.heap.size]? = some (.map #[] 0) := heap_alloc_new w _
  have hs := alloc_set w (.map #[] 0) (.map #[mE1] 1)
  generalize w.alloc (.map #[] 0) = w1 at *
  generalize w.heap.size = b at *
  generalize w.alloc (.map #[mE1] 1) = w2 at *
  simp [Instr.mapUpdate, run_underlying Tryd.underlying79, getObj, setObj, Sem.run, h1, hf, hc]
  exact hs
theorem ins2 (w : World) : (Instr.mapUpdate 79 (.map (some w.heap.size)) (.int .i64 4096) (.int .u64 12)).run Tryd.prog (w.alloc (.map #[mE1] 1)) = .ok () (w.alloc (.map #[mE1, mE2] 2)) := by
  have hf := find_12 (w.alloc (.map #[mE1] 1))
  have hc := int_keyed3.check (w.alloc (.map #[mE1] 1)) false key4096
  have h1 : (w.alloc (.map #[mE1] 1)).heap[w.heap.size]? = some (.map #[mE1] 1) := heap_alloc_new w _
  have hs := alloc_set w (.map #[mE1] 1) (.map #[mE1, mE2] 2)
  generalize w.alloc (.map #[mE1] 1) = w1 at *
  generalize w.heap.size = b at *
  generalize w.alloc (.map #[mE1, mE2] 2) = w2 at *
  simp [Instr.mapUpdate, run_underlying Tryd.underlying79, getObj, setObj, Sem.run, h1, hf, hc]
  exact hs
theorem look_a (w : World) (b : Nat) (hb : b = w.heap.size) : (Instr.lookup 79 (.map (some b)) (.int .i64 512) false).run Tryd.prog (w.alloc (.map #[mE1, mE2] 2)) = .ok (.int .u64 9) (w.alloc (.map #[mE1, mE2] 2)) := by
  subst hb
  have hf := find_a (w.alloc (.map #[mE1, mE2] 2))
  have hc := int_keyed3.check (w.alloc (.map #[mE1, mE2] 2)) false key512
  have h1 : (w.alloc (.map #[mE1, mE2] 2)).heap[w.heap.size]? = some (.map #[mE1, mE2] 2) := heap_alloc_new w _
  generalize w.alloc (.map #[mE1, mE2] 2) = w2 at *
  simp [Instr.lookup, run_underlying Tryd.underlying79, getObj, Sem.run, h1, hf, hc]
theorem look_b (w : World) (b : Nat) (hb : b = w.heap.size) : (Instr.lookup 79 (.map (some b)) (.int .i64 4096) false).run Tryd.prog (w.alloc (.map #[mE1, mE2] 2)) = .ok (.int .u64 12) (w.alloc (.map #[mE1, mE2] 2)) := by
  subst hb
  have hf := find_b (w.alloc (.map #[mE1, mE2] 2))
  have hc := int_keyed3.check (w.alloc (.map #[mE1, mE2] 2)) false key4096
  have h1 : (w.alloc (.map #[mE1, mE2] 2)).heap[w.heap.size]? = some (.map #[mE1, mE2] 2) := heap_alloc_new w _
  generalize w.alloc (.map #[mE1, mE2] 2) = w2 at *
  simp [Instr.lookup, run_underlying Tryd.underlying79, getObj, Sem.run, h1, hf, hc]
end Go.Proofs.YtokpomdfgbbhlaaDoor

/- The tables' sectors, filled one by one. No program here but the parts of Write. -/
namespace Go.Proofs.YtokpomdfgbbhlaaDoor
open Go Go.RowKit

/-- The bytes when j numbers of a table are laid at a. -/
def sectF (f : Nat → UInt8) (a : Nat) (T : Nat → Nat) (o : Nat) : Nat → Nat → UInt8
  | 0 => f
  | j + 1 => upd (sectF f a T o j) (a + 4 * j) 4 (T (o + j))
/-- The bytes when k sectors of tables are laid. -/
def tabF (L : Lay) (fat : Nat → Nat) (f : Nat → UInt8) : Nat → Nat → UInt8
  | 0 => f
  | k + 1 => sectF (upd (tabF L fat f k) (76 + 4 * k) 4 (L.pl k)) (L.sec k) fat (k * L.per) L.per

theorem sectF_in (f : Nat → UInt8) (a : Nat) (T : Nat → Nat) (o n x : Nat) (h : x < 4 * n) : sectF f a T o n (a + x) = byteN (T (o + x / 4)) (x % 4) := by
  induction n with
  | zero => omega
  | succ n ih =>
    rw [sectF]
    by_cases hx : x < 4 * n
    · rw [upd_out _ _ _ _ _ (by omega)]
      exact ih hx
    · have e : a + x = a + 4 * n + (x - 4 * n) := by omega
      rw [e, upd_in _ _ _ _ _ (by omega)]
      have e1 : x / 4 = n := by omega
      have e2 : x % 4 = x - 4 * n := by omega
      rw [e1, e2]
theorem sectF_out (f : Nat → UInt8) (a : Nat) (T : Nat → Nat) (o n x : Nat) (h : x < a ∨ a + 4 * n ≤ x) : sectF f a T o n x = f x := by
  induction n with
  | zero => rfl
  | succ n ih => rw [sectF, upd_out _ _ _ _ _ (by omega), ih (by omega)]

theorem Lay.sec_ge (L : Lay) (k : Nat) : L.sz ≤ L.sec k := by
  unfold Lay.sec
  have := Nat.mul_le_mul_left L.sz (show 1 ≤ 1 + L.pl k by omega)
  omega
/-- Sectors at other places lie apart. -/
theorem sec_apart (L : Lay) {a b : Nat} (h : L.pl a ≠ L.pl b) : L.sec a + L.sz ≤ L.sec b ∨ L.sec b + L.sz ≤ L.sec a := by
  unfold Lay.sec
  rcases Nat.lt_or_gt_of_ne h with h1 | h1
  · left
    have := Nat.mul_le_mul_left L.sz (show 1 + L.pl a + 1 ≤ 1 + L.pl b by omega)
    rw [Nat.mul_add L.sz (1 + L.pl a) 1] at this
    omega
  · right
    have := Nat.mul_le_mul_left L.sz (show 1 + L.pl b + 1 ≤ 1 + L.pl a by omega)
    rw [Nat.mul_add L.sz (1 + L.pl b) 1] at this
    omega

/-- What the tables leave: the header, the tables' sectors, and all else as it was. -/
structure TabsOK (L : Lay) (fat : Nat → Nat) (F : Nat → UInt8) : Prop where
  hdr : ∀ x, x < L.sz → F x = hdrB L x
  tab : ∀ k x, k < L.fats → x < L.sz → F (L.sec k + x) = byteN (fat (k * L.per + x / 4)) (x % 4)
  rest : ∀ k x, L.fats ≤ k → k < L.tot → x < L.sz → F (L.sec k + x) = 0

theorem tabF_ok (L : Lay) (hL : LayOK L) (fat : Nat → Nat) : TabsOK L fat (tabF L fat (difat0 (hdrA L) 109) L.fats) := by
  have hinj : ∀ a b, a < L.tot → b < L.tot → L.pl a = L.pl b → a = b := fun a b ha hb h => mixP_inj _ _ ha hb h
  have hsz : L.sz = 4 * L.per ∧ 512 ≤ L.sz := by rcases L.per_or with ⟨a, h⟩ | ⟨a, h⟩ <;> omega
  obtain ⟨hz1, hz2⟩ := hsz
  obtain ⟨hft1, hft2, hft3⟩ := hL.fats_ok
  have htot : L.fats ≤ L.tot := by unfold Lay.tot; omega
  have key : ∀ k, k ≤ L.fats → (∀ x, x < L.sz → tabF L fat (difat0 (hdrA L) 109) k x = difat1 (difat0 (hdrA L) 109) L.pl k x) ∧
      (∀ j x, j < k → x < L.sz → tabF L fat (difat0 (hdrA L) 109) k (L.sec j + x) = byteN (fat (j * L.per + x / 4)) (x % 4)) ∧
      (∀ j x, k ≤ j → j < L.tot → x < L.sz → tabF L fat (difat0 (hdrA L) 109) k (L.sec j + x) = difat0 (hdrA L) 109 (L.sec j + x)) := by
    intro k
    induction k with
    | zero => intro _; exact ⟨fun x _ => rfl, fun j x h _ => by omega, fun j x _ _ _ => rfl⟩
    | succ k ih =>
      intro hk
      obtain ⟨i1, i2, i3⟩ := ih (by omega)
      have hge := L.sec_ge k
      refine ⟨?_, ?_, ?_⟩
      · intro x hx
        rw [tabF, sectF_out _ _ _ _ _ _ (by omega), difat1]
        unfold upd
        by_cases h : 76 + 4 * k ≤ x ∧ x < 76 + 4 * k + 4
        · rw [if_pos h, if_pos h]
        · rw [if_neg h, if_neg h]; exact i1 x hx
      · intro j x hj hx
        rw [tabF]
        by_cases hjk : j = k
        · subst hjk
          exact sectF_in _ _ _ _ _ _ (by omega)
        · have hap := sec_apart L (a := j) (b := k) (fun e => hjk (hinj _ _ (by omega) (by omega) e))
          have hgj := L.sec_ge j
          rw [sectF_out _ _ _ _ _ _ (by omega), upd_out _ _ _ _ _ (by omega)]
          exact i2 j x (by omega) hx
      · intro j x hj hjt hx
        rw [tabF]
        have hap := sec_apart L (a := j) (b := k) (fun e => by have := hinj _ _ hjt (by omega) e; omega)
        have hgj := L.sec_ge j
        rw [sectF_out _ _ _ _ _ _ (by omega), upd_out _ _ _ _ _ (by omega)]
        exact i3 j x (by omega) hjt hx
  obtain ⟨h1, h2, h3⟩ := key L.fats (Nat.le_refl _)
  refine ⟨h1, h2, ?_⟩
  intro k x hk hkt hx
  have hge := L.sec_ge k
  rw [h3 k x hk hkt hx, difat0_out _ _ _ (by omega)]
  unfold hdrA
  have hc : ∀ (f : Nat → UInt8) (a m v y : Nat), a + m ≤ 76 → 512 ≤ y → upd f a m v y = f y := fun f a m v y h1 h2 => upd_out _ _ _ _ _ (by omega)
  show upd (upd (upd (upd (upd (upd _ _ _ _) _ _ _) _ _ _) _ _ _) _ _ _) _ _ _ _ = _
  rw [hc _ _ _ _ _ (by omega) (by omega), hc _ _ _ _ _ (by omega) (by omega), hc _ _ _ _ _ (by omega) (by omega), hc _ _ _ _ _ (by omega) (by omega), hc _ _ _ _ _ (by omega) (by omega), hc _ _ _ _ _ (by omega) (by omega)]
  split
  · rw [hc _ _ _ _ _ (by omega) (by omega), hc _ _ _ _ _ (by omega) (by omega), hc _ _ _ _ _ (by omega) (by omega), hc _ _ _ _ _ (by omega) (by omega), hc _ _ _ _ _ (by omega) (by omega), hc _ _ _ _ _ (by omega) (by omega), cpy_out _ _ _ _ _ (by omega)]
  · rw [hc _ _ _ _ _ (by omega) (by omega), hc _ _ _ _ _ (by omega) (by omega), hc _ _ _ _ _ (by omega) (by omega), hc _ _ _ _ _ (by omega) (by omega), hc _ _ _ _ _ (by omega) (by omega), cpy_out _ _ _ _ _ (by omega)]
end Go.Proofs.YtokpomdfgbbhlaaDoor

/- A chain's sectors filled: the image of the file. fill over a chain of the layout. -/
namespace Go.Proofs.YtokpomdfgbbhlaaDoor
open Go Go.RowKit

/-- The file's image: the header, and what each sector holds. -/
structure Img (L : Lay) (F : Nat → UInt8) (C : Nat → Nat → UInt8) : Prop where
  hdr : ∀ x, x < L.sz → F x = hdrB L x
  sec : ∀ k x, k < L.tot → x < L.sz → F (L.sec k + x) = C k x

/-- What the sectors hold when a chain from b on is filled with len bytes. -/
def fillC (C : Nat → Nat → UInt8) (sz b len : Nat) (g : Nat → UInt8) (k x : Nat) : UInt8 :=
  if b ≤ k ∧ (k - b) * sz + x < len then g ((k - b) * sz + x) else C k x

theorem TabsOK.img {L : Lay} {fat : Nat → Nat} {F : Nat → UInt8} (h : TabsOK L fat F) : Img L F (fun k x => if k < L.fats then byteN (fat (k * L.per + x / 4)) (x % 4) else 0) where
  hdr := h.hdr
  sec := fun k x hk hx => by
    show _ = if k < L.fats then _ else _
    by_cases hf : k < L.fats
    · rw [if_pos hf]; exact h.tab k x hf hx
    · rw [if_neg hf]; exact h.rest k x (by omega) hk hx

theorem Img.fill {L : Lay} {F : Nat → UInt8} {C : Nat → Nat → UInt8} (h : Img L F C) (b len : Nat) (g : Nat → UInt8) (hb : b + partsN len L.sz ≤ L.tot) :
    Img L (fillF F L.sz len (fun i => L.pl (b + i)) g (partsN len L.sz)) (fillC C L.sz b len g) := by
  have hinj : ∀ a b, a < L.tot → b < L.tot → L.pl a = L.pl b → a = b := fun a b ha hb h => mixP_inj _ _ ha hb h
  have hsz : 512 ≤ L.sz := by rcases L.sz_or with ⟨a, _⟩ | ⟨a, _⟩ <;> omega
  have key : ∀ m, m ≤ partsN len L.sz → (∀ x, x < L.sz → fillF F L.sz len (fun i => L.pl (b + i)) g m x = F x) ∧
      (∀ k x, k < L.tot → x < L.sz → fillF F L.sz len (fun i => L.pl (b + i)) g m (L.sec k + x) = if b ≤ k ∧ k < b + m ∧ (k - b) * L.sz + x < len then g ((k - b) * L.sz + x) else F (L.sec k + x)) := by
    intro m
    induction m with
    | zero => intro _; exact ⟨fun x _ => rfl, fun k x _ _ => by rw [if_neg (by omega)]; rfl⟩
    | succ m ih =>
      intro hm
      obtain ⟨i1, i2⟩ := ih (by omega)
      have hge : L.sz ≤ L.sz * (1 + L.pl (b + m)) := L.sec_ge (b + m)
      have hse : L.sz * (1 + L.pl (b + m)) = L.sec (b + m) := rfl
      refine ⟨?_, ?_⟩
      · intro x hx
        rw [fillF, cpy_out _ _ _ _ _ (by omega)]
        exact i1 x hx
      · intro k x hk hx
        rw [fillF]
        by_cases hkm : k = b + m
        · subst hkm
          have e : b + m - b = m := by omega
          rw [e]
          by_cases hl : m * L.sz + x < len
          · rw [if_pos ⟨by omega, by omega, hl⟩, ← hse, cpy_in _ _ _ _ _ (by omega)]
          · rw [if_neg (by omega), ← hse, cpy_out _ _ _ _ _ (by omega), hse, i2 _ x hk hx, if_neg (by omega)]
        · have hap := sec_apart L (a := k) (b := b + m) (fun e => hkm (hinj _ _ hk (by omega) e))
          rw [cpy_out _ _ _ _ _ (by rw [hse]; omega), i2 k x hk hx]
          by_cases hc : b ≤ k ∧ k < b + m ∧ (k - b) * L.sz + x < len
          · rw [if_pos hc, if_pos ⟨hc.1, by omega, hc.2.2⟩]
          · rw [if_neg hc, if_neg (by omega)]
  obtain ⟨h1, h2⟩ := key _ (Nat.le_refl _)
  refine ⟨fun x hx => (h1 x hx).trans (h.hdr x hx), fun k x hk hx => ?_⟩
  rw [h2 k x hk hx]
  unfold fillC
  by_cases hc : b ≤ k ∧ (k - b) * L.sz + x < len
  · have hkm : k < b + partsN len L.sz := by
      rcases Nat.lt_or_ge k (b + partsN len L.sz) with h3 | h3
      · exact h3
      · exfalso
        have h4 := le_partsN len L.sz (by omega)
        have h5 := Nat.mul_le_mul_right L.sz (show partsN len L.sz ≤ k - b by omega)
        omega
    rw [if_pos ⟨hc.1, hkm, hc.2⟩, if_pos hc]
  · rw [if_neg (by omega), if_neg hc]
    exact h.sec k x hk hx

theorem Img.congr {L : Lay} {F : Nat → UInt8} {C C' : Nat → Nat → UInt8} (h : Img L F C) (hc : ∀ k x, k < L.tot → x < L.sz → C k x = C' k x) : Img L F C' where
  hdr := h.hdr
  sec := fun k x hk hx => (h.sec k x hk hx).trans (hc k x hk hx)

theorem base_cnt (L : Lay) (c : Nat) (hc : c < 3 + L.N) : L.base c + L.cnt c ≤ L.tot := by
  have := sumN_mono L.cnt (show c + 1 ≤ 3 + L.N by omega)
  rw [sumN] at this
  unfold Lay.base Lay.tot Lay.sum
  omega

/-- The directory's bytes when k entries are marked as not used. -/
def freeD : Nat → Nat → UInt8
  | 0 => fun _ => 0
  | k + 1 => sectF (freeD k) (128 * k + 68) (fun _ => 4294967295) 0 3
theorem freeD_ok (k : Nat) : (∀ y, y < 128 * k → freeD k y = freeE (y % 128)) ∧ ∀ y, 128 * k ≤ y → freeD k y = 0 := by
  induction k with
  | zero => exact ⟨fun y h => by omega, fun y _ => rfl⟩
  | succ k ih =>
    obtain ⟨i1, i2⟩ := ih
    have hs : ∀ y, freeD (k + 1) y = upd (upd (upd (freeD k) (128 * k + 68) 4 4294967295) (128 * k + 72) 4 4294967295) (128 * k + 76) 4 4294967295 y := fun y => rfl
    refine ⟨?_, ?_⟩
    · intro y hy
      rw [hs]
      by_cases h : y < 128 * k
      · rw [upd_out _ _ _ _ _ (by omega), upd_out _ _ _ _ _ (by omega), upd_out _ _ _ _ _ (by omega)]
        exact i1 y h
      · have e : y % 128 = y - 128 * k := by omega
        rw [e]
        have h76 : (76 ≤ y - 128 * k ∧ y - 128 * k < 76 + 4) = (128 * k + 76 ≤ y ∧ y < 128 * k + 76 + 4) := propext (by omega)
        have h72 : (72 ≤ y - 128 * k ∧ y - 128 * k < 72 + 4) = (128 * k + 72 ≤ y ∧ y < 128 * k + 72 + 4) := propext (by omega)
        have h68 : (68 ≤ y - 128 * k ∧ y - 128 * k < 68 + 4) = (128 * k + 68 ≤ y ∧ y < 128 * k + 68 + 4) := propext (by omega)
        unfold freeE upd
        simp only [h76, h72, h68, Nat.sub_sub, i2 y (show 128 * k ≤ y by omega)]
    · intro y hy
      rw [hs, upd_out _ _ _ _ _ (by omega), upd_out _ _ _ _ _ (by omega), upd_out _ _ _ _ _ (by omega)]
      exact i2 y (by omega)

/-- fill over chain c. -/
theorem fill_chain {L : Lay} {lb lcap zb xb fb fn mb mn pb pc b19 c19 b29 c29 b33 c33 ob outb fnb : Nat} {dv : Nat → Value} {fat mfat : Nat → Nat} {w0 w : World} {F : Nat → UInt8}
    (E : WEnv L w0 lb lcap fn mn pc c19 c29 c33 outb dv fat mfat) (hT : WTab w L zb xb fb fn mb mn pb b19 b29 b33 fat mfat) (hO : WOut w L zb xb ob outb fnb F)
    (c len cap bb bo : Nat) (ba : Option Addr) (g : Nat → UInt8) (hc : c < 3 + L.N) (hp : partsN len L.sz = L.cnt c) (hlen : len ≤ cap ∧ cap ≤ 9223372036854775807)
    (hba : 0 < len → ba = some ⟨bb, bo, none⟩) (hb : ∀ i, i < len → w.cell? ⟨bb, bo + i, none⟩ = some (U8 (g i))) (hne : bb ≠ outb) :
    Calls Tryd.prog 25 #[.int .i64 (L.start c), .slice ba len cap, .pointer (some ⟨xb, 0, none⟩), .pointer (some ⟨fnb, 0, none⟩)] w fun e w' => e = .returned (.tuple #[]) ∧ Fr [outb] w w' ∧
      Bts w' outb L.bytes (fillF F L.sz len (fun i => L.pl (L.base c + i)) g (partsN len L.sz)) := by
  have hL := E.hL
  have hsz : L.sz = 512 ∨ L.sz = 4096 := by rcases L.sz_or with ⟨a, _⟩ | ⟨a, _⟩ <;> omega
  have hb606 : L.tot ≤ 606 := by have := hL.sum_le; have := hL.fats_ok.2.2; unfold Lay.tot; omega
  have hfn : L.tot ≤ fn := by rw [E.fn_]; exact hL.fats_ok.1
  have hst : L.start c < 4294967296 := by
    unfold Lay.start
    split
    · omega
    · have := hL.pl_lt (L.base c); omega
  refine fill_any (L.start c) fb xb fn fn fnb ob zb outb L.bytes L.sz len cap bb bo (partsN len L.sz) fat (fun i => L.pl (L.base c + i)) F g ba w (hO.ob_.cell 0) (hT.z.cell 0) (hO.fnb_.cell 0) (hT.x.cell 0) hT.ft hO.out ?_ hsz rfl ?_ ?_ ?_ ?_ (fun p _ => E.fl p) hst hlen hba hb
  · exact ⟨blk_ne hO.ob_ hO.out (by decide), blk_ne hT.z hO.out (by decide), blk_ne hO.fnb_ hO.out (by decide), blk_ne hT.x hO.out (by decide), hne⟩
  · intro h0
    have h1 := partsN_pos (n := len) (size := L.sz) (by omega) h0
    unfold Lay.start
    rw [if_neg (by omega)]; rfl
  · intro k hk
    rw [hp] at hk
    have := E.fo.chain c k hc (by omega)
    rw [this, if_neg (by omega)]; rfl
  · intro k hk
    rw [hp] at hk
    have h1 := hL.pl_lt (L.base c + k)
    refine ⟨by omega, by omega, ?_⟩
    have h2 := Nat.mul_le_mul_left L.sz (show 1 + L.pl (L.base c + k) + 1 ≤ 1 + L.tot by omega)
    rw [Nat.mul_add L.sz _ 1] at h2
    unfold Lay.bytes
    show L.sz * (1 + L.pl (L.base c + k)) + L.sz ≤ _
    omega
  · have := hL.bytes_le; omega
end Go.Proofs.YtokpomdfgbbhlaaDoor

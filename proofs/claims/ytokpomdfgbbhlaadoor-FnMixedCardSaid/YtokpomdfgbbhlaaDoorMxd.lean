/- FnMixed: a stream is read, sought and written by steps, what is told is what stands there then, the file behind all is that of the stream with these bytes (part 4 of 18). No condition but the statement's own. -/
import Derived.Test.YtokpomdfgbbhlaaDoorMxc
set_option linter.all false
set_option linter.unusedVariables false
set_option linter.unusedSimpArgs false
set_option linter.unnecessarySimpa false
/- make of bytes and numbers; parts and mixed at sums; the tables' laws. -/
namespace Go.Proofs.YtokpomdfgbbhlaaDoor
open Go Go.RowKit

theorem madeCells_tab' (z : Value) (n : Nat) (h : z.cells = #[z]) : madeCells z.cells (n * 1) = (tab n (fun _ => z)).toArray := by
  apply Array.ext'
  rw [h]
  simp [madeCells, tab, List.map_const', Nat.mod_one]

/-- make([]T, n) of one-celled elements. -/
theorem mk_tab {t e : TypeId} {z : Value} {bytes : Nat} (ht : Tryd.prog.underlying t = some (.slice e)) (hi : (Tryd.prog.info? e).map (fun i => (i.zero, i.size, i.bytes)) = some (some z, 1, bytes)) (hz : z.cells = #[z])
    (c : Int) (n : Nat) (hc : c = n) (hb : bytes ≤ 100) (h63 : n ≤ 1000000000) (w : World) :
    (Instr.makeSlice t (.int .i64 c) (.int .i64 c)).run Tryd.prog w = .ok (.slice (some ⟨w.heap.size, 0, none⟩) n n) (w.alloc (.cells (tab n (fun _ => z)).toArray e)) := by
  subst hc
  obtain ⟨i, h1, h2, h3, h4⟩ := info_parts hi
  have := run_make (P := Tryd.prog) w t e i z ht h1 h2 .i64 .i64 n n (by omega) (by omega) (by
    rw [h4]
    have h := Nat.mul_le_mul hb h63
    have h : ((bytes * n : Nat) : Int) ≤ 281474976710656 := by omega
    rwa [Int.natCast_mul] at h) (by omega)
  rw [this, h3, Int.toNat_natCast, madeCells_tab' z n hz]

theorem info_u32 : (Tryd.prog.info? 63).map (fun i => (i.zero, i.size, i.bytes)) = some (some (.int .u32 0), 1, 4) := by kernel_rfl
theorem info_u8 : (Tryd.prog.info? 5).map (fun i => (i.zero, i.size, i.bytes)) = some (some (.int .u8 0), 1, 1) := by kernel_rfl
theorem mk_u32 (c : Int) (n : Nat) (hc : c = n) (h : n ≤ 1000000000) (w : World) : (Instr.makeSlice 22 (.int .i64 c) (.int .i64 c)).run Tryd.prog w = .ok (.slice (some ⟨w.heap.size, 0, none⟩) n n) (w.alloc (.cells (tab n (fun _ => .int .u32 0)).toArray 63)) :=
  mk_tab Tryd.underlying22 info_u32 rfl c n hc (by omega) h w
theorem mk_u8 (c : Int) (n : Nat) (hc : c = n) (h : n ≤ 1000000000) (w : World) : (Instr.makeSlice 23 (.int .i64 c) (.int .i64 c)).run Tryd.prog w = .ok (.slice (some ⟨w.heap.size, 0, none⟩) n n) (w.alloc (.cells (tab n (fun _ => .int .u8 0)).toArray 5)) :=
  mk_tab Tryd.underlying23 info_u8 rfl c n hc (by omega) h w

theorem parts_int (z : Int) (n size : Nat) (hz : z = n) (w : World) (hn : n ≤ 1000000) (h1 : 1 ≤ size) (h2 : size ≤ 1000000) :
    Calls Tryd.prog 21 #[.int .i64 z, .int .i64 size] w fun e w' => e = .returned (.int .i64 (partsN n size : Nat)) ∧ w = w' := by
  subst hz
  exact parts_any n size w hn h1 h2
theorem mixed_int (z y : Int) (n step : Nat) (hz : z = n) (hy : y = step) (w : World) (hn : n ≤ 5000) (hs : step ≤ 1000) :
    Calls Tryd.prog 22 #[.int .i64 z, .int .i64 y] w fun e w' => ∃ v, e = .returned v ∧ Fr [] w w' ∧ Ints w' w.heap.size v n (mixP n step) := by
  subst hz
  subst hy
  exact mixed_ints n step w hn hs

theorem blk_ne {w : World} {b b' : Nat} {S S' : TypeId} {l l' : List Value} (h : Blk w b S l) (h' : Blk w b' S' l') (hS : S ≠ S') : b ≠ b' := fun e => by
  subst e; exact hS (h.unique h').1
theorem Tbl.congr {w : World} {b n : Nat} {T T' : Nat → Nat} (h : Tbl w b n T) (hT : ∀ p, p < n → T p = T' p) : Tbl w b n T' := by
  unfold Tbl at h ⊢
  rw [tab_congr (g' := fun p => .int .u32 (T' p : Nat)) (fun i hi => by rw [hT i hi])] at h
  exact h
theorem Tbl.cell {w : World} {b n : Nat} {T : Nat → Nat} (h : Tbl w b n T) (p : Nat) (hp : p < n) : w.cell? ⟨b, p, none⟩ = some (.int .u32 (T p : Nat)) := (Blk.cell h _).trans (tab_get _ _ _ hp)

/-- The table of sectors with k of its own sectors marked. -/
def fsT (pl : Nat → Nat) : Nat → Nat → Nat
  | 0 => fun _ => 4294967295
  | k + 1 => fun q => if q = pl k then 4294967293 else fsT pl k q

theorem fsT_in (pl : Nat → Nat) (k j : Nat) (hj : j < k) : fsT pl k (pl j) = 4294967293 := by
  induction k with
  | zero => omega
  | succ k ih =>
    show (if pl j = pl k then _ else _) = _
    by_cases h : pl j = pl k
    · rw [if_pos h]
    · rw [if_neg h]
      by_cases hjk : j = k
      · subst hjk; exact absurd rfl h
      · exact ih (by omega)
theorem fsT_out (pl : Nat → Nat) (k p : Nat) (h : ∀ j, j < k → p ≠ pl j) : fsT pl k p = 4294967295 := by
  induction k with
  | zero => rfl
  | succ k ih =>
    show (if p = pl k then _ else _) = _
    rw [if_neg (h k (by omega))]
    exact ih (fun j hj => h j (by omega))

theorem chT_out (pl : Nat → Nat) (f n : Nat) (T : Nat → Nat) (k q : Nat) (h : ∀ i, i < k → q ≠ pl (f + i)) : chT pl f n T k q = T q := by
  induction k with
  | zero => rfl
  | succ k ih =>
    show (if q = pl (f + k) then _ else _) = _
    rw [if_neg (h k (by omega))]
    exact ih (fun i hi => h i (by omega))
theorem chT_in (pl : Nat → Nat) (f n : Nat) (T : Nat → Nat) (k i : Nat) (hi : i < k) (hinj : ∀ a b, a < k → b < k → pl (f + a) = pl (f + b) → a = b) :
    chT pl f n T k (pl (f + i)) = if i + 1 = n then 4294967294 else pl (f + i + 1) := by
  induction k with
  | zero => omega
  | succ k ih =>
    show (if pl (f + i) = pl (f + k) then (if k + 1 = n then 4294967294 else pl (f + k + 1)) else chT pl f n T k (pl (f + i))) = _
    by_cases h : i = k
    · subst h; rw [if_pos rfl]
    · rw [if_neg (fun e => h (hinj i k (by omega) (by omega) e))]
      exact ih (by omega) (fun a b ha hb => hinj a b (by omega) (by omega))
theorem chAll_out (pl cnt : Nat → Nat) (f : Nat) (T : Nat → Nat) (c q : Nat) (h : ∀ k, f ≤ k → k < f + sumN cnt c → q ≠ pl k) : chAll pl cnt f T c q = T q := by
  induction c with
  | zero => rfl
  | succ c ih =>
    have e : sumN cnt (c + 1) = sumN cnt c + cnt c := rfl
    rw [chAll, chT_out _ _ _ _ _ _ (fun i hi => h _ (by omega) (by omega))]
    exact ih (fun k h1 h2 => h k h1 (by omega))
theorem chAll_in (pl cnt : Nat → Nat) (f n : Nat) (T : Nat → Nat) (m : Nat) (hinj : ∀ a b, a < n → b < n → pl a = pl b → a = b) (hn : f + sumN cnt m ≤ n) (c i : Nat) (hc : c < m) (hi : i < cnt c) :
    chAll pl cnt f T m (pl (f + sumN cnt c + i)) = if i + 1 = cnt c then 4294967294 else pl (f + sumN cnt c + i + 1) := by
  induction m with
  | zero => omega
  | succ m ih =>
    have e : sumN cnt (m + 1) = sumN cnt m + cnt m := rfl
    rw [chAll]
    by_cases h : c = m
    · subst h
      exact chT_in pl (f + sumN cnt c) (cnt c) _ (cnt c) i hi (fun a b ha hb hab => by have := hinj _ _ (by omega) (by omega) hab; omega)
    · have hm := sumN_mono cnt (show c + 1 ≤ m by omega)
      rw [sumN] at hm
      rw [chT_out _ _ _ _ _ _ (fun j hj he => by have := hinj _ _ (by omega) (by omega) he; omega)]
      exact ih (by omega) (by omega)

theorem fat_ok (L : Lay) (hL : LayOK L) : FatOK L (chAll L.pl L.cnt L.fats (fsT L.pl L.fats) (3 + L.N)) := by
  have hinj : ∀ a b, a < L.tot → b < L.tot → L.pl a = L.pl b → a = b := fun a b ha hb h => mixP_inj _ _ ha hb h
  have ht : L.fats + sumN L.cnt (3 + L.N) = L.tot := by unfold Lay.tot Lay.sum; omega
  have hp := hL.tot_pos
  constructor
  · intro k hk
    rw [chAll_out]
    · exact fsT_in _ _ _ hk
    · intro j h1 h2 he
      have := hinj _ _ (by omega) (by omega) he
      omega
  · intro c i hc hi
    exact chAll_in L.pl L.cnt L.fats L.tot _ _ hinj (by omega) c i hc hi
  · intro p hp _
    rw [chAll_out]
    · exact fsT_out _ _ _ (fun j hj he => by have := hL.pl_lt j; omega)
    · intro k h1 h2 he
      have := hL.pl_lt k; omega
theorem fat_lt (L : Lay) (hL : LayOK L) (p : Nat) : chAll L.pl L.cnt L.fats (fsT L.pl L.fats) (3 + L.N) p < 4294967296 := by
  have hpl : ∀ k, L.pl k < 4294967296 := fun k => by
    have := hL.pl_lt k
    have := hL.sum_le
    have := hL.fats_ok.2.2
    unfold Lay.tot at *
    omega
  have h1 : ∀ k q, fsT L.pl k q < 4294967296 := by
    intro k
    induction k with
    | zero => intro q; show 4294967295 < 4294967296; omega
    | succ k ih => intro q; show (if q = L.pl k then 4294967293 else fsT L.pl k q) < _; split; omega; exact ih q
  have h2 : ∀ f n T k q, (∀ q, T q < 4294967296) → chT L.pl f n T k q < 4294967296 := by
    intro f n T k
    induction k with
    | zero => intro q h; exact h q
    | succ k ih =>
      intro q h
      show (if q = L.pl (f + k) then (if k + 1 = n then 4294967294 else L.pl (f + k + 1)) else chT L.pl f n T k q) < _
      split
      · split
        · omega
        · exact hpl _
      · exact ih q h
  have h3 : ∀ c q, chAll L.pl L.cnt L.fats (fsT L.pl L.fats) c q < 4294967296 := by
    intro c
    induction c with
    | zero => intro q; exact h1 _ q
    | succ c ih => intro q; exact h2 _ _ _ _ _ ih
  exact h3 _ _
theorem mfat_ok (L : Lay) : MfatOK L (chAll L.mpl L.small 0 (fun _ => 4294967295) L.N) := by
  have hinj : ∀ a b, a < L.minis → b < L.minis → L.mpl a = L.mpl b → a = b := fun a b ha hb h => mixP_inj _ _ ha hb h
  have ht : 0 + sumN L.small L.N = L.minis := by unfold Lay.minis; omega
  constructor
  · intro k i hk hi
    have := chAll_in L.mpl L.small 0 L.minis (fun _ => 4294967295) _ hinj (by omega) k i hk hi
    rw [Nat.zero_add] at this
    exact this
  · intro p hp _
    rw [chAll_out]
    intro k _ h2 he
    have := mixP_lt L.minis (L.step + 3) k (by omega)
    unfold Lay.mpl at he
    omega
theorem mstart_ch (L : Lay) (k : Nat) : chStart L.mpl L.small 0 k = L.mstart k := by
  unfold chStart Lay.mstart Lay.mbase
  rw [Nat.zero_add]
theorem mfat_lt (L : Lay) (hL : LayOK L) (h0 : L.minis ≠ 0) (p : Nat) : chAll L.mpl L.small 0 (fun _ => 4294967295) L.N p < 4294967296 := by
  have hm := hL.minis_le
  have hpl : ∀ k, L.mpl k < 4294967296 := fun k => by
    have := mixP_lt L.minis (L.step + 3) k (by omega)
    unfold Lay.mpl
    omega
  have h2 : ∀ f n T k q, (∀ q, T q < 4294967296) → chT L.mpl f n T k q < 4294967296 := by
    intro f n T k
    induction k with
    | zero => intro q h; exact h q
    | succ k ih =>
      intro q h
      show (if q = L.mpl (f + k) then (if k + 1 = n then 4294967294 else L.mpl (f + k + 1)) else chT L.mpl f n T k q) < _
      split
      · split
        · omega
        · exact hpl _
      · exact ih q h
  have h3 : ∀ c q, chAll L.mpl L.small 0 (fun _ => 4294967295) c q < 4294967296 := by
    intro c
    induction c with
    | zero => intro q; show 4294967295 < 4294967296; omega
    | succ c ih => intro q; exact h2 _ _ _ _ _ ih
  exact h3 _ _


/-- put, at whatever form of its numbers. -/
theorem put_c (gb off len cap a v m N : Nat) (za zv zm : Int) (ha : za = a) (hv : zv = v) (hm' : zm = m) (f : Nat → UInt8) (w : World) (h : Bts w gb N f) (hN : off + len ≤ N) (ham : a + m ≤ len) (hm : m ≤ 8) (hlen : len ≤ 9223372036854775807) :
    Calls Tryd.prog 26 #[.slice (some ⟨gb, off, none⟩) len cap, .int .i64 za, .int .u64 zv, .int .i64 zm] w fun e w' => e = .returned (.tuple #[]) ∧ Fr [gb] w w' ∧ Bts w' gb N (upd f (off + a) m v) := by
  subst ha
  subst hv
  subst hm'
  exact put_any gb off len cap a v m N f w h hN ham hm hlen

/-- The tables of Write in memory. -/
structure WTab (w : World) (L : Lay) (zb xb fb fn mb mn pb b19 b29 b33 : Nat) (fat mfat : Nat → Nat) : Prop where
  z : Blk w zb 3 [I64 L.sz]
  x : Blk w xb 22 [.slice (some ⟨fb, 0, none⟩) fn fn]
  ft : Tbl w fb fn fat
  mt : Tbl w mb mn mfat
  pl : ∃ l, Blk w pb 3 l ∧ ∀ i, i < L.tot → l[i]? = some (I64 (L.pl i))
  cn : ∃ l, Blk w b19 3 l ∧ ∀ i, i < 3 + L.N → l[i]? = some (I64 (L.cnt i))
  st : ∃ l, Blk w b29 3 l ∧ ∀ i, i < 3 + L.N → l[i]? = some (I64 (L.start i))
  ms : ∃ l, Blk w b33 3 l ∧ ∀ i, i < L.N → l[i]? = some (I64 (L.mstart i))

section
variable {w w' : World} {L : Lay} {zb xb fb fn mb mn pb b19 b29 b33 : Nat} {fat mfat : Nat → Nat} {ms : List Nat}
theorem WTab.fr (h : WTab w L zb xb fb fn mb mn pb b19 b29 b33 fat mfat) (f : Fr ms w w') (hm : ∀ b S l, Blk w b S l → S ≠ 5 → S ≠ 42 → b ∉ ms) : WTab w' L zb xb fb fn mb mn pb b19 b29 b33 fat mfat where
  z := h.z.fr f (hm _ _ _ h.z (by decide) (by decide))
  x := h.x.fr f (hm _ _ _ h.x (by decide) (by decide))
  ft := Blk.fr h.ft f (hm _ _ _ h.ft (by decide) (by decide))
  mt := Blk.fr h.mt f (hm _ _ _ h.mt (by decide) (by decide))
  pl := by obtain ⟨l, h1, h2⟩ := h.pl; exact ⟨l, h1.fr f (hm _ _ _ h1 (by decide) (by decide)), h2⟩
  cn := by obtain ⟨l, h1, h2⟩ := h.cn; exact ⟨l, h1.fr f (hm _ _ _ h1 (by decide) (by decide)), h2⟩
  st := by obtain ⟨l, h1, h2⟩ := h.st; exact ⟨l, h1.fr f (hm _ _ _ h1 (by decide) (by decide)), h2⟩
  ms := by obtain ⟨l, h1, h2⟩ := h.ms; exact ⟨l, h1.fr f (hm _ _ _ h1 (by decide) (by decide)), h2⟩
theorem WTab.fr0 (h : WTab w L zb xb fb fn mb mn pb b19 b29 b33 fat mfat) (f : Fr [] w w') : WTab w' L zb xb fb fn mb mn pb b19 b29 b33 fat mfat := h.fr f (by simp)
/-- A frame that turns one row of bytes. -/
theorem WTab.frB {b : Nat} {l : List Value} (h : WTab w L zb xb fb fn mb mn pb b19 b29 b33 fat mfat) (f : Fr [b] w w') (hb : Blk w b 5 l) : WTab w' L zb xb fb fn mb mn pb b19 b29 b33 fat mfat :=
  h.fr f (fun c S l' hc hS _ => by simp only [List.mem_singleton]; exact blk_ne hc hb hS)
theorem WTab.plc (h : WTab w L zb xb fb fn mb mn pb b19 b29 b33 fat mfat) (i : Nat) (hi : i < L.tot) : w.cell? ⟨pb, i, none⟩ = some (I64 (L.pl i)) := by
  obtain ⟨l, h1, h2⟩ := h.pl; exact (h1.cell i).trans (h2 i hi)
theorem WTab.cnc (h : WTab w L zb xb fb fn mb mn pb b19 b29 b33 fat mfat) (i : Nat) (hi : i < 3 + L.N) : w.cell? ⟨b19, i, none⟩ = some (I64 (L.cnt i)) := by
  obtain ⟨l, h1, h2⟩ := h.cn; exact (h1.cell i).trans (h2 i hi)
theorem WTab.stc (h : WTab w L zb xb fb fn mb mn pb b19 b29 b33 fat mfat) (i : Nat) (hi : i < 3 + L.N) : w.cell? ⟨b29, i, none⟩ = some (I64 (L.start i)) := by
  obtain ⟨l, h1, h2⟩ := h.st; exact (h1.cell i).trans (h2 i hi)
theorem WTab.msc (h : WTab w L zb xb fb fn mb mn pb b19 b29 b33 fat mfat) (i : Nat) (hi : i < L.N) : w.cell? ⟨b33, i, none⟩ = some (I64 (L.mstart i)) := by
  obtain ⟨l, h1, h2⟩ := h.ms; exact (h1.cell i).trans (h2 i hi)
end

/-- The file's row and the closures of Write in memory. -/
structure WOut (w : World) (L : Lay) (zb xb ob outb fnb : Nat) (f : Nat → UInt8) : Prop where
  ob_ : Blk w ob 23 [.slice (some ⟨outb, 0, none⟩) L.bytes L.bytes]
  fnb_ : Blk w fnb 76 [.func (.func 24) #[] #[.pointer (some ⟨ob, 0, none⟩), .pointer (some ⟨zb, 0, none⟩)]]
  out : Bts w outb L.bytes f

theorem WOut.fr {w w' : World} {L : Lay} {zb xb ob outb fnb : Nat} {f f' : Nat → UInt8} (h : WOut w L zb xb ob outb fnb f) (hf : Fr [outb] w w') (hb : Bts w' outb L.bytes f') : WOut w' L zb xb ob outb fnb f' where
  ob_ := h.ob_.fr hf (by simpa using blk_ne h.ob_ h.out (by decide))
  fnb_ := h.fnb_.fr hf (by simpa using blk_ne h.fnb_ h.out (by decide))
  out := hb
theorem WOut.frB {w w' : World} {L : Lay} {zb xb ob outb fnb b : Nat} {f : Nat → UInt8} {l : List Value} (h : WOut w L zb xb ob outb fnb f) (hf : Fr [b] w w') (hb : Blk w b 5 l) (hne : outb ≠ b) : WOut w' L zb xb ob outb fnb f where
  ob_ := h.ob_.fr hf (by simpa using blk_ne h.ob_ hb (by decide))
  fnb_ := h.fnb_.fr hf (by simpa using blk_ne h.fnb_ hb (by decide))
  out := Blk.fr h.out hf (by simpa using hne)
theorem WOut.fr0 {w w' : World} {L : Lay} {zb xb ob outb fnb : Nat} {f : Nat → UInt8} (h : WOut w L zb xb ob outb fnb f) (hf : Fr [] w w') : WOut w' L zb xb ob outb fnb f where
  ob_ := h.ob_.fr0 hf
  fnb_ := h.fnb_.fr0 hf
  out := Blk.fr0 h.out hf

theorem run_store_fn (w : World) (a : Addr) (fn : Fn) (first cap : Array Value) (m : Mode) : (store a (.func fn first cap) m).run Tryd.prog w = stored Tryd.prog w a (.func fn first cap) m := run_store Tryd.prog w a _ m rfl
end Go.Proofs.YtokpomdfgbbhlaaDoor

/- Nodes in memory; what all parts of Write know. -/
namespace Go.Proofs.YtokpomdfgbbhlaaDoor
open Go Go.RowKit

/-- The cells of a node. -/
def ndCells (x : Nd) (dv : Value) : List Value :=
  [.string x.name, .bool x.stream, dv, .int .i64 x.left, .int .i64 x.right, .int .i64 x.child] ++ tab 16 (fun i => U8 (x.cls i)) ++ tab 4 (fun i => U8 (x.sts i)) ++ [.int .u64 x.cr, .int .u64 x.md]

/-- The bytes of a node lie in memory. -/
def DatIs (w : World) (x : Nd) (dv : Value) : Prop :=
  ∃ (a : Option Addr) (cap : Nat), dv = .slice a x.len cap ∧ x.len ≤ cap ∧ cap ≤ 9223372036854775807 ∧ (0 < x.len → ∃ b o, a = some ⟨b, o, none⟩ ∧ (∃ l, Blk w b 5 l ∧ ∀ i, i < x.len → l[o + i]? = some (U8 (x.dat i))))

/-- The nodes lie in memory. -/
structure NdsIs (w : World) (lb : Nat) (L : Lay) (dv : Nat → Value) : Prop where
  row : ∃ l, Blk w lb 42 l ∧ ∀ k, k < L.N → ∀ j, j < 28 → l[k * 28 + j]? = (ndCells (L.nd k) (dv k))[j]?
  dat : ∀ k, k < L.N → DatIs w (L.nd k) (dv k)

theorem ndCells_length (x : Nd) (dv : Value) : (ndCells x dv).length = 28 := by simp [ndCells]

theorem ndCells_one (x : Nd) (a : Option Addr) (n c : Nat) : (ndCells x (.slice a n c)).toArray.all (·.oneCell') = true := by
  refine all_oneCell_toArray (fun v hv => ?_)
  simp only [ndCells, List.mem_append, List.mem_cons, List.not_mem_nil, or_false, tab, List.mem_map] at hv
  rcases hv with ((h | ⟨i, _, h⟩) | ⟨i, _, h⟩) | h
  · rcases h with rfl | rfl | rfl | rfl | rfl | rfl <;> rfl
  · subst h; rfl
  · subst h; rfl
  · rcases h with rfl | rfl <;> rfl

/-- Two rows of the call's own, each with one value more. -/
theorem two_rows {w1 w2 w3 : World} {base n n' : Nat} {u8 u9 v1 v2 : Value} {x8 x9 y8 : List Value} (ho1 : w1.ownsRow base 3 1 u8 n x8) (ho2 : w1.ownsRow base 3 1 u9 n x9) (hd : ∀ b, u8.ownBlock = some b → u9.ownBlock ≠ some b)
    (hn1 : w2.ownsRow base 3 1 v1 n' y8) (hg1 : Fr u8.ownBlock.toList w1 w2) (h1 : ∀ g, v1.ownBlock = some g → u8.ownBlock = some g ∨ w1.heap.size ≤ g)
    (hg2 : Fr u9.ownBlock.toList w2 w3) (h2 : ∀ g, v2.ownBlock = some g → u9.ownBlock = some g ∨ w2.heap.size ≤ g) :
    w3.ownsRow base 3 1 v1 n' y8 ∧ ∀ b, v1.ownBlock = some b → v2.ownBlock ≠ some b := by
  have key : ∀ b, v1.ownBlock = some b → u9.ownBlock ≠ some b := by
    intro b hb hb9
    rcases h1 b hb with h | h
    · exact hd b h hb9
    · have := (ho2.lt b hb9).2
      omega
  refine ⟨own_fr hn1 hg2 (fun b hb => by simp only [Option.mem_toList, Option.mem_def]; exact key b hb), ?_⟩
  intro b hb hb2
  rcases h2 b hb2 with h | h
  · exact key b hb h
  · have := (hn1.lt b hb).2
    omega

theorem tab_three (a b c : Value) (n : Nat) (g h : Nat → Value) (h0 : h 0 = a) (h1 : h 1 = b) (h2 : h 2 = c) (h3 : ∀ i, i < n → h (3 + i) = g i) : #[a, b, c].toList ++ tab n g = tab (3 + n) h := by
  apply List.ext_getElem?
  intro i
  rw [tab_get?]
  rcases i with _ | _ | _ | i
  · simp [h0]
  · simp [h1]; try omega
  · simp [h2]; try omega
  · have e : (#[a, b, c].toList ++ tab n g)[i + 1 + 1 + 1]? = (tab n g)[i]? := rfl
    rw [e, tab_get?]
    by_cases hi : i < n
    · rw [if_pos hi, if_pos (by omega), ← h3 i hi]
      congr 2; omega
    · rw [if_neg hi, if_neg (by omega)]
theorem cnt_big (L : Lay) (i : Nat) : L.cnt (3 + i) = L.big i := by
  unfold Lay.cnt
  rw [if_neg (by omega), if_neg (by omega), if_neg (by omega), Nat.add_sub_cancel_left]

theorem verI (L : Lay) : ((L.ver : Int) == 4) = L.four := by unfold Lay.ver; cases L.four <;> simp

/-- What stands throughout Write. -/
structure WEnv (L : Lay) (w0 : World) (lb lcap fn mn pc c19 c29 c33 outb : Nat) (dv : Nat → Value) (fat mfat : Nat → Nat) : Prop where
  hL : LayOK L
  st : L.step ≤ 300
  nd : NdsIs w0 lb L dv
  lc : L.N ≤ lcap ∧ lcap ≤ 9223372036854775807
  fo : FatOK L fat
  fl : ∀ p, fat p < 4294967296
  mo : MfatOK L mfat
  ml : ∀ p, p < mn → mfat p < 4294967296
  fn_ : fn = L.fats * L.per
  mn_ : mn = L.cnt 1 * L.per
  pc_ : L.tot ≤ pc ∧ pc ≤ 9223372036854775807
  c19_ : 3 + L.N ≤ c19 ∧ c19 ≤ 9223372036854775807
  c29_ : 3 + L.N ≤ c29 ∧ c29 ≤ 9223372036854775807
  c33_ : L.N ≤ c33 ∧ c33 ≤ 9223372036854775807
  ob_ : w0.heap.size ≤ outb

theorem LayOK.bytes_le {L : Lay} (hL : LayOK L) : 512 ≤ L.bytes ∧ L.bytes ≤ 2490368 := by
  have h1 := hL.sum_le
  have h2 := hL.fats_ok
  have h3 : L.tot = L.sum + L.fats := rfl
  have h4 : L.bytes = L.sz * (1 + L.tot) := rfl
  have h5 : 512 ≤ L.sz ∧ L.sz ≤ 4096 := by rcases L.sz_or with ⟨e, _⟩ | ⟨e, _⟩ <;> omega
  have h6 := Nat.mul_le_mul h5.2 (show 1 + L.tot ≤ 608 by omega)
  have h7 := Nat.mul_le_mul h5.1 (show 1 ≤ 1 + L.tot by omega)
  omega
end Go.Proofs.YtokpomdfgbbhlaaDoor

/- Trees of places; the contracts of laws.less and laws.shaped. -/
namespace Go.Proofs.YtokpomdfgbbhlaaDoor
open Go Go.RowKit

/-- A tree of places: what is to the left, to the right. -/
inductive Sh where
  | nil : Sh
  | node (e : Nat) (l r : Sh) : Sh
namespace Sh
def order : Sh → List Nat
  | nil => []
  | node e l r => l.order ++ e :: r.order
def top : Sh → Int
  | nil => -1
  | node e _ _ => e
/-- The links of the tree's nodes are the tree's. -/
def Fits (nd : Nat → Nd) : Sh → Prop
  | nil => True
  | node e l r => (nd e).left = l.top ∧ (nd e).right = r.top ∧ l.Fits nd ∧ r.Fits nd
theorem Fits.congr {nd nd' : Nat → Nd} : ∀ {t : Sh}, t.Fits nd → (∀ e, e ∈ t.order → nd' e = nd e) → t.Fits nd'
  | .nil, _, _ => trivial
  | .node e l r, h, hx => by
    obtain ⟨h1, h2, h3, h4⟩ := h
    refine ⟨?_, ?_, h3.congr (fun y hy => hx y (by simp [order, hy])), h4.congr (fun y hy => hx y (by simp [order, hy]))⟩
    · rw [hx e (by simp [order])]; exact h1
    · rw [hx e (by simp [order])]; exact h2
theorem top_lt {t : Sh} {N : Nat} (h : ∀ e, e ∈ t.order → e < N) : -1 ≤ t.top ∧ t.top < N := by
  cases t with
  | nil => exact ⟨by simp [top], by simp [top]; omega⟩
  | node e l r => have := h e (by simp [order]); simp [top]; omega
end Sh

/-- A row of nodes. -/
def NdRow (w : World) (lb N : Nat) (nd : Nat → Nd) (dv : Nat → Value) : Prop :=
  ∃ l, Blk w lb 42 l ∧ ∀ k, k < N → ∀ j, j < 28 → l[k * 28 + j]? = (ndCells (nd k) (dv k))[j]?

def setL (nd : Nat → Nd) (e : Nat) (v : Int) : Nat → Nd := fun x => if x = e then { nd x with left := v } else nd x
def setR (nd : Nat → Nd) (e : Nat) (v : Int) : Nat → Nd := fun x => if x = e then { nd x with right := v } else nd x
def setC (nd : Nat → Nd) (e : Nat) (v : Int) : Nat → Nd := fun x => if x = e then { nd x with child := v } else nd x

theorem ndCells_set (x y : Nd) (dv : Value) (j : Nat) (v : Int) (hj : j = 3 ∧ y = { x with left := v } ∨ j = 4 ∧ y = { x with right := v } ∨ j = 5 ∧ y = { x with child := v }) : (ndCells x dv).set j (.int .i64 v) = ndCells y dv := by
  rcases hj with ⟨rfl, rfl⟩ | ⟨rfl, rfl⟩ | ⟨rfl, rfl⟩ <;> simp [ndCells]

theorem NdRow.set {w : World} {lb N : Nat} {nd : Nat → Nd} {dv : Nat → Value} (h : NdRow w lb N nd dv) (e j : Nat) (v : Int) (nd' : Nat → Nd) (hx : ∀ x, x ≠ e → nd' x = nd x)
    (hj : j = 3 ∧ nd' e = { nd e with left := v } ∨ j = 4 ∧ nd' e = { nd e with right := v } ∨ j = 5 ∧ nd' e = { nd e with child := v }) (he : e < N) :
    NdRow (w.setCell ⟨lb, e * 28 + j, none⟩ (.int .i64 v)) lb N nd' dv := by
  obtain ⟨l, hl, hc⟩ := h
  have hj28 : j < 28 := by rcases hj with ⟨h, _⟩ | ⟨h, _⟩ | ⟨h, _⟩ <;> omega
  refine ⟨l.set (e * 28 + j) (.int .i64 v), hl.set _ _, ?_⟩
  intro k hk i hi
  by_cases hke : k = e
  · subst hke
    rw [← ndCells_set (nd k) (nd' k) (dv k) j v hj]
    by_cases hij : i = j
    · subst hij
      have h1 := hc k hk i hi
      rw [List.getElem?_eq_getElem (show i < (ndCells (nd k) (dv k)).length by rw [ndCells_length]; exact hi)] at h1
      have h2 := (List.getElem?_eq_some_iff.1 h1).1
      rw [List.getElem?_set_self h2, List.getElem?_set_self (by rw [ndCells_length]; exact hi)]
    · rw [List.getElem?_set_ne (by omega), List.getElem?_set_ne (by omega)]
      exact hc k hk i hi
  · rw [hx k hke, List.getElem?_set_ne (by omega)]
    exact hc k hk i hi
theorem NdRow.cell {w : World} {lb N : Nat} {nd : Nat → Nd} {dv : Nat → Value} (h : NdRow w lb N nd dv) {k j : Nat} (hk : k < N) (hj : j < 28) : w.cell? ⟨lb, k * 28 + j, none⟩ = (ndCells (nd k) (dv k))[j]? := by
  obtain ⟨l, hl, hc⟩ := h
  exact (hl.cell _).trans (hc k hk j hj)
theorem NdRow.frozen {w : World} {lb N : Nat} {nd : Nat → Nd} {dv : Nat → Value} (h : NdRow w lb N nd dv) (i : Nat) : w.frozen? ⟨lb, i, none⟩ = false := by
  obtain ⟨l, hl, _⟩ := h
  exact hl.frozen i
theorem NdRow.fr {w w' : World} {lb N : Nat} {nd : Nat → Nd} {dv : Nat → Value} {ms : List Nat} (h : NdRow w lb N nd dv) (f : Fr ms w w') (hm : lb ∉ ms) : NdRow w' lb N nd dv := by
  obtain ⟨l, hl, hc⟩ := h
  exact ⟨l, hl.fr f hm, hc⟩

theorem less_any (a b : ByteArray) (w : World) (ha : a.size ≤ 1000) (hb : b.size ≤ 1000) : Calls Tryd.prog 19 #[.string a, .string b] w fun e w' => ∃ x : Bool, e = .returned (.bool x) ∧ w = w' := by
  by_cases h : a.size = b.size
  · have hI : ((a.size : Int) == (b.size : Int)) = true := by simp [h]
    have hI2 : ((a.size : Int) != (b.size : Int)) = false := by simp [h]
    have H := Lib.hid h
    clear h
    go_enter Tryd.func19, Tryd.ntmps19
    go_wp2_with fail
    go_ret
    exact ⟨_, rfl, rfl⟩
  · have hI : ((a.size : Int) == (b.size : Int)) = false := by simp; omega
    have hI2 : ((a.size : Int) != (b.size : Int)) = true := by simp; omega
    go_enter Tryd.func19, Tryd.ntmps19
    go_wp2_with fail
    go_ret
    exact ⟨_, rfl, rfl⟩

theorem u32_wrap_lo (x : Int) : 0 ≤ IntKind.u32.wrap x ∧ IntKind.u32.wrap x < 4294967296 := by
  unfold IntKind.wrap
  simp [IntKind.bits, IntKind.signed]
  omega

theorem list_at (ps : List Nat) (k : Nat) (hk : k < ps.length) : ps = ps.take k ++ ps.getD k 0 :: ps.drop (k + 1) := by
  have h1 : ps.getD k 0 = ps[k] := by rw [List.getD_eq_getElem?_getD, List.getElem?_eq_getElem hk]; rfl
  rw [h1, List.getElem_cons_drop, List.take_append_drop]
theorem getD_mem (ps : List Nat) (k : Nat) (hk : k < ps.length) : ps.getD k 0 ∈ ps := by
  rw [List.getD_eq_getElem?_getD, List.getElem?_eq_getElem hk]
  exact List.getElem_mem hk
theorem take_at (ps : List Nat) (k i : Nat) (hi : i < k) (hk : k ≤ ps.length) : (ps.take k).getD i 0 = ps.getD i 0 := by
  rw [List.getD_eq_getElem?_getD, List.getD_eq_getElem?_getD, List.getElem?_take, if_pos hi]
theorem drop_at (ps : List Nat) (k i : Nat) : (ps.drop k).getD i 0 = ps.getD (k + i) 0 := by
  rw [List.getD_eq_getElem?_getD, List.getD_eq_getElem?_getD, List.getElem?_drop]

/-- What the first half of shaped leaves. -/
structure ShL (lb N : Nat) (dv : Nat → Value) (ps : List Nat) (k : Nat) (nd : Nat → Nd) (w w1 : World) (shl : Sh) (nd1 : Nat → Nd) : Prop where
  ord : shl.order = ps.take k
  fr : Fr [lb] w w1
  row : NdRow w1 lb N nd1 dv
  out : ∀ x, x ∉ ps.take k → x ≠ ps.getD k 0 → nd1 x = nd x
  same : ∀ x, nd1 x = { nd x with left := (nd1 x).left, right := (nd1 x).right }
  fits : shl.Fits nd1
  left : (nd1 (ps.getD k 0)).left = shl.top

/-- What shaped answers and leaves. -/
def ShPost (lb N : Nat) (dv : Nat → Value) (ps : List Nat) (nd : Nat → Nd) (w : World) (e : Ending) (w' : World) : Prop :=
  ∃ (sh : Sh) (nd' : Nat → Nd), e = .returned (.int .i64 sh.top) ∧ sh.order = ps ∧ Fr [lb] w w' ∧ NdRow w' lb N nd' dv ∧
      (∀ e, e ∉ ps → nd' e = nd e) ∧ (∀ e, nd' e = { nd e with left := (nd' e).left, right := (nd' e).right }) ∧ sh.Fits nd'

/-- 2 ^ m, never reckoned. -/
def P2 : Nat → Nat
  | 0 => 1
  | m + 1 => 2 * P2 m
theorem P2_pos (m : Nat) : 1 ≤ P2 m := by
  induction m with
  | zero => exact Nat.le_refl _
  | succ m ih => rw [P2]; omega

set_option maxRecDepth 100000 in
set_option maxHeartbeats 4000000 in
theorem shaped_any (lb N lcap nb no nn ncap : Nat) (dv : Nat → Value) (num : Nat → Nat) (na : Option Addr) (hN : N ≤ 1000) (hlc : N ≤ lcap ∧ lcap ≤ 9223372036854775807) (hnc : nn ≤ ncap ∧ ncap ≤ 9223372036854775807) (hnum : ∀ i, num i < 4294967296) (hna : 0 < nn → na = some ⟨nb, no, none⟩) (hnl : nb ≠ lb) (m : Nat) :
    ∀ (ps : List Nat) (pb po cap at_ : Nat) (pa : Option Addr) (z : Int) (nd : Nat → Nd) (w : World), ps.length ≤ m → m ≤ 25 → (at_ + 2) * P2 m ≤ 1000000000000 → z = at_ → (0 < ps.length → pa = some ⟨pb, po, none⟩) → ps.length ≤ cap → cap ≤ 9223372036854775807 →
      (∀ i, i < ps.length → w.cell? ⟨pb, po + i, none⟩ = some (I64 (ps.getD i 0))) → ps.Nodup → (∀ e, e ∈ ps → e < N) → NdRow w lb N nd dv → pb ≠ lb → (∀ i, i < nn → w.cell? ⟨nb, no + i, none⟩ = some (.int .u32 (num i : Nat))) →
    Calls Tryd.prog 20 #[.slice (some ⟨lb, 0, none⟩) N lcap, .slice pa ps.length cap, .slice na nn ncap, .int .i64 z] w (ShPost lb N dv ps nd w) := by
  have HNUM := Lib.hid hnum
  have HNA := Lib.hid hna
  clear hnum hna
  induction m with
  | zero =>
    intro ps pb po cap at_ pa z nd w hm hm2 hat hz hpa hcap hcap2 hps hnd hlt hrow hpl hnums
    have h0 : ps = [] := List.eq_nil_of_length_eq_zero (by omega)
    subst h0
    have HROW := Lib.hid hrow
    clear hz hpa hps hnd hlt hrow hnums
    show Calls Tryd.prog 20 #[.slice (some ⟨lb, 0, none⟩) N lcap, .slice pa 0 cap, .slice na nn ncap, .int .i64 z] w _
    go_enter Tryd.func20, Tryd.ntmps20
    go_wp2_with fail
    go_ret
    exact ⟨.nil, nd, rfl, rfl, Fr.refl _ _, HROW.out, fun _ _ => rfl, fun _ => rfl, trivial⟩
  | succ m ih =>
    intro ps pb po cap at_ pa z nd w hm hm2 hat hz hpa hcap hcap2 hps hnd hlt hrow hpl hnums
    by_cases h0 : ps.length = 0
    · exact ih ps pb po cap at_ pa z nd w (by omega) (by omega) (Nat.le_trans (Nat.mul_le_mul_left _ (by rw [P2]; omega)) hat) hz hpa hcap hcap2 hps hnd hlt hrow hpl hnums
    · subst hz
      obtain rfl := hpa (by omega)
      have hl0 : (((ps.length : Nat) : Int) == 0) = false := by simpa using h0
      have hat51 : at_ ≤ 1000000000000 := by
        have h1 := P2_pos (m + 1)
        have h2 := Nat.mul_le_mul_left (at_ + 2) h1
        omega
      have hat2 : (2 * at_ + 2 + 2) * P2 m ≤ 1000000000000 := by
        have e : (2 * at_ + 2 + 2) * P2 m = (at_ + 2) * P2 (m + 1) := by
          rw [P2, ← Nat.mul_assoc]
          congr 1; omega
        omega
      have HPS := Lib.hid hps
      have HND := Lib.hid hnd
      have HLT := Lib.hid hlt
      have HROW := Lib.hid hrow
      have HNUMS := Lib.hid hnums
      have HAT := Lib.hid hat2
      have hlen : ps.length ≤ 26 := by omega
      clear hps hnd hlt hrow hnums hat hat2
      generalize hps : ps.length = pn at *
      have HPN := Lib.hid hps
      clear hps
      go_enter Tryd.func20, Tryd.ntmps20
      go_upto_region 3 with (fail)
      go_cut [9] from 11 to 17 (fun s9 w1 => w = w1 ∧ ∃ x : Nat, s9 = .int .u32 x ∧ x < 4294967296)
      case first =>
        go_wp2_with fail
        go_meet
        case rel => exact ⟨rfl, ((at_ : Int) % 4294967296 * 2654435761 % 4294967296 / 128).toNat, by rw [Int.toNat_of_nonneg (by omega)], by omega⟩
      case rest =>
      obtain ⟨rfl, x, rfl, hx⟩ := hcut
      go_upto_if 20 with (fail)
      go_cut [9] from 18 to 20 (fun s9 w1 => w = w1 ∧ ∃ x : Nat, s9 = .int .u32 x ∧ x < 4294967296)
      case first =>
        by_cases hn0 : 0 < nn
        · have hnI : (0 : Int) < (nn : Int) := by omega
          obtain rfl := HNA.out hn0
          have hml := Nat.mod_lt at_ hn0
          have hmod0 : (0 : Int) ≤ (at_ : Int) % (nn : Int) := by omega
          have hmod1 : (at_ : Int) % (nn : Int) < (nn : Int) := Int.emod_lt_of_pos _ hnI
          have cn := HNUMS.out (at_ % nn) hml
          have hq := HNUM.out (at_ % nn)
          go_wp2_with fail
          go_meet
          case rel =>
            generalize num (at_ % nn) = y at *
            exact ⟨rfl, (((x : Int) + (y : Int)) % 4294967296).toNat, by rw [Int.toNat_of_nonneg (by omega)], by omega⟩
        · have hnI : ¬ (0 : Int) < (nn : Int) := by omega
          go_wp2_with fail
          go_meet
          case rel => exact ⟨rfl, x, rfl, hx⟩
      case rest =>
      clear hx
      obtain ⟨rfl, x2, rfl, hx⟩ := hcut
      go_upto_region 6 with (fail)
      go_cut [10] from 18 to 35 (fun s10 w1 => w = w1 ∧ ∃ k : Nat, s10 = .int .i64 k ∧ k < pn)
      case first =>
        have hpI : (0 : Int) < (pn : Int) := by omega
        have hpm : (pn : Int) % 4294967296 = (pn : Int) := by omega
        have hlo : (0 : Int) ≤ (x2 : Int) % (pn : Int) := by omega
        have hhi : (x2 : Int) % (pn : Int) < (pn : Int) := Int.emod_lt_of_pos _ hpI
        go_wp2_with fail
        go_meet
        case rel => exact ⟨rfl, x2 % pn, rfl, Nat.mod_lt _ (by omega)⟩
      case rest =>
      clear hx
      obtain ⟨rfl, k, rfl, hk⟩ := hcut
      have hps := HPN.out
      have hlist := list_at ps k (by omega)
      have hnd := HND.out
      have he : ps.getD k 0 < N := HLT.out _ (getD_mem ps k (by omega))
      have ce : w.cell? ⟨pb, po + k, none⟩ = some (I64 (ps.getD k 0)) := HPS.out k hk
      have hlk : (ps.take k).length = k := by rw [List.length_take]; omega
      have hld : (ps.drop (k + 1)).length = pn - (k + 1) := by rw [List.length_drop, hps]
      have hnt : ps.getD k 0 ∉ ps.take k := by
        rw [hlist] at hnd
        have := (List.nodup_append.1 hnd).2.2
        intro h
        have h2 : (ps.take k ++ ps.getD k 0 :: ps.drop (k + 1)).take k = ps.take k := by rw [← hlist]
        exact this _ h _ (List.mem_cons_self) rfl
      have hnd2 : ps.getD k 0 ∉ ps.drop (k + 1) := by
        rw [hlist] at hnd
        have := (List.nodup_cons.1 (List.nodup_append.1 hnd).2.1).1
        exact this
      have hdis : ∀ x, x ∈ ps.take k → x ∉ ps.drop (k + 1) := by
        rw [hlist] at hnd
        have := (List.nodup_append.1 hnd).2.2
        intro x h1 h2
        exact this x h1 x (List.mem_cons_of_mem _ h2) rfl
      have hndt : (ps.take k).Nodup := hnd.sublist (List.take_sublist _ _)
      have hndd : (ps.drop (k + 1)).Nodup := hnd.sublist (List.drop_sublist _ _)
      have hatI : (2 * (at_ : Int)) = ((2 * at_ : Nat) : Int) := by omega
      have ihl := ih (ps.take k) pb po cap (2 * at_ + 1) (some ⟨pb, po, none⟩) (2 * (at_ : Int) + 1) nd w.drew (by rw [hlk]; omega) (by omega) (Nat.le_trans (Nat.mul_le_mul_right _ (by omega)) HAT.out) (by omega) (fun _ => rfl) (by rw [hlk]; omega) hcap2
        (fun i hi => by rw [hlk] at hi; rw [take_at ps k i hi (by omega)]; exact HPS.out i (by omega)) hndt (fun x hx => HLT.out x (List.mem_of_mem_take hx)) (HROW.out.fr ((Fr.refl [] w).drew) (by simp)) hpl HNUMS.out
      rw [hlk] at ihl
      have HIL := Lib.hid ihl
      have HLIST := Lib.hid hlist
      have HLD := Lib.hid hld
      have HNT := Lib.hid hnt
      have HND2 := Lib.hid hnd2
      have HDIS := Lib.hid hdis
      have HNDD := Lib.hid hndd
      clear ihl hps hlist hnd hlk hld hnt hnd2 hdis hndt hndd hatI
      obtain ⟨e, hee⟩ : ∃ e, e = ps.getD k 0 := ⟨_, rfl⟩
      rw [← hee] at he ce HNT HND2
      have HEE := Lib.hid hee
      clear hee
      have heI : (e : Int) < (N : Int) := by omega
      have hkI : (k : Int) < (pn : Int) := by omega
      have hk0 : (0 : Int) ≤ (k : Int) := by omega
      have hkc : (k : Int) ≤ (cap : Int) := by omega
      have hw1 : IntKind.i64.wrap (2 * (at_ : Int)) = 2 * (at_ : Int) := IntWalk.i64_in _ (by omega)
      have hw2 : IntKind.i64.wrap (2 * (at_ : Int) + 1) = 2 * (at_ : Int) + 1 := IntWalk.i64_in _ (by omega)
      clear hpa h0 hl0
      go_upto_region 7 with (fail)
      go_cut [] from 36 to 51 (fun w1 => ∃ (shl : Sh) (nd1 : Nat → Nd), ShL lb N dv ps k nd w w1 shl nd1)
      case first =>
        go_region_held3 (fun w' => w'.cell? ⟨pb, po + k, none⟩ = some (I64 e))
          (first | go_keep | exact hf1.cell (by simpa using hpl) ce | (rw [World.cell?_setCell_other _ _ _ _ (by intro e9; injection e9 with e1 e2; first | exact hpl e1 | exact hpl e1.symm)]; exact hf1.cell (by simpa using hpl) ce))
          (first | (go_at_call 20; (with_reducible refine HIL.out.mono ?_); rintro e1 w3 ⟨sh, nd1, rfl, hs1, hf1, hr1, hx1, hy1, hz1⟩; have cN : w3.cell? ⟨lb, e * 28 + 3, none⟩ = some (.int .i64 (nd1 e).left) := (hr1.cell he (by omega)).trans rfl; have zN := hr1.frozen (e * 28 + 3); have HX1 := Lib.hid hx1; have HY1 := Lib.hid hy1; have HS1 := Lib.hid hs1; clear hx1 hy1 hs1))
        all_goals
          have hnx : ∀ x, x ≠ e → setL nd1 e sh.top x = nd1 x := fun x hx => by unfold setL; rw [if_neg hx]
          have hne : setL nd1 e sh.top e = { nd1 e with left := sh.top } := by unfold setL; rw [if_pos rfl]
          have hsl : ShL lb N dv ps k nd w (w3.setCell ⟨lb, e * 28 + 3, none⟩ (.int .i64 sh.top)) sh (setL nd1 e sh.top) := {
            ord := HS1.out
            fr := ((Fr.refl [lb] w).drew.trans_same hf1).setCell (.inl (by simp)) _
            row := hr1.set e 3 sh.top (setL nd1 e sh.top) hnx (.inl ⟨rfl, hne⟩) he
            out := fun x h1 h2 => by rw [← HEE.out] at h2; rw [hnx x h2]; exact HX1.out x h1
            same := fun x => by
              by_cases hx : x = e
              · subst hx
                rw [hne, HY1.out x]
              · rw [hnx x hx]; exact HY1.out x
            fits := hz1.congr (fun y hy => hnx y (fun h => by subst h; rw [HS1.out] at hy; exact HNT.out hy))
            left := by rw [← HEE.out, hne] }
          have HSL := Lib.hid hsl
          clear hsl hnx hne cN zN hz1 hr1
          go_wp2_with fail
          go_meet
          case rel => exact ⟨sh, _, HSL.out⟩
      case rest =>
      clear hw1 hw2
      obtain ⟨shl, nd1, hsl⟩ := hcut
      have hfl := hsl.fr
      have hrow1 := hsl.row
      have ce1 : wc.cell? ⟨pb, po + k, none⟩ = some (I64 e) := hfl.cell (by simpa using hpl) ce
      have ihr := fun (pa' : Option Addr) (hpa' : 0 < pn - (k + 1) → pa' = some ⟨pb, po + (k + 1), none⟩) => ih (ps.drop (k + 1)) pb (po + (k + 1)) (cap - (k + 1)) (2 * at_ + 2) pa' (2 * (at_ : Int) + 2) nd1 wc.drew (by rw [HLD.out]; omega) (by omega) HAT.out (by omega) (by rw [HLD.out]; exact hpa') (by rw [HLD.out]; omega) (by omega)
        (fun i hi => by rw [HLD.out] at hi; rw [drop_at, Nat.add_assoc]; exact hfl.cell (by simpa using hpl) (HPS.out (k + 1 + i) (by omega))) HNDD.out (fun x hx => HLT.out x (List.mem_of_mem_drop hx)) (hrow1.fr ((Fr.refl [] wc).drew) (by simp)) hpl (fun i hi => hfl.cell (by simpa using hnl) (HNUMS.out i hi))
      rw [HLD.out] at ihr
      have HIR := Lib.hid ihr
      have HSL := Lib.hid hsl
      clear ihr hsl ce
      have hw3 : IntKind.i64.wrap ((k : Int) + 1) = (k : Int) + 1 := IntWalk.i64_in _ (by omega)
      have hw4 : IntKind.i64.wrap (2 * (at_ : Int)) = 2 * (at_ : Int) := IntWalk.i64_in _ (by omega)
      have hw5 : IntKind.i64.wrap (2 * (at_ : Int) + 2) = 2 * (at_ : Int) + 2 := IntWalk.i64_in _ (by omega)
      have hk1 : (0 : Int) ≤ (k : Int) + 1 := by omega
      have hk2 : (k : Int) + 1 ≤ (pn : Int) := by omega
      have hk3 : ((k : Int) + 1).toNat = k + 1 := by omega
      by_cases hck : cap = k + 1
      · subst hck
        go_upto_region 8 with (fail)
        go_cut [] from 52 to 68 (fun w1 => ∃ (shr : Sh) (nd2 : Nat → Nd), shr.order = ps.drop (k + 1) ∧ Fr [lb] wc w1 ∧ NdRow w1 lb N nd2 dv ∧ (∀ x, x ∉ ps.drop (k + 1) → x ≠ e → nd2 x = nd1 x) ∧ (∀ x, nd2 x = { nd1 x with left := (nd2 x).left, right := (nd2 x).right }) ∧ shr.Fits nd2 ∧ (nd2 e).right = shr.top ∧ (nd2 e).left = (nd1 e).left)
        case first =>
          have hir0 := HIR.out (some ⟨pb, po, none⟩) (fun h => by omega)
          have e0 : k + 1 - (k + 1) = 0 := by omega
          have e1 : pn - (k + 1) = 0 := by omega
          rw [e0, e1] at hir0
          have HIR0 := Lib.hid hir0
          clear hir0 e0 e1
          go_region_held3 (fun w' => w'.cell? ⟨pb, po + k, none⟩ = some (I64 e))
            (first | go_keep | exact hf1.cell (by simpa using hpl) ce1 | (rw [World.cell?_setCell_other _ _ _ _ (by intro e9; injection e9 with e1 e2; first | exact hpl e1 | exact hpl e1.symm)]; exact hf1.cell (by simpa using hpl) ce1))
            (first | (go_at_call 20; (with_reducible refine HIR0.out.mono ?_); rintro e1 w3 ⟨sh, nd2, rfl, hs1, hf1, hr1, hx1, hy1, hz1⟩; have cN : w3.cell? ⟨lb, e * 28 + 4, none⟩ = some (.int .i64 (nd2 e).right) := (hr1.cell he (by omega)).trans rfl; have zN := hr1.frozen (e * 28 + 4); have HX1 := Lib.hid hx1; have HY1 := Lib.hid hy1; have HS1 := Lib.hid hs1; clear hx1 hy1 hs1))
          all_goals
            have hnx : ∀ x, x ≠ e → setR nd2 e sh.top x = nd2 x := fun x hx => by unfold setR; rw [if_neg hx]
            have hne : setR nd2 e sh.top e = { nd2 e with right := sh.top } := by unfold setR; rw [if_pos rfl]
            have hfin : sh.order = ps.drop (k + 1) ∧ Fr [lb] wc (w3.setCell ⟨lb, e * 28 + 4, none⟩ (.int .i64 sh.top)) ∧ NdRow (w3.setCell ⟨lb, e * 28 + 4, none⟩ (.int .i64 sh.top)) lb N (setR nd2 e sh.top) dv ∧ (∀ x, x ∉ ps.drop (k + 1) → x ≠ e → setR nd2 e sh.top x = nd1 x) ∧
                (∀ x, setR nd2 e sh.top x = { nd1 x with left := (setR nd2 e sh.top x).left, right := (setR nd2 e sh.top x).right }) ∧ sh.Fits (setR nd2 e sh.top) ∧ (setR nd2 e sh.top e).right = sh.top ∧ (setR nd2 e sh.top e).left = (nd1 e).left := by
              refine ⟨HS1.out, ((Fr.refl [lb] wc).drew.trans_same hf1).setCell (.inl (by simp)) _, hr1.set e 4 sh.top _ hnx (.inr (.inl ⟨rfl, hne⟩)) he, fun x h1 h2 => by rw [hnx x h2]; exact HX1.out x h1, fun x => ?_, hz1.congr (fun y hy => hnx y (fun h => by subst h; rw [HS1.out] at hy; exact HND2.out hy)), by rw [hne], by rw [hne]; show (nd2 e).left = _; rw [HX1.out e HND2.out]⟩
              by_cases hx : x = e
              · subst hx
                rw [hne, HY1.out x]
              · rw [hnx x hx]; exact HY1.out x
            have HFIN := Lib.hid hfin
            clear hfin hnx hne cN zN hz1 hr1
            go_wp2_with fail
            go_meet
            case rel => exact ⟨sh, _, HFIN.out⟩
        case rest =>
        clear hw3 hw4 hw5 hk3
        obtain ⟨shr, nd2, h1, h2, h3, h4, h5, h6, h7, h8⟩ := hcut
        have hsl := HSL.out
        have ce2 : wc.cell? ⟨pb, po + k, none⟩ = some (I64 e) := h2.cell (by simpa using hpl) ce1
        have hdis := HDIS.out
        have hfin : ∃ (sh : Sh) (nd' : Nat → Nd), (I64 e) = .int .i64 sh.top ∧ sh.order = ps ∧ Fr [lb] w wc ∧ NdRow wc lb N nd' dv ∧ (∀ e, e ∉ ps → nd' e = nd e) ∧ (∀ e, nd' e = { nd e with left := (nd' e).left, right := (nd' e).right }) ∧ sh.Fits nd' := by
          have hmem : ∀ x, x ∉ ps → x ∉ ps.take k ∧ x ∉ ps.drop (k + 1) ∧ x ≠ e := by
            intro x hx
            refine ⟨fun h => hx (List.mem_of_mem_take h), fun h => hx (List.mem_of_mem_drop h), fun h => hx ?_⟩
            rw [h, HEE.out]
            exact getD_mem ps k (by rw [HPN.out]; exact hk)
          refine ⟨.node e shl shr, nd2, rfl, ?_, hsl.fr.trans_same h2, h3, ?_, ?_, ?_⟩
          · rw [Sh.order, hsl.ord, h1, HEE.out]; exact HLIST.out.symm
          · intro x hx
            obtain ⟨m1, m2, m3⟩ := hmem x hx
            rw [h4 x m2 m3]
            exact hsl.out x m1 (by rw [← HEE.out]; exact m3)
          · intro x
            rw [h5 x, hsl.same x]
          · refine ⟨?_, h7, hsl.fits.congr (fun y hy => ?_), h6⟩
            · rw [h8]
              have := hsl.left
              rw [← HEE.out] at this
              exact this
            · rw [hsl.ord] at hy
              exact h4 y (hdis y hy) (fun h => by subst h; exact HNT.out hy)
        have HFIN := Lib.hid hfin
        clear hfin hsl hdis h1 h2 h3 h4 h5 h6 h7 h8 ce1 hrow1 hfl
        go_wp2_with fail
        go_ret
        obtain ⟨sh, nd', g1, g2⟩ := HFIN.out
        exact ⟨sh, nd', by rw [← g1]; rfl, g2⟩
      · skip
        go_upto_region 8 with (fail)
        go_cut [] from 52 to 68 (fun w1 => ∃ (shr : Sh) (nd2 : Nat → Nd), shr.order = ps.drop (k + 1) ∧ Fr [lb] wc w1 ∧ NdRow w1 lb N nd2 dv ∧ (∀ x, x ∉ ps.drop (k + 1) → x ≠ e → nd2 x = nd1 x) ∧ (∀ x, nd2 x = { nd1 x with left := (nd2 x).left, right := (nd2 x).right }) ∧ shr.Fits nd2 ∧ (nd2 e).right = shr.top ∧ (nd2 e).left = (nd1 e).left)
        case first =>
          have HIR0 := Lib.hid (HIR.out (some ⟨pb, po + (k + 1), none⟩) (fun _ => rfl))
          have hk4 : (k : Int) + 1 ≤ (cap : Int) := by omega
          go_region_held3 (fun w' => w'.cell? ⟨pb, po + k, none⟩ = some (I64 e))
            (first | go_keep | exact hf1.cell (by simpa using hpl) ce1 | (rw [World.cell?_setCell_other _ _ _ _ (by intro e9; injection e9 with e1 e2; first | exact hpl e1 | exact hpl e1.symm)]; exact hf1.cell (by simpa using hpl) ce1))
            (first | (go_at_call 20; (with_reducible refine HIR0.out.mono ?_); rintro e1 w3 ⟨sh, nd2, rfl, hs1, hf1, hr1, hx1, hy1, hz1⟩; have cN : w3.cell? ⟨lb, e * 28 + 4, none⟩ = some (.int .i64 (nd2 e).right) := (hr1.cell he (by omega)).trans rfl; have zN := hr1.frozen (e * 28 + 4); have HX1 := Lib.hid hx1; have HY1 := Lib.hid hy1; have HS1 := Lib.hid hs1; clear hx1 hy1 hs1))
          all_goals
            have hnx : ∀ x, x ≠ e → setR nd2 e sh.top x = nd2 x := fun x hx => by unfold setR; rw [if_neg hx]
            have hne : setR nd2 e sh.top e = { nd2 e with right := sh.top } := by unfold setR; rw [if_pos rfl]
            have hfin : sh.order = ps.drop (k + 1) ∧ Fr [lb] wc (w3.setCell ⟨lb, e * 28 + 4, none⟩ (.int .i64 sh.top)) ∧ NdRow (w3.setCell ⟨lb, e * 28 + 4, none⟩ (.int .i64 sh.top)) lb N (setR nd2 e sh.top) dv ∧ (∀ x, x ∉ ps.drop (k + 1) → x ≠ e → setR nd2 e sh.top x = nd1 x) ∧
                (∀ x, setR nd2 e sh.top x = { nd1 x with left := (setR nd2 e sh.top x).left, right := (setR nd2 e sh.top x).right }) ∧ sh.Fits (setR nd2 e sh.top) ∧ (setR nd2 e sh.top e).right = sh.top ∧ (setR nd2 e sh.top e).left = (nd1 e).left := by
              refine ⟨HS1.out, ((Fr.refl [lb] wc).drew.trans_same hf1).setCell (.inl (by simp)) _, hr1.set e 4 sh.top _ hnx (.inr (.inl ⟨rfl, hne⟩)) he, fun x h1 h2 => by rw [hnx x h2]; exact HX1.out x h1, fun x => ?_, hz1.congr (fun y hy => hnx y (fun h => by subst h; rw [HS1.out] at hy; exact HND2.out hy)), by rw [hne], by rw [hne]; show (nd2 e).left = _; rw [HX1.out e HND2.out]⟩
              by_cases hx : x = e
              · subst hx
                rw [hne, HY1.out x]
              · rw [hnx x hx]; exact HY1.out x
            have HFIN := Lib.hid hfin
            clear hfin hnx hne cN zN hz1 hr1
            go_wp2_with fail
            go_meet
            case rel => exact ⟨sh, _, HFIN.out⟩
        case rest =>
        clear hw3 hw4 hw5 hk3
        obtain ⟨shr, nd2, h1, h2, h3, h4, h5, h6, h7, h8⟩ := hcut
        have hsl := HSL.out
        have ce2 : wc.cell? ⟨pb, po + k, none⟩ = some (I64 e) := h2.cell (by simpa using hpl) ce1
        have hdis := HDIS.out
        have hfin : ∃ (sh : Sh) (nd' : Nat → Nd), (I64 e) = .int .i64 sh.top ∧ sh.order = ps ∧ Fr [lb] w wc ∧ NdRow wc lb N nd' dv ∧ (∀ e, e ∉ ps → nd' e = nd e) ∧ (∀ e, nd' e = { nd e with left := (nd' e).left, right := (nd' e).right }) ∧ sh.Fits nd' := by
          have hmem : ∀ x, x ∉ ps → x ∉ ps.take k ∧ x ∉ ps.drop (k + 1) ∧ x ≠ e := by
            intro x hx
            refine ⟨fun h => hx (List.mem_of_mem_take h), fun h => hx (List.mem_of_mem_drop h), fun h => hx ?_⟩
            rw [h, HEE.out]
            exact getD_mem ps k (by rw [HPN.out]; exact hk)
          refine ⟨.node e shl shr, nd2, rfl, ?_, hsl.fr.trans_same h2, h3, ?_, ?_, ?_⟩
          · rw [Sh.order, hsl.ord, h1, HEE.out]; exact HLIST.out.symm
          · intro x hx
            obtain ⟨m1, m2, m3⟩ := hmem x hx
            rw [h4 x m2 m3]
            exact hsl.out x m1 (by rw [← HEE.out]; exact m3)
          · intro x
            rw [h5 x, hsl.same x]
          · refine ⟨?_, h7, hsl.fits.congr (fun y hy => ?_), h6⟩
            · rw [h8]
              have := hsl.left
              rw [← HEE.out] at this
              exact this
            · rw [hsl.ord] at hy
              exact h4 y (hdis y hy) (fun h => by subst h; exact HNT.out hy)
        have HFIN := Lib.hid hfin
        clear hfin hsl hdis h1 h2 h3 h4 h5 h6 h7 h8 ce1 hrow1 hfl
        go_wp2_with fail
        go_ret
        obtain ⟨sh, nd', g1, g2⟩ := HFIN.out
        exact ⟨sh, nd', by rw [← g1]; rfl, g2⟩
end Go.Proofs.YtokpomdfgbbhlaaDoor

/- A node for each number; the tree that hangs from the root. No program here. -/
namespace Go.Proofs.YtokpomdfgbbhlaaDoor
open Go Go.RowKit

/-- Each node of a tree of places gets its own children. -/
def hang (f : Nat → NT) : Sh → NT
  | .nil => .nil
  | .node e l r => .node e (hang f l) (f e) (hang f r)
/-- What hangs below a node. -/
def hungBelow (sh : Nat → Sh) : Nat → Nat → NT
  | 0, _ => .nil
  | fuel + 1, k => hang (hungBelow sh fuel) (sh k)

theorem hang_mem (f : Nat → NT) : ∀ (t : Sh) (x : Nat), x ∈ (hang f t).order → ∃ e, e ∈ t.order ∧ (x = e ∨ x ∈ (f e).order)
  | .nil, x, h => by simp [hang, NT.order] at h
  | .node e l r, x, h => by
    simp only [hang, NT.order, List.mem_append, List.mem_cons] at h
    rcases h with h | h | h | h
    · obtain ⟨y, h1, h2⟩ := hang_mem f l x h
      exact ⟨y, by simp [Sh.order, h1], h2⟩
    · exact ⟨e, by simp [Sh.order], .inl h⟩
    · exact ⟨e, by simp [Sh.order], .inr h⟩
    · obtain ⟨y, h1, h2⟩ := hang_mem f r x h
      exact ⟨y, by simp [Sh.order, h1], h2⟩

theorem hang_fits (nd : Nat → Nd) (f : Nat → NT) : ∀ (t : Sh), t.Fits nd → (∀ e, e ∈ t.order → (f e).Fits nd (nd e).child) → (hang f t).Fits nd t.top
  | .nil, _, _ => rfl
  | .node e l r, ⟨h1, h2, h3, h4⟩, hf => by
    refine ⟨rfl, ?_, hf e (by simp [Sh.order]), ?_⟩
    · rw [h1]; exact hang_fits nd f l h3 (fun y hy => hf y (by simp [Sh.order, hy]))
    · rw [h2]; exact hang_fits nd f r h4 (fun y hy => hf y (by simp [Sh.order, hy]))

theorem hang_nodup (f : Nat → NT) : ∀ (t : Sh), t.order.Nodup → (∀ e, e ∈ t.order → (f e).order.Nodup) → (∀ e, e ∈ t.order → e ∉ (f e).order) →
    (∀ e e' x, e ∈ t.order → e' ∈ t.order → (x = e ∨ x ∈ (f e).order) → (x = e' ∨ x ∈ (f e').order) → e = e') → (hang f t).order.Nodup
  | .nil, _, _, _, _ => by simp [hang, NT.order]
  | .node e l r, hn, hf, hs, hd => by
    have hl : (hang f l).order.Nodup := hang_nodup f l (by rw [Sh.order] at hn; exact (List.nodup_append.1 hn).1) (fun y hy => hf y (by simp [Sh.order, hy])) (fun y hy => hs y (by simp [Sh.order, hy]))
      (fun a b x ha hb => hd a b x (by simp [Sh.order, ha]) (by simp [Sh.order, hb]))
    have hr : (hang f r).order.Nodup := hang_nodup f r (by rw [Sh.order] at hn; exact (List.nodup_cons.1 (List.nodup_append.1 hn).2.1).2) (fun y hy => hf y (by simp [Sh.order, hy])) (fun y hy => hs y (by simp [Sh.order, hy]))
      (fun a b x ha hb => hd a b x (by simp [Sh.order, ha]) (by simp [Sh.order, hb]))
    have hnl : e ∉ l.order := by
      rw [Sh.order] at hn
      intro h
      exact (List.nodup_append.1 hn).2.2 e h e (List.mem_cons_self) rfl
    have hnr : e ∉ r.order := by
      rw [Sh.order] at hn
      exact (List.nodup_cons.1 (List.nodup_append.1 hn).2.1).1
    have hlr : ∀ y, y ∈ l.order → y ∉ r.order := by
      rw [Sh.order] at hn
      intro y h1 h2
      exact (List.nodup_append.1 hn).2.2 y h1 y (List.mem_cons_of_mem _ h2) rfl
    have me : e ∈ (Sh.node e l r).order := by simp [Sh.order]
    have ml : ∀ y, y ∈ l.order → y ∈ (Sh.node e l r).order := fun y hy => by simp [Sh.order, hy]
    have mr : ∀ y, y ∈ r.order → y ∈ (Sh.node e l r).order := fun y hy => by simp [Sh.order, hy]
    rw [hang, NT.order, List.nodup_append]
    refine ⟨hl, ?_, ?_⟩
    · rw [List.nodup_cons]
      refine ⟨?_, ?_⟩
      · intro h
        rcases List.mem_append.1 h with h | h
        · exact hs e me h
        · obtain ⟨y, h1, h2⟩ := hang_mem f r e h
          exact hnr (by rw [hd e y e me (mr y h1) (.inl rfl) h2]; exact h1)
      · rw [List.nodup_append]
        refine ⟨hf e me, hr, ?_⟩
        rintro a ha b hb rfl
        obtain ⟨y, h1, h2⟩ := hang_mem f r a hb
        exact hnr (by rw [hd e y a me (mr y h1) (.inr ha) h2]; exact h1)
    · rintro a ha b hb rfl
      obtain ⟨y, h1, h2⟩ := hang_mem f l a ha
      rcases List.mem_cons.1 hb with h | h
      · exact hnl (by rw [hd e y a me (ml y h1) (.inl h) h2]; exact h1)
      rcases List.mem_append.1 h with h | h
      · exact hnl (by rw [hd e y a me (ml y h1) (.inr h) h2]; exact h1)
      · obtain ⟨z, h3, h4⟩ := hang_mem f r a h
        have := hd y z a (ml y h1) (mr z h3) h2 h4
        exact hlr y h1 (by rw [this]; exact h3)

def parIt (par : Nat → Nat) : Nat → Nat → Nat
  | 0, x => x
  | i + 1, x => par (parIt par i x)
theorem parIt_add (par : Nat → Nat) (i j x : Nat) : parIt par (i + j) x = parIt par i (parIt par j x) := by
  induction i with
  | zero => rw [Nat.zero_add]; rfl
  | succ i ih => rw [Nat.succ_add, parIt, parIt, ih]
theorem parIt_le (par : Nat → Nat) (h : ∀ x, par x ≤ x) (i x : Nat) : parIt par i x ≤ x := by
  induction i with
  | zero => exact Nat.le_refl _
  | succ i ih => exact Nat.le_trans (h _) ih

/-- Where the nodes stand: e in the row of its parent. -/
structure Forest (n : Nat) (sh : Nat → Sh) (par : Nat → Nat) : Prop where
  mem : ∀ i, i < n → ∀ e, e ∈ (sh i).order → i < e ∧ e < n ∧ par e = i
  nodup : ∀ i, i < n → (sh i).order.Nodup
  le : ∀ x, par x ≤ x
  all : ∀ x, 1 ≤ x → x < n → par x < x ∧ x ∈ (sh (par x)).order

theorem mem_hang (f : Nat → NT) : ∀ (t : Sh) (x e : Nat), e ∈ t.order → (x = e ∨ x ∈ (f e).order) → x ∈ (hang f t).order
  | .nil, x, e, he, _ => by simp [Sh.order] at he
  | .node a l r, x, e, he, hx => by
    simp only [hang, NT.order, List.mem_append, List.mem_cons]
    simp only [Sh.order, List.mem_append, List.mem_cons] at he
    rcases he with he | rfl | he
    · exact .inl (mem_hang f l x e he hx)
    · rcases hx with rfl | hx
      · exact .inr (.inl rfl)
      · exact .inr (.inr (.inl hx))
    · exact .inr (.inr (.inr (mem_hang f r x e he hx)))

theorem Forest.anc {n : Nat} {sh : Nat → Sh} {par : Nat → Nat} (h : Forest n sh par) : ∀ (fuel k x : Nat), k < n → x ∈ (hungBelow sh fuel k).order → ∃ i, parIt par i x = k ∧ k < x ∧ x < n
  | 0, k, x, hk, hx => by simp [hungBelow, NT.order] at hx
  | fuel + 1, k, x, hk, hx => by
    obtain ⟨e, h1, h2⟩ := hang_mem _ _ _ hx
    obtain ⟨a1, a2, a3⟩ := h.mem k hk e h1
    rcases h2 with rfl | h2
    · exact ⟨1, a3, a1, a2⟩
    · obtain ⟨i, b1, b2, b3⟩ := h.anc fuel e x a2 h2
      exact ⟨i + 1, by rw [parIt, b1, a3], by omega, b3⟩
theorem Forest.below_nodup {n : Nat} {sh : Nat → Sh} {par : Nat → Nat} (h : Forest n sh par) : ∀ (fuel k : Nat), k < n → (hungBelow sh fuel k).order.Nodup
  | 0, k, hk => by simp [hungBelow, NT.order]
  | fuel + 1, k, hk => by
    have key : ∀ e x, e ∈ (sh k).order → (x = e ∨ x ∈ (hungBelow sh fuel e).order) → ∃ i, parIt par i x = e := by
      intro e x he hx
      rcases hx with rfl | hx
      · exact ⟨0, rfl⟩
      · obtain ⟨i, b1, _⟩ := h.anc fuel e x (h.mem k hk e he).2.1 hx
        exact ⟨i, b1⟩
    have no : ∀ e e' x i j, e ∈ (sh k).order → e' ∈ (sh k).order → parIt par i x = e → parIt par (j + (i + 1)) x = e' → False := by
      intro e e' x i j he he' h1 h2
      rw [parIt_add, parIt, h1, (h.mem k hk e he).2.2] at h2
      have := parIt_le par h.le j k
      have := (h.mem k hk e' he').1
      omega
    refine hang_nodup _ _ (h.nodup k hk) (fun e he => h.below_nodup fuel e (h.mem k hk e he).2.1) ?_ ?_
    · intro e he hx
      obtain ⟨i, _, b2, _⟩ := h.anc fuel e e (h.mem k hk e he).2.1 hx
      omega
    · intro e e' x he he' h1 h2
      obtain ⟨i, hi⟩ := key e x he h1
      obtain ⟨j, hj⟩ := key e' x he' h2
      rcases Nat.lt_trichotomy i j with hij | hij | hij
      · exact absurd (no e e' x i (j - (i + 1)) he he' hi (by rw [Nat.sub_add_cancel (by omega)]; exact hj)) id
      · subst hij; rw [← hi, hj]
      · exact absurd (no e' e x j (i - (j + 1)) he' he hj (by rw [Nat.sub_add_cancel (by omega)]; exact hi)) id
theorem Forest.below_fits {n : Nat} {sh : Nat → Sh} {par : Nat → Nat} (h : Forest n sh par) (nd : Nat → Nd) (hf : ∀ i, i < n → (sh i).Fits nd) (hc : ∀ i, i < n → (nd i).child = (sh i).top) :
    ∀ (fuel k : Nat), k < n → n ≤ k + fuel → (hungBelow sh fuel k).Fits nd (nd k).child
  | 0, k, hk, hn => by omega
  | fuel + 1, k, hk, hn => by
    rw [hc k hk]
    exact hang_fits nd _ _ (hf k hk) (fun e he => h.below_fits nd hf hc fuel e (h.mem k hk e he).2.1 (by have := (h.mem k hk e he).1; omega))
/-- The whole tree. -/
def wholeT (sh : Nat → Sh) (n : Nat) : NT := .node 0 .nil (hungBelow sh n 0) .nil

/-- A tree of nodes as a file's directory needs it. -/
structure TreeOK (n : Nat) (nd : Nat → Nd) (t : NT) : Prop where
  ne : t ≠ .nil
  fits : t.Fits nd 0
  nodup : t.order.Nodup
  lt : ∀ e, e ∈ t.order → e < n
  le : t.order.length ≤ n
  all : ∀ e, e < n → e ∈ t.order
  len : t.order.length = n
  head : ∃ os, t.order = 0 :: os

theorem nodup_le : ∀ (n : Nat) {l : List Nat}, l.Nodup → (∀ e, e ∈ l → e < n) → l.length ≤ n
  | 0, l, _, hl => by
    cases l with
    | nil => simp
    | cons a l => exact absurd (hl a (by simp)) (by omega)
  | n + 1, l, h, hl => by
    have h1 := nodup_le n (h.erase n) (fun e he => by
      have h2 := hl e (List.mem_of_mem_erase he)
      have h3 : e ≠ n := ((List.Nodup.mem_erase_iff h).1 he).1
      omega)
    have h2 := List.length_erase (a := n) (l := l)
    by_cases hm : n ∈ l
    · rw [if_pos hm] at h2; omega
    · rw [if_neg hm] at h2; omega
theorem all_ge : ∀ (n : Nat) {l : List Nat}, (∀ e, e < n → e ∈ l) → n ≤ l.length
  | 0, l, _ => by omega
  | n + 1, l, h => by
    have h1 := all_ge n (l := l.erase n) (fun e he => (List.mem_erase_of_ne (by omega)).2 (h e (by omega)))
    have h2 := List.length_erase (a := n) (l := l)
    rw [if_pos (h n (by omega))] at h2
    have h3 := List.length_pos_of_mem (h n (by omega))
    omega
theorem Forest.closed {n : Nat} {sh : Nat → Sh} {par : Nat → Nat} (h : Forest n sh par) : ∀ (fuel k x e : Nat), k < n → n ≤ k + fuel → x ∈ (hungBelow sh fuel k).order → e ∈ (sh x).order → e ∈ (hungBelow sh fuel k).order
  | 0, k, x, e, hk, hn, _, _ => by omega
  | fuel + 1, k, x, e, hk, hn, hx, he => by
    obtain ⟨y, h1, h2⟩ := hang_mem _ _ _ hx
    obtain ⟨a1, a2, a3⟩ := h.mem k hk y h1
    refine mem_hang _ _ _ y h1 (.inr ?_)
    rcases h2 with rfl | h2
    · obtain ⟨f, rfl⟩ : ∃ f, fuel = f + 1 := ⟨fuel - 1, by omega⟩
      exact mem_hang _ _ _ e he (.inl rfl)
    · exact h.closed fuel y x e a2 (by omega) h2 he
theorem Forest.every {n : Nat} {sh : Nat → Sh} {par : Nat → Nat} (h : Forest n sh par) (hn : 1 ≤ n) (x : Nat) : 1 ≤ x → x < n → x ∈ (hungBelow sh n 0).order := by
  induction x using Nat.strongRecOn with
  | _ x ih =>
    intro h1 h2
    obtain ⟨a, b⟩ := h.all x h1 h2
    obtain ⟨m, rfl⟩ : ∃ m, n = m + 1 := ⟨n - 1, by omega⟩
    by_cases h0 : par x = 0
    · rw [h0] at b
      exact mem_hang _ _ _ x b (.inl rfl)
    · exact h.closed _ 0 (par x) x (by omega) (by omega) (ih (par x) a (by omega) (by omega)) b
theorem Forest.tree {n : Nat} {sh : Nat → Sh} {par : Nat → Nat} (h : Forest n sh par) (nd : Nat → Nd) (hf : ∀ i, i < n → (sh i).Fits nd) (hc : ∀ i, i < n → (nd i).child = (sh i).top) (hn : 1 ≤ n) (hl : (nd 0).left = -1) (hr : (nd 0).right = -1) :
    TreeOK n nd (wholeT sh n) := by
  have ho : (wholeT sh n).order = 0 :: (hungBelow sh n 0).order := by simp [wholeT, NT.order]
  have hlt : ∀ e, e ∈ (wholeT sh n).order → e < n := by
    intro e he
    rw [ho] at he
    rcases List.mem_cons.1 he with rfl | he
    · omega
    · exact (h.anc n 0 e (by omega) he).choose_spec.2.2
  have hnd : (wholeT sh n).order.Nodup := by
    rw [ho, List.nodup_cons]
    refine ⟨fun hx => ?_, h.below_nodup n 0 (by omega)⟩
    have := (h.anc n 0 0 (by omega) hx).choose_spec.2.1
    omega
  have hall : ∀ e, e < n → e ∈ (wholeT sh n).order := by
    intro e he
    rw [ho]
    by_cases h0 : e = 0
    · subst h0; exact List.mem_cons_self
    · exact List.mem_cons_of_mem _ (h.every hn e (by omega) he)
  exact { head := ⟨_, ho⟩, all := hall, len := Nat.le_antisymm (nodup_le _ hnd hlt) (all_ge n hall), ne := by simp [wholeT], fits := ⟨rfl, hl, h.below_fits nd hf hc n 0 (by omega) (by omega), hr⟩, nodup := hnd, lt := hlt, le := nodup_le _ hnd hlt }
end Go.Proofs.YtokpomdfgbbhlaaDoor

/- What nodesOf holds while it lays node after node. -/
namespace Go.Proofs.YtokpomdfgbbhlaaDoor
open Go Go.RowKit

/-- What nodesOf gives each node. -/
structure NdOK (x : Nd) : Prop where
  len : x.len ≤ 9000
  nm1 : 1 ≤ x.name.size
  nm2 : x.name.size ≤ 10
  nmc : ∀ j, (x.name.data.toList.getD j 0).toNat < 128
  nm0 : 65 ≤ (x.name.data.toList.getD 0 0).toNat ∧ (x.name.data.toList.getD 0 0).toNat ≤ 90
  left : x.left = -1
  right : x.right = -1
  child : x.child = -1
  cr : x.cr < 18446744073709551616
  md : x.md < 18446744073709551616
  emp : x.stream = false → x.len = 0

/-- The cells of n nodes. -/
def ndRow (n : Nat) (nd : Nat → Nd) (dv : Nat → Value) : List Value := (List.range n).flatMap (fun i => ndCells (nd i) (dv i))
def insI {α : Type} (n : Nat) (f : Nat → α) (x : α) : Nat → α := fun i => if i = n then x else f i
theorem insI_self {α : Type} (n : Nat) (f : Nat → α) (x : α) : insI n f x n = x := by unfold insI; rw [if_pos rfl]
theorem insI_ne {α : Type} (n : Nat) (f : Nat → α) (x : α) (i : Nat) (h : i ≠ n) : insI n f x i = f i := by unfold insI; rw [if_neg h]
theorem ndRow_snoc (n : Nat) (nd : Nat → Nd) (dv : Nat → Value) (x : Nd) (v : Value) : ndRow n nd dv ++ ndCells x v = ndRow (n + 1) (insI n nd x) (insI n dv v) := by
  unfold ndRow
  rw [List.range_succ, List.flatMap_append]
  congr 1
  · rw [List.flatMap_def, List.flatMap_def]
    congr 1
    apply List.map_congr_left
    intro i hi
    have := List.mem_range.1 hi
    rw [insI_ne _ _ _ _ (by omega), insI_ne _ _ _ _ (by omega)]
  · simp [insI_self]
theorem ndRow_get (n : Nat) (nd : Nat → Nd) (dv : Nat → Value) (k j : Nat) (hk : k < n) (hj : j < 28) : (ndRow n nd dv)[k * 28 + j]? = (ndCells (nd k) (dv k))[j]? := by
  induction n with
  | zero => omega
  | succ n ih =>
    have hl : ∀ m, (ndRow m nd dv).length = m * 28 := by
      intro m
      induction m with
      | zero => rfl
      | succ m ih2 => 
        have : ndRow (m + 1) nd dv = ndRow m nd dv ++ ndCells (nd m) (dv m) := by unfold ndRow; rw [List.range_succ, List.flatMap_append]; simp
        rw [this, List.length_append, ih2, ndCells_length]; omega
    have : ndRow (n + 1) nd dv = ndRow n nd dv ++ ndCells (nd n) (dv n) := by unfold ndRow; rw [List.range_succ, List.flatMap_append]; simp
    rw [this]
    by_cases h : k < n
    · rw [List.getElem?_append_left (by rw [hl]; omega)]; exact ih h
    · obtain rfl : k = n := by omega
      rw [List.getElem?_append_right (by rw [hl]; omega), hl]
      congr 1; omega

/-- What nodesOf holds while it lays node after node. -/
structure NInv (base : Nat) (w : World) (n : Nat) (v5 v6 : Value) (nd : Nat → Nd) (dv bv : Nat → Value) (B : Nat → List Nat) (par : Nat → Nat) : Prop where
  row : w.ownsRow base 42 28 v5 n (ndRow n nd dv)
  bel : w.ownsRow base 31 1 v6 n (tab n bv)
  bs : ∀ i, i < n → w.ownsRow base 3 1 (bv i) (B i).length ((B i).map (fun e => I64 e))
  dis : ∀ i j, i < n → j < n → i ≠ j → ∀ g, (bv i).ownBlock = some g → (bv j).ownBlock ≠ some g
  dat : ∀ i, i < n → DatIs w (nd i) (dv i)
  ok : ∀ i, i < n → NdOK (nd i)
  root : (nd 0).stream = false
  mem : ∀ i, i < n → ∀ e, e ∈ B i → i < e ∧ e < n ∧ par e = i
  nodup : ∀ i, i < n → (B i).Nodup
  le : ∀ x, par x ≤ x
  all : ∀ x, 1 ≤ x → x < n → par x < x ∧ x ∈ B (par x)

theorem NInv.fr {base n : Nat} {w w' : World} {v5 v6 : Value} {nd : Nat → Nd} {dv bv : Nat → Value} {B : Nat → List Nat} {par : Nat → Nat} (h : NInv base w n v5 v6 nd dv bv B par) (f : Fr [] w w') : NInv base w' n v5 v6 nd dv bv B par :=
  { h with
    row := own_fr h.row f (by simp)
    bel := own_fr h.bel f (by simp)
    bs := fun i hi => own_fr (h.bs i hi) f (by simp)
    dat := fun i hi => by
      obtain ⟨a, cap, h1, h2, h3, h4⟩ := h.dat i hi
      refine ⟨a, cap, h1, h2, h3, fun hl => ?_⟩
      obtain ⟨b, o, e, l, hb, hg⟩ := h4 hl
      exact ⟨b, o, e, l, hb.fr0 f, hg⟩ }

def rootNd : Nd := ⟨⟨#[82, 111, 111, 116, 32, 69, 110, 116, 114, 121]⟩, false, 0, fun _ => 0, -1, -1, -1, fun _ => 0, fun _ => 0, 0, 0⟩


def newCells (name : ByteArray) (st : Bool) (cr md : Int) : Array Value := #[.string name, .bool st, .slice none 0 0, .int .i64 (-1), .int .i64 (-1), .int .i64 (-1), .int .u8 0, .int .u8 0, .int .u8 0, .int .u8 0, .int .u8 0, .int .u8 0, .int .u8 0, .int .u8 0,
  .int .u8 0, .int .u8 0, .int .u8 0, .int .u8 0, .int .u8 0, .int .u8 0, .int .u8 0, .int .u8 0, .int .u8 0, .int .u8 0, .int .u8 0, .int .u8 0, .int .u64 cr, .int .u64 md]
theorem newCells_one (name : ByteArray) (st : Bool) (cr md : Int) : (newCells name st cr md).all (·.oneCell') = true := by
  have := all_oneCell_toArray (cs := (newCells name st cr md).toList) (fun v hv => by
    simp only [newCells, List.mem_cons, List.not_mem_nil, or_false] at hv
    repeat (rcases hv with rfl | hv; · rfl))
  rwa [Array.toArray_toList] at this
theorem newCells_nd (name : ByteArray) (st : Bool) (cr md : Int) (h1 : 0 ≤ cr) (h2 : 0 ≤ md) : (newCells name st cr md).toList = ndCells ⟨name, st, 0, fun _ => 0, -1, -1, -1, fun _ => 0, fun _ => 0, cr.toNat, md.toNat⟩ (.slice none 0 0) := by
  simp only [ndCells, Int.toNat_of_nonneg h1, Int.toNat_of_nonneg h2]
  rfl
theorem u8_any (z : Int) (h0 : 0 ≤ z) (h1 : z < 256) : ∃ b : UInt8, Value.int .u8 z = U8 b := by
  refine ⟨UInt8.ofNat z.toNat, ?_⟩
  unfold U8
  have : ((UInt8.ofNat z.toNat).toNat : Int) = z := by simp; omega
  rw [this]
theorem nd_setCls (X : Nd) (dv : Value) (j : Nat) (b : UInt8) (hj : j < 16) : (ndCells X dv).set (6 + j) (U8 b) = ndCells { X with cls := fun i => if i = j then b else X.cls i } dv := by
  have h : (tab 16 (fun i => U8 (X.cls i))).set j (U8 b) = tab 16 (fun i => U8 (if i = j then b else X.cls i)) := by
    rw [tab_set]
    exact tab_congr (fun i _ => by split <;> rfl)
  unfold ndCells
  rw [← h]
  rcases j with _|_|_|_|_|_|_|_|_|_|_|_|_|_|_|_|j <;> first | omega | rfl
theorem nd_setSts (X : Nd) (dv : Value) (j : Nat) (b : UInt8) (hj : j < 4) : (ndCells X dv).set (22 + j) (U8 b) = ndCells { X with sts := fun i => if i = j then b else X.sts i } dv := by
  have h : (tab 4 (fun i => U8 (X.sts i))).set j (U8 b) = tab 4 (fun i => U8 (if i = j then b else X.sts i)) := by
    rw [tab_set]
    exact tab_congr (fun i _ => by split <;> rfl)
  unfold ndCells
  rw [← h]
  rcases j with _|_|_|_|j <;> first | omega | rfl
/-- The new node on its way: a block of its own. -/
def XBlk (w0 w : World) (b : Nat) (X : Nd) : Prop := w0.heap.size ≤ b ∧ Fr [] w0 w ∧ Blk w b 42 (ndCells X (.slice none 0 0)) ∧ NdOK X ∧ X.len = 0
/-- The new node with its bytes. -/
structure XDone (w0 w : World) (b : Nat) (X : Nd) (dx : Value) : Prop where
  ge : w0.heap.size ≤ b
  fr : Fr [] w0 w
  blk : Blk w b 42 (ndCells X dx)
  ok : NdOK X
  dat : DatIs w X dx
theorem XBlk.done {w0 w : World} {b : Nat} {X : Nd} (h : XBlk w0 w b X) : XDone w0 w b X (.slice none 0 0) :=
  ⟨h.1, h.2.1, h.2.2.1, h.2.2.2.1, ⟨none, 0, by rw [h.2.2.2.2], by have := h.2.2.2.2; omega, by omega, fun h2 => by have := h.2.2.2.2; omega⟩⟩
/-- What the loop of bytes holds. -/
def XLoop (w0 w1 w : World) (b : Nat) (X : Nd) (j : Nat) : Prop :=
  ∃ (g : Nat → UInt8) (dx : Value), w0.heap.size ≤ b ∧ b < w1.heap.size ∧ Fr [] w0 w ∧ w1.heap.size ≤ w.heap.size ∧ Blk w b 42 (ndCells { X with len := j, dat := g } dx) ∧ w.ownsRow w1.heap.size 5 1 dx j (tab j (fun i => U8 (g i)))
theorem XLoop.done {w0 w1 w : World} {b : Nat} {X : Nd} {j : Nat} (h : XLoop w0 w1 w b X j) (hX : NdOK X) (hs : X.stream = true) (hj : j ≤ 9000) : ∃ X' dx, XDone w0 w b X' dx := by
  obtain ⟨g, dx, h1, h2, h3, h4, h5, h6⟩ := h
  refine ⟨{ X with len := j, dat := g }, dx, h1, h3, h5, { hX with len := hj, emp := fun he => by rw [show Nd.stream { X with len := j, dat := g } = X.stream from rfl, hs] at he; cases he }, ?_⟩
  by_cases h0 : 1 ≤ j
  · obtain ⟨c, cap, l, e1, e2, e3, e4, e5, e6⟩ := own_blk2 h6 h0
    exact ⟨_, cap, e1, e5, e6, fun _ => ⟨c, 0, rfl, l, e3, fun i hi => by rw [Nat.zero_add]; exact e4 i hi⟩⟩
  · obtain rfl : j = 0 := by omega
    obtain ⟨a, c, rfl⟩ := own_slice h6
    refine ⟨a, c, rfl, by show 0 ≤ c; omega, ?_, fun h => absurd h (by show ¬ 0 < 0; omega)⟩
    rcases h6.2 with ⟨e, _⟩ | ⟨b', cap', cur, e, _, _, _, e4, _⟩
    · cases e; omega
    · cases e; simpa [maxLen] using e4
theorem XBlk.cls {w0 w : World} {b : Nat} {X : Nd} (h : XBlk w0 w b X) (j : Nat) (hj : j < 16) (z : Int) (h0 : 0 ≤ z) (h1 : z < 256) : ∃ X', XBlk w0 (w.setCell ⟨b, 6 + j, none⟩ (.int .u8 z)) b X' := by
  obtain ⟨y, hy⟩ := u8_any z h0 h1
  obtain ⟨a1, a2, a3, a4, a5⟩ := h
  refine ⟨{ X with cls := fun i => if i = j then y else X.cls i }, a1, a2.setCell (.inr a1) _, ?_, ?_, a5⟩
  · rw [hy]
    have := a3.set (6 + j) (U8 y)
    rw [nd_setCls X _ j y hj] at this
    exact this
  · exact { a4 with }
theorem XBlk.sts {w0 w : World} {b : Nat} {X : Nd} (h : XBlk w0 w b X) (j : Nat) (hj : j < 4) (z : Int) (h0 : 0 ≤ z) (h1 : z < 256) : ∃ X', XBlk w0 (w.setCell ⟨b, 22 + j, none⟩ (.int .u8 z)) b X' := by
  obtain ⟨y, hy⟩ := u8_any z h0 h1
  obtain ⟨a1, a2, a3, a4, a5⟩ := h
  refine ⟨{ X with sts := fun i => if i = j then y else X.sts i }, a1, a2.setCell (.inr a1) _, ?_, ?_, a5⟩
  · rw [hy]
    have := a3.set (22 + j) (U8 y)
    rw [nd_setSts X _ j y hj] at this
    exact this
  · exact { a4 with }
def nmLit : ByteArray := { data := #[65, 66, 67, 68, 69, 70, 71, 72, 73, 74] }
def nmGood (x : ByteArray) : Bool := decide (1 ≤ x.size) && decide (x.size ≤ 10) && x.data.toList.all (fun b => decide (b.toNat < 128)) && decide (65 ≤ (x.data.toList.getD 0 0).toNat) && decide ((x.data.toList.getD 0 0).toNat ≤ 90)
theorem newNd_ok (name : ByteArray) (st : Bool) (cr md : Nat) (hg : nmGood name = true) (h1 : cr < 18446744073709551616) (h2 : md < 18446744073709551616) : NdOK ⟨name, st, 0, fun _ => 0, -1, -1, -1, fun _ => 0, fun _ => 0, cr, md⟩ := by
  simp only [nmGood, Bool.and_eq_true, decide_eq_true_eq, List.all_eq_true] at hg
  obtain ⟨⟨⟨⟨g1, g2⟩, g3⟩, g4⟩, g5⟩ := hg
  exact { len := by simp, nm1 := g1, nm2 := g2, nmc := fun j => by
            show (name.data.toList.getD j 0).toNat < 128
            rw [List.getD_eq_getElem?_getD]
            by_cases hj : j < name.data.toList.length
            · rw [List.getElem?_eq_getElem hj]
              exact g3 _ (List.getElem_mem hj)
            · rw [List.getElem?_eq_none (by omega)]; decide
          nm0 := ⟨g4, g5⟩, left := rfl, right := rfl, child := rfl, cr := h1, md := h2, emp := fun _ => rfl }
theorem newX (w w1 : World) (name : ByteArray) (st : Bool) (cr md : Int) (l : List Value) (hl : l.length = 28) (hf : Fr [w.heap.size] (w.alloc (.cells l.toArray 42)) w1) (hb : Blk w1 w.heap.size 42 (splice l 0 (newCells name st cr md).toList)) (hg : nmGood name = true)
    (h1 : 0 ≤ cr ∧ cr < 18446744073709551616) (h2 : 0 ≤ md ∧ md < 18446744073709551616) : ∃ X : Nd, XBlk w w1 w.heap.size X := by
  refine ⟨⟨name, st, 0, fun _ => 0, -1, -1, -1, fun _ => 0, fun _ => 0, cr.toNat, md.toNat⟩, Nat.le_refl _, ((Fr.refl [] w).alloc _).trans hf (by simp), ?_, newNd_ok _ _ _ _ hg (by omega) (by omega), rfl⟩
  rw [← newCells_nd _ _ _ _ h1.1 h2.1]
  have := splice_whole l (newCells name st cr md).toList (by rw [hl]; rfl)
  rw [this] at hb
  exact hb
set_option maxRecDepth 100000 in
theorem nm_all : ∀ q, q < 7 → ∀ k : Nat, k < 19 → nmGood (nmLit.extract 0 (1 + q) ++ Utf8.encode (65 + (k : Int))) = true := by decide
set_option maxRecDepth 100000 in
theorem nm_sz : ∀ q, q < 7 → (nmLit.extract 0 (1 + q)).size ≤ 8 := by decide
set_option maxRecDepth 100000 in
theorem nm_sz2 : ∀ k : Nat, k < 19 → (Utf8.encode (65 + (k : Int))).size ≤ 4 := by decide

def rootCells : Array Value := #[Value.string { data := #[82, 111, 111, 116, 32, 69, 110, 116, 114, 121] }, Value.bool false, Value.slice none 0 0, Value.int IntKind.i64 (-1), Value.int IntKind.i64 (-1), Value.int IntKind.i64 (-1),
            Value.int IntKind.u8 0, Value.int IntKind.u8 0, Value.int IntKind.u8 0, Value.int IntKind.u8 0, Value.int IntKind.u8 0, Value.int IntKind.u8 0, Value.int IntKind.u8 0, Value.int IntKind.u8 0,
            Value.int IntKind.u8 0, Value.int IntKind.u8 0, Value.int IntKind.u8 0, Value.int IntKind.u8 0, Value.int IntKind.u8 0, Value.int IntKind.u8 0, Value.int IntKind.u8 0, Value.int IntKind.u8 0,
            Value.int IntKind.u8 0, Value.int IntKind.u8 0, Value.int IntKind.u8 0, Value.int IntKind.u8 0, Value.int IntKind.u64 0, Value.int IntKind.u64 0]

theorem own_nil (w : World) (base : Nat) (e : TypeId) (size : Nat) : w.ownsRow base e size (.slice none 0 0) 0 [] := ⟨by simp, .inl ⟨rfl, rfl⟩⟩

theorem own_made (w : World) (base : Nat) (e : TypeId) (size n : Nat) (cs : Array Value) (hb : base ≤ w.heap.size) (hn : n ≤ 1000000) (hc : cs.size = n * size) : (w.alloc (.cells cs e)).ownsRow base e size (.slice (some ⟨w.heap.size, 0, none⟩) n n) n cs.toList :=
  ⟨by simpa using hc, .inr ⟨w.heap.size, n, cs, rfl, hb, heap_alloc_new w _, Nat.le_refl _, by unfold maxLen; omega, hc, List.take_of_length_le (by simp [hc])⟩⟩

theorem NInv.init (w : World) : NInv w.heap.size ((w.alloc (.cells rootCells 42)).alloc (.cells #[.slice none 0 0] 31)) 1 (.slice (some ⟨w.heap.size, 0, none⟩) 1 1) (.slice (some ⟨w.heap.size + 1, 0, none⟩) 1 1)
    (fun _ => rootNd) (fun _ => .slice none 0 0) (fun _ => .slice none 0 0) (fun _ => []) (fun _ => 0) where
  row := (own_made w _ 42 28 1 rootCells (Nat.le_refl _) (by omega) rfl).alloc _
  bel := by
    have := own_made (w.alloc (.cells rootCells 42)) w.heap.size 31 1 1 #[.slice none 0 0] (by simp) (by omega) rfl
    rw [World.size_alloc] at this
    exact this
  bs := fun i hi => own_nil _ _ _ _
  dis := fun i j hi hj hij g hg => by simp [Value.ownBlock] at hg
  dat := fun i hi => ⟨none, 0, rfl, by simp [rootNd], by omega, fun h => by simp [rootNd] at h⟩
  ok := fun i hi => {
    len := by simp [rootNd]
    nm1 := by simp [rootNd, ByteArray.size]
    nm2 := by simp [rootNd, ByteArray.size]
    nmc := fun j => by
      rcases j with _ | _ | _ | _ | _ | _ | _ | _ | _ | _ | j <;> simp [rootNd]
    nm0 := by simp [rootNd]
    left := rfl
    right := rfl
    child := rfl
    cr := by simp [rootNd]
    md := by simp [rootNd]
    emp := fun _ => rfl }
  root := rfl
  mem := fun i hi e he => by simp at he
  nodup := fun i hi => by simp
  le := fun x => by omega
  all := fun x h1 h2 => by omega

end Go.Proofs.YtokpomdfgbbhlaaDoor

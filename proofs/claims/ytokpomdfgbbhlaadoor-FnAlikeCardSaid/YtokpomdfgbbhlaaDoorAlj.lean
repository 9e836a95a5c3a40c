/- FnAlike: entries are those that stand in the file, whichever size sectors have (part 10 of 12). No condition but the statement's own. -/
import Derived.Stop.Asserts
import Derived.Test.YtokpomdfgbbhlaaDoorAli
set_option linter.all false
set_option linter.unusedVariables false
set_option linter.unusedSimpArgs false
set_option linter.unnecessarySimpa false
/- The contract of traverse's closure, by induction on the tree; and of traverse. -/
namespace Go.Proofs.YtokpomdfgbbhlaaDoor
open Go Go.RowKit Go.Maps

/-- A list of texts. -/
def PathIs (w : World) (base : Nat) (v : Value) (p : List ByteArray) : Prop :=
  ∃ b cap, v = .slice (some ⟨b, 0, none⟩) p.length cap ∧ base ≤ b ∧ Blk w b 9 (p.map Value.string)

theorem PathIs.fr {w w' : World} {base : Nat} {v : Value} {p : List ByteArray} {ms : List Nat} (h : PathIs w base v p) (f : Fr ms w w') (hm : ∀ b l, Blk w b 9 l → b ∉ ms) : PathIs w' base v p := by
  obtain ⟨b, cap, h1, h2, h3⟩ := h
  exact ⟨b, cap, h1, h2, h3.fr f (hm _ _ h3)⟩

/-- What the closure captures and what it reaches. -/
structure TEnv where
  (cb xb eb fb rb hb sb ub ul uc ss gb dg dcap E base : Nat)
  (hdr wa : Value)
  (G : Nat → Nat → UInt8)
  (P : Nat → EntP)
  (fk dk : Nat → Nat)

def TEnv.caps (T : TEnv) : Array Value := #[.pointer (some ⟨T.cb, 0, none⟩), .pointer (some ⟨T.xb, 0, none⟩), .pointer (some ⟨T.eb, 0, none⟩), .pointer (some ⟨T.fb, 0, none⟩)]

/-- The state of the walk through the tree: k calls, f files, the row l, the paths pv. -/
structure TSt (T : TEnv) (w : World) (k f : Nat) (l : List Value) (pv : Nat → Value) : Prop where
  cnt : Blk w T.cb 3 [.int .i64 k]
  box : Blk w T.xb 80 [.pointer (some ⟨T.rb, 0, none⟩)]
  err : Blk w T.eb 104 [.nilIface]
  rec_ : Blk w T.fb 102 [.func (.func 63) #[] T.caps]
  rd : Blk w T.rb 91 (rdCells T.ss (.slice (some ⟨T.ub, 0, none⟩) T.ul T.uc) T.hdr (.slice (some ⟨T.gb, 0, none⟩) f T.E) (.slice (some ⟨T.dg, 0, none⟩) T.E T.dcap) 0 T.sb T.wa)
  row : Blk w T.gb 92 l
  len : l.length = T.E
  dir : ∃ dl, Blk w T.dg 92 dl ∧ ∀ e, e < T.E → dl[e]? = some (.pointer (some ⟨T.fk e, 0, none⟩))
  file : ∀ e, e < T.E → Blk w (T.fk e) 95 (flCells (T.P e).name (T.P e).init (pv e) (T.P e).size 0 (fld (T.G e) 116 4) 0 (T.dk e) T.rb)
  ent : ∀ e, e < T.E → Blk w (T.dk e) 119 (tab 69 (dirL12 (T.G e)))
  inj : ∀ a b, a < T.E → b < T.E → T.fk a = T.fk b → a = b
  gdg : T.dg ≠ T.gb
  base : T.base ≤ w.heap.size

theorem Blk.ne {w : World} {b b' : Nat} {S S' : TypeId} {l l' : List Value} (h : Blk w b S l) (h' : Blk w b' S' l') (hS : S ≠ S') : b ≠ b' := fun e => by
  subst e; exact hS (h.unique h').1

theorem TSt.fr0 {T : TEnv} {w w' : World} {k f : Nat} {l : List Value} {pv : Nat → Value} (h : TSt T w k f l pv) (hf : Fr [] w w') : TSt T w' k f l pv where
  cnt := h.cnt.fr0 hf
  box := h.box.fr0 hf
  err := h.err.fr0 hf
  rec_ := h.rec_.fr0 hf
  rd := h.rd.fr0 hf
  row := h.row.fr0 hf
  len := h.len
  dir := by obtain ⟨dl, a, b⟩ := h.dir; exact ⟨dl, a.fr0 hf, b⟩
  file := fun e he => (h.file e he).fr0 hf
  ent := fun e he => (h.ent e he).fr0 hf
  inj := h.inj
  gdg := h.gdg
  base := Nat.le_trans h.base hf.size

theorem TSt.setCnt {T : TEnv} {w : World} {k f : Nat} {l : List Value} {pv : Nat → Value} (h : TSt T w k f l pv) (k' : Nat) (v : Value) (hv : v = .int .i64 k') : TSt T (w.setCell ⟨T.cb, 0, none⟩ v) k' f l pv where
  cnt := by subst hv; exact h.cnt.set 0 _
  box := h.box.setOther (h.cnt.ne h.box (by decide)) _
  err := h.err.setOther (h.cnt.ne h.err (by decide)) _
  rec_ := h.rec_.setOther (h.cnt.ne h.rec_ (by decide)) _
  rd := h.rd.setOther (h.cnt.ne h.rd (by decide)) _
  row := h.row.setOther (h.cnt.ne h.row (by decide)) _
  len := h.len
  dir := by obtain ⟨dl, a, b⟩ := h.dir; exact ⟨dl, a.setOther (h.cnt.ne a (by decide)) _, b⟩
  file := fun e he => (h.file e he).setOther (h.cnt.ne (h.file e he) (by decide)) _
  ent := fun e he => (h.ent e he).setOther (h.cnt.ne (h.ent e he) (by decide)) _
  inj := h.inj
  gdg := h.gdg
  base := by simpa using h.base

theorem TSt.setPath {T : TEnv} {w : World} {k f : Nat} {l : List Value} {pv : Nat → Value} (h : TSt T w k f l pv) (e : Nat) (he : e < T.E) (v : Value) :
    TSt T (w.setCell ⟨T.fk e, 2, none⟩ v) k f l (fun a => if a = e then v else pv a) where
  cnt := h.cnt.setOther ((h.file e he).ne h.cnt (by decide)) _
  box := h.box.setOther ((h.file e he).ne h.box (by decide)) _
  err := h.err.setOther ((h.file e he).ne h.err (by decide)) _
  rec_ := h.rec_.setOther ((h.file e he).ne h.rec_ (by decide)) _
  rd := h.rd.setOther ((h.file e he).ne h.rd (by decide)) _
  row := h.row.setOther ((h.file e he).ne h.row (by decide)) _
  len := h.len
  dir := by obtain ⟨dl, a, b⟩ := h.dir; exact ⟨dl, a.setOther ((h.file e he).ne a (by decide)) _, b⟩
  file := fun a ha => by
    by_cases hae : a = e
    · subst hae
      rw [if_pos rfl]
      exact (h.file a ha).set 2 v
    · rw [if_neg hae]
      exact (h.file a ha).setOther (fun hh => hae (h.inj a e ha he hh.symm)) _
  ent := fun a ha => (h.ent a ha).setOther ((h.file e he).ne (h.ent a ha) (by decide)) _
  inj := h.inj
  gdg := h.gdg
  base := by simpa using h.base

/-- One file more in the reader's list. -/
theorem TSt.app {T : TEnv} {w w' : World} {k f : Nat} {l l' : List Value} {pv : Nat → Value} (h : TSt T w k f l pv) (hf : Fr [T.gb] w w') (hr : Blk w' T.gb 92 l') (hl : l'.length = T.E) :
    TSt T (w'.setCell ⟨T.rb, 4, none⟩ (.slice (some ⟨T.gb, 0, none⟩) (f + 1) T.E)) k (f + 1) l' pv := by
  have n (b : Nat) (S : TypeId) (m : List Value) (hb : Blk w b S m) (hS : S ≠ 92) : b ∉ [T.gb] := by
    simp only [List.mem_singleton]; exact hb.ne h.row hS
  have hrd := h.rd.fr hf (n _ _ _ h.rd (by decide))
  obtain ⟨dl, da, db⟩ := h.dir
  exact {
    cnt := (h.cnt.fr hf (n _ _ _ h.cnt (by decide))).setOther (h.rd.ne h.cnt (by decide)) _
    box := (h.box.fr hf (n _ _ _ h.box (by decide))).setOther (h.rd.ne h.box (by decide)) _
    err := (h.err.fr hf (n _ _ _ h.err (by decide))).setOther (h.rd.ne h.err (by decide)) _
    rec_ := (h.rec_.fr hf (n _ _ _ h.rec_ (by decide))).setOther (h.rd.ne h.rec_ (by decide)) _
    rd := hrd.set 4 _
    row := hr.setOther (h.rd.ne h.row (by decide)) _
    len := hl
    dir := ⟨dl, (da.fr hf (by simpa using h.gdg)).setOther (h.rd.ne da (by decide)) _, db⟩
    file := fun e he => ((h.file e he).fr hf (n _ _ _ (h.file e he) (by decide))).setOther (h.rd.ne (h.file e he) (by decide)) _
    ent := fun e he => ((h.ent e he).fr hf (n _ _ _ (h.ent e he) (by decide))).setOther (h.rd.ne (h.ent e he) (by decide)) _
    inj := h.inj
    gdg := h.gdg
    base := by simpa using Nat.le_trans h.base hf.size }

theorem TSt.no9 {T : TEnv} {w : World} {k f : Nat} {l : List Value} {pv : Nat → Value} (h : TSt T w k f l pv) {os : List Nat} (hos : ∀ e, e ∈ os → e < T.E) (b : Nat) (m : List Value) (hb : Blk w b 9 m) :
    b ∉ T.cb :: T.rb :: T.gb :: os.map T.fk := by
  simp only [List.mem_cons, List.mem_map]
  rintro (rfl | rfl | rfl | ⟨e, he, rfl⟩)
  · exact hb.ne h.cnt (by decide) rfl
  · exact hb.ne h.rd (by decide) rfl
  · exact hb.ne h.row (by decide) rfl
  · exact hb.ne (h.file e (hos e he)) (by decide) rfl

/-- What a call of the closure leaves. -/
def TPost (T : TEnv) (t : Tr) (k f : Nat) (l : List Value) (pv : Nat → Value) (p : List ByteArray) (w w' : World) : Prop :=
  Fr (T.cb :: T.rb :: T.gb :: t.order.map T.fk) w w' ∧
      ∃ pv', TSt T w' (k + t.order.length) (f + t.order.length) (splice l f (t.order.map (fun e => .pointer (some ⟨T.fk e, 0, none⟩)))) pv' ∧
        (∀ e, e ∉ t.order → pv' e = pv e) ∧ ∀ q ∈ t.paths (fun e => (T.P e).name) p, PathIs w' T.base (pv' q.1) q.2

theorem TPost.drew {T : TEnv} {t : Tr} {k f : Nat} {l : List Value} {pv : Nat → Value} {p : List ByteArray} {w w' : World} (h : TPost T t k f l pv p w.drew w') : TPost T t k f l pv p w w' :=
  ⟨(Fr.refl _ w).drew.trans_same h.1, h.2⟩

theorem splice_nil (l : List Value) (o : Nat) : splice l o [] = l := by simp [splice]

theorem TPost.nil {T : TEnv} {k f : Nat} {l : List Value} {pv : Nat → Value} {p : List ByteArray} {w w' : World} (h : TSt T w k f l pv) (hf : Fr [] w w') : TPost T .nil k f l pv p w w' :=
  ⟨hf.mono (by simp), pv, by simpa [Tr.order, splice_nil] using h.fr0 hf, fun _ _ => rfl, fun q hq => by simp [Tr.paths] at hq⟩

theorem splice_app (l a b : List Value) (o : Nat) (h : o + a.length + b.length ≤ l.length) : splice (splice l o a) (o + a.length) b = splice l o (a ++ b) := by
  apply List.ext_getElem?
  intro i
  have h1 : (splice l o a).length = l.length := length_splice _ _ _ (by omega)
  rw [splice_get _ _ _ (by omega), splice_get _ _ _ (by omega), splice_get _ _ _ (by simp; omega)]
  simp only [List.length_append]
  by_cases c1 : o + a.length ≤ i ∧ i < o + a.length + b.length
  · rw [if_pos c1, if_pos (by omega), List.getElem?_append_right (by omega)]
    congr 1; omega
  · rw [if_neg c1]
    by_cases c2 : o ≤ i ∧ i < o + a.length
    · rw [if_pos c2, if_pos (by omega), List.getElem?_append_left (by omega)]
    · rw [if_neg c2, if_neg (by omega)]

/-- Left, the entry itself, below, right. -/
theorem TPost.join {T : TEnv} {x : Nat} {l c r : Tr} {k f : Nat} {row rowC : List Value} {pv pvL pv5 pvC : Nat → Value} {p pc : List ByteArray} {pb pcap : Nat} {w wL w4 w5 wC wR : World}
    (hst : TSt T w k f row pv) (hx : x < T.E) (hlE : ∀ e, e ∈ l.order → e < T.E) (hcE : ∀ e, e ∈ c.order → e < T.E) (hrE : ∀ e, e ∈ r.order → e < T.E) (hnd : (Tr.node x l c r).order.Nodup)
    (hp : PathIs w T.base (.slice (some ⟨pb, 0, none⟩) p.length pcap) p) (hfl : f + (l.order.length + (c.order.length + r.order.length + 1)) ≤ T.E)
    (hf1 : Fr (T.cb :: T.rb :: T.gb :: l.order.map T.fk) w wL) (hs3 : TSt T wL (k + 1 + l.order.length) (f + l.order.length) (splice row f (l.order.map (fun e => .pointer (some ⟨T.fk e, 0, none⟩)))) pvL)
    (hpvL : ∀ e, e ∉ l.order → pvL e = pv e) (hpaL : ∀ q ∈ l.paths (fun e => (T.P e).name) p, PathIs wL T.base (pvL q.1) q.2)
    (hf4 : Fr [T.rb, T.gb] wL w4) (hf5 : Fr [T.fk x] w4 w5) (hpv5 : pv5 = fun a => if a = x then Value.slice (some ⟨pb, 0, none⟩) p.length pcap else pvL a)
    (hpc : pc = if x = 0 then p else p ++ [(T.P x).name])
    (hrow : rowC = splice (splice (splice row f (l.order.map (fun e => .pointer (some ⟨T.fk e, 0, none⟩)))) (f + l.order.length) [.pointer (some ⟨T.fk x, 0, none⟩)]) (f + l.order.length + 1) (c.order.map (fun e => .pointer (some ⟨T.fk e, 0, none⟩))))
    (hfC : Fr (T.cb :: T.rb :: T.gb :: c.order.map T.fk) w5 wC) (hsC : TSt T wC (k + 1 + l.order.length + c.order.length) (f + l.order.length + 1 + c.order.length) rowC pvC)
    (hpvC : ∀ e, e ∉ c.order → pvC e = pv5 e) (hpaC : ∀ q ∈ c.paths (fun e => (T.P e).name) pc, PathIs wC T.base (pvC q.1) q.2)
    (hR : TPost T r (k + 1 + l.order.length + c.order.length) (f + l.order.length + 1 + c.order.length) rowC pvC p wC wR) :
    TPost T (.node x l c r) k f row pv p w wR := by
  obtain ⟨hfR, pvR, hsR, hpvR, hpaR⟩ := hR
  have hos : ∀ e, e ∈ (Tr.node x l c r).order → e < T.E := by
    intro e he
    simp only [Tr.order, List.mem_append, List.mem_cons] at he
    rcases he with he | rfl | he | he
    · exact hlE e he
    · exact hx
    · exact hcE e he
    · exact hrE e he
  have m1 : Fr (T.cb :: T.rb :: T.gb :: (Tr.node x l c r).order.map T.fk) w wL := hf1.mono (fun b hb => .inl (by simp only [Tr.order, List.map_append, List.map_cons, List.mem_cons, List.mem_append] at hb ⊢; grind))
  have m2 : Fr (T.cb :: T.rb :: T.gb :: (Tr.node x l c r).order.map T.fk) wL w4 := hf4.mono (fun b hb => .inl (by simp only [List.mem_cons, List.mem_nil_iff, or_false] at hb ⊢; grind))
  have m3 : Fr (T.cb :: T.rb :: T.gb :: (Tr.node x l c r).order.map T.fk) w4 w5 := hf5.mono (fun b hb => .inl (by simp only [Tr.order, List.map_append, List.map_cons, List.mem_cons, List.mem_append, List.mem_nil_iff, or_false] at hb ⊢; grind))
  have m4 : Fr (T.cb :: T.rb :: T.gb :: (Tr.node x l c r).order.map T.fk) w5 wC := hfC.mono (fun b hb => .inl (by simp only [Tr.order, List.map_append, List.map_cons, List.mem_cons, List.mem_append] at hb ⊢; grind))
  have m5 : Fr (T.cb :: T.rb :: T.gb :: (Tr.node x l c r).order.map T.fk) wC wR := hfR.mono (fun b hb => .inl (by simp only [Tr.order, List.map_append, List.map_cons, List.mem_cons, List.mem_append] at hb ⊢; grind))
  have hnd1 := List.nodup_append.1 hnd
  have hnd2 := List.nodup_cons.1 hnd1.2.1
  have hnd3 := List.nodup_append.1 hnd2.2
  have hxc : x ∉ c.order := fun h => hnd2.1 (by simp [h])
  have hxr : x ∉ r.order := fun h => hnd2.1 (by simp [h])
  refine ⟨(((m1.trans_same m2).trans_same m3).trans_same m4).trans_same m5, pvR, ?_, ?_, ?_⟩
  · have e1 : k + 1 + l.order.length + c.order.length + r.order.length = k + (Tr.node x l c r).order.length := by simp only [Tr.order, List.length_append, List.length_cons]; omega
    have e2 : f + l.order.length + 1 + c.order.length + r.order.length = f + (Tr.node x l c r).order.length := by simp only [Tr.order, List.length_append, List.length_cons]; omega
    rw [e1, e2, hrow] at hsR
    have hlen := hst.len
    have a1 := splice_app row (l.order.map (fun e => Value.pointer (some ⟨T.fk e, 0, none⟩))) [.pointer (some ⟨T.fk x, 0, none⟩)] f (by simp; omega)
    rw [List.length_map] at a1
    rw [a1] at hsR
    have a2 := splice_app row (l.order.map (fun e => Value.pointer (some ⟨T.fk e, 0, none⟩)) ++ [.pointer (some ⟨T.fk x, 0, none⟩)]) (c.order.map (fun e => Value.pointer (some ⟨T.fk e, 0, none⟩))) f (by simp; omega)
    rw [List.length_append, List.length_map, List.length_singleton, ← Nat.add_assoc] at a2
    rw [a2] at hsR
    have a3 := splice_app row ((l.order.map (fun e => Value.pointer (some ⟨T.fk e, 0, none⟩)) ++ [.pointer (some ⟨T.fk x, 0, none⟩)]) ++ c.order.map (fun e => Value.pointer (some ⟨T.fk e, 0, none⟩))) (r.order.map (fun e => Value.pointer (some ⟨T.fk e, 0, none⟩))) f (by simp; omega)
    rw [List.length_append, List.length_append, List.length_map, List.length_map, List.length_singleton, ← Nat.add_assoc, ← Nat.add_assoc] at a3
    rw [a3] at hsR
    have e3 : ((l.order.map (fun e => Value.pointer (some ⟨T.fk e, 0, none⟩)) ++ [.pointer (some ⟨T.fk x, 0, none⟩)]) ++ c.order.map (fun e => Value.pointer (some ⟨T.fk e, 0, none⟩))) ++ r.order.map (fun e => Value.pointer (some ⟨T.fk e, 0, none⟩)) = (Tr.node x l c r).order.map (fun e => Value.pointer (some ⟨T.fk e, 0, none⟩)) := by
      simp [Tr.order]
    rw [e3] at hsR
    exact hsR
  · intro e he
    simp only [Tr.order, List.mem_append, List.mem_cons, not_or] at he
    rw [hpvR e he.2.2.2, hpvC e he.2.2.1, hpv5]
    simp only [if_neg he.2.1]
    exact hpvL e he.1
  · intro q hq
    simp only [Tr.paths, List.mem_append, List.mem_cons] at hq
    have hmem : ∀ (t : Tr) (p : List ByteArray) (q : Nat × List ByteArray), q ∈ t.paths (fun e => (T.P e).name) p → q.1 ∈ t.order := by
      intro t
      induction t with
      | nil => intro p q h; simp [Tr.paths] at h
      | node e l c r h1 h2 h3 =>
        intro p q h
        simp only [Tr.paths, List.mem_append, List.mem_cons] at h
        simp only [Tr.order, List.mem_append, List.mem_cons]
        rcases h with h | rfl | h | h
        · exact .inl (h1 _ _ h)
        · exact .inr (.inl rfl)
        · exact .inr (.inr (.inl (h2 _ _ h)))
        · exact .inr (.inr (.inr (h3 _ _ h)))
    rcases hq with hq | rfl | hq | hq
    · have hm := hmem _ _ _ hq
      have n1 : q.1 ≠ x := fun h => hnd1.2.2 _ hm _ (by simp) h
      have n2 : q.1 ∉ c.order := fun h => hnd1.2.2 _ hm _ (by simp [h]) rfl
      have n3 : q.1 ∉ r.order := fun h => hnd1.2.2 _ hm _ (by simp [h]) rfl
      rw [hpvR _ n3, hpvC _ n2, hpv5]
      simp only [if_neg n1]
      exact (hpaL q hq).fr (((m2.trans_same m3).trans_same m4).trans_same m5) (hs3.no9 hos)
    · simp only
      rw [hpvR _ hxr, hpvC _ hxc, hpv5]
      simp only [if_true]
      exact hp.fr ((((m1.trans_same m2).trans_same m3).trans_same m4).trans_same m5) (hst.no9 hos)
    · have hm := hmem _ _ _ hq
      have n3 : q.1 ∉ r.order := fun h => hnd3.2.2 _ hm _ h rfl
      rw [hpvR _ n3]
      exact (hpaC q (by rw [hpc]; exact hq)).fr m5 (hsC.no9 hos)
    · exact hpaR q hq

theorem info9 : (Tryd.prog.info? 9).map (fun i => (i.zero, i.size, i.bytes)) = some (some (.string { data := #[] }), 1, 16) := by kernel_rfl
theorem make_path (n : Nat) (h : n ≤ 200000) (w : World) : (Instr.makeSlice 35 (.int .i64 ((n : Int) + 1)) (.int .i64 ((n : Int) + 1))).run Tryd.prog w =
    .ok (.slice (some ⟨w.heap.size, 0, none⟩) (n + 1) (n + 1)) (w.alloc (.cells (tab (n + 1) (fun _ => Value.string { data := #[] })).toArray 9)) := by
  have := make_tab Tryd.underlying35 info9 rfl (n + 1) (n + 1) (Nat.le_refl _) (by omega) (by omega) w
  simpa using this

set_option maxRecDepth 100000 in
set_option maxHeartbeats 1000000 in
theorem trav_any (T : TEnv) (t : Tr) : ∀ (x k f : Nat) (l : List Value) (pv : Nat → Value) (v : Value) (p : List ByteArray) (w : World), t ≠ .nil → t.Fits T.E T.G x → t.order.Nodup → TSt T w k f l pv →
    PathIs w T.base v p → k + t.order.length ≤ T.E → f + t.order.length ≤ T.E → T.E ≤ 100000 → p.length + t.order.length ≤ 200000 →
    Calls Tryd.prog 63 #[.int .i64 x, v, .pointer (some ⟨T.cb, 0, none⟩), .pointer (some ⟨T.xb, 0, none⟩), .pointer (some ⟨T.eb, 0, none⟩), .pointer (some ⟨T.fb, 0, none⟩)] w fun e w' => e = .returned (.tuple #[]) ∧ TPost T t k f l pv p w w' := by
  induction t with
  | nil => intro _ _ _ _ _ _ _ _ h; exact absurd rfl h
  | node e l c r ihl ihc ihr =>
    intro x k f row pv v p w _ hfit hnd hst hp hk hf hE hpl
    obtain ⟨rfl, he, hfl, hfc, hfr⟩ := hfit
    obtain ⟨pb, pcap, rfl, hpb, hpB⟩ := hp
    have hpB0 := hpB
    simp only [Tr.order, List.length_append, List.length_cons] at hk hf hpl
    have hndl : l.order.Nodup := (List.nodup_append.1 hnd).1
    have hnd2 := (List.nodup_cons.1 (List.nodup_append.1 hnd).2.1).2
    have hndc : c.order.Nodup := (List.nodup_append.1 hnd2).1
    have hndr : r.order.Nodup := (List.nodup_append.1 hnd2).2.1
    have c0 : w.cell? ⟨T.cb, 0, none⟩ = some (.int .i64 k) := hst.cnt.cell 0
    have z0 := hst.cnt.frozen 0
    have x0 : w.cell? ⟨T.xb, 0, none⟩ = some (.pointer (some ⟨T.rb, 0, none⟩)) := hst.box.cell 0
    have r5 : w.cell? ⟨T.rb, 5, none⟩ = some (.slice (some ⟨T.dg, 0, none⟩) T.E T.dcap) := hst.rd.cell 5
    go_enter Tryd.func63, Tryd.ntmps63
    go_upto_region 1 with (fail)
    have hs1 := hst.setCnt (k + 1) (.int .i64 ((k : Int) + 1)) (by push_cast; rfl)
    have hf1 : Fr [T.cb] w (w.setCell ⟨T.cb, 0, none⟩ (.int .i64 ((k : Int) + 1))) := (Fr.refl _ _).setCell (.inl (by simp)) _
    clear c0 z0 x0 r5
    generalize w.setCell ⟨T.cb, 0, none⟩ (.int .i64 ((k : Int) + 1)) = w1 at *
    obtain ⟨dl, hda, hdb⟩ := hs1.dir
    have c0 : w1.cell? ⟨T.cb, 0, none⟩ = some (.int .i64 ((k : Int) + 1)) := hs1.cnt.cell 0
    have x0 : w1.cell? ⟨T.xb, 0, none⟩ = some (.pointer (some ⟨T.rb, 0, none⟩)) := hs1.box.cell 0
    have r5 : w1.cell? ⟨T.rb, 5, none⟩ = some (.slice (some ⟨T.dg, 0, none⟩) T.E T.dcap) := hs1.rd.cell 5
    have dc : w1.cell? ⟨T.dg, x, none⟩ = some (.pointer (some ⟨T.fk x, 0, none⟩)) := (hda.cell x).trans (hdb x he)
    have f7 : w1.cell? ⟨T.fk x, 7, none⟩ = some (.pointer (some ⟨T.dk x, 0, none⟩)) := (hs1.file x he).cell 7
    have d35 := ((hs1.ent x he).cell 35).trans (dir_left _)
    have tt1 : decide ((T.E : Int) < (k : Int) + 1) = false := by simp; omega
    have tt2 : decide ((T.E : Int) ≤ (x : Int)) = false := by simp; omega
    have heI : (x : Int) < T.E := by omega
    go_quiet (fail)
    have HD := Lib.hid hdb
    clear hdb
    go_upto_if 50 with (fail)
    have hs2 := hs1.fr0 ((Fr.refl [] w1).drewN nq)
    have hf2 : Fr [T.cb] w (w1.drewN nq) := hf1.drewN nq
    have hp2 : Blk (w1.drewN nq) pb 9 (p.map Value.string) := (hpB.fr hf1 (by simp only [List.mem_singleton]; exact hpB.ne hst.cnt (by decide))).drewN nq
    clear c0 x0 r5 dc f7 d35 hs1 hf1 hda hpB
    generalize w1.drewN nq = w2 at *
    have fr0 : w2.cell? ⟨T.fb, 0, none⟩ = some (.func (.func 63) #[] T.caps) := hs2.rec_.cell 0
    have f7 : w2.cell? ⟨T.fk x, 7, none⟩ = some (.pointer (some ⟨T.dk x, 0, none⟩)) := (hs2.file x he).cell 7
    have d35 := ((hs2.ent x he).cell 35).trans (dir_left _)
    go_cut [] from 12 to 61 (fun w3 => TPost T l (k + 1) f row pv p w2 w3)
    case first =>
      cases l with
      | nil =>
        have hq : (((fld (T.G x) 68 4 : Nat) : Int) != 4294967295) = false := by rw [show fld (T.G x) 68 4 = 4294967295 from hfl]; rfl
        go_wp2_with fail
        go_meet
        case rel => exact TPost.nil hs2 (Fr.refl _ _)
      | node e' l' c' r' =>
        have hlt : fld (T.G x) 68 4 < T.E := by obtain ⟨h1, h2, _⟩ := hfl; rw [h1]; exact h2
        have hq : (((fld (T.G x) 68 4 : Nat) : Int) != 4294967295) = true := by simp; omega
        go_upto_region 7 with (fail)
        go_still_tail 10, (by kernel_rfl)
        change wpList _ _ _ _ _ w2.drew
        go_wp2_with fail
        refine (ihl (fld (T.G x) 68 4) (k + 1) f row pv _ p w2.drew (by simp) hfl hndl (hs2.fr0 ((Fr.refl [] w2).drew)) ⟨pb, pcap, rfl, hpb, hp2.drew⟩ (by omega) (by omega) hE (by omega)).mono ?_
        rintro e w3 ⟨rfl, hpost⟩
        go_wp2_with fail
        go_meet
        case rel => exact hpost.drew
    case rest =>
    clear fr0 f7 d35
    have hfL := hs2
    clear hs2
    obtain ⟨hf3, pvL, hs3, hpvL, hpaL⟩ := hcut
    have hp3 := hp2.fr hf3 (hfL.no9 hfl.lt _ _ hp2)
    have hf13 := (hf2.mono (ms' := T.cb :: T.rb :: T.gb :: l.order.map T.fk) (by simp)).trans_same hf3
    generalize hol : l.order.length = nl at *
    have hxg : T.xb ≠ T.gb := hs3.box.ne hs3.row (by decide)
    have hrg : T.rb ≠ T.gb := hs3.rd.ne hs3.row (by decide)
    have hxr : T.xb ≠ T.rb := hs3.box.ne hs3.rd (by decide)
    have x0 : wc.cell? ⟨T.xb, 0, none⟩ = some (.pointer (some ⟨T.rb, 0, none⟩)) := hs3.box.cell 0
    have r4 : wc.cell? ⟨T.rb, 4, none⟩ = some (.slice (some ⟨T.gb, 0, none⟩) (f + nl) T.E) := hs3.rd.cell 4
    have rz4 := hs3.rd.frozen 4
    have b2 : (wc.alloc (Obj.cells #[.pointer (some ⟨T.fk x, 0, none⟩)] 92)).cell? ⟨T.rb, 4, none⟩ = some (.slice (some ⟨T.gb, 0, none⟩) (f + nl) T.E) := ((Fr.refl [] wc).alloc _).cell0 r4
    have hl3 := hs3.len
    have hrow3 := hs3.row
    go_upto_region 8 with (fail)
    go_cut [] from 62 to 71 (fun w4 => ∃ w3, Fr [T.gb] wc w3 ∧ Blk w3 T.gb 92 (splice (splice row f (l.order.map (fun e => .pointer (some ⟨T.fk e, 0, none⟩)))) (f + nl) [.pointer (some ⟨T.fk x, 0, none⟩)]) ∧ w4 = w3.setCell ⟨T.rb, 4, none⟩ (.slice (some ⟨T.gb, 0, none⟩) (f + nl + 1) T.E))
    case first =>
      obtain ⟨R, hR⟩ : ∃ R : AR, R = ⟨wc, T.rb, 4, T.gb, f + nl, T.E, 6, 7, 10, 92, splice row f (l.order.map (fun e => .pointer (some ⟨T.fk e, 0, none⟩))), .pointer (some ⟨T.fk x, 0, none⟩), fun i => match i with
        | 0 | 1 | 2 | 8 => .pointer (some ⟨T.rb, 0, none⟩)
        | 3 | 9 => .pointer (some ⟨T.rb, 4, none⟩)
        | 4 => .slice (some ⟨T.gb, 0, none⟩) (f + nl) T.E
        | 5 => .pointer (some ⟨T.fk x, 0, none⟩)
        | 7 => .slice (some ⟨T.gb, 0, none⟩) (f + nl + 1) T.E
        | _ => undef⟩ := ⟨_, rfl⟩
      have rB : R.B = 6 := by rw [hR]
      have rA : R.A = 7 := by rw [hR]
      have rS : R.S = 10 := by rw [hR]
      have rT : R.T = 92 := by rw [hR]
      have hxc : ∀ w1, Fr [T.gb] wc w1 → w1.cell? ⟨T.xb, 0, none⟩ = some (.pointer (some ⟨T.rb, 0, none⟩)) ∧ w1.cell? ⟨T.rb, 4, none⟩ = some (.slice (some ⟨T.gb, 0, none⟩) (f + nl) T.E) := fun w1 hf1 => ⟨hf1.cell (by simpa using hxg) x0, hf1.cell (by simpa using hrg) r4⟩
      have hsc : ∀ w1, Fr [T.gb] wc w1 → w1.cell? ⟨T.rb, 4, none⟩ = some (.slice (some ⟨T.gb, 0, none⟩) (f + nl) T.E) ∧ w1.frozen? ⟨T.rb, 4, none⟩ = false := fun w1 hf1 => ⟨hf1.cell (by simpa using hrg) r4, (hs3.rd.fr hf1 (by simpa using hrg)).frozen 4⟩
      have hroomA : f + nl + 1 ≤ T.E := by omega
      have hroomL : f + nl + 1 ≤ (splice row f (l.order.map (fun e => Value.pointer (some ⟨T.fk e, 0, none⟩)))).length := by rw [hl3]; omega
      have hgl : R.gb < R.wr.heap.size := by rw [hR]; exact hrow3.lt
      have hsl : R.sb < R.wr.heap.size := by rw [hR]; exact hs3.rd.lt
      refine wp_region_loose (J := R.J) (Sp := R.Sp) (by kernel_rfl) (by kernel_rfl) ?_ ?_ ?_
      · subst hR
        exact ⟨fun _ => (Fr.refl _ _).drew, fun _ _ => hrow3, fun h => (by cases h), fun h => (by cases h)⟩
      · intro L a w1 i o hI hi hL hw
        have hj := hI.j
        have same : L R.S = false → ∀ i, i ≠ 7 ∧ i ≠ 10 → R.J (lSet L i) w1 := fun hS i hi => hj.alloc hS (Fr.refl _ _) i (by rw [rA, rS]; exact hi)
        have nop : ∀ j u, L j = true → R.Sp j w1 u → R.Sp j w1 u := fun _ _ _ h => h
        rcases i with _ | _ | _ | _ | _ | _ | _ | _ | _ | _ | _ | i
        · obtain rfl := Option.some.inj hi
          have hS : L 10 = false := hI.before (i := 0) (j := 10) hL rfl (by kernel_rfl)
          have hS' : L R.S = false := by rw [hR]; exact hS
          have e0 := hI.outer 3 (by kernel_rfl) (.pointer (some ⟨T.xb, 0, none⟩)) rfl
          rw [Array.getD_eq_getD_getElem?] at e0
          have hc := (hxc w1 (by have := hj.a hS'; rw [hR] at this; exact this)).1
          exact lw (.pointer (some ⟨T.rb, 0, none⟩)) (by simp [go_sem, e0, hc]) ⟨_, rfl, same hS' 0 (by decide), nop, AR.sp_c (by rw [rB]; decide) (by subst hR; rfl)⟩
        · obtain rfl := Option.some.inj hi
          have hS : L 10 = false := hI.before (i := 1) (j := 10) hL rfl (by kernel_rfl)
          have hS' : L R.S = false := by rw [hR]; exact hS
          have e0 := hI.outer 3 (by kernel_rfl) (.pointer (some ⟨T.xb, 0, none⟩)) rfl
          rw [Array.getD_eq_getD_getElem?] at e0
          have hc := (hxc w1 (by have := hj.a hS'; rw [hR] at this; exact this)).1
          exact lw (.pointer (some ⟨T.rb, 0, none⟩)) (by simp [go_sem, e0, hc]) ⟨_, rfl, same hS' 1 (by decide), nop, AR.sp_c (by rw [rB]; decide) (by subst hR; rfl)⟩
        · obtain rfl := Option.some.inj hi
          have hS : L 10 = false := hI.before (i := 2) (j := 10) hL rfl (by kernel_rfl)
          have hS' : L R.S = false := by rw [hR]; exact hS
          have l0 := waits_of hw 1 (by kernel_rfl)
          have e0 : a.tmps.getD 63 undef = .pointer (some ⟨T.rb, 0, none⟩) := (AR.of_sp (hI.val 1 _ 63 l0 rfl rfl) (by rw [rB]; decide)).trans (by subst hR; rfl)
          rw [Array.getD_eq_getD_getElem?] at e0
          exact lw (.pointer (some ⟨T.rb, 0, none⟩)) (by simp [go_sem, e0]) ⟨_, rfl, same hS' 2 (by decide), nop, AR.sp_c (by rw [rB]; decide) (by subst hR; rfl)⟩
        · obtain rfl := Option.some.inj hi
          have hS : L 10 = false := hI.before (i := 3) (j := 10) hL rfl (by kernel_rfl)
          have hS' : L R.S = false := by rw [hR]; exact hS
          have l0 := waits_of hw 2 (by kernel_rfl)
          have e0 : a.tmps.getD 64 undef = .pointer (some ⟨T.rb, 0, none⟩) := (AR.of_sp (hI.val 2 _ 64 l0 rfl rfl) (by rw [rB]; decide)).trans (by subst hR; rfl)
          rw [Array.getD_eq_getD_getElem?] at e0
          exact lw (.pointer (some ⟨T.rb, 4, none⟩)) (by simp [go_sem, e0]) ⟨_, rfl, same hS' 3 (by decide), nop, AR.sp_c (by rw [rB]; decide) (by subst hR; rfl)⟩
        · obtain rfl := Option.some.inj hi
          have hS : L 10 = false := hI.before (i := 4) (j := 10) hL rfl (by kernel_rfl)
          have hS' : L R.S = false := by rw [hR]; exact hS
          have l0 := waits_of hw 3 (by kernel_rfl)
          have e0 : a.tmps.getD 65 undef = .pointer (some ⟨T.rb, 4, none⟩) := (AR.of_sp (hI.val 3 _ 65 l0 rfl rfl) (by rw [rB]; decide)).trans (by subst hR; rfl)
          rw [Array.getD_eq_getD_getElem?] at e0
          have hc := (hxc w1 (by have := hj.a hS'; rw [hR] at this; exact this)).2
          exact lw (.slice (some ⟨T.gb, 0, none⟩) (f + nl) T.E) (by simp [go_sem, e0, hc]) ⟨_, rfl, same hS' 4 (by decide), nop, AR.sp_c (by rw [rB]; decide) (by subst hR; rfl)⟩
        · obtain rfl := Option.some.inj hi
          have hS : L 10 = false := hI.before (i := 5) (j := 10) hL rfl (by kernel_rfl)
          have hS' : L R.S = false := by rw [hR]; exact hS
          have e0 := hI.outer 8 (by kernel_rfl) (.pointer (some ⟨T.fk x, 0, none⟩)) rfl
          rw [Array.getD_eq_getD_getElem?] at e0
          exact lw (.pointer (some ⟨T.fk x, 0, none⟩)) (by simp [go_sem, e0]) ⟨_, rfl, same hS' 5 (by decide), nop, AR.sp_c (by rw [rB]; decide) (by subst hR; rfl)⟩
        · obtain rfl := Option.some.inj hi
          have hS : L 10 = false := hI.before (j := 10) hL rfl (by kernel_rfl)
          have hS' : L R.S = false := by rw [hR]; exact hS
          have l0 := waits_of hw 5 (by kernel_rfl)
          have e0 : a.tmps.getD 67 undef = R.u := (AR.of_sp (hI.val 5 _ 67 l0 rfl rfl) (by rw [rB]; decide)).trans (by subst hR; rfl)
          have f := (Fr.refl [] w1).alloc (.cells #[R.u] 92)
          have hnew : Blk (w1.alloc (.cells #[R.u] 92)) w1.heap.size R.T [R.u] := by rw [rT]; exact Blk.new' _ _ _
          exact ow_build1 trivial 85 92 (.tmp 67) rfl R.u e0 (by subst hR; rfl) Tryd.underlying85 (by kernel_rfl) ⟨_, rfl, hj.alloc hS' f 6 (by rw [rA, rS]; decide), fun j u _ => AR.Sp_fr0 f j u, by unfold AR.Sp; rw [rB, if_pos rfl]; exact ⟨w1.heap.size, rfl, hnew, (hj.a hS').size⟩⟩
        · obtain rfl := Option.some.inj hi
          have hS : L 10 = false := hI.before (j := 10) hL rfl (by kernel_rfl)
          have hS' : L R.S = false := by rw [hR]; exact hS
          have l0 := waits_of hw 4 (by kernel_rfl)
          have l1 := waits_of hw 6 (by kernel_rfl)
          have e0 : a.tmps.getD 66 undef = .slice (some ⟨R.gb, 0, none⟩) R.n R.cap := (AR.of_sp (hI.val 4 _ 66 l0 rfl rfl) (by rw [rB]; decide)).trans (by subst hR; rfl)
          obtain ⟨g, e1, hg, hge⟩ := AR.of_spB (R := R) (by rw [rB]; exact hI.val 6 _ 68 l1 rfl rfl)
          rw [rT] at hg
          have hgb := hj.b (by rw [rA]; exact hL) hS'
          rw [rT] at hgb
          refine ow_app_room (.tmp 66) (.tmp 68) 85 rfl 92 Tryd.underlying85 (by kernel_rfl) R.gb R.n R.cap R.l e0 hgb g R.u e1 hg (by subst hR; rfl) (by subst hR; exact hroomA) (by subst hR; exact hroomL) ?_
          intro w' hf hb
          have hja := hj.app hS' (by rw [rA, rS]; decide) hf (by rw [rT]; exact hb)
          rw [rA] at hja
          exact ⟨_, rfl, hja, fun j u _ => AR.Sp_fr hf hgl j u, AR.sp_c (by rw [rB]; decide) (by subst hR; rfl)⟩
        · obtain rfl := Option.some.inj hi
          have hvia : L 9 = false := hI.before (j := 9) hL rfl (by kernel_rfl)
          have hS : L 10 = false := hI.before (i := 9) (j := 10) hvia rfl (by kernel_rfl)
          have hS' : L R.S = false := by rw [hR]; exact hS
          have l0 := waits_of hw 0 (by kernel_rfl)
          have e0 : a.tmps.getD 62 undef = .pointer (some ⟨T.rb, 0, none⟩) := (AR.of_sp (hI.val 0 _ 62 l0 rfl rfl) (by rw [rB]; decide)).trans (by subst hR; rfl)
          rw [Array.getD_eq_getD_getElem?] at e0
          exact lw (.pointer (some ⟨T.rb, 0, none⟩)) (by simp [go_sem, e0]) ⟨_, rfl, same hS' 8 (by decide), nop, AR.sp_c (by rw [rB]; decide) (by subst hR; rfl)⟩
        · obtain rfl := Option.some.inj hi
          have hS : L 10 = false := hI.before (i := 9) (j := 10) hL rfl (by kernel_rfl)
          have hS' : L R.S = false := by rw [hR]; exact hS
          have l0 := waits_of hw 8 (by kernel_rfl)
          have e0 : a.tmps.getD 70 undef = .pointer (some ⟨T.rb, 0, none⟩) := (AR.of_sp (hI.val 8 _ 70 l0 rfl rfl) (by rw [rB]; decide)).trans (by subst hR; rfl)
          rw [Array.getD_eq_getD_getElem?] at e0
          exact lw (.pointer (some ⟨T.rb, 4, none⟩)) (by simp [go_sem, e0]) ⟨_, rfl, same hS' 9 (by decide), nop, AR.sp_c (by rw [rB]; decide) (by subst hR; rfl)⟩
        · obtain rfl := Option.some.inj hi
          have hS' : L R.S = false := by rw [rS]; exact hL
          have l0 := waits_of hw 9 (by kernel_rfl)
          have l1 := waits_of hw 7 (by kernel_rfl)
          have e0 : a.tmps.getD 71 undef = .pointer (some ⟨T.rb, 4, none⟩) := (AR.of_sp (hI.val 9 _ 71 l0 rfl rfl) (by rw [rB]; decide)).trans (by subst hR; rfl)
          have e1 : a.tmps.getD 69 undef = .slice (some ⟨T.gb, 0, none⟩) (f + nl + 1) T.E := (AR.of_sp (hI.val 7 _ 69 l1 rfl rfl) (by rw [rB]; decide)).trans (by subst hR; rfl)
          rw [Array.getD_eq_getD_getElem?] at e0 e1
          have hSc := hsc w1 (by have := hj.a hS'; rw [hR] at this; exact this)
          have hJ := hj.store hS' (by rw [rA]; exact l1)
          have hSp : ∀ j u, L j = true → R.Sp j w1 u → R.Sp j (w1.setCell ⟨R.sb, R.k, none⟩ R.nv) u := fun j u _ => AR.Sp_fr ((Fr.refl [R.sb] w1).setCell (.inl (by simp)) _) hsl j u
          rw [rS] at hJ
          have hend : R.Sp 10 (w1.setCell ⟨R.sb, R.k, none⟩ R.nv) undef := AR.sp_c (by rw [rB]; decide) (by subst hR; rfl)
          subst hR
          exact lw_skip (by simp [go_sem, e0, e1, hSc.1, hSc.2]; rfl) ⟨_, rfl, hJ, hSp, hend⟩
        · cases hi
      · intro L a w1 hI hall
        have hd := hI.j.d (by rw [rS]; exact hall 10 (by decide))
        rw [hR] at hd
        obtain ⟨w3, g1, g2, g3⟩ := hd
        have hlit := hI.lit [62, 63, 64, 65, 66, 67, 68, 69, 70, 71] (by kernel_rfl)
        rw [hlit]
        simp only [List.foldl, List.setIfInBounds_toArray, List.set_cons_succ, List.set_cons_zero]
        rename (∀ (a : Act) (w : World), Met _ a w → _) => hK
        refine hK _ _ ?_
        go_meet
        case rel => exact ⟨w3, g1, g2, g3⟩
    case rest =>
    clear x0 r4 rz4 b2 hl3 hrow3
    obtain ⟨w3, hfA, hrA, rfl⟩ := hcut
    have hs4 := hs3.app hfA hrA (by rw [length_splice _ _ _ (by simp [hs3.len]; omega)]; exact hs3.len)
    have hf4 : Fr [T.rb, T.gb] wc (w3.setCell ⟨T.rb, 4, none⟩ (.slice (some ⟨T.gb, 0, none⟩) (f + nl + 1) T.E)) := (hfA.mono (by simp)).setCell (.inl (by simp)) _
    generalize w3.setCell ⟨T.rb, 4, none⟩ (.slice (some ⟨T.gb, 0, none⟩) (f + nl + 1) T.E) = w4 at *
    have f2 : w4.cell? ⟨T.fk x, 2, none⟩ = some (pvL x) := (hs4.file x he).cell 2
    have fz := (hs4.file x he).frozen 2
    have f7 : w4.cell? ⟨T.fk x, 7, none⟩ = some (.pointer (some ⟨T.dk x, 0, none⟩)) := (hs4.file x he).cell 7
    have d37 := ((hs4.ent x he).cell 37).trans (dir_child _)
    have hfd : T.fk x ≠ T.dk x := (hs4.file x he).ne (hs4.ent x he) (by decide)
    go_upto_if 83 with (fail)
    have hs5 := hs4.setPath x he (.slice (some ⟨pb, 0, none⟩) p.length pcap)
    have hf5 : Fr [T.fk x] w4 (w4.setCell ⟨T.fk x, 2, none⟩ (.slice (some ⟨pb, 0, none⟩) p.length pcap)) := (Fr.refl _ _).setCell (.inl (by simp)) _
    clear f2 fz f7 d37
    generalize w4.setCell ⟨T.fk x, 2, none⟩ (.slice (some ⟨pb, 0, none⟩) p.length pcap) = w5 at *
    have hp5 : Blk w5 pb 9 (p.map Value.string) := (hp3.fr hf4 (by simp only [List.mem_cons, List.mem_nil_iff, or_false]; rintro (h | h); exact hp3.ne hs3.rd (by decide) h; exact hp3.ne hs3.row (by decide) h)).fr hf5 (by simp only [List.mem_singleton]; exact (hp3.fr hf4 (by simp only [List.mem_cons, List.mem_nil_iff, or_false]; rintro (h | h); exact hp3.ne hs3.rd (by decide) h; exact hp3.ne hs3.row (by decide) h)).ne (hs4.file x he) (by decide))
    have fr0 : w5.cell? ⟨T.fb, 0, none⟩ = some (.func (.func 63) #[] T.caps) := hs5.rec_.cell 0
    have f7 : w5.cell? ⟨T.fk x, 7, none⟩ = some (.pointer (some ⟨T.dk x, 0, none⟩)) := (hs5.file x he).cell 7
    have d37 := ((hs5.ent x he).cell 37).trans (dir_child _)
    generalize hRow : splice (splice row f (l.order.map (fun e => .pointer (some ⟨T.fk e, 0, none⟩)))) (f + nl) [.pointer (some ⟨T.fk x, 0, none⟩)] = row5 at *
    generalize hPv : (fun a => if a = x then Value.slice (some ⟨pb, 0, none⟩) p.length pcap else pvL a) = pv5 at *
    go_cut [9] from 72 to 123 (fun s9 w6 => TPost T c (k + 1 + nl) (f + nl + 1) row5 pv5 (if x = 0 then p else p ++ [(T.P x).name]) w5 w6)
    case first =>
      cases c with
      | nil =>
        have hq : (((fld (T.G x) 76 4 : Nat) : Int) != 4294967295) = false := by rw [show fld (T.G x) 76 4 = 4294967295 from hfc]; rfl
        go_wp2_with fail
        go_meet
        case rel => exact TPost.nil hs5 (Fr.refl _ _)
      | node e' l' c' r' =>
        have hlt : fld (T.G x) 76 4 < T.E := by obtain ⟨h1, h2, _⟩ := hfc; rw [h1]; exact h2
        have hq : (((fld (T.G x) 76 4 : Nat) : Int) != 4294967295) = true := by simp; omega
        simp only [Tr.order, List.length_append, List.length_cons] at hk hf hpl
        by_cases hx0 : x = 0
        · subst hx0
          go_upto_region 16 with (fail)
          go_still_tail 10, (by kernel_rfl)
          change wpList _ _ _ _ _ w5.drew
          go_wp2_with fail
          refine (ihc (fld (T.G 0) 76 4) (k + 1 + nl) (f + nl + 1) row5 pv5 _ p w5.drew (by simp) hfc hndc (hs5.fr0 ((Fr.refl [] w5).drew)) ⟨pb, pcap, rfl, hpb, hp5.drew⟩ (by simp only [Tr.order, List.length_append, List.length_cons]; omega) (by simp only [Tr.order, List.length_append, List.length_cons]; omega) hE (by simp only [Tr.order, List.length_append, List.length_cons]; omega)).mono ?_
          rintro e w3 ⟨rfl, hpost⟩
          go_wp2_with fail
          go_meet
          case rel => simpa using hpost.drew
        · have hx0I : decide ((0 : Int) < (x : Int)) = true := by simp; omega
          have hmk := make_path p.length (by omega)
          have nm0 : w5.cell? ⟨T.fk x, 0, none⟩ = some (.string (T.P x).name) := (hs5.file x he).cell 0
          obtain ⟨nb, hnb⟩ : ∃ nb, w5.heap.size = nb := ⟨_, rfl⟩
          have hB0 := Blk.new w5 9 (tab (p.length + 1) (fun _ => Value.string { data := #[] }))
          rw [hnb] at hB0
          have hxnb : T.fk x < nb := by rw [← hnb]; exact (hs5.file x he).lt
          have hpnb : pb < nb := by rw [← hnb]; exact hp5.lt
          go_wp2_with (with_reducible refine wpList_copy_blk rfl (.tmp 90) (.tmp 91) 35 35 rfl 9 Tryd.underlying35 (by kernel_rfl) _ _ _ _ _ _ rfl rfl nb 0 (tab (p.length + 1) (fun _ => Value.string { data := #[] })) 9 ?_ p.length (fun i => (Option.map Value.string p[i]?).getD .nilIface) ?_ ?_ ?_ ?_ ?_)
          · exact hB0
          · intro _ j hj
            rw [hp5.cell]
            simp [hj]
          · simp
          · intro j hj
            simp [hj, Value.oneCell']
          · intro w8 hf8 hb8
            have hl8 : (splice (tab (p.length + 1) (fun _ => Value.string { data := #[] })) 0 (tab p.length (fun i => (Option.map Value.string p[i]?).getD .nilIface))).length = p.length + 1 := by rw [length_splice _ _ _ (by simp)]; simp
            obtain ⟨v8, hv8⟩ := hb8.some p.length (by rw [hl8]; omega)
            have hz8 := hb8.frozen p.length
            have hf58 : Fr [] w5 w8 := ((Fr.refl [] w5).alloc _).trans hf8 (by simp; omega)
            have nm8 : w8.cell? ⟨T.fk x, 0, none⟩ = some (.string (T.P x).name) := hf58.cell0 nm0
            have hnew : (splice (tab (p.length + 1) (fun _ => Value.string { data := #[] })) 0 (tab p.length (fun i => (Option.map Value.string p[i]?).getD .nilIface))).set p.length (.string (T.P x).name) = (p ++ [(T.P x).name]).map Value.string := by
              apply List.ext_getElem?
              intro i
              by_cases hi : i < p.length
              · rw [List.getElem?_set_ne (by omega), splice_get _ _ _ (by simp), if_pos (by simp; omega), Nat.sub_zero, tab_get _ _ _ hi, List.map_append, List.getElem?_append_left (by simpa using hi)]
                simp [hi]
              · by_cases hi2 : i = p.length
                · subst hi2
                  rw [List.getElem?_set_self (by rw [hl8]; omega), List.map_append, List.getElem?_append_right (by simp)]
                  simp
                · rw [List.getElem?_eq_none (by rw [List.length_set, hl8]; omega), List.getElem?_eq_none (by simp; omega)]
            have hb9 := hb8.set p.length (.string (T.P x).name)
            rw [hnew] at hb9
            have hf59 : Fr [] w5 (w8.setCell ⟨nb, p.length, none⟩ (.string (T.P x).name)) := hf58.setCell (.inr (by simp; omega)) _
            clear hb8 hf8 hB0 hnew hl8
            go_upto_region 15 with (fail)
            generalize w8.setCell ⟨nb, p.length, none⟩ (.string (T.P x).name) = w9 at *
            have g0 := hf59.cell0 fr0
            have g7 := hf59.cell0 f7
            have g37 := hf59.cell0 d37
            go_still_tail 10, (by kernel_rfl)
            change wpList _ _ _ _ _ w9.drew
            go_wp2_with fail
            refine (ihc (fld (T.G x) 76 4) (k + 1 + nl) (f + nl + 1) row5 pv5 _ (p ++ [(T.P x).name]) w9.drew (by simp) hfc hndc (hs5.fr0 hf59.drew) ⟨nb, p.length + 1, by simp, by omega, hb9.drew⟩ (by simp only [Tr.order, List.length_append, List.length_cons]; omega) (by simp only [Tr.order, List.length_append, List.length_cons]; omega) hE (by simp only [Tr.order, List.length_append, List.length_cons, List.length_nil]; omega)).mono ?_
            rintro e w3 ⟨rfl, hpost⟩
            go_wp2_with fail
            go_meet
            case rel =>
              rw [if_neg hx0]
              exact ⟨(hf59.drew.mono (by simp)).trans_same hpost.1, hpost.2⟩
    case rest =>
    clear fr0 f7 d37
    obtain ⟨hfC, pvC, hsC, hpvC, hpaC⟩ := hcut
    have hpC : Blk wc pb 9 (p.map Value.string) := hp5.fr hfC (hs5.no9 hfc.lt _ _ hp5)
    have fr0 : wc.cell? ⟨T.fb, 0, none⟩ = some (.func (.func 63) #[] T.caps) := hsC.rec_.cell 0
    have f7 : wc.cell? ⟨T.fk x, 7, none⟩ = some (.pointer (some ⟨T.dk x, 0, none⟩)) := (hsC.file x he).cell 7
    have d36 := ((hsC.ent x he).cell 36).trans (dir_right _)
    have hjoin : ∀ wR, TPost T r (k + 1 + nl + c.order.length) (f + nl + 1 + c.order.length) (splice row5 (f + nl + 1) (c.order.map (fun e => .pointer (some ⟨T.fk e, 0, none⟩)))) pvC p wc wR → TPost T (.node x l c r) k f row pv p w wR := by
      intro wR hR
      subst hol
      exact TPost.join hst he hfl.lt hfc.lt hfr.lt hnd ⟨pb, pcap, rfl, hpb, hpB0⟩ (by omega) hf13 hs3 hpvL hpaL hf4 hf5 hPv.symm rfl (by rw [hRow]) hfC hsC hpvC hpaC hR
    have HJ := Lib.hid hjoin
    clear hjoin
    cases r with
    | nil =>
      have hq : (((fld (T.G x) 72 4 : Nat) : Int) != 4294967295) = false := by rw [show fld (T.G x) 72 4 = 4294967295 from hfr]; rfl
      go_wp2_with fail
      go_end0
      exact ⟨rfl, HJ.out _ (TPost.nil hsC (Fr.refl _ _))⟩
    | node e' l' c' r' =>
      have hlt : fld (T.G x) 72 4 < T.E := by obtain ⟨h1, h2, _⟩ := hfr; rw [h1]; exact h2
      have hq : (((fld (T.G x) 72 4 : Nat) : Int) != 4294967295) = true := by simp; omega
      go_upto_region 18 with (fail)
      go_still_tail 10, (by kernel_rfl)
      change wpList _ _ _ _ _ wc.drew
      go_wp2_with fail
      refine (ihr (fld (T.G x) 72 4) (k + 1 + nl + c.order.length) (f + nl + 1 + c.order.length) _ pvC _ p wc.drew (by simp) hfr hndr (hsC.fr0 ((Fr.refl [] wc).drew)) ⟨pb, pcap, rfl, hpb, hpC.drew⟩ (by omega) (by omega) hE (by omega)).mono ?_
      rintro e w3 ⟨rfl, hpost⟩
      go_wp2_with fail
      go_end0
      exact ⟨rfl, HJ.out _ hpost.drew⟩
end Go.Proofs.YtokpomdfgbbhlaaDoor

/- The contract of (*Reader).traverse. -/
namespace Go.Proofs.YtokpomdfgbbhlaaDoor
open Go Go.RowKit Go.Maps

theorem make_files (n : Nat) (h : n ≤ 200000) (w : World) : (Instr.makeSlice 85 (.int .i64 0) (.int .i64 (n : Int))).run Tryd.prog w =
    .ok (.slice (some ⟨w.heap.size, 0, none⟩) 0 n) (w.alloc (.cells (tab n (fun _ => Value.pointer none)).toArray 92)) := by
  have := make_tab Tryd.underlying85 info92 rfl 0 n (Nat.zero_le _) (by omega) (by omega) w
  simpa using this

theorem run_store_func (w : World) (a : Addr) (fn : Fn) (first cap : Array Value) (m : Mode) : (store a (.func fn first cap) m).run Tryd.prog w = stored Tryd.prog w a (.func fn first cap) m := run_store Tryd.prog w a _ m rfl
attribute [local go_sem] run_store_func

set_option maxRecDepth 100000 in
set_option maxHeartbeats 1000000 in
theorem traverse_any (rb sb ub ul uc ss dg dcap E base : Nat) (hdr wa : Value) (G : Nat → Nat → UInt8) (P : Nat → EntP) (fk dk : Nat → Nat) (t : Tr) (dl : List Value) (w : World)
    (hrd : Blk w rb 91 (rdCells ss (.slice (some ⟨ub, 0, none⟩) ul uc) hdr (.slice none 0 0) (.slice (some ⟨dg, 0, none⟩) E dcap) 0 sb wa))
    (hda : Blk w dg 92 dl) (hdb : ∀ e, e < E → dl[e]? = some (.pointer (some ⟨fk e, 0, none⟩)))
    (hfile : ∀ e, e < E → Blk w (fk e) 95 (flCells (P e).name (P e).init (.slice none 0 0) (P e).size 0 (fld (G e) 116 4) 0 (dk e) rb))
    (hent : ∀ e, e < E → Blk w (dk e) 119 (tab 69 (dirL12 (G e)))) (hinj : ∀ a b, a < E → b < E → fk a = fk b → a = b)
    (ht : t ≠ .nil) (hfit : t.Fits E G 0) (hnd : t.order.Nodup) (hlen : t.order.length ≤ E) (hE : E ≤ 100000) :
    Calls Tryd.prog 53 #[.pointer (some ⟨rb, 0, none⟩)] w fun e w' => e = .returned .nilIface ∧ Fr (rb :: t.order.map fk) w w' ∧
      ∃ (gb : Nat) (pv : Nat → Value), w.heap.size ≤ gb ∧ Blk w' rb 91 (rdCells ss (.slice (some ⟨ub, 0, none⟩) ul uc) hdr (.slice (some ⟨gb, 0, none⟩) t.order.length E) (.slice (some ⟨dg, 0, none⟩) E dcap) 0 sb wa) ∧
        (∀ i, i < t.order.length → w'.cell? ⟨gb, i, none⟩ = some (.pointer (some ⟨fk (t.order.getD i 0), 0, none⟩))) ∧
        (∀ e, e < E → Blk w' (fk e) 95 (flCells (P e).name (P e).init (pv e) (P e).size 0 (fld (G e) 116 4) 0 (dk e) rb)) ∧ (∀ e, e < E → Blk w' (dk e) 119 (tab 69 (dirL12 (G e)))) ∧
        ∀ q ∈ t.paths (fun e => (P e).name) [], PathIs w' w.heap.size (pv q.1) q.2 := by
  have hmk := make_files E (by omega)
  have hmf : ∀ (fn : Fn) (first cap : Array Value) (w : World), (Instr.makeFunc fn first cap).run Tryd.prog w = .ok (.func fn first cap) w := fun _ _ _ _ => rfl
  have lr := hrd.lt
  go_enter Tryd.func53, Tryd.ntmps53
  go_upto_region 1 with (fail)
  have hf1 : Fr [] w (w.alloc (Obj.cells #[Value.pointer (some { block := rb, off := 0 })] 80)) := (Fr.refl _ _).alloc _
  have hx1 := Blk.new' w 80 #[Value.pointer (some { block := rb, off := 0 })]
  have hsz1 : w.heap.size < (w.alloc (Obj.cells #[Value.pointer (some { block := rb, off := 0 })] 80)).heap.size := by simp
  generalize w.alloc (Obj.cells #[Value.pointer (some { block := rb, off := 0 })] 80) = w1 at *
  generalize hxb : w.heap.size = xb at *
  obtain ⟨gb, hgb⟩ : ∃ gb, w1.heap.size = gb := ⟨_, rfl⟩
  have hrd1 := hrd.fr0 hf1
  have x0 : w1.cell? ⟨xb, 0, none⟩ = some (.pointer (some ⟨rb, 0, none⟩)) := hx1.cell 0
  have h4 : w1.cell? ⟨rb, 4, none⟩ = some (.slice none 0 0) := hrd1.cell 4
  have z4 := hrd1.frozen 4
  have h5 : w1.cell? ⟨rb, 5, none⟩ = some (.slice (some ⟨dg, 0, none⟩) E dcap) := hrd1.cell 5
  have hfa : Fr [] w1 (w1.alloc (Obj.cells (tab E (fun _ => Value.pointer none)).toArray 92)) := (Fr.refl _ _).alloc _
  have hrda := hrd1.fr0 hfa
  have x0a := hfa.cell0 x0
  have h4a := hfa.cell0 h4
  have h5a := hfa.cell0 h5
  have z4a := hrda.frozen 4
  go_cut [] from 6 to 14 (fun w2 => Fr [rb] w1 w2 ∧ Blk w2 rb 91 (rdCells ss (.slice (some ⟨ub, 0, none⟩) ul uc) hdr (.slice (some ⟨gb, 0, none⟩) 0 E) (.slice (some ⟨dg, 0, none⟩) E dcap) 0 sb wa) ∧ Blk w2 gb 92 (tab E (fun _ => Value.pointer none)))
  case first =>
    go_region
    all_goals
      go_wp2_with fail
      go_meet
      case rel =>
        exact ⟨((hfa.mono (by simp)).setCell (.inl (by simp)) _).drew, (hrda.set 4 _).drew, by
          subst hgb
          exact ((Blk.new _ _ _).setOther (by simp; omega) _).drew⟩
  case rest =>
  clear h4 z4 h5 h4a h5a z4a x0a x0 hrda hfa
  obtain ⟨hf2, hrd2, hg2⟩ := hcut
  have hx2 := hx1.fr hf2 (by simp; omega)
  go_upto_region 5 with (fail)
  have hf3 : Fr [] wc (((wc.alloc (Obj.cells #[Value.nilFunc] 102)).alloc (Obj.cells #[Value.nilIface] 104)).alloc (Obj.cells #[Value.int IntKind.i64 0] 3)) := (((Fr.refl _ _).alloc _).alloc _).alloc _
  have b1 := ((Blk.new' wc 102 #[Value.nilFunc]).alloc (Obj.cells #[Value.nilIface] 104)).alloc (Obj.cells #[Value.int IntKind.i64 0] 3)
  have b2 := (Blk.new' (wc.alloc (Obj.cells #[Value.nilFunc] 102)) 104 #[Value.nilIface]).alloc (Obj.cells #[Value.int IntKind.i64 0] 3)
  have b3 := Blk.new' ((wc.alloc (Obj.cells #[Value.nilFunc] 102)).alloc (Obj.cells #[Value.nilIface] 104)) 3 #[Value.int IntKind.i64 0]
  simp only [World.size_alloc] at b2 b3
  generalize ((wc.alloc (Obj.cells #[Value.nilFunc] 102)).alloc (Obj.cells #[Value.nilIface] 104)).alloc (Obj.cells #[Value.int IntKind.i64 0] 3) = w3 at *
  have hwc : gb < wc.heap.size := hg2.lt
  generalize wc.heap.size = fb at *
  have hrd3 := hrd2.fr0 hf3
  have hg3 := hg2.fr0 hf3
  have hx3 := hx2.fr0 hf3
  have hF3 : Fr [rb] w w3 := ((hf1.mono (by simp)).trans_same hf2).trans0 hf3
  have c0 : w3.cell? ⟨fb, 0, none⟩ = some .nilFunc := b1.cell 0
  have cz := b1.frozen 0
  go_upto_region 6 with (fail)
  obtain ⟨T, hT⟩ : ∃ T : TEnv, T = { cb := fb + 1 + 1, xb := xb, eb := fb + 1, fb := fb, rb := rb, hb := 0, sb := sb, ub := ub, ul := ul, uc := uc, ss := ss, gb := gb, dg := dg, dcap := dcap, E := E, base := xb, hdr := hdr, wa := wa, G := G, P := P, fk := fk, dk := dk } := ⟨_, rfl⟩
  have hdgb : dg < xb := by rw [← hxb]; exact hda.lt
  have hxg : xb < gb := by omega
  have n1 : ∀ e, e < E → fk e < xb := fun e he => by rw [← hxb]; exact (hfile e he).lt
  have n2 : ∀ e, e < E → dk e < xb := fun e he => by rw [← hxb]; exact (hent e he).lt
  have hst : TSt T (w3.setCell ⟨fb, 0, none⟩ (.func (.func 63) #[] #[.pointer (some ⟨fb + 1 + 1, 0, none⟩), .pointer (some ⟨xb, 0, none⟩), .pointer (some ⟨fb + 1, 0, none⟩), .pointer (some ⟨fb, 0, none⟩)])) 0 0 (tab E (fun _ => Value.pointer none)) (fun _ => .slice none 0 0) := by
    subst hT
    exact {
      cnt := b3.setOther (by simp; omega) _
      box := hx3.setOther (by simp; omega) _
      err := b2.setOther (by simp) _
      rec_ := b1.set 0 _
      rd := hrd3.setOther (by simp; omega) _
      row := hg3.setOther (by simp; omega) _
      len := by simp
      dir := ⟨dl, (hda.fr hF3 (by simpa using hda.ne hrd (by decide))).setOther (by simp; omega) _, hdb⟩
      file := fun e he => ((hfile e he).fr hF3 (by simpa using (hfile e he).ne hrd (by decide))).setOther (by have := n1 e he; simp; omega) _
      ent := fun e he => ((hent e he).fr hF3 (by simpa using (hent e he).ne hrd (by decide))).setOther (by have := n2 e he; simp; omega) _
      inj := hinj
      gdg := by simp; omega
      base := by have := hF3.size; simp; omega }
  have hF4 := hF3.setCell (p := ⟨fb, 0, none⟩) (.inr (by simp; omega)) (.func (.func 63) #[] #[.pointer (some ⟨fb + 1 + 1, 0, none⟩), .pointer (some ⟨xb, 0, none⟩), .pointer (some ⟨fb + 1, 0, none⟩), .pointer (some ⟨fb, 0, none⟩)])
  clear b1 b2 b3 c0 cz hrd3 hg3 hx3 hF3
  generalize w3.setCell ⟨fb, 0, none⟩ (.func (.func 63) #[] #[.pointer (some ⟨fb + 1 + 1, 0, none⟩), .pointer (some ⟨xb, 0, none⟩), .pointer (some ⟨fb + 1, 0, none⟩), .pointer (some ⟨fb, 0, none⟩)]) = w4 at *
  have c0 : w4.cell? ⟨fb, 0, none⟩ = some (.func (.func 63) #[] #[.pointer (some ⟨fb + 1 + 1, 0, none⟩), .pointer (some ⟨xb, 0, none⟩), .pointer (some ⟨fb + 1, 0, none⟩), .pointer (some ⟨fb, 0, none⟩)]) := by
    have := hst.rec_.cell 0
    subst hT
    exact this
  have hsz4 : xb ≤ w4.heap.size := by have := hF4.size; omega
  have hcon := Lib.hid (trav_any T t 0 0 0 (tab E (fun _ => Value.pointer none)) (fun _ => .slice none 0 0) (.slice (some ⟨w4.heap.size, 0, none⟩) 0 0) [] (w4.alloc (Obj.cells #[] 9)) ht (by subst hT; exact hfit) hnd (hst.fr0 ((Fr.refl [] w4).alloc _)) ⟨w4.heap.size, 0, rfl, by subst hT; exact hsz4, Blk.new' w4 9 #[]⟩ (by subst hT; simpa using hlen) (by subst hT; simpa using hlen) (by subst hT; exact hE) (by simp; omega))
  rw [hT] at hcon
  go_wp2_with fail
  refine hcon.out.mono ?_
  rintro e w6 ⟨rfl, hfP, pv', hsP, _, hpaP⟩
  have c1 : w6.cell? ⟨fb + 1, 0, none⟩ = some .nilIface := hsP.err.cell 0
  go_wp2_with fail
  go_ret
  refine ⟨rfl, ?_, gb, pv', by omega, ?_, ?_, hsP.file, hsP.ent, by rw [hxb]; exact hpaP⟩
  · refine (hF4.mono (ms' := rb :: t.order.map fk) (by simp)).trans (((Fr.refl ((fb + 1 + 1) :: rb :: gb :: t.order.map fk) w4).alloc (Obj.cells #[] 9)).trans_same hfP) ?_
    intro b hb
    simp only [List.mem_cons] at hb ⊢
    rcases hb with rfl | rfl | rfl | hb
    · exact .inr (by omega)
    · exact .inl (.inl rfl)
    · exact .inr (by omega)
    · exact .inl (.inr hb)
  · have := hsP.rd
    rw [Nat.zero_add] at this
    exact this
  · intro i hi
    have h0 := hsP.row.cell i
    rw [splice_get _ _ _ (by simp; omega), if_pos (by simp; omega), Nat.sub_zero, List.getElem?_map] at h0
    rw [h0, List.getD_eq_getElem?_getD]
    simp [hi]
end Go.Proofs.YtokpomdfgbbhlaaDoor

/- The contract of New over a sound file. -/
namespace Go.Proofs.YtokpomdfgbbhlaaDoor
open Go Go.RowKit Go.Maps

/-- A reader stands in memory. -/
structure RdOK (w : World) (base rb sb : Nat) (F : Nat → UInt8) (ss m : Nat) (cs : Nat → Nat) (P : Nat → EntP) (t : Tr) (mn mm : Nat) (mf ms : Nat → Nat)
    (hb fb gb dg dcap ub ul uc : Nat) (fk dk : Nat → Nat) (pv : Nat → Value) (mfv msv : Value) : Prop where
  rb_ : base ≤ rb
  rd : Blk w rb 91 (rdCells ss (.slice (some ⟨ub, 0, none⟩) ul uc) (.pointer (some ⟨hb, 0, none⟩)) (.slice (some ⟨gb, 0, none⟩) t.order.length (m * (ss / 128))) (.slice (some ⟨dg, 0, none⟩) (m * (ss / 128)) dcap) 0 sb .nilIface)
  hd : Blk w hb 142 (hdCells fb (.slice (some ⟨fb, 45, none⟩) 109 109) mfv msv)
  hdb : base ≤ hb
  fd : Blk w fb 147 (hdrN F 109)
  files : ∀ i, i < t.order.length → w.cell? ⟨gb, i, none⟩ = some (.pointer (some ⟨fk (t.order.getD i 0), 0, none⟩))
  file : ∀ e, e < m * (ss / 128) → Blk w (fk e) 95 (flCells (P e).name (P e).init (pv e) (P e).size 0 (fld (entB F ss cs e) 116 4) 0 (dk e) rb)
  fileb : ∀ e, e < m * (ss / 128) → base ≤ fk e
  filei : ∀ a b, a < b → b < m * (ss / 128) → fk a < fk b
  ent : ∀ e, e < m * (ss / 128) → Blk w (dk e) 119 (tab 69 (dirL12 (entB F ss cs e)))
  path : ∀ q ∈ t.paths (fun e => (P e).name) [], PathIs w base (pv q.1) q.2
  mini : mn = 0 ∨ ∃ fb' sb' k, mfv = .slice (some ⟨fb', 0, none⟩) mn mn ∧ msv = .slice (some ⟨sb', 0, none⟩) mm k ∧ base ≤ fb' ∧ base ≤ sb' ∧ mm ≤ k ∧
    (∀ i, i < mn → w.cell? ⟨fb', i, none⟩ = some (.int .u32 (mf i : Nat))) ∧ (∀ i, i < mm → w.cell? ⟨sb', i, none⟩ = some (.int .u32 (ms i : Nat)))

theorem info5 : (Tryd.prog.info? 5).map (fun i => (i.zero, i.size, i.bytes)) = some (some (.int .u8 0), 1, 1) := by kernel_rfl
theorem make_buf (c : Nat) (h : c ≤ 1000000) (w : World) : (Instr.makeSlice 23 (.int .i64 c) (.int .i64 c)).run Tryd.prog w = .ok (.slice (some ⟨w.heap.size, 0, none⟩) c c) (w.alloc (.cells (tab c (fun _ => .int .u8 0)).toArray 5)) :=
  make_tab Tryd.underlying23 info5 rfl c c (Nat.le_refl _) (by omega) (by omega) w

theorem make_buf32 (w : World) : (Instr.makeSlice 23 (.int .u32 4096) (.int .u32 4096)).run Tryd.prog w = .ok (.slice (some ⟨w.heap.size, 0, none⟩) 4096 4096) (w.alloc (.cells (tab 4096 (fun _ => .int .u8 0)).toArray 5)) := by
  obtain ⟨i, h1, h2, h3, h4⟩ := info_parts info5
  have := run_make (P := Tryd.prog) w 23 5 i (.int .u8 0) Tryd.underlying23 h1 h2 .u32 .u32 4096 4096 (by omega) (by omega) (by rw [h4]; omega) (by omega)
  rw [this, h3]
  have h := madeCells_tab (.int .u8 0) 4096 rfl
  rw [show (4096 : Int).toNat = 4096 from rfl, h]

theorem as81_127 (v : Value) (w : World) : (Instr.typeAssert (.iface 81 v) 87 127 true).run Tryd.prog w = .ok (.tuple #[.nilIface, .bool false]) w := run_typeAssert_lacksB Tryd.underlying127 (by kernel_rfl) (by kernel_rfl) v 87 w

set_option maxRecDepth 100000 in
set_option maxHeartbeats 1000000 in
theorem new_ok (sb bb n cap ss m mn mm : Nat) (F : Nat → UInt8) (cs mf ms : Nat → Nat) (P : Nat → EntP) (t : Tr) (w : World) (hS : Src w sb bb n cap F) (hF : FileOK F n ss m cs P t mn mm mf ms)
    (hp : ∀ i, 65 ≤ i → i ≤ 90 → w.cell? ⟨2, i, none⟩ = some (.int .u8 160)) (h2w : 2 < w.heap.size) :
    Calls Tryd.prog 42 #[.iface 81 (.pointer (some ⟨sb, 0, none⟩))] w fun e w' =>
      ∃ (rb hb fb gb dg dcap ub ul uc : Nat) (fk dk : Nat → Nat) (pv : Nat → Value) (mfv msv : Value), e = .returned (.tuple #[.pointer (some ⟨rb, 0, none⟩), .nilIface]) ∧ Fr [] w w' ∧
        RdOK w' w.heap.size rb sb F ss m cs P t mn mm mf ms hb fb gb dg dcap ub ul uc fk dk pv mfv msv := by
  have hmk : ∀ w : World, (Instr.makeSlice 23 (.int .i64 512) (.int .i64 512)).run Tryd.prog w = .ok (.slice (some ⟨w.heap.size, 0, none⟩) 512 512) (w.alloc (.cells (tab 512 (fun _ => .int .u8 0)).toArray 5)) := make_buf 512 (by omega)
  go_enter Tryd.func42, Tryd.ntmps42
  have hta := as81_127
  go_upto_region 2 with (fail)
  have hf1 : Fr [] w (w.alloc (Obj.cells #[.bool false, .int .u32 0, .slice none 0 0, .pointer none, .slice none 0 0, .slice none 0 0, .int .i64 0, .iface 81 (.pointer (some ⟨sb, 0, none⟩)), .nilIface] 91)) := (Fr.refl _ _).alloc _
  have hrb1 := Blk.new' w 91 #[.bool false, .int .u32 0, .slice none 0 0, .pointer none, .slice none 0 0, .slice none 0 0, .int .i64 0, .iface 81 (.pointer (some ⟨sb, 0, none⟩)), .nilIface]
  generalize w.alloc (Obj.cells #[.bool false, .int .u32 0, .slice none 0 0, .pointer none, .slice none 0 0, .slice none 0 0, .int .i64 0, .iface 81 (.pointer (some ⟨sb, 0, none⟩)), .nilIface] 91) = w1 at *
  generalize hrb : w.heap.size = rb at *
  have hr1 : rb < w1.heap.size := hrb1.lt
  have c2 : w1.cell? ⟨rb, 2, none⟩ = some (.slice none 0 0) := hrb1.cell 2
  have z2 := hrb1.frozen 2
  have hba := (hrb1.alloc (Obj.cells (tab 512 (fun _ => Value.int .u8 0)).toArray 5))
  have c2a : (w1.alloc (Obj.cells (tab 512 (fun _ => Value.int .u8 0)).toArray 5)).cell? ⟨rb, 2, none⟩ = some (.slice none 0 0) := hba.cell 2
  have z2a := hba.frozen 2
  go_upto_region 6 with (fail)
  have hrb2 : Blk ((w1.setCell ⟨rb, 2, none⟩ (.slice (some ⟨w1.heap.size, 0, none⟩) 512 512)).alloc (Obj.cells (tab 512 (fun _ => Value.int .u8 0)).toArray 5)) rb 91 (rdCells 0 (.slice (some ⟨w1.heap.size, 0, none⟩) 512 512) (.pointer none) (.slice none 0 0) (.slice none 0 0) 0 sb .nilIface) := (hrb1.set 2 _).alloc _
  have hub2 := Blk.new (w1.setCell ⟨rb, 2, none⟩ (.slice (some ⟨w1.heap.size, 0, none⟩) 512 512)) 5 (tab 512 (fun _ => Value.int .u8 0))
  rw [show (w1.setCell ⟨rb, 2, none⟩ (.slice (some ⟨w1.heap.size, 0, none⟩) 512 512)).heap.size = w1.heap.size by simp] at hub2
  have hF2 : Fr [] w ((w1.setCell ⟨rb, 2, none⟩ (.slice (some ⟨w1.heap.size, 0, none⟩) 512 512)).alloc (Obj.cells (tab 512 (fun _ => Value.int .u8 0)).toArray 5)) := (hf1.setCell (p := ⟨rb, 2, none⟩) (.inr (by simp; omega)) _).alloc _
  have hwu : w.heap.size < w1.heap.size := by omega
  clear c2 z2 c2a z2a hba hrb1 hf1
  generalize (w1.setCell ⟨rb, 2, none⟩ (.slice (some ⟨w1.heap.size, 0, none⟩) 512 512)).alloc (Obj.cells (tab 512 (fun _ => Value.int .u8 0)).toArray 5) = w2 at *
  generalize w1.heap.size = ub at *
  go_wp2_with fail
  refine (setHeader_any rb sb bb n cap ub 512 ss F _ w2 (hS.fr0 hF2) hF.n0 hrb2 (by omega) hub2 (by simp) hF.hdr).mono ?_
  rintro e w3 ⟨rfl, hf3, hb, fb, hhb0, hfb0, hrb3, hhb3, hfb3, L3, hub3, hl3⟩
  have hF3 : Fr [] w w3 := hF2.trans hf3 (by simp; omega)
  have hhb0' : rb < hb := by have := hrb2.lt; omega
  clear hrb2 hub2 hf3
  go_upto_region 9 with (fail)
  have hss : ss = 512 ∨ ss = 4096 := by rcases hF.hdr.shift with h | h <;> simp [h.2]
  have HSs := Lib.hid hss
  have r0 : w3.cell? ⟨rb, 0, none⟩ = some (.bool false) := hrb3.cell 0
  have r1 : w3.cell? ⟨rb, 1, none⟩ = some (.int .u32 ss) := hrb3.cell 1
  have r2 : w3.cell? ⟨rb, 2, none⟩ = some (.slice (some ⟨ub, 0, none⟩) 512 512) := hrb3.cell 2
  have z2 := hrb3.frozen 2
  go_cut [50] from 33 to 49 (fun s50 w4 => Fr [] w3 w4 ∧ s50 = .bool (decide (512 < ss)))
  case first =>
    rcases hss with rfl | rfl
    · go_quiet (fail)
      go_wp2_with fail
      go_meet
      case rel => exact ⟨(Fr.refl _ _).drewN _, rfl⟩
    · go_quiet (fail)
      go_wp2_with fail
      go_meet
      case rel => exact ⟨(Fr.refl _ _).drewN _, rfl⟩
  case rest =>
  obtain ⟨hf4, rfl⟩ := hcut
  have hF4 := hF3.trans0 hf4
  have hrb4 := hrb3.fr0 hf4
  have hhb4 := hhb3.fr0 hf4
  have hfb4 := hfb3.fr0 hf4
  have hub4 := hub3.fr0 hf4
  have hru : rb ≠ ub := hrb3.ne hub3 (by decide)
  clear r0 r1 r2 z2 hrb3 hhb3 hfb3 hub3 hF3
  go_upto_if 50 with (fail)
  go_cut [] from 51 to 58 (fun w5 => Fr [] w w5 ∧ ∃ (ub ul uc : Nat) (L : List Value), ss ≤ ul ∧ ul ≤ uc ∧ uc ≤ 9223372036854775807 ∧ w.heap.size < ub ∧
    Blk w5 rb 91 (rdCells ss (.slice (some ⟨ub, 0, none⟩) ul uc) (.pointer (some ⟨hb, 0, none⟩)) (.slice none 0 0) (.slice none 0 0) 0 sb .nilIface) ∧
    Blk w5 hb 142 (hdCells fb (.slice none 0 0) (.slice none 0 0) (.slice none 0 0)) ∧ Blk w5 fb 147 (hdrN F 109) ∧ Blk w5 ub 5 L ∧ ss ≤ L.length)
  case first =>
    have r1 : wc.cell? ⟨rb, 1, none⟩ = some (.int .u32 ss) := hrb4.cell 1
    have r2 : wc.cell? ⟨rb, 2, none⟩ = some (.slice (some ⟨ub, 0, none⟩) 512 512) := hrb4.cell 2
    have z2 := hrb4.frozen 2
    rcases hss with rfl | rfl
    · go_wp2_with fail
      go_meet
      case rel => exact ⟨hF4, ub, 512, 512, L3, by omega, by omega, by omega, hwu, hrb4, hhb4, hfb4, hub4, by rw [hl3]; simp⟩
    · have hmk2 : ∀ w : World, (Instr.makeSlice 23 (.int .u32 4096) (.int .u32 4096)).run Tryd.prog w = .ok (.slice (some ⟨w.heap.size, 0, none⟩) 4096 4096) (w.alloc (.cells (tab 4096 (fun _ => .int .u8 0)).toArray 5)) := make_buf32
      have hba := (hrb4.alloc (Obj.cells (tab 4096 (fun _ => Value.int .u8 0)).toArray 5))
      have c2a : (wc.alloc (Obj.cells (tab 4096 (fun _ => Value.int .u8 0)).toArray 5)).cell? ⟨rb, 2, none⟩ = some (.slice (some ⟨ub, 0, none⟩) 512 512) := hba.cell 2
      have z2a := hba.frozen 2
      go_wp2_with fail
      go_meet
      case rel =>
        refine ⟨(hF4.alloc _).setCell (.inr (by simp; omega)) _, wc.heap.size, 4096, 4096, _, by omega, by omega, by omega, ?_, hba.set 2 _, (hhb4.alloc _).setOther (by simp; omega) _, (hfb4.alloc _).setOther (by have := hrb4.ne hfb4 (by decide); simpa using this) _, (Blk.new wc 5 (tab 4096 (fun _ => Value.int .u8 0))).setOther ?_ _, by simp⟩
        · have := hF4.size; have := hub4.lt; omega
        · have := hrb4.lt; simp; omega
  case rest =>
  clear hrb4 hhb4 hfb4 hub4 hF4 hmk hta
  obtain ⟨hF5, ub2, ul, uc, L5, hul1, hul2, hul3, hub0, hrb5, hhb5, hfb5, hub5, hL5⟩ := hcut
  have hbbl : bb < w.heap.size := World.block_lt_of_cell? w _ (hS.bytes 0 (by have := hF.n0; omega))
  have hsbl : sb < w.heap.size := World.block_lt_of_cell? w _ hS.sc
  have hrh : rb ≠ hb := hrb5.ne hhb5 (by decide)
  have hru5 : rb ≠ ub2 := hrb5.ne hub5 (by decide)
  have hhu5 : hb ≠ ub2 := hhb5.ne hub5 (by decide)
  have hfr5 : fb ≠ rb := hfb5.ne hrb5 (by decide)
  have hfh5 : fb ≠ hb := hfb5.ne hhb5 (by decide)
  have hfu5 : fb ≠ ub2 := hfb5.ne hub5 (by decide)
  have HP := Lib.hid hp
  clear hp
  go_wp2_with fail
  refine (setDifats_any rb hb fb F _ (hrb5.cell 3) hhb5 hfb5 hF.hdr.ndf hrh).mono ?_
  rintro e w6 ⟨rfl, hf6, hhb6⟩
  have hF6 : Fr [] w w6 := hF5.trans hf6 (by simp; omega)
  have hrb6 := hrb5.fr hf6 (by simpa using hrh)
  have hfb6 := hfb5.fr hf6 (by simpa using hfh5)
  have hub6 := hub5.fr hf6 (by simpa using hhu5.symm)
  clear hrb5 hhb5 hfb5 hub5 hf6 hF5
  go_wp2_with fail
  refine (setDir_any rb hb fb sb bb n cap ub2 ul uc ss F _ m cs P w6 (hS.fr0 hF6) hF.n1 HSs.out hrb6 ⟨hul2, hul3⟩ hul1 hhb6 hfb6 hub6 hL5 (by omega) (by omega) (fun i a b => hF6.cell0 (HP.out i a b)) (by omega) (by have := hF6.size; omega) hF.maj hF.dir hF.m1 hF.m2 hF.ent).mono ?_
  rintro e w7 ⟨rfl, hf7, fk, dk, v, hfi7, hmo7, hown7, hrb7, L7, hub7, hl7⟩
  have hF7 : Fr [] w w7 := hF6.trans hf7 (by simp; omega)
  have hE1 : 1 ≤ m * (ss / 128) := by
    have := HSs.out
    have h4 : 1 ≤ ss / 128 := by omega
    exact Nat.mul_le_mul hF.m1 h4
  obtain ⟨dg, dcap, dl, rfl, hdg0, hdg7, hdl⟩ := own_blk hown7 hE1
  have hhb7 := hhb6.fr hf7 (by simp; exact ⟨hrh.symm, hhu5⟩)
  have hfb7 := hfb6.fr hf7 (by simp; exact ⟨hfr5, hfu5⟩)
  have hs6 := hF6.size
  clear hrb6 hhb6 hfb6 hub6 hf7
  have hS7 := hS.fr0 hF7
  have hg0 : w7.cell? ⟨dg, 0, none⟩ = some (.pointer (some ⟨fk 0, 0, none⟩)) := (hdg7.cell 0).trans (hdl 0 (by omega))
  have hfile0 := hfi7 0 (by omega)
  have hmini : Calls Tryd.prog 52 #[.pointer (some ⟨rb, 0, none⟩)] w7 fun e w' => e = .returned .nilIface ∧ Fr [hb] w7 w' ∧ ∃ mfv msv, Blk w' hb 142 (hdCells fb (.slice (some ⟨fb, 45, none⟩) 109 109) mfv msv) ∧
      (mn = 0 ∨ ∃ fb' sb' k, mfv = .slice (some ⟨fb', 0, none⟩) mn mn ∧ msv = .slice (some ⟨sb', 0, none⟩) mm k ∧ w7.heap.size ≤ fb' ∧ w7.heap.size ≤ sb' ∧ mm ≤ k ∧
        (∀ i, i < mn → w'.cell? ⟨fb', i, none⟩ = some (.int .u32 (mf i : Nat))) ∧ (∀ i, i < mm → w'.cell? ⟨sb', i, none⟩ = some (.int .u32 (ms i : Nat)))) := by
    rcases hF.mini with ⟨h0, h1⟩ | ⟨a1, a2, a3, a4, a5, a6, a7, a8, a9⟩
    · refine (setMini_none rb hb fb ss dg (fk 0) (dk 0) (m * (ss / 128)) dcap F (entB F ss cs 0) _ _ _ _ _ _ _ sb w7 hrb7 hE1 hhb7 hfb7 hg0 (hfile0.2.2.1.cell 7) hfile0.2.2.2 h1).mono ?_
      rintro e w' ⟨rfl, rfl⟩
      exact ⟨rfl, Fr.refl _ _, _, _, hhb7, .inl h0⟩
    · refine (setMini_some rb hb fb sb bb n cap ss dg (fk 0) (dk 0) (m * (ss / 128)) dcap mn mm F (entB F ss cs 0) mf ms _ _ _ _ w7 hS7 HSs.out hrb7 hE1 hhb7 hfb7 hg0 (hfile0.2.2.1.cell 7) hfile0.2.2.2 (hdg7.ne hhb7 (by decide)) (hfile0.2.2.1.ne hhb7 (by decide)) (by omega) (by omega) a3 a4 a1 a2 a5 a6 a7 a8 a9).mono ?_
      rintro e w' ⟨rfl, b1, mfb, msb, k, b2, b3, b4, b5, b6, b7⟩
      exact ⟨rfl, b1, _, _, b2, .inr ⟨mfb, msb, k, rfl, rfl, b3, b4, b5, b6, b7⟩⟩
  have HM := Lib.hid hmini
  clear hmini hg0 hfile0
  go_wp2_with fail
  refine HM.out.mono ?_
  rintro e w8 ⟨rfl, hf8, mfv, msv, hhb8, hmm8⟩
  have hF8 : Fr [] w w8 := hF7.trans hf8 (by simp; omega)
  have hrb8 := hrb7.fr hf8 (by simpa using hrh)
  have hfb8 := hfb7.fr hf8 (by simpa using hfh5)
  have hdg8 := hdg7.fr hf8 (by simpa using hdg7.ne hhb7 (by decide))
  have hfile8 : ∀ e, e < m * (ss / 128) → Blk w8 (fk e) 95 (flCells (P e).name (P e).init (.slice none 0 0) (P e).size 0 (fld (entB F ss cs e) 116 4) 0 (dk e) rb) := fun e he => (hfi7 e he).2.2.1.fr hf8 (by simpa using (hfi7 e he).2.2.1.ne hhb7 (by decide))
  have hent8 : ∀ e, e < m * (ss / 128) → Blk w8 (dk e) 119 (tab 69 (dirL12 (entB F ss cs e))) := fun e he => (hfi7 e he).2.2.2.fr hf8 (by simpa using (hfi7 e he).2.2.2.ne hhb7 (by decide))
  have hinj : ∀ a b, a < m * (ss / 128) → b < m * (ss / 128) → fk a = fk b → a = b := by
    intro a b ha hb h
    rcases Nat.lt_trichotomy a b with h1 | h1 | h1
    · have := (hmo7 a b h1 hb).1; omega
    · exact h1
    · have := (hmo7 b a h1 ha).1; omega
  have hEmax : m * (ss / 128) ≤ 100000 := by
    have := HSs.out
    have := Nat.mul_le_mul hF.m2 (show ss / 128 ≤ 32 by omega)
    omega
  have hfkb : ∀ e, e < m * (ss / 128) → w6.heap.size ≤ fk e := fun e he => (hfi7 e he).1
  have hfk7 : ∀ e, e < m * (ss / 128) → fk e < w7.heap.size := fun e he => (hfi7 e he).2.2.1.lt
  have hr7 : rb < w7.heap.size := hrb7.lt
  have hs7 := hF7.size
  have HT := Lib.hid (traverse_any rb sb ub2 ul uc ss dg dcap (m * (ss / 128)) 0 (.pointer (some ⟨hb, 0, none⟩)) .nilIface (entB F ss cs) P fk dk t dl w8 hrb8 hdg8 hdl hfile8 hent8 hinj hF.t0 hF.t1 hF.t2 hF.t3 hEmax)
  clear hrb7 hhb7 hfb7 hdg7 hfi7 hS7
  go_wp2_with fail
  refine HT.out.mono ?_
  rintro e w9 ⟨rfl, hf9, gb, pv, hgb, hrb9, hfs9, hfile9, hent9, hpath9⟩
  go_wp2_with fail
  go_ret2
  have hord : ∀ e, e ∈ t.order → e < m * (ss / 128) := hF.t1.lt
  have hF9 : Fr [] w w9 := by
    refine hF8.trans hf9 ?_
    intro x hx
    simp only [List.mem_cons, List.mem_map] at hx
    rcases hx with rfl | ⟨e, he, rfl⟩
    · exact .inr (by omega)
    · have := hfkb e (hord e he)
      exact .inr (by omega)
  have hnot : ∀ (b : Nat) (S : TypeId) (l : List Value), Blk w8 b S l → S ≠ 91 → S ≠ 95 → b ∉ rb :: t.order.map fk := by
    intro b S l hb h1 h2 hm
    simp only [List.mem_cons, List.mem_map] at hm
    rcases hm with rfl | ⟨e, he, rfl⟩
    · exact hb.ne hrb8 h1 rfl
    · exact hb.ne (hfile8 e (hord e he)) h2 rfl
  refine ⟨rb, hb, fb, gb, dg, dcap, ub2, ul, uc, fk, dk, pv, mfv, msv, rfl, hF9, ?_⟩
  exact {
    rb_ := by omega
    rd := hrb9
    hd := hhb8.fr hf9 (hnot _ _ _ hhb8 (by decide) (by decide))
    hdb := by omega
    fd := hfb8.fr hf9 (hnot _ _ _ hfb8 (by decide) (by decide))
    files := hfs9
    file := hfile9
    fileb := fun e he => by have := hfkb e he; omega
    filei := fun a b h1 h2 => (hmo7 a b h1 h2).1
    ent := hent9
    path := fun q hq => by
      obtain ⟨b, cap, h1, h2, h3⟩ := hpath9 q hq
      exact ⟨b, cap, h1, by have := hF8.size; omega, h3⟩
    mini := by
      rcases hmm8 with h | ⟨fb', sb', k, h1, h2, h3, h4, h5, h6, h7⟩
      · exact .inl h
      · refine .inr ⟨fb', sb', k, h1, h2, by omega, by omega, h5, ?_, ?_⟩
        · intro i hi
          refine hf9.cell ?_ (h6 i hi)
          simp only [List.mem_cons, List.mem_map]
          rintro (h | ⟨e, he, h⟩)
          · omega
          · have := hfk7 e (hord e he); omega
        · intro i hi
          refine hf9.cell ?_ (h7 i hi)
          simp only [List.mem_cons, List.mem_map]
          rintro (h | ⟨e, he, h⟩)
          · omega
          · have := hfk7 e (hord e he); omega }
end Go.Proofs.YtokpomdfgbbhlaaDoor

/- The contract of opened over a sound file. -/
namespace Go.Proofs.YtokpomdfgbbhlaaDoor
open Go Go.RowKit Go.Maps

theorem code_nil (w : World) : Calls Tryd.prog 38 #[.nilIface] w fun e w' => e = .returned (.int .i64 0) ∧ w = w' := by
  go_enter Tryd.func38, Tryd.ntmps38
  go_wp2_with fail
  go_ret
  exact ⟨rfl, rfl⟩

set_option maxRecDepth 100000 in
set_option maxHeartbeats 1000000 in
theorem opened_ok (ab ao n ncap ss m mn mm : Nat) (F : Nat → UInt8) (cs mf ms : Nat → Nat) (P : Nat → EntP) (t : Tr) (w : World) (hB : ∀ i, i < n → w.cell? ⟨ab, ao + i, none⟩ = some (U8 (F i)))
    (hF : FileOK F n ss m cs P t mn mm mf ms) (hn : n ≤ 131072)
    (hp : ∀ i, 65 ≤ i → i ≤ 90 → w.cell? ⟨2, i, none⟩ = some (.int .u8 160)) (h2w : 2 < w.heap.size) :
    Calls Tryd.prog 27 #[.slice (some ⟨ab, ao, none⟩) n ncap] w fun e w' =>
      ∃ (base sb bb cap rb hb fb gb dg dcap ub ul uc : Nat) (fk dk : Nat → Nat) (pv : Nat → Value) (mfv msv : Value), e = .returned (.tuple #[.pointer (some ⟨rb, 0, none⟩), .pointer (some ⟨sb, 0, none⟩), .int .i64 0]) ∧ Fr [] w w' ∧
        w.heap.size ≤ bb ∧ w.heap.size ≤ sb ∧ bb < base ∧ sb < base ∧ bb ≠ sb ∧ Src w' sb bb n cap F ∧ RdOK w' base rb sb F ss m cs P t mn mm mf ms hb fb gb dg dcap ub ul uc fk dk pv mfv msv := by
  obtain ⟨i0, hi, hz0, hz1, hz2⟩ := info_parts info5
  have hn0 := hF.n0
  have hnI : decide ((131072 : Int) < n) = false := by simp; omega
  have hnN : decide (131072 < n) = false := by simp; omega
  go_enter Tryd.func27, Tryd.ntmps27
  go_wp2_with (at_builtin; refine wpList_append_own _ rfl _ (.tmp 11) 23 rfl w.heap.size 5 i0 (.int .u8 0) 1 1 Tryd.underlying23 hi hz0 hz1 hz2 rfl (by decide) (.slice none 0 0) 0 [] rfl (World.ownsRow_nil _ _ _ _) ⟨ab, ao, none⟩ n ncap (tab n (fun i => U8 (F i))) rfl ?c1 ?c2 ?c3 ?c4 ?c5 (Nat.le_refl _) ?c6)
  case c1 => simp
  case c2 =>
    intro j u hj
    rw [tab_get?] at hj
    split at hj
    · rename_i hjn
      simp at hj; subst hj
      rw [Addr.add_mid]
      exact hB j hjn
    · cases hj
  case c3 =>
    intro u hu
    obtain ⟨i, hi⟩ := List.getElem?_of_mem hu
    rw [tab_get?] at hi
    split at hi
    · simp at hi; subst hi; rfl
    · cases hi
  case c4 => unfold maxLen; omega
  case c5 => omega
  intro v' w1 hown hg _
  obtain ⟨bb, cap, l, rfl, hbb0, hbb, hbl, hc1, hc2⟩ := own_blk2 hown (by omega)
  have hf1 : Fr [] w w1 := Fr.of_grown hg
  have hbbl := hbb.lt
  have hw1 := hf1.size
  clear hown hg
  have hf2 : Fr [] w1 (w1.alloc (Obj.cells #[.slice (some ⟨bb, 0, none⟩) n cap] 113)) := (Fr.refl _ _).alloc _
  have hsb := Blk.new' w1 113 #[.slice (some ⟨bb, 0, none⟩) n cap]
  have hS2 : Src (w1.alloc (Obj.cells #[.slice (some ⟨bb, 0, none⟩) n cap] 113)) w1.heap.size bb n cap F :=
    ⟨hsb.cell 0, fun i hi => hf2.cell0 ((hbb.cell i).trans (hbl i hi)), hc1, hc2⟩
  have hcon := Lib.hid (new_ok w1.heap.size bb n cap ss m mn mm F cs mf ms P t _ hS2 hF (fun i a b => hf2.cell0 (hf1.cell0 (hp i a b))) (by have := hf2.size; omega))
  have hsz2 : (w1.alloc (Obj.cells #[.slice (some ⟨bb, 0, none⟩) n cap] 113)).heap.size = w1.heap.size + 1 := by simp
  clear hB hp
  go_wp2_with fail
  refine hcon.out.mono ?_
  rintro e w3 ⟨rb, hb, fb, gb, dg, dcap, ub, ul, uc, fk, dk, pv, mfv, msv, rfl, hf3, hR⟩
  go_wp2_with fail
  refine (code_nil _).mono ?_
  rintro e w4 ⟨rfl, rfl⟩
  go_wp2_with fail
  go_ret3
  exact ⟨_, w1.heap.size, bb, cap, rb, hb, fb, gb, dg, dcap, ub, ul, uc, fk, dk, pv, mfv, msv, rfl, (hf1.trans0 hf2).trans0 hf3, hbb0, hw1, by rw [hsz2]; omega, by rw [hsz2]; omega, by omega, hS2.fr0 hf3, hR⟩
end Go.Proofs.YtokpomdfgbbhlaaDoor

/- The contracts of the small readers of a file's fields. -/
namespace Go.Proofs.YtokpomdfgbbhlaaDoor
open Go Go.RowKit Go.Maps

theorem created_any (fk d : Nat) (name : ByteArray) (initial : Nat) (path : Value) (size i : Int) (cur : Nat) (rem : Int) (r : Nat) (G : Nat → UInt8) (w : World)
    (hf : Blk w fk 95 (flCells name initial path size i cur rem d r)) (hd : Blk w d 119 (tab 69 (dirL12 G))) :
    Calls Tryd.prog 31 #[.pointer (some ⟨fk, 0, none⟩)] w fun e w' => e = .returned (.int .u64 (fld G 100 8)) ∧ w = w' := by
  have c7 : w.cell? ⟨fk, 7, none⟩ = some (.pointer (some ⟨d, 0, none⟩)) := hf.cell 7
  have d58 := (hd.cell 58).trans (dir_create G)
  go_enter Tryd.func31, Tryd.ntmps31
  go_wp2_with fail
  go_ret
  exact ⟨rfl, rfl⟩

theorem modified_any (fk d : Nat) (name : ByteArray) (initial : Nat) (path : Value) (size i : Int) (cur : Nat) (rem : Int) (r : Nat) (G : Nat → UInt8) (w : World)
    (hf : Blk w fk 95 (flCells name initial path size i cur rem d r)) (hd : Blk w d 119 (tab 69 (dirL12 G))) :
    Calls Tryd.prog 32 #[.pointer (some ⟨fk, 0, none⟩)] w fun e w' => e = .returned (.int .u64 (fld G 108 8)) ∧ w = w' := by
  have c7 : w.cell? ⟨fk, 7, none⟩ = some (.pointer (some ⟨d, 0, none⟩)) := hf.cell 7
  have d59 := (hd.cell 59).trans (dir_modify G)
  go_enter Tryd.func32, Tryd.ntmps32
  go_wp2_with fail
  go_ret
  exact ⟨rfl, rfl⟩

theorem type_any (fk d : Nat) (name : ByteArray) (initial : Nat) (path : Value) (size i : Int) (cur : Nat) (rem : Int) (r : Nat) (G : Nat → UInt8) (w : World)
    (hf : Blk w fk 95 (flCells name initial path size i cur rem d r)) (hd : Blk w d 119 (tab 69 (dirL12 G))) :
    Calls Tryd.prog 28 #[.pointer (some ⟨fk, 0, none⟩)] w fun e w' => e = .returned (.int .i64 ((G 66).toNat : Nat)) ∧ w = w' := by
  have c7 : w.cell? ⟨fk, 7, none⟩ = some (.pointer (some ⟨d, 0, none⟩)) := hf.cell 7
  have d33 : w.cell? ⟨d, 33, none⟩ = some (.int .u8 ((G 66).toNat : Nat)) := (hd.cell 33).trans (dir_type G)
  have hlt : (G 66).toNat < 256 := (G 66).toNat_lt
  generalize (G 66).toNat = g at *
  go_enter Tryd.func28, Tryd.ntmps28
  go_wp2_with fail
  go_ret
  exact ⟨by go_num, rfl⟩

theorem dir_class (G : Nat → UInt8) (j : Nat) (hj : j < 16) : (tab 69 (dirL12 G))[38 + j]? = some (U8 (G (80 + j))) := by
  rw [tab_get _ _ _ (by omega)]
  simp only [dirL12, dirL11, dirL10, dirL9, dirL8, dirL7]
  rw [if_neg (by omega), if_neg (by omega), if_neg (by omega), if_neg (by omega), if_neg (by omega), if_pos (by omega)]
  congr 2
  congr 2; omega

set_option maxRecDepth 100000 in
set_option maxHeartbeats 1000000 in
theorem id_any (fk d : Nat) (name : ByteArray) (initial : Nat) (path : Value) (size i : Int) (cur : Nat) (rem : Int) (r : Nat) (G : Nat → UInt8) (w : World)
    (hf : Blk w fk 95 (flCells name initial path size i cur rem d r)) (hd : Blk w d 119 (tab 69 (dirL12 G))) :
    Calls Tryd.prog 29 #[.pointer (some ⟨fk, 0, none⟩)] w fun e w' => e = .returned (.agg (guidA (fun j => G (80 + j)))) ∧ Fr [] w w' := by
  have hz : (zeroValue 97).run Tryd.prog w = .ok (.agg (List.replicate 16 (.int .u8 0)).toArray) w := by kernel_rfl
  have f1 : Fr [] w (w.alloc (.cells (List.replicate 16 (.int .u8 0)).toArray 97)) := (Fr.refl _ _).alloc _
  have hr1 := Blk.new w 97 (List.replicate 16 (Value.int .u8 0))
  have hd1 := hd.fr0 f1
  have c7 : w.cell? ⟨fk, 7, none⟩ = some (.pointer (some ⟨d, 0, none⟩)) := hf.cell 7
  have l1 := hf.lt
  have l2 := hd.lt
  have hlen : ((tab 69 (dirL12 G)).drop 38).take 16 = (guidA (fun j => G (80 + j))).toList := by
    rw [tab_drop_take _ _ _ _ (by omega)]
    simp only [guidA]
    refine (tab_congr (fun j hj => ?_))
    have := dir_class G j hj
    rw [tab_get _ _ _ (by omega)] at this
    exact Option.some.inj this
  go_enter Tryd.func29, Tryd.ntmps29
  go_wp2_with (first
      | (with_reducible refine wpList_load_blk rfl 97 (.tmp 8) rfl d 38 rfl 119 _ (hd.alloc _) _ Tryd.underlying97 rfl 16 (by kernel_rfl) (by simp) (guidA (fun j => G (80 + j))) ?_ ?_)
      | (with_reducible refine wpList_store_blk rfl 97 (.tmp 2) (.tmp 9) rfl w.heap.size 0 (guidA (fun j => G (80 + j))) rfl rfl 97 _ (Blk.new' w 97 _) ?_ ?_ (guidA_one _) ?_))
  · exact hlen
  · simp [guidA_size]
  · rw [guidA_size]; kernel_rfl
  · intro w2 hf2 hb3
    have hfr : Fr [] w w2 := ((Fr.refl [] w).alloc _).trans hf2 (by simp)
    have e3 := splice_whole (List.replicate 16 (Value.int .u8 0)) (guidA (fun j => G (80 + j))).toList (by simp [guidA])
    have hb4 : Blk w2 w.heap.size 97 (guidA (fun j => G (80 + j))).toList := by rw [← e3]; exact hb3
    have hld : (loadVar 97 ⟨w.heap.size, 0, none⟩).run Tryd.prog w2 = .ok (.agg (guidA (fun j => G (80 + j)))) w2 := by
      have := run_loadVar_mid (P := Tryd.prog) w2 w.heap.size 0 97 (guidA (fun j => G (80 + j))).toList _ (fun j v hj => by rw [hb4.cell]; simpa using hj) Tryd.underlying97 rfl (by rw [Array.length_toList, guidA_size]; kernel_rfl)
      simpa using this
    clear hb3 hb4 e3 hf2
    go_wp2_with fail
    refine bodyPost_ret (v := .agg (guidA (fun j => G (80 + j)))) ?_ rfl ⟨rfl, hfr⟩
    simp [results, Tryd.results29, asAddr, hld]
theorem dir_state (G : Nat → UInt8) (j : Nat) (hj : j < 4) : (tab 69 (dirL12 G))[54 + j]? = some (U8 (G (96 + j))) := by
  rw [tab_get _ _ _ (by omega)]
  simp only [dirL12, dirL11, dirL10, dirL9, dirL8]
  rw [if_neg (by omega), if_neg (by omega), if_neg (by omega), if_neg (by omega), if_pos (by omega)]
  congr 2
  congr 2; omega

/-- Four bytes as an array's value. -/
def stateA (f : Nat → UInt8) : Array Value := (tab 4 (fun i => U8 (f i))).toArray
theorem stateA_size (f : Nat → UInt8) : (stateA f).size = 4 := by simp [stateA]
theorem stateA_one (f : Nat → UInt8) : (stateA f).all (·.oneCell') = true := tab_oneCell (fun _ _ => rfl)

set_option maxRecDepth 100000 in
set_option maxHeartbeats 1000000 in
theorem state_any (fk d : Nat) (name : ByteArray) (initial : Nat) (path : Value) (size i : Int) (cur : Nat) (rem : Int) (r : Nat) (G : Nat → UInt8) (w : World)
    (hf : Blk w fk 95 (flCells name initial path size i cur rem d r)) (hd : Blk w d 119 (tab 69 (dirL12 G))) :
    Calls Tryd.prog 30 #[.pointer (some ⟨fk, 0, none⟩)] w fun e w' => e = .returned (.agg (stateA (fun j => G (96 + j)))) ∧ Fr [] w w' := by
  have hz : (zeroValue 37).run Tryd.prog w = .ok (.agg (List.replicate 4 (.int .u8 0)).toArray) w := by kernel_rfl
  have f1 : Fr [] w (w.alloc (.cells (List.replicate 4 (.int .u8 0)).toArray 37)) := (Fr.refl _ _).alloc _
  have hr1 := Blk.new w 37 (List.replicate 4 (Value.int .u8 0))
  have hd1 := hd.fr0 f1
  have c7 : w.cell? ⟨fk, 7, none⟩ = some (.pointer (some ⟨d, 0, none⟩)) := hf.cell 7
  have l1 := hf.lt
  have l2 := hd.lt
  have hlen : ((tab 69 (dirL12 G)).drop 54).take 4 = (stateA (fun j => G (96 + j))).toList := by
    rw [tab_drop_take _ _ _ _ (by omega)]
    simp only [stateA]
    refine (tab_congr (fun j hj => ?_))
    have := dir_state G j hj
    rw [tab_get _ _ _ (by omega)] at this
    exact Option.some.inj this
  go_enter Tryd.func30, Tryd.ntmps30
  go_wp2_with (first
      | (with_reducible refine wpList_load_blk rfl 37 (.tmp 8) rfl d 54 rfl 119 _ (hd.alloc _) _ Tryd.underlying37 rfl 4 (by kernel_rfl) (by simp) (stateA (fun j => G (96 + j))) ?_ ?_)
      | (with_reducible refine wpList_store_blk rfl 37 (.tmp 2) (.tmp 9) rfl w.heap.size 0 (stateA (fun j => G (96 + j))) rfl rfl 37 _ (Blk.new' w 37 _) ?_ ?_ (stateA_one _) ?_))
  · exact hlen
  · simp [stateA_size]
  · rw [stateA_size]; kernel_rfl
  · intro w2 hf2 hb3
    have hfr : Fr [] w w2 := ((Fr.refl [] w).alloc _).trans hf2 (by simp)
    have e3 := splice_whole (List.replicate 4 (Value.int .u8 0)) (stateA (fun j => G (96 + j))).toList (by simp [stateA])
    have hb4 : Blk w2 w.heap.size 37 (stateA (fun j => G (96 + j))).toList := by rw [← e3]; exact hb3
    have hld : (loadVar 37 ⟨w.heap.size, 0, none⟩).run Tryd.prog w2 = .ok (.agg (stateA (fun j => G (96 + j)))) w2 := by
      have := run_loadVar_mid (P := Tryd.prog) w2 w.heap.size 0 37 (stateA (fun j => G (96 + j))).toList _ (fun j v hj => by rw [hb4.cell]; simpa using hj) Tryd.underlying37 rfl (by rw [Array.length_toList, stateA_size]; kernel_rfl)
      simpa using this
    clear hb3 hb4 e3 hf2
    go_wp2_with fail
    refine bodyPost_ret (v := .agg (stateA (fun j => G (96 + j)))) ?_ rfl ⟨rfl, hfr⟩
    simp [results, Tryd.results30, asAddr, hld]
end Go.Proofs.YtokpomdfgbbhlaaDoor

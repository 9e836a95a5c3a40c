/- FnMixed: a stream is read, sought and written by steps, what is told is what stands there then, the file behind all is that of the stream with these bytes (part 7 of 18). No condition but the statement's own. -/
import Derived.Test.YtokpomdfgbbhlaaDoorMxf
set_option linter.all false
set_option linter.unusedVariables false
set_option linter.unusedSimpArgs false
set_option linter.unnecessarySimpa false
/- The contract of (*File).Seek: the reading place is set, from the beginning or from where it is. -/
namespace Go.Proofs.YtokpomdfgbbhlaaDoor
open Go Go.RowKit Go.Maps

/-- What Seek yields. -/
def SeekPost (fb : Nat) (nm : ByteArray) (ini : Nat) (pv : Value) (len to_ dk rb q : Nat) (ch : Nat → Nat) (w : World) (e : Ending) (w' : World) : Prop :=
  e = .returned (.tuple #[.int .i64 (to_ : Nat), .nilIface]) ∧ Fr [fb] w w' ∧ ∃ t r, t * q + r = to_ ∧ r < q ∧ FlS w' fb nm ini pv len to_ (ch t) r dk rb

theorem FlS.idx {w : World} {fb : Nat} {nm : ByteArray} {ini : Nat} {pv : Value} {len i c r dk rb : Nat} (h : FlS w fb nm ini pv len i c r dk rb) (i' : Nat) : FlS (w.setCell ⟨fb, 4, none⟩ (.int .i64 (i' : Nat))) fb nm ini pv len i' c r dk rb := h.set 4 _

set_option maxRecDepth 100000 in
set_option maxHeartbeats 4000000 in
theorem seek_any (R : RB) (F : Nat → UInt8) (mini : Bool) (q K len fb i abs dk ini t0 r : Nat) (ofs wh : Int) (nm : ByteArray) (pv : Value) (ch off : Nat → Nat) (dat : Nat → UInt8) (w : World) (hR : RdS w R F) (hS : StrR R F mini q K len ch off dat)
    (hF : FlS w fb nm ini pv len i (ch t0) r dk R.rb) (hqt : t0 * q + r = i) (hrq : r < q) (hfb : fb ∉ R.bl) (hst : w.cell? ⟨dk, 60, none⟩ = some (.int .u32 (ch 0 : Nat))) (hdf : dk ≠ fb)
    (hw : (wh = 0 ∧ ofs = (abs : Int)) ∨ (wh = 1 ∧ (i : Int) + ofs = (abs : Int))) (habs : abs < len) (hlen : len ≤ 100000) (hil : i ≤ len) :
    Calls Tryd.prog 45 #[.pointer (some ⟨fb, 0, none⟩), .int .i64 ofs, .int .i64 wh] w (SeekPost fb nm ini pv len abs dk R.rb q ch w) := by
  have hR0 : ∀ w', Fr [fb] w w' → RdS w' R F := fun w' f => hR.fr f (fun x hx => by simp; rintro rfl; exact hfb hx)
  have HR0 := Lib.hid hR0
  have HS := Lib.hid hS
  have HF := Lib.hid hF
  have HST := Lib.hid hst
  have HQT := Lib.hid hqt
  have f3 : w.cell? ⟨fb, 3, none⟩ = some (.int .i64 (len : Nat)) := hF.cell 3
  have f4 : w.cell? ⟨fb, 4, none⟩ = some (.int .i64 (i : Nat)) := hF.cell 4
  have f6 : w.cell? ⟨fb, 6, none⟩ = some (.int .i64 (r : Nat)) := hF.cell 6
  have hri : r ≤ i := by omega
  clear hR hS hF hR0 hst hqt
  go_enter Tryd.func45, Tryd.ntmps45
  go_upto_block 0 with (fail)
  go_cut [8] from 14 to 32 (fun s8 w2 => s8 = .int .i64 (abs : Nat) ∧ w = w2)
  case first =>
    rcases hw with ⟨rfl, rfl⟩ | ⟨rfl, h2⟩
    · go_wp2_with fail
      go_meet
      case rel => exact ⟨rfl, rfl⟩
    · go_wp2_with fail
      go_meet
      case rel => exact ⟨rfl, rfl⟩
  case rest =>
  obtain ⟨rfl, rfl⟩ := hcut
  have habI : ¬ (len : Int) ≤ (abs : Int) := by omega
  have habB : decide ((len : Int) ≤ (abs : Int)) = false := by simp; omega
  rcases Nat.lt_trichotomy abs i with hlt | heq | hgt
  case inr.inl =>
    have heB : ((abs : Int) == (i : Int)) = true := by simp [heq]
    have HE := Lib.hid heq
    clear heq
    go_wp2_with fail
    go_ret2
    exact ⟨rfl, Fr.refl _ _, t0, r, by have := HE.out; have := HQT.out; omega, hrq, by rw [HE.out]; exact HF.out⟩
  case inr.inr =>
    have heB : ((abs : Int) == (i : Int)) = false := by simp; omega
    have hgB : decide ((i : Int) < (abs : Int)) = true := by simp; omega
    obtain ⟨d, hd⟩ : ∃ d, abs = i + d := ⟨abs - i, by omega⟩
    have hdI : (abs : Int) - (i : Int) = (d : Int) := by omega
    have hwd : IntKind.i64.wrap (d : Int) = (d : Int) := IntWalk.i64_in _ (by omega)
    have HD := Lib.hid hd
    have z4 := HF.out.frozen 4
    have hF2 := HF.out.idx abs
    have g4 : (w.setCell ⟨fb, 4, none⟩ (.int .i64 (abs : Nat))).cell? ⟨fb, 4, none⟩ = some (.int .i64 (abs : Nat)) := hF2.cell 4
    have hfr2 : Fr [fb] w (w.setCell ⟨fb, 4, none⟩ (.int .i64 (abs : Nat))) := (Fr.refl _ _).setCell (.inl (by simp)) _
    have hcon : ∀ w', Fr [] (w.setCell ⟨fb, 4, none⟩ (.int .i64 (abs : Nat))) w' → _ := fun w' f => seekf_any R F mini q K len fb i abs d dk ini t0 r nm pv ch off dat w' (HR0.out _ (hfr2.trans0 f)) HS.out (hF2.fr0 f) HQT.out hrq hfb (by omega) hlen
    have HCON := Lib.hid hcon
    have HFR2 := Lib.hid hfr2
    clear hd hcon hF2 hfr2
    go_upto_region 19 with (fail)
    generalize w.setCell ⟨fb, 4, none⟩ (.int .i64 (abs : Nat)) = w2 at *
    go_region_held3 (fun w' => w'.cell? ⟨fb, 4, none⟩ = some (.int .i64 (abs : Nat))) (first | go_keep | exact hk4)
      (first | (go_at_call 55; refine (HCON.out _ (Fr.refl _ _).drew).mono ?_; rintro e w3 ⟨rfl, hf3, t', r', h1, h2, hF3⟩; have hk4 : w3.cell? ⟨fb, 4, none⟩ = some (.int .i64 (abs : Nat)) := hF3.cell 4; have H3 := Lib.hid (And.intro hf3 (And.intro h1 (And.intro h2 hF3))); clear hf3 h1 h2 hF3))
    all_goals
      go_wp2_with fail
      go_ret2
      obtain ⟨a1, a2, a3, a4⟩ := H3.out
      exact ⟨rfl, HFR2.out.drew.trans_same a1, t', r', by have := HD.out; omega, a3, a4⟩
  case inl =>
    have heB : ((abs : Int) == (i : Int)) = false := by simp; omega
    have hgB : decide ((i : Int) < (abs : Int)) = false := by simp; omega
    obtain ⟨d, hd⟩ : ∃ d, i = abs + d := ⟨i - abs, by omega⟩
    have hdI : (i : Int) - (abs : Int) = (d : Int) := by omega
    have hwd : IntKind.i64.wrap (d : Int) = (d : Int) := IntWalk.i64_in _ (by omega)
    have HD := Lib.hid hd
    clear hd
    by_cases hrd : d ≤ r
    · have hrB : decide ((d : Int) ≤ (r : Int)) = true := by simp; omega
      obtain ⟨r2, hr2⟩ : ∃ r2, r = r2 + d := ⟨r - d, by omega⟩
      have hr2I : (r : Int) - (d : Int) = (r2 : Int) := by omega
      have hwr2 : IntKind.i64.wrap (r2 : Int) = (r2 : Int) := IntWalk.i64_in _ (by omega)
      have HR2 := Lib.hid hr2
      clear hr2
      go_upto_region 20 with (fail)
      go_quiet (fail)
      have hfq : Fr [fb] w (w.drewN nq) := (Fr.refl _ _).drewN _
      have hFq : FlS (w.drewN nq) fb nm ini pv len i (ch t0) r dk R.rb := HF.out.drewN _
      clear f3 f4 f6
      generalize w.drewN nq = w2 at *
      have g4 : w2.cell? ⟨fb, 4, none⟩ = some (.int .i64 (i : Nat)) := hFq.cell 4
      have g6 : w2.cell? ⟨fb, 6, none⟩ = some (.int .i64 (r : Nat)) := hFq.cell 6
      have z6 := hFq.frozen 6
      have HFq := Lib.hid (And.intro hfq hFq)
      clear hfq hFq
      go_upto_region 21 with (fail)
      go_cut [] from 33 to 113 (fun w3 => Fr [fb] w w3 ∧ FlS w3 fb nm ini pv len i (ch t0) r2 dk R.rb)
      case first =>
        go_region
        all_goals
          go_wp2_with fail
          go_meet
          case rel => exact ⟨(HFq.out.1.drew).setCell (.inl (by simp)) _, (Blk.drew HFq.out.2).set 6 _⟩
      case rest =>
      obtain ⟨hf3, hF3⟩ := hcut
      have hF4 := hF3.idx abs
      have k4 : wc.cell? ⟨fb, 4, none⟩ = some (.int .i64 (i : Nat)) := hF3.cell 4
      have y4 := hF3.frozen 4
      have HH := Lib.hid (And.intro (hf3.setCell (p := ⟨fb, 4, none⟩) (.inl (by simp)) (.int .i64 ((abs : Nat) : Int))) hF4)
      clear hf3 hF3 hF4
      go_wp2_with fail
      go_ret2
      exact ⟨rfl, HH.out.1, t0, r2, by have := HQT.out; have := HD.out; have := HR2.out; omega, by have := HR2.out; omega, HH.out.2⟩
    · have hrB : decide ((d : Int) ≤ (r : Int)) = false := by simp; omega
      go_upto_region 20 with (fail)
      go_quiet (fail)
      have hfq : Fr [fb] w (w.drewN nq) := (Fr.refl _ _).drewN _
      have hFq : FlS (w.drewN nq) fb nm ini pv len i (ch t0) r dk R.rb := HF.out.drewN _
      have hsq : (w.drewN nq).cell? ⟨dk, 60, none⟩ = some (.int .u32 (ch 0 : Nat)) := HST.out
      clear f3 f4 f6
      generalize w.drewN nq = w2 at *
      have g6 : w2.cell? ⟨fb, 6, none⟩ = some (.int .i64 (r : Nat)) := hFq.cell 6
      have z6 := hFq.frozen 6
      have hF3 : FlS (w2.setCell ⟨fb, 6, none⟩ (.int .i64 0)) fb nm ini pv len i (ch t0) 0 dk R.rb := hFq.rem 0
      have m60 : (w2.setCell ⟨fb, 6, none⟩ (.int .i64 0)).cell? ⟨dk, 60, none⟩ = some (.int .u32 (ch 0 : Nat)) := by
        rw [World.cell?_setCell_other _ _ _ _ (by intro e; injection e with e1 e2; exact hdf e1.symm)]
        exact hsq
      have hf3 : Fr [fb] w (w2.setCell ⟨fb, 6, none⟩ (.int .i64 0)) := hfq.setCell (.inl (by simp)) _
      clear hfq hFq hsq
      go_upto_region 25 with (fail)
      generalize w2.setCell ⟨fb, 6, none⟩ (.int .i64 0) = w3 at *
      have m7 : w3.cell? ⟨fb, 7, none⟩ = some (.pointer (some ⟨dk, 0, none⟩)) := hF3.cell 7
      have m5 : w3.cell? ⟨fb, 5, none⟩ = some (.int .u32 (ch t0 : Nat)) := hF3.cell 5
      have y5 := hF3.frozen 5
      have hF4 := hF3.cur (ch 0)
      have hf4 : Fr [fb] w (w3.setCell ⟨fb, 5, none⟩ (.int .u32 (ch 0 : Nat))) := hf3.setCell (.inl (by simp)) _
      clear hF3 hf3
      go_upto_region 26 with (fail)
      generalize w3.setCell ⟨fb, 5, none⟩ (.int .u32 (ch 0 : Nat)) = w4 at *
      have m4 : w4.cell? ⟨fb, 4, none⟩ = some (.int .i64 (i : Nat)) := hF4.cell 4
      have y4 := hF4.frozen 4
      have hF5 := hF4.idx abs
      have hf5 : Fr [fb] w (w4.setCell ⟨fb, 4, none⟩ (.int .i64 (abs : Nat))) := hf4.setCell (.inl (by simp)) _
      clear hF4 hf4 m7 m5 m60 y5
      go_upto_region 27 with (fail)
      generalize w4.setCell ⟨fb, 4, none⟩ (.int .i64 (abs : Nat)) = w5 at *
      have n4 : w5.cell? ⟨fb, 4, none⟩ = some (.int .i64 (abs : Nat)) := hF5.cell 4
      have hcon : ∀ w', Fr [] w5 w' → _ := fun w' f => seekf_any R F mini q K len fb 0 abs abs dk ini 0 0 nm pv ch off dat w' (HR0.out _ (hf5.trans0 f)) HS.out (hF5.fr0 f) (by omega) (by omega) hfb (by omega) hlen
      have HCON := Lib.hid hcon
      have HFR5 := Lib.hid hf5
      clear hcon hF5 hf5
      go_region_held3 (fun w' => w'.cell? ⟨fb, 4, none⟩ = some (.int .i64 (abs : Nat))) (first | go_keep | exact hk4)
        (first | (go_at_call 55; refine (HCON.out _ (Fr.refl _ _).drew).mono ?_; rintro e w6 ⟨rfl, hf3, t', r', h1, h2, hF3⟩; have hk4 : w6.cell? ⟨fb, 4, none⟩ = some (.int .i64 (abs : Nat)) := hF3.cell 4; have H3 := Lib.hid (And.intro hf3 (And.intro h1 (And.intro h2 hF3))); clear hf3 h1 h2 hF3))
      all_goals
        go_wp2_with fail
        go_ret2
        obtain ⟨a1, a2, a3, a4⟩ := H3.out
        exact ⟨rfl, HFR5.out.drew.trans_same a1, t', r', by omega, a3, a4⟩
end Go.Proofs.YtokpomdfgbbhlaaDoor

/- The contract of traverse's closure, by induction on the tree; and of traverse. -/
namespace Go.Proofs.YtokpomdfgbbhlaaDoor
open Go Go.RowKit Go.Maps

/-- A list of texts. -/
def PathIs (w : World) (base : Nat) (v : Value) (p : List ByteArray) : Prop :=
  ∃ b cap, v = .slice (some ⟨b, 0, none⟩) p.length cap ∧ base ≤ b ∧ Blk w b 9 (p.map Value.string)

theorem PathIs.fr {w w' : World} {base : Nat} {v : Value} {p : List ByteArray} {ms : List Nat} (h : PathIs w base v p) (f : Fr ms w w') (hm : ∀ b l, Blk w b 9 l → b ∉ ms) : PathIs w' base v p := by
  obtain ⟨b, cap, h1, h2, h3⟩ := h
  exact ⟨b, cap, h1, h2, h3.fr f (hm _ _ h3)⟩

/-- What the closure captures and what it reaches. -/
structure TEnv where
  (cb xb eb fb rb hb sb ub ul uc ss gb dg dcap E base : Nat)
  (hdr wa : Value)
  (G : Nat → Nat → UInt8)
  (P : Nat → EntP)
  (fk dk : Nat → Nat)

def TEnv.caps (T : TEnv) : Array Value := #[.pointer (some ⟨T.cb, 0, none⟩), .pointer (some ⟨T.xb, 0, none⟩), .pointer (some ⟨T.eb, 0, none⟩), .pointer (some ⟨T.fb, 0, none⟩)]

/-- The state of the walk through the tree: k calls, f files, the row l, the paths pv. -/
structure TSt (T : TEnv) (w : World) (k f : Nat) (l : List Value) (pv : Nat → Value) : Prop where
  cnt : Blk w T.cb 3 [.int .i64 k]
  box : Blk w T.xb 80 [.pointer (some ⟨T.rb, 0, none⟩)]
  err : Blk w T.eb 104 [.nilIface]
  rec_ : Blk w T.fb 102 [.func (.func 63) #[] T.caps]
  rd : Blk w T.rb 91 (rdCells T.ss (.slice (some ⟨T.ub, 0, none⟩) T.ul T.uc) T.hdr (.slice (some ⟨T.gb, 0, none⟩) f T.E) (.slice (some ⟨T.dg, 0, none⟩) T.E T.dcap) 0 T.sb T.wa)
  row : Blk w T.gb 92 l
  len : l.length = T.E
  dir : ∃ dl, Blk w T.dg 92 dl ∧ ∀ e, e < T.E → dl[e]? = some (.pointer (some ⟨T.fk e, 0, none⟩))
  file : ∀ e, e < T.E → Blk w (T.fk e) 95 (flCells (T.P e).name (T.P e).init (pv e) (T.P e).size 0 (fld (T.G e) 116 4) 0 (T.dk e) T.rb)
  ent : ∀ e, e < T.E → Blk w (T.dk e) 119 (tab 69 (dirL12 (T.G e)))
  inj : ∀ a b, a < T.E → b < T.E → T.fk a = T.fk b → a = b
  gdg : T.dg ≠ T.gb
  base : T.base ≤ w.heap.size

theorem Blk.ne {w : World} {b b' : Nat} {S S' : TypeId} {l l' : List Value} (h : Blk w b S l) (h' : Blk w b' S' l') (hS : S ≠ S') : b ≠ b' := fun e => by
  subst e; exact hS (h.unique h').1

theorem TSt.fr0 {T : TEnv} {w w' : World} {k f : Nat} {l : List Value} {pv : Nat → Value} (h : TSt T w k f l pv) (hf : Fr [] w w') : TSt T w' k f l pv where
  cnt := h.cnt.fr0 hf
  box := h.box.fr0 hf
  err := h.err.fr0 hf
  rec_ := h.rec_.fr0 hf
  rd := h.rd.fr0 hf
  row := h.row.fr0 hf
  len := h.len
  dir := by obtain ⟨dl, a, b⟩ := h.dir; exact ⟨dl, a.fr0 hf, b⟩
  file := fun e he => (h.file e he).fr0 hf
  ent := fun e he => (h.ent e he).fr0 hf
  inj := h.inj
  gdg := h.gdg
  base := Nat.le_trans h.base hf.size

theorem TSt.setCnt {T : TEnv} {w : World} {k f : Nat} {l : List Value} {pv : Nat → Value} (h : TSt T w k f l pv) (k' : Nat) (v : Value) (hv : v = .int .i64 k') : TSt T (w.setCell ⟨T.cb, 0, none⟩ v) k' f l pv where
  cnt := by subst hv; exact h.cnt.set 0 _
  box := h.box.setOther (h.cnt.ne h.box (by decide)) _
  err := h.err.setOther (h.cnt.ne h.err (by decide)) _
  rec_ := h.rec_.setOther (h.cnt.ne h.rec_ (by decide)) _
  rd := h.rd.setOther (h.cnt.ne h.rd (by decide)) _
  row := h.row.setOther (h.cnt.ne h.row (by decide)) _
  len := h.len
  dir := by obtain ⟨dl, a, b⟩ := h.dir; exact ⟨dl, a.setOther (h.cnt.ne a (by decide)) _, b⟩
  file := fun e he => (h.file e he).setOther (h.cnt.ne (h.file e he) (by decide)) _
  ent := fun e he => (h.ent e he).setOther (h.cnt.ne (h.ent e he) (by decide)) _
  inj := h.inj
  gdg := h.gdg
  base := by simpa using h.base

theorem TSt.setPath {T : TEnv} {w : World} {k f : Nat} {l : List Value} {pv : Nat → Value} (h : TSt T w k f l pv) (e : Nat) (he : e < T.E) (v : Value) :
    TSt T (w.setCell ⟨T.fk e, 2, none⟩ v) k f l (fun a => if a = e then v else pv a) where
  cnt := h.cnt.setOther ((h.file e he).ne h.cnt (by decide)) _
  box := h.box.setOther ((h.file e he).ne h.box (by decide)) _
  err := h.err.setOther ((h.file e he).ne h.err (by decide)) _
  rec_ := h.rec_.setOther ((h.file e he).ne h.rec_ (by decide)) _
  rd := h.rd.setOther ((h.file e he).ne h.rd (by decide)) _
  row := h.row.setOther ((h.file e he).ne h.row (by decide)) _
  len := h.len
  dir := by obtain ⟨dl, a, b⟩ := h.dir; exact ⟨dl, a.setOther ((h.file e he).ne a (by decide)) _, b⟩
  file := fun a ha => by
    by_cases hae : a = e
    · subst hae
      rw [if_pos rfl]
      exact (h.file a ha).set 2 v
    · rw [if_neg hae]
      exact (h.file a ha).setOther (fun hh => hae (h.inj a e ha he hh.symm)) _
  ent := fun a ha => (h.ent a ha).setOther ((h.file e he).ne (h.ent a ha) (by decide)) _
  inj := h.inj
  gdg := h.gdg
  base := by simpa using h.base

/-- One file more in the reader's list. -/
theorem TSt.app {T : TEnv} {w w' : World} {k f : Nat} {l l' : List Value} {pv : Nat → Value} (h : TSt T w k f l pv) (hf : Fr [T.gb] w w') (hr : Blk w' T.gb 92 l') (hl : l'.length = T.E) :
    TSt T (w'.setCell ⟨T.rb, 4, none⟩ (.slice (some ⟨T.gb, 0, none⟩) (f + 1) T.E)) k (f + 1) l' pv := by
  have n (b : Nat) (S : TypeId) (m : List Value) (hb : Blk w b S m) (hS : S ≠ 92) : b ∉ [T.gb] := by
    simp only [List.mem_singleton]; exact hb.ne h.row hS
  have hrd := h.rd.fr hf (n _ _ _ h.rd (by decide))
  obtain ⟨dl, da, db⟩ := h.dir
  exact {
    cnt := (h.cnt.fr hf (n _ _ _ h.cnt (by decide))).setOther (h.rd.ne h.cnt (by decide)) _
    box := (h.box.fr hf (n _ _ _ h.box (by decide))).setOther (h.rd.ne h.box (by decide)) _
    err := (h.err.fr hf (n _ _ _ h.err (by decide))).setOther (h.rd.ne h.err (by decide)) _
    rec_ := (h.rec_.fr hf (n _ _ _ h.rec_ (by decide))).setOther (h.rd.ne h.rec_ (by decide)) _
    rd := hrd.set 4 _
    row := hr.setOther (h.rd.ne h.row (by decide)) _
    len := hl
    dir := ⟨dl, (da.fr hf (by simpa using h.gdg)).setOther (h.rd.ne da (by decide)) _, db⟩
    file := fun e he => ((h.file e he).fr hf (n _ _ _ (h.file e he) (by decide))).setOther (h.rd.ne (h.file e he) (by decide)) _
    ent := fun e he => ((h.ent e he).fr hf (n _ _ _ (h.ent e he) (by decide))).setOther (h.rd.ne (h.ent e he) (by decide)) _
    inj := h.inj
    gdg := h.gdg
    base := by simpa using Nat.le_trans h.base hf.size }

theorem TSt.no9 {T : TEnv} {w : World} {k f : Nat} {l : List Value} {pv : Nat → Value} (h : TSt T w k f l pv) {os : List Nat} (hos : ∀ e, e ∈ os → e < T.E) (b : Nat) (m : List Value) (hb : Blk w b 9 m) :
    b ∉ T.cb :: T.rb :: T.gb :: os.map T.fk := by
  simp only [List.mem_cons, List.mem_map]
  rintro (rfl | rfl | rfl | ⟨e, he, rfl⟩)
  · exact hb.ne h.cnt (by decide) rfl
  · exact hb.ne h.rd (by decide) rfl
  · exact hb.ne h.row (by decide) rfl
  · exact hb.ne (h.file e (hos e he)) (by decide) rfl

/-- What a call of the closure leaves. -/
def TPost (T : TEnv) (t : Tr) (k f : Nat) (l : List Value) (pv : Nat → Value) (p : List ByteArray) (w w' : World) : Prop :=
  Fr (T.cb :: T.rb :: T.gb :: t.order.map T.fk) w w' ∧
      ∃ pv', TSt T w' (k + t.order.length) (f + t.order.length) (splice l f (t.order.map (fun e => .pointer (some ⟨T.fk e, 0, none⟩)))) pv' ∧
        (∀ e, e ∉ t.order → pv' e = pv e) ∧ ∀ q ∈ t.paths (fun e => (T.P e).name) p, PathIs w' T.base (pv' q.1) q.2

theorem TPost.drew {T : TEnv} {t : Tr} {k f : Nat} {l : List Value} {pv : Nat → Value} {p : List ByteArray} {w w' : World} (h : TPost T t k f l pv p w.drew w') : TPost T t k f l pv p w w' :=
  ⟨(Fr.refl _ w).drew.trans_same h.1, h.2⟩

theorem splice_nil (l : List Value) (o : Nat) : splice l o [] = l := by simp [splice]

theorem TPost.nil {T : TEnv} {k f : Nat} {l : List Value} {pv : Nat → Value} {p : List ByteArray} {w w' : World} (h : TSt T w k f l pv) (hf : Fr [] w w') : TPost T .nil k f l pv p w w' :=
  ⟨hf.mono (by simp), pv, by simpa [Tr.order, splice_nil] using h.fr0 hf, fun _ _ => rfl, fun q hq => by simp [Tr.paths] at hq⟩

theorem splice_app (l a b : List Value) (o : Nat) (h : o + a.length + b.length ≤ l.length) : splice (splice l o a) (o + a.length) b = splice l o (a ++ b) := by
  apply List.ext_getElem?
  intro i
  have h1 : (splice l o a).length = l.length := length_splice _ _ _ (by omega)
  rw [splice_get _ _ _ (by omega), splice_get _ _ _ (by omega), splice_get _ _ _ (by simp; omega)]
  simp only [List.length_append]
  by_cases c1 : o + a.length ≤ i ∧ i < o + a.length + b.length
  · rw [if_pos c1, if_pos (by omega), List.getElem?_append_right (by omega)]
    congr 1; omega
  · rw [if_neg c1]
    by_cases c2 : o ≤ i ∧ i < o + a.length
    · rw [if_pos c2, if_pos (by omega), List.getElem?_append_left (by omega)]
    · rw [if_neg c2, if_neg (by omega)]

/-- Left, the entry itself, below, right. -/
theorem TPost.join {T : TEnv} {x : Nat} {l c r : Tr} {k f : Nat} {row rowC : List Value} {pv pvL pv5 pvC : Nat → Value} {p pc : List ByteArray} {pb pcap : Nat} {w wL w4 w5 wC wR : World}
    (hst : TSt T w k f row pv) (hx : x < T.E) (hlE : ∀ e, e ∈ l.order → e < T.E) (hcE : ∀ e, e ∈ c.order → e < T.E) (hrE : ∀ e, e ∈ r.order → e < T.E) (hnd : (Tr.node x l c r).order.Nodup)
    (hp : PathIs w T.base (.slice (some ⟨pb, 0, none⟩) p.length pcap) p) (hfl : f + (l.order.length + (c.order.length + r.order.length + 1)) ≤ T.E)
    (hf1 : Fr (T.cb :: T.rb :: T.gb :: l.order.map T.fk) w wL) (hs3 : TSt T wL (k + 1 + l.order.length) (f + l.order.length) (splice row f (l.order.map (fun e => .pointer (some ⟨T.fk e, 0, none⟩)))) pvL)
    (hpvL : ∀ e, e ∉ l.order → pvL e = pv e) (hpaL : ∀ q ∈ l.paths (fun e => (T.P e).name) p, PathIs wL T.base (pvL q.1) q.2)
    (hf4 : Fr [T.rb, T.gb] wL w4) (hf5 : Fr [T.fk x] w4 w5) (hpv5 : pv5 = fun a => if a = x then Value.slice (some ⟨pb, 0, none⟩) p.length pcap else pvL a)
    (hpc : pc = if x = 0 then p else p ++ [(T.P x).name])
    (hrow : rowC = splice (splice (splice row f (l.order.map (fun e => .pointer (some ⟨T.fk e, 0, none⟩)))) (f + l.order.length) [.pointer (some ⟨T.fk x, 0, none⟩)]) (f + l.order.length + 1) (c.order.map (fun e => .pointer (some ⟨T.fk e, 0, none⟩))))
    (hfC : Fr (T.cb :: T.rb :: T.gb :: c.order.map T.fk) w5 wC) (hsC : TSt T wC (k + 1 + l.order.length + c.order.length) (f + l.order.length + 1 + c.order.length) rowC pvC)
    (hpvC : ∀ e, e ∉ c.order → pvC e = pv5 e) (hpaC : ∀ q ∈ c.paths (fun e => (T.P e).name) pc, PathIs wC T.base (pvC q.1) q.2)
    (hR : TPost T r (k + 1 + l.order.length + c.order.length) (f + l.order.length + 1 + c.order.length) rowC pvC p wC wR) :
    TPost T (.node x l c r) k f row pv p w wR := by
  obtain ⟨hfR, pvR, hsR, hpvR, hpaR⟩ := hR
  have hos : ∀ e, e ∈ (Tr.node x l c r).order → e < T.E := by
    intro e he
    simp only [Tr.order, List.mem_append, List.mem_cons] at he
    rcases he with he | rfl | he | he
    · exact hlE e he
    · exact hx
    · exact hcE e he
    · exact hrE e he
  have m1 : Fr (T.cb :: T.rb :: T.gb :: (Tr.node x l c r).order.map T.fk) w wL := hf1.mono (fun b hb => .inl (by simp only [Tr.order, List.map_append, List.map_cons, List.mem_cons, List.mem_append] at hb ⊢; grind))
  have m2 : Fr (T.cb :: T.rb :: T.gb :: (Tr.node x l c r).order.map T.fk) wL w4 := hf4.mono (fun b hb => .inl (by simp only [List.mem_cons, List.mem_nil_iff, or_false] at hb ⊢; grind))
  have m3 : Fr (T.cb :: T.rb :: T.gb :: (Tr.node x l c r).order.map T.fk) w4 w5 := hf5.mono (fun b hb => .inl (by simp only [Tr.order, List.map_append, List.map_cons, List.mem_cons, List.mem_append, List.mem_nil_iff, or_false] at hb ⊢; grind))
  have m4 : Fr (T.cb :: T.rb :: T.gb :: (Tr.node x l c r).order.map T.fk) w5 wC := hfC.mono (fun b hb => .inl (by simp only [Tr.order, List.map_append, List.map_cons, List.mem_cons, List.mem_append] at hb ⊢; grind))
  have m5 : Fr (T.cb :: T.rb :: T.gb :: (Tr.node x l c r).order.map T.fk) wC wR := hfR.mono (fun b hb => .inl (by simp only [Tr.order, List.map_append, List.map_cons, List.mem_cons, List.mem_append] at hb ⊢; grind))
  have hnd1 := List.nodup_append.1 hnd
  have hnd2 := List.nodup_cons.1 hnd1.2.1
  have hnd3 := List.nodup_append.1 hnd2.2
  have hxc : x ∉ c.order := fun h => hnd2.1 (by simp [h])
  have hxr : x ∉ r.order := fun h => hnd2.1 (by simp [h])
  refine ⟨(((m1.trans_same m2).trans_same m3).trans_same m4).trans_same m5, pvR, ?_, ?_, ?_⟩
  · have e1 : k + 1 + l.order.length + c.order.length + r.order.length = k + (Tr.node x l c r).order.length := by simp only [Tr.order, List.length_append, List.length_cons]; omega
    have e2 : f + l.order.length + 1 + c.order.length + r.order.length = f + (Tr.node x l c r).order.length := by simp only [Tr.order, List.length_append, List.length_cons]; omega
    rw [e1, e2, hrow] at hsR
    have hlen := hst.len
    have a1 := splice_app row (l.order.map (fun e => Value.pointer (some ⟨T.fk e, 0, none⟩))) [.pointer (some ⟨T.fk x, 0, none⟩)] f (by simp; omega)
    rw [List.length_map] at a1
    rw [a1] at hsR
    have a2 := splice_app row (l.order.map (fun e => Value.pointer (some ⟨T.fk e, 0, none⟩)) ++ [.pointer (some ⟨T.fk x, 0, none⟩)]) (c.order.map (fun e => Value.pointer (some ⟨T.fk e, 0, none⟩))) f (by simp; omega)
    rw [List.length_append, List.length_map, List.length_singleton, ← Nat.add_assoc] at a2
    rw [a2] at hsR
    have a3 := splice_app row ((l.order.map (fun e => Value.pointer (some ⟨T.fk e, 0, none⟩)) ++ [.pointer (some ⟨T.fk x, 0, none⟩)]) ++ c.order.map (fun e => Value.pointer (some ⟨T.fk e, 0, none⟩))) (r.order.map (fun e => Value.pointer (some ⟨T.fk e, 0, none⟩))) f (by simp; omega)
    rw [List.length_append, List.length_append, List.length_map, List.length_map, List.length_singleton, ← Nat.add_assoc, ← Nat.add_assoc] at a3
    rw [a3] at hsR
    have e3 : ((l.order.map (fun e => Value.pointer (some ⟨T.fk e, 0, none⟩)) ++ [.pointer (some ⟨T.fk x, 0, none⟩)]) ++ c.order.map (fun e => Value.pointer (some ⟨T.fk e, 0, none⟩))) ++ r.order.map (fun e => Value.pointer (some ⟨T.fk e, 0, none⟩)) = (Tr.node x l c r).order.map (fun e => Value.pointer (some ⟨T.fk e, 0, none⟩)) := by
      simp [Tr.order]
    rw [e3] at hsR
    exact hsR
  · intro e he
    simp only [Tr.order, List.mem_append, List.mem_cons, not_or] at he
    rw [hpvR e he.2.2.2, hpvC e he.2.2.1, hpv5]
    simp only [if_neg he.2.1]
    exact hpvL e he.1
  · intro q hq
    simp only [Tr.paths, List.mem_append, List.mem_cons] at hq
    have hmem : ∀ (t : Tr) (p : List ByteArray) (q : Nat × List ByteArray), q ∈ t.paths (fun e => (T.P e).name) p → q.1 ∈ t.order := by
      intro t
      induction t with
      | nil => intro p q h; simp [Tr.paths] at h
      | node e l c r h1 h2 h3 =>
        intro p q h
        simp only [Tr.paths, List.mem_append, List.mem_cons] at h
        simp only [Tr.order, List.mem_append, List.mem_cons]
        rcases h with h | rfl | h | h
        · exact .inl (h1 _ _ h)
        · exact .inr (.inl rfl)
        · exact .inr (.inr (.inl (h2 _ _ h)))
        · exact .inr (.inr (.inr (h3 _ _ h)))
    rcases hq with hq | rfl | hq | hq
    · have hm := hmem _ _ _ hq
      have n1 : q.1 ≠ x := fun h => hnd1.2.2 _ hm _ (by simp) h
      have n2 : q.1 ∉ c.order := fun h => hnd1.2.2 _ hm _ (by simp [h]) rfl
      have n3 : q.1 ∉ r.order := fun h => hnd1.2.2 _ hm _ (by simp [h]) rfl
      rw [hpvR _ n3, hpvC _ n2, hpv5]
      simp only [if_neg n1]
      exact (hpaL q hq).fr (((m2.trans_same m3).trans_same m4).trans_same m5) (hs3.no9 hos)
    · simp only
      rw [hpvR _ hxr, hpvC _ hxc, hpv5]
      simp only [if_true]
      exact hp.fr ((((m1.trans_same m2).trans_same m3).trans_same m4).trans_same m5) (hst.no9 hos)
    · have hm := hmem _ _ _ hq
      have n3 : q.1 ∉ r.order := fun h => hnd3.2.2 _ hm _ h rfl
      rw [hpvR _ n3]
      exact (hpaC q (by rw [hpc]; exact hq)).fr m5 (hsC.no9 hos)
    · exact hpaR q hq

theorem info9 : (Tryd.prog.info? 9).map (fun i => (i.zero, i.size, i.bytes)) = some (some (.string { data := #[] }), 1, 16) := by kernel_rfl
theorem make_path (n : Nat) (h : n ≤ 200000) (w : World) : (Instr.makeSlice 35 (.int .i64 ((n : Int) + 1)) (.int .i64 ((n : Int) + 1))).run Tryd.prog w =
    .ok (.slice (some ⟨w.heap.size, 0, none⟩) (n + 1) (n + 1)) (w.alloc (.cells (tab (n + 1) (fun _ => Value.string { data := #[] })).toArray 9)) := by
  have := make_tab Tryd.underlying35 info9 rfl (n + 1) (n + 1) (Nat.le_refl _) (by omega) (by omega) w
  simpa using this

set_option maxRecDepth 100000 in
set_option maxHeartbeats 1000000 in
theorem trav_any (T : TEnv) (t : Tr) : ∀ (x k f : Nat) (l : List Value) (pv : Nat → Value) (v : Value) (p : List ByteArray) (w : World), t ≠ .nil → t.Fits T.E T.G x → t.order.Nodup → TSt T w k f l pv →
    PathIs w T.base v p → k + t.order.length ≤ T.E → f + t.order.length ≤ T.E → T.E ≤ 100000 → p.length + t.order.length ≤ 200000 →
    Calls Tryd.prog 63 #[.int .i64 x, v, .pointer (some ⟨T.cb, 0, none⟩), .pointer (some ⟨T.xb, 0, none⟩), .pointer (some ⟨T.eb, 0, none⟩), .pointer (some ⟨T.fb, 0, none⟩)] w fun e w' => e = .returned (.tuple #[]) ∧ TPost T t k f l pv p w w' := by
  induction t with
  | nil => intro _ _ _ _ _ _ _ _ h; exact absurd rfl h
  | node e l c r ihl ihc ihr =>
    intro x k f row pv v p w _ hfit hnd hst hp hk hf hE hpl
    obtain ⟨rfl, he, hfl, hfc, hfr⟩ := hfit
    obtain ⟨pb, pcap, rfl, hpb, hpB⟩ := hp
    have hpB0 := hpB
    simp only [Tr.order, List.length_append, List.length_cons] at hk hf hpl
    have hndl : l.order.Nodup := (List.nodup_append.1 hnd).1
    have hnd2 := (List.nodup_cons.1 (List.nodup_append.1 hnd).2.1).2
    have hndc : c.order.Nodup := (List.nodup_append.1 hnd2).1
    have hndr : r.order.Nodup := (List.nodup_append.1 hnd2).2.1
    have c0 : w.cell? ⟨T.cb, 0, none⟩ = some (.int .i64 k) := hst.cnt.cell 0
    have z0 := hst.cnt.frozen 0
    have x0 : w.cell? ⟨T.xb, 0, none⟩ = some (.pointer (some ⟨T.rb, 0, none⟩)) := hst.box.cell 0
    have r5 : w.cell? ⟨T.rb, 5, none⟩ = some (.slice (some ⟨T.dg, 0, none⟩) T.E T.dcap) := hst.rd.cell 5
    go_enter Tryd.func63, Tryd.ntmps63
    go_upto_region 1 with (fail)
    have hs1 := hst.setCnt (k + 1) (.int .i64 ((k : Int) + 1)) (by push_cast; rfl)
    have hf1 : Fr [T.cb] w (w.setCell ⟨T.cb, 0, none⟩ (.int .i64 ((k : Int) + 1))) := (Fr.refl _ _).setCell (.inl (by simp)) _
    clear c0 z0 x0 r5
    generalize w.setCell ⟨T.cb, 0, none⟩ (.int .i64 ((k : Int) + 1)) = w1 at *
    obtain ⟨dl, hda, hdb⟩ := hs1.dir
    have c0 : w1.cell? ⟨T.cb, 0, none⟩ = some (.int .i64 ((k : Int) + 1)) := hs1.cnt.cell 0
    have x0 : w1.cell? ⟨T.xb, 0, none⟩ = some (.pointer (some ⟨T.rb, 0, none⟩)) := hs1.box.cell 0
    have r5 : w1.cell? ⟨T.rb, 5, none⟩ = some (.slice (some ⟨T.dg, 0, none⟩) T.E T.dcap) := hs1.rd.cell 5
    have dc : w1.cell? ⟨T.dg, x, none⟩ = some (.pointer (some ⟨T.fk x, 0, none⟩)) := (hda.cell x).trans (hdb x he)
    have f7 : w1.cell? ⟨T.fk x, 7, none⟩ = some (.pointer (some ⟨T.dk x, 0, none⟩)) := (hs1.file x he).cell 7
    have d35 := ((hs1.ent x he).cell 35).trans (dir_left _)
    have tt1 : decide ((T.E : Int) < (k : Int) + 1) = false := by simp; omega
    have tt2 : decide ((T.E : Int) ≤ (x : Int)) = false := by simp; omega
    have heI : (x : Int) < T.E := by omega
    go_quiet (fail)
    have HD := Lib.hid hdb
    clear hdb
    go_upto_if 50 with (fail)
    have hs2 := hs1.fr0 ((Fr.refl [] w1).drewN nq)
    have hf2 : Fr [T.cb] w (w1.drewN nq) := hf1.drewN nq
    have hp2 : Blk (w1.drewN nq) pb 9 (p.map Value.string) := (hpB.fr hf1 (by simp only [List.mem_singleton]; exact hpB.ne hst.cnt (by decide))).drewN nq
    clear c0 x0 r5 dc f7 d35 hs1 hf1 hda hpB
    generalize w1.drewN nq = w2 at *
    have fr0 : w2.cell? ⟨T.fb, 0, none⟩ = some (.func (.func 63) #[] T.caps) := hs2.rec_.cell 0
    have f7 : w2.cell? ⟨T.fk x, 7, none⟩ = some (.pointer (some ⟨T.dk x, 0, none⟩)) := (hs2.file x he).cell 7
    have d35 := ((hs2.ent x he).cell 35).trans (dir_left _)
    go_cut [] from 12 to 61 (fun w3 => TPost T l (k + 1) f row pv p w2 w3)
    case first =>
      cases l with
      | nil =>
        have hq : (((fld (T.G x) 68 4 : Nat) : Int) != 4294967295) = false := by rw [show fld (T.G x) 68 4 = 4294967295 from hfl]; rfl
        go_wp2_with fail
        go_meet
        case rel => exact TPost.nil hs2 (Fr.refl _ _)
      | node e' l' c' r' =>
        have hlt : fld (T.G x) 68 4 < T.E := by obtain ⟨h1, h2, _⟩ := hfl; rw [h1]; exact h2
        have hq : (((fld (T.G x) 68 4 : Nat) : Int) != 4294967295) = true := by simp; omega
        go_upto_region 7 with (fail)
        go_still_tail 10, (by kernel_rfl)
        change wpList _ _ _ _ _ w2.drew
        go_wp2_with fail
        refine (ihl (fld (T.G x) 68 4) (k + 1) f row pv _ p w2.drew (by simp) hfl hndl (hs2.fr0 ((Fr.refl [] w2).drew)) ⟨pb, pcap, rfl, hpb, hp2.drew⟩ (by omega) (by omega) hE (by omega)).mono ?_
        rintro e w3 ⟨rfl, hpost⟩
        go_wp2_with fail
        go_meet
        case rel => exact hpost.drew
    case rest =>
    clear fr0 f7 d35
    have hfL := hs2
    clear hs2
    obtain ⟨hf3, pvL, hs3, hpvL, hpaL⟩ := hcut
    have hp3 := hp2.fr hf3 (hfL.no9 hfl.lt _ _ hp2)
    have hf13 := (hf2.mono (ms' := T.cb :: T.rb :: T.gb :: l.order.map T.fk) (by simp)).trans_same hf3
    generalize hol : l.order.length = nl at *
    have hxg : T.xb ≠ T.gb := hs3.box.ne hs3.row (by decide)
    have hrg : T.rb ≠ T.gb := hs3.rd.ne hs3.row (by decide)
    have hxr : T.xb ≠ T.rb := hs3.box.ne hs3.rd (by decide)
    have x0 : wc.cell? ⟨T.xb, 0, none⟩ = some (.pointer (some ⟨T.rb, 0, none⟩)) := hs3.box.cell 0
    have r4 : wc.cell? ⟨T.rb, 4, none⟩ = some (.slice (some ⟨T.gb, 0, none⟩) (f + nl) T.E) := hs3.rd.cell 4
    have rz4 := hs3.rd.frozen 4
    have b2 : (wc.alloc (Obj.cells #[.pointer (some ⟨T.fk x, 0, none⟩)] 92)).cell? ⟨T.rb, 4, none⟩ = some (.slice (some ⟨T.gb, 0, none⟩) (f + nl) T.E) := ((Fr.refl [] wc).alloc _).cell0 r4
    have hl3 := hs3.len
    have hrow3 := hs3.row
    go_upto_region 8 with (fail)
    go_cut [] from 62 to 71 (fun w4 => ∃ w3, Fr [T.gb] wc w3 ∧ Blk w3 T.gb 92 (splice (splice row f (l.order.map (fun e => .pointer (some ⟨T.fk e, 0, none⟩)))) (f + nl) [.pointer (some ⟨T.fk x, 0, none⟩)]) ∧ w4 = w3.setCell ⟨T.rb, 4, none⟩ (.slice (some ⟨T.gb, 0, none⟩) (f + nl + 1) T.E))
    case first =>
      obtain ⟨R, hR⟩ : ∃ R : AR, R = ⟨wc, T.rb, 4, T.gb, f + nl, T.E, 6, 7, 10, 92, splice row f (l.order.map (fun e => .pointer (some ⟨T.fk e, 0, none⟩))), .pointer (some ⟨T.fk x, 0, none⟩), fun i => match i with
        | 0 | 1 | 2 | 8 => .pointer (some ⟨T.rb, 0, none⟩)
        | 3 | 9 => .pointer (some ⟨T.rb, 4, none⟩)
        | 4 => .slice (some ⟨T.gb, 0, none⟩) (f + nl) T.E
        | 5 => .pointer (some ⟨T.fk x, 0, none⟩)
        | 7 => .slice (some ⟨T.gb, 0, none⟩) (f + nl + 1) T.E
        | _ => undef⟩ := ⟨_, rfl⟩
      have rB : R.B = 6 := by rw [hR]
      have rA : R.A = 7 := by rw [hR]
      have rS : R.S = 10 := by rw [hR]
      have rT : R.T = 92 := by rw [hR]
      have hxc : ∀ w1, Fr [T.gb] wc w1 → w1.cell? ⟨T.xb, 0, none⟩ = some (.pointer (some ⟨T.rb, 0, none⟩)) ∧ w1.cell? ⟨T.rb, 4, none⟩ = some (.slice (some ⟨T.gb, 0, none⟩) (f + nl) T.E) := fun w1 hf1 => ⟨hf1.cell (by simpa using hxg) x0, hf1.cell (by simpa using hrg) r4⟩
      have hsc : ∀ w1, Fr [T.gb] wc w1 → w1.cell? ⟨T.rb, 4, none⟩ = some (.slice (some ⟨T.gb, 0, none⟩) (f + nl) T.E) ∧ w1.frozen? ⟨T.rb, 4, none⟩ = false := fun w1 hf1 => ⟨hf1.cell (by simpa using hrg) r4, (hs3.rd.fr hf1 (by simpa using hrg)).frozen 4⟩
      have hroomA : f + nl + 1 ≤ T.E := by omega
      have hroomL : f + nl + 1 ≤ (splice row f (l.order.map (fun e => Value.pointer (some ⟨T.fk e, 0, none⟩)))).length := by rw [hl3]; omega
      have hgl : R.gb < R.wr.heap.size := by rw [hR]; exact hrow3.lt
      have hsl : R.sb < R.wr.heap.size := by rw [hR]; exact hs3.rd.lt
      refine wp_region_loose (J := R.J) (Sp := R.Sp) (by kernel_rfl) (by kernel_rfl) ?_ ?_ ?_
      · subst hR
        exact ⟨fun _ => (Fr.refl _ _).drew, fun _ _ => hrow3, fun h => (by cases h), fun h => (by cases h)⟩
      · intro L a w1 i o hI hi hL hw
        have hj := hI.j
        have same : L R.S = false → ∀ i, i ≠ 7 ∧ i ≠ 10 → R.J (lSet L i) w1 := fun hS i hi => hj.alloc hS (Fr.refl _ _) i (by rw [rA, rS]; exact hi)
        have nop : ∀ j u, L j = true → R.Sp j w1 u → R.Sp j w1 u := fun _ _ _ h => h
        rcases i with _ | _ | _ | _ | _ | _ | _ | _ | _ | _ | _ | i
        · obtain rfl := Option.some.inj hi
          have hS : L 10 = false := hI.before (i := 0) (j := 10) hL rfl (by kernel_rfl)
          have hS' : L R.S = false := by rw [hR]; exact hS
          have e0 := hI.outer 3 (by kernel_rfl) (.pointer (some ⟨T.xb, 0, none⟩)) rfl
          rw [Array.getD_eq_getD_getElem?] at e0
          have hc := (hxc w1 (by have := hj.a hS'; rw [hR] at this; exact this)).1
          exact lw (.pointer (some ⟨T.rb, 0, none⟩)) (by simp [go_sem, e0, hc]) ⟨_, rfl, same hS' 0 (by decide), nop, AR.sp_c (by rw [rB]; decide) (by subst hR; rfl)⟩
        · obtain rfl := Option.some.inj hi
          have hS : L 10 = false := hI.before (i := 1) (j := 10) hL rfl (by kernel_rfl)
          have hS' : L R.S = false := by rw [hR]; exact hS
          have e0 := hI.outer 3 (by kernel_rfl) (.pointer (some ⟨T.xb, 0, none⟩)) rfl
          rw [Array.getD_eq_getD_getElem?] at e0
          have hc := (hxc w1 (by have := hj.a hS'; rw [hR] at this; exact this)).1
          exact lw (.pointer (some ⟨T.rb, 0, none⟩)) (by simp [go_sem, e0, hc]) ⟨_, rfl, same hS' 1 (by decide), nop, AR.sp_c (by rw [rB]; decide) (by subst hR; rfl)⟩
        · obtain rfl := Option.some.inj hi
          have hS : L 10 = false := hI.before (i := 2) (j := 10) hL rfl (by kernel_rfl)
          have hS' : L R.S = false := by rw [hR]; exact hS
          have l0 := waits_of hw 1 (by kernel_rfl)
          have e0 : a.tmps.getD 63 undef = .pointer (some ⟨T.rb, 0, none⟩) := (AR.of_sp (hI.val 1 _ 63 l0 rfl rfl) (by rw [rB]; decide)).trans (by subst hR; rfl)
          rw [Array.getD_eq_getD_getElem?] at e0
          exact lw (.pointer (some ⟨T.rb, 0, none⟩)) (by simp [go_sem, e0]) ⟨_, rfl, same hS' 2 (by decide), nop, AR.sp_c (by rw [rB]; decide) (by subst hR; rfl)⟩
        · obtain rfl := Option.some.inj hi
          have hS : L 10 = false := hI.before (i := 3) (j := 10) hL rfl (by kernel_rfl)
          have hS' : L R.S = false := by rw [hR]; exact hS
          have l0 := waits_of hw 2 (by kernel_rfl)
          have e0 : a.tmps.getD 64 undef = .pointer (some ⟨T.rb, 0, none⟩) := (AR.of_sp (hI.val 2 _ 64 l0 rfl rfl) (by rw [rB]; decide)).trans (by subst hR; rfl)
          rw [Array.getD_eq_getD_getElem?] at e0
          exact lw (.pointer (some ⟨T.rb, 4, none⟩)) (by simp [go_sem, e0]) ⟨_, rfl, same hS' 3 (by decide), nop, AR.sp_c (by rw [rB]; decide) (by subst hR; rfl)⟩
        · obtain rfl := Option.some.inj hi
          have hS : L 10 = false := hI.before (i := 4) (j := 10) hL rfl (by kernel_rfl)
          have hS' : L R.S = false := by rw [hR]; exact hS
          have l0 := waits_of hw 3 (by kernel_rfl)
          have e0 : a.tmps.getD 65 undef = .pointer (some ⟨T.rb, 4, none⟩) := (AR.of_sp (hI.val 3 _ 65 l0 rfl rfl) (by rw [rB]; decide)).trans (by subst hR; rfl)
          rw [Array.getD_eq_getD_getElem?] at e0
          have hc := (hxc w1 (by have := hj.a hS'; rw [hR] at this; exact this)).2
          exact lw (.slice (some ⟨T.gb, 0, none⟩) (f + nl) T.E) (by simp [go_sem, e0, hc]) ⟨_, rfl, same hS' 4 (by decide), nop, AR.sp_c (by rw [rB]; decide) (by subst hR; rfl)⟩
        · obtain rfl := Option.some.inj hi
          have hS : L 10 = false := hI.before (i := 5) (j := 10) hL rfl (by kernel_rfl)
          have hS' : L R.S = false := by rw [hR]; exact hS
          have e0 := hI.outer 8 (by kernel_rfl) (.pointer (some ⟨T.fk x, 0, none⟩)) rfl
          rw [Array.getD_eq_getD_getElem?] at e0
          exact lw (.pointer (some ⟨T.fk x, 0, none⟩)) (by simp [go_sem, e0]) ⟨_, rfl, same hS' 5 (by decide), nop, AR.sp_c (by rw [rB]; decide) (by subst hR; rfl)⟩
        · obtain rfl := Option.some.inj hi
          have hS : L 10 = false := hI.before (j := 10) hL rfl (by kernel_rfl)
          have hS' : L R.S = false := by rw [hR]; exact hS
          have l0 := waits_of hw 5 (by kernel_rfl)
          have e0 : a.tmps.getD 67 undef = R.u := (AR.of_sp (hI.val 5 _ 67 l0 rfl rfl) (by rw [rB]; decide)).trans (by subst hR; rfl)
          have f := (Fr.refl [] w1).alloc (.cells #[R.u] 92)
          have hnew : Blk (w1.alloc (.cells #[R.u] 92)) w1.heap.size R.T [R.u] := by rw [rT]; exact Blk.new' _ _ _
          exact ow_build1 trivial 85 92 (.tmp 67) rfl R.u e0 (by subst hR; rfl) Tryd.underlying85 (by kernel_rfl) ⟨_, rfl, hj.alloc hS' f 6 (by rw [rA, rS]; decide), fun j u _ => AR.Sp_fr0 f j u, by unfold AR.Sp; rw [rB, if_pos rfl]; exact ⟨w1.heap.size, rfl, hnew, (hj.a hS').size⟩⟩
        · obtain rfl := Option.some.inj hi
          have hS : L 10 = false := hI.before (j := 10) hL rfl (by kernel_rfl)
          have hS' : L R.S = false := by rw [hR]; exact hS
          have l0 := waits_of hw 4 (by kernel_rfl)
          have l1 := waits_of hw 6 (by kernel_rfl)
          have e0 : a.tmps.getD 66 undef = .slice (some ⟨R.gb, 0, none⟩) R.n R.cap := (AR.of_sp (hI.val 4 _ 66 l0 rfl rfl) (by rw [rB]; decide)).trans (by subst hR; rfl)
          obtain ⟨g, e1, hg, hge⟩ := AR.of_spB (R := R) (by rw [rB]; exact hI.val 6 _ 68 l1 rfl rfl)
          rw [rT] at hg
          have hgb := hj.b (by rw [rA]; exact hL) hS'
          rw [rT] at hgb
          refine ow_app_room (.tmp 66) (.tmp 68) 85 rfl 92 Tryd.underlying85 (by kernel_rfl) R.gb R.n R.cap R.l e0 hgb g R.u e1 hg (by subst hR; rfl) (by subst hR; exact hroomA) (by subst hR; exact hroomL) ?_
          intro w' hf hb
          have hja := hj.app hS' (by rw [rA, rS]; decide) hf (by rw [rT]; exact hb)
          rw [rA] at hja
          exact ⟨_, rfl, hja, fun j u _ => AR.Sp_fr hf hgl j u, AR.sp_c (by rw [rB]; decide) (by subst hR; rfl)⟩
        · obtain rfl := Option.some.inj hi
          have hvia : L 9 = false := hI.before (j := 9) hL rfl (by kernel_rfl)
          have hS : L 10 = false := hI.before (i := 9) (j := 10) hvia rfl (by kernel_rfl)
          have hS' : L R.S = false := by rw [hR]; exact hS
          have l0 := waits_of hw 0 (by kernel_rfl)
          have e0 : a.tmps.getD 62 undef = .pointer (some ⟨T.rb, 0, none⟩) := (AR.of_sp (hI.val 0 _ 62 l0 rfl rfl) (by rw [rB]; decide)).trans (by subst hR; rfl)
          rw [Array.getD_eq_getD_getElem?] at e0
          exact lw (.pointer (some ⟨T.rb, 0, none⟩)) (by simp [go_sem, e0]) ⟨_, rfl, same hS' 8 (by decide), nop, AR.sp_c (by rw [rB]; decide) (by subst hR; rfl)⟩
        · obtain rfl := Option.some.inj hi
          have hS : L 10 = false := hI.before (i := 9) (j := 10) hL rfl (by kernel_rfl)
          have hS' : L R.S = false := by rw [hR]; exact hS
          have l0 := waits_of hw 8 (by kernel_rfl)
          have e0 : a.tmps.getD 70 undef = .pointer (some ⟨T.rb, 0, none⟩) := (AR.of_sp (hI.val 8 _ 70 l0 rfl rfl) (by rw [rB]; decide)).trans (by subst hR; rfl)
          rw [Array.getD_eq_getD_getElem?] at e0
          exact lw (.pointer (some ⟨T.rb, 4, none⟩)) (by simp [go_sem, e0]) ⟨_, rfl, same hS' 9 (by decide), nop, AR.sp_c (by rw [rB]; decide) (by subst hR; rfl)⟩
        · obtain rfl := Option.some.inj hi
          have hS' : L R.S = false := by rw [rS]; exact hL
          have l0 := waits_of hw 9 (by kernel_rfl)
          have l1 := waits_of hw 7 (by kernel_rfl)
          have e0 : a.tmps.getD 71 undef = .pointer (some ⟨T.rb, 4, none⟩) := (AR.of_sp (hI.val 9 _ 71 l0 rfl rfl) (by rw [rB]; decide)).trans (by subst hR; rfl)
          have e1 : a.tmps.getD 69 undef = .slice (some ⟨T.gb, 0, none⟩) (f + nl + 1) T.E := (AR.of_sp (hI.val 7 _ 69 l1 rfl rfl) (by rw [rB]; decide)).trans (by subst hR; rfl)
          rw [Array.getD_eq_getD_getElem?] at e0 e1
          have hSc := hsc w1 (by have := hj.a hS'; rw [hR] at this; exact this)
          have hJ := hj.store hS' (by rw [rA]; exact l1)
          have hSp : ∀ j u, L j = true → R.Sp j w1 u → R.Sp j (w1.setCell ⟨R.sb, R.k, none⟩ R.nv) u := fun j u _ => AR.Sp_fr ((Fr.refl [R.sb] w1).setCell (.inl (by simp)) _) hsl j u
          rw [rS] at hJ
          have hend : R.Sp 10 (w1.setCell ⟨R.sb, R.k, none⟩ R.nv) undef := AR.sp_c (by rw [rB]; decide) (by subst hR; rfl)
          subst hR
          exact lw_skip (by simp [go_sem, e0, e1, hSc.1, hSc.2]; rfl) ⟨_, rfl, hJ, hSp, hend⟩
        · cases hi
      · intro L a w1 hI hall
        have hd := hI.j.d (by rw [rS]; exact hall 10 (by decide))
        rw [hR] at hd
        obtain ⟨w3, g1, g2, g3⟩ := hd
        have hlit := hI.lit [62, 63, 64, 65, 66, 67, 68, 69, 70, 71] (by kernel_rfl)
        rw [hlit]
        simp only [List.foldl, List.setIfInBounds_toArray, List.set_cons_succ, List.set_cons_zero]
        rename (∀ (a : Act) (w : World), Met _ a w → _) => hK
        refine hK _ _ ?_
        go_meet
        case rel => exact ⟨w3, g1, g2, g3⟩
    case rest =>
    clear x0 r4 rz4 b2 hl3 hrow3
    obtain ⟨w3, hfA, hrA, rfl⟩ := hcut
    have hs4 := hs3.app hfA hrA (by rw [length_splice _ _ _ (by simp [hs3.len]; omega)]; exact hs3.len)
    have hf4 : Fr [T.rb, T.gb] wc (w3.setCell ⟨T.rb, 4, none⟩ (.slice (some ⟨T.gb, 0, none⟩) (f + nl + 1) T.E)) := (hfA.mono (by simp)).setCell (.inl (by simp)) _
    generalize w3.setCell ⟨T.rb, 4, none⟩ (.slice (some ⟨T.gb, 0, none⟩) (f + nl + 1) T.E) = w4 at *
    have f2 : w4.cell? ⟨T.fk x, 2, none⟩ = some (pvL x) := (hs4.file x he).cell 2
    have fz := (hs4.file x he).frozen 2
    have f7 : w4.cell? ⟨T.fk x, 7, none⟩ = some (.pointer (some ⟨T.dk x, 0, none⟩)) := (hs4.file x he).cell 7
    have d37 := ((hs4.ent x he).cell 37).trans (dir_child _)
    have hfd : T.fk x ≠ T.dk x := (hs4.file x he).ne (hs4.ent x he) (by decide)
    go_upto_if 83 with (fail)
    have hs5 := hs4.setPath x he (.slice (some ⟨pb, 0, none⟩) p.length pcap)
    have hf5 : Fr [T.fk x] w4 (w4.setCell ⟨T.fk x, 2, none⟩ (.slice (some ⟨pb, 0, none⟩) p.length pcap)) := (Fr.refl _ _).setCell (.inl (by simp)) _
    clear f2 fz f7 d37
    generalize w4.setCell ⟨T.fk x, 2, none⟩ (.slice (some ⟨pb, 0, none⟩) p.length pcap) = w5 at *
    have hp5 : Blk w5 pb 9 (p.map Value.string) := (hp3.fr hf4 (by simp only [List.mem_cons, List.mem_nil_iff, or_false]; rintro (h | h); exact hp3.ne hs3.rd (by decide) h; exact hp3.ne hs3.row (by decide) h)).fr hf5 (by simp only [List.mem_singleton]; exact (hp3.fr hf4 (by simp only [List.mem_cons, List.mem_nil_iff, or_false]; rintro (h | h); exact hp3.ne hs3.rd (by decide) h; exact hp3.ne hs3.row (by decide) h)).ne (hs4.file x he) (by decide))
    have fr0 : w5.cell? ⟨T.fb, 0, none⟩ = some (.func (.func 63) #[] T.caps) := hs5.rec_.cell 0
    have f7 : w5.cell? ⟨T.fk x, 7, none⟩ = some (.pointer (some ⟨T.dk x, 0, none⟩)) := (hs5.file x he).cell 7
    have d37 := ((hs5.ent x he).cell 37).trans (dir_child _)
    generalize hRow : splice (splice row f (l.order.map (fun e => .pointer (some ⟨T.fk e, 0, none⟩)))) (f + nl) [.pointer (some ⟨T.fk x, 0, none⟩)] = row5 at *
    generalize hPv : (fun a => if a = x then Value.slice (some ⟨pb, 0, none⟩) p.length pcap else pvL a) = pv5 at *
    go_cut [9] from 72 to 123 (fun s9 w6 => TPost T c (k + 1 + nl) (f + nl + 1) row5 pv5 (if x = 0 then p else p ++ [(T.P x).name]) w5 w6)
    case first =>
      cases c with
      | nil =>
        have hq : (((fld (T.G x) 76 4 : Nat) : Int) != 4294967295) = false := by rw [show fld (T.G x) 76 4 = 4294967295 from hfc]; rfl
        go_wp2_with fail
        go_meet
        case rel => exact TPost.nil hs5 (Fr.refl _ _)
      | node e' l' c' r' =>
        have hlt : fld (T.G x) 76 4 < T.E := by obtain ⟨h1, h2, _⟩ := hfc; rw [h1]; exact h2
        have hq : (((fld (T.G x) 76 4 : Nat) : Int) != 4294967295) = true := by simp; omega
        simp only [Tr.order, List.length_append, List.length_cons] at hk hf hpl
        by_cases hx0 : x = 0
        · subst hx0
          go_upto_region 16 with (fail)
          go_still_tail 10, (by kernel_rfl)
          change wpList _ _ _ _ _ w5.drew
          go_wp2_with fail
          refine (ihc (fld (T.G 0) 76 4) (k + 1 + nl) (f + nl + 1) row5 pv5 _ p w5.drew (by simp) hfc hndc (hs5.fr0 ((Fr.refl [] w5).drew)) ⟨pb, pcap, rfl, hpb, hp5.drew⟩ (by simp only [Tr.order, List.length_append, List.length_cons]; omega) (by simp only [Tr.order, List.length_append, List.length_cons]; omega) hE (by simp only [Tr.order, List.length_append, List.length_cons]; omega)).mono ?_
          rintro e w3 ⟨rfl, hpost⟩
          go_wp2_with fail
          go_meet
          case rel => simpa using hpost.drew
        · have hx0I : decide ((0 : Int) < (x : Int)) = true := by simp; omega
          have hmk := make_path p.length (by omega)
          have nm0 : w5.cell? ⟨T.fk x, 0, none⟩ = some (.string (T.P x).name) := (hs5.file x he).cell 0
          obtain ⟨nb, hnb⟩ : ∃ nb, w5.heap.size = nb := ⟨_, rfl⟩
          have hB0 := Blk.new w5 9 (tab (p.length + 1) (fun _ => Value.string { data := #[] }))
          rw [hnb] at hB0
          have hxnb : T.fk x < nb := by rw [← hnb]; exact (hs5.file x he).lt
          have hpnb : pb < nb := by rw [← hnb]; exact hp5.lt
          go_wp2_with (with_reducible refine wpList_copy_blk rfl (.tmp 90) (.tmp 91) 35 35 rfl 9 Tryd.underlying35 (by kernel_rfl) _ _ _ _ _ _ rfl rfl nb 0 (tab (p.length + 1) (fun _ => Value.string { data := #[] })) 9 ?_ p.length (fun i => (Option.map Value.string p[i]?).getD .nilIface) ?_ ?_ ?_ ?_ ?_)
          · exact hB0
          · intro _ j hj
            rw [hp5.cell]
            simp [hj]
          · simp
          · intro j hj
            simp [hj, Value.oneCell']
          · intro w8 hf8 hb8
            have hl8 : (splice (tab (p.length + 1) (fun _ => Value.string { data := #[] })) 0 (tab p.length (fun i => (Option.map Value.string p[i]?).getD .nilIface))).length = p.length + 1 := by rw [length_splice _ _ _ (by simp)]; simp
            obtain ⟨v8, hv8⟩ := hb8.some p.length (by rw [hl8]; omega)
            have hz8 := hb8.frozen p.length
            have hf58 : Fr [] w5 w8 := ((Fr.refl [] w5).alloc _).trans hf8 (by simp; omega)
            have nm8 : w8.cell? ⟨T.fk x, 0, none⟩ = some (.string (T.P x).name) := hf58.cell0 nm0
            have hnew : (splice (tab (p.length + 1) (fun _ => Value.string { data := #[] })) 0 (tab p.length (fun i => (Option.map Value.string p[i]?).getD .nilIface))).set p.length (.string (T.P x).name) = (p ++ [(T.P x).name]).map Value.string := by
              apply List.ext_getElem?
              intro i
              by_cases hi : i < p.length
              · rw [List.getElem?_set_ne (by omega), splice_get _ _ _ (by simp), if_pos (by simp; omega), Nat.sub_zero, tab_get _ _ _ hi, List.map_append, List.getElem?_append_left (by simpa using hi)]
                simp [hi]
              · by_cases hi2 : i = p.length
                · subst hi2
                  rw [List.getElem?_set_self (by rw [hl8]; omega), List.map_append, List.getElem?_append_right (by simp)]
                  simp
                · rw [List.getElem?_eq_none (by rw [List.length_set, hl8]; omega), List.getElem?_eq_none (by simp; omega)]
            have hb9 := hb8.set p.length (.string (T.P x).name)
            rw [hnew] at hb9
            have hf59 : Fr [] w5 (w8.setCell ⟨nb, p.length, none⟩ (.string (T.P x).name)) := hf58.setCell (.inr (by simp; omega)) _
            clear hb8 hf8 hB0 hnew hl8
            go_upto_region 15 with (fail)
            generalize w8.setCell ⟨nb, p.length, none⟩ (.string (T.P x).name) = w9 at *
            have g0 := hf59.cell0 fr0
            have g7 := hf59.cell0 f7
            have g37 := hf59.cell0 d37
            go_still_tail 10, (by kernel_rfl)
            change wpList _ _ _ _ _ w9.drew
            go_wp2_with fail
            refine (ihc (fld (T.G x) 76 4) (k + 1 + nl) (f + nl + 1) row5 pv5 _ (p ++ [(T.P x).name]) w9.drew (by simp) hfc hndc (hs5.fr0 hf59.drew) ⟨nb, p.length + 1, by simp, by omega, hb9.drew⟩ (by simp only [Tr.order, List.length_append, List.length_cons]; omega) (by simp only [Tr.order, List.length_append, List.length_cons]; omega) hE (by simp only [Tr.order, List.length_append, List.length_cons, List.length_nil]; omega)).mono ?_
            rintro e w3 ⟨rfl, hpost⟩
            go_wp2_with fail
            go_meet
            case rel =>
              rw [if_neg hx0]
              exact ⟨(hf59.drew.mono (by simp)).trans_same hpost.1, hpost.2⟩
    case rest =>
    clear fr0 f7 d37
    obtain ⟨hfC, pvC, hsC, hpvC, hpaC⟩ := hcut
    have hpC : Blk wc pb 9 (p.map Value.string) := hp5.fr hfC (hs5.no9 hfc.lt _ _ hp5)
    have fr0 : wc.cell? ⟨T.fb, 0, none⟩ = some (.func (.func 63) #[] T.caps) := hsC.rec_.cell 0
    have f7 : wc.cell? ⟨T.fk x, 7, none⟩ = some (.pointer (some ⟨T.dk x, 0, none⟩)) := (hsC.file x he).cell 7
    have d36 := ((hsC.ent x he).cell 36).trans (dir_right _)
    have hjoin : ∀ wR, TPost T r (k + 1 + nl + c.order.length) (f + nl + 1 + c.order.length) (splice row5 (f + nl + 1) (c.order.map (fun e => .pointer (some ⟨T.fk e, 0, none⟩)))) pvC p wc wR → TPost T (.node x l c r) k f row pv p w wR := by
      intro wR hR
      subst hol
      exact TPost.join hst he hfl.lt hfc.lt hfr.lt hnd ⟨pb, pcap, rfl, hpb, hpB0⟩ (by omega) hf13 hs3 hpvL hpaL hf4 hf5 hPv.symm rfl (by rw [hRow]) hfC hsC hpvC hpaC hR
    have HJ := Lib.hid hjoin
    clear hjoin
    cases r with
    | nil =>
      have hq : (((fld (T.G x) 72 4 : Nat) : Int) != 4294967295) = false := by rw [show fld (T.G x) 72 4 = 4294967295 from hfr]; rfl
      go_wp2_with fail
      go_end0
      exact ⟨rfl, HJ.out _ (TPost.nil hsC (Fr.refl _ _))⟩
    | node e' l' c' r' =>
      have hlt : fld (T.G x) 72 4 < T.E := by obtain ⟨h1, h2, _⟩ := hfr; rw [h1]; exact h2
      have hq : (((fld (T.G x) 72 4 : Nat) : Int) != 4294967295) = true := by simp; omega
      go_upto_region 18 with (fail)
      go_still_tail 10, (by kernel_rfl)
      change wpList _ _ _ _ _ wc.drew
      go_wp2_with fail
      refine (ihr (fld (T.G x) 72 4) (k + 1 + nl + c.order.length) (f + nl + 1 + c.order.length) _ pvC _ p wc.drew (by simp) hfr hndr (hsC.fr0 ((Fr.refl [] wc).drew)) ⟨pb, pcap, rfl, hpb, hpC.drew⟩ (by omega) (by omega) hE (by omega)).mono ?_
      rintro e w3 ⟨rfl, hpost⟩
      go_wp2_with fail
      go_end0
      exact ⟨rfl, HJ.out _ hpost.drew⟩
end Go.Proofs.YtokpomdfgbbhlaaDoor

/- The contract of (*File).Read: the next bytes of a stream, the end where there is less; nothing of a storage. -/
namespace Go.Proofs.YtokpomdfgbbhlaaDoor
open Go Go.RowKit Go.Maps

set_option maxRecDepth 100000 in
set_option maxHeartbeats 1000000 in
/-- Nothing is left, or never was. -/
theorem read_end (fb n cap i cur rm dk rb ini : Nat) (nm : ByteArray) (pv ev : Value) (len : Nat) (a : Option Addr) (w : World) (hF : FlS w fb nm ini pv len i cur rm dk rb) (hl : len = 0 ∨ len ≤ i)
    (hev : w.cell? ⟨0, 0, none⟩ = some ev) :
    Calls Tryd.prog 44 #[.pointer (some ⟨fb, 0, none⟩), .slice a n cap] w fun e w' => e = .returned (.tuple #[.int .i64 0, ev]) ∧ Fr [] w w' := by
  have f3 : w.cell? ⟨fb, 3, none⟩ = some (.int .i64 (len : Nat)) := hF.cell 3
  have f4 : w.cell? ⟨fb, 4, none⟩ = some (.int .i64 (i : Nat)) := hF.cell 4
  go_enter Tryd.func44, Tryd.ntmps44
  go_upto_region 1 with (fail)
  by_cases h0 : len = 0
  · subst h0
    go_quiet (fail)
    go_upto_region 2 with (fail)
    have hev2 : (w.drewN nq).cell? ⟨0, 0, none⟩ = some ev := hev
    go_quiet (fail)
    go_wp2_with fail
    go_ret2
    first | exact ⟨rfl, (Fr.refl _ _).drewN _⟩ | exact ⟨rfl, ((Fr.refl _ _).drewN _).drewN _⟩
  · have h1B : decide ((len : Int) < 1) = false := by simp; omega
    have h2B : decide ((len : Int) ≤ (i : Int)) = true := by simp; omega
    go_quiet (fail)
    go_upto_region 2 with (fail)
    have hev2 : (w.drewN nq).cell? ⟨0, 0, none⟩ = some ev := hev
    go_quiet (fail)
    go_wp2_with fail
    go_ret2
    first | exact ⟨rfl, (Fr.refl _ _).drewN _⟩ | exact ⟨rfl, ((Fr.refl _ _).drewN _).drewN _⟩

theorem Cov.rel {g o l : Nat → Nat} {k i sz : Nat} (h : Cov g o l k i (i + sz)) : ∃ P : Nat → Nat, P 0 = 0 ∧ P k = sz ∧ (∀ x, x ≤ k → P x ≤ sz) ∧ ∀ x, x < k → P (x + 1) = P x + l x ∧ 1 ≤ l x ∧ ∀ d, d < l x → g (i + P x + d) = o x + d := by
  obtain ⟨s, h1, h2, h3⟩ := h
  have hm := Cov.mono_ (fun x hx => (h3 x hx).1)
  have hge : ∀ x, x ≤ k → i ≤ s x := by
    intro x
    induction x with
    | zero => intro _; omega
    | succ x ih => intro hx; have := ih (by omega); have := (h3 x (by omega)).1; omega
  refine ⟨fun x => s x - i, by dsimp only; omega, by dsimp only; omega, fun x hx => by dsimp only; have := hm x hx; omega, fun x hx => ?_⟩
  obtain ⟨a1, a2, a3⟩ := h3 x hx
  have := hge x (by omega)
  refine ⟨by dsimp only; omega, a2, fun d hd => ?_⟩
  dsimp only
  rw [show i + (s x - i) + d = s x + d by omega]
  exact a3 d hd

/-- What lies at a place of a stream. -/
theorem StrOK.byte {F : Nat → UInt8} {n ss mn mm : Nat} {mf ms : Nat → Nat} {mini : Bool} {q K len : Nat} {ch off : Nat → Nat} {dat : Nat → UInt8} (h : StrOK F n ss mn mm mf ms mini q K len ch off dat) (hq : 0 < q) (p : Nat) (hp : p < len) : F (off (p / q) + p % q) = dat p := by
  have h1 := Nat.mod_lt p hq
  have h2 := Nat.div_add_mod p q
  have h3 : p / q * q + p % q = p := by rw [Nat.mul_comm]; exact h2
  have h4 : p / q < K := by
    rw [Nat.div_lt_iff_lt_mul hq]
    have := h.cover
    omega
  rw [h.dat (p / q) (p % q) h4 h1 (by omega), h3]

/-- What Read yields. -/
def RdPost (fb pb : Nat) (nm : ByteArray) (ini : Nat) (pv : Value) (len i sz dk rb q bl : Nat) (ch : Nat → Nat) (dat : Nat → UInt8) (ev : Value) (w : World) (e : Ending) (w' : World) : Prop :=
  e = .returned (.tuple #[.int .i64 (sz : Nat), ev]) ∧ Fr [fb, pb] w w' ∧ (∃ t r, i + sz = t * q + r ∧ r < q ∧ FlS w' fb nm ini pv len (i + sz) (ch t) r dk rb) ∧ ∃ l : List Value, Blk w' pb 5 l ∧ l.length = bl ∧ ∀ x, x < sz → l[x]? = some (U8 (dat (i + x)))

set_option maxRecDepth 100000 in
set_option maxHeartbeats 4000000 in
theorem read_any (R : RB) (F : Nat → UInt8) (mini : Bool) (q K len fb pb n cap i sz dk ini t0 r : Nat) (nm : ByteArray) (pv ev ex : Value) (ch off : Nat → Nat) (dat : Nat → UInt8) (lb : List Value) (w : World) (hR : RdS w R F) (hS : StrR R F mini q K len ch off dat)
    (hF : FlS w fb nm ini pv len i (ch t0) r dk R.rb) (hqt : t0 * q + r = i) (hrq : r < q) (hfb : fb ∉ R.bl) (hpbl : pb ∉ R.bl) (hbl : ∀ x ∈ R.bl, x < w.heap.size) (h1 : 1 ≤ n) (hil : i < len) (hlen : len ≤ 100000)
    (hsz : i + sz ≤ len) (hex : (sz = n ∧ ex = .nilIface) ∨ (sz < n ∧ i + sz = len ∧ ex = ev)) (hB : Blk w pb 5 lb) (hn : n ≤ lb.length) (hnc : n ≤ cap) (hn9 : n ≤ 100000000) (hev : w.cell? ⟨0, 0, none⟩ = some ev) (h0b : fb ≠ 0 ∧ pb ≠ 0) :
    Calls Tryd.prog 44 #[.pointer (some ⟨fb, 0, none⟩), .slice (some ⟨pb, 0, none⟩) n cap] w (RdPost fb pb nm ini pv len i sz dk R.rb q lb.length ch dat ex w) := by
  have hq64 : 64 ≤ q ∧ q ≤ 4096 := by
    have := hR.ss_
    rcases hS.kind with ⟨_, e, _⟩ | ⟨_, e, _⟩ <;> omega
  have hsz1 : 1 ≤ sz := by omega
  have hszn : sz ≤ n := by omega
  have hne : fb ≠ pb := Blk.ne hF hB (by decide)
  have f3 : w.cell? ⟨fb, 3, none⟩ = some (.int .i64 (len : Nat)) := hF.cell 3
  have f4 : w.cell? ⟨fb, 4, none⟩ = some (.int .i64 (i : Nat)) := hF.cell 4
  have h1B : decide ((len : Int) < 1) = false := by simp; omega
  have h2B : decide ((len : Int) ≤ (i : Int)) = false := by simp; omega
  obtain ⟨v, hv⟩ : ∃ v, len = i + v := ⟨len - i, by omega⟩
  have hvI : (len : Int) - (i : Int) = (v : Int) := by omega
  have hwv : IntKind.i64.wrap (v : Int) = (v : Int) := IntWalk.i64_in _ (by omega)
  have HV := Lib.hid hv
  have HST := Lib.hid (fun (w' : World) (f : Fr [] w w') => stream_any R F mini q K len fb i sz dk ini t0 r nm pv ch off dat w' (hR.fr0 f) hS (Blk.fr0 hF f) hqt hrq hfb (fun x hx => by have := hbl x hx; have := f.size; omega) hsz1 hsz hlen)
  have HR := Lib.hid hR
  have HS := Lib.hid hS
  have HB := Lib.hid hB
  have HEX := Lib.hid hex
  have HEV := Lib.hid hev
  have HF := Lib.hid hF
  have HBL := Lib.hid hbl
  clear hv hR hS hB hex hev hF hbl hqt
  go_enter Tryd.func44, Tryd.ntmps44
  go_upto_region 1 with (fail)
  go_quiet (fail)
  have g3 : (w.drewN nq).cell? ⟨fb, 3, none⟩ = some (.int .i64 (len : Nat)) := f3
  have g4 : (w.drewN nq).cell? ⟨fb, 4, none⟩ = some (.int .i64 (i : Nat)) := f4
  have hf1 : Fr [] w (w.drewN nq) := (Fr.refl _ _).drewN _
  clear f3 f4
  generalize w.drewN nq = w1 at *
  go_upto_region 4 with (fail)
  go_quiet (fail)
  have k3 : (w1.drewN nq).cell? ⟨fb, 3, none⟩ = some (.int .i64 (len : Nat)) := g3
  have k4 : (w1.drewN nq).cell? ⟨fb, 4, none⟩ = some (.int .i64 (i : Nat)) := g4
  have hf2 : Fr [] w (w1.drewN nq) := hf1.drewN _
  clear g3 g4 hf1
  generalize w1.drewN nq = w2 at *
  have hs6 : ∀ s : Nat, (v < n → s = v) → (n ≤ v → s = n) → s = sz := by
    intro s ha hb
    have hv := HV.out
    rcases HEX.out with ⟨e1, _⟩ | ⟨e1, e2, _⟩
    · by_cases hh : v < n
      · have := ha hh; omega
      · have := hb (by omega); omega
    · have := ha (by omega); omega
  have HS6 := Lib.hid hs6
  clear hs6
  go_upto_if 45 with (fail)
  go_cut [6] from 35 to 54 (fun s6 w3 => Fr [] w w3 ∧ s6 = .int .i64 sz)
  case first =>
    by_cases hvn : v < n
    · have hvB : decide ((v : Int) < (n : Int)) = true := by simp; omega
      have h6 := HS6.out v (fun _ => rfl) (fun h => by omega)
      have H6 := Lib.hid h6
      clear h6
      go_upto_region 5 with (fail)
      go_quiet (fail)
      go_wp2_with fail
      go_meet
      case rel => exact ⟨hf2.drewN _, by rw [H6.out]⟩
    · have hvB : decide ((v : Int) < (n : Int)) = false := by simp; omega
      have h6 := HS6.out n (fun h => by omega) (fun _ => rfl)
      have H6 := Lib.hid h6
      clear h6
      go_wp2_with fail
      go_meet
      case rel => exact ⟨hf2, by rw [H6.out]⟩
  case rest =>
  obtain ⟨hf3, rfl⟩ := hcut
  clear k3 k4 hf2 HS6 hvI hwv h1B h2B
  have hst := HST.out _ hf3
  have HSZ := Lib.hid hst
  have hs3 := hf3.size
  go_wp2_with fail
  refine HSZ.out.mono ?_
  rintro e w4 ⟨qb, k, c, o, l, rfl, hf4, hqb, hP4, hk1, hkc, hc1, hcov4, hb4, t', r', ht', hr', hF4⟩
  obtain ⟨P, hP0, hPk, hPle, hPs⟩ := hcov4.rel
  have hw3 := (hf3.mono (ms' := [fb]) (by simp)).trans_same hf4
  have hR4 := HR.out.fr hw3 (fun x hx => by simp; rintro rfl; exact hfb hx)
  have hB4 := HB.out.fr hw3 (by simp; exact fun h => hne h.symm)
  have hbytes : ∀ p, p < len → F (off (p / q) + p % q) = dat p := fun p hp => HS.out.byte (by omega) p hp
  have hpw := Blk.lt HB.out
  have hfw := Blk.lt HF.out
  have hqp : qb ≠ pb := by omega
  have hqf : qb ≠ fb := by omega
  have HR4 := Lib.hid hR4
  have HB4 := Lib.hid hB4
  have HP4 := Lib.hid hP4
  have HF4 := Lib.hid hF4
  have HPS := Lib.hid hPs
  have HP0 := Lib.hid hP0
  have HPK := Lib.hid hPk
  have HPL := Lib.hid hPle
  have HBY := Lib.hid hbytes
  have HW4 := Lib.hid hw3
  have HB4' := Lib.hid hb4
  have HTR := Lib.hid (And.intro ht' hr')
  clear hR4 hB4 hP4 hF4 hPs hP0 hPk hPle hbytes hw3 hb4 hcov4 hst hf3 hf4 ht' hr'
  go_wp2_with fail
  go_loopw [9, 10, 66] (fun s9 s10 s66 wr => ∃ (x : Nat) (lx : List Value), s66 = .int .i64 x ∧ x ≤ k ∧ s9 = .int .i64 (P x) ∧ s10 = .int .i64 (P x) ∧ Fr [pb] w4 wr ∧ Blk wr pb 5 lx ∧ lx.length = lb.length ∧ ∀ y, y < P x → lx[y]? = some (U8 (dat (i + y)))) (fun _ _ s66 _ => k - (intOf s66).toNat)
  case atStart => exact ⟨0, lb, rfl, by omega, by rw [HP0.out]; rfl, by rw [HP0.out]; rfl, Fr.refl _ _, HB4.out, rfl, fun y hy => by rw [HP0.out] at hy; omega⟩
  case round =>
    obtain ⟨x, lx, rfl, hxk, rfl, rfl, hfr, hBx, hlx, hby⟩ := hrel
    by_cases hxc : x < k
    case neg =>
      obtain rfl : x = k := by omega
      have hxI : ¬ (x : Int) < (x : Int) := by omega
      have hFr : FlS _ _ _ _ _ _ _ _ _ _ _ := HF4.out.fr hfr (by simpa using hne)
      have g4 : wr.cell? ⟨fb, 4, none⟩ = some (.int .i64 (i : Nat)) := hFr.cell 4
      have y4 := hFr.frozen 4
      have hevr : (wr.setCell ⟨fb, 4, none⟩ (.int .i64 ((i : Int) + (P x : Int)))).cell? ⟨0, 0, none⟩ = some ev := by
        rw [World.cell?_setCell_other _ _ _ _ (by intro e; injection e with e1 e2; omega)]
        exact hfr.cell (by simp; omega) (HW4.out.cell (by simp; omega) HEV.out)
      have hPx := HPK.out
      have hnB : (((P x : Nat) : Int) != (sz : Int)) = false := by simp; omega
      have hPI : ((i : Int) + (P x : Int)) = ((i + sz : Nat) : Int) := by rw [hPx]; push_cast; rfl
      have hfin : RdPost fb pb nm ini pv len i sz dk R.rb q lb.length ch dat ex w (.returned (.tuple #[.int .i64 (sz : Nat), ex])) (wr.setCell ⟨fb, 4, none⟩ (.int .i64 ((i : Int) + (P x : Int)))) := by
        refine ⟨rfl, ((HW4.out.mono (ms' := [fb, pb]) (by simp)).trans_same (hfr.mono (by simp))).setCell (.inl (by simp)) _, ?_, lx, Blk.setOther hBx (by simpa using hne) _, hlx, fun y hy => hby y (by omega)⟩
        obtain ⟨a1, a2⟩ := HTR.out
        refine ⟨t', r', a1, a2, ?_⟩
        rw [hPI]
        exact hFr.set 4 _
      have HFIN := Lib.hid hfin
      have hPb : P x ≤ 100000 := by omega
      have HPX := Lib.hid hPx
      clear hFr hfr hBx hlx hby hPI hfin hPx
      rcases HEX.out with ⟨e1, e2⟩ | ⟨e1, e2, e3⟩
      · have hlN : ¬ P x < n := by have := HPX.out; omega
        have hlB : decide (((P x : Nat) : Int) < (n : Int)) = false := by simp; omega
        have HE := Lib.hid e2
        clear e1 e2
        go_wp2_with fail
        go_ret2
        have hfin := HFIN.out
        rw [HE.out] at hfin
        refine ⟨?_, hfin.2⟩
        rw [HPX.out, HE.out]; rfl
      · have hlN : P x < n := by have := HPX.out; omega
        have hlB : decide (((P x : Nat) : Int) < (n : Int)) = true := by simp; omega
        have HE := Lib.hid e3
        clear e1 e2 e3
        go_wp2_with fail
        go_ret2
        have hfin := HFIN.out
        rw [HE.out] at hfin
        refine ⟨?_, hfin.2⟩
        rw [HPX.out, HE.out]; rfl
    have hxI : (x : Int) < (k : Int) := by omega
    obtain ⟨p1, p2, p3⟩ := HPS.out x hxc
    have p4 := HPL.out (x + 1) (by omega)
    rw [p1] at p4
    have hPr : Pcs wr qb c o l := Blk.fr HP4.out hfr (by simpa using hqp)
    have hgt := hPr.get x (by omega)
    have hroom := HB4'.out x hxc
    have HX := Lib.hid (And.intro hfr (And.intro hBx (And.intro hlx hby)))
    have HP3 := Lib.hid (And.intro p1 p3)
    clear hfr hBx hlx hby p1 p3
    have hs13 : splice [Value.int .i64 0, Value.int .i64 0] 0 [I64 (o x), I64 (l x)] = [I64 (o x), I64 (l x)] := rfl
    go_wp2_with (first
      | (refine wpList_load_blk rfl 133 (.tmp 68) rfl qb (x * 2) rfl 133 _ hPr _ Tryd.underlying133 rfl 2 (by kernel_rfl) ?c1 #[I64 (o x), I64 (l x)] hgt ?_)
      | (refine wpList_store_blk rfl 133 (.tmp 12) (.tmp 69) rfl wr.heap.size 0 #[I64 (o x), I64 (l x)] rfl rfl 133 _ (Blk.new' wr 133 _) ?c3 ?c4 rfl ?_))
    case c1 => simp; omega
    obtain ⟨hfr, hBx, hlx, hby⟩ := HX.out
    have hf5 : Fr [pb] w4 (wr.alloc (Obj.cells #[.int .i64 ((o x : Nat) : Int), .int .i64 ((l x : Nat) : Int)] 133)) := hfr.alloc _
    have hv5 : Blk (wr.alloc (Obj.cells #[.int .i64 ((o x : Nat) : Int), .int .i64 ((l x : Nat) : Int)] 133)) wr.heap.size 133 [I64 (o x), I64 (l x)] := Blk.new' _ _ _
    have hB5 := hBx.alloc (Obj.cells #[.int .i64 ((o x : Nat) : Int), .int .i64 ((l x : Nat) : Int)] 133)
    have hlt5 := Blk.lt hBx
    clear hfr hBx HX hPr hgt
    generalize wr.alloc (Obj.cells #[.int .i64 ((o x : Nat) : Int), .int .i64 ((l x : Nat) : Int)] 133) = w5 at *
    generalize wr.heap.size = vb at *
    have hR5 := HR4.out.fr hf5 (fun x hx => by simp; rintro rfl; exact hpbl hx)
    have hF5 : FlS _ _ _ _ _ _ _ _ _ _ _ := HF4.out.fr hf5 (by simpa using hne)
    have e8 : w5.cell? ⟨fb, 8, none⟩ = some (.pointer (some ⟨R.rb, 0, none⟩)) := hF5.cell 8
    have e7 := hR5.c7
    have ev0 : w5.cell? ⟨vb, 0, none⟩ = some (I64 (o x)) := hv5.cell 0
    have hrp : R.rb ≠ pb := fun h => hpbl (by rw [← h]; simp [RB.bl])
    have hvp : vb ≠ pb := by omega
    have hcon := Lib.hid (stAt_any R.sb pb (P x) (l x) (cap - P x) R.bb R.n R.cap (o x) _ rfl F lx w5.drew (by omega) hroom hR5.src.ncap hR5.src.sc hR5.src.bytes hB5 (by omega))
    have hB5' := Lib.hid hB5
    have HR5 := Lib.hid hR5
    have HF5 := Lib.hid hF5
    have Hf5 := Lib.hid hf5
    have HL5 := Lib.hid (And.intro hlx hby)
    have hna := nil_ahead_ra
    have hme := method_ra
    have q1 : (P x : Int) ≤ (P x : Int) + (l x : Int) := by omega
    have q2 : (P x : Int) + (l x : Int) ≤ (cap : Int) := by omega
    have q3 : ((P x : Int) + (l x : Int)).toNat = P x + l x := by omega
    have q4 : ¬ cap = P x := by omega
    clear hB5 hR5 hF5 hf5 hlx hby hv5
    go_upto_region 16 with (fail)
    go_cut [14, 15] from 85 to 103 (fun s14 s15 w6 => s14 = .int .i64 (l x) ∧ s15 = .nilIface ∧ Fr [pb] w5 w6 ∧ Blk w6 pb 5 (splice lx (P x) (tab (l x) (fun d => U8 (F (o x + d))))))
    case first =>
      go_region_held3 (fun w' => w'.cell? ⟨fb, 8, none⟩ = some (.pointer (some ⟨R.rb, 0, none⟩)) ∧ w'.cell? ⟨R.rb, 7, none⟩ = some (.iface 81 (.pointer (some ⟨R.sb, 0, none⟩))) ∧ w'.cell? ⟨vb, 0, none⟩ = some (I64 (o x)))
        (first | go_keep | exact ⟨hf6.cell (by simp; exact hne) e8, hf6.cell (by simp; exact hrp) e7, hf6.cell (by simp; exact hvp) ev0⟩)
        (first | (go_at_call 94; refine hcon.out.mono ?_; rintro e w6 ⟨rfl, hf6, hb6⟩))
      all_goals
        go_wp2_with fail
        go_meet
        case rel => exact ⟨rfl, rfl, (Fr.refl _ _).drew.trans_same hf6, hb6⟩
    case rest =>
    obtain ⟨rfl, rfl, hf6, hb6⟩ := hcut
    obtain ⟨hlx, hby⟩ := HL5.out
    obtain ⟨p1, p3⟩ := HP3.out
    have hlen6 : (splice lx (P x) (tab (l x) (fun d => U8 (F (o x + d))))).length = lb.length := by simp [splice]; omega
    have hby6 : ∀ y, y < P x + l x → (splice lx (P x) (tab (l x) (fun d => U8 (F (o x + d)))))[y]? = some (U8 (dat (i + y))) := by
      intro y hy
      rw [splice_get _ _ _ (by simp; omega), tab_length]
      by_cases h1y : P x ≤ y
      · rw [if_pos ⟨h1y, hy⟩, tab_get _ _ _ (by omega)]
        have h3 := p3 (y - P x) (by omega)
        rw [show i + P x + (y - P x) = i + y by omega] at h3
        rw [← h3, HBY.out (i + y) (by omega)]
      · rw [if_neg (by omega)]
        exact hby y (by omega)
    have HF6 := Lib.hid (And.intro (Hf5.out.trans_same hf6) (And.intro hb6 (And.intro hlen6 hby6)))
    have HP1 := Lib.hid p1
    clear hf6 hb6 hlen6 hby6 hlx hby p1 p3 hna hme hcon hB5' HR5 HF5 e7 e8 ev0
    go_wp2_with fail
    go_roundw
    case rel =>
      obtain ⟨a1, a2, a3, a4⟩ := HF6.out
      exact ⟨x + 1, _, by go_num, by omega, by rw [HP1.out]; go_num, by rw [HP1.out]; go_num, a1, a2, a3, fun y hy => a4 y (by rw [HP1.out] at hy; exact hy)⟩
    case measure => simp [intOf]; omega

end Go.Proofs.YtokpomdfgbbhlaaDoor

/- The contract of (*store).WriteAt where all lies in the file. -/
namespace Go.Proofs.YtokpomdfgbbhlaaDoor
open Go Go.RowKit

set_option maxRecDepth 100000 in
set_option maxHeartbeats 400000 in
theorem stWrite_any (sb pb po m pc bb n cap off : Nat) (o : Int) (ho : o = off) (x : Nat → UInt8) (l : List Value) (w : World) (hoff : off + m ≤ n) (hn : n ≤ cap) (hcap : cap ≤ 9223372036854775807) (hm1 : 1 ≤ m)
    (hr : w.cell? ⟨sb, 0, none⟩ = some (.slice (some ⟨bb, 0, none⟩) n cap)) (hl : Blk w bb 5 l) (hll : n ≤ l.length)
    (hx : ∀ i, i < m → w.cell? ⟨pb, po + i, none⟩ = some (U8 (x i))) (hne : pb ≠ bb) (hsb : sb ≠ bb) :
    Calls Tryd.prog 95 #[.pointer (some ⟨sb, 0, none⟩), .slice (some ⟨pb, po, none⟩) m pc, .int .i64 o] w fun e w' =>
      e = .returned (.tuple #[.int .i64 m, .nilIface]) ∧ Fr [bb] w w' ∧ Blk w' bb 5 (splice l off (tab m (fun i => U8 (x i)))) := by
  subst ho
  have hoI : ¬ (n : Int) < (off : Int) := by omega
  have hoc : ¬ cap = off := by omega
  have q1 : (off : Int) ≤ (n : Int) := by omega
  have hmin : ¬ n - off < m := by omega
  go_enter Tryd.func95, Tryd.ntmps95
  go_wp2_with (with_reducible refine wpList_copy_blk rfl (.tmp 26) (.tmp 27) 23 23 rfl 5 Tryd.underlying23 (by kernel_rfl) _ _ _ _ _ _ rfl rfl bb off l 5 ?_ m (fun i => U8 (x i)) ?_ ?_ ?_ ?_ ?_)
  · omega
  · intro _ j hj
    exact hx j hj
  · omega
  · intro j _; rfl
  · intro w1 hf1 hb1
    have HH := Lib.hid (And.intro hf1 hb1)
    clear hf1 hb1
    go_wp2_with fail
    go_ret2
    exact ⟨rfl, HH.out⟩
end Go.Proofs.YtokpomdfgbbhlaaDoor

/- A stream of a file whose bytes are turned where the stream's own bytes lie, and nowhere else. No program here. -/
namespace Go.Proofs.YtokpomdfgbbhlaaDoor

/-- Where byte p of a stream lies. -/
def gOf (q : Nat) (off : Nat → Nat) (p : Nat) : Nat := off (p / q) + p % q

/-- A stream's bytes lie apart from each other, from the header and from the table that says where they lie. -/
structure StrAp (F : Nat → UInt8) (ss : Nat) (mf : Nat → Nat) (mini : Bool) (q K len : Nat) (ch off : Nat → Nat) : Prop where
  hd : ∀ p, p < len → 512 ≤ gOf q off p
  small : mini = true → ∀ j p b, j < K → p < len → b < 4 → (mf (ch j / (ss / 4)) + 1) * ss + ch j % (ss / 4) * 4 + b ≠ gOf q off p
  big : mini = false → ∀ j p b, j < K → p < len → b < 4 → (fld F (76 + 4 * (ch j / (ss / 4))) 4 + 1) * ss + ch j % (ss / 4) * 4 + b ≠ gOf q off p
  inj : ∀ p p', p < len → p' < len → gOf q off p = gOf q off p' → p = p'

/-- F' is F but for the bytes of the stream. -/
structure Turned (F F' : Nat → UInt8) (q len : Nat) (off : Nat → Nat) (dat' : Nat → UInt8) : Prop where
  out : ∀ y, (∀ p, p < len → y ≠ gOf q off p) → F' y = F y
  ins : ∀ p, p < len → F' (gOf q off p) = dat' p

theorem Turned.fld {F F' : Nat → UInt8} {q len : Nat} {off : Nat → Nat} {dat' : Nat → UInt8} (h : Turned F F' q len off dat') (hd : ∀ p, p < len → 512 ≤ gOf q off p) (a n : Nat) (ha : a + n ≤ 512) : fld F' a n = fld F a n :=
  fld_congr (fun i hi => h.out _ (fun p hp he => by have := hd p hp; omega))

theorem StrOK.turn {F F' : Nat → UInt8} {n ss mn mm : Nat} {mf ms : Nat → Nat} {mini : Bool} {q K len : Nat} {ch off : Nat → Nat} {dat dat' : Nat → UInt8} (h : StrOK F n ss mn mm mf ms mini q K len ch off dat) (a : StrAp F ss mf mini q K len ch off) (hq : 0 < q)
    (t : Turned F F' q len off dat') : StrOK F' n ss mn mm mf ms mini q K len ch off dat' ∧ StrAp F' ss mf mini q K len ch off := by
  have hfl : ∀ idx, idx < 109 → YtokpomdfgbbhlaaDoor.fld F' (76 + 4 * idx) 4 = YtokpomdfgbbhlaaDoor.fld F (76 + 4 * idx) 4 := fun idx hi => t.fld a.hd _ _ (by omega)
  refine ⟨⟨h.kind, h.cover, h.last, h.low, fun hm j hj => ?_, fun hm j hj => ?_, h.room, fun j x hj hx hl => ?_⟩, ⟨a.hd, a.small, fun hm j p b hj hp hb => ?_, a.inj⟩⟩
  · obtain ⟨h1, h2, h3, h4, h5⟩ := h.small hm j hj
    refine ⟨h1, h2, h3, ?_, h5⟩
    rw [← h4]
    exact le_congr 4 (fun i hi => t.out _ (fun p hp => a.small hm j p i hj hp hi))
  · obtain ⟨h1, h2, h3⟩ := h.big hm j hj
    have e := hfl _ h1.idx
    refine ⟨⟨h1.idx, by rw [e]; exact h1.loc, by rw [e]; exact h1.here⟩, ?_, h3⟩
    rw [← h2]
    unfold fatNext
    rw [e]
    exact le_congr 4 (fun i hi => t.out _ (fun p hp => a.big hm j p i hj hp hi))
  · have e : gOf q off (j * q + x) = off j + x := by
      unfold gOf
      rw [show j * q + x = x + j * q by omega, Nat.add_mul_div_right _ _ hq, Nat.div_eq_of_lt hx, Nat.zero_add, Nat.add_mul_mod_self_right, Nat.mod_eq_of_lt hx]
    rw [← e]
    exact t.ins _ hl
  · obtain ⟨h1, _, _⟩ := h.big hm j hj
    rw [hfl _ h1.idx]
    exact a.big hm j p b hj hp hb

theorem Turned.refl {F : Nat → UInt8} {n ss mn mm : Nat} {mf ms : Nat → Nat} {mini : Bool} {q K len : Nat} {ch off : Nat → Nat} {dat : Nat → UInt8} (h : StrOK F n ss mn mm mf ms mini q K len ch off dat) (hq : 0 < q) : Turned F F q len off dat := by
  refine ⟨fun _ _ => rfl, fun p hp => ?_⟩
  have h1 := Nat.mod_lt p hq
  have h3 : p / q * q + p % q = p := by rw [Nat.mul_comm]; exact Nat.div_add_mod p q
  have h4 : p / q < K := by
    rw [Nat.div_lt_iff_lt_mul hq]
    have := h.cover
    omega
  unfold gOf
  rw [h.dat (p / q) (p % q) h4 h1 (by omega), h3]

theorem Turned.trans {F F' F'' : Nat → UInt8} {q len : Nat} {off : Nat → Nat} {dat' dat'' : Nat → UInt8} (h : Turned F F' q len off dat') (h' : Turned F' F'' q len off dat'') : Turned F F'' q len off dat'' :=
  ⟨fun y hy => (h'.out y hy).trans (h.out y hy), h'.ins⟩
end Go.Proofs.YtokpomdfgbbhlaaDoor

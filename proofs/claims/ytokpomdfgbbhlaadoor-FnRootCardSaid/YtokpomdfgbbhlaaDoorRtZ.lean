/- FnRoot: a file as a whole has the class and the times of its root (part 11 of 11). No condition but the statement's own. -/
import Derived.Stop.Asserts
import Derived.ChangeKeysEq
import Derived.BigQuiet
import Derived.Maps.RangeWalk
import Derived.Clock
import Derived.LaidMore
import Derived.LaidOnce
import Derived.OpenVars
import Derived.SevenTiedAt
import Derived.Test.YtokpomdfgbbhlaaDoorRtj
set_option linter.all false
set_option linter.unusedVariables false
set_option linter.unusedSimpArgs false
set_option linter.unnecessarySimpa false
/- The contract of (*Reader).traverse. -/
namespace Go.Proofs.YtokpomdfgbbhlaaDoor
open Go Go.RowKit Go.Maps

theorem make_files (n : Nat) (h : n ≤ 200000) (w : World) : (Instr.makeSlice 85 (.int .i64 0) (.int .i64 (n : Int))).run Tryd.prog w =
    .ok (.slice (some ⟨w.heap.size, 0, none⟩) 0 n) (w.alloc (.cells (tab n (fun _ => Value.pointer none)).toArray 92)) := by
  have := make_tab Tryd.underlying85 info92 rfl 0 n (Nat.zero_le _) (by omega) (by omega) w
  simpa using this

theorem run_store_func (w : World) (a : Addr) (fn : Fn) (first cap : Array Value) (m : Mode) : (store a (.func fn first cap) m).run Tryd.prog w = stored Tryd.prog w a (.func fn first cap) m := run_store Tryd.prog w a _ m rfl
attribute [local go_sem] run_store_func

set_option maxRecDepth 100000 in
set_option maxHeartbeats 1000000 in
theorem traverse_any (rb sb ub ul uc ss dg dcap E base : Nat) (hdr wa : Value) (G : Nat → Nat → UInt8) (P : Nat → EntP) (fk dk : Nat → Nat) (t : Tr) (dl : List Value) (w : World)
    (hrd : Blk w rb 91 (rdCells ss (.slice (some ⟨ub, 0, none⟩) ul uc) hdr (.slice none 0 0) (.slice (some ⟨dg, 0, none⟩) E dcap) 0 sb wa))
    (hda : Blk w dg 92 dl) (hdb : ∀ e, e < E → dl[e]? = some (.pointer (some ⟨fk e, 0, none⟩)))
    (hfile : ∀ e, e < E → Blk w (fk e) 95 (flCells (P e).name (P e).init (.slice none 0 0) (P e).size 0 (fld (G e) 116 4) 0 (dk e) rb))
    (hent : ∀ e, e < E → Blk w (dk e) 119 (tab 69 (dirL12 (G e)))) (hinj : ∀ a b, a < E → b < E → fk a = fk b → a = b)
    (ht : t ≠ .nil) (hfit : t.Fits E G 0) (hnd : t.order.Nodup) (hlen : t.order.length ≤ E) (hE : E ≤ 100000) :
    Calls Tryd.prog 53 #[.pointer (some ⟨rb, 0, none⟩)] w fun e w' => e = .returned .nilIface ∧ Fr (rb :: t.order.map fk) w w' ∧
      ∃ (gb : Nat) (pv : Nat → Value), w.heap.size ≤ gb ∧ Blk w' rb 91 (rdCells ss (.slice (some ⟨ub, 0, none⟩) ul uc) hdr (.slice (some ⟨gb, 0, none⟩) t.order.length E) (.slice (some ⟨dg, 0, none⟩) E dcap) 0 sb wa) ∧
        (∀ i, i < t.order.length → w'.cell? ⟨gb, i, none⟩ = some (.pointer (some ⟨fk (t.order.getD i 0), 0, none⟩))) ∧
        (∀ e, e < E → Blk w' (fk e) 95 (flCells (P e).name (P e).init (pv e) (P e).size 0 (fld (G e) 116 4) 0 (dk e) rb)) ∧ (∀ e, e < E → Blk w' (dk e) 119 (tab 69 (dirL12 (G e)))) ∧
        ∀ q ∈ t.paths (fun e => (P e).name) [], PathIs w' w.heap.size (pv q.1) q.2 := by
  have hmk := make_files E (by omega)
  have hmf : ∀ (fn : Fn) (first cap : Array Value) (w : World), (Instr.makeFunc fn first cap).run Tryd.prog w = .ok (.func fn first cap) w := fun _ _ _ _ => rfl
  have lr := hrd.lt
  go_enter Tryd.func53, Tryd.ntmps53
  go_upto_region 1 with (fail)
  have hf1 : Fr [] w (w.alloc (Obj.cells #[Value.pointer (some { block := rb, off := 0 })] 80)) := (Fr.refl _ _).alloc _
  have hx1 := Blk.new' w 80 #[Value.pointer (some { block := rb, off := 0 })]
  have hsz1 : w.heap.size < (w.alloc (Obj.cells #[Value.pointer (some { block := rb, off := 0 })] 80)).heap.size := by simp
  generalize w.alloc (Obj.cells #[Value.pointer (some { block := rb, off := 0 })] 80) = w1 at *
  generalize hxb : w.heap.size = xb at *
  obtain ⟨gb, hgb⟩ : ∃ gb, w1.heap.size = gb := ⟨_, rfl⟩
  have hrd1 := hrd.fr0 hf1
  have x0 : w1.cell? ⟨xb, 0, none⟩ = some (.pointer (some ⟨rb, 0, none⟩)) := hx1.cell 0
  have h4 : w1.cell? ⟨rb, 4, none⟩ = some (.slice none 0 0) := hrd1.cell 4
  have z4 := hrd1.frozen 4
  have h5 : w1.cell? ⟨rb, 5, none⟩ = some (.slice (some ⟨dg, 0, none⟩) E dcap) := hrd1.cell 5
  have hfa : Fr [] w1 (w1.alloc (Obj.cells (tab E (fun _ => Value.pointer none)).toArray 92)) := (Fr.refl _ _).alloc _
  have hrda := hrd1.fr0 hfa
  have x0a := hfa.cell0 x0
  have h4a := hfa.cell0 h4
  have h5a := hfa.cell0 h5
  have z4a := hrda.frozen 4
  go_cut [] from 6 to 14 (fun w2 => Fr [rb] w1 w2 ∧ Blk w2 rb 91 (rdCells ss (.slice (some ⟨ub, 0, none⟩) ul uc) hdr (.slice (some ⟨gb, 0, none⟩) 0 E) (.slice (some ⟨dg, 0, none⟩) E dcap) 0 sb wa) ∧ Blk w2 gb 92 (tab E (fun _ => Value.pointer none)))
  case first =>
    go_region
    all_goals
      go_wp2_with fail
      go_meet
      case rel =>
        exact ⟨((hfa.mono (by simp)).setCell (.inl (by simp)) _).drew, (hrda.set 4 _).drew, by
          subst hgb
          exact ((Blk.new _ _ _).setOther (by simp; omega) _).drew⟩
  case rest =>
  clear h4 z4 h5 h4a h5a z4a x0a x0 hrda hfa
  obtain ⟨hf2, hrd2, hg2⟩ := hcut
  have hx2 := hx1.fr hf2 (by simp; omega)
  go_upto_region 5 with (fail)
  have hf3 : Fr [] wc (((wc.alloc (Obj.cells #[Value.nilFunc] 102)).alloc (Obj.cells #[Value.nilIface] 104)).alloc (Obj.cells #[Value.int IntKind.i64 0] 3)) := (((Fr.refl _ _).alloc _).alloc _).alloc _
  have b1 := ((Blk.new' wc 102 #[Value.nilFunc]).alloc (Obj.cells #[Value.nilIface] 104)).alloc (Obj.cells #[Value.int IntKind.i64 0] 3)
  have b2 := (Blk.new' (wc.alloc (Obj.cells #[Value.nilFunc] 102)) 104 #[Value.nilIface]).alloc (Obj.cells #[Value.int IntKind.i64 0] 3)
  have b3 := Blk.new' ((wc.alloc (Obj.cells #[Value.nilFunc] 102)).alloc (Obj.cells #[Value.nilIface] 104)) 3 #[Value.int IntKind.i64 0]
  simp only [World.size_alloc] at b2 b3
  generalize ((wc.alloc (Obj.cells #[Value.nilFunc] 102)).alloc (Obj.cells #[Value.nilIface] 104)).alloc (Obj.cells #[Value.int IntKind.i64 0] 3) = w3 at *
  have hwc : gb < wc.heap.size := hg2.lt
  generalize wc.heap.size = fb at *
  have hrd3 := hrd2.fr0 hf3
  have hg3 := hg2.fr0 hf3
  have hx3 := hx2.fr0 hf3
  have hF3 : Fr [rb] w w3 := ((hf1.mono (by simp)).trans_same hf2).trans0 hf3
  have c0 : w3.cell? ⟨fb, 0, none⟩ = some .nilFunc := b1.cell 0
  have cz := b1.frozen 0
  go_upto_region 6 with (fail)
  obtain ⟨T, hT⟩ : ∃ T : TEnv, T = { cb := fb + 1 + 1, xb := xb, eb := fb + 1, fb := fb, rb := rb, hb := 0, sb := sb, ub := ub, ul := ul, uc := uc, ss := ss, gb := gb, dg := dg, dcap := dcap, E := E, base := xb, hdr := hdr, wa := wa, G := G, P := P, fk := fk, dk := dk } := ⟨_, rfl⟩
  have hdgb : dg < xb := by rw [← hxb]; exact hda.lt
  have hxg : xb < gb := by omega
  have n1 : ∀ e, e < E → fk e < xb := fun e he => by rw [← hxb]; exact (hfile e he).lt
  have n2 : ∀ e, e < E → dk e < xb := fun e he => by rw [← hxb]; exact (hent e he).lt
  have hst : TSt T (w3.setCell ⟨fb, 0, none⟩ (.func (.func 63) #[] #[.pointer (some ⟨fb + 1 + 1, 0, none⟩), .pointer (some ⟨xb, 0, none⟩), .pointer (some ⟨fb + 1, 0, none⟩), .pointer (some ⟨fb, 0, none⟩)])) 0 0 (tab E (fun _ => Value.pointer none)) (fun _ => .slice none 0 0) := by
    subst hT
    exact {
      cnt := b3.setOther (by simp; omega) _
      box := hx3.setOther (by simp; omega) _
      err := b2.setOther (by simp) _
      rec_ := b1.set 0 _
      rd := hrd3.setOther (by simp; omega) _
      row := hg3.setOther (by simp; omega) _
      len := by simp
      dir := ⟨dl, (hda.fr hF3 (by simpa using hda.ne hrd (by decide))).setOther (by simp; omega) _, hdb⟩
      file := fun e he => ((hfile e he).fr hF3 (by simpa using (hfile e he).ne hrd (by decide))).setOther (by have := n1 e he; simp; omega) _
      ent := fun e he => ((hent e he).fr hF3 (by simpa using (hent e he).ne hrd (by decide))).setOther (by have := n2 e he; simp; omega) _
      inj := hinj
      gdg := by simp; omega
      base := by have := hF3.size; simp; omega }
  have hF4 := hF3.setCell (p := ⟨fb, 0, none⟩) (.inr (by simp; omega)) (.func (.func 63) #[] #[.pointer (some ⟨fb + 1 + 1, 0, none⟩), .pointer (some ⟨xb, 0, none⟩), .pointer (some ⟨fb + 1, 0, none⟩), .pointer (some ⟨fb, 0, none⟩)])
  clear b1 b2 b3 c0 cz hrd3 hg3 hx3 hF3
  generalize w3.setCell ⟨fb, 0, none⟩ (.func (.func 63) #[] #[.pointer (some ⟨fb + 1 + 1, 0, none⟩), .pointer (some ⟨xb, 0, none⟩), .pointer (some ⟨fb + 1, 0, none⟩), .pointer (some ⟨fb, 0, none⟩)]) = w4 at *
  have c0 : w4.cell? ⟨fb, 0, none⟩ = some (.func (.func 63) #[] #[.pointer (some ⟨fb + 1 + 1, 0, none⟩), .pointer (some ⟨xb, 0, none⟩), .pointer (some ⟨fb + 1, 0, none⟩), .pointer (some ⟨fb, 0, none⟩)]) := by
    have := hst.rec_.cell 0
    subst hT
    exact this
  have hsz4 : xb ≤ w4.heap.size := by have := hF4.size; omega
  have hcon := Lib.hid (trav_any T t 0 0 0 (tab E (fun _ => Value.pointer none)) (fun _ => .slice none 0 0) (.slice (some ⟨w4.heap.size, 0, none⟩) 0 0) [] (w4.alloc (Obj.cells #[] 9)) ht (by subst hT; exact hfit) hnd (hst.fr0 ((Fr.refl [] w4).alloc _)) ⟨w4.heap.size, 0, rfl, by subst hT; exact hsz4, Blk.new' w4 9 #[]⟩ (by subst hT; simpa using hlen) (by subst hT; simpa using hlen) (by subst hT; exact hE) (by simp; omega))
  rw [hT] at hcon
  go_wp2_with fail
  refine hcon.out.mono ?_
  rintro e w6 ⟨rfl, hfP, pv', hsP, _, hpaP⟩
  have c1 : w6.cell? ⟨fb + 1, 0, none⟩ = some .nilIface := hsP.err.cell 0
  go_wp2_with fail
  go_ret
  refine ⟨rfl, ?_, gb, pv', by omega, ?_, ?_, hsP.file, hsP.ent, by rw [hxb]; exact hpaP⟩
  · refine (hF4.mono (ms' := rb :: t.order.map fk) (by simp)).trans (((Fr.refl ((fb + 1 + 1) :: rb :: gb :: t.order.map fk) w4).alloc (Obj.cells #[] 9)).trans_same hfP) ?_
    intro b hb
    simp only [List.mem_cons] at hb ⊢
    rcases hb with rfl | rfl | rfl | hb
    · exact .inr (by omega)
    · exact .inl (.inl rfl)
    · exact .inr (by omega)
    · exact .inl (.inr hb)
  · have := hsP.rd
    rw [Nat.zero_add] at this
    exact this
  · intro i hi
    have h0 := hsP.row.cell i
    rw [splice_get _ _ _ (by simp; omega), if_pos (by simp; omega), Nat.sub_zero, List.getElem?_map] at h0
    rw [h0, List.getD_eq_getElem?_getD]
    simp [hi]
end Go.Proofs.YtokpomdfgbbhlaaDoor

/- The contract of New over a sound file. -/
namespace Go.Proofs.YtokpomdfgbbhlaaDoor
open Go Go.RowKit Go.Maps

/-- A reader stands in memory. -/
structure RdOK (w : World) (base rb sb : Nat) (F : Nat → UInt8) (ss m : Nat) (cs : Nat → Nat) (P : Nat → EntP) (t : Tr) (mn mm : Nat) (mf ms : Nat → Nat)
    (hb fb gb dg dcap ub ul uc : Nat) (fk dk : Nat → Nat) (pv : Nat → Value) (mfv msv : Value) : Prop where
  rb_ : base ≤ rb
  rd : Blk w rb 91 (rdCells ss (.slice (some ⟨ub, 0, none⟩) ul uc) (.pointer (some ⟨hb, 0, none⟩)) (.slice (some ⟨gb, 0, none⟩) t.order.length (m * (ss / 128))) (.slice (some ⟨dg, 0, none⟩) (m * (ss / 128)) dcap) 0 sb .nilIface)
  hd : Blk w hb 142 (hdCells fb (.slice (some ⟨fb, 45, none⟩) 109 109) mfv msv)
  hdb : base ≤ hb
  fd : Blk w fb 147 (hdrN F 109)
  files : ∀ i, i < t.order.length → w.cell? ⟨gb, i, none⟩ = some (.pointer (some ⟨fk (t.order.getD i 0), 0, none⟩))
  file : ∀ e, e < m * (ss / 128) → Blk w (fk e) 95 (flCells (P e).name (P e).init (pv e) (P e).size 0 (fld (entB F ss cs e) 116 4) 0 (dk e) rb)
  fileb : ∀ e, e < m * (ss / 128) → base ≤ fk e
  filei : ∀ a b, a < b → b < m * (ss / 128) → fk a < fk b
  ent : ∀ e, e < m * (ss / 128) → Blk w (dk e) 119 (tab 69 (dirL12 (entB F ss cs e)))
  path : ∀ q ∈ t.paths (fun e => (P e).name) [], PathIs w base (pv q.1) q.2
  mini : mn = 0 ∨ ∃ fb' sb' k, mfv = .slice (some ⟨fb', 0, none⟩) mn mn ∧ msv = .slice (some ⟨sb', 0, none⟩) mm k ∧ base ≤ fb' ∧ base ≤ sb' ∧ mm ≤ k ∧
    (∀ i, i < mn → w.cell? ⟨fb', i, none⟩ = some (.int .u32 (mf i : Nat))) ∧ (∀ i, i < mm → w.cell? ⟨sb', i, none⟩ = some (.int .u32 (ms i : Nat)))

theorem info5 : (Tryd.prog.info? 5).map (fun i => (i.zero, i.size, i.bytes)) = some (some (.int .u8 0), 1, 1) := by kernel_rfl
theorem make_buf (c : Nat) (h : c ≤ 1000000) (w : World) : (Instr.makeSlice 23 (.int .i64 c) (.int .i64 c)).run Tryd.prog w = .ok (.slice (some ⟨w.heap.size, 0, none⟩) c c) (w.alloc (.cells (tab c (fun _ => .int .u8 0)).toArray 5)) :=
  make_tab Tryd.underlying23 info5 rfl c c (Nat.le_refl _) (by omega) (by omega) w

theorem make_buf32 (w : World) : (Instr.makeSlice 23 (.int .u32 4096) (.int .u32 4096)).run Tryd.prog w = .ok (.slice (some ⟨w.heap.size, 0, none⟩) 4096 4096) (w.alloc (.cells (tab 4096 (fun _ => .int .u8 0)).toArray 5)) := by
  obtain ⟨i, h1, h2, h3, h4⟩ := info_parts info5
  have := run_make (P := Tryd.prog) w 23 5 i (.int .u8 0) Tryd.underlying23 h1 h2 .u32 .u32 4096 4096 (by omega) (by omega) (by rw [h4]; omega) (by omega)
  rw [this, h3]
  have h := madeCells_tab (.int .u8 0) 4096 rfl
  rw [show (4096 : Int).toNat = 4096 from rfl, h]

theorem as81_127 (v : Value) (w : World) : (Instr.typeAssert (.iface 81 v) 87 127 true).run Tryd.prog w = .ok (.tuple #[.nilIface, .bool false]) w := run_typeAssert_lacksB Tryd.underlying127 (by kernel_rfl) (by kernel_rfl) v 87 w

set_option maxRecDepth 100000 in
set_option maxHeartbeats 1000000 in
theorem new_ok (sb bb n cap ss m mn mm : Nat) (F : Nat → UInt8) (cs mf ms : Nat → Nat) (P : Nat → EntP) (t : Tr) (w : World) (hS : Src w sb bb n cap F) (hF : FileOK F n ss m cs P t mn mm mf ms)
    (hp : ∀ i, 65 ≤ i → i ≤ 90 → w.cell? ⟨2, i, none⟩ = some (.int .u8 160)) (h2w : 2 < w.heap.size) :
    Calls Tryd.prog 42 #[.iface 81 (.pointer (some ⟨sb, 0, none⟩))] w fun e w' =>
      ∃ (rb hb fb gb dg dcap ub ul uc : Nat) (fk dk : Nat → Nat) (pv : Nat → Value) (mfv msv : Value), e = .returned (.tuple #[.pointer (some ⟨rb, 0, none⟩), .nilIface]) ∧ Fr [] w w' ∧
        RdOK w' w.heap.size rb sb F ss m cs P t mn mm mf ms hb fb gb dg dcap ub ul uc fk dk pv mfv msv := by
  have hmk : ∀ w : World, (Instr.makeSlice 23 (.int .i64 512) (.int .i64 512)).run Tryd.prog w = .ok (.slice (some ⟨w.heap.size, 0, none⟩) 512 512) (w.alloc (.cells (tab 512 (fun _ => .int .u8 0)).toArray 5)) := make_buf 512 (by omega)
  go_enter Tryd.func42, Tryd.ntmps42
  have hta := as81_127
  go_upto_region 2 with (fail)
  have hf1 : Fr [] w (w.alloc (Obj.cells #[.bool false, .int .u32 0, .slice none 0 0, .pointer none, .slice none 0 0, .slice none 0 0, .int .i64 0, .iface 81 (.pointer (some ⟨sb, 0, none⟩)), .nilIface] 91)) := (Fr.refl _ _).alloc _
  have hrb1 := Blk.new' w 91 #[.bool false, .int .u32 0, .slice none 0 0, .pointer none, .slice none 0 0, .slice none 0 0, .int .i64 0, .iface 81 (.pointer (some ⟨sb, 0, none⟩)), .nilIface]
  generalize w.alloc (Obj.cells #[.bool false, .int .u32 0, .slice none 0 0, .pointer none, .slice none 0 0, .slice none 0 0, .int .i64 0, .iface 81 (.pointer (some ⟨sb, 0, none⟩)), .nilIface] 91) = w1 at *
  generalize hrb : w.heap.size = rb at *
  have hr1 : rb < w1.heap.size := hrb1.lt
  have c2 : w1.cell? ⟨rb, 2, none⟩ = some (.slice none 0 0) := hrb1.cell 2
  have z2 := hrb1.frozen 2
  have hba := (hrb1.alloc (Obj.cells (tab 512 (fun _ => Value.int .u8 0)).toArray 5))
  have c2a : (w1.alloc (Obj.cells (tab 512 (fun _ => Value.int .u8 0)).toArray 5)).cell? ⟨rb, 2, none⟩ = some (.slice none 0 0) := hba.cell 2
  have z2a := hba.frozen 2
  go_upto_region 6 with (fail)
  have hrb2 : Blk ((w1.setCell ⟨rb, 2, none⟩ (.slice (some ⟨w1.heap.size, 0, none⟩) 512 512)).alloc (Obj.cells (tab 512 (fun _ => Value.int .u8 0)).toArray 5)) rb 91 (rdCells 0 (.slice (some ⟨w1.heap.size, 0, none⟩) 512 512) (.pointer none) (.slice none 0 0) (.slice none 0 0) 0 sb .nilIface) := (hrb1.set 2 _).alloc _
  have hub2 := Blk.new (w1.setCell ⟨rb, 2, none⟩ (.slice (some ⟨w1.heap.size, 0, none⟩) 512 512)) 5 (tab 512 (fun _ => Value.int .u8 0))
  rw [show (w1.setCell ⟨rb, 2, none⟩ (.slice (some ⟨w1.heap.size, 0, none⟩) 512 512)).heap.size = w1.heap.size by simp] at hub2
  have hF2 : Fr [] w ((w1.setCell ⟨rb, 2, none⟩ (.slice (some ⟨w1.heap.size, 0, none⟩) 512 512)).alloc (Obj.cells (tab 512 (fun _ => Value.int .u8 0)).toArray 5)) := (hf1.setCell (p := ⟨rb, 2, none⟩) (.inr (by simp; omega)) _).alloc _
  have hwu : w.heap.size < w1.heap.size := by omega
  clear c2 z2 c2a z2a hba hrb1 hf1
  generalize (w1.setCell ⟨rb, 2, none⟩ (.slice (some ⟨w1.heap.size, 0, none⟩) 512 512)).alloc (Obj.cells (tab 512 (fun _ => Value.int .u8 0)).toArray 5) = w2 at *
  generalize w1.heap.size = ub at *
  go_wp2_with fail
  refine (setHeader_any rb sb bb n cap ub 512 ss F _ w2 (hS.fr0 hF2) hF.n0 hrb2 (by omega) hub2 (by simp) hF.hdr).mono ?_
  rintro e w3 ⟨rfl, hf3, hb, fb, hhb0, hfb0, hrb3, hhb3, hfb3, L3, hub3, hl3⟩
  have hF3 : Fr [] w w3 := hF2.trans hf3 (by simp; omega)
  have hhb0' : rb < hb := by have := hrb2.lt; omega
  clear hrb2 hub2 hf3
  go_upto_region 9 with (fail)
  have hss : ss = 512 ∨ ss = 4096 := by rcases hF.hdr.shift with h | h <;> simp [h.2]
  have HSs := Lib.hid hss
  have r0 : w3.cell? ⟨rb, 0, none⟩ = some (.bool false) := hrb3.cell 0
  have r1 : w3.cell? ⟨rb, 1, none⟩ = some (.int .u32 ss) := hrb3.cell 1
  have r2 : w3.cell? ⟨rb, 2, none⟩ = some (.slice (some ⟨ub, 0, none⟩) 512 512) := hrb3.cell 2
  have z2 := hrb3.frozen 2
  go_cut [50] from 33 to 49 (fun s50 w4 => Fr [] w3 w4 ∧ s50 = .bool (decide (512 < ss)))
  case first =>
    rcases hss with rfl | rfl
    · go_quiet (fail)
      go_wp2_with fail
      go_meet
      case rel => exact ⟨(Fr.refl _ _).drewN _, rfl⟩
    · go_quiet (fail)
      go_wp2_with fail
      go_meet
      case rel => exact ⟨(Fr.refl _ _).drewN _, rfl⟩
  case rest =>
  obtain ⟨hf4, rfl⟩ := hcut
  have hF4 := hF3.trans0 hf4
  have hrb4 := hrb3.fr0 hf4
  have hhb4 := hhb3.fr0 hf4
  have hfb4 := hfb3.fr0 hf4
  have hub4 := hub3.fr0 hf4
  have hru : rb ≠ ub := hrb3.ne hub3 (by decide)
  clear r0 r1 r2 z2 hrb3 hhb3 hfb3 hub3 hF3
  go_upto_if 50 with (fail)
  go_cut [] from 51 to 58 (fun w5 => Fr [] w w5 ∧ ∃ (ub ul uc : Nat) (L : List Value), ss ≤ ul ∧ ul ≤ uc ∧ uc ≤ 9223372036854775807 ∧ w.heap.size < ub ∧
    Blk w5 rb 91 (rdCells ss (.slice (some ⟨ub, 0, none⟩) ul uc) (.pointer (some ⟨hb, 0, none⟩)) (.slice none 0 0) (.slice none 0 0) 0 sb .nilIface) ∧
    Blk w5 hb 142 (hdCells fb (.slice none 0 0) (.slice none 0 0) (.slice none 0 0)) ∧ Blk w5 fb 147 (hdrN F 109) ∧ Blk w5 ub 5 L ∧ ss ≤ L.length)
  case first =>
    have r1 : wc.cell? ⟨rb, 1, none⟩ = some (.int .u32 ss) := hrb4.cell 1
    have r2 : wc.cell? ⟨rb, 2, none⟩ = some (.slice (some ⟨ub, 0, none⟩) 512 512) := hrb4.cell 2
    have z2 := hrb4.frozen 2
    rcases hss with rfl | rfl
    · go_wp2_with fail
      go_meet
      case rel => exact ⟨hF4, ub, 512, 512, L3, by omega, by omega, by omega, hwu, hrb4, hhb4, hfb4, hub4, by rw [hl3]; simp⟩
    · have hmk2 : ∀ w : World, (Instr.makeSlice 23 (.int .u32 4096) (.int .u32 4096)).run Tryd.prog w = .ok (.slice (some ⟨w.heap.size, 0, none⟩) 4096 4096) (w.alloc (.cells (tab 4096 (fun _ => .int .u8 0)).toArray 5)) := make_buf32
      have hba := (hrb4.alloc (Obj.cells (tab 4096 (fun _ => Value.int .u8 0)).toArray 5))
      have c2a : (wc.alloc (Obj.cells (tab 4096 (fun _ => Value.int .u8 0)).toArray 5)).cell? ⟨rb, 2, none⟩ = some (.slice (some ⟨ub, 0, none⟩) 512 512) := hba.cell 2
      have z2a := hba.frozen 2
      go_wp2_with fail
      go_meet
      case rel =>
        refine ⟨(hF4.alloc _).setCell (.inr (by simp; omega)) _, wc.heap.size, 4096, 4096, _, by omega, by omega, by omega, ?_, hba.set 2 _, (hhb4.alloc _).setOther (by simp; omega) _, (hfb4.alloc _).setOther (by have := hrb4.ne hfb4 (by decide); simpa using this) _, (Blk.new wc 5 (tab 4096 (fun _ => Value.int .u8 0))).setOther ?_ _, by simp⟩
        · have := hF4.size; have := hub4.lt; omega
        · have := hrb4.lt; simp; omega
  case rest =>
  clear hrb4 hhb4 hfb4 hub4 hF4 hmk hta
  obtain ⟨hF5, ub2, ul, uc, L5, hul1, hul2, hul3, hub0, hrb5, hhb5, hfb5, hub5, hL5⟩ := hcut
  have hbbl : bb < w.heap.size := World.block_lt_of_cell? w _ (hS.bytes 0 (by have := hF.n0; omega))
  have hsbl : sb < w.heap.size := World.block_lt_of_cell? w _ hS.sc
  have hrh : rb ≠ hb := hrb5.ne hhb5 (by decide)
  have hru5 : rb ≠ ub2 := hrb5.ne hub5 (by decide)
  have hhu5 : hb ≠ ub2 := hhb5.ne hub5 (by decide)
  have hfr5 : fb ≠ rb := hfb5.ne hrb5 (by decide)
  have hfh5 : fb ≠ hb := hfb5.ne hhb5 (by decide)
  have hfu5 : fb ≠ ub2 := hfb5.ne hub5 (by decide)
  have HP := Lib.hid hp
  clear hp
  go_wp2_with fail
  refine (setDifats_any rb hb fb F _ (hrb5.cell 3) hhb5 hfb5 hF.hdr.ndf hrh).mono ?_
  rintro e w6 ⟨rfl, hf6, hhb6⟩
  have hF6 : Fr [] w w6 := hF5.trans hf6 (by simp; omega)
  have hrb6 := hrb5.fr hf6 (by simpa using hrh)
  have hfb6 := hfb5.fr hf6 (by simpa using hfh5)
  have hub6 := hub5.fr hf6 (by simpa using hhu5.symm)
  clear hrb5 hhb5 hfb5 hub5 hf6 hF5
  go_wp2_with fail
  refine (setDir_any rb hb fb sb bb n cap ub2 ul uc ss F _ m cs P w6 (hS.fr0 hF6) hF.n1 HSs.out hrb6 ⟨hul2, hul3⟩ hul1 hhb6 hfb6 hub6 hL5 (by omega) (by omega) (fun i a b => hF6.cell0 (HP.out i a b)) (by omega) (by have := hF6.size; omega) hF.maj hF.dir hF.m1 hF.m2 hF.ent).mono ?_
  rintro e w7 ⟨rfl, hf7, fk, dk, v, hfi7, hmo7, hown7, hrb7, L7, hub7, hl7⟩
  have hF7 : Fr [] w w7 := hF6.trans hf7 (by simp; omega)
  have hE1 : 1 ≤ m * (ss / 128) := by
    have := HSs.out
    have h4 : 1 ≤ ss / 128 := by omega
    exact Nat.mul_le_mul hF.m1 h4
  obtain ⟨dg, dcap, dl, rfl, hdg0, hdg7, hdl⟩ := own_blk hown7 hE1
  have hhb7 := hhb6.fr hf7 (by simp; exact ⟨hrh.symm, hhu5⟩)
  have hfb7 := hfb6.fr hf7 (by simp; exact ⟨hfr5, hfu5⟩)
  have hs6 := hF6.size
  clear hrb6 hhb6 hfb6 hub6 hf7
  have hS7 := hS.fr0 hF7
  have hg0 : w7.cell? ⟨dg, 0, none⟩ = some (.pointer (some ⟨fk 0, 0, none⟩)) := (hdg7.cell 0).trans (hdl 0 (by omega))
  have hfile0 := hfi7 0 (by omega)
  have hmini : Calls Tryd.prog 52 #[.pointer (some ⟨rb, 0, none⟩)] w7 fun e w' => e = .returned .nilIface ∧ Fr [hb] w7 w' ∧ ∃ mfv msv, Blk w' hb 142 (hdCells fb (.slice (some ⟨fb, 45, none⟩) 109 109) mfv msv) ∧
      (mn = 0 ∨ ∃ fb' sb' k, mfv = .slice (some ⟨fb', 0, none⟩) mn mn ∧ msv = .slice (some ⟨sb', 0, none⟩) mm k ∧ w7.heap.size ≤ fb' ∧ w7.heap.size ≤ sb' ∧ mm ≤ k ∧
        (∀ i, i < mn → w'.cell? ⟨fb', i, none⟩ = some (.int .u32 (mf i : Nat))) ∧ (∀ i, i < mm → w'.cell? ⟨sb', i, none⟩ = some (.int .u32 (ms i : Nat)))) := by
    rcases hF.mini with ⟨h0, h1⟩ | ⟨a1, a2, a3, a4, a5, a6, a7, a8, a9⟩
    · refine (setMini_none rb hb fb ss dg (fk 0) (dk 0) (m * (ss / 128)) dcap F (entB F ss cs 0) _ _ _ _ _ _ _ sb w7 hrb7 hE1 hhb7 hfb7 hg0 (hfile0.2.2.1.cell 7) hfile0.2.2.2 h1).mono ?_
      rintro e w' ⟨rfl, rfl⟩
      exact ⟨rfl, Fr.refl _ _, _, _, hhb7, .inl h0⟩
    · refine (setMini_some rb hb fb sb bb n cap ss dg (fk 0) (dk 0) (m * (ss / 128)) dcap mn mm F (entB F ss cs 0) mf ms _ _ _ _ w7 hS7 HSs.out hrb7 hE1 hhb7 hfb7 hg0 (hfile0.2.2.1.cell 7) hfile0.2.2.2 (hdg7.ne hhb7 (by decide)) (hfile0.2.2.1.ne hhb7 (by decide)) (by omega) (by omega) a3 a4 a1 a2 a5 a6 a7 a8 a9).mono ?_
      rintro e w' ⟨rfl, b1, mfb, msb, k, b2, b3, b4, b5, b6, b7⟩
      exact ⟨rfl, b1, _, _, b2, .inr ⟨mfb, msb, k, rfl, rfl, b3, b4, b5, b6, b7⟩⟩
  have HM := Lib.hid hmini
  clear hmini hg0 hfile0
  go_wp2_with fail
  refine HM.out.mono ?_
  rintro e w8 ⟨rfl, hf8, mfv, msv, hhb8, hmm8⟩
  have hF8 : Fr [] w w8 := hF7.trans hf8 (by simp; omega)
  have hrb8 := hrb7.fr hf8 (by simpa using hrh)
  have hfb8 := hfb7.fr hf8 (by simpa using hfh5)
  have hdg8 := hdg7.fr hf8 (by simpa using hdg7.ne hhb7 (by decide))
  have hfile8 : ∀ e, e < m * (ss / 128) → Blk w8 (fk e) 95 (flCells (P e).name (P e).init (.slice none 0 0) (P e).size 0 (fld (entB F ss cs e) 116 4) 0 (dk e) rb) := fun e he => (hfi7 e he).2.2.1.fr hf8 (by simpa using (hfi7 e he).2.2.1.ne hhb7 (by decide))
  have hent8 : ∀ e, e < m * (ss / 128) → Blk w8 (dk e) 119 (tab 69 (dirL12 (entB F ss cs e))) := fun e he => (hfi7 e he).2.2.2.fr hf8 (by simpa using (hfi7 e he).2.2.2.ne hhb7 (by decide))
  have hinj : ∀ a b, a < m * (ss / 128) → b < m * (ss / 128) → fk a = fk b → a = b := by
    intro a b ha hb h
    rcases Nat.lt_trichotomy a b with h1 | h1 | h1
    · have := (hmo7 a b h1 hb).1; omega
    · exact h1
    · have := (hmo7 b a h1 ha).1; omega
  have hEmax : m * (ss / 128) ≤ 100000 := by
    have := HSs.out
    have := Nat.mul_le_mul hF.m2 (show ss / 128 ≤ 32 by omega)
    omega
  have hfkb : ∀ e, e < m * (ss / 128) → w6.heap.size ≤ fk e := fun e he => (hfi7 e he).1
  have hfk7 : ∀ e, e < m * (ss / 128) → fk e < w7.heap.size := fun e he => (hfi7 e he).2.2.1.lt
  have hr7 : rb < w7.heap.size := hrb7.lt
  have hs7 := hF7.size
  have HT := Lib.hid (traverse_any rb sb ub2 ul uc ss dg dcap (m * (ss / 128)) 0 (.pointer (some ⟨hb, 0, none⟩)) .nilIface (entB F ss cs) P fk dk t dl w8 hrb8 hdg8 hdl hfile8 hent8 hinj hF.t0 hF.t1 hF.t2 hF.t3 hEmax)
  clear hrb7 hhb7 hfb7 hdg7 hfi7 hS7
  go_wp2_with fail
  refine HT.out.mono ?_
  rintro e w9 ⟨rfl, hf9, gb, pv, hgb, hrb9, hfs9, hfile9, hent9, hpath9⟩
  go_wp2_with fail
  go_ret2
  have hord : ∀ e, e ∈ t.order → e < m * (ss / 128) := hF.t1.lt
  have hF9 : Fr [] w w9 := by
    refine hF8.trans hf9 ?_
    intro x hx
    simp only [List.mem_cons, List.mem_map] at hx
    rcases hx with rfl | ⟨e, he, rfl⟩
    · exact .inr (by omega)
    · have := hfkb e (hord e he)
      exact .inr (by omega)
  have hnot : ∀ (b : Nat) (S : TypeId) (l : List Value), Blk w8 b S l → S ≠ 91 → S ≠ 95 → b ∉ rb :: t.order.map fk := by
    intro b S l hb h1 h2 hm
    simp only [List.mem_cons, List.mem_map] at hm
    rcases hm with rfl | ⟨e, he, rfl⟩
    · exact hb.ne hrb8 h1 rfl
    · exact hb.ne (hfile8 e (hord e he)) h2 rfl
  refine ⟨rb, hb, fb, gb, dg, dcap, ub2, ul, uc, fk, dk, pv, mfv, msv, rfl, hF9, ?_⟩
  exact {
    rb_ := by omega
    rd := hrb9
    hd := hhb8.fr hf9 (hnot _ _ _ hhb8 (by decide) (by decide))
    hdb := by omega
    fd := hfb8.fr hf9 (hnot _ _ _ hfb8 (by decide) (by decide))
    files := hfs9
    file := hfile9
    fileb := fun e he => by have := hfkb e he; omega
    filei := fun a b h1 h2 => (hmo7 a b h1 h2).1
    ent := hent9
    path := fun q hq => by
      obtain ⟨b, cap, h1, h2, h3⟩ := hpath9 q hq
      exact ⟨b, cap, h1, by have := hF8.size; omega, h3⟩
    mini := by
      rcases hmm8 with h | ⟨fb', sb', k, h1, h2, h3, h4, h5, h6, h7⟩
      · exact .inl h
      · refine .inr ⟨fb', sb', k, h1, h2, by omega, by omega, h5, ?_, ?_⟩
        · intro i hi
          refine hf9.cell ?_ (h6 i hi)
          simp only [List.mem_cons, List.mem_map]
          rintro (h | ⟨e, he, h⟩)
          · omega
          · have := hfk7 e (hord e he); omega
        · intro i hi
          refine hf9.cell ?_ (h7 i hi)
          simp only [List.mem_cons, List.mem_map]
          rintro (h | ⟨e, he, h⟩)
          · omega
          · have := hfk7 e (hord e he); omega }
end Go.Proofs.YtokpomdfgbbhlaaDoor

/- The contract of opened over a sound file. -/
namespace Go.Proofs.YtokpomdfgbbhlaaDoor
open Go Go.RowKit Go.Maps

theorem code_nil (w : World) : Calls Tryd.prog 38 #[.nilIface] w fun e w' => e = .returned (.int .i64 0) ∧ w = w' := by
  go_enter Tryd.func38, Tryd.ntmps38
  go_wp2_with fail
  go_ret
  exact ⟨rfl, rfl⟩

set_option maxRecDepth 100000 in
set_option maxHeartbeats 1000000 in
theorem opened_ok (ab ao n ncap ss m mn mm : Nat) (F : Nat → UInt8) (cs mf ms : Nat → Nat) (P : Nat → EntP) (t : Tr) (w : World) (hB : ∀ i, i < n → w.cell? ⟨ab, ao + i, none⟩ = some (U8 (F i)))
    (hF : FileOK F n ss m cs P t mn mm mf ms) (hn : n ≤ 131072)
    (hp : ∀ i, 65 ≤ i → i ≤ 90 → w.cell? ⟨2, i, none⟩ = some (.int .u8 160)) (h2w : 2 < w.heap.size) :
    Calls Tryd.prog 27 #[.slice (some ⟨ab, ao, none⟩) n ncap] w fun e w' =>
      ∃ (base sb bb cap rb hb fb gb dg dcap ub ul uc : Nat) (fk dk : Nat → Nat) (pv : Nat → Value) (mfv msv : Value), e = .returned (.tuple #[.pointer (some ⟨rb, 0, none⟩), .pointer (some ⟨sb, 0, none⟩), .int .i64 0]) ∧ Fr [] w w' ∧
        w.heap.size ≤ bb ∧ w.heap.size ≤ sb ∧ bb < base ∧ sb < base ∧ bb ≠ sb ∧ Src w' sb bb n cap F ∧ RdOK w' base rb sb F ss m cs P t mn mm mf ms hb fb gb dg dcap ub ul uc fk dk pv mfv msv := by
  obtain ⟨i0, hi, hz0, hz1, hz2⟩ := info_parts info5
  have hn0 := hF.n0
  have hnI : decide ((131072 : Int) < n) = false := by simp; omega
  have hnN : decide (131072 < n) = false := by simp; omega
  go_enter Tryd.func27, Tryd.ntmps27
  go_wp2_with (at_builtin; refine wpList_append_own _ rfl _ (.tmp 11) 23 rfl w.heap.size 5 i0 (.int .u8 0) 1 1 Tryd.underlying23 hi hz0 hz1 hz2 rfl (by decide) (.slice none 0 0) 0 [] rfl (World.ownsRow_nil _ _ _ _) ⟨ab, ao, none⟩ n ncap (tab n (fun i => U8 (F i))) rfl ?c1 ?c2 ?c3 ?c4 ?c5 (Nat.le_refl _) ?c6)
  case c1 => simp
  case c2 =>
    intro j u hj
    rw [tab_get?] at hj
    split at hj
    · rename_i hjn
      simp at hj; subst hj
      rw [Addr.add_mid]
      exact hB j hjn
    · cases hj
  case c3 =>
    intro u hu
    obtain ⟨i, hi⟩ := List.getElem?_of_mem hu
    rw [tab_get?] at hi
    split at hi
    · simp at hi; subst hi; rfl
    · cases hi
  case c4 => unfold maxLen; omega
  case c5 => omega
  intro v' w1 hown hg _
  obtain ⟨bb, cap, l, rfl, hbb0, hbb, hbl, hc1, hc2⟩ := own_blk2 hown (by omega)
  have hf1 : Fr [] w w1 := Fr.of_grown hg
  have hbbl := hbb.lt
  have hw1 := hf1.size
  clear hown hg
  have hf2 : Fr [] w1 (w1.alloc (Obj.cells #[.slice (some ⟨bb, 0, none⟩) n cap] 113)) := (Fr.refl _ _).alloc _
  have hsb := Blk.new' w1 113 #[.slice (some ⟨bb, 0, none⟩) n cap]
  have hS2 : Src (w1.alloc (Obj.cells #[.slice (some ⟨bb, 0, none⟩) n cap] 113)) w1.heap.size bb n cap F :=
    ⟨hsb.cell 0, fun i hi => hf2.cell0 ((hbb.cell i).trans (hbl i hi)), hc1, hc2⟩
  have hcon := Lib.hid (new_ok w1.heap.size bb n cap ss m mn mm F cs mf ms P t _ hS2 hF (fun i a b => hf2.cell0 (hf1.cell0 (hp i a b))) (by have := hf2.size; omega))
  have hsz2 : (w1.alloc (Obj.cells #[.slice (some ⟨bb, 0, none⟩) n cap] 113)).heap.size = w1.heap.size + 1 := by simp
  clear hB hp
  go_wp2_with fail
  refine hcon.out.mono ?_
  rintro e w3 ⟨rb, hb, fb, gb, dg, dcap, ub, ul, uc, fk, dk, pv, mfv, msv, rfl, hf3, hR⟩
  go_wp2_with fail
  refine (code_nil _).mono ?_
  rintro e w4 ⟨rfl, rfl⟩
  go_wp2_with fail
  go_ret3
  exact ⟨_, w1.heap.size, bb, cap, rb, hb, fb, gb, dg, dcap, ub, ul, uc, fk, dk, pv, mfv, msv, rfl, (hf1.trans0 hf2).trans0 hf3, hbb0, hw1, by rw [hsz2]; omega, by rw [hsz2]; omega, by omega, hS2.fr0 hf3, hR⟩
end Go.Proofs.YtokpomdfgbbhlaaDoor

/- The contracts of the small readers of a file's fields. -/
namespace Go.Proofs.YtokpomdfgbbhlaaDoor
open Go Go.RowKit Go.Maps

theorem created_any (fk d : Nat) (name : ByteArray) (initial : Nat) (path : Value) (size i : Int) (cur : Nat) (rem : Int) (r : Nat) (G : Nat → UInt8) (w : World)
    (hf : Blk w fk 95 (flCells name initial path size i cur rem d r)) (hd : Blk w d 119 (tab 69 (dirL12 G))) :
    Calls Tryd.prog 31 #[.pointer (some ⟨fk, 0, none⟩)] w fun e w' => e = .returned (.int .u64 (fld G 100 8)) ∧ w = w' := by
  have c7 : w.cell? ⟨fk, 7, none⟩ = some (.pointer (some ⟨d, 0, none⟩)) := hf.cell 7
  have d58 := (hd.cell 58).trans (dir_create G)
  go_enter Tryd.func31, Tryd.ntmps31
  go_wp2_with fail
  go_ret
  exact ⟨rfl, rfl⟩

theorem modified_any (fk d : Nat) (name : ByteArray) (initial : Nat) (path : Value) (size i : Int) (cur : Nat) (rem : Int) (r : Nat) (G : Nat → UInt8) (w : World)
    (hf : Blk w fk 95 (flCells name initial path size i cur rem d r)) (hd : Blk w d 119 (tab 69 (dirL12 G))) :
    Calls Tryd.prog 32 #[.pointer (some ⟨fk, 0, none⟩)] w fun e w' => e = .returned (.int .u64 (fld G 108 8)) ∧ w = w' := by
  have c7 : w.cell? ⟨fk, 7, none⟩ = some (.pointer (some ⟨d, 0, none⟩)) := hf.cell 7
  have d59 := (hd.cell 59).trans (dir_modify G)
  go_enter Tryd.func32, Tryd.ntmps32
  go_wp2_with fail
  go_ret
  exact ⟨rfl, rfl⟩

theorem type_any (fk d : Nat) (name : ByteArray) (initial : Nat) (path : Value) (size i : Int) (cur : Nat) (rem : Int) (r : Nat) (G : Nat → UInt8) (w : World)
    (hf : Blk w fk 95 (flCells name initial path size i cur rem d r)) (hd : Blk w d 119 (tab 69 (dirL12 G))) :
    Calls Tryd.prog 28 #[.pointer (some ⟨fk, 0, none⟩)] w fun e w' => e = .returned (.int .i64 ((G 66).toNat : Nat)) ∧ w = w' := by
  have c7 : w.cell? ⟨fk, 7, none⟩ = some (.pointer (some ⟨d, 0, none⟩)) := hf.cell 7
  have d33 : w.cell? ⟨d, 33, none⟩ = some (.int .u8 ((G 66).toNat : Nat)) := (hd.cell 33).trans (dir_type G)
  have hlt : (G 66).toNat < 256 := (G 66).toNat_lt
  generalize (G 66).toNat = g at *
  go_enter Tryd.func28, Tryd.ntmps28
  go_wp2_with fail
  go_ret
  exact ⟨by go_num, rfl⟩

theorem dir_class (G : Nat → UInt8) (j : Nat) (hj : j < 16) : (tab 69 (dirL12 G))[38 + j]? = some (U8 (G (80 + j))) := by
  rw [tab_get _ _ _ (by omega)]
  simp only [dirL12, dirL11, dirL10, dirL9, dirL8, dirL7]
  rw [if_neg (by omega), if_neg (by omega), if_neg (by omega), if_neg (by omega), if_neg (by omega), if_pos (by omega)]
  congr 2
  congr 2; omega

set_option maxRecDepth 100000 in
set_option maxHeartbeats 1000000 in
theorem id_any (fk d : Nat) (name : ByteArray) (initial : Nat) (path : Value) (size i : Int) (cur : Nat) (rem : Int) (r : Nat) (G : Nat → UInt8) (w : World)
    (hf : Blk w fk 95 (flCells name initial path size i cur rem d r)) (hd : Blk w d 119 (tab 69 (dirL12 G))) :
    Calls Tryd.prog 29 #[.pointer (some ⟨fk, 0, none⟩)] w fun e w' => e = .returned (.agg (guidA (fun j => G (80 + j)))) ∧ Fr [] w w' := by
  have hz : (zeroValue 97).run Tryd.prog w = .ok (.agg (List.replicate 16 (.int .u8 0)).toArray) w := by kernel_rfl
  have f1 : Fr [] w (w.alloc (.cells (List.replicate 16 (.int .u8 0)).toArray 97)) := (Fr.refl _ _).alloc _
  have hr1 := Blk.new w 97 (List.replicate 16 (Value.int .u8 0))
  have hd1 := hd.fr0 f1
  have c7 : w.cell? ⟨fk, 7, none⟩ = some (.pointer (some ⟨d, 0, none⟩)) := hf.cell 7
  have l1 := hf.lt
  have l2 := hd.lt
  have hlen : ((tab 69 (dirL12 G)).drop 38).take 16 = (guidA (fun j => G (80 + j))).toList := by
    rw [tab_drop_take _ _ _ _ (by omega)]
    simp only [guidA]
    refine (tab_congr (fun j hj => ?_))
    have := dir_class G j hj
    rw [tab_get _ _ _ (by omega)] at this
    exact Option.some.inj this
  go_enter Tryd.func29, Tryd.ntmps29
  go_wp2_with (first
      | (with_reducible refine wpList_load_blk rfl 97 (.tmp 8) rfl d 38 rfl 119 _ (hd.alloc _) _ Tryd.underlying97 rfl 16 (by kernel_rfl) (by simp) (guidA (fun j => G (80 + j))) ?_ ?_)
      | (with_reducible refine wpList_store_blk rfl 97 (.tmp 2) (.tmp 9) rfl w.heap.size 0 (guidA (fun j => G (80 + j))) rfl rfl 97 _ (Blk.new' w 97 _) ?_ ?_ (guidA_one _) ?_))
  · exact hlen
  · simp [guidA_size]
  · rw [guidA_size]; kernel_rfl
  · intro w2 hf2 hb3
    have hfr : Fr [] w w2 := ((Fr.refl [] w).alloc _).trans hf2 (by simp)
    have e3 := splice_whole (List.replicate 16 (Value.int .u8 0)) (guidA (fun j => G (80 + j))).toList (by simp [guidA])
    have hb4 : Blk w2 w.heap.size 97 (guidA (fun j => G (80 + j))).toList := by rw [← e3]; exact hb3
    have hld : (loadVar 97 ⟨w.heap.size, 0, none⟩).run Tryd.prog w2 = .ok (.agg (guidA (fun j => G (80 + j)))) w2 := by
      have := run_loadVar_mid (P := Tryd.prog) w2 w.heap.size 0 97 (guidA (fun j => G (80 + j))).toList _ (fun j v hj => by rw [hb4.cell]; simpa using hj) Tryd.underlying97 rfl (by rw [Array.length_toList, guidA_size]; kernel_rfl)
      simpa using this
    clear hb3 hb4 e3 hf2
    go_wp2_with fail
    refine bodyPost_ret (v := .agg (guidA (fun j => G (80 + j)))) ?_ rfl ⟨rfl, hfr⟩
    simp [results, Tryd.results29, asAddr, hld]
theorem dir_state (G : Nat → UInt8) (j : Nat) (hj : j < 4) : (tab 69 (dirL12 G))[54 + j]? = some (U8 (G (96 + j))) := by
  rw [tab_get _ _ _ (by omega)]
  simp only [dirL12, dirL11, dirL10, dirL9, dirL8]
  rw [if_neg (by omega), if_neg (by omega), if_neg (by omega), if_neg (by omega), if_pos (by omega)]
  congr 2
  congr 2; omega

/-- Four bytes as an array's value. -/
def stateA (f : Nat → UInt8) : Array Value := (tab 4 (fun i => U8 (f i))).toArray
theorem stateA_size (f : Nat → UInt8) : (stateA f).size = 4 := by simp [stateA]
theorem stateA_one (f : Nat → UInt8) : (stateA f).all (·.oneCell') = true := tab_oneCell (fun _ _ => rfl)

set_option maxRecDepth 100000 in
set_option maxHeartbeats 1000000 in
theorem state_any (fk d : Nat) (name : ByteArray) (initial : Nat) (path : Value) (size i : Int) (cur : Nat) (rem : Int) (r : Nat) (G : Nat → UInt8) (w : World)
    (hf : Blk w fk 95 (flCells name initial path size i cur rem d r)) (hd : Blk w d 119 (tab 69 (dirL12 G))) :
    Calls Tryd.prog 30 #[.pointer (some ⟨fk, 0, none⟩)] w fun e w' => e = .returned (.agg (stateA (fun j => G (96 + j)))) ∧ Fr [] w w' := by
  have hz : (zeroValue 37).run Tryd.prog w = .ok (.agg (List.replicate 4 (.int .u8 0)).toArray) w := by kernel_rfl
  have f1 : Fr [] w (w.alloc (.cells (List.replicate 4 (.int .u8 0)).toArray 37)) := (Fr.refl _ _).alloc _
  have hr1 := Blk.new w 37 (List.replicate 4 (Value.int .u8 0))
  have hd1 := hd.fr0 f1
  have c7 : w.cell? ⟨fk, 7, none⟩ = some (.pointer (some ⟨d, 0, none⟩)) := hf.cell 7
  have l1 := hf.lt
  have l2 := hd.lt
  have hlen : ((tab 69 (dirL12 G)).drop 54).take 4 = (stateA (fun j => G (96 + j))).toList := by
    rw [tab_drop_take _ _ _ _ (by omega)]
    simp only [stateA]
    refine (tab_congr (fun j hj => ?_))
    have := dir_state G j hj
    rw [tab_get _ _ _ (by omega)] at this
    exact Option.some.inj this
  go_enter Tryd.func30, Tryd.ntmps30
  go_wp2_with (first
      | (with_reducible refine wpList_load_blk rfl 37 (.tmp 8) rfl d 54 rfl 119 _ (hd.alloc _) _ Tryd.underlying37 rfl 4 (by kernel_rfl) (by simp) (stateA (fun j => G (96 + j))) ?_ ?_)
      | (with_reducible refine wpList_store_blk rfl 37 (.tmp 2) (.tmp 9) rfl w.heap.size 0 (stateA (fun j => G (96 + j))) rfl rfl 37 _ (Blk.new' w 37 _) ?_ ?_ (stateA_one _) ?_))
  · exact hlen
  · simp [stateA_size]
  · rw [stateA_size]; kernel_rfl
  · intro w2 hf2 hb3
    have hfr : Fr [] w w2 := ((Fr.refl [] w).alloc _).trans hf2 (by simp)
    have e3 := splice_whole (List.replicate 4 (Value.int .u8 0)) (stateA (fun j => G (96 + j))).toList (by simp [stateA])
    have hb4 : Blk w2 w.heap.size 37 (stateA (fun j => G (96 + j))).toList := by rw [← e3]; exact hb3
    have hld : (loadVar 37 ⟨w.heap.size, 0, none⟩).run Tryd.prog w2 = .ok (.agg (stateA (fun j => G (96 + j)))) w2 := by
      have := run_loadVar_mid (P := Tryd.prog) w2 w.heap.size 0 37 (stateA (fun j => G (96 + j))).toList _ (fun j v hj => by rw [hb4.cell]; simpa using hj) Tryd.underlying37 rfl (by rw [Array.length_toList, stateA_size]; kernel_rfl)
      simpa using this
    clear hb3 hb4 e3 hf2
    go_wp2_with fail
    refine bodyPost_ret (v := .agg (stateA (fun j => G (96 + j)))) ?_ rfl ⟨rfl, hfr⟩
    simp [results, Tryd.results30, asAddr, hld]
end Go.Proofs.YtokpomdfgbbhlaaDoor

/- The contracts of Reader.ID, Created, Modified, and of Root over a sound file. -/
namespace Go.Proofs.YtokpomdfgbbhlaaDoor
open Go Go.RowKit Go.Maps

section
variable {w : World} {base rb sb : Nat} {F : Nat → UInt8} {ss m : Nat} {cs : Nat → Nat} {P : Nat → EntP} {t : Tr} {mn mm : Nat} {mf ms : Nat → Nat}
    {hb fb gb dg dcap ub ul uc : Nat} {fk dk : Nat → Nat} {pv : Nat → Value} {mfv msv : Value}

theorem rcreated_any (h : RdOK w base rb sb F ss m cs P t mn mm mf ms hb fb gb dg dcap ub ul uc fk dk pv mfv msv) (hl : 1 ≤ t.order.length) (he : t.order.getD 0 0 < m * (ss / 128)) :
    Calls Tryd.prog 35 #[.pointer (some ⟨rb, 0, none⟩)] w fun e w' => e = .returned (.int .u64 (fld (entB F ss cs (t.order.getD 0 0)) 100 8)) ∧ w = w' := by
  have r4 : w.cell? ⟨rb, 4, none⟩ = some (.slice (some ⟨gb, 0, none⟩) t.order.length (m * (ss / 128))) := h.rd.cell 4
  have g0 := h.files 0 (by omega)
  have hcon := Lib.hid (created_any _ _ _ _ _ _ _ _ _ _ _ w (h.file _ he) (h.ent _ he))
  generalize t.order.getD 0 0 = e0 at *
  generalize t.order.length = tl at *
  go_enter Tryd.func35, Tryd.ntmps35
  go_wp2_with fail
  refine hcon.out.mono ?_
  rintro e w1 ⟨rfl, rfl⟩
  go_wp2_with fail
  go_ret
  exact ⟨rfl, rfl⟩
theorem rmodified_any (h : RdOK w base rb sb F ss m cs P t mn mm mf ms hb fb gb dg dcap ub ul uc fk dk pv mfv msv) (hl : 1 ≤ t.order.length) (he : t.order.getD 0 0 < m * (ss / 128)) :
    Calls Tryd.prog 36 #[.pointer (some ⟨rb, 0, none⟩)] w fun e w' => e = .returned (.int .u64 (fld (entB F ss cs (t.order.getD 0 0)) 108 8)) ∧ w = w' := by
  have r4 : w.cell? ⟨rb, 4, none⟩ = some (.slice (some ⟨gb, 0, none⟩) t.order.length (m * (ss / 128))) := h.rd.cell 4
  have g0 := h.files 0 (by omega)
  have hcon := Lib.hid (modified_any _ _ _ _ _ _ _ _ _ _ _ w (h.file _ he) (h.ent _ he))
  generalize t.order.getD 0 0 = e0 at *
  generalize t.order.length = tl at *
  go_enter Tryd.func36, Tryd.ntmps36
  go_wp2_with fail
  refine hcon.out.mono ?_
  rintro e w1 ⟨rfl, rfl⟩
  go_wp2_with fail
  go_ret
  exact ⟨rfl, rfl⟩

set_option maxRecDepth 100000 in
set_option maxHeartbeats 1000000 in
theorem rid_any (h : RdOK w base rb sb F ss m cs P t mn mm mf ms hb fb gb dg dcap ub ul uc fk dk pv mfv msv) (hl : 1 ≤ t.order.length) (he : t.order.getD 0 0 < m * (ss / 128)) :
    Calls Tryd.prog 34 #[.pointer (some ⟨rb, 0, none⟩)] w fun e w' => e = .returned (.agg (guidA (fun j => entB F ss cs (t.order.getD 0 0) (80 + j)))) ∧ Fr [] w w' := by
  have r4 : w.cell? ⟨rb, 4, none⟩ = some (.slice (some ⟨gb, 0, none⟩) t.order.length (m * (ss / 128))) := h.rd.cell 4
  have g0 := h.files 0 (by omega)
  have hfl := h.file _ he
  have hen := h.ent _ he
  have lr := h.rd.lt
  have lg := World.block_lt_of_cell? w _ g0
  dsimp only at lg
  generalize t.order.getD 0 0 = e0 at *
  generalize t.order.length = tl at *
  generalize entB F ss cs e0 = G at *
  go_enter Tryd.func34, Tryd.ntmps34
  go_wp2_with fail
  refine (id_any _ _ _ _ _ _ _ _ _ _ G _ (hfl.alloc _) (hen.alloc _)).mono ?_
  rintro e w1 ⟨rfl, hf1⟩
  have hr1 := (Blk.new' w 97 (List.replicate 16 (Value.int .u8 0)).toArray).fr0 hf1
  go_wp2_with (with_reducible refine wpList_store_blk rfl 97 (.tmp 2) (.tmp 9) rfl w.heap.size 0 (guidA (fun j => G (80 + j))) rfl rfl 97 _ hr1 ?_ ?_ (guidA_one _) ?_)
  · simp [guidA_size]
  · rw [guidA_size]; kernel_rfl
  · intro w2 hf2 hb3
    have hfr : Fr [] w w2 := (((Fr.refl [] w).alloc _).trans0 hf1).trans hf2 (by simp)
    have e3 := splice_whole (List.replicate 16 (Value.int .u8 0)) (guidA (fun j => G (80 + j))).toList (by simp [guidA])
    have hb4 : Blk w2 w.heap.size 97 (guidA (fun j => G (80 + j))).toList := by rw [← e3]; exact hb3
    have hld : (loadVar 97 ⟨w.heap.size, 0, none⟩).run Tryd.prog w2 = .ok (.agg (guidA (fun j => G (80 + j)))) w2 := by
      have := run_loadVar_mid (P := Tryd.prog) w2 w.heap.size 0 97 (guidA (fun j => G (80 + j))).toList _ (fun j v hj => by rw [hb4.cell]; simpa using hj) Tryd.underlying97 rfl (by rw [Array.length_toList, guidA_size]; kernel_rfl)
      simpa using this
    clear hb3 hb4 e3 hf2
    go_wp2_with fail
    refine bodyPost_ret (v := .agg (guidA (fun j => G (80 + j)))) ?_ rfl ⟨rfl, hfr⟩
    simp [results, Tryd.results34, asAddr, hld]

theorem RdOK.fr0 {w' : World} (h : RdOK w base rb sb F ss m cs P t mn mm mf ms hb fb gb dg dcap ub ul uc fk dk pv mfv msv) (f : Fr [] w w') :
    RdOK w' base rb sb F ss m cs P t mn mm mf ms hb fb gb dg dcap ub ul uc fk dk pv mfv msv where
  rb_ := h.rb_
  rd := h.rd.fr0 f
  hd := h.hd.fr0 f
  hdb := h.hdb
  fd := h.fd.fr0 f
  files := fun i hi => f.cell0 (h.files i hi)
  file := fun e he => (h.file e he).fr0 f
  fileb := h.fileb
  filei := h.filei
  ent := fun e he => (h.ent e he).fr0 f
  path := fun q hq => (h.path q hq).fr f (by simp)
  mini := by
    rcases h.mini with h | ⟨a, b, k, h1, h2, h3, h4, h5, h6, h7⟩
    · exact .inl h
    · exact .inr ⟨a, b, k, h1, h2, h3, h4, h5, fun i hi => f.cell0 (h6 i hi), fun i hi => f.cell0 (h7 i hi)⟩
end
end Go.Proofs.YtokpomdfgbbhlaaDoor

/- The contract of Root over a sound file. -/
namespace Go.Proofs.YtokpomdfgbbhlaaDoor
open Go Go.RowKit Go.Maps

set_option maxRecDepth 100000 in
set_option maxHeartbeats 1000000 in
theorem root_ok (ab ao n ncap ss m mn mm : Nat) (F : Nat → UInt8) (cs mf ms : Nat → Nat) (P : Nat → EntP) (t : Tr) (w : World) (hB : ∀ i, i < n → w.cell? ⟨ab, ao + i, none⟩ = some (U8 (F i)))
    (hF : FileOK F n ss m cs P t mn mm mf ms) (hn : n ≤ 131072)
    (hp : ∀ i, 65 ≤ i → i ≤ 90 → w.cell? ⟨2, i, none⟩ = some (.int .u8 160)) (h2w : 2 < w.heap.size) (hl : 1 ≤ t.order.length) (h0 : t.order.getD 0 0 = 0) (hm : 0 < m * (ss / 128)) :
    Calls Tryd.prog 14 #[.slice (some ⟨ab, ao, none⟩) n ncap] w fun e w' => Fr [] w w' ∧
      e = .returned (.tuple #[.agg (guidA (fun j => entB F ss cs 0 (80 + j))), .int .u64 (fld (entB F ss cs 0) 100 8), .int .u64 (fld (entB F ss cs 0) 108 8), .int .i64 0]) := by
  go_enter Tryd.func14, Tryd.ntmps14
  go_wp2_with fail
  refine (opened_ok ab ao n ncap ss m mn mm F cs mf ms P t _ (fun i hi => ((Fr.refl [] w).alloc _).cell0 (hB i hi)) hF hn (fun i a b => ((Fr.refl [] w).alloc _).cell0 (hp i a b)) (by simp; omega)).mono ?_
  rintro e w1 ⟨base, sb, bb, cap, rb, hb, fb, gb, dg, dcap, ub, ul, uc, fk, dk, pv, mfv, msv, rfl, hf1, _, _, _, _, _, _, hR⟩
  have hr1 := (Blk.new' w 36 (List.replicate 16 (Value.int .u8 0)).toArray).fr0 hf1
  go_wp2_with fail
  have k1 := rid_any hR hl (by rw [h0]; exact hm)
  rw [h0] at k1
  generalize hG : entB F ss cs 0 = G at *
  refine k1.mono ?_
  rintro e w2 ⟨rfl, hf2⟩
  go_wp2_with fail
  have k2 := rcreated_any (hR.fr0 hf2) hl (by rw [h0]; exact hm)
  rw [h0, hG] at k2
  refine k2.mono ?_
  rintro e w3 ⟨rfl, rfl⟩
  go_wp2_with fail
  have k3 := rmodified_any (hR.fr0 hf2) hl (by rw [h0]; exact hm)
  rw [h0, hG] at k3
  refine k3.mono ?_
  rintro e w3 ⟨rfl, rfl⟩
  have hr2 := hr1.fr0 hf2
  clear k1 k2 k3
  go_wp2_with (refine wpList_store_blk rfl 36 (.tmp 2) (.tmp 20) rfl w.heap.size 0 (guidA (fun j => G (80 + j))) rfl rfl 36 _ hr2 ?_ ?_ (guidA_one _) ?_)
  · simp [guidA_size]
  · rw [guidA_size]; kernel_rfl
  · intro w4 hf4 hb3
    have hfr : Fr [] w w4 := ((((Fr.refl [] w).alloc _).trans0 hf1).trans0 hf2).trans hf4 (by simp)
    have e3 := splice_whole (List.replicate 16 (Value.int .u8 0)) (guidA (fun j => G (80 + j))).toList (by simp [guidA])
    have hb4 : Blk w4 w.heap.size 36 (guidA (fun j => G (80 + j))).toList := by rw [← e3]; exact hb3
    have hld : (loadVar 36 ⟨w.heap.size, 0, none⟩).run Tryd.prog w4 = .ok (.agg (guidA (fun j => G (80 + j)))) w4 := by
      have := run_loadVar_mid (P := Tryd.prog) w4 w.heap.size 0 36 (guidA (fun j => G (80 + j))).toList _ (fun j v hj => by rw [hb4.cell]; simpa using hj) Tryd.underlying36 rfl (by rw [Array.length_toList, guidA_size]; kernel_rfl)
      simpa using this
    clear hb3 hb4 e3 hf4
    go_wp2_with fail
    refine bodyPost_ret (v := .tuple #[.agg (guidA (fun j => G (80 + j))), .int .u64 (fld G 100 8), .int .u64 (fld G 108 8), .int .i64 0]) ?_ rfl ⟨hfr, by rw [hG]⟩
    simp [results, Tryd.results14, asAddr, hld]
end Go.Proofs.YtokpomdfgbbhlaaDoor

/- An array of bytes against itself. -/
namespace Go.Proofs.YtokpomdfgbbhlaaDoor
open Go Go.RowKit

theorem plain5 : Tryd.prog.plainKey 5 = true := by kernel_rfl
theorem cells5 : Tryd.prog.cellsOf 5 = 1 := by kernel_rfl
theorem run_items_u8 (w : World) (d : Nat) (xs : Array Value) (n : Nat) (hx : ∀ i, i < n → ∃ z : Int, xs[i]? = some (.int .u8 z)) : ∀ is : List Nat, (∀ i ∈ is, i < n) → (Op.eqItems (d + 1) 5 1 xs xs is).run Tryd.prog w = .ok true w
  | [], _ => rfl
  | i :: is, h => by
    obtain ⟨z, hz⟩ := hx i (h i (by simp))
    have h1 : (part 5 xs (i * 1)).run Tryd.prog w = .ok (.int .u8 z) w := run_part_plain w plain5 (by rw [Nat.mul_one]; exact hz)
    have h2 := run_equalIn_int (P := Tryd.prog) w d 5 .u8 .u8 z z Tryd.underlying5
    simp only [Op.eqItems, Sem.run_bind, h1, h2, Result.andThen_ok]
    simpa using run_items_u8 w d xs n hx is (fun j hj => h j (by simp [hj]))
theorem info5_any : ∃ i, Tryd.prog.info? 5 = some i := by
  have : (Tryd.prog.info? 5).isSome = true := by kernel_rfl
  exact Option.isSome_iff_exists.1 this
theorem run_eql_bytes (w : World) (t n : Nat) (ht : Tryd.prog.underlying t = some (.array n 5)) (xs : Array Value) (hx : ∀ i, i < n → ∃ z : Int, xs[i]? = some (.int .u8 z)) : (binOp .eql t (.agg xs) (.agg xs)).run Tryd.prog w = .ok (.bool true) w := by
  obtain ⟨i, hi⟩ := info5_any
  rw [run_eql_struct]
  rw [run_equalIn_array w 9999 xs xs ht hi, cells5, run_items_u8 w 9998 xs n hx _ (fun j hj => List.mem_range.1 hj)]
  rfl
theorem run_equalIn_bytes (w : World) (t n : Nat) (ht : Tryd.prog.underlying t = some (.array n 5)) (xs : Array Value) (hx : ∀ i, i < n → ∃ z : Int, xs[i]? = some (.int .u8 z)) : (Op.equalIn 10000 t (.agg xs) (.agg xs)).run Tryd.prog w = .ok true w := by
  obtain ⟨i, hi⟩ := info5_any
  rw [run_equalIn_array w 9999 xs xs ht hi, cells5, run_items_u8 w 9998 xs n hx _ (fun j hj => List.mem_range.1 hj)]
/-- A row that is loaded whole in a region that draws its order. -/
theorem quiet_load {C : World → Prop} {K : Act → Prop} {a : Act} {o : Oper} (ty : TypeId) (x : Operand) (ho : o.op = .load ty x) (b off : Nat) (hx : a.eval x = .pointer (some ⟨b, off, none⟩)) (cs : Array Value)
    (hl : ∀ w, C w → (loadVar ty ⟨b, off, none⟩).run Tryd.prog w = .ok (.agg cs) w) (hk : K (a.put o.dst (.agg cs))) : o.quiet Tryd.prog a C K :=
  ⟨_, fun w hw => by
    unfold Oper.quietAt execOp
    simp only [ho, hx, Instr.loadAt, Instr.sureAddr, Sem.run_bind, Sem.run_pure, Result.andThen_ok, hl w hw]
    exact ⟨rfl, rfl⟩, hk⟩
theorem run_neq_bytes (w : World) (t n : Nat) (ht : Tryd.prog.underlying t = some (.array n 5)) (xs : Array Value) (hx : ∀ i, i < n → ∃ z : Int, xs[i]? = some (.int .u8 z)) : (binOp .neq t (.agg xs) (.agg xs)).run Tryd.prog w = .ok (.bool false) w := by
  obtain ⟨i, hi⟩ := info5_any
  rw [run_neq_struct]
  rw [run_equalIn_array w 9999 xs xs ht hi, cells5, run_items_u8 w 9998 xs n hx _ (fun j hj => List.mem_range.1 hj)]
  rfl
theorem tab_u8 (n : Nat) (f : Nat → UInt8) : ∀ i, i < n → ∃ z : Int, (tab n (fun i => U8 (f i))).toArray[i]? = some (.int .u8 z) := fun i hi => ⟨_, by rw [List.getElem?_toArray]; exact tab_get _ _ _ hi⟩
end Go.Proofs.YtokpomdfgbbhlaaDoor

/- The walk of FnRoot. -/
namespace Go.Proofs.YtokpomdfgbbhlaaDoor
open Go Go.RowKit Go.Maps

set_option maxRecDepth 100000 in
set_option maxHeartbeats 8000000 in
theorem rootlaw_any (nb no nn ncap cb co cn ccap cr md : Nat) (num : Nat → Nat) (cl : Nat → UInt8) (na ca : Option Addr) (four : Bool) (step : Nat) (w : World) (hstep : step < 256) (hnc : nn ≤ ncap ∧ ncap ≤ 9223372036854775807) (hcc : cn ≤ ccap ∧ ccap ≤ 9223372036854775807)
    (hnum : ∀ i, num i < 4294967296) (hna : 0 < nn → na = some ⟨nb, no, none⟩) (hca : 0 < cn → ca = some ⟨cb, co, none⟩) (hnums : ∀ i, i < nn → w.cell? ⟨nb, no + i, none⟩ = some (.int .u32 (num i : Nat))) (hcls : ∀ i, i < cn → w.cell? ⟨cb, co + i, none⟩ = some (U8 (cl i)))
    (hcr : cr < 18446744073709551616) (hmd : md < 18446744073709551616) (hp : ∀ i, 65 ≤ i → i ≤ 90 → w.cell? ⟨2, i, none⟩ = some (.int .u8 160)) (h2w : 2 < w.heap.size) :
    Calls Tryd.prog 4 #[.slice na nn ncap, .slice ca cn ccap, .int .u64 cr, .int .u64 md, .bool four, .int .u8 (step : Int)] w fun e w' => e = .returned (.bool true) ∧ Fr [] w w' := by
  have HNUM := Lib.hid hnum
  have HNA := Lib.hid hna
  have HCA := Lib.hid hca
  have HNUMS := Lib.hid hnums
  have HCLS := Lib.hid hcls
  have HP := Lib.hid hp
  have HCR := Lib.hid hcr
  have HMD := Lib.hid hmd
  clear hnum hna hca hnums hcls hp hcr hmd
  by_cases h1 : 2147483647 < nn
  · have hd : decide ((2147483647 : Int) < (nn : Int)) = true := by simp; omega
    go_enter Tryd.func4, Tryd.ntmps4
    go_wp2_with fail
    go_ret
    exact ⟨rfl, Fr.refl _ _⟩
  have hd1 : decide ((2147483647 : Int) < (nn : Int)) = false := by simp; omega
  by_cases h2 : 2147483647 < cn
  · have hd : decide ((2147483647 : Int) < (cn : Int)) = true := by simp; omega
    go_enter Tryd.func4, Tryd.ntmps4
    go_wp2_with fail
    go_ret
    exact ⟨rfl, Fr.refl _ _⟩
  have hd2 : decide ((2147483647 : Int) < (cn : Int)) = false := by simp; omega
  by_cases h3 : 100 < nn
  · go_enter Tryd.func4, Tryd.ntmps4
    go_wp2_with fail
    refine (few_no1 _ _ nn cn _ _ _ h3).mono ?_
    rintro e w1 ⟨rfl, rfl⟩
    go_wp2_with fail
    go_ret
    exact ⟨rfl, Fr.refl _ _⟩
  by_cases h4 : 1000 < cn
  · go_enter Tryd.func4, Tryd.ntmps4
    go_wp2_with fail
    refine (few_no2 _ _ nn cn _ _ _ (by omega) h4).mono ?_
    rintro e w1 ⟨rfl, rfl⟩
    go_wp2_with fail
    go_ret
    exact ⟨rfl, Fr.refl _ _⟩
  go_enter Tryd.func4, Tryd.ntmps4
  go_wp2_with fail
  refine (few_yes _ _ nn cn _ _ _ (by omega) (by omega)).mono ?_
  rintro e w1 ⟨rfl, rfl⟩
  go_wp2_with fail
  refine (nodes_any nb no nn ncap 0 0 0 0 num (fun _ => 0) na none w hnc (by omega) HNUM.out HNA.out (fun h => absurd h (by omega)) HNUMS.out (fun i hi => absurd hi (by omega))).mono ?_
  rintro e w1 ⟨lb, N, cap, nd, dv, t, rfl, hcap1, hcap2, hf1, hN⟩
  have hn1 := hN.n1
  have hn2 := hN.n2
  have HN := Lib.hid hN
  clear hN
  go_upto_region 6 with (fail)
  go_cut [39, 40, 41] from 35 to 41 (fun s39 s40 s41 w2 => w1 = w2 ∧ s39 = .slice ca (min cn 16 : Nat) ccap ∧ s40 = .int .i64 ((min cn 16 : Nat) : Int) ∧ s41 = .int .i64 0)
  case first =>
    by_cases h16 : 16 < cn
    · have hm : min cn 16 = 16 := by omega
      have hmI : ¬ (cn : Int) ≤ 16 := by omega
      have hmI2 : (16 : Int) ≤ (cn : Int) := by omega
      have hmI3 : (16 : Int) ≤ (ccap : Int) := by omega
      have HM := Lib.hid hm
      clear hm
      obtain rfl := HCA.out (by omega)
      go_wp2_with fail
      go_meet
      case rel => exact ⟨rfl, by rw [HM.out], by rw [HM.out]; rfl, rfl⟩
    · have hm : min cn 16 = cn := by omega
      have hmI : (cn : Int) ≤ 16 := by omega
      have hmI3 : (cn : Int) ≤ (ccap : Int) := by omega
      have HM := Lib.hid hm
      clear hm
      by_cases h0 : 0 < cn
      · obtain rfl := HCA.out h0
        go_wp2_with fail
        go_meet
        case rel => exact ⟨rfl, by rw [HM.out], by rw [HM.out], rfl⟩
      · obtain rfl : cn = 0 := by omega
        go_wp2_with fail
        go_meet
        case rel => exact ⟨rfl, by rw [HM.out], by rw [HM.out]; rfl, rfl⟩
  case rest =>
  obtain ⟨rfl, rfl, rfl, rfl⟩ := hcut
  generalize hm : min cn 16 = m at *
  have hmn : m ≤ cn ∧ m ≤ 16 := by omega
  clear hm
  go_upto_block 0 with (fail)
  go_cut [] from 42 to 52 (fun w2 => ∃ f, Fr [lb] w1 w2 ∧ NdRow w2 lb N (rootSet nd f (nd 0).cr (nd 0).md) dv)
  case first =>
    go_wp2_with fail
    go_loopw [41] (fun s41 wr => ∃ (j : Nat) (f : Nat → UInt8), j ≤ m ∧ s41 = .int .i64 j ∧ Fr [lb] w1 wr ∧ NdRow wr lb N (rootSet nd f (nd 0).cr (nd 0).md) dv) (fun s41 _ => m - (intOf s41).toNat)
    case atStart =>
      refine ⟨0, (nd 0).cls, by omega, rfl, Fr.refl _ _, ?_⟩
      rw [show rootSet nd (nd 0).cls (nd 0).cr (nd 0).md = nd from funext (rootSet_self nd)]
      exact HN.out.row
    case round =>
      obtain ⟨j, f, hj, rfl, hfl, hrow⟩ := hrel
      by_cases hlt : j < m
      · obtain rfl := HCA.out (by omega)
        have cc : wr.cell? ⟨cb, co + j, none⟩ = some (U8 (cl j)) := by
          have h0 := HCLS.out j (by omega)
          refine hfl.cell (fun hx => ?_) (hf1.cell0 h0)
          have e : cb = lb := by simpa using hx
          have := World.block_lt_of_cell? _ _ h0
          have := HN.out.lbb
          simp at *
          omega
        generalize cl j = y at *
        have zz := hrow.frozen (6 + j)
        obtain ⟨u, hu⟩ : ∃ u, wr.cell? ⟨lb, 6 + j, none⟩ = some u := by
          have := hrow.cell (k := 0) (j := 6 + j) (by omega) (by omega)
          rw [Nat.zero_mul, Nat.zero_add] at this
          rw [this, List.getElem?_eq_getElem (by rw [ndCells_length]; omega)]
          exact ⟨_, rfl⟩
        have hnext : NdRow (wr.setCell ⟨lb, 6 + j, none⟩ (U8 y)) lb N (rootSet nd (fun i => if i = j then y else f i) (nd 0).cr (nd 0).md) dv := by
          have := hrow.put 0 (6 + j) (U8 y) (rootSet nd (fun i => if i = j then y else f i) (nd 0).cr (nd 0).md) dv (fun x hx => ⟨by unfold rootSet; rw [if_neg hx, if_neg hx], rfl⟩)
            (by rw [nd_setCls _ _ j y (by omega)]; rfl) (by omega)
          rwa [Nat.zero_mul, Nat.zero_add] at this
        have HROW := Lib.hid hnext
        clear hnext hrow
        go_wp2_with fail
        go_roundw
        case rel => exact ⟨j + 1, _, by omega, by go_num, hfl.setCell (.inl (by simp)) _, HROW.out⟩
        case measure => simp [intOf]; omega
      · obtain rfl : j = m := by omega
        go_wp2_with fail
        go_meet
        case rel => exact ⟨f, hfl, hrow⟩
  case rest =>
  obtain ⟨f, hfl, hrow⟩ := hcut
  have k26 : wc.cell? ⟨lb, 26, none⟩ = some (.int .u64 (nd 0).cr) := (hrow.cell (k := 0) (j := 26) (by omega) (by omega)).trans rfl
  have k27 : wc.cell? ⟨lb, 27, none⟩ = some (.int .u64 (nd 0).md) := (hrow.cell (k := 0) (j := 27) (by omega) (by omega)).trans rfl
  have z26 := hrow.frozen 26
  have z27 := hrow.frozen 27
  have hr26 : NdRow (wc.setCell ⟨lb, 26, none⟩ (.int .u64 cr)) lb N (rootSet nd f cr (nd 0).md) dv := hrow.put 0 26 (.int .u64 cr) (rootSet nd f cr (nd 0).md) dv (fun x hx => ⟨by unfold rootSet; rw [if_neg hx, if_neg hx], rfl⟩) rfl (by omega)
  have hr27 : NdRow ((wc.setCell ⟨lb, 26, none⟩ (.int .u64 cr)).setCell ⟨lb, 27, none⟩ (.int .u64 md)) lb N (rootSet nd f cr md) dv := hr26.put 0 27 (.int .u64 md) (rootSet nd f cr md) dv (fun x hx => ⟨by unfold rootSet; rw [if_neg hx, if_neg hx], rfl⟩) rfl (by omega)
  have hfl2 : Fr [lb] w1 ((wc.setCell ⟨lb, 26, none⟩ (.int .u64 cr)).setCell ⟨lb, 27, none⟩ (.int .u64 md)) := (hfl.setCell (.inl (by simp)) _).setCell (.inl (by simp)) _
  have hN2 := HN.out.rootSet f cr md HCR.out HMD.out hfl2 hr27
  have hfw2 : Fr [] w ((wc.setCell ⟨lb, 26, none⟩ (.int .u64 cr)).setCell ⟨lb, 27, none⟩ (.int .u64 md)) := hf1.trans1 hfl2 HN.out.lbb
  have HN2 := Lib.hid hN2
  have HF2 := Lib.hid hfw2
  clear hN2 hfw2 hfl2 hr27 hr26 hrow hfl hf1
  go_upto_region 12 with (fail)
  clear k26 k27 z26 z27
  generalize (wc.setCell ⟨lb, 26, none⟩ (.int .u64 cr)).setCell ⟨lb, 27, none⟩ (.int .u64 md) = w2 at *
  go_wp2_with fail
  have hst : step ≤ 300 := by omega
  have hwr := write_a lb cap ⟨N, rootSet nd f cr md, four, step⟩ dv w2 (HN2.out.ok _ _) (HN2.out.nds _ _) ⟨hcap1, hcap2⟩ hst
  have hver : (Lay.mk N (rootSet nd f cr md) four step).ver = if four = true then 4 else 3 := rfl
  have hLN : (Lay.mk N (rootSet nd f cr md) four step).N = N := rfl
  have hLS : (Lay.mk N (rootSet nd f cr md) four step).step = step := rfl
  have hLnd : (Lay.mk N (rootSet nd f cr md) four step).nd = rootSet nd f cr md := rfl
  rw [hver, hLN, hLS] at hwr
  generalize (Lay.mk N (rootSet nd f cr md) four step) = L at *
  generalize hv : (if four = true then 4 else 3) = ver at *
  have HV := Lib.hid hv
  have HWR := Lib.hid hwr
  have HL := Lib.hid (And.intro hLnd hLN)
  clear hwr hver hLN hLS hLnd hv
  refine (version_is four ver HV.out _).mono ?_
  rintro e w3 ⟨rfl, rfl⟩
  go_wp2_with fail
  refine HWR.out.mono ?_
  rintro e w3 ⟨ob, F, fat, mfat, W, rfl, hf3, hob, hB, hW⟩
  have HW := Lib.hid hW
  clear hW
  by_cases hbig : 131072 < L.bytes
  · have hd : (131072 : Int) < (L.bytes : Int) := by omega
    go_wp2_with fail
    go_ret
    exact ⟨rfl, HF2.out.trans0 hf3⟩
  · have hd : ¬ (131072 : Int) < (L.bytes : Int) := by omega
    obtain ⟨hLO, hFO⟩ := HN2.out.file HL.out HW.out (by omega)
    have hL1 := hLO.n1
    have hLN := HW.out.N_le hLO (by omega)
    have hEF := HW.out.ent_flds hLO (by omega) 0 (by omega) (by omega)
    have hfw := HF2.out.trans0 hf3
    have hrt := root_ok ob 0 L.bytes L.bytes L.sz (L.cnt 0) L.mn (L.cnt 2) F (L.chn 0) (L.chn 1) (L.chn 2) L.EP t.toTr w3 (fun i hi => by rw [Nat.zero_add]; exact (Blk.cell hB i).trans (tab_get _ _ _ hi)) hFO (by omega)
      (fun i a b => hfw.cell0 (HP.out i a b)) (Nat.lt_of_lt_of_le h2w hfw.size) (by rw [NT.toTr_order, HN2.out.tree.len]; omega) (by rw [NT.toTr_order]; obtain ⟨os, ho⟩ := HN2.out.tree.head; rw [ho]; rfl) (by omega)
    have hG1 : (guidA fun j => entB F L.sz (L.chn 0) 0 (80 + j)) = guidA f := by
      unfold guidA
      congr 1
      exact tab_congr (fun i hi => by show U8 (entB F L.sz (L.chn 0) 0 (80 + i)) = U8 (f i); rw [hEF.cls i hi, HL.out.1]; rfl)
    have hG2 : fld (entB F L.sz (L.chn 0) 0) 100 8 = cr := by rw [hEF.cr, HL.out.1]; rfl
    have hG3 : fld (entB F L.sz (L.chn 0) 0) 108 8 = md := by rw [hEF.md, HL.out.1]; rfl
    rw [hG1, hG2, hG3] at hrt
    have HRT := Lib.hid hrt
    have hrow3 := HN2.out.row.fr hf3 (by simp)
    have HFW := Lib.hid hfw
    have HROW := Lib.hid hrow3
    clear hrt hG1 hG2 hG3 hEF hFO hfw hrow3 hB
    go_wp2_with fail
    refine HRT.out.mono ?_
    rintro e w4 ⟨hf4, rfl⟩
    have hrow4 := HROW.out.fr hf4 (by simp)
    have hone := guidA_one f
    have hgsz := guidA_size f
    obtain ⟨gA, hgA⟩ : ∃ x, x = guidA f := ⟨_, rfl⟩
    rw [← hgA] at hone hgsz ⊢
    have HGA := Lib.hid hgA
    have HGS := Lib.hid hgsz
    clear hgA hgsz
    go_wp2_with (refine wpList_store_blk rfl 36 (.tmp 17) (.tmp 73) rfl w4.heap.size 0 gA rfl rfl 36 _ (Blk.new' w4 36 _) ?_ ?_ hone ?_)
    · rw [HGS.out]; simp
    · rw [HGS.out]; kernel_rfl
    · intro w5 hf5 hb5
      have e3 := splice_whole (List.replicate 16 (Value.int .u8 0)) gA.toList (by have := HGS.out; simp; omega)
      have hb6 : Blk w5 w4.heap.size 36 gA.toList := by rw [← e3]; exact hb5
      have hff : Fr [] w4 w5 := ((Fr.refl [] w4).alloc _).trans hf5 (by simp)
      have hrow5 := hrow4.fr hff (by simp)
      have hfin : Fr [] w w5 := (HFW.out.trans0 hf4).trans0 hff
      have HFIN := Lib.hid hfin
      clear e3 hb5 hff hf5 hfin hrow4 hf4
      have hq : ∀ w, (binOp .eql 36 (.agg gA) (.agg gA)).run Tryd.prog w = .ok (.bool true) w := fun w => run_eql_bytes w 36 16 Tryd.underlying36 gA (fun i hi => by rw [HGA.out]; exact tab_u8 16 f i hi)
      have hq2 : ∀ w, (Op.equalIn 10000 36 (.agg gA) (.agg gA)).run Tryd.prog w = .ok true w := fun w => run_equalIn_bytes w 36 16 Tryd.underlying36 gA (fun i hi => by rw [HGA.out]; exact tab_u8 16 f i hi)
      have hl1 : ∀ w', (∀ p, w'.cell? p = w5.cell? p) → (loadVar 36 ⟨w4.heap.size, 0, none⟩).run Tryd.prog w' = .ok (.agg gA) w' := by
        intro w' hw
        have := run_loadVar_mid (P := Tryd.prog) w' w4.heap.size 0 36 gA.toList _ (fun j v hj => by rw [hw, Nat.zero_add, hb6.cell]; exact hj) Tryd.underlying36 rfl (by rw [Array.length_toList, HGS.out]; kernel_rfl)
        simpa using this
      have hl2 : ∀ w', (∀ p, w'.cell? p = w5.cell? p) → (loadVar 36 ⟨lb, 6, none⟩).run Tryd.prog w' = .ok (.agg gA) w' := by
        intro w' hw
        have := run_loadVar_mid (P := Tryd.prog) w' lb 6 36 gA.toList _ (fun j v hj => by
          rw [hw]
          have hj16 : j < 16 := by have := (List.getElem?_eq_some_iff.1 hj).1; rw [Array.length_toList, HGS.out] at this; exact this
          have h1 := hrow5.cell (k := 0) (j := 6 + j) (by omega) (by omega)
          rw [Nat.zero_mul, Nat.zero_add] at h1
          rw [h1, ← hj, HGA.out]
          unfold ndCells guidA
          rw [List.append_assoc, List.append_assoc, List.getElem?_append_right (by simp)]
          simp only [List.length_cons, List.length_nil]
          rw [show 6 + j - (0 + 1 + 1 + 1 + 1 + 1 + 1) = j by omega, List.getElem?_append_left (by simp; omega)]
          rfl) Tryd.underlying36 rfl (by rw [Array.length_toList, HGS.out]; kernel_rfl)
        simpa using this
      have HL1 : ∀ w', (∃ n, w' = w5.drewN n) → (loadVar 36 ⟨w4.heap.size, 0, none⟩).run Tryd.prog w' = .ok (.agg gA) w' := fun w' hw => by obtain ⟨n, rfl⟩ := hw; exact hl1 _ (fun _ => rfl)
      have HL2 : ∀ w', (∃ n, w' = w5.drewN n) → (loadVar 36 ⟨lb, 6, none⟩).run Tryd.prog w' = .ok (.agg gA) w' := fun w' hw => by obtain ⟨n, rfl⟩ := hw; exact hl2 _ (fun _ => rfl)
      have HLA := Lib.hid HL1
      have HLB := Lib.hid HL2
      clear hl1 hl2 hrow5 hb6 HL1 HL2
      go_upto_region 16 with (fail)
      refine wp_region_quiet_lit (by kernel_rfl) (by kernel_rfl) ?_
      iterate 3 (go_big_quiet_step (fail))
      go_big_quiet_want
      refine quiet_load 36 (.tmp 17) rfl w4.heap.size 0 rfl gA HLA.out ?_
      go_frame
      go_big_quiet_on
      iterate 3 (go_big_quiet_step (fail))
      go_big_quiet_want
      refine quiet_load 36 (.tmp 83) rfl lb 6 rfl gA HLB.out ?_
      go_frame
      go_big_quiet_on
      repeat (go_big_quiet_step (fail))
      refine wpQuiet_nil ?_
      intro _ hw'
      obtain ⟨nq, hw''⟩ := hw'
      subst hw''
      go_wp2_with fail
      go_ret
      exact ⟨rfl, HFIN.out.drewN _⟩
end Go.Proofs.YtokpomdfgbbhlaaDoor

/- FnRoot: a file as a whole has the class and the times of its root, for every numbers, class, times, version and step. -/
namespace Go.Proofs.YtokpomdfgbbhlaaDoor
open Go Go.ChangeShapes Go.WideShapes Go.ChangeAt Go.RowKit Go.Clock

theorem wf_u32 {n : Int} (h : (Lit.int .u32 n).wf = true) : 0 ≤ n ∧ n ≤ 4294967295 := by simpa [Lit.wf, IntKind.min, IntKind.max, IntKind.signed, IntKind.bits] using h
theorem wf_u64 {n : Int} (h : (Lit.int .u64 n).wf = true) : 0 ≤ n ∧ n ≤ 18446744073709551615 := by simpa [Lit.wf, IntKind.min, IntKind.max, IntKind.signed, IntKind.bits] using h
theorem wf_u8 {n : Int} (h : (Lit.int .u8 n).wf = true) : 0 ≤ n ∧ n ≤ 255 := by simpa [Lit.wf, IntKind.min, IntKind.max, IntKind.signed, IntKind.bits] using h
theorem u8_cell {n : Int} (h : (Lit.int .u8 n).wf = true) : Value.int .u8 n = U8 (UInt8.ofNat n.toNat) := by
  have := wf_u8 h
  unfold U8
  congr 1
  simp
  omega

theorem rootTs : ∀ t ∈ Tryd.f4.params.toList, Tryd.prog.readableRec t = true ∧ t < Tryd.prog.types.size := by
  have h : (Tryd.f4.params.toList.all fun t => Tryd.prog.readableRec t && decide (t < Tryd.prog.types.size)) = true := by kernel_rfl
  intro t ht
  have := List.all_eq_true.1 h t ht
  simpa using this

set_option maxRecDepth 100000 in
theorem root_contract (H : Type) (enc : TypeId × Value → H) (W : World) (base : Nat) (args : Array Value) (ds gs : List (DataW H)) (before : List MemPlace)
    (hval : ∀ (j : Nat) t v, Tryd.f4.params[j]? = some t → args[j]? = some v → Value.okWide Tryd.prog W .any base t v)
    (hW : DataW.Whole enc Tryd.prog Tryd.f4.params.toList Rows.fnRootSpec.vars false W args.toList ds gs before) (hL : laidMet Tryd.prog Rows.fnRootRow.laid W) :
    Calls Tryd.prog 4 args W fun e W' => ∃ v, e = .returned v ∧ Rows.fnRootSpec.post enc Tryd.prog Tryd.f4 false true false false W args v W' ∧ W'.os = W.os := by
  have hp := props_head hL
  have h2w : 2 < W.heap.size := World.block_lt_of_cell? _ _ (hp 65 (by omega) (by omega))
  have hW' := hW
  obtain ⟨p, q, hA0, hV, rfl, hfz, hnd⟩ := hW
  have hA : DataW.TrodAll enc Tryd.prog W 0 (fun _ => true) true Tryd.f4.params.toList args.toList ds p := hA0
  rw [Tryd.params4] at hA hval
  obtain ⟨v0, vs0, d0, ds0, p0, q0, hargs, rfl, rfl, h0, r0⟩ := trodAll_cons hA
  obtain ⟨v1, vs1, d1, ds1, p1, q1, rfl, rfl, rfl, h1, r1⟩ := trodAll_cons r0
  obtain ⟨v2, vs2, d2, ds2, p2, q2, rfl, rfl, rfl, h2, r2⟩ := trodAll_cons r1
  obtain ⟨v3, vs3, d3, ds3, p3, q3, rfl, rfl, rfl, h3, r3⟩ := trodAll_cons r2
  obtain ⟨v4, vs4, d4, ds4, p4, q4, rfl, rfl, rfl, h4, r4⟩ := trodAll_cons r3
  obtain ⟨v5, vs5, d5, ds5, p5, q5, rfl, rfl, rfl, h5, r5⟩ := trodAll_cons r4
  obtain ⟨rfl, rfl, rfl⟩ := trodAll_nil r5
  obtain rfl : args = #[v0, v1, v2, v3, v4, v5] := by cases args; simp_all
  obtain ⟨rfl, rfl⟩ := trodVars_none hV
  obtain ⟨na, nn, ncap, nb, no, num, rfl, hnc, hna, hnums, hnw⟩ := open_sl Tryd.underlying22 Tryd.underlying63 rcells63 (hval 0 22 v0 rfl rfl) h0
  obtain ⟨ca, cn, ccap, cb, co, cl, rfl, hcc, hca, hcls, hcw⟩ := open_sl Tryd.underlying23 Tryd.underlying5 rcells5 (hval 1 23 v1 rfl rfl) h1
  obtain ⟨cr, rfl, rfl, rfl, wcr⟩ := open_int Tryd.underlying38 (hval 2 38 v2 rfl rfl) h2
  obtain ⟨md, rfl, rfl, rfl, wmd⟩ := open_int Tryd.underlying38 (hval 3 38 v3 rfl rfl) h3
  obtain ⟨four, rfl, rfl, rfl⟩ := open_bool Tryd.underlying4 (hval 4 4 v4 rfl rfl) h4
  obtain ⟨st, rfl, rfl, rfl, wst⟩ := open_int Tryd.underlying5 (hval 5 5 v5 rfl rfl) h5
  clear hA0 hval
  simp only [List.append_nil] at hW'
  obtain ⟨crN, rfl⟩ := Int.eq_ofNat_of_zero_le (wf_u64 wcr).1
  obtain ⟨mdN, rfl⟩ := Int.eq_ofNat_of_zero_le (wf_u64 wmd).1
  obtain ⟨stN, rfl⟩ := Int.eq_ofNat_of_zero_le (wf_u8 wst).1
  have hcr := (wf_u64 wcr).2
  have hmd := (wf_u64 wmd).2
  have hst := (wf_u8 wst).2
  refine (rootlaw_any nb no nn ncap cb co cn ccap crN mdN (fun i => (num i).toNat) (fun i => UInt8.ofNat (cl i).toNat) na ca four stN W (by omega) hnc hcc
    (fun i => by have := wf_u32 (hnw i); omega) hna hca (fun i hi => by rw [hnums i hi]; have := wf_u32 (hnw i); congr 2; omega) (fun i hi => by rw [hcls i hi, u8_cell (hcw i)]) (by omega) (by omega) hp h2w).mono ?_
  rintro e W' ⟨rfl, hf⟩
  exact ⟨_, rfl, post_law rfl (by kernel_rfl) rootTs rfl hW' hf.below, hf.os⟩

noncomputable def rootWorld (os : Os) : World := World.laidAll Tryd.prog os Rows.fnRootRow.laid
def rootArgs : Array Value := #[.slice none 0 0, .slice none 0 0, .int .u64 0, .int .u64 0, .bool false, .int .u8 0]
theorem root_met (os : Os) : laidMet Tryd.prog Rows.fnRootRow.laid ((rootWorld os).forCall (fun _ _ => 0) ⟨#[], rootArgs, []⟩).memory :=
  laidMet_laidAll _ (by kernel_rfl) (by kernel_rfl)
theorem root_reads (os : Os) {H : Type} (enc : TypeId × Value → H) : ∃ places, DataW.whole enc Tryd.prog ((rootWorld os).forCall (fun _ _ => 0) ⟨#[], rootArgs, []⟩).memory Tryd.f4.params.toList Rows.fnRootSpec.vars false rootArgs.toList 8 =
    some ([.nil, .nil, .lit (.int .u64 0), .lit (.int .u64 0), .lit (.bool false), .lit (.int .u8 0)], [], places) :=
  ⟨[], by kernel_rfl⟩

set_option maxRecDepth 100000 in
theorem root_lifted (os : Os) (started : os.Started) (H : Type) (enc : TypeId × Value → H) (F : Stop.Interp) :
    ReturnsInHanded {} Tryd.checked os 4 .any ((OpenSpec.ofChange Rows.fnRootSpec).preRow enc Tryd.prog Tryd.f4 Rows.fnRootRow.domain false Rows.fnRootRow.laid) (((OpenSpec.ofChange Rows.fnRootSpec).at F).post enc Tryd.prog Tryd.f4 false true false false) := by
  obtain ⟨places, hx⟩ := root_reads os enc
  refine returnsInHanded_of_row (C := Tryd.checked) (s := OpenSpec.ofChange Rows.fnRootSpec) own started (by kernel_rfl) Tryd.func4
    (witness_row_at (enc := enc) (C := Tryd.checked) false (rootWorld os) rootArgs rfl (by kernel_rfl) (by kernel_rfl) (by kernel_rfl)
      (OpenSpec.preRow_of_cond 8 hx (by kernel_rfl) (fun k hk => by cases hk) (by kernel_rfl) (root_met os))) ?_
  intro W base args ds gs before hval hW _ _ _ hL _ _
  refine (root_contract H enc W base args ds gs before hval hW hL).mono ?_
  rintro e W' ⟨v, he, hpost, _⟩
  exact ⟨v, he, hpost⟩

set_option maxRecDepth 100000 in
theorem root_lifted2 (os : Os) (started : os.Started) (H : Type) (enc : TypeId × Value → H) (F : Stop.Interp) :
    ReturnsInHanded { calm := true } Tryd.checked os 4 .any (fun w args => (Rows.fnRootSpec.pre enc Tryd.prog Tryd.f4 [] false w args ∧ laidMetH Tryd.prog Rows.fnRootRow.laid w) ∧ sizedMet enc Tryd.prog Tryd.f4 (OpenSpec.ofChange Rows.fnRootSpec) false w args)
      ((OpenSpec.ofChange Rows.fnRootSpec).postWith enc Tryd.prog Tryd.f4 F (outsideKept [.timePasses]) false true false) := by
  refine returns_of_change (C := Tryd.checked) (X := fun w _ => laidMetH Tryd.prog Rows.fnRootRow.laid w) (fun _ _ _ hh h => h.of_heap hh) own started (by kernel_rfl) Tryd.func4
    (witness_at (enc := enc) (C := Tryd.checked) (X := fun w _ => laidMetH Tryd.prog Rows.fnRootRow.laid w) (World.laidAll Tryd.prog os Rows.fnRootRow.laid) rootArgs 8 (World.laidAll_os _ _ _) (World.shaped_of_ZipB (by kernel_rfl) (by kernel_rfl)) (by kernel_rfl) (by kernel_rfl) (by kernel_rfl)
      (by rw [MakeChecks.laidMetH_plain _ _ _ (by kernel_rfl)]; exact laidMet_laidAll _ (by kernel_rfl) (by kernel_rfl))) ?_
  intro W base args ds gs before hval hW _ _ hL _
  rw [MakeChecks.laidMetH_plain _ _ _ (by kernel_rfl)] at hL
  refine (root_contract H enc W base args ds gs before hval hW hL).mono ?_
  rintro e W' ⟨v, he, hpost, ho⟩
  have hos : { W' with os := W.os } = W' := by rw [← ho]
  refine ⟨v, he, ?_, by rw [ho]; exact Later.refl _⟩
  rw [hos]
  exact hpost

theorem root_said : Rows.FnRootSaid := by
  first
    | exact OpenClaim.holds_of_cond 4 Tryd.f4 rfl rfl rfl rfl rfl rfl rfl ⟨rfl, rfl, rfl, rfl, rfl⟩ rfl rfl rfl rfl rfl (by kernel_rfl) Tryd.func4 (by kernel_rfl)
        (of_decide_eq_true (by kernel_rfl)) (by unfold Func.isWrapper; first | (rw [if_pos (by decide +kernel)]; kernel_rfl) | (rw [if_neg (by decide +kernel)]; exact ⟨rfl, rfl⟩))
        (fun os started H enc _ F => by rw [OpenClaim.pre_eq_preRow]; exact root_lifted os started H enc F)
    | exact holds_of_wide_time 4 Tryd.f4 rfl rfl rfl rfl rfl rfl rfl ⟨rfl, rfl, rfl, rfl, rfl⟩ rfl rfl rfl rfl rfl (by kernel_rfl) Tryd.func4 (by kernel_rfl)
        (of_decide_eq_true (by kernel_rfl)) (by unfold Func.isWrapper; first | (rw [if_pos (by decide +kernel)]; kernel_rfl) | (rw [if_neg (by decide +kernel)]; exact ⟨rfl, rfl⟩))
        (fun os started H enc _ F => root_lifted2 os started H enc F)

theorem root_plain (f : FuncId) (fn : Func) (hf : Tryd.pinned.checked.prog.funcNamed "loop.example/pub-g03458/laws.FnRoot" = some f) (hfn : Tryd.pinned.checked.prog.funcs[f]? = some fn) :
    true = Tryd.pinned.checked.prog.looks [] ∧ ∀ (j : Nat) t, fn.params[j]? = some t → Tryd.pinned.checked.prog.wantsStandIn t = false := by
  obtain rfl : f = 4 := Option.some.inj ((show Tryd.prog.funcNamed "loop.example/pub-g03458/laws.FnRoot" = some 4 by kernel_rfl).symm.trans hf) |>.symm
  obtain rfl : fn = Tryd.f4 := (Option.some.inj (Tryd.func4.symm.trans hfn)).symm
  refine ⟨by kernel_rfl, fun j t ht => ?_⟩
  have h : (Tryd.f4.params.toList.all fun t => !Tryd.prog.wantsStandIn t) = true := by kernel_rfl
  have := List.all_eq_true.1 h t (by simpa using Array.mem_of_getElem? ht)
  exact (show Tryd.prog.wantsStandIn t = false by simpa using this)

theorem root_card : Rows.FnRootCardSaid :=
  Claim7.holds_tied_plain_at .later [] _ _ _ _ root_said (fun _ h => by cases h) (by kernel_rfl) (fun _ h => by cases h) fnRoot_row_tie rfl ⟨rfl, rfl⟩ (by kernel_rfl) rfl root_plain (by kernel_rfl)
end Go.Proofs.YtokpomdfgbbhlaaDoor
#print axioms Go.Proofs.YtokpomdfgbbhlaaDoor.root_card

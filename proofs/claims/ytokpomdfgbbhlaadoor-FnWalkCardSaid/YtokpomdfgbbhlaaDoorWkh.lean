/- FnWalk: a file is gone through entry by entry, each read by pieces from its beginning, and behind the last one is the end (part 8 of 15). No condition but the statement's own. -/
import Derived.Stop.Asserts
import Derived.Test.YtokpomdfgbbhlaaDoorWkg
set_option linter.all false
set_option linter.unusedVariables false
set_option linter.unusedSimpArgs false
set_option linter.unnecessarySimpa false
/- The contract of New over a sound file. -/
namespace Go.Proofs.YtokpomdfgbbhlaaDoor
open Go Go.RowKit Go.Maps

/-- A reader stands in memory. -/
structure RdOK (w : World) (base rb sb : Nat) (F : Nat → UInt8) (ss m : Nat) (cs : Nat → Nat) (P : Nat → EntP) (t : Tr) (mn mm : Nat) (mf ms : Nat → Nat)
    (hb fb gb dg dcap ub ul uc : Nat) (fk dk : Nat → Nat) (pv : Nat → Value) (mfv msv : Value) : Prop where
  rb_ : base ≤ rb
  rd : Blk w rb 91 (rdCells ss (.slice (some ⟨ub, 0, none⟩) ul uc) (.pointer (some ⟨hb, 0, none⟩)) (.slice (some ⟨gb, 0, none⟩) t.order.length (m * (ss / 128))) (.slice (some ⟨dg, 0, none⟩) (m * (ss / 128)) dcap) 0 sb .nilIface)
  hd : Blk w hb 142 (hdCells fb (.slice (some ⟨fb, 45, none⟩) 109 109) mfv msv)
  hdb : base ≤ hb
  fd : Blk w fb 147 (hdrN F 109)
  files : ∀ i, i < t.order.length → w.cell? ⟨gb, i, none⟩ = some (.pointer (some ⟨fk (t.order.getD i 0), 0, none⟩))
  file : ∀ e, e < m * (ss / 128) → Blk w (fk e) 95 (flCells (P e).name (P e).init (pv e) (P e).size 0 (fld (entB F ss cs e) 116 4) 0 (dk e) rb)
  fileb : ∀ e, e < m * (ss / 128) → base ≤ fk e
  filei : ∀ a b, a < b → b < m * (ss / 128) → fk a < fk b
  ent : ∀ e, e < m * (ss / 128) → Blk w (dk e) 119 (tab 69 (dirL12 (entB F ss cs e)))
  path : ∀ q ∈ t.paths (fun e => (P e).name) [], PathIs w base (pv q.1) q.2
  mini : mn = 0 ∨ ∃ fb' sb' k, mfv = .slice (some ⟨fb', 0, none⟩) mn mn ∧ msv = .slice (some ⟨sb', 0, none⟩) mm k ∧ base ≤ fb' ∧ base ≤ sb' ∧ mm ≤ k ∧
    (∀ i, i < mn → w.cell? ⟨fb', i, none⟩ = some (.int .u32 (mf i : Nat))) ∧ (∀ i, i < mm → w.cell? ⟨sb', i, none⟩ = some (.int .u32 (ms i : Nat)))

theorem info5 : (Tryd.prog.info? 5).map (fun i => (i.zero, i.size, i.bytes)) = some (some (.int .u8 0), 1, 1) := by kernel_rfl
theorem make_buf (c : Nat) (h : c ≤ 1000000) (w : World) : (Instr.makeSlice 23 (.int .i64 c) (.int .i64 c)).run Tryd.prog w = .ok (.slice (some ⟨w.heap.size, 0, none⟩) c c) (w.alloc (.cells (tab c (fun _ => .int .u8 0)).toArray 5)) :=
  make_tab Tryd.underlying23 info5 rfl c c (Nat.le_refl _) (by omega) (by omega) w

theorem make_buf32 (w : World) : (Instr.makeSlice 23 (.int .u32 4096) (.int .u32 4096)).run Tryd.prog w = .ok (.slice (some ⟨w.heap.size, 0, none⟩) 4096 4096) (w.alloc (.cells (tab 4096 (fun _ => .int .u8 0)).toArray 5)) := by
  obtain ⟨i, h1, h2, h3, h4⟩ := info_parts info5
  have := run_make (P := Tryd.prog) w 23 5 i (.int .u8 0) Tryd.underlying23 h1 h2 .u32 .u32 4096 4096 (by omega) (by omega) (by rw [h4]; omega) (by omega)
  rw [this, h3]
  have h := madeCells_tab (.int .u8 0) 4096 rfl
  rw [show (4096 : Int).toNat = 4096 from rfl, h]

theorem as81_127 (v : Value) (w : World) : (Instr.typeAssert (.iface 81 v) 87 127 true).run Tryd.prog w = .ok (.tuple #[.nilIface, .bool false]) w := run_typeAssert_lacksB Tryd.underlying127 (by kernel_rfl) (by kernel_rfl) v 87 w

set_option maxRecDepth 100000 in
set_option maxHeartbeats 1000000 in
theorem new_ok (sb bb n cap ss m mn mm : Nat) (F : Nat → UInt8) (cs mf ms : Nat → Nat) (P : Nat → EntP) (t : Tr) (w : World) (hS : Src w sb bb n cap F) (hF : FileOK F n ss m cs P t mn mm mf ms)
    (hp : ∀ i, 65 ≤ i → i ≤ 90 → w.cell? ⟨2, i, none⟩ = some (.int .u8 160)) (h2w : 2 < w.heap.size) :
    Calls Tryd.prog 42 #[.iface 81 (.pointer (some ⟨sb, 0, none⟩))] w fun e w' =>
      ∃ (rb hb fb gb dg dcap ub ul uc : Nat) (fk dk : Nat → Nat) (pv : Nat → Value) (mfv msv : Value), e = .returned (.tuple #[.pointer (some ⟨rb, 0, none⟩), .nilIface]) ∧ Fr [] w w' ∧
        RdOK w' w.heap.size rb sb F ss m cs P t mn mm mf ms hb fb gb dg dcap ub ul uc fk dk pv mfv msv := by
  have hmk : ∀ w : World, (Instr.makeSlice 23 (.int .i64 512) (.int .i64 512)).run Tryd.prog w = .ok (.slice (some ⟨w.heap.size, 0, none⟩) 512 512) (w.alloc (.cells (tab 512 (fun _ => .int .u8 0)).toArray 5)) := make_buf 512 (by omega)
  go_enter Tryd.func42, Tryd.ntmps42
  have hta := as81_127
  go_upto_region 2 with (fail)
  have hf1 : Fr [] w (w.alloc (Obj.cells #[.bool false, .int .u32 0, .slice none 0 0, .pointer none, .slice none 0 0, .slice none 0 0, .int .i64 0, .iface 81 (.pointer (some ⟨sb, 0, none⟩)), .nilIface] 91)) := (Fr.refl _ _).alloc _
  have hrb1 := Blk.new' w 91 #[.bool false, .int .u32 0, .slice none 0 0, .pointer none, .slice none 0 0, .slice none 0 0, .int .i64 0, .iface 81 (.pointer (some ⟨sb, 0, none⟩)), .nilIface]
  generalize w.alloc (Obj.cells #[.bool false, .int .u32 0, .slice none 0 0, .pointer none, .slice none 0 0, .slice none 0 0, .int .i64 0, .iface 81 (.pointer (some ⟨sb, 0, none⟩)), .nilIface] 91) = w1 at *
  generalize hrb : w.heap.size = rb at *
  have hr1 : rb < w1.heap.size := hrb1.lt
  have c2 : w1.cell? ⟨rb, 2, none⟩ = some (.slice none 0 0) := hrb1.cell 2
  have z2 := hrb1.frozen 2
  have hba := (hrb1.alloc (Obj.cells (tab 512 (fun _ => Value.int .u8 0)).toArray 5))
  have c2a : (w1.alloc (Obj.cells (tab 512 (fun _ => Value.int .u8 0)).toArray 5)).cell? ⟨rb, 2, none⟩ = some (.slice none 0 0) := hba.cell 2
  have z2a := hba.frozen 2
  go_upto_region 6 with (fail)
  have hrb2 : Blk ((w1.setCell ⟨rb, 2, none⟩ (.slice (some ⟨w1.heap.size, 0, none⟩) 512 512)).alloc (Obj.cells (tab 512 (fun _ => Value.int .u8 0)).toArray 5)) rb 91 (rdCells 0 (.slice (some ⟨w1.heap.size, 0, none⟩) 512 512) (.pointer none) (.slice none 0 0) (.slice none 0 0) 0 sb .nilIface) := (hrb1.set 2 _).alloc _
  have hub2 := Blk.new (w1.setCell ⟨rb, 2, none⟩ (.slice (some ⟨w1.heap.size, 0, none⟩) 512 512)) 5 (tab 512 (fun _ => Value.int .u8 0))
  rw [show (w1.setCell ⟨rb, 2, none⟩ (.slice (some ⟨w1.heap.size, 0, none⟩) 512 512)).heap.size = w1.heap.size by simp] at hub2
  have hF2 : Fr [] w ((w1.setCell ⟨rb, 2, none⟩ (.slice (some ⟨w1.heap.size, 0, none⟩) 512 512)).alloc (Obj.cells (tab 512 (fun _ => Value.int .u8 0)).toArray 5)) := (hf1.setCell (p := ⟨rb, 2, none⟩) (.inr (by simp; omega)) _).alloc _
  have hwu : w.heap.size < w1.heap.size := by omega
  clear c2 z2 c2a z2a hba hrb1 hf1
  generalize (w1.setCell ⟨rb, 2, none⟩ (.slice (some ⟨w1.heap.size, 0, none⟩) 512 512)).alloc (Obj.cells (tab 512 (fun _ => Value.int .u8 0)).toArray 5) = w2 at *
  generalize w1.heap.size = ub at *
  go_wp2_with fail
  refine (setHeader_any rb sb bb n cap ub 512 ss F _ w2 (hS.fr0 hF2) hF.n0 hrb2 (by omega) hub2 (by simp) hF.hdr).mono ?_
  rintro e w3 ⟨rfl, hf3, hb, fb, hhb0, hfb0, hrb3, hhb3, hfb3, L3, hub3, hl3⟩
  have hF3 : Fr [] w w3 := hF2.trans hf3 (by simp; omega)
  have hhb0' : rb < hb := by have := hrb2.lt; omega
  clear hrb2 hub2 hf3
  go_upto_region 9 with (fail)
  have hss : ss = 512 ∨ ss = 4096 := by rcases hF.hdr.shift with h | h <;> simp [h.2]
  have HSs := Lib.hid hss
  have r0 : w3.cell? ⟨rb, 0, none⟩ = some (.bool false) := hrb3.cell 0
  have r1 : w3.cell? ⟨rb, 1, none⟩ = some (.int .u32 ss) := hrb3.cell 1
  have r2 : w3.cell? ⟨rb, 2, none⟩ = some (.slice (some ⟨ub, 0, none⟩) 512 512) := hrb3.cell 2
  have z2 := hrb3.frozen 2
  go_cut [50] from 33 to 49 (fun s50 w4 => Fr [] w3 w4 ∧ s50 = .bool (decide (512 < ss)))
  case first =>
    rcases hss with rfl | rfl
    · go_quiet (fail)
      go_wp2_with fail
      go_meet
      case rel => exact ⟨(Fr.refl _ _).drewN _, rfl⟩
    · go_quiet (fail)
      go_wp2_with fail
      go_meet
      case rel => exact ⟨(Fr.refl _ _).drewN _, rfl⟩
  case rest =>
  obtain ⟨hf4, rfl⟩ := hcut
  have hF4 := hF3.trans0 hf4
  have hrb4 := hrb3.fr0 hf4
  have hhb4 := hhb3.fr0 hf4
  have hfb4 := hfb3.fr0 hf4
  have hub4 := hub3.fr0 hf4
  have hru : rb ≠ ub := hrb3.ne hub3 (by decide)
  clear r0 r1 r2 z2 hrb3 hhb3 hfb3 hub3 hF3
  go_upto_if 50 with (fail)
  go_cut [] from 51 to 58 (fun w5 => Fr [] w w5 ∧ ∃ (ub ul uc : Nat) (L : List Value), ss ≤ ul ∧ ul ≤ uc ∧ uc ≤ 9223372036854775807 ∧ w.heap.size < ub ∧
    Blk w5 rb 91 (rdCells ss (.slice (some ⟨ub, 0, none⟩) ul uc) (.pointer (some ⟨hb, 0, none⟩)) (.slice none 0 0) (.slice none 0 0) 0 sb .nilIface) ∧
    Blk w5 hb 142 (hdCells fb (.slice none 0 0) (.slice none 0 0) (.slice none 0 0)) ∧ Blk w5 fb 147 (hdrN F 109) ∧ Blk w5 ub 5 L ∧ ss ≤ L.length)
  case first =>
    have r1 : wc.cell? ⟨rb, 1, none⟩ = some (.int .u32 ss) := hrb4.cell 1
    have r2 : wc.cell? ⟨rb, 2, none⟩ = some (.slice (some ⟨ub, 0, none⟩) 512 512) := hrb4.cell 2
    have z2 := hrb4.frozen 2
    rcases hss with rfl | rfl
    · go_wp2_with fail
      go_meet
      case rel => exact ⟨hF4, ub, 512, 512, L3, by omega, by omega, by omega, hwu, hrb4, hhb4, hfb4, hub4, by rw [hl3]; simp⟩
    · have hmk2 : ∀ w : World, (Instr.makeSlice 23 (.int .u32 4096) (.int .u32 4096)).run Tryd.prog w = .ok (.slice (some ⟨w.heap.size, 0, none⟩) 4096 4096) (w.alloc (.cells (tab 4096 (fun _ => .int .u8 0)).toArray 5)) := make_buf32
      have hba := (hrb4.alloc (Obj.cells (tab 4096 (fun _ => Value.int .u8 0)).toArray 5))
      have c2a : (wc.alloc (Obj.cells (tab 4096 (fun _ => Value.int .u8 0)).toArray 5)).cell? ⟨rb, 2, none⟩ = some (.slice (some ⟨ub, 0, none⟩) 512 512) := hba.cell 2
      have z2a := hba.frozen 2
      go_wp2_with fail
      go_meet
      case rel =>
        refine ⟨(hF4.alloc _).setCell (.inr (by simp; omega)) _, wc.heap.size, 4096, 4096, _, by omega, by omega, by omega, ?_, hba.set 2 _, (hhb4.alloc _).setOther (by simp; omega) _, (hfb4.alloc _).setOther (by have := hrb4.ne hfb4 (by decide); simpa using this) _, (Blk.new wc 5 (tab 4096 (fun _ => Value.int .u8 0))).setOther ?_ _, by simp⟩
        · have := hF4.size; have := hub4.lt; omega
        · have := hrb4.lt; simp; omega
  case rest =>
  clear hrb4 hhb4 hfb4 hub4 hF4 hmk hta
  obtain ⟨hF5, ub2, ul, uc, L5, hul1, hul2, hul3, hub0, hrb5, hhb5, hfb5, hub5, hL5⟩ := hcut
  have hbbl : bb < w.heap.size := World.block_lt_of_cell? w _ (hS.bytes 0 (by have := hF.n0; omega))
  have hsbl : sb < w.heap.size := World.block_lt_of_cell? w _ hS.sc
  have hrh : rb ≠ hb := hrb5.ne hhb5 (by decide)
  have hru5 : rb ≠ ub2 := hrb5.ne hub5 (by decide)
  have hhu5 : hb ≠ ub2 := hhb5.ne hub5 (by decide)
  have hfr5 : fb ≠ rb := hfb5.ne hrb5 (by decide)
  have hfh5 : fb ≠ hb := hfb5.ne hhb5 (by decide)
  have hfu5 : fb ≠ ub2 := hfb5.ne hub5 (by decide)
  have HP := Lib.hid hp
  clear hp
  go_wp2_with fail
  refine (setDifats_any rb hb fb F _ (hrb5.cell 3) hhb5 hfb5 hF.hdr.ndf hrh).mono ?_
  rintro e w6 ⟨rfl, hf6, hhb6⟩
  have hF6 : Fr [] w w6 := hF5.trans hf6 (by simp; omega)
  have hrb6 := hrb5.fr hf6 (by simpa using hrh)
  have hfb6 := hfb5.fr hf6 (by simpa using hfh5)
  have hub6 := hub5.fr hf6 (by simpa using hhu5.symm)
  clear hrb5 hhb5 hfb5 hub5 hf6 hF5
  go_wp2_with fail
  refine (setDir_any rb hb fb sb bb n cap ub2 ul uc ss F _ m cs P w6 (hS.fr0 hF6) hF.n1 HSs.out hrb6 ⟨hul2, hul3⟩ hul1 hhb6 hfb6 hub6 hL5 (by omega) (by omega) (fun i a b => hF6.cell0 (HP.out i a b)) (by omega) (by have := hF6.size; omega) hF.maj hF.dir hF.m1 hF.m2 hF.ent).mono ?_
  rintro e w7 ⟨rfl, hf7, fk, dk, v, hfi7, hmo7, hown7, hrb7, L7, hub7, hl7⟩
  have hF7 : Fr [] w w7 := hF6.trans hf7 (by simp; omega)
  have hE1 : 1 ≤ m * (ss / 128) := by
    have := HSs.out
    have h4 : 1 ≤ ss / 128 := by omega
    exact Nat.mul_le_mul hF.m1 h4
  obtain ⟨dg, dcap, dl, rfl, hdg0, hdg7, hdl⟩ := own_blk hown7 hE1
  have hhb7 := hhb6.fr hf7 (by simp; exact ⟨hrh.symm, hhu5⟩)
  have hfb7 := hfb6.fr hf7 (by simp; exact ⟨hfr5, hfu5⟩)
  have hs6 := hF6.size
  clear hrb6 hhb6 hfb6 hub6 hf7
  have hS7 := hS.fr0 hF7
  have hg0 : w7.cell? ⟨dg, 0, none⟩ = some (.pointer (some ⟨fk 0, 0, none⟩)) := (hdg7.cell 0).trans (hdl 0 (by omega))
  have hfile0 := hfi7 0 (by omega)
  have hmini : Calls Tryd.prog 52 #[.pointer (some ⟨rb, 0, none⟩)] w7 fun e w' => e = .returned .nilIface ∧ Fr [hb] w7 w' ∧ ∃ mfv msv, Blk w' hb 142 (hdCells fb (.slice (some ⟨fb, 45, none⟩) 109 109) mfv msv) ∧
      (mn = 0 ∨ ∃ fb' sb' k, mfv = .slice (some ⟨fb', 0, none⟩) mn mn ∧ msv = .slice (some ⟨sb', 0, none⟩) mm k ∧ w7.heap.size ≤ fb' ∧ w7.heap.size ≤ sb' ∧ mm ≤ k ∧
        (∀ i, i < mn → w'.cell? ⟨fb', i, none⟩ = some (.int .u32 (mf i : Nat))) ∧ (∀ i, i < mm → w'.cell? ⟨sb', i, none⟩ = some (.int .u32 (ms i : Nat)))) := by
    rcases hF.mini with ⟨h0, h1⟩ | ⟨a1, a2, a3, a4, a5, a6, a7, a8, a9⟩
    · refine (setMini_none rb hb fb ss dg (fk 0) (dk 0) (m * (ss / 128)) dcap F (entB F ss cs 0) _ _ _ _ _ _ _ sb w7 hrb7 hE1 hhb7 hfb7 hg0 (hfile0.2.2.1.cell 7) hfile0.2.2.2 h1).mono ?_
      rintro e w' ⟨rfl, rfl⟩
      exact ⟨rfl, Fr.refl _ _, _, _, hhb7, .inl h0⟩
    · refine (setMini_some rb hb fb sb bb n cap ss dg (fk 0) (dk 0) (m * (ss / 128)) dcap mn mm F (entB F ss cs 0) mf ms _ _ _ _ w7 hS7 HSs.out hrb7 hE1 hhb7 hfb7 hg0 (hfile0.2.2.1.cell 7) hfile0.2.2.2 (hdg7.ne hhb7 (by decide)) (hfile0.2.2.1.ne hhb7 (by decide)) (by omega) (by omega) a3 a4 a1 a2 a5 a6 a7 a8 a9).mono ?_
      rintro e w' ⟨rfl, b1, mfb, msb, k, b2, b3, b4, b5, b6, b7⟩
      exact ⟨rfl, b1, _, _, b2, .inr ⟨mfb, msb, k, rfl, rfl, b3, b4, b5, b6, b7⟩⟩
  have HM := Lib.hid hmini
  clear hmini hg0 hfile0
  go_wp2_with fail
  refine HM.out.mono ?_
  rintro e w8 ⟨rfl, hf8, mfv, msv, hhb8, hmm8⟩
  have hF8 : Fr [] w w8 := hF7.trans hf8 (by simp; omega)
  have hrb8 := hrb7.fr hf8 (by simpa using hrh)
  have hfb8 := hfb7.fr hf8 (by simpa using hfh5)
  have hdg8 := hdg7.fr hf8 (by simpa using hdg7.ne hhb7 (by decide))
  have hfile8 : ∀ e, e < m * (ss / 128) → Blk w8 (fk e) 95 (flCells (P e).name (P e).init (.slice none 0 0) (P e).size 0 (fld (entB F ss cs e) 116 4) 0 (dk e) rb) := fun e he => (hfi7 e he).2.2.1.fr hf8 (by simpa using (hfi7 e he).2.2.1.ne hhb7 (by decide))
  have hent8 : ∀ e, e < m * (ss / 128) → Blk w8 (dk e) 119 (tab 69 (dirL12 (entB F ss cs e))) := fun e he => (hfi7 e he).2.2.2.fr hf8 (by simpa using (hfi7 e he).2.2.2.ne hhb7 (by decide))
  have hinj : ∀ a b, a < m * (ss / 128) → b < m * (ss / 128) → fk a = fk b → a = b := by
    intro a b ha hb h
    rcases Nat.lt_trichotomy a b with h1 | h1 | h1
    · have := (hmo7 a b h1 hb).1; omega
    · exact h1
    · have := (hmo7 b a h1 ha).1; omega
  have hEmax : m * (ss / 128) ≤ 100000 := by
    have := HSs.out
    have := Nat.mul_le_mul hF.m2 (show ss / 128 ≤ 32 by omega)
    omega
  have hfkb : ∀ e, e < m * (ss / 128) → w6.heap.size ≤ fk e := fun e he => (hfi7 e he).1
  have hfk7 : ∀ e, e < m * (ss / 128) → fk e < w7.heap.size := fun e he => (hfi7 e he).2.2.1.lt
  have hr7 : rb < w7.heap.size := hrb7.lt
  have hs7 := hF7.size
  have HT := Lib.hid (traverse_any rb sb ub2 ul uc ss dg dcap (m * (ss / 128)) 0 (.pointer (some ⟨hb, 0, none⟩)) .nilIface (entB F ss cs) P fk dk t dl w8 hrb8 hdg8 hdl hfile8 hent8 hinj hF.t0 hF.t1 hF.t2 hF.t3 hEmax)
  clear hrb7 hhb7 hfb7 hdg7 hfi7 hS7
  go_wp2_with fail
  refine HT.out.mono ?_
  rintro e w9 ⟨rfl, hf9, gb, pv, hgb, hrb9, hfs9, hfile9, hent9, hpath9⟩
  go_wp2_with fail
  go_ret2
  have hord : ∀ e, e ∈ t.order → e < m * (ss / 128) := hF.t1.lt
  have hF9 : Fr [] w w9 := by
    refine hF8.trans hf9 ?_
    intro x hx
    simp only [List.mem_cons, List.mem_map] at hx
    rcases hx with rfl | ⟨e, he, rfl⟩
    · exact .inr (by omega)
    · have := hfkb e (hord e he)
      exact .inr (by omega)
  have hnot : ∀ (b : Nat) (S : TypeId) (l : List Value), Blk w8 b S l → S ≠ 91 → S ≠ 95 → b ∉ rb :: t.order.map fk := by
    intro b S l hb h1 h2 hm
    simp only [List.mem_cons, List.mem_map] at hm
    rcases hm with rfl | ⟨e, he, rfl⟩
    · exact hb.ne hrb8 h1 rfl
    · exact hb.ne (hfile8 e (hord e he)) h2 rfl
  refine ⟨rb, hb, fb, gb, dg, dcap, ub2, ul, uc, fk, dk, pv, mfv, msv, rfl, hF9, ?_⟩
  exact {
    rb_ := by omega
    rd := hrb9
    hd := hhb8.fr hf9 (hnot _ _ _ hhb8 (by decide) (by decide))
    hdb := by omega
    fd := hfb8.fr hf9 (hnot _ _ _ hfb8 (by decide) (by decide))
    files := hfs9
    file := hfile9
    fileb := fun e he => by have := hfkb e he; omega
    filei := fun a b h1 h2 => (hmo7 a b h1 h2).1
    ent := hent9
    path := fun q hq => by
      obtain ⟨b, cap, h1, h2, h3⟩ := hpath9 q hq
      exact ⟨b, cap, h1, by have := hF8.size; omega, h3⟩
    mini := by
      rcases hmm8 with h | ⟨fb', sb', k, h1, h2, h3, h4, h5, h6, h7⟩
      · exact .inl h
      · refine .inr ⟨fb', sb', k, h1, h2, by omega, by omega, h5, ?_, ?_⟩
        · intro i hi
          refine hf9.cell ?_ (h6 i hi)
          simp only [List.mem_cons, List.mem_map]
          rintro (h | ⟨e, he, h⟩)
          · omega
          · have := hfk7 e (hord e he); omega
        · intro i hi
          refine hf9.cell ?_ (h7 i hi)
          simp only [List.mem_cons, List.mem_map]
          rintro (h | ⟨e, he, h⟩)
          · omega
          · have := hfk7 e (hord e he); omega }
end Go.Proofs.YtokpomdfgbbhlaaDoor

/- The contract of opened over a sound file. -/
namespace Go.Proofs.YtokpomdfgbbhlaaDoor
open Go Go.RowKit Go.Maps

theorem code_nil (w : World) : Calls Tryd.prog 38 #[.nilIface] w fun e w' => e = .returned (.int .i64 0) ∧ w = w' := by
  go_enter Tryd.func38, Tryd.ntmps38
  go_wp2_with fail
  go_ret
  exact ⟨rfl, rfl⟩

set_option maxRecDepth 100000 in
set_option maxHeartbeats 1000000 in
theorem opened_ok (ab ao n ncap ss m mn mm : Nat) (F : Nat → UInt8) (cs mf ms : Nat → Nat) (P : Nat → EntP) (t : Tr) (w : World) (hB : ∀ i, i < n → w.cell? ⟨ab, ao + i, none⟩ = some (U8 (F i)))
    (hF : FileOK F n ss m cs P t mn mm mf ms) (hn : n ≤ 131072)
    (hp : ∀ i, 65 ≤ i → i ≤ 90 → w.cell? ⟨2, i, none⟩ = some (.int .u8 160)) (h2w : 2 < w.heap.size) :
    Calls Tryd.prog 27 #[.slice (some ⟨ab, ao, none⟩) n ncap] w fun e w' =>
      ∃ (base sb bb cap rb hb fb gb dg dcap ub ul uc : Nat) (fk dk : Nat → Nat) (pv : Nat → Value) (mfv msv : Value), e = .returned (.tuple #[.pointer (some ⟨rb, 0, none⟩), .pointer (some ⟨sb, 0, none⟩), .int .i64 0]) ∧ Fr [] w w' ∧
        w.heap.size ≤ bb ∧ w.heap.size ≤ sb ∧ bb < base ∧ sb < base ∧ bb ≠ sb ∧ Src w' sb bb n cap F ∧ RdOK w' base rb sb F ss m cs P t mn mm mf ms hb fb gb dg dcap ub ul uc fk dk pv mfv msv := by
  obtain ⟨i0, hi, hz0, hz1, hz2⟩ := info_parts info5
  have hn0 := hF.n0
  have hnI : decide ((131072 : Int) < n) = false := by simp; omega
  have hnN : decide (131072 < n) = false := by simp; omega
  go_enter Tryd.func27, Tryd.ntmps27
  go_wp2_with (at_builtin; refine wpList_append_own _ rfl _ (.tmp 11) 23 rfl w.heap.size 5 i0 (.int .u8 0) 1 1 Tryd.underlying23 hi hz0 hz1 hz2 rfl (by decide) (.slice none 0 0) 0 [] rfl (World.ownsRow_nil _ _ _ _) ⟨ab, ao, none⟩ n ncap (tab n (fun i => U8 (F i))) rfl ?c1 ?c2 ?c3 ?c4 ?c5 (Nat.le_refl _) ?c6)
  case c1 => simp
  case c2 =>
    intro j u hj
    rw [tab_get?] at hj
    split at hj
    · rename_i hjn
      simp at hj; subst hj
      rw [Addr.add_mid]
      exact hB j hjn
    · cases hj
  case c3 =>
    intro u hu
    obtain ⟨i, hi⟩ := List.getElem?_of_mem hu
    rw [tab_get?] at hi
    split at hi
    · simp at hi; subst hi; rfl
    · cases hi
  case c4 => unfold maxLen; omega
  case c5 => omega
  intro v' w1 hown hg _
  obtain ⟨bb, cap, l, rfl, hbb0, hbb, hbl, hc1, hc2⟩ := own_blk2 hown (by omega)
  have hf1 : Fr [] w w1 := Fr.of_grown hg
  have hbbl := hbb.lt
  have hw1 := hf1.size
  clear hown hg
  have hf2 : Fr [] w1 (w1.alloc (Obj.cells #[.slice (some ⟨bb, 0, none⟩) n cap] 113)) := (Fr.refl _ _).alloc _
  have hsb := Blk.new' w1 113 #[.slice (some ⟨bb, 0, none⟩) n cap]
  have hS2 : Src (w1.alloc (Obj.cells #[.slice (some ⟨bb, 0, none⟩) n cap] 113)) w1.heap.size bb n cap F :=
    ⟨hsb.cell 0, fun i hi => hf2.cell0 ((hbb.cell i).trans (hbl i hi)), hc1, hc2⟩
  have hcon := Lib.hid (new_ok w1.heap.size bb n cap ss m mn mm F cs mf ms P t _ hS2 hF (fun i a b => hf2.cell0 (hf1.cell0 (hp i a b))) (by have := hf2.size; omega))
  have hsz2 : (w1.alloc (Obj.cells #[.slice (some ⟨bb, 0, none⟩) n cap] 113)).heap.size = w1.heap.size + 1 := by simp
  clear hB hp
  go_wp2_with fail
  refine hcon.out.mono ?_
  rintro e w3 ⟨rb, hb, fb, gb, dg, dcap, ub, ul, uc, fk, dk, pv, mfv, msv, rfl, hf3, hR⟩
  go_wp2_with fail
  refine (code_nil _).mono ?_
  rintro e w4 ⟨rfl, rfl⟩
  go_wp2_with fail
  go_ret3
  exact ⟨_, w1.heap.size, bb, cap, rb, hb, fb, gb, dg, dcap, ub, ul, uc, fk, dk, pv, mfv, msv, rfl, (hf1.trans0 hf2).trans0 hf3, hbb0, hw1, by rw [hsz2]; omega, by rw [hsz2]; omega, by omega, hS2.fr0 hf3, hR⟩
end Go.Proofs.YtokpomdfgbbhlaaDoor

/- The contract of (*Reader).Read; of the code of the end. -/
namespace Go.Proofs.YtokpomdfgbbhlaaDoor
open Go Go.RowKit Go.Maps

/-- The error of a reading: none where all came, else the end. -/
def EofIs (c m : Nat) (ev ex : Value) : Prop := ex = if c = m then .nilIface else ev

set_option maxRecDepth 100000 in
set_option maxHeartbeats 1000000 in
theorem rread_any (gb n c k ss : Nat) (buf hdr dir wa : Value) (R : RB) (F : Nat → UInt8) (f pb m i dk ini len : Nat) (nm : ByteArray) (pv ev : Value) (dat : Nat → UInt8) (lb : List Value) (w : World)
    (hrb : Blk w R.rb 91 (rdCells ss buf hdr (.slice (some ⟨gb, 0, none⟩) n c) dir (k : Nat) R.sb wa)) (hk : k < n) (hn6 : n ≤ 1000000) (hg : w.cell? ⟨gb, k, none⟩ = some (.pointer (some ⟨f, 0, none⟩)))
    (hR : RdS w R F) (hA : FAt w R F f nm ini pv dk len dat i)
    (hfb : f ∉ R.bl) (hpbl : pb ∉ R.bl) (hbl : ∀ x ∈ R.bl, x < w.heap.size) (h1 : 1 ≤ m) (hil : i ≤ len) (hlen : len ≤ 100000) (hB : Blk w pb 5 lb) (hm : lb.length = m) (hm9 : m ≤ 100000000) (hev : w.cell? ⟨0, 0, none⟩ = some ev) (h0b : f ≠ 0 ∧ pb ≠ 0)
    (hgb : gb ≠ f ∧ gb ≠ pb) (hrb2 : R.rb ≠ f ∧ R.rb ≠ pb) :
    Calls Tryd.prog 39 #[.pointer (some ⟨R.rb, 0, none⟩), .slice (some ⟨pb, 0, none⟩) m m] w fun e w' => ∃ ex, e = .returned (.tuple #[.int .i64 (cntAt len i m : Nat), ex]) ∧ EofIs (cntAt len i m) m ev ex ∧ Fr [f, pb] w w' ∧
      FAt w' R F f nm ini pv dk len dat (i + cntAt len i m) ∧ ∃ l : List Value, Blk w' pb 5 l ∧ l.length = m ∧ ∀ x, x < cntAt len i m → l[x]? = some (U8 (dat (i + x))) := by
  have r6 : w.cell? ⟨R.rb, 6, none⟩ = some (.int .i64 (k : Nat)) := hrb.cell 6
  have r4 : w.cell? ⟨R.rb, 4, none⟩ = some (.slice (some ⟨gb, 0, none⟩) n c) := hrb.cell 4
  have hcon := Lib.hid (fun (w' : World) (g : Fr [] w w') => file_read R F f pb m i dk ini len nm pv ev dat lb w' (hR.fr0 g) (hA.fr g (by simp)) hfb hpbl (fun x hx => by have := hbl x hx; have := g.size; omega) h1 hil hlen (hB.fr0 g) hm hm9 (g.cell0 hev) h0b)
  have hkB : decide ((n : Int) ≤ (k : Int)) = false := by simp; omega
  have hkI : (k : Int) < (n : Int) := by omega
  clear hR hA hev
  go_enter Tryd.func39, Tryd.ntmps39
  go_upto_region 1 with (fail)
  go_quiet (fail)
  have hf1 : Fr [] w (w.drewN nq) := (Fr.refl _ _).drewN _
  have s6 := hf1.cell0 r6
  have s4 := hf1.cell0 r4
  have sg := hf1.cell0 hg
  clear r6 r4 hg hrb
  generalize w.drewN nq = w1 at *
  go_upto_region 3 with (fail)
  go_region_held3 (fun w' => w'.cell? ⟨R.rb, 6, none⟩ = some (.int .i64 (k : Nat)) ∧ w'.cell? ⟨R.rb, 4, none⟩ = some (.slice (some ⟨gb, 0, none⟩) n c) ∧ w'.cell? ⟨gb, k, none⟩ = some (.pointer (some ⟨f, 0, none⟩)))
    (first | go_keep | exact ⟨hf3.cell (by simp; omega) s6, hf3.cell (by simp; omega) s4, hf3.cell (by simp; omega) sg⟩)
    (first | (go_at_call 44; refine (hcon.out _ hf1.drew).mono ?_; rintro e w3 ⟨ex, rfl, hex, hf3, hA3, hl3⟩; have H3 := Lib.hid (And.intro (show EofIs (cntAt len i m) m ev ex from hex) (And.intro hA3 hl3)); clear hex hA3 hl3))
  all_goals
    have H4 := Lib.hid ((hf1.drew.mono (ms' := [f, pb]) (by simp)).trans_same hf3)
    clear hf3
    go_wp2_with fail
    go_ret2
    exact ⟨ex, rfl, H3.out.1, H4.out, H3.out.2⟩

theorem as_eof (v : Value) (w : World) : (Instr.typeAssert (.iface 187 v) 104 121 true).run Tryd.prog w = .ok (.tuple #[.agg #[.int .i64 0, .string ⟨#[]⟩, .int .i64 0], .bool false]) w := by kernel_rfl

set_option maxRecDepth 100000 in
theorem code_eof (a : Addr) (w : World) : Calls Tryd.prog 38 #[.iface 187 (.pointer (some a))] w fun e w' => e = .returned (.int .i64 6) ∧ Fr [] w w' := by
  have hta := as_eof
  go_enter Tryd.func38, Tryd.ntmps38
  go_wp2_with fail
  go_ret
  exact ⟨rfl, (Fr.refl _ _).alloc _⟩
end Go.Proofs.YtokpomdfgbbhlaaDoor

/- The contracts of the small readers of a file's fields. -/
namespace Go.Proofs.YtokpomdfgbbhlaaDoor
open Go Go.RowKit Go.Maps

theorem created_any (fk d : Nat) (name : ByteArray) (initial : Nat) (path : Value) (size i : Int) (cur : Nat) (rem : Int) (r : Nat) (G : Nat → UInt8) (w : World)
    (hf : Blk w fk 95 (flCells name initial path size i cur rem d r)) (hd : Blk w d 119 (tab 69 (dirL12 G))) :
    Calls Tryd.prog 31 #[.pointer (some ⟨fk, 0, none⟩)] w fun e w' => e = .returned (.int .u64 (fld G 100 8)) ∧ w = w' := by
  have c7 : w.cell? ⟨fk, 7, none⟩ = some (.pointer (some ⟨d, 0, none⟩)) := hf.cell 7
  have d58 := (hd.cell 58).trans (dir_create G)
  go_enter Tryd.func31, Tryd.ntmps31
  go_wp2_with fail
  go_ret
  exact ⟨rfl, rfl⟩

theorem modified_any (fk d : Nat) (name : ByteArray) (initial : Nat) (path : Value) (size i : Int) (cur : Nat) (rem : Int) (r : Nat) (G : Nat → UInt8) (w : World)
    (hf : Blk w fk 95 (flCells name initial path size i cur rem d r)) (hd : Blk w d 119 (tab 69 (dirL12 G))) :
    Calls Tryd.prog 32 #[.pointer (some ⟨fk, 0, none⟩)] w fun e w' => e = .returned (.int .u64 (fld G 108 8)) ∧ w = w' := by
  have c7 : w.cell? ⟨fk, 7, none⟩ = some (.pointer (some ⟨d, 0, none⟩)) := hf.cell 7
  have d59 := (hd.cell 59).trans (dir_modify G)
  go_enter Tryd.func32, Tryd.ntmps32
  go_wp2_with fail
  go_ret
  exact ⟨rfl, rfl⟩

theorem type_any (fk d : Nat) (name : ByteArray) (initial : Nat) (path : Value) (size i : Int) (cur : Nat) (rem : Int) (r : Nat) (G : Nat → UInt8) (w : World)
    (hf : Blk w fk 95 (flCells name initial path size i cur rem d r)) (hd : Blk w d 119 (tab 69 (dirL12 G))) :
    Calls Tryd.prog 28 #[.pointer (some ⟨fk, 0, none⟩)] w fun e w' => e = .returned (.int .i64 ((G 66).toNat : Nat)) ∧ w = w' := by
  have c7 : w.cell? ⟨fk, 7, none⟩ = some (.pointer (some ⟨d, 0, none⟩)) := hf.cell 7
  have d33 : w.cell? ⟨d, 33, none⟩ = some (.int .u8 ((G 66).toNat : Nat)) := (hd.cell 33).trans (dir_type G)
  have hlt : (G 66).toNat < 256 := (G 66).toNat_lt
  generalize (G 66).toNat = g at *
  go_enter Tryd.func28, Tryd.ntmps28
  go_wp2_with fail
  go_ret
  exact ⟨by go_num, rfl⟩

theorem dir_class (G : Nat → UInt8) (j : Nat) (hj : j < 16) : (tab 69 (dirL12 G))[38 + j]? = some (U8 (G (80 + j))) := by
  rw [tab_get _ _ _ (by omega)]
  simp only [dirL12, dirL11, dirL10, dirL9, dirL8, dirL7]
  rw [if_neg (by omega), if_neg (by omega), if_neg (by omega), if_neg (by omega), if_neg (by omega), if_pos (by omega)]
  congr 2
  congr 2; omega

set_option maxRecDepth 100000 in
set_option maxHeartbeats 1000000 in
theorem id_any (fk d : Nat) (name : ByteArray) (initial : Nat) (path : Value) (size i : Int) (cur : Nat) (rem : Int) (r : Nat) (G : Nat → UInt8) (w : World)
    (hf : Blk w fk 95 (flCells name initial path size i cur rem d r)) (hd : Blk w d 119 (tab 69 (dirL12 G))) :
    Calls Tryd.prog 29 #[.pointer (some ⟨fk, 0, none⟩)] w fun e w' => e = .returned (.agg (guidA (fun j => G (80 + j)))) ∧ Fr [] w w' := by
  have hz : (zeroValue 97).run Tryd.prog w = .ok (.agg (List.replicate 16 (.int .u8 0)).toArray) w := by kernel_rfl
  have f1 : Fr [] w (w.alloc (.cells (List.replicate 16 (.int .u8 0)).toArray 97)) := (Fr.refl _ _).alloc _
  have hr1 := Blk.new w 97 (List.replicate 16 (Value.int .u8 0))
  have hd1 := hd.fr0 f1
  have c7 : w.cell? ⟨fk, 7, none⟩ = some (.pointer (some ⟨d, 0, none⟩)) := hf.cell 7
  have l1 := hf.lt
  have l2 := hd.lt
  have hlen : ((tab 69 (dirL12 G)).drop 38).take 16 = (guidA (fun j => G (80 + j))).toList := by
    rw [tab_drop_take _ _ _ _ (by omega)]
    simp only [guidA]
    refine (tab_congr (fun j hj => ?_))
    have := dir_class G j hj
    rw [tab_get _ _ _ (by omega)] at this
    exact Option.some.inj this
  go_enter Tryd.func29, Tryd.ntmps29
  go_wp2_with (first
      | (with_reducible refine wpList_load_blk rfl 97 (.tmp 8) rfl d 38 rfl 119 _ (hd.alloc _) _ Tryd.underlying97 rfl 16 (by kernel_rfl) (by simp) (guidA (fun j => G (80 + j))) ?_ ?_)
      | (with_reducible refine wpList_store_blk rfl 97 (.tmp 2) (.tmp 9) rfl w.heap.size 0 (guidA (fun j => G (80 + j))) rfl rfl 97 _ (Blk.new' w 97 _) ?_ ?_ (guidA_one _) ?_))
  · exact hlen
  · simp [guidA_size]
  · rw [guidA_size]; kernel_rfl
  · intro w2 hf2 hb3
    have hfr : Fr [] w w2 := ((Fr.refl [] w).alloc _).trans hf2 (by simp)
    have e3 := splice_whole (List.replicate 16 (Value.int .u8 0)) (guidA (fun j => G (80 + j))).toList (by simp [guidA])
    have hb4 : Blk w2 w.heap.size 97 (guidA (fun j => G (80 + j))).toList := by rw [← e3]; exact hb3
    have hld : (loadVar 97 ⟨w.heap.size, 0, none⟩).run Tryd.prog w2 = .ok (.agg (guidA (fun j => G (80 + j)))) w2 := by
      have := run_loadVar_mid (P := Tryd.prog) w2 w.heap.size 0 97 (guidA (fun j => G (80 + j))).toList _ (fun j v hj => by rw [hb4.cell]; simpa using hj) Tryd.underlying97 rfl (by rw [Array.length_toList, guidA_size]; kernel_rfl)
      simpa using this
    clear hb3 hb4 e3 hf2
    go_wp2_with fail
    refine bodyPost_ret (v := .agg (guidA (fun j => G (80 + j)))) ?_ rfl ⟨rfl, hfr⟩
    simp [results, Tryd.results29, asAddr, hld]
theorem dir_state (G : Nat → UInt8) (j : Nat) (hj : j < 4) : (tab 69 (dirL12 G))[54 + j]? = some (U8 (G (96 + j))) := by
  rw [tab_get _ _ _ (by omega)]
  simp only [dirL12, dirL11, dirL10, dirL9, dirL8]
  rw [if_neg (by omega), if_neg (by omega), if_neg (by omega), if_neg (by omega), if_pos (by omega)]
  congr 2
  congr 2; omega

/-- Four bytes as an array's value. -/
def stateA (f : Nat → UInt8) : Array Value := (tab 4 (fun i => U8 (f i))).toArray
theorem stateA_size (f : Nat → UInt8) : (stateA f).size = 4 := by simp [stateA]
theorem stateA_one (f : Nat → UInt8) : (stateA f).all (·.oneCell') = true := tab_oneCell (fun _ _ => rfl)

set_option maxRecDepth 100000 in
set_option maxHeartbeats 1000000 in
theorem state_any (fk d : Nat) (name : ByteArray) (initial : Nat) (path : Value) (size i : Int) (cur : Nat) (rem : Int) (r : Nat) (G : Nat → UInt8) (w : World)
    (hf : Blk w fk 95 (flCells name initial path size i cur rem d r)) (hd : Blk w d 119 (tab 69 (dirL12 G))) :
    Calls Tryd.prog 30 #[.pointer (some ⟨fk, 0, none⟩)] w fun e w' => e = .returned (.agg (stateA (fun j => G (96 + j)))) ∧ Fr [] w w' := by
  have hz : (zeroValue 37).run Tryd.prog w = .ok (.agg (List.replicate 4 (.int .u8 0)).toArray) w := by kernel_rfl
  have f1 : Fr [] w (w.alloc (.cells (List.replicate 4 (.int .u8 0)).toArray 37)) := (Fr.refl _ _).alloc _
  have hr1 := Blk.new w 37 (List.replicate 4 (Value.int .u8 0))
  have hd1 := hd.fr0 f1
  have c7 : w.cell? ⟨fk, 7, none⟩ = some (.pointer (some ⟨d, 0, none⟩)) := hf.cell 7
  have l1 := hf.lt
  have l2 := hd.lt
  have hlen : ((tab 69 (dirL12 G)).drop 54).take 4 = (stateA (fun j => G (96 + j))).toList := by
    rw [tab_drop_take _ _ _ _ (by omega)]
    simp only [stateA]
    refine (tab_congr (fun j hj => ?_))
    have := dir_state G j hj
    rw [tab_get _ _ _ (by omega)] at this
    exact Option.some.inj this
  go_enter Tryd.func30, Tryd.ntmps30
  go_wp2_with (first
      | (with_reducible refine wpList_load_blk rfl 37 (.tmp 8) rfl d 54 rfl 119 _ (hd.alloc _) _ Tryd.underlying37 rfl 4 (by kernel_rfl) (by simp) (stateA (fun j => G (96 + j))) ?_ ?_)
      | (with_reducible refine wpList_store_blk rfl 37 (.tmp 2) (.tmp 9) rfl w.heap.size 0 (stateA (fun j => G (96 + j))) rfl rfl 37 _ (Blk.new' w 37 _) ?_ ?_ (stateA_one _) ?_))
  · exact hlen
  · simp [stateA_size]
  · rw [stateA_size]; kernel_rfl
  · intro w2 hf2 hb3
    have hfr : Fr [] w w2 := ((Fr.refl [] w).alloc _).trans hf2 (by simp)
    have e3 := splice_whole (List.replicate 4 (Value.int .u8 0)) (stateA (fun j => G (96 + j))).toList (by simp [stateA])
    have hb4 : Blk w2 w.heap.size 37 (stateA (fun j => G (96 + j))).toList := by rw [← e3]; exact hb3
    have hld : (loadVar 37 ⟨w.heap.size, 0, none⟩).run Tryd.prog w2 = .ok (.agg (stateA (fun j => G (96 + j)))) w2 := by
      have := run_loadVar_mid (P := Tryd.prog) w2 w.heap.size 0 37 (stateA (fun j => G (96 + j))).toList _ (fun j v hj => by rw [hb4.cell]; simpa using hj) Tryd.underlying37 rfl (by rw [Array.length_toList, stateA_size]; kernel_rfl)
      simpa using this
    clear hb3 hb4 e3 hf2
    go_wp2_with fail
    refine bodyPost_ret (v := .agg (stateA (fun j => G (96 + j)))) ?_ rfl ⟨rfl, hfr⟩
    simp [results, Tryd.results30, asAddr, hld]
end Go.Proofs.YtokpomdfgbbhlaaDoor

/- The contracts of Reader.ID, Created, Modified, and of Root over a sound file. -/
namespace Go.Proofs.YtokpomdfgbbhlaaDoor
open Go Go.RowKit Go.Maps

section
variable {w : World} {base rb sb : Nat} {F : Nat → UInt8} {ss m : Nat} {cs : Nat → Nat} {P : Nat → EntP} {t : Tr} {mn mm : Nat} {mf ms : Nat → Nat}
    {hb fb gb dg dcap ub ul uc : Nat} {fk dk : Nat → Nat} {pv : Nat → Value} {mfv msv : Value}

theorem rcreated_any (h : RdOK w base rb sb F ss m cs P t mn mm mf ms hb fb gb dg dcap ub ul uc fk dk pv mfv msv) (hl : 1 ≤ t.order.length) (he : t.order.getD 0 0 < m * (ss / 128)) :
    Calls Tryd.prog 35 #[.pointer (some ⟨rb, 0, none⟩)] w fun e w' => e = .returned (.int .u64 (fld (entB F ss cs (t.order.getD 0 0)) 100 8)) ∧ w = w' := by
  have r4 : w.cell? ⟨rb, 4, none⟩ = some (.slice (some ⟨gb, 0, none⟩) t.order.length (m * (ss / 128))) := h.rd.cell 4
  have g0 := h.files 0 (by omega)
  have hcon := Lib.hid (created_any _ _ _ _ _ _ _ _ _ _ _ w (h.file _ he) (h.ent _ he))
  generalize t.order.getD 0 0 = e0 at *
  generalize t.order.length = tl at *
  go_enter Tryd.func35, Tryd.ntmps35
  go_wp2_with fail
  refine hcon.out.mono ?_
  rintro e w1 ⟨rfl, rfl⟩
  go_wp2_with fail
  go_ret
  exact ⟨rfl, rfl⟩
theorem rmodified_any (h : RdOK w base rb sb F ss m cs P t mn mm mf ms hb fb gb dg dcap ub ul uc fk dk pv mfv msv) (hl : 1 ≤ t.order.length) (he : t.order.getD 0 0 < m * (ss / 128)) :
    Calls Tryd.prog 36 #[.pointer (some ⟨rb, 0, none⟩)] w fun e w' => e = .returned (.int .u64 (fld (entB F ss cs (t.order.getD 0 0)) 108 8)) ∧ w = w' := by
  have r4 : w.cell? ⟨rb, 4, none⟩ = some (.slice (some ⟨gb, 0, none⟩) t.order.length (m * (ss / 128))) := h.rd.cell 4
  have g0 := h.files 0 (by omega)
  have hcon := Lib.hid (modified_any _ _ _ _ _ _ _ _ _ _ _ w (h.file _ he) (h.ent _ he))
  generalize t.order.getD 0 0 = e0 at *
  generalize t.order.length = tl at *
  go_enter Tryd.func36, Tryd.ntmps36
  go_wp2_with fail
  refine hcon.out.mono ?_
  rintro e w1 ⟨rfl, rfl⟩
  go_wp2_with fail
  go_ret
  exact ⟨rfl, rfl⟩

set_option maxRecDepth 100000 in
set_option maxHeartbeats 1000000 in
theorem rid_any (h : RdOK w base rb sb F ss m cs P t mn mm mf ms hb fb gb dg dcap ub ul uc fk dk pv mfv msv) (hl : 1 ≤ t.order.length) (he : t.order.getD 0 0 < m * (ss / 128)) :
    Calls Tryd.prog 34 #[.pointer (some ⟨rb, 0, none⟩)] w fun e w' => e = .returned (.agg (guidA (fun j => entB F ss cs (t.order.getD 0 0) (80 + j)))) ∧ Fr [] w w' := by
  have r4 : w.cell? ⟨rb, 4, none⟩ = some (.slice (some ⟨gb, 0, none⟩) t.order.length (m * (ss / 128))) := h.rd.cell 4
  have g0 := h.files 0 (by omega)
  have hfl := h.file _ he
  have hen := h.ent _ he
  have lr := h.rd.lt
  have lg := World.block_lt_of_cell? w _ g0
  dsimp only at lg
  generalize t.order.getD 0 0 = e0 at *
  generalize t.order.length = tl at *
  generalize entB F ss cs e0 = G at *
  go_enter Tryd.func34, Tryd.ntmps34
  go_wp2_with fail
  refine (id_any _ _ _ _ _ _ _ _ _ _ G _ (hfl.alloc _) (hen.alloc _)).mono ?_
  rintro e w1 ⟨rfl, hf1⟩
  have hr1 := (Blk.new' w 97 (List.replicate 16 (Value.int .u8 0)).toArray).fr0 hf1
  go_wp2_with (with_reducible refine wpList_store_blk rfl 97 (.tmp 2) (.tmp 9) rfl w.heap.size 0 (guidA (fun j => G (80 + j))) rfl rfl 97 _ hr1 ?_ ?_ (guidA_one _) ?_)
  · simp [guidA_size]
  · rw [guidA_size]; kernel_rfl
  · intro w2 hf2 hb3
    have hfr : Fr [] w w2 := (((Fr.refl [] w).alloc _).trans0 hf1).trans hf2 (by simp)
    have e3 := splice_whole (List.replicate 16 (Value.int .u8 0)) (guidA (fun j => G (80 + j))).toList (by simp [guidA])
    have hb4 : Blk w2 w.heap.size 97 (guidA (fun j => G (80 + j))).toList := by rw [← e3]; exact hb3
    have hld : (loadVar 97 ⟨w.heap.size, 0, none⟩).run Tryd.prog w2 = .ok (.agg (guidA (fun j => G (80 + j)))) w2 := by
      have := run_loadVar_mid (P := Tryd.prog) w2 w.heap.size 0 97 (guidA (fun j => G (80 + j))).toList _ (fun j v hj => by rw [hb4.cell]; simpa using hj) Tryd.underlying97 rfl (by rw [Array.length_toList, guidA_size]; kernel_rfl)
      simpa using this
    clear hb3 hb4 e3 hf2
    go_wp2_with fail
    refine bodyPost_ret (v := .agg (guidA (fun j => G (80 + j)))) ?_ rfl ⟨rfl, hfr⟩
    simp [results, Tryd.results34, asAddr, hld]

theorem RdOK.fr0 {w' : World} (h : RdOK w base rb sb F ss m cs P t mn mm mf ms hb fb gb dg dcap ub ul uc fk dk pv mfv msv) (f : Fr [] w w') :
    RdOK w' base rb sb F ss m cs P t mn mm mf ms hb fb gb dg dcap ub ul uc fk dk pv mfv msv where
  rb_ := h.rb_
  rd := h.rd.fr0 f
  hd := h.hd.fr0 f
  hdb := h.hdb
  fd := h.fd.fr0 f
  files := fun i hi => f.cell0 (h.files i hi)
  file := fun e he => (h.file e he).fr0 f
  fileb := h.fileb
  filei := h.filei
  ent := fun e he => (h.ent e he).fr0 f
  path := fun q hq => (h.path q hq).fr f (by simp)
  mini := by
    rcases h.mini with h | ⟨a, b, k, h1, h2, h3, h4, h5, h6, h7⟩
    · exact .inl h
    · exact .inr ⟨a, b, k, h1, h2, h3, h4, h5, fun i hi => f.cell0 (h6 i hi), fun i hi => f.cell0 (h7 i hi)⟩
end
end Go.Proofs.YtokpomdfgbbhlaaDoor

/- The contract of Root over a sound file. -/
namespace Go.Proofs.YtokpomdfgbbhlaaDoor
open Go Go.RowKit Go.Maps

set_option maxRecDepth 100000 in
set_option maxHeartbeats 1000000 in
theorem root_ok (ab ao n ncap ss m mn mm : Nat) (F : Nat → UInt8) (cs mf ms : Nat → Nat) (P : Nat → EntP) (t : Tr) (w : World) (hB : ∀ i, i < n → w.cell? ⟨ab, ao + i, none⟩ = some (U8 (F i)))
    (hF : FileOK F n ss m cs P t mn mm mf ms) (hn : n ≤ 131072)
    (hp : ∀ i, 65 ≤ i → i ≤ 90 → w.cell? ⟨2, i, none⟩ = some (.int .u8 160)) (h2w : 2 < w.heap.size) (hl : 1 ≤ t.order.length) (h0 : t.order.getD 0 0 = 0) (hm : 0 < m * (ss / 128)) :
    Calls Tryd.prog 14 #[.slice (some ⟨ab, ao, none⟩) n ncap] w fun e w' => Fr [] w w' ∧
      e = .returned (.tuple #[.agg (guidA (fun j => entB F ss cs 0 (80 + j))), .int .u64 (fld (entB F ss cs 0) 100 8), .int .u64 (fld (entB F ss cs 0) 108 8), .int .i64 0]) := by
  go_enter Tryd.func14, Tryd.ntmps14
  go_wp2_with fail
  refine (opened_ok ab ao n ncap ss m mn mm F cs mf ms P t _ (fun i hi => ((Fr.refl [] w).alloc _).cell0 (hB i hi)) hF hn (fun i a b => ((Fr.refl [] w).alloc _).cell0 (hp i a b)) (by simp; omega)).mono ?_
  rintro e w1 ⟨base, sb, bb, cap, rb, hb, fb, gb, dg, dcap, ub, ul, uc, fk, dk, pv, mfv, msv, rfl, hf1, _, _, _, _, _, _, hR⟩
  have hr1 := (Blk.new' w 36 (List.replicate 16 (Value.int .u8 0)).toArray).fr0 hf1
  go_wp2_with fail
  have k1 := rid_any hR hl (by rw [h0]; exact hm)
  rw [h0] at k1
  generalize hG : entB F ss cs 0 = G at *
  refine k1.mono ?_
  rintro e w2 ⟨rfl, hf2⟩
  go_wp2_with fail
  have k2 := rcreated_any (hR.fr0 hf2) hl (by rw [h0]; exact hm)
  rw [h0, hG] at k2
  refine k2.mono ?_
  rintro e w3 ⟨rfl, rfl⟩
  go_wp2_with fail
  have k3 := rmodified_any (hR.fr0 hf2) hl (by rw [h0]; exact hm)
  rw [h0, hG] at k3
  refine k3.mono ?_
  rintro e w3 ⟨rfl, rfl⟩
  have hr2 := hr1.fr0 hf2
  clear k1 k2 k3
  go_wp2_with (refine wpList_store_blk rfl 36 (.tmp 2) (.tmp 20) rfl w.heap.size 0 (guidA (fun j => G (80 + j))) rfl rfl 36 _ hr2 ?_ ?_ (guidA_one _) ?_)
  · simp [guidA_size]
  · rw [guidA_size]; kernel_rfl
  · intro w4 hf4 hb3
    have hfr : Fr [] w w4 := ((((Fr.refl [] w).alloc _).trans0 hf1).trans0 hf2).trans hf4 (by simp)
    have e3 := splice_whole (List.replicate 16 (Value.int .u8 0)) (guidA (fun j => G (80 + j))).toList (by simp [guidA])
    have hb4 : Blk w4 w.heap.size 36 (guidA (fun j => G (80 + j))).toList := by rw [← e3]; exact hb3
    have hld : (loadVar 36 ⟨w.heap.size, 0, none⟩).run Tryd.prog w4 = .ok (.agg (guidA (fun j => G (80 + j)))) w4 := by
      have := run_loadVar_mid (P := Tryd.prog) w4 w.heap.size 0 36 (guidA (fun j => G (80 + j))).toList _ (fun j v hj => by rw [hb4.cell]; simpa using hj) Tryd.underlying36 rfl (by rw [Array.length_toList, guidA_size]; kernel_rfl)
      simpa using this
    clear hb3 hb4 e3 hf4
    go_wp2_with fail
    refine bodyPost_ret (v := .tuple #[.agg (guidA (fun j => G (80 + j))), .int .u64 (fld G 100 8), .int .u64 (fld G 108 8), .int .i64 0]) ?_ rfl ⟨hfr, by rw [hG]⟩
    simp [results, Tryd.results14, asAddr, hld]
end Go.Proofs.YtokpomdfgbbhlaaDoor

/- append onto a row of the call's own, as a step of a region that draws its order. -/
namespace Go.Proofs.YtokpomdfgbbhlaaDoor
open Go Go.RowKit Go.Maps

theorem step_append_own {P : Program} {ops : Array Oper} {o : Oper} {a : Act} {w : World} {K : Act → World → Prop} {Q : Exit → Act → World → Prop} {E : Prop} (hgd : o.guard = none) (s x : Operand) (t : TypeId)
    (ho : o.op = .call { callee := .builtin .append, args := #[s, x], argTypes := #[t, t] })
    (base : Nat) (e : TypeId) (i : TypeInfo) (z : Value) (size bytes : Nat) (ht : P.underlying t = some (.slice e)) (hi : P.info? e = some i) (hz : i.zero = some z)
    (hsize : i.size = size) (hby : i.bytes = bytes) (hzs : z.cells.size = size) (hsz : 0 < size)
    (v : Value) (n : Nat) (xs : List Value) (hs : a.eval s = v) (hown : w.ownsRow base e size v n xs)
    (ad : Addr) (m c : Nat) (news : List Value) (hx : a.eval x = .slice (some ad) m c) (hl : news.length = m * size) (hnews : ∀ j u, news[j]? = some u → w.cell? (ad.add j) = some u) (h1 : ∀ u ∈ news, u.oneCell' = true)
    (h63 : n + m ≤ maxLen) (hbytes : (n + m) * bytes ≤ 140737488355328) (hbase : base ≤ w.heap.size)
    (h : ∀ v' w', w'.ownsRow base e size v' (n + m) (xs ++ news) → w.grownBy w' v.ownBlock → K (a.put o.dst v') w') :
    if Region.wanted o (yielded ops a.tmps) = true then Oper.wp P o a w K Q else E := by
  have hw : Region.wanted o (yielded ops a.tmps) = true := by simp [Region.wanted, hgd]
  rw [if_pos hw]
  obtain ⟨v', w', hr, h2, h3, h4⟩ := run_append_own (P := P) w base t o.type e i z size bytes ht hi hz hsize hby hzs hsz v n xs hown ad m c news hl hnews h1 h63 hbytes hbase
  unfold Oper.wp
  simp only [execOp, ho, resolve, invoke, builtin, Sem.run_bind, Sem.run_pure, Result.andThen_ok, List.map_toArray, List.map_cons, List.map_nil, hs, hx, hr]
  exact h v' w' h2 h3
end Go.Proofs.YtokpomdfgbbhlaaDoor

/- The contract of Entries over a sound file. -/
namespace Go.Proofs.YtokpomdfgbbhlaaDoor
open Go Go.RowKit Go.Maps

theorem info40 : (Tryd.prog.info? 40).map (fun i => (i.zero.map (·.cells.size), i.size, i.bytes)) = some (some 27, 27, 104) := by kernel_rfl
theorem info40_parts : ∃ i z, Tryd.prog.info? 40 = some i ∧ i.zero = some z ∧ i.size = 27 ∧ i.bytes = 104 ∧ z.cells.size = 27 := by
  obtain ⟨i, hi, hzz⟩ := Option.map_eq_some_iff.1 info40
  simp only [Prod.mk.injEq] at hzz
  obtain ⟨z, h1, h2⟩ := Option.map_eq_some_iff.1 hzz.1
  exact ⟨i, z, hi, h1, hzz.2.1, hzz.2.2, h2⟩

/-- The cells of an Entry. -/
def entCells (p : EntP) (path : Value) (G : Nat → UInt8) : List Value :=
  [.string p.name, path, .int .i64 ((G 66).toNat : Nat), .int .i64 p.size, .int .i64 p.init] ++ (guidA (fun j => G (80 + j))).toList ++ (stateA (fun j => G (96 + j))).toList ++ [.int .u64 (fld G 100 8), .int .u64 (fld G 108 8)]
theorem entCells_length (p : EntP) (path : Value) (G : Nat → UInt8) : (entCells p path G).length = 27 := by simp [entCells, guidA, stateA]

/-- A list of texts, in a slice that may be nil. -/
def TextsIs (w : World) (base : Nat) (v : Value) (p : List ByteArray) : Prop := w.ownsRow base 9 1 v p.length (p.map Value.string)

theorem own_fr0 {w w' : World} {base : Nat} {e : TypeId} {size n : Nat} {v : Value} {xs : List Value} (h : w.ownsRow base e size v n xs) (f : Fr [] w w') : w'.ownsRow base e size v n xs := own_fr h f (by simp)
theorem news_new (w : World) (cs : Array Value) (e : TypeId) {l : List Value} (h : cs.toList = l) : ∀ j u, l[j]? = some u → (w.alloc (.cells cs e)).cell? ((⟨w.heap.size, 0, none⟩ : Addr).add j) = some u := by
  intro j u hj
  subst h
  rw [add_zero']
  exact ((Blk.new' w e cs).cell j).trans hj
theorem own_mono {w : World} {base base' : Nat} {e : TypeId} {size n : Nat} {v : Value} {xs : List Value} (h : w.ownsRow base e size v n xs) (hb : base' ≤ base) : w.ownsRow base' e size v n xs := by
  refine ⟨h.1, ?_⟩
  rcases h.2 with h0 | ⟨g, cap, cur, e1, h1, h2⟩
  · exact .inl h0
  · exact .inr ⟨g, cap, cur, e1, Nat.le_trans hb h1, h2⟩
theorem ent_last {wr w3 w4 : World} {o : Obj} {out pv : Value} {base b9 k n f0 : Nat} {rows xs l : List Value} (hfc : Fr [] wr w3) (hfo : Fr out.ownBlock.toList (w3.alloc o) w4) (hown : wr.ownsRow base 40 27 out k rows) (hfl : Blk wr f0 95 l)
    (ht : w3.ownsRow b9 9 1 pv n xs) : Blk w4 f0 95 l ∧ w4.ownsRow b9 9 1 pv n xs ∧ Fr out.ownBlock.toList wr w4 := by
  have h1 := own_fr0 hown (hfc.alloc o)
  have h2 := hfl.fr0 (hfc.alloc o)
  have h3 := own_fr0 ht ((Fr.refl [] w3).alloc o)
  exact ⟨h2.fr hfo (own_ne h1 h2 (by decide)), own_fr h3 hfo (own_sep h3 h1 (by decide)), ((hfc.alloc o).mono (by simp)).trans hfo (fun x hx => .inl hx)⟩
theorem entCells_one (p : EntP) (a : Option Addr) (n c : Nat) (G : Nat → UInt8) : ∀ u ∈ entCells p (.slice a n c) G, u.oneCell' = true := by
  intro u hu
  simp only [entCells, guidA, stateA, List.mem_append, List.mem_cons, List.not_mem_nil, or_false, tab, List.toList_toArray, List.mem_map] at hu
  rcases hu with ((h | ⟨i, _, rfl⟩) | ⟨i, _, rfl⟩) | h
  · rcases h with rfl | rfl | rfl | rfl | rfl <;> rfl
  · rfl
  · rfl
  · rcases h with rfl | rfl <;> rfl

/-- The entries' cells, one behind the other. -/
def entRows (k : Nat) (o : Nat → Nat) (P : Nat → EntP) (pth : Nat → Value) (B : Nat → Nat → UInt8) : List Value := (List.range k).flatMap (fun i => entCells (P (o i)) (pth i) (B (o i)))
theorem entRows_succ (k : Nat) (o : Nat → Nat) (P : Nat → EntP) (pth : Nat → Value) (B : Nat → Nat → UInt8) : entRows (k + 1) o P pth B = entRows k o P pth B ++ entCells (P (o k)) (pth k) (B (o k)) := by
  simp [entRows, List.range_succ]
theorem entRows_congr {k : Nat} {o : Nat → Nat} {P : Nat → EntP} {pth pth' : Nat → Value} {B : Nat → Nat → UInt8} (h : ∀ i, i < k → pth i = pth' i) : entRows k o P pth B = entRows k o P pth' B := by
  unfold entRows
  induction k with
  | zero => rfl
  | succ k ih =>
    rw [List.range_succ, List.flatMap_append, List.flatMap_append, ih (fun i hi => h i (by omega))]
    simp [h k (by omega)]


/-- sixteen bytes, written out. -/
theorem guidA_lit (f : Nat → UInt8) : guidA f = #[U8 (f 0), U8 (f 1), U8 (f 2), U8 (f 3), U8 (f 4), U8 (f 5), U8 (f 6), U8 (f 7), U8 (f 8), U8 (f 9), U8 (f 10), U8 (f 11), U8 (f 12), U8 (f 13), U8 (f 14), U8 (f 15)] := rfl
theorem stateA_lit (f : Nat → UInt8) : stateA f = #[U8 (f 0), U8 (f 1), U8 (f 2), U8 (f 3)] := rfl

theorem Tr.paths_fst (nm : Nat → ByteArray) : ∀ (t : Tr) (p : List ByteArray), (t.paths nm p).map Prod.fst = t.order
  | .nil, _ => rfl
  | .node e l c r, p => by simp [Tr.paths, Tr.order, Tr.paths_fst nm l, Tr.paths_fst nm c, Tr.paths_fst nm r]
theorem Tr.paths_at (nm : Nat → ByteArray) (t : Tr) (p : List ByteArray) (k : Nat) (hk : k < t.order.length) :
    (t.order.getD k 0, ((t.paths nm p).getD k (0, [])).2) ∈ t.paths nm p := by
  have h := Tr.paths_fst nm t p
  have hl : k < (t.paths nm p).length := by
    have := congrArg List.length h
    simp at this; omega
  have h2 : t.order.getD k 0 = ((t.paths nm p)[k]).1 := by
    rw [← h, List.getD_eq_getElem?_getD, List.getElem?_map, List.getElem?_eq_getElem hl]
    rfl
  rw [h2, List.getD_eq_getElem?_getD, List.getElem?_eq_getElem hl]
  exact List.getElem_mem hl

theorem Tr.paths_len (nm : Nat → ByteArray) : ∀ (t : Tr) (p : List ByteArray) (q : Nat × List ByteArray), q ∈ t.paths nm p → q.2.length ≤ p.length + t.order.length
  | .nil, p, q, h => by simp [Tr.paths] at h
  | .node e l c r, p, q, h => by
    simp only [Tr.paths, List.mem_append, List.mem_cons] at h
    simp only [Tr.order, List.length_append, List.length_cons]
    rcases h with h | rfl | h | h
    · have := Tr.paths_len nm l p q h; omega
    · simp
    · have h1 := Tr.paths_len nm c _ q h
      split at h1
      · omega
      · simp at h1; omega
    · have := Tr.paths_len nm r p q h; omega

set_option maxRecDepth 100000 in
set_option maxHeartbeats 4000000 in
theorem entries_ok (ab ao n ncap ss m mn mm : Nat) (F : Nat → UInt8) (cs mf ms : Nat → Nat) (P : Nat → EntP) (t : Tr) (w : World) (hB : ∀ i, i < n → w.cell? ⟨ab, ao + i, none⟩ = some (U8 (F i)))
    (hF : FileOK F n ss m cs P t mn mm mf ms) (hn : n ≤ 131072)
    (hp : ∀ i, 65 ≤ i → i ≤ 90 → w.cell? ⟨2, i, none⟩ = some (.int .u8 160)) (h2w : 2 < w.heap.size) :
    Calls Tryd.prog 11 #[.slice (some ⟨ab, ao, none⟩) n ncap] w fun e w' => Fr [] w w' ∧ ∃ (v : Value) (pth : Nat → Value), e = .returned (.tuple #[v, .int .i64 0]) ∧
      w'.ownsRow w.heap.size 40 27 v t.order.length (entRows t.order.length (fun i => t.order.getD i 0) P pth (entB F ss cs)) ∧
      ∀ i, i < t.order.length → TextsIs w' w.heap.size (pth i) (((t.paths (fun e => (P e).name) []).getD i (0, [])).2) := by
  go_enter Tryd.func11, Tryd.ntmps11
  go_wp2_with fail
  refine (opened_ok ab ao n ncap ss m mn mm F cs mf ms P t _ hB hF hn hp h2w).mono ?_
  rintro e w1 ⟨base, sb, bb, cap, rb, hb, fb, gb, dg, dcap, ub, ul, uc, fk, dk, pv, mfv, msv, rfl, hf1, _, _, _, _, _, _, hR⟩
  have r4 : w1.cell? ⟨rb, 4, none⟩ = some (.slice (some ⟨gb, 0, none⟩) t.order.length (m * (ss / 128))) := hR.rd.cell 4
  have hord : ∀ i, i < t.order.length → t.order.getD i 0 < m * (ss / 128) := by
    intro i hi
    refine hF.t1.lt _ ?_
    rw [List.getD_eq_getElem?_getD, List.getElem?_eq_getElem hi]
    simp
  have hfs := hR.files
  have HO := Lib.hid hord
  have HFS := Lib.hid hfs
  clear hord hfs
  generalize hlen : t.order.length = tl at *
  obtain ⟨i0, z0, hi, hz0, hz1, hz2, hz3⟩ := info40_parts
  have hown0 : w1.ownsRow w1.heap.size 40 27 (.slice none 0 0) 0 [] := World.ownsRow_nil _ _ _ _
  go_wp2_with fail
  go_loopw [7, 24] (fun s7 s24 wr => ∃ (k : Nat) (pth : Nat → Value), k ≤ tl ∧ s24 = .int .i64 k ∧ Fr [] w1 wr ∧ wr.ownsRow w1.heap.size 40 27 s7 k (entRows k (fun i => t.order.getD i 0) P pth (entB F ss cs)) ∧
    ∀ i, i < k → TextsIs wr w1.heap.size (pth i) (((t.paths (fun e => (P e).name) []).getD i (0, [])).2)) (fun _ s24 _ => tl - (intOf s24).toNat)
  case atStart => exact ⟨0, fun _ => .nilIface, by omega, rfl, Fr.refl _ _, by simpa [entRows] using hown0, fun i hi => by omega⟩
  case round =>
    obtain ⟨k, pth, hk, rfl, hf, hown, htx⟩ := hrel
    by_cases hlt : k < tl
    · have hltI : (k : Int) < tl := by omega
      have hke := HO.out k hlt
      obtain ⟨pb, pcap, hpv, hpb, hpB⟩ := hR.path _ (Tr.paths_at (fun e => (P e).name) t [] k (by rw [hlen]; exact hlt))
      simp only at hpv
      have g0 : wr.cell? ⟨gb, k, none⟩ = some (.pointer (some ⟨fk (t.order.getD k 0), 0, none⟩)) := hf.cell0 (HFS.out k hlt)
      have hfl := (hR.file _ hke).fr0 hf
      have hen := (hR.ent _ hke).fr0 hf
      have hpB2 := hpB.fr0 hf
      rw [hpv] at hfl
      have hppl := Tr.paths_len (fun e => (P e).name) t [] _ (Tr.paths_at (fun e => (P e).name) t [] k (by rw [hlen]; exact hlt))
      rw [hlen] at hppl
      generalize hpp : ((t.paths (fun e => (P e).name) []).getD k (0, [])).2 = pp at *
      generalize he0 : t.order.getD k 0 = e0 at *
      have HPP := Lib.hid hpp
      have HE := Lib.hid he0
      clear hpp he0
      generalize fk e0 = f0 at *
      generalize dk e0 = d0 at *
      have hinit : (P e0).init ≤ 90 := by
        rcases hF.ent e0 hke with ⟨_, _, _, h, _⟩ | ⟨_, _, _, _, _, _, _, h90, _, _, _, _, h, _⟩
        · omega
        · omega
      generalize hG : entB F ss cs e0 = G at *
      generalize hp0 : P e0 = p0 at *
      have HP0 := Lib.hid hp0
      clear hp0
      have HG := Lib.hid hG
      clear hG
      have hidc := Lib.hid (fun w0 (f : Fr [] wr w0) => id_any f0 d0 p0.name p0.init _ p0.size 0 (fld G 116 4) 0 rb G w0 (hfl.fr0 f) (hen.fr0 f))
      have hstc := Lib.hid (fun w0 (f : Fr [] wr w0) => state_any f0 d0 p0.name p0.init _ p0.size 0 (fld G 116 4) 0 rb G w0 (hfl.fr0 f) (hen.fr0 f))
      have htyc := Lib.hid (fun w0 (f : Fr [] wr w0) => type_any f0 d0 p0.name p0.init _ p0.size 0 (fld G 116 4) 0 rb G w0 (hfl.fr0 f) (hen.fr0 f))
      have hcrc := Lib.hid (fun w0 (f : Fr [] wr w0) => created_any f0 d0 p0.name p0.init _ p0.size 0 (fld G 116 4) 0 rb G w0 (hfl.fr0 f) (hen.fr0 f))
      have hmdc := Lib.hid (fun w0 (f : Fr [] wr w0) => modified_any f0 d0 p0.name p0.init _ p0.size 0 (fld G 116 4) 0 rb G w0 (hfl.fr0 f) (hen.fr0 f))
      simp only [guidA_lit, stateA_lit] at hidc hstc
      have q0 : wr.cell? ⟨f0, 0, none⟩ = some (.string p0.name) := hfl.cell 0
      have q1 : wr.cell? ⟨f0, 1, none⟩ = some (.int .u16 p0.init) := hfl.cell 1
      have q2 : wr.cell? ⟨f0, 2, none⟩ = some (.slice (some ⟨pb, 0, none⟩) pp.length pcap) := hfl.cell 2
      have q3 : wr.cell? ⟨f0, 3, none⟩ = some (.int .i64 p0.size) := hfl.cell 3
      obtain ⟨i9, hi9, hz9, hs9, hb9⟩ := info_parts info9
      have htl : pp.length ≤ 100000 := by
        have h1 := hF.t3
        have h2 := hF.m2
        rw [hlen] at h1
        have h3 : ss / 128 ≤ 32 := by rcases hF.hdr.shift with ⟨_, h⟩ | ⟨_, h⟩ <;> omega
        have h4 := Nat.mul_le_mul h2 h3
        simp at hppl
        omega
      have htl2 : tl ≤ 100000 := by
        have h1 := hF.t3
        have h2 := hF.m2
        rw [hlen] at h1
        have h3 : ss / 128 ≤ 32 := by rcases hF.hdr.shift with ⟨_, h⟩ | ⟨_, h⟩ <;> omega
        have h4 := Nat.mul_le_mul h2 h3
        omega
      have hnews : ∀ j u, (pp.map Value.string)[j]? = some u → wr.drew.cell? ((⟨pb, 0, none⟩ : Addr).add j) = some u := by
        intro j u hj
        rw [add_zero']
        exact (hpB2.cell j).trans hj
      have h1one : ∀ u ∈ pp.map Value.string, u.oneCell' = true := by
        intro u hu
        obtain ⟨x, _, rfl⟩ := List.mem_map.1 hu
        rfl
      have hbase : w1.heap.size ≤ wr.drew.heap.size := hf.size
      have HNEWS := Lib.hid hnews
      have HONE := Lib.hid h1one
      have HI9 := Lib.hid (And.intro hi9 (And.intro hz9 (And.intro hs9 hb9)))
      have HI40 := Lib.hid (And.intro hi (And.intro hz0 (And.intro hz1 (And.intro hz2 hz3))))
      have HOWN := Lib.hid hown
      have HTX := Lib.hid htx
      have HFL := Lib.hid hfl
      have hfc : Fr [] wr wr.drew := (Fr.refl _ _).drew
      have hppl2 : (pp.map Value.string).length = pp.length * 1 := by simp
      have HPPL := Lib.hid hppl2
      clear hnews h1one hi9 hz9 hs9 hb9 hown htx hfl hpB2 hpB hppl hppl2 hen hR hown0
      have hwi : IntKind.i64.wrap (p0.init : Int) = (p0.init : Int) := IntWalk.i64_in _ (by omega)
      go_upto_region 8 with (fail)
      go_region_held3 (fun w' => w'.cell? ⟨f0, 0, none⟩ = some (.string p0.name) ∧ w'.cell? ⟨f0, 1, none⟩ = some (.int .u16 p0.init) ∧ w'.cell? ⟨f0, 2, none⟩ = some (.slice (some ⟨pb, 0, none⟩) pp.length pcap) ∧ w'.cell? ⟨f0, 3, none⟩ = some (.int .i64 p0.size))
        (first | exact ⟨hfc.cell0 q0, hfc.cell0 q1, hfc.cell0 q2, hfc.cell0 q3⟩ | exact ⟨(hfc.alloc _).cell0 q0, (hfc.alloc _).cell0 q1, (hfc.alloc _).cell0 q2, (hfc.alloc _).cell0 q3⟩ | exact hkept)
        (first
          | (go_at_call 28; (with_reducible refine (htyc.out _ hfc).mono ?_); rintro e1 w3 ⟨rfl, rfl⟩)
          | (go_at_call 29; (with_reducible refine (hidc.out _ hfc).mono ?_); rintro e1 w3 ⟨rfl, hf3⟩; replace hfc := hfc.trans0 hf3; have HR9 := Lib.hid (own_fr HR9.out hf3 (by simp)); clear hf3)
          | (go_at_call 30; (with_reducible refine (hstc.out _ hfc).mono ?_); rintro e1 w3 ⟨rfl, hf3⟩; replace hfc := hfc.trans0 hf3; have HR9 := Lib.hid (own_fr HR9.out hf3 (by simp)); clear hf3)
          | (go_at_call 31; (with_reducible refine (hcrc.out _ hfc).mono ?_); rintro e1 w3 ⟨rfl, rfl⟩)
          | (go_at_call 32; (with_reducible refine (hmdc.out _ hfc).mono ?_); rintro e1 w3 ⟨rfl, rfl⟩)
          | (refine step_append_own rfl (.const (.slice none 0 0)) (.tmp 36) 35 rfl w1.heap.size 9 i9 (.string ⟨#[]⟩) 1 16 Tryd.underlying35 HI9.out.1 HI9.out.2.1 HI9.out.2.2.1 HI9.out.2.2.2 rfl (by decide) (.slice none 0 0) 0 [] rfl (own_nil _ _ _ _) ⟨pb, 0, none⟩ pp.length pcap (pp.map Value.string) rfl HPPL.out HNEWS.out HONE.out (by unfold maxLen; omega) (by omega) hbase ?_; rintro v9 w3 hr9 hg9; rw [Nat.zero_add, List.nil_append] at hr9; obtain ⟨a9, c9, rfl⟩ := own_slice hr9; have hfc9 : Fr [] wr w3 := hfc.trans0 (Fr.of_grown hg9); clear hfc; have hfc := hfc9; have HR9 := Lib.hid hr9; clear hr9 hg9 hfc9)
          | (refine step_append_own rfl (.tmp 28) (.tmp 58) 28 rfl w1.heap.size 40 i0 z0 27 104 Tryd.underlying28 HI40.out.1 HI40.out.2.1 HI40.out.2.2.1 HI40.out.2.2.2.1 HI40.out.2.2.2.2 (by decide) u7 k _ rfl (own_fr0 HOWN.out (hfc.alloc _)) ⟨_, 0, none⟩ 1 1 (entCells p0 (.slice a9 pp.length c9) G) rfl ?_ (news_new _ _ _ rfl) (entCells_one _ _ _ _ _) ?_ ?_ (Nat.le_trans hbase (hfc.alloc _).size) ?_
             · exact entCells_length _ _ _
             · unfold maxLen; omega
             · omega
             rintro v31 w4 hr31 hg31
             have hel := ent_last hfc (Fr.of_grown hg31) HOWN.out HFL.out HR9.out
             have hk := hel.1
             have hkept : w4.cell? ⟨f0, 0, none⟩ = some (.string p0.name) ∧ w4.cell? ⟨f0, 1, none⟩ = some (.int .u16 p0.init) ∧ w4.cell? ⟨f0, 2, none⟩ = some (.slice (some ⟨pb, 0, none⟩) pp.length pcap) ∧ w4.cell? ⟨f0, 3, none⟩ = some (.int .i64 p0.size) := ⟨hk.cell 0, hk.cell 1, hk.cell 2, hk.cell 3⟩
             have HFIN := Lib.hid (And.intro hel.2.2 (And.intro hr31 hel.2.1))
             clear hel hk hr31 hg31 HR9))
      all_goals
        clear hwi
        go_wp2_with fail
        go_roundw
        case rel =>
          obtain ⟨hFW, hr31, hT⟩ := HFIN.out
          refine ⟨k + 1, fun i => if i = k then .slice a9 pp.length c9 else pth i, by omega, by go_num, ?_, ?_, ?_⟩
          · exact hf.own HOWN.out (Nat.le_refl _) hFW
          · rw [entRows_succ]
            simp only [if_pos]
            rw [HE.out, HP0.out, HG.out, entRows_congr (pth' := pth) (fun i hi => if_neg (by omega))]
            exact hr31
          · intro i hi
            by_cases hik : i = k
            · subst hik
              simp only [if_pos]
              rw [HPP.out]
              exact hT
            · simp only [if_neg hik]
              have := HTX.out i (by omega)
              exact own_fr this hFW (own_sep this HOWN.out (by decide))
        case measure => simp [intOf]; omega
    · obtain rfl : k = tl := by omega
      have hrow : wr.ownsRow w.heap.size 40 27 u7 k (entRows k (fun i => t.order.getD i 0) P pth (entB F ss cs)) := own_mono hown hf1.size
      have htx2 : ∀ i, i < k → TextsIs wr w.heap.size (pth i) (((t.paths (fun e => (P e).name) []).getD i (0, [])).2) := fun i hi => own_mono (htx i hi) hf1.size
      have hfw := hf1.trans0 hf
      have H := Lib.hid (And.intro hfw (And.intro hrow htx2))
      clear hrow htx2 hfw hown htx hown0
      go_wp2_with fail
      go_ret2
      exact ⟨H.out.1, u7, pth, rfl, by rw [hlen]; exact H.out.2.1, by rw [hlen]; exact H.out.2.2⟩
end Go.Proofs.YtokpomdfgbbhlaaDoor

/- What Walk yields; the steps of the region that lays a reading. -/
namespace Go.Proofs.YtokpomdfgbbhlaaDoor
open Go Go.RowKit Go.Maps

/-- The place up to which the first j readings read. -/
def rdTo (us : Nat → Nat) (len j : Nat) : Nat := min len (sumN us j)
theorem rdTo_zero (us : Nat → Nat) (len : Nat) : rdTo us len 0 = 0 := by simp [rdTo, sumN]
theorem rdTo_le (us : Nat → Nat) (len j : Nat) : rdTo us len j ≤ len := Nat.min_le_left _ _
theorem rdTo_succ (us : Nat → Nat) (len j : Nat) : rdTo us len (j + 1) = rdTo us len j + cntAt len (rdTo us len j) (us j) := by
  unfold rdTo cntAt
  rw [sumN]
  omega

/-- The cells of what the readings told. -/
def tellRow (dv : Nat → Value) (us : Nat → Nat) (len n : Nat) : List Value :=
  (List.range n).flatMap (fun j => [dv j, I64 (cntAt len (rdTo us len j) (us j)), I64 (if cntAt len (rdTo us len j) (us j) = us j then 0 else 6)])
theorem tellRow_succ (dv : Nat → Value) (us : Nat → Nat) (len n : Nat) : tellRow dv us len (n + 1) = tellRow dv us len n ++ [dv n, I64 (cntAt len (rdTo us len n) (us n)), I64 (if cntAt len (rdTo us len n) (us n) = us n then 0 else 6)] := by
  simp [tellRow, List.range_succ]
theorem tellRow_congr {dv dv' : Nat → Value} (us : Nat → Nat) (len n : Nat) (h : ∀ j, j < n → dv j = dv' j) : tellRow dv us len n = tellRow dv' us len n := by
  induction n with
  | zero => rfl
  | succ n ih => rw [tellRow_succ, tellRow_succ, ih (fun j hj => h j (by omega)), h n (by omega)]

/-- What the readings of an entry told, in memory. -/
def ReadsIs (w : World) (base : Nat) (rv : Value) (us : Nat → Nat) (len : Nat) (dat : Nat → UInt8) (n : Nat) : Prop :=
  ∃ dv : Nat → Value, w.ownsRow base 55 3 rv n (tellRow dv us len n) ∧ ∀ j, j < n → w.ownsRow base 5 1 (dv j) (cntAt len (rdTo us len j) (us j)) (tab (cntAt len (rdTo us len j) (us j)) (fun x => U8 (dat (rdTo us len j + x))))

theorem ReadsIs.mono {w : World} {base base' : Nat} {rv : Value} {us : Nat → Nat} {len : Nat} {dat : Nat → UInt8} {n : Nat} (h : ReadsIs w base rv us len dat n) (hb : base' ≤ base) : ReadsIs w base' rv us len dat n := by
  obtain ⟨dv, h1, h2⟩ := h
  exact ⟨dv, own_mono h1 hb, fun j hj => own_mono (h2 j hj) hb⟩

/-- Rows of bytes and of tellings stay where no block of theirs turns: neither a File, nor a Reader, nor a Walked, nor a new block. -/
theorem ReadsIs.fr {w w' : World} {base : Nat} {rv : Value} {us : Nat → Nat} {len : Nat} {dat : Nat → UInt8} {n : Nat} {ms : List Nat} (h : ReadsIs w base rv us len dat n) (f : Fr ms w w')
    (hm : ∀ x ∈ ms, x < base ∨ w.heap.size ≤ x ∨ ∃ T l, Blk w x T l ∧ T ≠ 55 ∧ T ≠ 5) : ReadsIs w' base rv us len dat n := by
  have key : ∀ {e size m : Nat} {v : Value} {xs : List Value}, w.ownsRow base e size v m xs → (e = 55 ∨ e = 5) → ∀ k, v.ownBlock = some k → k ∉ ms := by
    intro e size m v xs ho he k hk hmem
    rcases hm k hmem with h1 | h1 | ⟨T, l, hT, h55, h5⟩
    · have := (ho.lt k hk).1
      omega
    · have := (ho.lt k hk).2
      omega
    · have := own_ne ho hT (by rcases he with rfl | rfl <;> assumption)
      exact this (by rw [hk]; simp)
  obtain ⟨dv, h1, h2⟩ := h
  exact ⟨dv, own_fr h1 f (key h1 (.inl rfl)), fun j hj => own_fr (h2 j hj) f (key (h2 j hj) (.inr rfl))⟩

/-- The cells of what was walked. -/
def walkRow (nm : Nat → ByteArray) (rv : Nat → Value) (n : Nat) : List Value := (List.range n).flatMap (fun k => [.string (nm k), rv k])
theorem walkRow_succ (nm : Nat → ByteArray) (rv : Nat → Value) (n : Nat) : walkRow nm rv (n + 1) = walkRow nm rv n ++ [.string (nm n), rv n] := by
  simp [walkRow, List.range_succ]
theorem walkRow_congr {rv rv' : Nat → Value} (nm : Nat → ByteArray) (n : Nat) (h : ∀ j, j < n → rv j = rv' j) : walkRow nm rv n = walkRow nm rv' n := by
  induction n with
  | zero => rfl
  | succ n ih => rw [walkRow_succ, walkRow_succ, ih (fun j hj => h j (by omega)), h n (by omega)]

/-- What Walk yields, in memory. -/
def WalkIs (w : World) (base : Nat) (v : Value) (n : Nat) (nm : Nat → ByteArray) (len : Nat → Nat) (dat : Nat → Nat → UInt8) (us : Nat → Nat) (nu : Nat) : Prop :=
  ∃ rv : Nat → Value, w.ownsRow base 53 2 v n (walkRow nm rv n) ∧ ∀ k, k < n → ReadsIs w base (rv k) us (len k) (dat k) nu

theorem info55 : (Tryd.prog.info? 55).map (fun i => (i.zero.map (·.cells.size), i.size, i.bytes)) = some (some 3, 3, 40) := by kernel_rfl
theorem info53 : (Tryd.prog.info? 53).map (fun i => (i.zero.map (·.cells.size), i.size, i.bytes)) = some (some 2, 2, 40) := by kernel_rfl
theorem info_parts3 {e n sz by_ : Nat} (h : (Tryd.prog.info? e).map (fun i => (i.zero.map (·.cells.size), i.size, i.bytes)) = some (some n, sz, by_)) : ∃ i z, Tryd.prog.info? e = some i ∧ i.zero = some z ∧ i.size = sz ∧ i.bytes = by_ ∧ z.cells.size = n := by
  cases hi : Tryd.prog.info? e with
  | none => rw [hi] at h; cases h
  | some i =>
    rw [hi] at h
    simp only [Option.map_some, Option.some.injEq, Prod.mk.injEq] at h
    obtain ⟨h1, h2, h3⟩ := h
    cases hz : i.zero with
    | none => rw [hz] at h1; cases h1
    | some z => rw [hz] at h1; simp at h1; exact ⟨i, z, rfl, hz, h2, h3, h1⟩

/-- The code of a reading's error. -/
theorem code_ex (c m : Nat) (ev ex : Value) (a : Addr) (hev : ev = .iface 187 (.pointer (some a))) (h : EofIs c m ev ex) (w : World) : Calls Tryd.prog 38 #[ex] w fun e w' => e = .returned (.int .i64 ((if c = m then 0 else 6 : Nat) : Int)) ∧ Fr [] w w' := by
  unfold EofIs at h
  by_cases hc : c = m
  · rw [if_pos hc] at h ⊢
    rw [h]
    refine (code_nil w).mono ?_
    rintro e w' ⟨rfl, rfl⟩
    exact ⟨rfl, Fr.refl _ _⟩
  · rw [if_neg hc] at h ⊢
    rw [h, hev]
    exact code_eof a w

theorem enter38 (v : Value) (w : World) : Sem.run Tryd.prog (do let d ← Deferred.ofValue (Value.func (Fn.func 38) #[] #[]) #[v]; invoke d.target d.args) w = Result.ok (Next.enter 38 #[v]) w := by kernel_rfl

/-- A call of code, as a step of a region that draws its order. -/
theorem step_code {ops : Array Oper} {o : Oper} {a : Act} {w : World} {K : Act → World → Prop} {Q : Exit → Act → World → Prop} {E : Prop} (hgd : o.guard = none) (x : Operand) (t : TypeId)
    (ho : o.op = .call { callee := .value (.func 38), args := #[x], argTypes := #[t] }) (v : Value) (k : Nat) (hx : a.eval x = v) (hc : Calls Tryd.prog 38 #[v] w fun e w' => e = .returned (.int .i64 (k : Nat)) ∧ Fr [] w w')
    (h : ∀ w', Fr [] w w' → K (a.put o.dst (.int .i64 (k : Nat))) w') : if Region.wanted o (yielded ops a.tmps) = true then Oper.wp Tryd.prog o a w K Q else E := by
  have hw : Region.wanted o (yielded ops a.tmps) = true := by simp [Region.wanted, hgd]
  rw [if_pos hw]
  have hr : (execOp a.eval o).run Tryd.prog w = .ok (.enter 38 #[v]) w := by
    have hf : a.eval (.func 38) = .func (.func 38) #[] #[] := rfl
    simp only [execOp, ho, resolve, List.map_toArray, List.map_cons, List.map_nil, hx, hf]
    exact enter38 v w
  show o.upon Tryd.prog a K Q ((execOp a.eval o).run Tryd.prog w)
  rw [hr, Oper.upon_enter]
  refine hc.mono ?_
  rintro e w' ⟨rfl, hf⟩
  exact h w' hf
end Go.Proofs.YtokpomdfgbbhlaaDoor

/- FnAlike: entries are those that stand in the file, whichever size sectors have (part 9 of 12). No condition but the statement's own. -/
import Derived.Deep.CutBlock
import Derived.StillTailTactics
import Derived.Test.YtokpomdfgbbhlaaDoorAlh
set_option linter.all false
set_option linter.unusedVariables false
set_option linter.unusedSimpArgs false
set_option linter.unnecessarySimpa false
/- The contract of (*Reader).readAt, where what is asked for lies in the file and fits into the buffer. -/
namespace Go.Proofs.YtokpomdfgbbhlaaDoor
open Go Go.RowKit

set_option maxRecDepth 100000 in
set_option maxHeartbeats 1000000 in
theorem readAt_any (rb sb bb n cap off m ub ul uc : Nat) (F : Nat → UInt8) (L : List Value) (w : World) (hS : Src w sb bb n cap F)
    (h3 : w.cell? ⟨rb, 7, none⟩ = some (.iface 81 (.pointer (some ⟨sb, 0, none⟩))))
    (hsl : w.cell? ⟨rb, 0, none⟩ = some (.bool false)) (hbc : w.cell? ⟨rb, 2, none⟩ = some (.slice (some ⟨ub, 0, none⟩) ul uc)) (hul : ul ≤ uc)
    (hL : Blk w ub 5 L) (h1m : 1 ≤ m) (hm : m ≤ ul) (hLm : m ≤ L.length) (hn : off + m ≤ n) (hru : rb ≠ ub) :
    Calls Tryd.prog 56 #[.pointer (some ⟨rb, 0, none⟩), .int .i64 off, .int .i64 m] w fun e w' =>
      e = .returned (.tuple #[.slice (some ⟨ub, 0, none⟩) m uc, .nilIface]) ∧ Fr [ub] w w' ∧ Blk w' ub 5 (splice L 0 (tab m (fun i => U8 (F (off + i))))) := by
  have hd : decide (ul < m) = false := by simp; omega
  have hm0 : (0 : Int) ≤ (m : Int) := by omega
  have hm1 : (m : Int) ≤ (uc : Int) := by omega
  have hna := nil_ahead_ra
  have hme := method_ra
  go_enter Tryd.func56, Tryd.ntmps56
  go_upto_region 8 with (fail)
  go_cut [10, 11] from 47 to 63 (fun s10 s11 w1 => s10 = .int .i64 m ∧ s11 = .nilIface ∧ Fr [ub] w w1 ∧ Blk w1 ub 5 (splice L 0 (tab m (fun i => U8 (F (off + i))))))
  case first =>
    have hcon := Lib.hid (stAt_any sb ub 0 m uc bb n cap off _ rfl F L w.drew h1m hn hS.ncap hS.sc hS.bytes hL (by omega))
    go_region_held3 (fun w' => w'.cell? ⟨rb, 7, none⟩ = some (.iface 81 (.pointer (some ⟨sb, 0, none⟩))) ∧ w'.cell? ⟨rb, 2, none⟩ = some (.slice (some ⟨ub, 0, none⟩) ul uc))
      (first | go_keep | exact ⟨hf2.cell (by simp; exact hru) h3, hf2.cell (by simp; exact hru) hbc⟩)
      (first | (go_at_call 94; refine hcon.out.mono ?_; rintro e w2 ⟨rfl, hf2, hb2⟩))
    all_goals
      go_wp2_with fail
      go_meet
      case rel => exact ⟨rfl, rfl, (Fr.refl _ _).drew.trans_same hf2, hb2⟩
  case rest =>
    obtain ⟨rfl, rfl, hf, hb2⟩ := hcut
    have h5 := hf.cell (by simp; exact hru) hbc
    go_wp2_with fail
    go_ret2
    exact ⟨rfl, hf, hb2⟩
end Go.Proofs.YtokpomdfgbbhlaaDoor

/- The contract of (*Reader).setHeader over a file whose header is sound. -/
namespace Go.Proofs.YtokpomdfgbbhlaaDoor
open Go Go.RowKit

set_option maxRecDepth 100000 in
set_option maxHeartbeats 1000000 in
theorem setHeader_any (rb sb bb n cap ub uc ss : Nat) (F : Nat → UInt8) (L : List Value) (w : World) (hS : Src w sb bb n cap F) (hn : 512 ≤ n)
    (hrb : Blk w rb 91 (rdCells 0 (.slice (some ⟨ub, 0, none⟩) 512 uc) (.pointer none) (.slice none 0 0) (.slice none 0 0) 0 sb .nilIface)) (huc : 512 ≤ uc ∧ uc ≤ 9223372036854775807)
    (hL : Blk w ub 5 L) (hLl : 512 ≤ L.length) (hH : HdrOK F ss) :
    Calls Tryd.prog 49 #[.pointer (some ⟨rb, 0, none⟩)] w fun e w' =>
      e = .returned .nilIface ∧ Fr [rb, ub] w w' ∧ ∃ hb fb, w.heap.size ≤ hb ∧ w.heap.size ≤ fb ∧
        Blk w' rb 91 (rdCells ss (.slice (some ⟨ub, 0, none⟩) 512 uc) (.pointer (some ⟨hb, 0, none⟩)) (.slice none 0 0) (.slice none 0 0) 0 sb .nilIface) ∧
        Blk w' hb 142 [.pointer (some ⟨fb, 0, none⟩), .slice none 0 0, .slice none 0 0, .slice none 0 0] ∧ Blk w' fb 147 (hdrN F 109) ∧
        ∃ L', Blk w' ub 5 L' ∧ L'.length = L.length := by
  have hru : rb ≠ ub := fun h => by subst h; exact absurd (hrb.unique hL).1 (by decide)
  go_enter Tryd.func49, Tryd.ntmps49
  go_wp2_with fail
  refine (readAt_any rb sb bb n cap 0 512 ub 512 uc F L _ hS (hrb.cell 7) (hrb.cell 0) (hrb.cell 2) huc.1 hL (by omega) (by omega) hLl (by omega) hru).mono ?_
  rintro e w1 ⟨rfl, hf1, hb1⟩
  go_wp2_with fail
  have hrb1 := hrb.fr hf1 (by simpa using hru)
  refine (makeHeader_any ub 512 uc F w1 (by omega) (by omega) huc.1 huc.2 ?_).mono ?_
  · intro i hi
    have := blk_read hb1 (by omega) i hi
    simpa using this
  rintro e w2 ⟨rfl, hf2, hb2⟩
  have hrb2 := hrb1.fr0 hf2
  have l1 := hb2.lt
  have l3 := hrb1.lt
  have l2 := hrb2.lt
  have c3 := hrb2.cell 3
  have z3 := hrb2.frozen 3
  simp only [rdCells] at c3
  have hub2 := hb1.fr0 hf2
  have hz1 := hf1.size
  have hz2 := hf2.size
  have c0 := fun i => hb2.cell i
  have g0 := (c0 0).trans (hdr_sig F)
  rw [hH.sig] at g0
  clear c0
  go_upto_region 5 with (fail)
  go_cut [31] from 21 to 30 (fun s31 w3 => s31 = .bool false ∧ Fr [rb, ub] w w3 ∧ w1.heap.size < w2.heap.size ∧ Blk w3 rb 91 (rdCells 0 (.slice (some ⟨ub, 0, none⟩) 512 uc) (.pointer (some ⟨w2.heap.size, 0, none⟩)) (.slice none 0 0) (.slice none 0 0) 0 sb .nilIface) ∧
      Blk w3 w2.heap.size 142 [.pointer (some ⟨w1.heap.size, 0, none⟩), .slice none 0 0, .slice none 0 0, .slice none 0 0] ∧ Blk w3 w1.heap.size 147 (hdrN F 109) ∧
      ∃ L', Blk w3 ub 5 L' ∧ L'.length = L.length)
  case first =>
    go_wp2_with fail
    go_meet
    case rel =>
      refine ⟨rfl, (((hf1.mono (ms' := [rb, ub]) (by simp)).trans0 hf2).setCell (.inl (by simp)) _).alloc _, l1, (hrb2.set 3 _).alloc _, ?_, (hb2.setOther (by dsimp only; omega) _).alloc _, _, (hub2.setOther (by exact hru) _).alloc _, ?_⟩
      · have := Blk.new' (w2.setCell ⟨rb, 3, none⟩ (.pointer (some ⟨w2.heap.size, 0, none⟩))) 142 #[.pointer (some ⟨w1.heap.size, 0, none⟩), .slice none 0 0, .slice none 0 0, .slice none 0 0]
        simpa using this
      · rw [length_splice _ _ _ (by simp; omega)]
  case rest =>
  obtain ⟨rfl, hf, hlt, hrb, hhb, hfb, hub⟩ := hcut
  have e1 := hrb.cell 1
  have e3 := hrb.cell 3
  have y1 := hrb.frozen 1
  have d0 := hhb.cell 0
  have f21 := (hfb.cell 21).trans (hdr_shift F)
  have f44 := (hfb.cell 44).trans (hdr_ndf F)
  have f42 := (hfb.cell 42).trans (hdr_nmf F)
  have f31 := (hfb.cell 31).trans (hdr_nfat F)
  rw [hH.ndf] at f44
  have hnf := hH.nfat
  have hnm := hH.nmf
  have hmi := hH.mini
  simp only [rdCells] at e1 e3
  obtain ⟨L', hub, hLL⟩ := hub
  have n1 : rb ≠ w2.heap.size := Nat.ne_of_lt l2
  have n2 : rb ≠ w1.heap.size := Nat.ne_of_lt l3
  rcases hH.shift with ⟨h9, rfl⟩ | ⟨h12, rfl⟩
  · rw [h9] at f21
    generalize fld F 64 4 = nmf at *
    generalize fld F 44 4 = nfat at *
    by_cases hnz : 0 < nmf
    · go_upto_region 17 with (fail)
      go_quiet (fail)
      go_upto_region 19 with (fail)
      go_quiet (fail)
      go_wp2_with fail
      go_ret
      exact ⟨rfl, ((hf.setCell (.inl (by simp)) _).drewN _).drewN _, _, _, Nat.le_trans hz1 hz2, hz1, hrb.set 1 _, hhb.setOther (by exact n1) _, hfb.setOther (by exact n2) _, L', hub.setOther (by exact hru) _, hLL⟩
    · go_wp2_with fail
      go_ret
      exact ⟨rfl, (hf.setCell (.inl (by simp)) _), _, _, Nat.le_trans hz1 hz2, hz1, hrb.set 1 _, hhb.setOther (by exact n1) _, hfb.setOther (by exact n2) _, L', hub.setOther (by exact hru) _, hLL⟩
  · rw [h12] at f21
    generalize fld F 64 4 = nmf at *
    generalize fld F 44 4 = nfat at *
    by_cases hnz : 0 < nmf
    · go_upto_region 17 with (fail)
      go_quiet (fail)
      go_upto_region 19 with (fail)
      go_quiet (fail)
      go_wp2_with fail
      go_ret
      exact ⟨rfl, ((hf.setCell (.inl (by simp)) _).drewN _).drewN _, _, _, Nat.le_trans hz1 hz2, hz1, hrb.set 1 _, hhb.setOther (by exact n1) _, hfb.setOther (by exact n2) _, L', hub.setOther (by exact hru) _, hLL⟩
    · go_wp2_with fail
      go_ret
      exact ⟨rfl, (hf.setCell (.inl (by simp)) _), _, _, Nat.le_trans hz1 hz2, hz1, hrb.set 1 _, hhb.setOther (by exact n1) _, hfb.setOther (by exact n2) _, L', hub.setOther (by exact hru) _, hLL⟩
end Go.Proofs.YtokpomdfgbbhlaaDoor

/- The contract of (*Reader).setDifats where the header names no sectors of the DIFAT. -/
namespace Go.Proofs.YtokpomdfgbbhlaaDoor
open Go Go.RowKit

/-- The cells of a header. -/
def hdCells (fb : Nat) (difats mf ms : Value) : List Value := [.pointer (some ⟨fb, 0, none⟩), difats, mf, ms]

set_option maxRecDepth 100000 in
set_option maxHeartbeats 1000000 in
theorem setDifats_any (rb hb fb : Nat) (F : Nat → UInt8) (w : World) (h3 : w.cell? ⟨rb, 3, none⟩ = some (.pointer (some ⟨hb, 0, none⟩)))
    (hhb : Blk w hb 142 (hdCells fb (.slice none 0 0) (.slice none 0 0) (.slice none 0 0))) (hfb : Blk w fb 147 (hdrN F 109)) (hnd : fld F 72 4 = 0) (hrh : rb ≠ hb) :
    Calls Tryd.prog 50 #[.pointer (some ⟨rb, 0, none⟩)] w fun e w' =>
      e = .returned .nilIface ∧ Fr [hb] w w' ∧ Blk w' hb 142 (hdCells fb (.slice (some ⟨fb, 45, none⟩) 109 109) (.slice none 0 0) (.slice none 0 0)) := by
  have d0 := hhb.cell 0
  have d1 := hhb.cell 1
  have z1 := hhb.frozen 1
  have f44 := (hfb.cell 44).trans (hdr_ndf F)
  rw [hnd] at f44
  have hhf : fb ≠ hb := fun h => by subst h; exact absurd (hfb.unique hhb).1 (by decide)
  simp only [hdCells] at d0 d1
  go_enter Tryd.func50, Tryd.ntmps50
  go_wp2_with fail
  go_region
  go_wp2_with fail
  go_ret
  exact ⟨rfl, ((Fr.refl _ _).drew.setCell (.inl (by simp)) _), hhb.drew.set 1 _⟩
end Go.Proofs.YtokpomdfgbbhlaaDoor

/- The contract of (*Reader).setDirEntries over a sound directory. -/
namespace Go.Proofs.YtokpomdfgbbhlaaDoor
open Go Go.RowKit Go.Maps

/-- The files e < E lie in memory. -/
def Files (w : World) (base rb : Nat) (G : Nat → Nat → UInt8) (P : Nat → EntP) (fk dk : Nat → Nat) (E : Nat) : Prop :=
  ∀ e, e < E → base ≤ fk e ∧ base ≤ dk e ∧ Blk w (fk e) 95 (flCells (P e).name (P e).init (.slice none 0 0) (P e).size 0 (fld (G e) 116 4) 0 (dk e) rb) ∧ Blk w (dk e) 119 (tab 69 (dirL12 (G e)))

theorem Files.fr {w w' : World} {base rb : Nat} {G : Nat → Nat → UInt8} {P : Nat → EntP} {fk dk : Nat → Nat} {E : Nat} {ms : List Nat} (h : Files w base rb G P fk dk E) (f : Fr ms w w')
    (h1 : ∀ e, e < E → fk e ∉ ms) (h2 : ∀ e, e < E → dk e ∉ ms) : Files w' base rb G P fk dk E := fun e he => by
  obtain ⟨a, b, c, d⟩ := h e he
  exact ⟨a, b, c.fr f (h1 e he), d.fr f (h2 e he)⟩

theorem info92 : (Tryd.prog.info? 92).map (fun i => (i.zero, i.size, i.bytes)) = some (some (.pointer none), 1, 8) := by kernel_rfl

theorem fixFile_ok (v fk d : Nat) (p : EntP) (path : Value) (i : Int) (cur : Nat) (rem : Int) (r : Nat) (G : Nat → UInt8) (w : World)
    (hf : Blk w fk 95 (flCells ByteArray.empty 0 path 0 i cur rem d r)) (hd : Blk w d 119 (tab 69 (dirL12 G))) (hp : EntOK G p)
    (hpr : ∀ i, 65 ≤ i → i ≤ 90 → w.cell? ⟨2, i, none⟩ = some (.int .u8 160)) (h2 : fk ≠ 2) :
    Calls Tryd.prog 61 #[.int .u16 v, .pointer (some ⟨fk, 0, none⟩)] w fun e w' => e = .returned (.tuple #[]) ∧ Fr [fk] w w' ∧ Blk w' fk 95 (flCells p.name p.init path p.size i cur rem d r) := by
  rcases hp with ⟨a, b, c, e, f⟩ | ⟨m, sz, a1, a2, a3, a4, a5, a6, a7, a8, a9, b1, b2, b3⟩
  · refine (fixFile_unused v fk d _ _ path 0 i cur rem r G w hf hd a b).mono ?_
    rintro e' w' ⟨rfl, rfl⟩
    rw [c, e, f]
    exact ⟨rfl, Fr.refl _ _, hf⟩
  · rw [b1, b2]
    exact fixFile_any v fk d _ _ path i cur rem r G m sz w hf hd a1 a2 a3 (fun i hi => a4 i (by omega)) a5 a6 (hpr _ a5 a6) h2 a7 a8 a9 _ b3

theorem findNext_at (rb hb fb sb bb n cap ss sn : Nat) (F : Nat → UInt8) (buf file dir mf ms wa : Value) (entry : Int) (w : World) (hS : Src w sb bb n cap F)
    (hrb : Blk w rb 91 (rdCells ss buf (.pointer (some ⟨hb, 0, none⟩)) file dir entry sb wa)) (hhb : Blk w hb 142 (hdCells fb (.slice (some ⟨fb, 45, none⟩) 109 109) mf ms)) (hfb : Blk w fb 147 (hdrN F 109))
    (hss : ss = 512 ∨ ss = 4096) (hat : FatAt F n ss sn) :
    Calls Tryd.prog 62 #[.pointer (some ⟨rb, 0, none⟩), .int .u32 sn, .bool false] w fun e w' => e = .returned (.tuple #[.int .u32 (fatNext F ss sn), .nilIface]) ∧ Fr [] w w' :=
  findNext_reg rb hb sb bb ss n cap sn fb F _ w hS (hrb.cell 1) (hrb.cell 3) (hrb.cell 7) hss hat.idx hat.loc (hhb.cell 1) ((hfb.cell _).trans (hdrN_tab F 109 _ (Nat.le_refl _) hat.idx)) hat.here

/-- One file more behind the row. -/
theorem dir_step {w w2 w3 w5 : World} {rb ub N fkb mb : Nat} {B : Nat → Nat → UInt8} {P : Nat → EntP} {fk dk : Nat → Nat} {u4 v' : Value} {S : Nat → Prop} {L2 l0 : List Value} {o : Obj}
    (lw : w.heap.size ≤ fkb) (hlu : ub < w.heap.size) (hfr2 : Fr [ub] w w2) (hbu2 : Blk w2 ub 5 L2) (hfi2 : Files w2 w.heap.size rb B P fk dk N) (hlt : ∀ e, e < N → fk e < fkb ∧ dk e < fkb)
    (hmo : ∀ a b, a < b → b < N → fk a < fk b ∧ dk a < dk b) (hown2 : w2.ownsRow w.heap.size 92 1 u4 N (tab N (fun e => .pointer (some ⟨fk e, 0, none⟩)))) (hms2 : MSet w2 mb S) (hbk2 : Blk w2 fkb 95 l0)
    (hbd2 : Blk w2 (fkb + 1) 119 (tab 69 (dirL12 (B N)))) (hf24 : Fr [fkb] w2 w3) (hbk4 : Blk w3 fkb 95 (flCells (P N).name (P N).init (.slice none 0 0) (P N).size 0 0 0 (fkb + 1) rb))
    (hown5 : w5.ownsRow w.heap.size 92 1 v' (N + 1) (tab N (fun e => .pointer (some ⟨fk e, 0, none⟩)) ++ [.pointer (some ⟨fkb, 0, none⟩)]))
    (hg : ((w3.setCell ⟨fkb, 5, none⟩ (.int .u32 (fld (B N) 116 4))).alloc o).grownBy w5 u4.ownBlock) :
    ∃ fk' dk', Fr [ub] w w5 ∧ Files w5 w.heap.size rb B P fk' dk' (N + 1) ∧ (∀ a b, a < b → b < N + 1 → fk' a < fk' b ∧ dk' a < dk' b) ∧
      w5.ownsRow w.heap.size 92 1 v' (N + 1) (tab (N + 1) (fun e => .pointer (some ⟨fk' e, 0, none⟩))) ∧ MSet w5 mb S ∧ Blk w5 ub 5 L2 := by
  have n1 := own_ne hown2 hbk2 (by decide)
  have n2 := own_ne hown2 hbu2 (by decide)
  have n3 := own_mset hown2 hms2
  have n4 := own_ne hown2 hbd2 (by decide)
  have hF : Fr (fkb :: u4.ownBlock.toList) w2 w5 := by
    have a1 : Fr [fkb] w2 ((w3.setCell ⟨fkb, 5, none⟩ (.int .u32 (fld (B N) 116 4))).alloc o) := (hf24.setCell (.inl (by simp)) _).alloc _
    exact (a1.mono (fun x hx => .inl (by simp at hx; simp [hx]))).trans (Fr.of_grown hg) (fun x hx => .inl (by simp at hx; simp [hx]))
  have e5 : Blk w5 fkb 95 (flCells (P N).name (P N).init (.slice none 0 0) (P N).size 0 (fld (B N) 116 4) 0 (fkb + 1) rb) := by
    have := (hbk4.set 5 (.int .u32 (fld (B N) 116 4))).alloc o
    exact this.fr (Fr.of_grown hg) n1
  refine ⟨fun e => if e = N then fkb else fk e, fun e => if e = N then fkb + 1 else dk e, ?_, ?_, ?_, ?_, ?_, ?_⟩
  · refine hfr2.trans hF ?_
    intro x hx
    simp only [List.mem_cons, Option.mem_toList, Option.mem_def] at hx
    rcases hx with rfl | hx
    · exact .inr lw
    · exact .inr (hown2.lt x hx).1
  · intro e he
    by_cases h : e = N
    · subst h
      simp only [if_true]
      refine ⟨lw, by omega, e5, ?_⟩
      exact hbd2.fr hF (by simp only [List.mem_cons]; rintro (h | h); omega; exact n4 h)
    · simp only [if_neg h]
      obtain ⟨a, b, c, d⟩ := hfi2 e (by omega)
      have := hlt e (by omega)
      exact ⟨a, b, c.fr hF (by simp only [List.mem_cons]; rintro (h | h); omega; exact own_ne hown2 c (by decide) h), d.fr hF (by simp only [List.mem_cons]; rintro (h | h); omega; exact own_ne hown2 d (by decide) h)⟩
  · intro a b hab hb
    by_cases h : b = N
    · have := hlt a (by omega)
      have ha : ¬ a = N := by omega
      simp only [if_pos h, if_neg ha]; omega
    · have ha : ¬ a = N := by omega
      simp only [if_neg h, if_neg ha]
      exact hmo a b hab (by omega)
  · rw [tab_snoc]
    simp only [if_true]
    rw [tab_congr (g' := fun e => .pointer (some ⟨fk e, 0, none⟩)) (fun i hi => by rw [if_neg (by omega)])]
    exact hown5
  · exact hms2.fr hF (by simp only [List.mem_cons]; rintro (h | h); exact hms2.notBlk hbk2 h; exact n3 h)
  · exact hbu2.fr hF (by simp only [List.mem_cons]; rintro (h | h); omega; exact n2 h)

set_option maxRecDepth 100000 in
set_option maxHeartbeats 1000000 in
theorem setDir_any (rb hb fb sb bb n cap ub ul uc ss : Nat) (F : Nat → UInt8) (L : List Value) (m : Nat) (cs : Nat → Nat) (P : Nat → EntP) (w : World) (hS : Src w sb bb n cap F) (hn : n ≤ 1000000)
    (hss : ss = 512 ∨ ss = 4096)
    (hrb : Blk w rb 91 (rdCells ss (.slice (some ⟨ub, 0, none⟩) ul uc) (.pointer (some ⟨hb, 0, none⟩)) (.slice none 0 0) (.slice none 0 0) 0 sb .nilIface)) (huc : ul ≤ uc ∧ uc ≤ 9223372036854775807) (hul : ss ≤ ul)
    (hhb : Blk w hb 142 (hdCells fb (.slice (some ⟨fb, 45, none⟩) 109 109) (.slice none 0 0) (.slice none 0 0))) (hfb : Blk w fb 147 (hdrN F 109))
    (hL : Blk w ub 5 L) (hLl : ss ≤ L.length) (hub : bb ≠ ub) (hsu0 : sb ≠ ub) (hp : ∀ i, 65 ≤ i → i ≤ 90 → w.cell? ⟨2, i, none⟩ = some (.int .u8 160)) (h2u : 2 ≠ ub) (h2w : 2 < w.heap.size)
    (hmaj : fld F 26 2 = 3 ∨ (fld F 26 2 = 4 ∧ 1 ≤ fld F 40 4 ∧ fld F 40 4 ≤ 64000)) (hch : Chain F n ss (fld F 48 4) m cs) (hc1 : 1 ≤ m) (hc2 : m ≤ 1000)
    (hP : ∀ e, e < m * (ss / 128) → EntOK (entB F ss cs e) (P e)) :
    Calls Tryd.prog 51 #[.pointer (some ⟨rb, 0, none⟩)] w fun e w' =>
      e = .returned .nilIface ∧ Fr [rb, ub] w w' ∧ ∃ fk dk v, Files w' w.heap.size rb (entB F ss cs) P fk dk (m * (ss / 128)) ∧ (∀ i j, i < j → j < m * (ss / 128) → fk i < fk j ∧ dk i < dk j) ∧
        w'.ownsRow w.heap.size 92 1 v (m * (ss / 128)) (tab (m * (ss / 128)) (fun e => .pointer (some ⟨fk e, 0, none⟩))) ∧
        Blk w' rb 91 (rdCells ss (.slice (some ⟨ub, 0, none⟩) ul uc) (.pointer (some ⟨hb, 0, none⟩)) (.slice none 0 0) v 0 sb .nilIface) ∧
        ∃ L', Blk w' ub 5 L' ∧ L'.length = L.length := by
  have r1 : w.cell? ⟨rb, 1, none⟩ = some (.int .u32 ss) := hrb.cell 1
  have r3 : w.cell? ⟨rb, 3, none⟩ = some (.pointer (some ⟨hb, 0, none⟩)) := hrb.cell 3
  have d0 : w.cell? ⟨hb, 0, none⟩ = some (.pointer (some ⟨fb, 0, none⟩)) := hhb.cell 0
  have f18 := (hfb.cell 18).trans (hdr_major F)
  have f30 := (hfb.cell 30).trans (hdr_ndir F)
  have f32 := (hfb.cell 32).trans (hdr_dir F)
  have lr := hrb.lt
  have lh := hhb.lt
  have lf := hfb.lt
  go_enter Tryd.func51, Tryd.ntmps51
  go_upto_region 2 with (fail)
  go_cut [36] from 13 to 35 (fun s36 w1 => w = w1 ∧ ((s36 = .bool false) ∨ (s36 = .bool true ∧ 1 ≤ fld F 40 4 ∧ fld F 40 4 ≤ 64000)))
  case first =>
    rcases hmaj with h | ⟨h, hx, hy⟩
    · rw [h] at f18
      clear h
      go_wp2_with fail
      go_meet
      case rel => exact ⟨rfl, .inl rfl⟩
    · rw [h] at f18
      clear h
      have hxN : decide (0 < fld F 40 4) = true := by simp; omega
      go_wp2_with fail
      go_meet
      case rel => exact ⟨rfl, .inr ⟨rfl, hx, hy⟩⟩
  case rest =>
  obtain ⟨rfl, hs36⟩ := hcut
  go_upto_if 36 with (fail)
  go_cut [3] from 37 to 58 (fun s3 w1 => w = w1 ∧ ∃ c : Nat, 1 ≤ c ∧ c ≤ 64000 ∧ s3 = .int .i64 c)
  case first =>
    rcases hs36 with rfl | ⟨rfl, hx, hy⟩
    · go_wp2_with fail
      go_meet
      case rel => exact ⟨rfl, 20, by omega, by omega, rfl⟩
    · have hyI : (fld F 40 4 : Int) ≤ 64000 := by omega
      go_wp2_with fail
      go_meet
      case rel => exact ⟨rfl, fld F 40 4, by omega, by omega, rfl⟩
  case rest =>
  obtain ⟨rfl, c, hc1', hc2', rfl⟩ := hcut
  have h0 : (1 : Nat) ≤ 1 := Nat.le_refl 1
  obtain ⟨i0, hi, hz0, hz1, hz2⟩ := info_parts info92
  have hmm := @run_makeMap Tryd.prog
  have HP := Lib.hid hP
  clear hP
  have hPR := Lib.hid hp
  clear hp
  generalize hnum : ss / 128 = num at *
  have hnumI : (ss : Int) / 128 = (num : Int) := by omega
  have hRB := Lib.hid hrb
  have hHB := Lib.hid hhb
  have hFB := Lib.hid hfb
  have hCH := Lib.hid hch
  clear hch
  have hSS := Lib.hid hss
  clear hss
  have hnw : (num : Int) % 4294967296 = num := by have := hSS.out; omega
  have hn2 : num = 4 ∨ num = 32 := by have := hSS.out; omega
  have hs512 : 512 ≤ ss ∧ ss ≤ 4096 := by have := hSS.out; omega
  have hrul : rb ≠ ub := fun h => by subst h; exact absurd (hrb.unique hL).1 (by decide)
  have hhu : hb ≠ ub := fun h => by subst h; exact absurd (hhb.unique hL).1 (by decide)
  have hfu : fb ≠ ub := fun h => by subst h; exact absurd (hfb.unique hL).1 (by decide)
  have hsu : sb ≠ ub := hsu0
  go_upto_region 6 with (fail)
  go_wp2_with (refine wpList_make_own _ rfl _ _ 85 rfl w.heap.size 92 i0 (.pointer none) 1 Tryd.underlying85 hi hz0 hz1 .i64 .i64 (c : Int) c rfl rfl rfl (by rw [hz2]; omega) (by unfold maxLen; omega) (Nat.le_refl _) ?_; intro w1 hown1 hg1; have hf1 : Fr [] w (w1.alloc (Obj.map #[] 0)) := Fr.alloc (Fr.of_grown hg1) _; have q1 := hf1.cell0 r1; have q3 := hf1.cell0 r3; have q0 := hf1.cell0 d0; have q32 := hf1.cell0 f32)
  have hms := MSet.made w1 (fun k => ∃ i, 1 ≤ i ∧ i ≤ 0 ∧ k = cs i)
  have hmb : w.heap.size ≤ w1.heap.size := hg1.size
  generalize w1.heap.size = mb at *
  go_loopw [2, 4, 7] (fun s2 s4 s7 wr => ∃ (j : Nat) (fk dk : Nat → Nat), j ≤ m ∧ s2 = .nilIface ∧ s7 = .int .u32 (cs j : Nat) ∧ Fr [ub] w wr ∧ Files wr w.heap.size rb (entB F ss cs) P fk dk (j * num) ∧ (∀ a b, a < b → b < j * num → fk a < fk b ∧ dk a < dk b) ∧
      wr.ownsRow w.heap.size 92 1 s4 (j * num) (tab (j * num) (fun e => .pointer (some ⟨fk e, 0, none⟩))) ∧ MSet wr mb (fun k => ∃ i, 1 ≤ i ∧ i ≤ j ∧ k = cs i) ∧ ∃ L', Blk wr ub 5 L' ∧ L'.length = L.length) (fun _ s4 _ _ => m * num - lenOf s4)
  case atStart => 
    refine ⟨0, fun _ => 0, fun _ => 0, by omega, rfl, ?_, hf1.mono (by simp), ?_, ?_, ?_, hms, L, hL.fr0 hf1, rfl⟩
    · rw [hCH.out.first]
    · intro e he; omega
    · intro a b _ hb; omega
    · simp only [Nat.zero_mul]
      exact hown1.alloc _
  case round =>
    obtain ⟨j, fk, dk, hj, rfl, rfl, hf, hfi, hmo, hown, hmset, L', hb', hl'⟩ := hrel
    by_cases hlt : j < m
    · have hsn := hCH.out.low j hlt
      have hne : decide (cs j = 4294967294) = false := by simp; omega
      go_wp2_with fail
      go_cut [8, 9] from 78 to 95 (fun s8 s9 w2 => s8 = .slice (some ⟨ub, 0, none⟩) ss uc ∧ s9 = .nilIface ∧ Fr [ub] wr w2 ∧ Blk w2 ub 5 (splice L' 0 (tab ss (fun i => U8 (F ((cs j + 1) * ss + i))))))
      case first =>
        generalize hA : (cs j + 1) * ss = A at *
        clear hPR HP hmm hfi hmo hown hmset hown1 hg1 hms hi hz0 hz1 hz2 hs36 hmaj f18 f30 f32 d0 r3 q1 q3 q0 q32 r1
        have hW : wr.drew.drew = wr.drewN 2 := rfl
        have hrb2 := hRB.out.fr hf (by simpa using hrul)
        have hcon1 := Lib.hid (fun w0 => fileOffset_any ss (cs j) A hA w0 (by omega) (by omega))
        have hcon := Lib.hid (fun w0 (f0 : Fr [] wr w0) => readAt_any rb sb bb n cap A ss ub ul uc F L' w0 ((hS.fr hf (by simpa using hsu) (by simpa using hub)).fr0 f0) ((hrb2.fr0 f0).cell 7) ((hrb2.fr0 f0).cell 0) ((hrb2.fr0 f0).cell 2) huc.1 (hb'.fr0 f0) (by omega) (by omega) (by omega) (by omega) hrul)
        have q1w : wr.cell? ⟨rb, 1, none⟩ = some (.int .u32 ss) := hrb2.cell 1
        have hB := Lib.hid hb'
        clear hb' hrb hhb hfb hL hS
        have hAn := hsn.2
        have hc16 := hsn.1
        clear hsn hne hA
        have hs5 : ss ≤ 4096 := hs512.2
        have hs6 : IntKind.i64.wrap (ss : Int) = ss := by unfold IntKind.wrap; simp [IntKind.bits, IntKind.signed]; omega
        go_region_held3 (fun w' => w'.cell? ⟨rb, 1, none⟩ = some (.int .u32 ss))
          (first | go_keep | exact (hrb2.drew.fr hf3 (by simpa using hrul)).cell 1)
          (first | (go_at_call 58; refine (hcon1.out _).mono ?_; rintro e w3 ⟨rfl, rfl⟩) | (go_at_call 56; refine (hcon.out _ ((Fr.refl _ _).drew)).mono ?_; rintro e w3 ⟨rfl, hf3, hb3⟩))
        all_goals
          go_wp2_with fail
          go_meet
          case rel => exact ⟨rfl, rfl, (Fr.refl _ _).drew.trans_same hf3, hb3⟩
      case rest =>
        obtain ⟨rfl, rfl, hf2, hb2⟩ := hcut
        have hfw := hf.trans_same hf2
        have hfi2 := hfi.fr hf2 (fun e he => by simp; intro h; have := (hfi e he).1; have := hL.lt; omega) (fun e he => by simp; intro h; have := (hfi e he).2.1; have := hL.lt; omega)
        have hown2 := own_fr hown hf2 (fun k hk => by simp; rintro rfl; have := (hown.lt _ hk).1; have := hL.lt; omega)
        have hms2 := hmset.fr hf2 (by simpa using hmset.notBlk hb')
        generalize hLL : splice L' 0 (tab ss (fun i => U8 (F ((cs j + 1) * ss + i)))) = L2 at hb2
        have hLread : ∀ i, i < ss → L2[i]? = some (U8 (F ((cs j + 1) * ss + i))) := fun i hi => by rw [← hLL, splice_get _ _ _ (by simp; omega), if_pos (by simp; omega), Nat.sub_zero, tab_get _ _ _ hi]
        have hlen0 := own_len hown
        have hL2 : L2.length = L.length := by rw [← hLL, length_splice _ _ _ (by simp; omega)]; exact hl'
        clear hLL hb' hf hf2 hfi hown hmset
        go_wp2_with fail
        go_loopw [4, 10] (fun s4 s10 wi => ∃ (k : Nat) (fk dk : Nat → Nat), k ≤ num ∧ s10 = .int .i64 k ∧ Fr [ub] w wi ∧ Files wi w.heap.size rb (entB F ss cs) P fk dk (j * num + k) ∧ (∀ a b, a < b → b < j * num + k → fk a < fk b ∧ dk a < dk b) ∧
          wi.ownsRow w.heap.size 92 1 s4 (j * num + k) (tab (j * num + k) (fun e => .pointer (some ⟨fk e, 0, none⟩))) ∧ MSet wi mb (fun k => ∃ i, 1 ≤ i ∧ i ≤ j ∧ k = cs i) ∧ Blk wi ub 5 L2) (fun _ s10 _ => num - (intOf s10).toNat)
        case atStart => exact ⟨0, fk, dk, by omega, rfl, hfw, hfi2, hmo, hown2, hms2, hb2⟩
        case round =>
          clear hfw hfi2 hmo hown2 hms2 hb2
          clear fk dk
          obtain ⟨k, fk, dk, hk, rfl, hf, hfi, hmo, hown, hmset, hbu⟩ := hrel
          by_cases hkn : k < num
          · have hknI : (k : Int) < (num : Int) := by omega
            go_wp2_with fail
            have hent : ∀ x, entB F ss cs (j * num + k) x = F ((cs j + 1) * ss + k * 128 + x) := by
              intro x
              unfold entB
              rw [hnum, Nat.mul_comm j num, Nat.mul_add_div (by omega), Nat.mul_add_mod, Nat.div_eq_of_lt hkn, Nat.mod_eq_of_lt hkn]; simp
            have hEok := HP.out (j * num + k) (by have := Nat.mul_le_mul_right num hlt; rw [Nat.succ_mul] at this; omega)
            have hfiA := hfi
            generalize hG : entB F ss cs (j * num + k) = G at *
            have hfk : Fr [] wr (wr.alloc (Obj.cells #[Value.string { data := #[] }, Value.int IntKind.u16 0, Value.slice none 0 0, Value.int IntKind.i64 0, Value.int IntKind.i64 0, Value.int IntKind.u32 0, Value.int IntKind.i64 0, Value.pointer none, Value.pointer (some { block := rb, off := 0 })] 95)) := (Fr.refl _ _).alloc _
            have hbk := Blk.new' wr 95 #[Value.string { data := #[] }, Value.int IntKind.u16 0, Value.slice none 0 0, Value.int IntKind.i64 0, Value.int IntKind.i64 0, Value.int IntKind.u32 0, Value.int IntKind.i64 0, Value.pointer none, Value.pointer (some { block := rb, off := 0 })]
            refine (makeDirEntry_any ub (k * 128) (ss - k * 128) (uc - k * 128) G _ (by omega) (by omega) (by omega) (by omega) ?_).mono ?_
            · intro i hi
              rw [hent, Nat.add_assoc]
              exact hfk.cell0 ((hbu.cell (k * 128 + i)).trans (hLread _ (by omega)))
            rintro e w2 ⟨rfl, hf2, hbd⟩
            have hbk2 := hbk.fr0 hf2
            have k7 := hbk2.cell 7
            have z7 := hbk2.frozen 7
            have hfr2 := hf.trans0 (hfk.trans0 hf2)
            have hbu2 := hbu.fr0 (hfk.trans0 hf2)
            have hfi2 := hfi.fr (hfk.trans0 hf2) (by simp) (by simp)
            have hown2 := own_fr hown (hfk.trans0 hf2) (by simp)
            have hms2 := hmset.fr (hfk.trans0 hf2) (by simp)
            have hfks : (wr.alloc (Obj.cells #[Value.string { data := #[] }, Value.int IntKind.u16 0, Value.slice none 0 0, Value.int IntKind.i64 0, Value.int IntKind.i64 0, Value.int IntKind.u32 0, Value.int IntKind.i64 0, Value.pointer none, Value.pointer (some { block := rb, off := 0 })] 95)).heap.size = wr.heap.size + 1 := by simp
            rw [hfks] at hbd
            have HG := Lib.hid hG
            clear hbk hfk hf2 hG
            generalize hfb' : wr.heap.size = fkb at *
            have lw : w.heap.size ≤ fkb := by rw [← hfb']; exact hf.size
            have q3' : w2.cell? ⟨rb, 3, none⟩ = some (.pointer (some ⟨hb, 0, none⟩)) := hfr2.cell (by simpa using hrul) r3
            have q0' : w2.cell? ⟨hb, 0, none⟩ = some (.pointer (some ⟨fb, 0, none⟩)) := hfr2.cell (by simpa using hhu) d0
            have q18' : w2.cell? ⟨fb, 18, none⟩ = some (.int .u16 (fld F 26 2 : Nat)) := hfr2.cell (by simpa using hfu) f18
            have n1 : rb ≠ fkb := by omega
            have n2 : hb ≠ fkb := by omega
            have n3 : fb ≠ fkb := by omega
            have hlu := hL.lt
            have HEok := Lib.hid hEok
            clear hEok hent hfks hown hmset hbu hfi hf
            go_wp2_with fail
            have hbk3 : Blk (w2.setCell ⟨fkb, 7, none⟩ (.pointer (some ⟨fkb + 1, 0, none⟩))) fkb 95 (flCells ByteArray.empty 0 (.slice none 0 0) 0 0 0 0 (fkb + 1) rb) := hbk2.set 7 _
            have hbd3 : Blk (w2.setCell ⟨fkb, 7, none⟩ (.pointer (some ⟨fkb + 1, 0, none⟩))) (fkb + 1) 119 (tab 69 (dirL12 G)) := hbd.setOther (by simp) _
            have hf3 : Fr [fkb] w2 (w2.setCell ⟨fkb, 7, none⟩ (.pointer (some ⟨fkb + 1, 0, none⟩))) := (Fr.refl _ _).setCell (.inl (by simp)) _
            refine (fixFile_ok _ fkb (fkb + 1) (P (j * num + k)) (.slice none 0 0) 0 0 0 rb G _ hbk3 hbd3 HEok.out ?_ ?_).mono ?_
            · intro i h1 h2
              exact hf3.cell (by simp; omega) (hfr2.cell (by simpa using h2u) (hPR.out i h1 h2))
            · omega
            rintro e w3 ⟨rfl, hf4, hbk4⟩
            have hbd4 := hbd3.fr hf4 (by simp)
            have hf24 := hf3.trans_same hf4
            clear hbk3 hbd3 hf3 hf4 k7 z7 q3' q0' q18'
            have k7 : w3.cell? ⟨fkb, 7, none⟩ = some (.pointer (some ⟨fkb + 1, 0, none⟩)) := hbk4.cell 7
            have k5 : w3.cell? ⟨fkb, 5, none⟩ = some (.int .u32 0) := hbk4.cell 5
            have z5 := hbk4.frozen 5
            have d60 := (hbd4.cell 60).trans (dir_start G)
            have hfs : ∀ e, e < j * num + k → fk e < fkb ∧ dk e < fkb := fun e he => by rw [← hfb']; exact ⟨(hfiA e he).2.2.1.lt, (hfiA e he).2.2.2.lt⟩
            have hjk : j * num + k ≤ 32000 := by
              have := Nat.mul_le_mul (show j ≤ 999 by omega) (show num ≤ 32 by omega)
              omega
            have hf5 : Fr [fkb] w3 (w3.setCell ⟨fkb, 5, none⟩ (.int .u32 (fld G 116 4 : Nat))) := (Fr.refl _ _).setCell (.inl (by simp)) _
            have hown4 := own_fr hown2 (hf24.trans_same hf5) (fun k hk => by simp; rintro rfl; exact own_ne hown2 hbk2 (by decide) (by simp [hk]))
            have hsz4 : w.heap.size ≤ (w3.setCell ⟨fkb, 5, none⟩ (.int .u32 (fld G 116 4 : Nat))).heap.size := by have := hfr2.size; have := (hf24.trans_same hf5).size; omega
            have hsz5 : (w3.setCell ⟨fkb, 5, none⟩ (.int .u32 (fld G 116 4 : Nat))).heap.size = w3.heap.size := by simp
            have HO := Lib.hid hown4
            have HI := Lib.hid hfi2
            have HO2 := Lib.hid hown2
            have HM := Lib.hid hms2
            have HM2 := Lib.hid hmo
            have HFS := Lib.hid hfs
            clear hown4 hfi2 hown2 hms2 hmo hfs hfiA hf5
            go_upto_region 21 with (fail)
            have hS5 := Lib.hid (hbk4.set 5 (.int .u32 (fld G 116 4 : Nat)))
            clear hsz5
            generalize hw4 : w3.setCell ⟨fkb, 5, none⟩ (.int .u32 (fld G 116 4 : Nat)) = w4 at *
            go_wp2_with (at_builtin; refine wpList_append_own _ rfl (.tmp 148) (.tmp 150) 85 rfl w.heap.size 92 i0 (.pointer none) 1 8 Tryd.underlying85 hi hz0 hz1 hz2 rfl (by decide) _ _ _ rfl (HO.out.alloc _) ⟨w4.heap.size, 0, none⟩ 1 1 [.pointer (some ⟨fkb, 0, none⟩)] rfl rfl ?c1 ?c2 ?c3 ?c4 ?c5 ?_; rotate_left; rotate_left; rotate_left; rotate_left; rotate_left; intro v' w5 hown5 hg5 _)
            case c1 =>
              exact cell_one_new _ _ _
            case c2 => simp [Value.oneCell']
            case c3 => unfold maxLen; omega
            case c4 => omega
            case c5 => simp; omega
            subst hw4
            obtain rfl := HG.out
            obtain ⟨fk', dk', z1, z2, z3, z4, z5, z6⟩ := dir_step lw hlu hfr2 hbu2 HI.out HFS.out HM2.out HO2.out HM.out hbk2 hbd hf24 hbk4 hown5 hg5
            go_wp2_with fail
            go_roundw
            case rel => exact ⟨k + 1, fk', dk', by omega, by go_num, z1, z2, z3, z4, z5, z6⟩
            case measure => simp [intOf]; omega
          · have hknI : ¬ (k : Int) < (num : Int) := by omega
            obtain rfl : num = k := by omega
            have hat := hCH.out.at_ j hlt
            have hnx := hCH.out.next j hlt
            have hnx4 : (j + 1 < m ∧ cs (j + 1) ≤ 65535) ∨ (j + 1 = m ∧ cs (j + 1) = 4294967294) := by
              by_cases h : j + 1 < m
              · exact .inl ⟨h, (hCH.out.low _ h).1⟩
              · have e : j + 1 = m := by omega
                right; exact ⟨e, by rw [e]; exact hCH.out.last⟩
            have hnS : cs (j + 1) ≤ cs j → ¬ ∃ i, 1 ≤ i ∧ i ≤ j ∧ cs (j + 1) = cs i := by
              intro h ⟨i, a, b, c⟩
              exact hCH.out.nodup i (j + 1) (by omega) (by omega) c.symm
            have hne1 : cs (j + 1) ≤ cs j → cs j ≠ cs (j + 1) := by
              intro h
              exact hCH.out.nodup j (j + 1) (by omega) (by omega)
            have hlen1 := own_len hown
            have hmul : (j + 1) * num ≤ m * num := Nat.mul_le_mul_right num hlt
            have hsuc : (j + 1) * num = j * num + num := by rw [Nat.succ_mul]
            have hrel : ∀ S : Nat → Prop, S = S := fun _ => rfl
            go_wp2_with fail
            refine (findNext_at rb hb fb sb bb n cap ss (cs j) F _ _ _ _ _ _ _ _ (hS.fr hf (by simpa using hsu) (by simpa using hub)) (hRB.out.fr hf (by simpa using hrul)) (hHB.out.fr hf (by simpa using hhu)) (hFB.out.fr hf (by simpa using hfu)) hSS.out hat).mono ?_
            rintro e w6 ⟨rfl, hf6⟩
            rw [hnx]
            have y1 := hf.trans0 hf6
            have y2 := hfi.fr hf6 (by simp) (by simp)
            have y3 := own_fr hown hf6 (by simp)
            have y4 := hmset.fr hf6 (by simp)
            have y5 := hbu.fr0 hf6
            rw [← hsuc] at y2 y3 hmo
            by_cases hle : cs (j + 1) ≤ cs j
            · have q1 : decide (cs (j + 1) ≤ cs j) = true := by simpa using hle
              have q2 : decide (cs (j + 1) = cs j) = false := by simpa using fun h => hne1 hle h.symm
              have q2' : ¬ (cs (j + 1) = cs j) := fun h => hne1 hle h.symm
              have q3 := y4.run_lookup (cs (j + 1)) (by omega) (hnS hle)
              go_wp2_with (at_mapUpdate; refine wpList_update_mset rfl _ _ _ rfl mb _ rfl y4 (cs (j + 1)) rfl (by omega) (hnS hle) ?_; intro w7 hf7 hm7)
              go_roundw
              case rel =>
                have n1 : mb ≠ ub := y4.notBlk y5
                refine ⟨j + 1, fk, dk, by omega, rfl, by go_num, y1.trans hf7 (fun x hx => .inr (by simp at hx; omega)), y2.fr hf7 (fun e he => by simp; exact fun h => y4.notBlk (y2 e he).2.2.1 h.symm) (fun e he => by simp; exact fun h => y4.notBlk (y2 e he).2.2.2 h.symm), hmo, own_fr y3 hf7 (fun k hk => by simp; rintro rfl; exact own_mset y3 y4 (by simp [hk])), hm7.mono ?_, L2, y5.fr hf7 (by simpa using n1.symm), hL2⟩
                rintro k (⟨i, a, b, c⟩ | h)
                · exact ⟨i, a, by omega, c⟩
                · exact ⟨j + 1, by omega, by omega, h⟩
              case measure => rw [hlen0, hlen1]; omega
            · have q1 : decide (cs (j + 1) ≤ cs j) = false := by simpa using hle
              go_wp2_with fail
              go_roundw
              case rel => exact ⟨j + 1, fk, dk, by omega, rfl, by go_num, y1, y2, hmo, y3, y4.mono (fun k ⟨i, a, b, c⟩ => ⟨i, a, by omega, c⟩), L2, y5, hL2⟩
              case measure => rw [hlen0, hlen1]; omega
    · obtain rfl : j = m := by omega
      have hcl := hCH.out.last
      have hown' := own_slice hown
      obtain ⟨ao, co, rfl⟩ := hown'
      have hrb2 := hRB.out.fr hf (by simpa using hrul)
      have z5 := hrb2.frozen 5
      have k5 : wr.cell? ⟨rb, 5, none⟩ = some (.slice none 0 0) := hrb2.cell 5
      have hfin := (hrb2.set 5 (.slice ao (j * num) co))
      have hff := (hf.mono (ms' := [rb, ub]) (fun x hx => .inl (by simp at hx; simp [hx]))).setCell (p := ⟨rb, 5, none⟩) (.inl (by simp)) (.slice ao (j * num) co)
      have hfi2 : Files (wr.setCell ⟨rb, 5, none⟩ (.slice ao (j * num) co)) w.heap.size rb (entB F ss cs) P fk dk (j * num) := hfi.fr ((Fr.refl [rb] wr).setCell (.inl (by simp)) _) (fun e he => by simp; intro h; have := (hfi e he).1; omega) (fun e he => by simp; intro h; have := (hfi e he).2.1; omega)
      have hown2 := own_fr hown ((Fr.refl [rb] wr).setCell (p := ⟨rb, 5, none⟩) (.inl (by simp)) (.slice ao (j * num) co)) (fun k hk => by simp; rintro rfl; have := (hown.lt _ hk).1; omega)
      have hub2 := hb'.setOther (p := ⟨rb, 5, none⟩) hrul (.slice ao (j * num) co)
      have HF := Lib.hid hfi2
      have HO := Lib.hid hown2
      have HM := Lib.hid hmo
      have hpos : 1 ≤ j * num := by have := Nat.mul_le_mul hc1 (show 1 ≤ num by omega); omega
      have hposI : decide (((j * num : Nat) : Int) = 0) = false := by simp; omega
      clear hfi2 hown2 hmo hown hfi
      generalize hjn : j * num = jn at *
      go_wp2_with fail
      subst hnum
      subst hjn
      go_ret
      exact ⟨rfl, hff, fk, dk, _, HF.out, HM.out, HO.out, hfin, _, hub2, hl'⟩
end Go.Proofs.YtokpomdfgbbhlaaDoor

/- A drawn region that appends one value where there is room and stores the slice anew. -/
namespace Go.Proofs.YtokpomdfgbbhlaaDoor
open Go Go.RowKit

structure AR where
  (wr : World)
  (sb k gb n cap B A S : Nat)
  (T : TypeId)
  (l : List Value)
  (u : Value)
  (cst : Nat → Value)
def AR.nv (R : AR) : Value := .slice (some ⟨R.gb, 0, none⟩) (R.n + 1) R.cap
structure AR.J (R : AR) (L : Nat → Bool) (w : World) : Prop where
  a : L R.S = false → Fr [R.gb] R.wr w
  b : L R.A = false → L R.S = false → Blk w R.gb R.T R.l
  c : L R.A = true → L R.S = false → Blk w R.gb R.T (splice R.l R.n [R.u])
  d : L R.S = true → ∃ w3, Fr [R.gb] R.wr w3 ∧ Blk w3 R.gb R.T (splice R.l R.n [R.u]) ∧ w = w3.setCell ⟨R.sb, R.k, none⟩ R.nv
def AR.Sp (R : AR) (i : Nat) (w : World) (v : Value) : Prop := if i = R.B then (∃ g, v = .slice (some ⟨g, 0, none⟩) 1 1 ∧ Blk w g R.T [R.u] ∧ R.wr.heap.size ≤ g) else v = R.cst i
theorem AR.sp_c {R : AR} {i : Nat} {w : World} {v : Value} (h : i ≠ R.B) (hv : v = R.cst i) : R.Sp i w v := by unfold AR.Sp; rw [if_neg h]; exact hv
theorem AR.of_sp {R : AR} {i : Nat} {w : World} {v : Value} (hs : R.Sp i w v) (h : i ≠ R.B) : v = R.cst i := by unfold AR.Sp at hs; rwa [if_neg h] at hs
theorem AR.of_spB {R : AR} {w : World} {v : Value} (hs : R.Sp R.B w v) : ∃ g, v = .slice (some ⟨g, 0, none⟩) 1 1 ∧ Blk w g R.T [R.u] ∧ R.wr.heap.size ≤ g := by unfold AR.Sp at hs; rwa [if_pos rfl] at hs
theorem AR.Sp_fr {R : AR} {w w' : World} {b : Nat} (f : Fr [b] w w') (hb : b < R.wr.heap.size) (i : Nat) (u : Value) (h : R.Sp i w u) : R.Sp i w' u := by
  unfold AR.Sp at h ⊢
  split at h
  · obtain ⟨g, e1, e2, e3⟩ := h
    rename_i hi
    rw [if_pos hi]
    exact ⟨g, e1, e2.fr f (by simp; omega), e3⟩
  · rename_i hi
    rw [if_neg hi]
    exact h
theorem AR.Sp_fr0 {R : AR} {w w' : World} (f : Fr [] w w') (i : Nat) (u : Value) (h : R.Sp i w u) : R.Sp i w' u := by
  unfold AR.Sp at h ⊢
  split at h
  · obtain ⟨g, e1, e2, e3⟩ := h
    rename_i hi
    rw [if_pos hi]
    exact ⟨g, e1, e2.fr0 f, e3⟩
  · rename_i hi
    rw [if_neg hi]
    exact h
section
variable {R : AR} {L : Nat → Bool} {w w' : World}
theorem AR.J.alloc (h : R.J L w) (hS : L R.S = false) (f : Fr [] w w') (i : Nat) (hi : i ≠ R.A ∧ i ≠ R.S) : R.J (lSet L i) w' where
  a := fun _ => (h.a hS).trans0 f
  b := fun hl _ => (h.b (by rwa [lSet_ne _ _ _ (Ne.symm hi.1)] at hl) hS).fr0 f
  c := fun hl _ => (h.c (by rwa [lSet_ne _ _ _ (Ne.symm hi.1)] at hl) hS).fr0 f
  d := fun hl => by rw [lSet_ne _ _ _ (Ne.symm hi.2), hS] at hl; cases hl
theorem AR.J.app (h : R.J L w) (hS : L R.S = false) (hne : R.A ≠ R.S) (f : Fr [R.gb] w w') (hb : Blk w' R.gb R.T (splice R.l R.n [R.u])) : R.J (lSet L R.A) w' where
  a := fun _ => (h.a hS).trans_same f
  b := fun hl _ => by rw [lSet_self] at hl; cases hl
  c := fun _ _ => hb
  d := fun hl => by rw [lSet_ne _ _ _ (Ne.symm hne), hS] at hl; cases hl
theorem AR.J.store (h : R.J L w) (hS : L R.S = false) (hA : L R.A = true) : R.J (lSet L R.S) (w.setCell ⟨R.sb, R.k, none⟩ R.nv) where
  a := fun hl => by rw [lSet_self] at hl; cases hl
  b := fun _ hl => by rw [lSet_self] at hl; cases hl
  c := fun _ hl => by rw [lSet_self] at hl; cases hl
  d := fun _ => ⟨w, h.a hS, h.c hA hS, rfl⟩
end
theorem ow_app_room {o : Oper} {a : Act} {w : World} {K : Act → World → Prop} {Q : Exit → Act → World → Prop} (s x : Operand) (t : TypeId) (ho : o.op = Op.call { callee := Callee.builtin Builtin.append, args := #[s, x], argTypes := #[t, t] })
    (e : TypeId) (h1 : Tryd.prog.underlying t = some (.slice e)) (h2 : (Tryd.prog.info? e).map (·.size) = some 1) (g n cap : Nat) (l : List Value) (hs : a.eval s = .slice (some ⟨g, 0, none⟩) n cap) (hb : Blk w g e l) (gx : Nat) (u : Value) (hx : a.eval x = .slice (some ⟨gx, 0, none⟩) 1 1)
    (hc : Blk w gx e [u]) (h1c : u.oneCell' = true) (hroom : n + 1 ≤ cap) (hfit : n + 1 ≤ l.length) (hK : ∀ w', Fr [g] w w' → Blk w' g e (splice l n [u]) → K (a.put o.dst (.slice (some ⟨g, 0, none⟩) (n + 1) cap)) w') : o.wp Tryd.prog a w K Q := by
  cases hq : Tryd.prog.info? e with
  | none => simp [hq] at h2
  | some i =>
    have hsz : i.size = 1 := by simpa [hq] using h2
    have hrun := run_append_room (P := Tryd.prog) w t o.type e i h1 hq g n cap l.toArray hb ⟨gx, 0, none⟩ 1 1 [u] (by simp [hsz]) (fun j y hj => by rw [add_zero']; exact (hc.cell j).trans hj) (by simpa using h1c) hroom (by simp [hsz]; omega)
    rw [hsz, Nat.mul_one] at hrun
    have hsr : Blk (w.setRow g (l.toArray.toList.take n ++ [u] ++ l.toArray.toList.drop (n + [u].length)).toArray) g e (splice l n [u]) := by
      have := setRow_heap w g _ (l.toArray.toList.take n ++ [u] ++ l.toArray.toList.drop (n + [u].length)).toArray e _ hb
      simpa [Blk, splice] using this
    unfold Oper.wp
    simp only [execOp, ho, resolve, invoke, builtin, Sem.run_bind, Sem.run_pure, Result.andThen_ok, List.map_toArray, List.map_cons, List.map_nil, hs, hx, hrun]
    exact hK _ (setRow_fr _ _ _) hsr
end Go.Proofs.YtokpomdfgbbhlaaDoor

/- The contract of (*Reader).setMiniStream. -/
namespace Go.Proofs.YtokpomdfgbbhlaaDoor
open Go Go.RowKit Go.Maps

theorem madeCells_tab (z : Value) (n : Nat) (h : z.cells = #[z]) : madeCells z.cells (n * 1) = (tab n (fun _ => z)).toArray := by
  apply Array.ext'
  rw [h]
  simp [madeCells, tab, List.map_const', Nat.mod_one]

/-- make([]T, l, c) of one-celled elements. -/
theorem make_tab {t e : TypeId} {z : Value} {bytes : Nat} (ht : Tryd.prog.underlying t = some (.slice e)) (hi : (Tryd.prog.info? e).map (fun i => (i.zero, i.size, i.bytes)) = some (some z, 1, bytes)) (hz : z.cells = #[z])
    (l c : Nat) (hlc : l ≤ c) (hb : bytes * c ≤ 281474976710656) (h63 : c ≤ 9223372036854775807) (w : World) :
    (Instr.makeSlice t (.int .i64 l) (.int .i64 c)).run Tryd.prog w = .ok (.slice (some ⟨w.heap.size, 0, none⟩) l c) (w.alloc (.cells (tab c (fun _ => z)).toArray e)) := by
  obtain ⟨i, h1, h2, h3, h4⟩ := info_parts hi
  have := run_make (P := Tryd.prog) w t e i z ht h1 h2 .i64 .i64 l c (by omega) (by omega) (by rw [h4]; have h : ((bytes * c : Nat) : Int) ≤ 281474976710656 := by omega
                                                                                               rwa [Int.natCast_mul] at h) (by omega)
  rw [this, h3, Int.toNat_natCast, Int.toNat_natCast, madeCells_tab z c hz]

theorem info63 : (Tryd.prog.info? 63).map (fun i => (i.zero, i.size, i.bytes)) = some (some (.int .u32 0), 1, 4) := by kernel_rfl
theorem make_u32 (c : Nat) (h : c ≤ 1000000) (w : World) : (Instr.makeSlice 22 (.int .i64 c) (.int .i64 c)).run Tryd.prog w = .ok (.slice (some ⟨w.heap.size, 0, none⟩) c c) (w.alloc (.cells (tab c (fun _ => .int .u32 0)).toArray 63)) :=
  make_tab Tryd.underlying22 info63 rfl c c (Nat.le_refl _) (by omega) (by omega) w
theorem make_u32_0 (c : Nat) (h : c ≤ 1000000) (w : World) : (Instr.makeSlice 22 (.int .i64 0) (.int .i64 c)).run Tryd.prog w = .ok (.slice (some ⟨w.heap.size, 0, none⟩) 0 c) (w.alloc (.cells (tab c (fun _ => .int .u32 0)).toArray 63)) :=
  make_tab Tryd.underlying22 info63 rfl 0 c (by omega) (by omega) (by omega) w

/-- append where there is room, as a step of a region that draws its order. -/
theorem step_append_room_blk {P : Program} {ops : Array Oper} {o : Oper} {a : Act} {w : World} {K : Act → World → Prop} {Q : Exit → Act → World → Prop} {E : Prop}
    (hg : o.guard = none) (s x : Operand) (t : TypeId) (hop : o.op = Op.call { callee := Callee.builtin Builtin.append, args := #[s, x], argTypes := #[t, t] })
    (e : TypeId) (h1 : P.underlying t = some (.slice e)) (size : Nat) (h2 : (P.info? e).map (·.size) = some size)
    (g n cap : Nat) (l : List Value) (hs : a.eval s = .slice (some ⟨g, 0, none⟩) n cap) (hb : Blk w g e l) (ad : Addr) (m c : Nat) (news : List Value) (hx : a.eval x = .slice (some ad) m c) (hn : news.length = m * size)
    (hc : ∀ j u, news[j]? = some u → w.cell? (ad.add j) = some u) (h1c : ∀ u ∈ news, u.oneCell' = true) (hroom : n + m ≤ cap) (hfit : n * size + news.length ≤ l.length)
    (hK : ∀ w', Fr [g] w w' → Blk w' g e (splice l (n * size) news) → K (a.put o.dst (.slice (some ⟨g, 0, none⟩) (n + m) cap)) w') :
    if Region.wanted o (yielded ops a.tmps) = true then Oper.wp P o a w K Q else E := by
  have hw : Region.wanted o (yielded ops a.tmps) = true := by simp [Region.wanted, hg]
  rw [if_pos hw]
  cases hq : P.info? e with
  | none => simp [hq] at h2
  | some i =>
    have hsz : i.size = size := by simpa [hq] using h2
    subst hsz
    have hrun := run_append_room (P := P) w t o.type e i h1 hq g n cap l.toArray hb ad m c news hn hc h1c hroom (by simpa using hfit)
    have h3 := hK (w.setRow g (l.toArray.toList.take (n * i.size) ++ news ++ l.toArray.toList.drop (n * i.size + news.length)).toArray)
      ⟨rfl, rfl, rfl, by simp [World.setRow], fun k _ hk => setRow_other w g k _ (by simpa using hk)⟩
      (by
        have := setRow_heap w g _ (l.toArray.toList.take (n * i.size) ++ news ++ l.toArray.toList.drop (n * i.size + news.length)).toArray e _ hb
        simpa [Blk, splice] using this)
    unfold Oper.wp
    simp [execOp, hop, resolve, invoke, builtin, hs, hx, hrun, Result.andThen]
    simp only [Oper.upon]
    simpa using h3

set_option maxRecDepth 100000 in
set_option maxHeartbeats 1000000 in
/-- Nothing is done where there is no ministream. -/
theorem setMini_none (rb hb fb ss g f0 d0 E cap : Nat) (F G : Nat → UInt8) (buf difats mf ms file wa : Value) (entry : Int) (sb : Nat) (w : World)
    (hrb : Blk w rb 91 (rdCells ss buf (.pointer (some ⟨hb, 0, none⟩)) file (.slice (some ⟨g, 0, none⟩) E cap) entry sb wa)) (hE : 1 ≤ E)
    (hhb : Blk w hb 142 (hdCells fb difats mf ms)) (hfb : Blk w fb 147 (hdrN F 109)) (hg : w.cell? ⟨g, 0, none⟩ = some (.pointer (some ⟨f0, 0, none⟩)))
    (h7 : w.cell? ⟨f0, 7, none⟩ = some (.pointer (some ⟨d0, 0, none⟩))) (hd : Blk w d0 119 (tab 69 (dirL12 G))) (hs : fld G 116 4 = 4294967294) :
    Calls Tryd.prog 52 #[.pointer (some ⟨rb, 0, none⟩)] w fun e w' => e = .returned .nilIface ∧ w = w' := by
  have r5 : w.cell? ⟨rb, 5, none⟩ = some (.slice (some ⟨g, 0, none⟩) E cap) := hrb.cell 5
  have d60 := (hd.cell 60).trans (dir_start G)
  rw [hs] at d60
  clear hs
  go_enter Tryd.func52, Tryd.ntmps52
  go_wp2_with fail
  go_ret
  exact ⟨rfl, rfl⟩

set_option maxRecDepth 100000 in
set_option maxHeartbeats 1000000 in
theorem setMini_some (rb hb fb sb bb n ncap ss g f0 d0 E cap c m : Nat) (F G : Nat → UInt8) (cf cs : Nat → Nat) (buf file wa : Value) (entry : Int) (w : World) (hS : Src w sb bb n ncap F)
    (hss : ss = 512 ∨ ss = 4096)
    (hrb : Blk w rb 91 (rdCells ss buf (.pointer (some ⟨hb, 0, none⟩)) file (.slice (some ⟨g, 0, none⟩) E cap) entry sb wa)) (hE : 1 ≤ E)
    (hhb : Blk w hb 142 (hdCells fb (.slice (some ⟨fb, 45, none⟩) 109 109) (.slice none 0 0) (.slice none 0 0))) (hfb : Blk w fb 147 (hdrN F 109)) (hg : w.cell? ⟨g, 0, none⟩ = some (.pointer (some ⟨f0, 0, none⟩)))
    (h7 : w.cell? ⟨f0, 7, none⟩ = some (.pointer (some ⟨d0, 0, none⟩))) (hd : Blk w d0 119 (tab 69 (dirL12 G))) (hgh : g ≠ hb) (hfh : f0 ≠ hb) (hsh : sb ≠ hb) (hbh : bb ≠ hb)
    (hch : Chain F n ss (fld G 116 4) m cs) (hm : 1 ≤ m) (hc1 : 1 ≤ c) (hc : fld F 64 4 = c) (hcs : ss / 4 * c ≤ 64000) (hmc : m ≤ ss / 4 * c) (hcf0 : fld F 60 4 = cf 0) (hcfl : cf 0 ≤ 65535)
    (hcf : ∀ j, j + 1 < c → FatAt F n ss (cf j) ∧ fatNext F ss (cf j) = cf (j + 1)) :
    Calls Tryd.prog 52 #[.pointer (some ⟨rb, 0, none⟩)] w fun e w' => e = .returned .nilIface ∧ Fr [hb] w w' ∧ ∃ mf ms k,
      Blk w' hb 142 (hdCells fb (.slice (some ⟨fb, 45, none⟩) 109 109) (.slice (some ⟨mf, 0, none⟩) c c) (.slice (some ⟨ms, 0, none⟩) m k)) ∧ w.heap.size ≤ mf ∧ w.heap.size ≤ ms ∧ m ≤ k ∧
      (∀ i, i < c → w'.cell? ⟨mf, i, none⟩ = some (.int .u32 (cf i))) ∧ (∀ i, i < m → w'.cell? ⟨ms, i, none⟩ = some (.int .u32 (cs i))) := by
  have r3 : w.cell? ⟨rb, 3, none⟩ = some (.pointer (some ⟨hb, 0, none⟩)) := hrb.cell 3
  have r5 : w.cell? ⟨rb, 5, none⟩ = some (.slice (some ⟨g, 0, none⟩) E cap) := hrb.cell 5
  have d0' : w.cell? ⟨hb, 0, none⟩ = some (.pointer (some ⟨fb, 0, none⟩)) := hhb.cell 0
  have d60 := (hd.cell 60).trans (dir_start G)
  have f41 := (hfb.cell 41).trans (hdr_mf F)
  have f42 := (hfb.cell 42).trans (hdr_nmf F)
  have hst : fld G 116 4 ≤ 65535 := by rw [hch.first]; exact (hch.low 0 (by omega)).1
  have hc64 : c ≤ 64000 := by have := Nat.mul_le_mul (show 1 ≤ ss / 4 by omega) (Nat.le_refl c); omega
  have t1 : (((fld G 116 4 : Nat) : Int) == 4294967294) = false := by simp; omega
  have t2 : (((cf 0 : Nat) : Int) == 4294967294) = false := by simp; omega
  have t3 : ((c : Int) == 0) = false := by simp; omega
  have t4 : decide ((64000 : Int) < c) = false := by simp; omega
  have tw : wrap64 (c : Int) = c := by unfold wrap64; omega
  rw [hc] at f42
  rw [hcf0] at f41
  clear hc hcf0
  go_enter Tryd.func52, Tryd.ntmps52
  go_upto_region 6 with (fail)
  go_cut [] from 85 to 92 (fun w1 => Fr [hb] w w1 ∧ Blk w1 hb 142 (hdCells fb (.slice (some ⟨fb, 45, none⟩) 109 109) (.slice (some ⟨w.heap.size, 0, none⟩) c c) (.slice none 0 0)) ∧ Blk w1 w.heap.size 63 (tab c (fun _ => .int .u32 0)))
  case first =>
    have hmk := make_u32 c (by omega)
    have h2 : w.cell? ⟨hb, 2, none⟩ = some (.slice none 0 0) := hhb.cell 2
    have z2 := hhb.frozen 2
    have a3 : (w.alloc (Obj.cells (tab c (fun _ => Value.int .u32 0)).toArray 63)).cell? ⟨rb, 3, none⟩ = some (.pointer (some ⟨hb, 0, none⟩)) := (hrb.alloc _).cell 3
    have a2 : (w.alloc (Obj.cells (tab c (fun _ => Value.int .u32 0)).toArray 63)).cell? ⟨hb, 2, none⟩ = some (.slice none 0 0) := (hhb.alloc _).cell 2
    have az2 := (hhb.alloc (Obj.cells (tab c (fun _ => Value.int .u32 0)).toArray 63)).frozen 2
    have hlh := hhb.lt
    go_region
    all_goals
      go_wp2_with fail
      go_meet
      case rel =>
        refine ⟨(((Fr.refl [hb] _).setCell (p := ⟨hb, 2, none⟩) (.inl (by simp)) _).alloc _).drew, ((hhb.set 2 _).alloc _).drew, ?_⟩
        have := Blk.new (w.setCell ⟨hb, 2, none⟩ (.slice (some ⟨w.heap.size, 0, none⟩) c c)) 63 (tab c (fun _ => Value.int .u32 0))
        rw [show (w.setCell ⟨hb, 2, none⟩ (.slice (some ⟨w.heap.size, 0, none⟩) c c)).heap.size = w.heap.size by simp] at this
        exact this
  case rest =>
  obtain ⟨hf1, hhb1, hmb1⟩ := hcut
  have hlh := hhb.lt
  have hlr := hrb.lt
  generalize hMB : w.heap.size = mb at *
  have hrh : rb ≠ hb := fun h => by subst h; exact absurd (hrb.unique hhb).1 (by decide)
  have hfbh : fb ≠ hb := fun h => by subst h; exact absurd (hfb.unique hhb).1 (by decide)
  have hdh : d0 ≠ hb := fun h => by subst h; exact absurd (hd.unique hhb).1 (by decide)
  go_upto_region 7 with (fail)
  go_cut [] from 93 to 110 (fun w1 => Fr [hb] w w1 ∧ Blk w1 hb 142 (hdCells fb (.slice (some ⟨fb, 45, none⟩) 109 109) (.slice (some ⟨mb, 0, none⟩) c c) (.slice none 0 0)) ∧ Blk w1 mb 63 (tab c (fun j => .int .u32 (if j < 1 then cf j else 0 : Nat))))
  case first =>
    have a3 : wc.cell? ⟨rb, 3, none⟩ = some (.pointer (some ⟨hb, 0, none⟩)) := hf1.cell (by simpa using hrh) r3
    have a2 : wc.cell? ⟨hb, 2, none⟩ = some (.slice (some ⟨mb, 0, none⟩) c c) := hhb1.cell 2
    have a0 : wc.cell? ⟨hb, 0, none⟩ = some (.pointer (some ⟨fb, 0, none⟩)) := hhb1.cell 0
    have a41 := hf1.cell (by simpa using hfbh) f41
    have m0 : wc.cell? ⟨mb, 0, none⟩ = some (.int .u32 0) := (hmb1.cell 0).trans (tab_get _ _ _ (by omega))
    have mz := hmb1.frozen 0
    have c0 : (0 : Int) < c := by omega
    go_region
    all_goals
      go_wp2_with fail
      go_meet
      case rel =>
        refine ⟨hf1.drew.setCell (.inr (by simp; omega)) _, hhb1.drew.setOther (by simp; omega) _, ?_⟩
        have := hmb1.drew.set 0 (.int .u32 (cf 0 : Nat))
        rw [tab_set] at this
        rw [tab_congr (g' := fun j => .int .u32 (if j < 1 then cf j else 0 : Nat)) ?_] at this
        · exact this
        · intro i hi
          by_cases h : i = 0
          · subst h; simp
          · rw [if_neg h, if_neg (by omega)]; rfl
  case rest =>
  clear hf1 hhb1 hmb1
  obtain ⟨hf1, hhb1, hmb1⟩ := hcut
  have HSs := Lib.hid hss
  have HCH := Lib.hid hch
  clear hss hch

  go_upto_block 0 with fail
  go_cut [2, 4, 5, 6] from 111 to 161 (fun s2 _ _ _ w1 => s2 = .nilIface ∧ Fr [hb] w w1 ∧ Blk w1 hb 142 (hdCells fb (.slice (some ⟨fb, 45, none⟩) 109 109) (.slice (some ⟨mb, 0, none⟩) c c) (.slice none 0 0)) ∧ Blk w1 mb 63 (tab c (fun j => .int .u32 (cf j : Nat))))
  case first =>
    go_wp2_with fail
    go_loopw [2, 4] (fun s2 s4 wr => ∃ k : Nat, 1 ≤ k ∧ k ≤ c ∧ s2 = .nilIface ∧ s4 = .int .i64 k ∧ Fr [hb] w wr ∧ Blk wr hb 142 (hdCells fb (.slice (some ⟨fb, 45, none⟩) 109 109) (.slice (some ⟨mb, 0, none⟩) c c) (.slice none 0 0)) ∧
      Blk wr mb 63 (tab c (fun j => .int .u32 (if j < k then cf j else 0 : Nat)))) (fun _ s4 _ => c - (intOf s4).toNat)
    case atStart => exact ⟨1, by omega, by omega, rfl, rfl, hf1, hhb1, hmb1⟩
    case round =>
      clear hf1 hhb1 hmb1
      obtain ⟨k, hk1, hk2, rfl, rfl, hf1, hhb1, hmb1⟩ := hrel
      by_cases hlt : k < c
      · have hltI : (k : Int) < c := by omega
        have a3 : wr.cell? ⟨rb, 3, none⟩ = some (.pointer (some ⟨hb, 0, none⟩)) := hf1.cell (by simpa using hrh) r3
        have a2 : wr.cell? ⟨hb, 2, none⟩ = some (.slice (some ⟨mb, 0, none⟩) c c) := hhb1.cell 2
        have mk : wr.cell? ⟨mb, k - 1, none⟩ = some (.int .u32 (cf (k - 1) : Nat)) := by
          rw [hmb1.cell, tab_get _ _ _ (by omega), if_pos (by omega)]
        obtain ⟨hat, hnx⟩ := hcf (k - 1) (by omega)
        have hfk : (((k : Int) - 1).toNat) = k - 1 := by omega
        go_wp2_with fail
        refine (findNext_at rb hb fb sb bb n ncap ss (cf (k - 1)) F _ _ _ _ _ _ _ _ (hS.fr hf1 (by simpa using hsh) (by simpa using hbh)) (hrb.fr hf1 (by simpa using hrh)) hhb1 (hfb.fr hf1 (by simpa using hfbh)) HSs.out hat).mono ?_
        rintro e w6 ⟨rfl, hf6⟩
        rw [hnx, show k - 1 + 1 = k by omega]
        have a3' := hf6.cell0 a3
        have a2' := hf6.cell0 a2
        have hhb2 := hhb1.fr0 hf6
        have hmb2 := hmb1.fr0 hf6
        have mk' : w6.cell? ⟨mb, k, none⟩ = some (.int .u32 0) := by
          rw [hmb2.cell, tab_get _ _ _ hlt, if_neg (by omega)]; rfl
        have mz := hmb2.frozen k
        have hf2 := hf1.trans0 hf6
        go_wp2_with fail
        go_roundw
        case rel =>
          refine ⟨k + 1, by omega, by omega, rfl, by go_num, hf2.setCell (.inr (by simp; omega)) _, hhb2.setOther (by simp; omega) _, ?_⟩
          have := hmb2.set k (.int .u32 (cf k : Nat))
          rw [tab_set] at this
          rw [tab_congr (g' := fun j => .int .u32 (if j < k + 1 then cf j else 0 : Nat)) ?_] at this
          · exact this
          · intro i hi
            by_cases h : i = k
            · subst h; simp
            · rw [if_neg h]
              by_cases h2 : i < k
              · rw [if_pos h2, if_pos (by omega)]
              · rw [if_neg h2, if_neg (by omega)]
        case measure => simp [intOf]; omega
      · obtain rfl : k = c := by omega
        go_wp2_with fail
        go_meet
        case rel =>
          refine ⟨rfl, hf1, hhb1, ?_⟩
          rw [tab_congr (g' := fun j => .int .u32 (cf j : Nat)) (fun i hi => by rw [if_pos hi])] at hmb1
          exact hmb1
  case rest =>
  clear hf1 hhb1 hmb1
  obtain ⟨rfl, hf1, hhb1, hmb1⟩ := hcut
  generalize hC : ss / 4 * c = C at *
  have hmk := make_u32_0 C (by omega)
  have hCI : ((ss : Int) / 4) * c = C := by rw [← hC]; push_cast; rfl
  have a3 : wc.cell? ⟨rb, 3, none⟩ = some (.pointer (some ⟨hb, 0, none⟩)) := hf1.cell (by simpa using hrh) r3
  have a1 : wc.cell? ⟨rb, 1, none⟩ = some (.int .u32 ss) := hf1.cell (by simpa using hrh) (hrb.cell 1)
  have a0 : wc.cell? ⟨hb, 0, none⟩ = some (.pointer (some ⟨fb, 0, none⟩)) := hhb1.cell 0
  have a42 := hf1.cell (by simpa using hfbh) f42
  have hw1 : ((ss : Int) / 4) % 4294967296 = (ss : Int) / 4 := by have := HSs.out; omega
  have t5 : decide ((64000 : Int) < C) = false := by simp; omega
  have hw2 : (C : Int) % 4294967296 = C := by omega
  go_upto_region 15 with (fail)
  go_cut [3] from 162 to 178 (fun s3 w1 => s3 = .int .i64 C ∧ Fr [] wc w1)
  case first =>
    go_quiet (fail)
    go_wp2_with fail
    go_meet
    case rel => exact ⟨by go_num, (Fr.refl _ _).drewN _⟩
  case rest =>
  have hf1c := hf1
  have hhb1c := hhb1
  have hmb1c := hmb1
  clear hf1 hhb1 hmb1
  obtain ⟨rfl, hfc⟩ := hcut
  have hf1 := hf1c.trans0 hfc
  have hhb1 := hhb1c.fr0 hfc
  have hmb1 := hmb1c.fr0 hfc
  clear hf1c hhb1c hmb1c a3 a1 a0 a42
  obtain ⟨msb, hMS⟩ : ∃ x, wc.heap.size = x := ⟨_, rfl⟩
  have hsz : w.heap.size ≤ msb := by rw [← hMS]; exact hf1.size
  have hms1 : mb < msb := by rw [← hMS]; exact hmb1.lt
  go_upto_region 18 with (fail)
  go_cut [] from 181 to 188 (fun w1 => Fr [hb] w w1 ∧ Blk w1 hb 142 (hdCells fb (.slice (some ⟨fb, 45, none⟩) 109 109) (.slice (some ⟨mb, 0, none⟩) c c) (.slice (some ⟨msb, 0, none⟩) 0 C)) ∧ Blk w1 mb 63 (tab c (fun j => .int .u32 (cf j : Nat))) ∧
    Blk w1 msb 63 (tab C (fun _ => .int .u32 0)) ∧ msb < w1.heap.size)
  case first =>
    have h2 : wc.cell? ⟨hb, 3, none⟩ = some (.slice none 0 0) := hhb1.cell 3
    have z2 := hhb1.frozen 3
    have a3 : wc.cell? ⟨rb, 3, none⟩ = some (.pointer (some ⟨hb, 0, none⟩)) := hf1.cell (by simpa using hrh) r3
    have a3' : (wc.alloc (Obj.cells (tab C (fun _ => Value.int .u32 0)).toArray 63)).cell? ⟨rb, 3, none⟩ = some (.pointer (some ⟨hb, 0, none⟩)) := ((Fr.refl [] wc).alloc _).cell0 a3
    have a2 : (wc.alloc (Obj.cells (tab C (fun _ => Value.int .u32 0)).toArray 63)).cell? ⟨hb, 3, none⟩ = some (.slice none 0 0) := (hhb1.alloc _).cell 3
    have az2 := (hhb1.alloc (Obj.cells (tab C (fun _ => Value.int .u32 0)).toArray 63)).frozen 3
    go_region
    all_goals
      go_wp2_with fail
      go_meet
      case rel =>
        subst hMS
        exact ⟨((hf1.alloc _).setCell (p := ⟨hb, 3, none⟩) (.inl (by simp)) _).drew, ((hhb1.alloc _).set 3 _).drew, ((hmb1.alloc _).setOther (by simp; omega) _).drew, ((Blk.new _ _ _).setOther (by simp; omega) _).drew, by simp⟩
  case rest =>
  clear hf1 hhb1 hmb1 hfc hMS
  obtain ⟨hf1', hhb1', hmb1', hsb1', hlt1⟩ := hcut
  have hf1 := hf1'.alloc (Obj.map #[] 0)
  have hhb1 := hhb1'.alloc (Obj.map #[] 0)
  have hmb1 := hmb1'.alloc (Obj.map #[] 0)
  have hsb1 := hsb1'.alloc (Obj.map #[] 0)
  have hms := MSet.made wc (fun k => ∃ i, 1 ≤ i ∧ i ≤ 0 ∧ k = cs i)
  clear hf1' hhb1' hmb1' hsb1'
  have hmm := @run_makeMap Tryd.prog
  have c5 := hf1.cell (by simpa using hrh) r5
  have cg := hf1.cell (by simpa using hgh) hg
  have c7 := hf1.cell (by simpa using hfh) h7
  have c60 := hf1.cell (by simpa using hdh) d60
  go_wp2_with fail
  have hmw : msb < wc.heap.size := hlt1
  generalize hM2 : wc.heap.size = mp at *
  go_loopw [2, 8] (fun s2 s8 wr => ∃ (j : Nat) (l' : List Value), j ≤ m ∧ s2 = .nilIface ∧ s8 = .int .u32 (cs j : Nat) ∧ Fr [hb] w wr ∧ Blk wr hb 142 (hdCells fb (.slice (some ⟨fb, 45, none⟩) 109 109) (.slice (some ⟨mb, 0, none⟩) c c) (.slice (some ⟨msb, 0, none⟩) j C)) ∧
    Blk wr mb 63 (tab c (fun j => .int .u32 (cf j : Nat))) ∧ Blk wr msb 63 l' ∧ l'.length = C ∧ (∀ i, i < j → l'[i]? = some (.int .u32 (cs i : Nat))) ∧ MSet wr mp (fun k => ∃ i, 1 ≤ i ∧ i ≤ j ∧ k = cs i)) (fun _ _ wr => m - lenOf ((wr.cell? ⟨hb, 3, none⟩).getD .nilIface))
  case atStart => exact ⟨0, _, by omega, rfl, by rw [HCH.out.first], hf1, hhb1, hmb1, hsb1, by simp, fun i hi => by omega, hms⟩
  case round =>
    clear hf1 hhb1 hmb1 hsb1 hms c5 cg c7 c60
    obtain ⟨j, l', hj, rfl, rfl, hf1, hhb1, hmb1, hsb1, hl1, hl2, hms⟩ := hrel
    have hL2 := Lib.hid hl2
    have xm0 : (wr.cell? ⟨hb, 3, none⟩).getD .nilIface = (.slice (some ⟨msb, 0, none⟩) j C) := by rw [hhb1.cell 3]; rfl
    clear hl2
    by_cases hlt : j < m
    · have hsn := HCH.out.low j hlt
      have hne : ((cs j : Nat) : Int) ≠ 4294967294 := by omega
      have a3 : wr.cell? ⟨rb, 3, none⟩ = some (.pointer (some ⟨hb, 0, none⟩)) := hf1.cell (by simpa using hrh) r3
      have a2 : wr.cell? ⟨hb, 3, none⟩ = some (.slice (some ⟨msb, 0, none⟩) j C) := hhb1.cell 3
      have z3 := hhb1.frozen 3
      go_upto_region 22 with (fail)
      go_cut [] from 202 to 219 (fun w1 => Fr [hb, msb] wr w1 ∧ Blk w1 hb 142 (hdCells fb (.slice (some ⟨fb, 45, none⟩) 109 109) (.slice (some ⟨mb, 0, none⟩) c c) (.slice (some ⟨msb, 0, none⟩) (j + 1) C)) ∧ Blk w1 msb 63 (splice l' j [.int .u32 (cs j : Nat)]))
      case first =>
        obtain ⟨R, hR⟩ : ∃ R : AR, R = ⟨wr, hb, 3, msb, j, C, 12, 13, 16, 63, l', .int .u32 (cs j : Nat), fun i => match i with
          | 0 | 1 | 4 | 5 => .pointer (some ⟨rb, 0, none⟩)
          | 2 | 6 => .pointer (some ⟨rb, 3, none⟩)
          | 3 | 7 | 8 | 14 => .pointer (some ⟨hb, 0, none⟩)
          | 9 | 15 => .pointer (some ⟨hb, 3, none⟩)
          | 10 => .slice (some ⟨msb, 0, none⟩) j C
          | 11 => .int .u32 (cs j : Nat)
          | 13 => .slice (some ⟨msb, 0, none⟩) (j + 1) C
          | _ => undef⟩ := ⟨_, rfl⟩
        have rB : R.B = 12 := by rw [hR]
        have rA : R.A = 13 := by rw [hR]
        have rS : R.S = 16 := by rw [hR]
        have rT : R.T = 63 := by rw [hR]
        have nhm : hb ≠ msb := by omega
        have nrm : rb ≠ msb := by omega
        have hxc : ∀ w1, Fr [msb] wr w1 → w1.cell? ⟨rb, 3, none⟩ = some (.pointer (some ⟨hb, 0, none⟩)) ∧ w1.cell? ⟨hb, 3, none⟩ = some (.slice (some ⟨msb, 0, none⟩) j C) := fun w1 hf1 => ⟨hf1.cell (by simpa using nrm) a3, hf1.cell (by simpa using nhm) a2⟩
        have hsc : ∀ w1, Fr [msb] wr w1 → w1.cell? ⟨hb, 3, none⟩ = some (.slice (some ⟨msb, 0, none⟩) j C) ∧ w1.frozen? ⟨hb, 3, none⟩ = false := fun w1 hf1 => ⟨hf1.cell (by simpa using nhm) a2, (hhb1.fr hf1 (by simpa using nhm)).frozen 3⟩
        have hroomA : j + 1 ≤ C := by omega
        have hroomL : j + 1 ≤ l'.length := by omega
        have hgl : R.gb < R.wr.heap.size := by rw [hR]; exact hsb1.lt
        have hsl : R.sb < R.wr.heap.size := by rw [hR]; exact hhb1.lt
        refine wp_region_loose (J := R.J) (Sp := R.Sp) (by kernel_rfl) (by kernel_rfl) ?_ ?_ ?_
        · subst hR
          exact ⟨fun _ => (Fr.refl _ _).drew, fun _ _ => hsb1, fun h => (by cases h), fun h => (by cases h)⟩
        · intro L a w1 i o hI hi hL hw
          have hj := hI.j
          have same : L R.S = false → ∀ i, i ≠ 13 ∧ i ≠ 16 → R.J (lSet L i) w1 := fun hS i hi => hj.alloc hS (Fr.refl _ _) i (by rw [rA, rS]; exact hi)
          have nop : ∀ j u, L j = true → R.Sp j w1 u → R.Sp j w1 u := fun _ _ _ h => h
          rcases i with _ | _ | _ | _ | _ | _ | _ | _ | _ | _ | _ | _ | _ | _ | _ | _ | _ | i
          · obtain rfl := Option.some.inj hi
            have hS : L 16 = false := hI.before (i := 0) (j := 16) hL rfl (by kernel_rfl)
            have hS' : L R.S = false := by rw [hR]; exact hS
            have e0 := hI.outer 0 (by kernel_rfl) (.pointer (some ⟨rb, 0, none⟩)) rfl
            rw [Array.getD_eq_getD_getElem?] at e0
            exact lw (.pointer (some ⟨rb, 0, none⟩)) (by simp [go_sem, e0]) ⟨_, rfl, same hS' 0 (by decide), nop, AR.sp_c (by rw [rB]; decide) (by subst hR; rfl)⟩
          · obtain rfl := Option.some.inj hi
            have hS : L 16 = false := hI.before (i := 1) (j := 16) hL rfl (by kernel_rfl)
            have hS' : L R.S = false := by rw [hR]; exact hS
            have l0 := waits_of hw 0 (by kernel_rfl)
            have e0 : a.tmps.getD 204 undef = .pointer (some ⟨rb, 0, none⟩) := (AR.of_sp (hI.val 0 _ 204 l0 rfl rfl) (by rw [rB]; decide)).trans (by subst hR; rfl)
            rw [Array.getD_eq_getD_getElem?] at e0
            exact lw (.pointer (some ⟨rb, 0, none⟩)) (by simp [go_sem, e0]) ⟨_, rfl, same hS' 1 (by decide), nop, AR.sp_c (by rw [rB]; decide) (by subst hR; rfl)⟩
          · obtain rfl := Option.some.inj hi
            have hS : L 16 = false := hI.before (i := 2) (j := 16) hL rfl (by kernel_rfl)
            have hS' : L R.S = false := by rw [hR]; exact hS
            have l0 := waits_of hw 1 (by kernel_rfl)
            have e0 : a.tmps.getD 205 undef = .pointer (some ⟨rb, 0, none⟩) := (AR.of_sp (hI.val 1 _ 205 l0 rfl rfl) (by rw [rB]; decide)).trans (by subst hR; rfl)
            rw [Array.getD_eq_getD_getElem?] at e0
            exact lw (.pointer (some ⟨rb, 3, none⟩)) (by simp [go_sem, e0]) ⟨_, rfl, same hS' 2 (by decide), nop, AR.sp_c (by rw [rB]; decide) (by subst hR; rfl)⟩
          · obtain rfl := Option.some.inj hi
            have hS : L 16 = false := hI.before (i := 3) (j := 16) hL rfl (by kernel_rfl)
            have hS' : L R.S = false := by rw [hR]; exact hS
            have l0 := waits_of hw 2 (by kernel_rfl)
            have e0 : a.tmps.getD 206 undef = .pointer (some ⟨rb, 3, none⟩) := (AR.of_sp (hI.val 2 _ 206 l0 rfl rfl) (by rw [rB]; decide)).trans (by subst hR; rfl)
            rw [Array.getD_eq_getD_getElem?] at e0
            have hc := (hxc w1 (by have := hj.a hS'; rw [hR] at this; exact this)).1
            exact lw (.pointer (some ⟨hb, 0, none⟩)) (by simp [go_sem, e0, hc]) ⟨_, rfl, same hS' 3 (by decide), nop, AR.sp_c (by rw [rB]; decide) (by subst hR; rfl)⟩
          · obtain rfl := Option.some.inj hi
            have hS : L 16 = false := hI.before (i := 4) (j := 16) hL rfl (by kernel_rfl)
            have hS' : L R.S = false := by rw [hR]; exact hS
            have e0 := hI.outer 0 (by kernel_rfl) (.pointer (some ⟨rb, 0, none⟩)) rfl
            rw [Array.getD_eq_getD_getElem?] at e0
            exact lw (.pointer (some ⟨rb, 0, none⟩)) (by simp [go_sem, e0]) ⟨_, rfl, same hS' 4 (by decide), nop, AR.sp_c (by rw [rB]; decide) (by subst hR; rfl)⟩
          · obtain rfl := Option.some.inj hi
            have hS : L 16 = false := hI.before (i := 5) (j := 16) hL rfl (by kernel_rfl)
            have hS' : L R.S = false := by rw [hR]; exact hS
            have l0 := waits_of hw 4 (by kernel_rfl)
            have e0 : a.tmps.getD 208 undef = .pointer (some ⟨rb, 0, none⟩) := (AR.of_sp (hI.val 4 _ 208 l0 rfl rfl) (by rw [rB]; decide)).trans (by subst hR; rfl)
            rw [Array.getD_eq_getD_getElem?] at e0
            exact lw (.pointer (some ⟨rb, 0, none⟩)) (by simp [go_sem, e0]) ⟨_, rfl, same hS' 5 (by decide), nop, AR.sp_c (by rw [rB]; decide) (by subst hR; rfl)⟩
          · obtain rfl := Option.some.inj hi
            have hS : L 16 = false := hI.before (i := 6) (j := 16) hL rfl (by kernel_rfl)
            have hS' : L R.S = false := by rw [hR]; exact hS
            have l0 := waits_of hw 5 (by kernel_rfl)
            have e0 : a.tmps.getD 209 undef = .pointer (some ⟨rb, 0, none⟩) := (AR.of_sp (hI.val 5 _ 209 l0 rfl rfl) (by rw [rB]; decide)).trans (by subst hR; rfl)
            rw [Array.getD_eq_getD_getElem?] at e0
            exact lw (.pointer (some ⟨rb, 3, none⟩)) (by simp [go_sem, e0]) ⟨_, rfl, same hS' 6 (by decide), nop, AR.sp_c (by rw [rB]; decide) (by subst hR; rfl)⟩
          · obtain rfl := Option.some.inj hi
            have hS : L 16 = false := hI.before (i := 7) (j := 16) hL rfl (by kernel_rfl)
            have hS' : L R.S = false := by rw [hR]; exact hS
            have l0 := waits_of hw 6 (by kernel_rfl)
            have e0 : a.tmps.getD 210 undef = .pointer (some ⟨rb, 3, none⟩) := (AR.of_sp (hI.val 6 _ 210 l0 rfl rfl) (by rw [rB]; decide)).trans (by subst hR; rfl)
            rw [Array.getD_eq_getD_getElem?] at e0
            have hc := (hxc w1 (by have := hj.a hS'; rw [hR] at this; exact this)).1
            exact lw (.pointer (some ⟨hb, 0, none⟩)) (by simp [go_sem, e0, hc]) ⟨_, rfl, same hS' 7 (by decide), nop, AR.sp_c (by rw [rB]; decide) (by subst hR; rfl)⟩
          · obtain rfl := Option.some.inj hi
            have hS : L 16 = false := hI.before (i := 8) (j := 16) hL rfl (by kernel_rfl)
            have hS' : L R.S = false := by rw [hR]; exact hS
            have l0 := waits_of hw 7 (by kernel_rfl)
            have e0 : a.tmps.getD 211 undef = .pointer (some ⟨hb, 0, none⟩) := (AR.of_sp (hI.val 7 _ 211 l0 rfl rfl) (by rw [rB]; decide)).trans (by subst hR; rfl)
            rw [Array.getD_eq_getD_getElem?] at e0
            exact lw (.pointer (some ⟨hb, 0, none⟩)) (by simp [go_sem, e0]) ⟨_, rfl, same hS' 8 (by decide), nop, AR.sp_c (by rw [rB]; decide) (by subst hR; rfl)⟩
          · obtain rfl := Option.some.inj hi
            have hS : L 16 = false := hI.before (i := 9) (j := 16) hL rfl (by kernel_rfl)
            have hS' : L R.S = false := by rw [hR]; exact hS
            have l0 := waits_of hw 8 (by kernel_rfl)
            have e0 : a.tmps.getD 212 undef = .pointer (some ⟨hb, 0, none⟩) := (AR.of_sp (hI.val 8 _ 212 l0 rfl rfl) (by rw [rB]; decide)).trans (by subst hR; rfl)
            rw [Array.getD_eq_getD_getElem?] at e0
            exact lw (.pointer (some ⟨hb, 3, none⟩)) (by simp [go_sem, e0]) ⟨_, rfl, same hS' 9 (by decide), nop, AR.sp_c (by rw [rB]; decide) (by subst hR; rfl)⟩
          · obtain rfl := Option.some.inj hi
            have hS : L 16 = false := hI.before (i := 10) (j := 16) hL rfl (by kernel_rfl)
            have hS' : L R.S = false := by rw [hR]; exact hS
            have l0 := waits_of hw 9 (by kernel_rfl)
            have e0 : a.tmps.getD 213 undef = .pointer (some ⟨hb, 3, none⟩) := (AR.of_sp (hI.val 9 _ 213 l0 rfl rfl) (by rw [rB]; decide)).trans (by subst hR; rfl)
            rw [Array.getD_eq_getD_getElem?] at e0
            have hc := (hxc w1 (by have := hj.a hS'; rw [hR] at this; exact this)).2
            exact lw (.slice (some ⟨msb, 0, none⟩) j C) (by simp [go_sem, e0, hc]) ⟨_, rfl, same hS' 10 (by decide), nop, AR.sp_c (by rw [rB]; decide) (by subst hR; rfl)⟩
          · obtain rfl := Option.some.inj hi
            have hS : L 16 = false := hI.before (i := 11) (j := 16) hL rfl (by kernel_rfl)
            have hS' : L R.S = false := by rw [hR]; exact hS
            have e0 := hI.outer 8 (by kernel_rfl) (.int .u32 (cs j : Nat)) rfl
            rw [Array.getD_eq_getD_getElem?] at e0
            exact lw (.int .u32 (cs j : Nat)) (by simp [go_sem, e0]) ⟨_, rfl, same hS' 11 (by decide), nop, AR.sp_c (by rw [rB]; decide) (by subst hR; rfl)⟩
          · obtain rfl := Option.some.inj hi
            have hS : L 16 = false := hI.before (j := 16) hL rfl (by kernel_rfl)
            have hS' : L R.S = false := by rw [hR]; exact hS
            have l0 := waits_of hw 11 (by kernel_rfl)
            have e0 : a.tmps.getD 215 undef = R.u := (AR.of_sp (hI.val 11 _ 215 l0 rfl rfl) (by rw [rB]; decide)).trans (by subst hR; rfl)
            have f := (Fr.refl [] w1).alloc (.cells #[R.u] 63)
            have hnew : Blk (w1.alloc (.cells #[R.u] 63)) w1.heap.size R.T [R.u] := by rw [rT]; exact Blk.new' _ _ _
            exact ow_build1 trivial 22 63 (.tmp 215) rfl R.u e0 (by subst hR; rfl) Tryd.underlying22 (by kernel_rfl) ⟨_, rfl, hj.alloc hS' f 12 (by rw [rA, rS]; decide), fun j u _ => AR.Sp_fr0 f j u, by unfold AR.Sp; rw [rB, if_pos rfl]; exact ⟨w1.heap.size, rfl, hnew, (hj.a hS').size⟩⟩
          · obtain rfl := Option.some.inj hi
            have hS : L 16 = false := hI.before (j := 16) hL rfl (by kernel_rfl)
            have hS' : L R.S = false := by rw [hR]; exact hS
            have l0 := waits_of hw 10 (by kernel_rfl)
            have l1 := waits_of hw 12 (by kernel_rfl)
            have e0 : a.tmps.getD 214 undef = .slice (some ⟨R.gb, 0, none⟩) R.n R.cap := (AR.of_sp (hI.val 10 _ 214 l0 rfl rfl) (by rw [rB]; decide)).trans (by subst hR; rfl)
            obtain ⟨g, e1, hg, hge⟩ := AR.of_spB (R := R) (by rw [rB]; exact hI.val 12 _ 216 l1 rfl rfl)
            rw [rT] at hg
            have hgb := hj.b (by rw [rA]; exact hL) hS'
            rw [rT] at hgb
            refine ow_app_room (.tmp 214) (.tmp 216) 22 rfl 63 Tryd.underlying22 (by kernel_rfl) R.gb R.n R.cap R.l e0 hgb g R.u e1 hg (by subst hR; rfl) (by subst hR; exact hroomA) (by subst hR; exact hroomL) ?_
            intro w' hf hb
            have hja := hj.app hS' (by rw [rA, rS]; decide) hf (by rw [rT]; exact hb)
            rw [rA] at hja
            exact ⟨_, rfl, hja, fun j u _ => AR.Sp_fr hf hgl j u, AR.sp_c (by rw [rB]; decide) (by subst hR; rfl)⟩
          · obtain rfl := Option.some.inj hi
            have hvia : L 15 = false := hI.before (j := 15) hL rfl (by kernel_rfl)
            have hS : L 16 = false := hI.before (i := 15) (j := 16) hvia rfl (by kernel_rfl)
            have hS' : L R.S = false := by rw [hR]; exact hS
            have l0 := waits_of hw 3 (by kernel_rfl)
            have e0 : a.tmps.getD 207 undef = .pointer (some ⟨hb, 0, none⟩) := (AR.of_sp (hI.val 3 _ 207 l0 rfl rfl) (by rw [rB]; decide)).trans (by subst hR; rfl)
            rw [Array.getD_eq_getD_getElem?] at e0
            exact lw (.pointer (some ⟨hb, 0, none⟩)) (by simp [go_sem, e0]) ⟨_, rfl, same hS' 14 (by decide), nop, AR.sp_c (by rw [rB]; decide) (by subst hR; rfl)⟩
          · obtain rfl := Option.some.inj hi
            have hS : L 16 = false := hI.before (i := 15) (j := 16) hL rfl (by kernel_rfl)
            have hS' : L R.S = false := by rw [hR]; exact hS
            have l0 := waits_of hw 14 (by kernel_rfl)
            have e0 : a.tmps.getD 218 undef = .pointer (some ⟨hb, 0, none⟩) := (AR.of_sp (hI.val 14 _ 218 l0 rfl rfl) (by rw [rB]; decide)).trans (by subst hR; rfl)
            rw [Array.getD_eq_getD_getElem?] at e0
            exact lw (.pointer (some ⟨hb, 3, none⟩)) (by simp [go_sem, e0]) ⟨_, rfl, same hS' 15 (by decide), nop, AR.sp_c (by rw [rB]; decide) (by subst hR; rfl)⟩
          · obtain rfl := Option.some.inj hi
            have hS' : L R.S = false := by rw [rS]; exact hL
            have l0 := waits_of hw 15 (by kernel_rfl)
            have l1 := waits_of hw 13 (by kernel_rfl)
            have e0 : a.tmps.getD 219 undef = .pointer (some ⟨hb, 3, none⟩) := (AR.of_sp (hI.val 15 _ 219 l0 rfl rfl) (by rw [rB]; decide)).trans (by subst hR; rfl)
            have e1 : a.tmps.getD 217 undef = .slice (some ⟨msb, 0, none⟩) (j + 1) C := (AR.of_sp (hI.val 13 _ 217 l1 rfl rfl) (by rw [rB]; decide)).trans (by subst hR; rfl)
            rw [Array.getD_eq_getD_getElem?] at e0 e1
            have hSc := hsc w1 (by have := hj.a hS'; rw [hR] at this; exact this)
            have hJ := hj.store hS' (by rw [rA]; exact l1)
            have hSp : ∀ j u, L j = true → R.Sp j w1 u → R.Sp j (w1.setCell ⟨R.sb, R.k, none⟩ R.nv) u := fun j u _ => AR.Sp_fr ((Fr.refl [R.sb] w1).setCell (.inl (by simp)) _) hsl j u
            rw [rS] at hJ
            have hend : R.Sp 16 (w1.setCell ⟨R.sb, R.k, none⟩ R.nv) undef := AR.sp_c (by rw [rB]; decide) (by subst hR; rfl)
            subst hR
            exact lw_skip (by simp [go_sem, e0, e1, hSc.1, hSc.2]; rfl) ⟨_, rfl, hJ, hSp, hend⟩
          · cases hi
        · intro L a w1 hI hall
          have hd := hI.j.d (by rw [rS]; exact hall 16 (by decide))
          rw [hR] at hd
          obtain ⟨w3, g1, g2, g3⟩ := hd
          have hlit := hI.lit [204, 205, 206, 207, 208, 209, 210, 211, 212, 213, 214, 215, 216, 217, 218, 219] (by kernel_rfl)
          rw [hlit]
          simp only [List.foldl, List.setIfInBounds_toArray, List.set_cons_succ, List.set_cons_zero]
          rename (∀ (a : Act) (w : World), Met _ a w → _) => hK
          refine hK _ _ ?_
          go_meet
          case rel =>
            subst g3
            exact ⟨(g1.mono (by simp)).setCell (.inl (by simp)) _, (hhb1.fr g1 (by simpa using nhm)).set 3 _, g2.setOther (p := ⟨hb, 3, none⟩) nhm _⟩
      case rest =>
        obtain ⟨hf2, hhb2, hsb2⟩ := hcut
        have y1 : Fr [hb] w wc := hf1.trans hf2 (by simp; omega)
        have ymb := hmb1.fr hf2 (by simp; omega)
        have yms := hms.fr hf2 (by simp; omega)
        have hD1 : ∀ i, i < j + 1 → (splice l' j [Value.int .u32 (cs j : Nat)])[i]? = some (.int .u32 (cs i : Nat)) := by
          intro i hi
          rw [splice_get _ _ _ (by simp; omega)]
          by_cases hik : i = j
          · subst hik; rw [if_pos (by simp)]; simp
          · rw [if_neg (by simp; omega)]; exact hL2.out i (by omega)
        have hl3 : (splice l' j [Value.int .u32 (cs j : Nat)]).length = C := by rw [length_splice _ _ _ (by simp; omega)]; exact hl1
        have HD1 := Lib.hid hD1
        clear hD1 hf1 hhb1 hmb1 hsb1 hms hf2
        generalize hLL : splice l' j [Value.int .u32 (cs j : Nat)] = l2 at *
        have hat := HCH.out.at_ j hlt
        have hnx := HCH.out.next j hlt
        have hnx4 : (j + 1 < m ∧ cs (j + 1) ≤ 65535) ∨ (j + 1 = m ∧ cs (j + 1) = 4294967294) := by
          by_cases h : j + 1 < m
          · exact .inl ⟨h, (HCH.out.low _ h).1⟩
          · have e : j + 1 = m := by omega
            right; exact ⟨e, by rw [e]; exact HCH.out.last⟩
        have hnS : cs (j + 1) ≤ cs j → ¬ ∃ i, 1 ≤ i ∧ i ≤ j ∧ cs (j + 1) = cs i := by
          intro h ⟨i, a, b, c⟩
          exact HCH.out.nodup i (j + 1) (by omega) (by omega) c.symm
        have hne1 : cs (j + 1) ≤ cs j → cs j ≠ cs (j + 1) := by
          intro h
          exact HCH.out.nodup j (j + 1) (by omega) (by omega)
        go_wp2_with fail
        refine (findNext_at rb hb fb sb bb n ncap ss (cs j) F _ _ _ _ _ _ _ _ (hS.fr y1 (by simpa using hsh) (by simpa using hbh)) (hrb.fr y1 (by simpa using hrh)) hhb2 (hfb.fr y1 (by simpa using hfbh)) HSs.out hat).mono ?_
        rintro e w6 ⟨rfl, hf6⟩
        rw [hnx]
        have x1 := y1.trans0 hf6
        have x2 := hhb2.fr0 hf6
        have x3 := ymb.fr0 hf6
        have x4 := yms.fr hf6 (by simp)
        have x5 := hsb2.fr0 hf6
        have xm : (w6.cell? ⟨hb, 3, none⟩).getD .nilIface = (.slice (some ⟨msb, 0, none⟩) (j + 1) C) := by rw [x2.cell 3]; rfl
        by_cases hle : cs (j + 1) ≤ cs j
        · have q1 : decide (cs (j + 1) ≤ cs j) = true := by simpa using hle
          have q2 : decide (cs (j + 1) = cs j) = false := by simpa using fun h => hne1 hle h.symm
          have q2' : ¬ (cs (j + 1) = cs j) := fun h => hne1 hle h.symm
          have q3 := x4.run_lookup (cs (j + 1)) (by omega) (hnS hle)
          go_wp2_with (at_mapUpdate; refine wpList_update_mset rfl _ _ _ rfl mp _ rfl x4 (cs (j + 1)) rfl (by omega) (hnS hle) ?_; intro w7 hf7 hm7)
          have n1 : mp ≠ hb := by omega
          have xm' : (w7.cell? ⟨hb, 3, none⟩).getD .nilIface = (.slice (some ⟨msb, 0, none⟩) (j + 1) C) := by rw [(x2.fr hf7 (by simpa using n1.symm)).cell 3]; rfl
          go_roundw
          case rel =>
            refine ⟨j + 1, l2, by omega, rfl, by go_num, x1.trans hf7 (fun x hx => .inr (by simp at hx; omega)), x2.fr hf7 (by simpa using n1.symm), x3.fr hf7 (by simp; omega), x5.fr hf7 (by simp; omega), hl3, HD1.out, hm7.mono ?_⟩
            rintro k (⟨i, a, b, c⟩ | h)
            · exact ⟨i, a, by omega, c⟩
            · exact ⟨j + 1, by omega, by omega, h⟩
          case measure => rw [xm', xm0]; simp [lenOf]; omega
        · have q1 : decide (cs (j + 1) ≤ cs j) = false := by simpa using hle
          have xm' := xm
          go_wp2_with fail
          go_roundw
          case rel => exact ⟨j + 1, l2, by omega, rfl, by go_num, x1, x2, x3, x5, hl3, HD1.out, x4.mono (fun k ⟨i, a, b, c⟩ => ⟨i, a, by omega, c⟩)⟩
          case measure => rw [xm', xm0]; simp [lenOf]; omega
    · obtain rfl : j = m := by omega
      have hcl := HCH.out.last
      go_wp2_with fail
      go_ret
      refine ⟨rfl, hf1, mb, msb, C, hhb1, by omega, hsz, hmc, ?_, ?_⟩
      · intro i hi
        rw [hmb1.cell, tab_get _ _ _ hi]
      · intro i hi
        rw [hsb1.cell]
        exact hL2.out i hi
end Go.Proofs.YtokpomdfgbbhlaaDoor

/- FnCodes: a file with another byte of its signature or size of sectors is an error of its format, a short one an error of reading (part 3 of 12). No condition but the statement's own. -/
import Derived.OrdersHeld
import Derived.Outline
import Derived.Deep.CutBlock
import Derived.Test.YtokpomdfgbbhlaaDoorCdb
set_option linter.all false
set_option linter.unusedVariables false
set_option linter.unusedSimpArgs false
set_option linter.unnecessarySimpa false
/- The contract of (*Reader).setDirEntries over a sound directory. -/
namespace Go.Proofs.YtokpomdfgbbhlaaDoor
open Go Go.RowKit Go.Maps

/-- The files e < E lie in memory. -/
def Files (w : World) (base rb : Nat) (G : Nat → Nat → UInt8) (P : Nat → EntP) (fk dk : Nat → Nat) (E : Nat) : Prop :=
  ∀ e, e < E → base ≤ fk e ∧ base ≤ dk e ∧ Blk w (fk e) 95 (flCells (P e).name (P e).init (.slice none 0 0) (P e).size 0 (fld (G e) 116 4) 0 (dk e) rb) ∧ Blk w (dk e) 119 (tab 69 (dirL12 (G e)))

theorem Files.fr {w w' : World} {base rb : Nat} {G : Nat → Nat → UInt8} {P : Nat → EntP} {fk dk : Nat → Nat} {E : Nat} {ms : List Nat} (h : Files w base rb G P fk dk E) (f : Fr ms w w')
    (h1 : ∀ e, e < E → fk e ∉ ms) (h2 : ∀ e, e < E → dk e ∉ ms) : Files w' base rb G P fk dk E := fun e he => by
  obtain ⟨a, b, c, d⟩ := h e he
  exact ⟨a, b, c.fr f (h1 e he), d.fr f (h2 e he)⟩

theorem info92 : (Tryd.prog.info? 92).map (fun i => (i.zero, i.size, i.bytes)) = some (some (.pointer none), 1, 8) := by kernel_rfl

theorem fixFile_ok (v fk d : Nat) (p : EntP) (path : Value) (i : Int) (cur : Nat) (rem : Int) (r : Nat) (G : Nat → UInt8) (w : World)
    (hf : Blk w fk 95 (flCells ByteArray.empty 0 path 0 i cur rem d r)) (hd : Blk w d 119 (tab 69 (dirL12 G))) (hp : EntOK G p)
    (hpr : ∀ i, 65 ≤ i → i ≤ 90 → w.cell? ⟨2, i, none⟩ = some (.int .u8 160)) (h2 : fk ≠ 2) :
    Calls Tryd.prog 61 #[.int .u16 v, .pointer (some ⟨fk, 0, none⟩)] w fun e w' => e = .returned (.tuple #[]) ∧ Fr [fk] w w' ∧ Blk w' fk 95 (flCells p.name p.init path p.size i cur rem d r) := by
  rcases hp with ⟨a, b, c, e, f⟩ | ⟨m, sz, a1, a2, a3, a4, a5, a6, a7, a8, a9, b1, b2, b3⟩
  · refine (fixFile_unused v fk d _ _ path 0 i cur rem r G w hf hd a b).mono ?_
    rintro e' w' ⟨rfl, rfl⟩
    rw [c, e, f]
    exact ⟨rfl, Fr.refl _ _, hf⟩
  · rw [b1, b2]
    exact fixFile_any v fk d _ _ path i cur rem r G m sz w hf hd a1 a2 a3 (fun i hi => a4 i (by omega)) a5 a6 (hpr _ a5 a6) h2 a7 a8 a9 _ b3

theorem findNext_at (rb hb fb sb bb n cap ss sn : Nat) (F : Nat → UInt8) (buf file dir mf ms wa : Value) (entry : Int) (w : World) (hS : Src w sb bb n cap F)
    (hrb : Blk w rb 91 (rdCells ss buf (.pointer (some ⟨hb, 0, none⟩)) file dir entry sb wa)) (hhb : Blk w hb 142 (hdCells fb (.slice (some ⟨fb, 45, none⟩) 109 109) mf ms)) (hfb : Blk w fb 147 (hdrN F 109))
    (hss : ss = 512 ∨ ss = 4096) (hat : FatAt F n ss sn) :
    Calls Tryd.prog 62 #[.pointer (some ⟨rb, 0, none⟩), .int .u32 sn, .bool false] w fun e w' => e = .returned (.tuple #[.int .u32 (fatNext F ss sn), .nilIface]) ∧ Fr [] w w' :=
  findNext_reg rb hb sb bb ss n cap sn fb F _ w hS (hrb.cell 1) (hrb.cell 3) (hrb.cell 7) hss hat.idx hat.loc (hhb.cell 1) ((hfb.cell _).trans (hdrN_tab F 109 _ (Nat.le_refl _) hat.idx)) hat.here

/-- One file more behind the row. -/
theorem dir_step {w w2 w3 w5 : World} {rb ub N fkb mb : Nat} {B : Nat → Nat → UInt8} {P : Nat → EntP} {fk dk : Nat → Nat} {u4 v' : Value} {S : Nat → Prop} {L2 l0 : List Value} {o : Obj}
    (lw : w.heap.size ≤ fkb) (hlu : ub < w.heap.size) (hfr2 : Fr [ub] w w2) (hbu2 : Blk w2 ub 5 L2) (hfi2 : Files w2 w.heap.size rb B P fk dk N) (hlt : ∀ e, e < N → fk e < fkb ∧ dk e < fkb)
    (hmo : ∀ a b, a < b → b < N → fk a < fk b ∧ dk a < dk b) (hown2 : w2.ownsRow w.heap.size 92 1 u4 N (tab N (fun e => .pointer (some ⟨fk e, 0, none⟩)))) (hms2 : MSet w2 mb S) (hbk2 : Blk w2 fkb 95 l0)
    (hbd2 : Blk w2 (fkb + 1) 119 (tab 69 (dirL12 (B N)))) (hf24 : Fr [fkb] w2 w3) (hbk4 : Blk w3 fkb 95 (flCells (P N).name (P N).init (.slice none 0 0) (P N).size 0 0 0 (fkb + 1) rb))
    (hown5 : w5.ownsRow w.heap.size 92 1 v' (N + 1) (tab N (fun e => .pointer (some ⟨fk e, 0, none⟩)) ++ [.pointer (some ⟨fkb, 0, none⟩)]))
    (hg : ((w3.setCell ⟨fkb, 5, none⟩ (.int .u32 (fld (B N) 116 4))).alloc o).grownBy w5 u4.ownBlock) :
    ∃ fk' dk', Fr [ub] w w5 ∧ Files w5 w.heap.size rb B P fk' dk' (N + 1) ∧ (∀ a b, a < b → b < N + 1 → fk' a < fk' b ∧ dk' a < dk' b) ∧
      w5.ownsRow w.heap.size 92 1 v' (N + 1) (tab (N + 1) (fun e => .pointer (some ⟨fk' e, 0, none⟩))) ∧ MSet w5 mb S ∧ Blk w5 ub 5 L2 := by
  have n1 := own_ne hown2 hbk2 (by decide)
  have n2 := own_ne hown2 hbu2 (by decide)
  have n3 := own_mset hown2 hms2
  have n4 := own_ne hown2 hbd2 (by decide)
  have hF : Fr (fkb :: u4.ownBlock.toList) w2 w5 := by
    have a1 : Fr [fkb] w2 ((w3.setCell ⟨fkb, 5, none⟩ (.int .u32 (fld (B N) 116 4))).alloc o) := (hf24.setCell (.inl (by simp)) _).alloc _
    exact (a1.mono (fun x hx => .inl (by simp at hx; simp [hx]))).trans (Fr.of_grown hg) (fun x hx => .inl (by simp at hx; simp [hx]))
  have e5 : Blk w5 fkb 95 (flCells (P N).name (P N).init (.slice none 0 0) (P N).size 0 (fld (B N) 116 4) 0 (fkb + 1) rb) := by
    have := (hbk4.set 5 (.int .u32 (fld (B N) 116 4))).alloc o
    exact this.fr (Fr.of_grown hg) n1
  refine ⟨fun e => if e = N then fkb else fk e, fun e => if e = N then fkb + 1 else dk e, ?_, ?_, ?_, ?_, ?_, ?_⟩
  · refine hfr2.trans hF ?_
    intro x hx
    simp only [List.mem_cons, Option.mem_toList, Option.mem_def] at hx
    rcases hx with rfl | hx
    · exact .inr lw
    · exact .inr (hown2.lt x hx).1
  · intro e he
    by_cases h : e = N
    · subst h
      simp only [if_true]
      refine ⟨lw, by omega, e5, ?_⟩
      exact hbd2.fr hF (by simp only [List.mem_cons]; rintro (h | h); omega; exact n4 h)
    · simp only [if_neg h]
      obtain ⟨a, b, c, d⟩ := hfi2 e (by omega)
      have := hlt e (by omega)
      exact ⟨a, b, c.fr hF (by simp only [List.mem_cons]; rintro (h | h); omega; exact own_ne hown2 c (by decide) h), d.fr hF (by simp only [List.mem_cons]; rintro (h | h); omega; exact own_ne hown2 d (by decide) h)⟩
  · intro a b hab hb
    by_cases h : b = N
    · have := hlt a (by omega)
      have ha : ¬ a = N := by omega
      simp only [if_pos h, if_neg ha]; omega
    · have ha : ¬ a = N := by omega
      simp only [if_neg h, if_neg ha]
      exact hmo a b hab (by omega)
  · rw [tab_snoc]
    simp only [if_true]
    rw [tab_congr (g' := fun e => .pointer (some ⟨fk e, 0, none⟩)) (fun i hi => by rw [if_neg (by omega)])]
    exact hown5
  · exact hms2.fr hF (by simp only [List.mem_cons]; rintro (h | h); exact hms2.notBlk hbk2 h; exact n3 h)
  · exact hbu2.fr hF (by simp only [List.mem_cons]; rintro (h | h); omega; exact n2 h)

set_option maxRecDepth 100000 in
set_option maxHeartbeats 1000000 in
theorem setDir_any (rb hb fb sb bb n cap ub ul uc ss : Nat) (F : Nat → UInt8) (L : List Value) (m : Nat) (cs : Nat → Nat) (P : Nat → EntP) (w : World) (hS : Src w sb bb n cap F) (hn : n ≤ 1000000)
    (hss : ss = 512 ∨ ss = 4096)
    (hrb : Blk w rb 91 (rdCells ss (.slice (some ⟨ub, 0, none⟩) ul uc) (.pointer (some ⟨hb, 0, none⟩)) (.slice none 0 0) (.slice none 0 0) 0 sb .nilIface)) (huc : ul ≤ uc ∧ uc ≤ 9223372036854775807) (hul : ss ≤ ul)
    (hhb : Blk w hb 142 (hdCells fb (.slice (some ⟨fb, 45, none⟩) 109 109) (.slice none 0 0) (.slice none 0 0))) (hfb : Blk w fb 147 (hdrN F 109))
    (hL : Blk w ub 5 L) (hLl : ss ≤ L.length) (hub : bb ≠ ub) (hsu0 : sb ≠ ub) (hp : ∀ i, 65 ≤ i → i ≤ 90 → w.cell? ⟨2, i, none⟩ = some (.int .u8 160)) (h2u : 2 ≠ ub) (h2w : 2 < w.heap.size)
    (hmaj : fld F 26 2 = 3 ∨ (fld F 26 2 = 4 ∧ 1 ≤ fld F 40 4 ∧ fld F 40 4 ≤ 64000)) (hch : Chain F n ss (fld F 48 4) m cs) (hc1 : 1 ≤ m) (hc2 : m ≤ 1000)
    (hP : ∀ e, e < m * (ss / 128) → EntOK (entB F ss cs e) (P e)) :
    Calls Tryd.prog 51 #[.pointer (some ⟨rb, 0, none⟩)] w fun e w' =>
      e = .returned .nilIface ∧ Fr [rb, ub] w w' ∧ ∃ fk dk v, Files w' w.heap.size rb (entB F ss cs) P fk dk (m * (ss / 128)) ∧ (∀ i j, i < j → j < m * (ss / 128) → fk i < fk j ∧ dk i < dk j) ∧
        w'.ownsRow w.heap.size 92 1 v (m * (ss / 128)) (tab (m * (ss / 128)) (fun e => .pointer (some ⟨fk e, 0, none⟩))) ∧
        Blk w' rb 91 (rdCells ss (.slice (some ⟨ub, 0, none⟩) ul uc) (.pointer (some ⟨hb, 0, none⟩)) (.slice none 0 0) v 0 sb .nilIface) ∧
        ∃ L', Blk w' ub 5 L' ∧ L'.length = L.length := by
  have r1 : w.cell? ⟨rb, 1, none⟩ = some (.int .u32 ss) := hrb.cell 1
  have r3 : w.cell? ⟨rb, 3, none⟩ = some (.pointer (some ⟨hb, 0, none⟩)) := hrb.cell 3
  have d0 : w.cell? ⟨hb, 0, none⟩ = some (.pointer (some ⟨fb, 0, none⟩)) := hhb.cell 0
  have f18 := (hfb.cell 18).trans (hdr_major F)
  have f30 := (hfb.cell 30).trans (hdr_ndir F)
  have f32 := (hfb.cell 32).trans (hdr_dir F)
  have lr := hrb.lt
  have lh := hhb.lt
  have lf := hfb.lt
  go_enter Tryd.func51, Tryd.ntmps51
  go_upto_region 2 with (fail)
  go_cut [36] from 13 to 35 (fun s36 w1 => w = w1 ∧ ((s36 = .bool false) ∨ (s36 = .bool true ∧ 1 ≤ fld F 40 4 ∧ fld F 40 4 ≤ 64000)))
  case first =>
    rcases hmaj with h | ⟨h, hx, hy⟩
    · rw [h] at f18
      clear h
      go_wp2_with fail
      go_meet
      case rel => exact ⟨rfl, .inl rfl⟩
    · rw [h] at f18
      clear h
      have hxN : decide (0 < fld F 40 4) = true := by simp; omega
      go_wp2_with fail
      go_meet
      case rel => exact ⟨rfl, .inr ⟨rfl, hx, hy⟩⟩
  case rest =>
  obtain ⟨rfl, hs36⟩ := hcut
  go_upto_if 36 with (fail)
  go_cut [3] from 37 to 58 (fun s3 w1 => w = w1 ∧ ∃ c : Nat, 1 ≤ c ∧ c ≤ 64000 ∧ s3 = .int .i64 c)
  case first =>
    rcases hs36 with rfl | ⟨rfl, hx, hy⟩
    · go_wp2_with fail
      go_meet
      case rel => exact ⟨rfl, 20, by omega, by omega, rfl⟩
    · have hyI : (fld F 40 4 : Int) ≤ 64000 := by omega
      go_wp2_with fail
      go_meet
      case rel => exact ⟨rfl, fld F 40 4, by omega, by omega, rfl⟩
  case rest =>
  obtain ⟨rfl, c, hc1', hc2', rfl⟩ := hcut
  have h0 : (1 : Nat) ≤ 1 := Nat.le_refl 1
  obtain ⟨i0, hi, hz0, hz1, hz2⟩ := info_parts info92
  have hmm := @run_makeMap Tryd.prog
  have HP := Lib.hid hP
  clear hP
  have hPR := Lib.hid hp
  clear hp
  generalize hnum : ss / 128 = num at *
  have hnumI : (ss : Int) / 128 = (num : Int) := by omega
  have hRB := Lib.hid hrb
  have hHB := Lib.hid hhb
  have hFB := Lib.hid hfb
  have hCH := Lib.hid hch
  clear hch
  have hSS := Lib.hid hss
  clear hss
  have hnw : (num : Int) % 4294967296 = num := by have := hSS.out; omega
  have hn2 : num = 4 ∨ num = 32 := by have := hSS.out; omega
  have hs512 : 512 ≤ ss ∧ ss ≤ 4096 := by have := hSS.out; omega
  have hrul : rb ≠ ub := fun h => by subst h; exact absurd (hrb.unique hL).1 (by decide)
  have hhu : hb ≠ ub := fun h => by subst h; exact absurd (hhb.unique hL).1 (by decide)
  have hfu : fb ≠ ub := fun h => by subst h; exact absurd (hfb.unique hL).1 (by decide)
  have hsu : sb ≠ ub := hsu0
  go_upto_region 6 with (fail)
  go_wp2_with (refine wpList_make_own _ rfl _ _ 85 rfl w.heap.size 92 i0 (.pointer none) 1 Tryd.underlying85 hi hz0 hz1 .i64 .i64 (c : Int) c rfl rfl rfl (by rw [hz2]; omega) (by unfold maxLen; omega) (Nat.le_refl _) ?_; intro w1 hown1 hg1; have hf1 : Fr [] w (w1.alloc (Obj.map #[] 0)) := Fr.alloc (Fr.of_grown hg1) _; have q1 := hf1.cell0 r1; have q3 := hf1.cell0 r3; have q0 := hf1.cell0 d0; have q32 := hf1.cell0 f32)
  have hms := MSet.made w1 (fun k => ∃ i, 1 ≤ i ∧ i ≤ 0 ∧ k = cs i)
  have hmb : w.heap.size ≤ w1.heap.size := hg1.size
  generalize w1.heap.size = mb at *
  go_loopw [2, 4, 7] (fun s2 s4 s7 wr => ∃ (j : Nat) (fk dk : Nat → Nat), j ≤ m ∧ s2 = .nilIface ∧ s7 = .int .u32 (cs j : Nat) ∧ Fr [ub] w wr ∧ Files wr w.heap.size rb (entB F ss cs) P fk dk (j * num) ∧ (∀ a b, a < b → b < j * num → fk a < fk b ∧ dk a < dk b) ∧
      wr.ownsRow w.heap.size 92 1 s4 (j * num) (tab (j * num) (fun e => .pointer (some ⟨fk e, 0, none⟩))) ∧ MSet wr mb (fun k => ∃ i, 1 ≤ i ∧ i ≤ j ∧ k = cs i) ∧ ∃ L', Blk wr ub 5 L' ∧ L'.length = L.length) (fun _ s4 _ _ => m * num - lenOf s4)
  case atStart => 
    refine ⟨0, fun _ => 0, fun _ => 0, by omega, rfl, ?_, hf1.mono (by simp), ?_, ?_, ?_, hms, L, hL.fr0 hf1, rfl⟩
    · rw [hCH.out.first]
    · intro e he; omega
    · intro a b _ hb; omega
    · simp only [Nat.zero_mul]
      exact hown1.alloc _
  case round =>
    obtain ⟨j, fk, dk, hj, rfl, rfl, hf, hfi, hmo, hown, hmset, L', hb', hl'⟩ := hrel
    by_cases hlt : j < m
    · have hsn := hCH.out.low j hlt
      have hne : decide (cs j = 4294967294) = false := by simp; omega
      go_wp2_with fail
      go_cut [8, 9] from 78 to 95 (fun s8 s9 w2 => s8 = .slice (some ⟨ub, 0, none⟩) ss uc ∧ s9 = .nilIface ∧ Fr [ub] wr w2 ∧ Blk w2 ub 5 (splice L' 0 (tab ss (fun i => U8 (F ((cs j + 1) * ss + i))))))
      case first =>
        generalize hA : (cs j + 1) * ss = A at *
        clear hPR HP hmm hfi hmo hown hmset hown1 hg1 hms hi hz0 hz1 hz2 hs36 hmaj f18 f30 f32 d0 r3 q1 q3 q0 q32 r1
        have hW : wr.drew.drew = wr.drewN 2 := rfl
        have hrb2 := hRB.out.fr hf (by simpa using hrul)
        have hcon1 := Lib.hid (fun w0 => fileOffset_any ss (cs j) A hA w0 (by omega) (by omega))
        have hcon := Lib.hid (fun w0 (f0 : Fr [] wr w0) => readAt_any rb sb bb n cap A ss ub ul uc F L' w0 ((hS.fr hf (by simpa using hsu) (by simpa using hub)).fr0 f0) ((hrb2.fr0 f0).cell 7) ((hrb2.fr0 f0).cell 0) ((hrb2.fr0 f0).cell 2) huc.1 (hb'.fr0 f0) (by omega) (by omega) (by omega) (by omega) hrul)
        have q1w : wr.cell? ⟨rb, 1, none⟩ = some (.int .u32 ss) := hrb2.cell 1
        have hB := Lib.hid hb'
        clear hb' hrb hhb hfb hL hS
        have hAn := hsn.2
        have hc16 := hsn.1
        clear hsn hne hA
        have hs5 : ss ≤ 4096 := hs512.2
        have hs6 : IntKind.i64.wrap (ss : Int) = ss := by unfold IntKind.wrap; simp [IntKind.bits, IntKind.signed]; omega
        go_region_held3 (fun w' => w'.cell? ⟨rb, 1, none⟩ = some (.int .u32 ss))
          (first | go_keep | exact (hrb2.drew.fr hf3 (by simpa using hrul)).cell 1)
          (first | (go_at_call 58; refine (hcon1.out _).mono ?_; rintro e w3 ⟨rfl, rfl⟩) | (go_at_call 56; refine (hcon.out _ ((Fr.refl _ _).drew)).mono ?_; rintro e w3 ⟨rfl, hf3, hb3⟩))
        all_goals
          go_wp2_with fail
          go_meet
          case rel => exact ⟨rfl, rfl, (Fr.refl _ _).drew.trans_same hf3, hb3⟩
      case rest =>
        obtain ⟨rfl, rfl, hf2, hb2⟩ := hcut
        have hfw := hf.trans_same hf2
        have hfi2 := hfi.fr hf2 (fun e he => by simp; intro h; have := (hfi e he).1; have := hL.lt; omega) (fun e he => by simp; intro h; have := (hfi e he).2.1; have := hL.lt; omega)
        have hown2 := own_fr hown hf2 (fun k hk => by simp; rintro rfl; have := (hown.lt _ hk).1; have := hL.lt; omega)
        have hms2 := hmset.fr hf2 (by simpa using hmset.notBlk hb')
        generalize hLL : splice L' 0 (tab ss (fun i => U8 (F ((cs j + 1) * ss + i)))) = L2 at hb2
        have hLread : ∀ i, i < ss → L2[i]? = some (U8 (F ((cs j + 1) * ss + i))) := fun i hi => by rw [← hLL, splice_get _ _ _ (by simp; omega), if_pos (by simp; omega), Nat.sub_zero, tab_get _ _ _ hi]
        have hlen0 := own_len hown
        have hL2 : L2.length = L.length := by rw [← hLL, length_splice _ _ _ (by simp; omega)]; exact hl'
        clear hLL hb' hf hf2 hfi hown hmset
        go_wp2_with fail
        go_loopw [4, 10] (fun s4 s10 wi => ∃ (k : Nat) (fk dk : Nat → Nat), k ≤ num ∧ s10 = .int .i64 k ∧ Fr [ub] w wi ∧ Files wi w.heap.size rb (entB F ss cs) P fk dk (j * num + k) ∧ (∀ a b, a < b → b < j * num + k → fk a < fk b ∧ dk a < dk b) ∧
          wi.ownsRow w.heap.size 92 1 s4 (j * num + k) (tab (j * num + k) (fun e => .pointer (some ⟨fk e, 0, none⟩))) ∧ MSet wi mb (fun k => ∃ i, 1 ≤ i ∧ i ≤ j ∧ k = cs i) ∧ Blk wi ub 5 L2) (fun _ s10 _ => num - (intOf s10).toNat)
        case atStart => exact ⟨0, fk, dk, by omega, rfl, hfw, hfi2, hmo, hown2, hms2, hb2⟩
        case round =>
          clear hfw hfi2 hmo hown2 hms2 hb2
          clear fk dk
          obtain ⟨k, fk, dk, hk, rfl, hf, hfi, hmo, hown, hmset, hbu⟩ := hrel
          by_cases hkn : k < num
          · have hknI : (k : Int) < (num : Int) := by omega
            go_wp2_with fail
            have hent : ∀ x, entB F ss cs (j * num + k) x = F ((cs j + 1) * ss + k * 128 + x) := by
              intro x
              unfold entB
              rw [hnum, Nat.mul_comm j num, Nat.mul_add_div (by omega), Nat.mul_add_mod, Nat.div_eq_of_lt hkn, Nat.mod_eq_of_lt hkn]; simp
            have hEok := HP.out (j * num + k) (by have := Nat.mul_le_mul_right num hlt; rw [Nat.succ_mul] at this; omega)
            have hfiA := hfi
            generalize hG : entB F ss cs (j * num + k) = G at *
            have hfk : Fr [] wr (wr.alloc (Obj.cells #[Value.string { data := #[] }, Value.int IntKind.u16 0, Value.slice none 0 0, Value.int IntKind.i64 0, Value.int IntKind.i64 0, Value.int IntKind.u32 0, Value.int IntKind.i64 0, Value.pointer none, Value.pointer (some { block := rb, off := 0 })] 95)) := (Fr.refl _ _).alloc _
            have hbk := Blk.new' wr 95 #[Value.string { data := #[] }, Value.int IntKind.u16 0, Value.slice none 0 0, Value.int IntKind.i64 0, Value.int IntKind.i64 0, Value.int IntKind.u32 0, Value.int IntKind.i64 0, Value.pointer none, Value.pointer (some { block := rb, off := 0 })]
            refine (makeDirEntry_any ub (k * 128) (ss - k * 128) (uc - k * 128) G _ (by omega) (by omega) (by omega) (by omega) ?_).mono ?_
            · intro i hi
              rw [hent, Nat.add_assoc]
              exact hfk.cell0 ((hbu.cell (k * 128 + i)).trans (hLread _ (by omega)))
            rintro e w2 ⟨rfl, hf2, hbd⟩
            have hbk2 := hbk.fr0 hf2
            have k7 := hbk2.cell 7
            have z7 := hbk2.frozen 7
            have hfr2 := hf.trans0 (hfk.trans0 hf2)
            have hbu2 := hbu.fr0 (hfk.trans0 hf2)
            have hfi2 := hfi.fr (hfk.trans0 hf2) (by simp) (by simp)
            have hown2 := own_fr hown (hfk.trans0 hf2) (by simp)
            have hms2 := hmset.fr (hfk.trans0 hf2) (by simp)
            have hfks : (wr.alloc (Obj.cells #[Value.string { data := #[] }, Value.int IntKind.u16 0, Value.slice none 0 0, Value.int IntKind.i64 0, Value.int IntKind.i64 0, Value.int IntKind.u32 0, Value.int IntKind.i64 0, Value.pointer none, Value.pointer (some { block := rb, off := 0 })] 95)).heap.size = wr.heap.size + 1 := by simp
            rw [hfks] at hbd
            have HG := Lib.hid hG
            clear hbk hfk hf2 hG
            generalize hfb' : wr.heap.size = fkb at *
            have lw : w.heap.size ≤ fkb := by rw [← hfb']; exact hf.size
            have q3' : w2.cell? ⟨rb, 3, none⟩ = some (.pointer (some ⟨hb, 0, none⟩)) := hfr2.cell (by simpa using hrul) r3
            have q0' : w2.cell? ⟨hb, 0, none⟩ = some (.pointer (some ⟨fb, 0, none⟩)) := hfr2.cell (by simpa using hhu) d0
            have q18' : w2.cell? ⟨fb, 18, none⟩ = some (.int .u16 (fld F 26 2 : Nat)) := hfr2.cell (by simpa using hfu) f18
            have n1 : rb ≠ fkb := by omega
            have n2 : hb ≠ fkb := by omega
            have n3 : fb ≠ fkb := by omega
            have hlu := hL.lt
            have HEok := Lib.hid hEok
            clear hEok hent hfks hown hmset hbu hfi hf
            go_wp2_with fail
            have hbk3 : Blk (w2.setCell ⟨fkb, 7, none⟩ (.pointer (some ⟨fkb + 1, 0, none⟩))) fkb 95 (flCells ByteArray.empty 0 (.slice none 0 0) 0 0 0 0 (fkb + 1) rb) := hbk2.set 7 _
            have hbd3 : Blk (w2.setCell ⟨fkb, 7, none⟩ (.pointer (some ⟨fkb + 1, 0, none⟩))) (fkb + 1) 119 (tab 69 (dirL12 G)) := hbd.setOther (by simp) _
            have hf3 : Fr [fkb] w2 (w2.setCell ⟨fkb, 7, none⟩ (.pointer (some ⟨fkb + 1, 0, none⟩))) := (Fr.refl _ _).setCell (.inl (by simp)) _
            refine (fixFile_ok _ fkb (fkb + 1) (P (j * num + k)) (.slice none 0 0) 0 0 0 rb G _ hbk3 hbd3 HEok.out ?_ ?_).mono ?_
            · intro i h1 h2
              exact hf3.cell (by simp; omega) (hfr2.cell (by simpa using h2u) (hPR.out i h1 h2))
            · omega
            rintro e w3 ⟨rfl, hf4, hbk4⟩
            have hbd4 := hbd3.fr hf4 (by simp)
            have hf24 := hf3.trans_same hf4
            clear hbk3 hbd3 hf3 hf4 k7 z7 q3' q0' q18'
            have k7 : w3.cell? ⟨fkb, 7, none⟩ = some (.pointer (some ⟨fkb + 1, 0, none⟩)) := hbk4.cell 7
            have k5 : w3.cell? ⟨fkb, 5, none⟩ = some (.int .u32 0) := hbk4.cell 5
            have z5 := hbk4.frozen 5
            have d60 := (hbd4.cell 60).trans (dir_start G)
            have hfs : ∀ e, e < j * num + k → fk e < fkb ∧ dk e < fkb := fun e he => by rw [← hfb']; exact ⟨(hfiA e he).2.2.1.lt, (hfiA e he).2.2.2.lt⟩
            have hjk : j * num + k ≤ 32000 := by
              have := Nat.mul_le_mul (show j ≤ 999 by omega) (show num ≤ 32 by omega)
              omega
            have hf5 : Fr [fkb] w3 (w3.setCell ⟨fkb, 5, none⟩ (.int .u32 (fld G 116 4 : Nat))) := (Fr.refl _ _).setCell (.inl (by simp)) _
            have hown4 := own_fr hown2 (hf24.trans_same hf5) (fun k hk => by simp; rintro rfl; exact own_ne hown2 hbk2 (by decide) (by simp [hk]))
            have hsz4 : w.heap.size ≤ (w3.setCell ⟨fkb, 5, none⟩ (.int .u32 (fld G 116 4 : Nat))).heap.size := by have := hfr2.size; have := (hf24.trans_same hf5).size; omega
            have hsz5 : (w3.setCell ⟨fkb, 5, none⟩ (.int .u32 (fld G 116 4 : Nat))).heap.size = w3.heap.size := by simp
            have HO := Lib.hid hown4
            have HI := Lib.hid hfi2
            have HO2 := Lib.hid hown2
            have HM := Lib.hid hms2
            have HM2 := Lib.hid hmo
            have HFS := Lib.hid hfs
            clear hown4 hfi2 hown2 hms2 hmo hfs hfiA hf5
            go_upto_region 21 with (fail)
            have hS5 := Lib.hid (hbk4.set 5 (.int .u32 (fld G 116 4 : Nat)))
            clear hsz5
            generalize hw4 : w3.setCell ⟨fkb, 5, none⟩ (.int .u32 (fld G 116 4 : Nat)) = w4 at *
            go_wp2_with (at_builtin; refine wpList_append_own _ rfl (.tmp 148) (.tmp 150) 85 rfl w.heap.size 92 i0 (.pointer none) 1 8 Tryd.underlying85 hi hz0 hz1 hz2 rfl (by decide) _ _ _ rfl (HO.out.alloc _) ⟨w4.heap.size, 0, none⟩ 1 1 [.pointer (some ⟨fkb, 0, none⟩)] rfl rfl ?c1 ?c2 ?c3 ?c4 ?c5 ?_; rotate_left; rotate_left; rotate_left; rotate_left; rotate_left; intro v' w5 hown5 hg5 _)
            case c1 =>
              exact cell_one_new _ _ _
            case c2 => simp [Value.oneCell']
            case c3 => unfold maxLen; omega
            case c4 => omega
            case c5 => simp; omega
            subst hw4
            obtain rfl := HG.out
            obtain ⟨fk', dk', z1, z2, z3, z4, z5, z6⟩ := dir_step lw hlu hfr2 hbu2 HI.out HFS.out HM2.out HO2.out HM.out hbk2 hbd hf24 hbk4 hown5 hg5
            go_wp2_with fail
            go_roundw
            case rel => exact ⟨k + 1, fk', dk', by omega, by go_num, z1, z2, z3, z4, z5, z6⟩
            case measure => simp [intOf]; omega
          · have hknI : ¬ (k : Int) < (num : Int) := by omega
            obtain rfl : num = k := by omega
            have hat := hCH.out.at_ j hlt
            have hnx := hCH.out.next j hlt
            have hnx4 : (j + 1 < m ∧ cs (j + 1) ≤ 65535) ∨ (j + 1 = m ∧ cs (j + 1) = 4294967294) := by
              by_cases h : j + 1 < m
              · exact .inl ⟨h, (hCH.out.low _ h).1⟩
              · have e : j + 1 = m := by omega
                right; exact ⟨e, by rw [e]; exact hCH.out.last⟩
            have hnS : cs (j + 1) ≤ cs j → ¬ ∃ i, 1 ≤ i ∧ i ≤ j ∧ cs (j + 1) = cs i := by
              intro h ⟨i, a, b, c⟩
              exact hCH.out.nodup i (j + 1) (by omega) (by omega) c.symm
            have hne1 : cs (j + 1) ≤ cs j → cs j ≠ cs (j + 1) := by
              intro h
              exact hCH.out.nodup j (j + 1) (by omega) (by omega)
            have hlen1 := own_len hown
            have hmul : (j + 1) * num ≤ m * num := Nat.mul_le_mul_right num hlt
            have hsuc : (j + 1) * num = j * num + num := by rw [Nat.succ_mul]
            have hrel : ∀ S : Nat → Prop, S = S := fun _ => rfl
            go_wp2_with fail
            refine (findNext_at rb hb fb sb bb n cap ss (cs j) F _ _ _ _ _ _ _ _ (hS.fr hf (by simpa using hsu) (by simpa using hub)) (hRB.out.fr hf (by simpa using hrul)) (hHB.out.fr hf (by simpa using hhu)) (hFB.out.fr hf (by simpa using hfu)) hSS.out hat).mono ?_
            rintro e w6 ⟨rfl, hf6⟩
            rw [hnx]
            have y1 := hf.trans0 hf6
            have y2 := hfi.fr hf6 (by simp) (by simp)
            have y3 := own_fr hown hf6 (by simp)
            have y4 := hmset.fr hf6 (by simp)
            have y5 := hbu.fr0 hf6
            rw [← hsuc] at y2 y3 hmo
            by_cases hle : cs (j + 1) ≤ cs j
            · have q1 : decide (cs (j + 1) ≤ cs j) = true := by simpa using hle
              have q2 : decide (cs (j + 1) = cs j) = false := by simpa using fun h => hne1 hle h.symm
              have q2' : ¬ (cs (j + 1) = cs j) := fun h => hne1 hle h.symm
              have q3 := y4.run_lookup (cs (j + 1)) (by omega) (hnS hle)
              go_wp2_with (at_mapUpdate; refine wpList_update_mset rfl _ _ _ rfl mb _ rfl y4 (cs (j + 1)) rfl (by omega) (hnS hle) ?_; intro w7 hf7 hm7)
              go_roundw
              case rel =>
                have n1 : mb ≠ ub := y4.notBlk y5
                refine ⟨j + 1, fk, dk, by omega, rfl, by go_num, y1.trans hf7 (fun x hx => .inr (by simp at hx; omega)), y2.fr hf7 (fun e he => by simp; exact fun h => y4.notBlk (y2 e he).2.2.1 h.symm) (fun e he => by simp; exact fun h => y4.notBlk (y2 e he).2.2.2 h.symm), hmo, own_fr y3 hf7 (fun k hk => by simp; rintro rfl; exact own_mset y3 y4 (by simp [hk])), hm7.mono ?_, L2, y5.fr hf7 (by simpa using n1.symm), hL2⟩
                rintro k (⟨i, a, b, c⟩ | h)
                · exact ⟨i, a, by omega, c⟩
                · exact ⟨j + 1, by omega, by omega, h⟩
              case measure => rw [hlen0, hlen1]; omega
            · have q1 : decide (cs (j + 1) ≤ cs j) = false := by simpa using hle
              go_wp2_with fail
              go_roundw
              case rel => exact ⟨j + 1, fk, dk, by omega, rfl, by go_num, y1, y2, hmo, y3, y4.mono (fun k ⟨i, a, b, c⟩ => ⟨i, a, by omega, c⟩), L2, y5, hL2⟩
              case measure => rw [hlen0, hlen1]; omega
    · obtain rfl : j = m := by omega
      have hcl := hCH.out.last
      have hown' := own_slice hown
      obtain ⟨ao, co, rfl⟩ := hown'
      have hrb2 := hRB.out.fr hf (by simpa using hrul)
      have z5 := hrb2.frozen 5
      have k5 : wr.cell? ⟨rb, 5, none⟩ = some (.slice none 0 0) := hrb2.cell 5
      have hfin := (hrb2.set 5 (.slice ao (j * num) co))
      have hff := (hf.mono (ms' := [rb, ub]) (fun x hx => .inl (by simp at hx; simp [hx]))).setCell (p := ⟨rb, 5, none⟩) (.inl (by simp)) (.slice ao (j * num) co)
      have hfi2 : Files (wr.setCell ⟨rb, 5, none⟩ (.slice ao (j * num) co)) w.heap.size rb (entB F ss cs) P fk dk (j * num) := hfi.fr ((Fr.refl [rb] wr).setCell (.inl (by simp)) _) (fun e he => by simp; intro h; have := (hfi e he).1; omega) (fun e he => by simp; intro h; have := (hfi e he).2.1; omega)
      have hown2 := own_fr hown ((Fr.refl [rb] wr).setCell (p := ⟨rb, 5, none⟩) (.inl (by simp)) (.slice ao (j * num) co)) (fun k hk => by simp; rintro rfl; have := (hown.lt _ hk).1; omega)
      have hub2 := hb'.setOther (p := ⟨rb, 5, none⟩) hrul (.slice ao (j * num) co)
      have HF := Lib.hid hfi2
      have HO := Lib.hid hown2
      have HM := Lib.hid hmo
      have hpos : 1 ≤ j * num := by have := Nat.mul_le_mul hc1 (show 1 ≤ num by omega); omega
      have hposI : decide (((j * num : Nat) : Int) = 0) = false := by simp; omega
      clear hfi2 hown2 hmo hown hfi
      generalize hjn : j * num = jn at *
      go_wp2_with fail
      subst hnum
      subst hjn
      go_ret
      exact ⟨rfl, hff, fk, dk, _, HF.out, HM.out, HO.out, hfin, _, hub2, hl'⟩
end Go.Proofs.YtokpomdfgbbhlaaDoor

/- A region that draws its order and whose operations make memory: any order is borne, operation by operation, by what each leaves. -/
namespace Go.Proofs.YtokpomdfgbbhlaaDoor
open Go Go.RowKit

/-- How many have not come up. -/
def unl (l : Array Bool) : Nat := (l.toList.filter (fun b => !b)).length
theorem unl_set (l : Array Bool) (i : Nat) (h : l.getD i true = false) : unl (l.setIfInBounds i true) + 1 = unl l := by
  obtain ⟨l⟩ := l
  have h' : l[i]? = some false := by
    by_cases hi : i < l.length
    · rw [List.getElem?_eq_getElem hi]
      simp [Array.getD, hi] at h
      rw [h]
    · simp [Array.getD, hi] at h
  unfold unl
  rw [List.setIfInBounds_toArray]
  show ((l.set i true).filter (fun b => !b)).length + 1 = (l.filter (fun b => !b)).length
  induction l generalizing i with
  | nil => simp at h'
  | cons b l ih =>
    cases i with
    | zero =>
      simp at h'
      subst h'
      simp
    | succ i =>
      rw [List.set_cons_succ, List.filter_cons, List.filter_cons]
      have := ih i (by simpa using h) (by simpa using h')
      split <;> simp_all
theorem unl_zero (l : Array Bool) (h : unl l = 0) (i : Nat) (hi : i < l.size) : l.getD i false = true := by
  obtain ⟨l⟩ := l
  unfold unl at h
  have h1 := List.filter_eq_nil_iff.1 (List.eq_nil_of_length_eq_zero h)
  simp only [List.size_toArray] at hi
  have h2 := h1 l[i] (List.getElem_mem hi)
  simp [Array.getD, hi]
  simpa using h2

section
variable {ops : Array Oper} {Q : Exit → Act → World → Prop}

/-- What stands at each moment: L tells which have come up. -/
structure LInv (J : (Nat → Bool) → World → Prop) (Sp : Nat → World → Value → Prop) (ops : Array Oper) (a0 : Act) (L : Nat → Bool) (a : Act) (w : World) : Prop where
  j : J L w
  size : a.tmps.size = a0.tmps.size
  defers : a.defers = a0.defers
  closed : ∀ i o, L i = true → ops[i]? = some o → ∀ e ∈ o.after, Region.binds .any e = true → L e.on = true
  free : ∀ d, (∀ i o, L i = true → ops[i]? = some o → o.dst ≠ some d) → a.tmps[d]? = a0.tmps[d]?
  val : ∀ i o d, L i = true → ops[i]? = some o → o.dst = some d → Sp i w (a.tmps.getD d undef)

def lSet (L : Nat → Bool) (i : Nat) : Nat → Bool := fun j => if j = i then true else L j
theorem lSet_ne (L : Nat → Bool) (i j : Nat) (h : j ≠ i) : lSet L i j = L j := by unfold lSet; rw [if_neg h]
theorem lSet_self (L : Nat → Bool) (i : Nat) : lSet L i i = true := by unfold lSet; rw [if_pos rfl]

/-- No two write one slot; nobody waits for one behind him. -/
def looseB (ops : Array Oper) (n : Nat) : Bool :=
  (List.range ops.size).all fun i => match ops[i]? with
    | some o => o.after.all (fun e => decide (e.on < i)) && o.guard.isNone && (match o.dst with | some d => decide (d < n) && (List.range ops.size).all (fun j => decide (j = i) || (match ops[j]? with | some o' => o'.dst != some d | none => true)) | none => true)
    | none => true

theorem LInv.put {J : (Nat → Bool) → World → Prop} {Sp : Nat → World → Value → Prop} {a0 a : Act} {L : Nat → Bool} {w w' : World} {i : Nat} {o : Oper} {v : Value} (hB : looseB ops a0.tmps.size = true) (h : LInv J Sp ops a0 L a w) (hi : ops[i]? = some o) (hL : L i = false)
    (hw : ∀ e ∈ o.after, Region.binds .any e = true → L e.on = true) (hJ : J (lSet L i) w') (hS : ∀ j u, L j = true → Sp j w u → Sp j w' u) (hv : Sp i w' v) : LInv J Sp ops a0 (lSet L i) (a.put o.dst v) w' := by
  have hib : i < ops.size := (Array.getElem?_eq_some_iff.1 hi).1
  have hb := List.all_eq_true.1 hB i (List.mem_range.2 hib)
  simp only [hi, Bool.and_eq_true] at hb
  refine { j := hJ, size := ?_, defers := ?_, closed := ?_, free := ?_, val := ?_ }
  · unfold Act.put
    split
    · simpa using h.size
    · exact h.size
  · unfold Act.put
    split <;> exact h.defers
  · intro k ok hk hok e he hbd
    by_cases hki : k = i
    · subst hki
      rw [hi] at hok
      cases hok
      have := hw e he hbd
      unfold lSet
      split
      · rfl
      · exact this
    · rw [lSet_ne _ _ _ hki] at hk
      have := h.closed k ok hk hok e he hbd
      unfold lSet
      split
      · rfl
      · exact this
  · intro d hd
    have hdi : o.dst ≠ some d := hd i o (lSet_self _ _) hi
    have h1 := h.free d (fun k ok hk hok => hd k ok (by unfold lSet; split <;> simp_all) hok)
    rw [← h1]
    unfold Act.put
    cases hdst : o.dst with
    | none => rfl
    | some d' =>
      have hne : d' ≠ d := fun hh => hdi (by rw [hdst, hh])
      show (a.tmps.setIfInBounds d' v)[d]? = _
      exact Array.getElem?_setIfInBounds_ne hne
  · intro k ok d hk hok hd
    by_cases hki : k = i
    · subst hki
      rw [hi] at hok
      cases hok
      rw [hd] at hb ⊢
      simp only [Bool.and_eq_true, decide_eq_true_eq] at hb
      have hdl : d < a.tmps.size := by rw [h.size]; exact hb.2.1
      have : (a.put (some d) v).tmps.getD d undef = v := by
        show (a.tmps.setIfInBounds d v).getD d undef = v
        simp [Array.getD, hdl]
      rw [this]
      exact hv
    · rw [lSet_ne _ _ _ hki] at hk
      have h1 := hS k _ hk (h.val k ok d hk hok hd)
      have : (a.put o.dst v).tmps.getD d undef = a.tmps.getD d undef := by
        unfold Act.put
        cases hdst : o.dst with
        | none => rfl
        | some d' =>
          rw [hdst] at hb
          simp only [Bool.and_eq_true, decide_eq_true_eq] at hb
          have hkb : k < ops.size := (Array.getElem?_eq_some_iff.1 hok).1
          have h2 := List.all_eq_true.1 hb.2.2 k (List.mem_range.2 hkb)
          rw [hok] at h2
          simp only [Bool.or_eq_true, decide_eq_true_eq, hki, false_or] at h2
          have hne : d' ≠ d := fun hh => by rw [hd, hh] at h2; simp at h2
          show (a.tmps.setIfInBounds d' v).getD d undef = a.tmps.getD d undef
          rw [Array.getD_eq_getD_getElem?, Array.getD_eq_getD_getElem?, Array.getElem?_setIfInBounds_ne hne]
      rw [this]
      exact h1

theorem loose_go {J : (Nat → Bool) → World → Prop} {Sp : Nat → World → Value → Prop} {a0 : Act} (hB : looseB ops a0.tmps.size = true)
    (hstep : ∀ L a w i o, LInv J Sp ops a0 L a w → ops[i]? = some o → L i = false → (∀ e ∈ o.after, Region.binds .any e = true → L e.on = true) →
      o.wp Tryd.prog a w (fun a' w' => ∃ v, a' = a.put o.dst v ∧ J (lSet L i) w' ∧ (∀ j u, L j = true → Sp j w u → Sp j w' u) ∧ Sp i w' v) Q)
    (hend : ∀ L a w, LInv J Sp ops a0 L a w → (∀ i, i < ops.size → L i = true) → Q .normal a w) :
    ∀ (fuel : Nat) (l : Array Bool) (a : Act) (w : World), l.size = ops.size → unl l ≤ fuel → LInv J Sp ops a0 (fun i => l.getD i false) a w → wpAny Tryd.prog .any ops Q fuel l a w := by
  have hall : ∀ (l : Array Bool), l.size = ops.size → Region.ready .any ops l = [] → ∀ i, i < ops.size → l.getD i false = true := by
    intro l hl hr i
    induction i using Nat.strongRecOn with
    | _ i ih =>
      intro hi
      rcases hb : l.getD i false with _ | _
      · exfalso
        have hm : i ∈ Region.ready .any ops l := by
          rw [mem_ready]
          have hb' : l.getD i true = false := by
            have hil : i < l.size := by omega
            simp [Array.getD, hil] at hb ⊢
            exact hb
          refine ⟨hb', ops[i], Array.getElem?_eq_getElem hi, fun e he _ => ?_⟩
          have h1 := List.all_eq_true.1 hB i (List.mem_range.2 hi)
          rw [Array.getElem?_eq_getElem hi] at h1
          simp only [Bool.and_eq_true] at h1
          have h2 := Array.all_eq_true'.1 h1.1.1 e he
          have h3 : e.on < i := by simpa using h2
          exact ih e.on h3 (by omega)
        rw [hr] at hm
        cases hm
      · rfl
  intro fuel
  induction fuel with
  | zero =>
    intro l a w hl hu hI
    have hz : ∀ i, i < ops.size → l.getD i false = true := fun i hi => unl_zero l (by omega) i (by omega)
    refine ⟨?_, hend _ a w hI hz⟩
    apply List.eq_nil_iff_forall_not_mem.2
    intro i hm
    rw [mem_ready] at hm
    obtain ⟨h1, o, h2, _⟩ := hm
    have h3 := hz i (Array.getElem?_eq_some_iff.1 h2).1
    have hil : i < l.size := by rw [hl]; exact (Array.getElem?_eq_some_iff.1 h2).1
    simp [Array.getD, hil] at h1 h3
    rw [h1] at h3
    cases h3
  | succ fuel ih =>
    intro l a w hl hu hI
    refine ⟨fun hr => hend _ a w hI (hall l hl hr), fun i hm => ?_⟩
    rw [mem_ready] at hm
    obtain ⟨h1, o, h2, h3⟩ := hm
    have hib : i < ops.size := (Array.getElem?_eq_some_iff.1 h2).1
    have hil : i < l.size := by omega
    have hLi : (fun i => l.getD i false) i = false := by
      simp [Array.getD, hil] at h1 ⊢
      exact h1
    have hs := hstep _ a w i o hI h2 hLi h3
    have hg : o.guard = none := by
      have h4 := List.all_eq_true.1 hB i (List.mem_range.2 hib)
      rw [h2] at h4
      simp only [Bool.and_eq_true] at h4
      exact Option.isNone_iff_eq_none.1 h4.1.2
    unfold wpOp
    simp only [h2]
    have hw : Region.wanted o (yielded ops a.tmps) = true := by simp [Region.wanted, hg]
    rw [if_pos hw]
    refine .inl (Oper.wp_mono ?_ hs)
    rintro a' w' ⟨v, rfl, e2, e3, e4⟩
    have hp := hI.put hB h2 hLi h3 e2 e3 e4
    refine ih _ _ _ (by simpa using hl) (by have := unl_set l i h1; omega) ?_
    have e5 : (fun j => (l.setIfInBounds i true).getD j false) = lSet (fun i => l.getD i false) i := by
      funext j
      unfold lSet
      by_cases hji : j = i
      · subst hji
        simp [Array.getD, hil]
      · rw [if_neg hji]
        show (l.setIfInBounds i true).getD j false = l.getD j false
        rw [Array.getD_eq_getD_getElem?, Array.getD_eq_getD_getElem?, Array.getElem?_setIfInBounds_ne (Ne.symm hji)]
    rw [e5]
    exact hp

/-- The region: any order. -/
theorem wp_region_loose {id : Nat} {J : (Nat → Bool) → World → Prop} {Sp : Nat → World → Value → Prop} {a0 : Act} {w : World} (hm : Tryd.prog.follows .mixedOrders = true) (hB : looseB ops a0.tmps.size = true) (h0 : J (fun _ => false) w.drew)
    (hstep : ∀ L a w i o, LInv J Sp ops a0 L a w → ops[i]? = some o → L i = false → (∀ e ∈ o.after, Region.binds .any e = true → L e.on = true) →
      o.wp Tryd.prog a w (fun a' w' => ∃ v, a' = a.put o.dst v ∧ J (lSet L i) w' ∧ (∀ j u, L j = true → Sp j w u → Sp j w' u) ∧ Sp i w' v) Q)
    (hend : ∀ L a w, LInv J Sp ops a0 L a w → (∀ i, i < ops.size → L i = true) → Q .normal a w) : (Code.region id ops true).wp Tryd.prog Q a0 w := by
  refine wp_region_any hm (loose_go hB hstep hend ops.size (Array.replicate ops.size false) a0 _ (by simp) ?_ ?_)
  · unfold unl
    exact Nat.le_trans (List.length_filter_le _ _) (by simp)
  · have e : (fun i => (Array.replicate ops.size false).getD i false) = fun _ => false := by
      funext i
      rw [Array.getD_eq_getD_getElem?, Array.getElem?_replicate]
      split <;> rfl
    rw [e]
    exact { j := h0, size := rfl, defers := rfl, closed := fun i o h => (by cases h), free := fun d _ => rfl, val := fun i o d h => (by cases h) }
end
end Go.Proofs.YtokpomdfgbbhlaaDoor

/- The layout of a written file: which sectors there are, where they lie, what they hold. No program here. -/
namespace Go.Proofs.YtokpomdfgbbhlaaDoor

/-- A node: its name, whether it is a stream, its bytes, its links, its fields. -/
structure Nd where
  name : ByteArray
  stream : Bool
  len : Nat
  dat : Nat → UInt8
  left : Int
  right : Int
  child : Int
  cls : Nat → UInt8
  sts : Nat → UInt8
  cr : Nat
  md : Nat

structure Lay where
  N : Nat
  nd : Nat → Nd
  four : Bool
  step : Nat

/-- The number of the file's table of sectors that suffices. -/
def fatGo (s per : Nat) : Nat → Nat → Nat
  | 0, f => f
  | fuel + 1, f => if f < partsN (s + f) per then fatGo s per fuel (f + 1) else f

namespace Lay
variable (L : Lay)
def sz : Nat := if L.four = true then 4096 else 512
def ver : Nat := if L.four = true then 4 else 3
def per : Nat := L.sz / 4
def small (k : Nat) : Nat := if (L.nd k).stream = true ∧ (L.nd k).len < 4096 then partsN (L.nd k).len 64 else 0
def big (k : Nat) : Nat := if (L.nd k).stream = true ∧ ¬ (L.nd k).len < 4096 then partsN (L.nd k).len L.sz else 0
def minis : Nat := sumN L.small L.N
def cnt (c : Nat) : Nat := if c = 0 then partsN L.N (L.sz / 128) else if c = 1 then partsN L.minis L.per else if c = 2 then partsN (L.minis * 64) L.sz else L.big (c - 3)
def sum : Nat := sumN L.cnt (3 + L.N)
def fats : Nat := fatGo L.sum L.per 100 1
def tot : Nat := L.sum + L.fats
def pl (k : Nat) : Nat := mixP L.tot L.step k
def base (c : Nat) : Nat := L.fats + sumN L.cnt c
def start (c : Nat) : Nat := if L.cnt c = 0 then 4294967294 else L.pl (L.base c)
def mpl (k : Nat) : Nat := mixP L.minis (L.step + 3) k
def mbase (k : Nat) : Nat := sumN L.small k
def mstart (k : Nat) : Nat := if L.small k = 0 then 4294967294 else L.mpl (L.mbase k)
/-- Where the sector at place k of the order begins. -/
def sec (k : Nat) : Nat := L.sz * (1 + L.pl k)
def bytes : Nat := L.sz * (1 + L.tot)
end Lay

def sigB (i : Nat) : UInt8 := byteN 16220472316735377360 i
/-- The DIFAT's places, all free so far: k of them. -/
def difat0 (f : Nat → UInt8) : Nat → Nat → UInt8
  | 0 => f
  | k + 1 => upd (difat0 f k) (76 + 4 * k) 4 4294967295
/-- The DIFAT's places, k of them laid. -/
def difat1 (f : Nat → UInt8) (pl : Nat → Nat) : Nat → Nat → UInt8
  | 0 => f
  | k + 1 => upd (difat1 f pl k) (76 + 4 * k) 4 (pl k)

/-- The header's bytes, ahead of the places of the tables. -/
def hdrA (L : Lay) : Nat → UInt8 :=
  let f1 := upd (upd (upd (upd (upd (cpy (fun _ => 0) 0 8 sigB) 24 2 62) 26 2 L.ver) 28 2 65534) 30 2 (if L.four = true then 12 else 9)) 32 2 6
  let f2 := if L.four = true then upd f1 40 4 (L.cnt 0) else f1
  upd (upd (upd (upd (upd (upd f2 44 4 L.fats) 48 4 (L.start 0)) 56 4 4096) 60 4 (L.start 1)) 64 4 (L.cnt 1)) 68 4 4294967294
def hdrB (L : Lay) : Nat → UInt8 := difat1 (difat0 (hdrA L) 109) L.pl L.fats

/-- An entry that is not used. -/
def freeE : Nat → UInt8 := upd (upd (upd (fun _ => 0) 68 4 4294967295) 72 4 4294967295) 76 4 4294967295
/-- The first j characters of a name. -/
def nameE (f : Nat → UInt8) (nm : Nat → Nat) : Nat → Nat → UInt8
  | 0 => f
  | j + 1 => upd (nameE f nm j) (2 * j) 2 (nm j)
def linkE (f : Nat → UInt8) (at_ : Nat) (v : Int) : Nat → UInt8 := if 0 ≤ v then upd f at_ 4 v.toNat else f
namespace Lay
variable (L : Lay)
def kindOf (k : Nat) : Nat := if k = 0 then 5 else if (L.nd k).stream = true then 2 else 1
def startOf (k : Nat) : Nat := if k = 0 then L.start 2 else if (L.nd k).stream = true then (if (L.nd k).len < 4096 then L.mstart k else L.start (3 + k)) else 0
def lenOf (k : Nat) : Nat := if k = 0 then 64 * L.minis else if (L.nd k).stream = true then (L.nd k).len else 0
def nmOf (k j : Nat) : Nat := ((L.nd k).name.data.toList.getD j 0).toNat
def nmLen (k : Nat) : Nat := (L.nd k).name.size
/-- An entry's bytes. -/
def entF (k : Nat) : Nat → UInt8 :=
  let f1 := upd (nameE freeE (L.nmOf k) (L.nmLen k)) 64 2 (2 * L.nmLen k + 2)
  let f2 := upd (upd f1 66 1 (L.kindOf k)) 67 1 1
  let f3 := linkE (linkE (linkE f2 68 (L.nd k).left) 72 (L.nd k).right) 76 (L.nd k).child
  let f4 := cpy (cpy f3 80 16 (L.nd k).cls) 96 4 (L.nd k).sts
  upd (upd (upd (upd f4 100 8 (L.nd k).cr) 108 8 (L.nd k).md) 116 4 (L.startOf k)) 120 8 (L.lenOf k)
/-- The directory's bytes. -/
def dirF (y : Nat) : UInt8 := if y / 128 < L.N then L.entF (y / 128) (y % 128) else freeE (y % 128)
end Lay

/-- The tables: of sectors and of the parts of the ministream. -/
structure FatOK (L : Lay) (fat : Nat → Nat) : Prop where
  tabs : ∀ k, k < L.fats → fat (L.pl k) = 4294967293
  chain : ∀ c i, c < 3 + L.N → i < L.cnt c → fat (L.pl (L.base c + i)) = if i + 1 = L.cnt c then 4294967294 else L.pl (L.base c + i + 1)
  free : ∀ p, L.tot ≤ p → p < L.fats * L.per → fat p = 4294967295
structure MfatOK (L : Lay) (mfat : Nat → Nat) : Prop where
  chain : ∀ k i, k < L.N → i < L.small k → mfat (L.mpl (L.mbase k + i)) = if i + 1 = L.small k then 4294967294 else L.mpl (L.mbase k + i + 1)
  free : ∀ p, L.minis ≤ p → p < L.cnt 1 * L.per → mfat p = 4294967295
/-- The ministream's bytes. -/
def WholeOK (L : Lay) (W : Nat → UInt8) : Prop :=
  ∀ k i x, k < L.N → i < L.small k → x < 64 → W (64 * L.mpl (L.mbase k + i) + x) = if 64 * i + x < (L.nd k).len then (L.nd k).dat (64 * i + x) else 0

/-- The bytes F are the file of the layout. -/
structure Wrote (L : Lay) (F : Nat → UInt8) (fat mfat : Nat → Nat) (W : Nat → UInt8) : Prop where
  fatOK : FatOK L fat
  mfatOK : MfatOK L mfat
  whole : WholeOK L W
  hdr : ∀ x, x < L.sz → F x = hdrB L x
  fatS : ∀ k x, k < L.fats → x < L.sz → F (L.sec k + x) = byteN (fat (k * L.per + x / 4)) (x % 4)
  dirS : ∀ i x, i < L.cnt 0 → x < L.sz → F (L.sec (L.base 0 + i) + x) = L.dirF (i * L.sz + x)
  mfS : ∀ i x, i < L.cnt 1 → x < L.sz → F (L.sec (L.base 1 + i) + x) = byteN (mfat ((i * L.sz + x) / 4)) ((i * L.sz + x) % 4)
  miniS : ∀ i x, i < L.cnt 2 → x < L.sz → F (L.sec (L.base 2 + i) + x) = if i * L.sz + x < 64 * L.minis then W (i * L.sz + x) else 0
  bigS : ∀ k i x, k < L.N → i < L.big k → x < L.sz → F (L.sec (L.base (3 + k) + i) + x) = if i * L.sz + x < (L.nd k).len then (L.nd k).dat (i * L.sz + x) else 0

/-- A tree of nodes hangs at a place. -/
inductive NT where
  | nil : NT
  | node (e : Nat) (l c r : NT) : NT
namespace NT
def Fits (nd : Nat → Nd) : NT → Int → Prop
  | nil, x => x = -1
  | node e l c r, x => x = (e : Int) ∧ l.Fits nd (nd e).left ∧ c.Fits nd (nd e).child ∧ r.Fits nd (nd e).right
def order : NT → List Nat
  | nil => []
  | node e l c r => l.order ++ e :: (c.order ++ r.order)
end NT

/-- What is asked of a layout's nodes. -/
structure LayOK (L : Lay) : Prop where
  n1 : 1 ≤ L.N
  n2 : L.N ≤ 20
  root : (L.nd 0).stream = false
  len : ∀ k, k < L.N → (L.nd k).len ≤ 9000
  nm1 : ∀ k, k < L.N → 1 ≤ (L.nd k).name.size
  nm2 : ∀ k, k < L.N → (L.nd k).name.size ≤ 10
  nmc : ∀ k j, k < L.N → L.nmOf k j < 128
  nm0 : ∀ k, k < L.N → 65 ≤ L.nmOf k 0 ∧ L.nmOf k 0 ≤ 90
  lks : ∀ k, k < L.N → (-1 ≤ (L.nd k).left ∧ (L.nd k).left < 20) ∧ (-1 ≤ (L.nd k).right ∧ (L.nd k).right < 20) ∧ (-1 ≤ (L.nd k).child ∧ (L.nd k).child < 20)
  cr : ∀ k, k < L.N → (L.nd k).cr < 18446744073709551616
  md : ∀ k, k < L.N → (L.nd k).md < 18446744073709551616
end Go.Proofs.YtokpomdfgbbhlaaDoor

/- A written file is a sound file: header, tables, directory, ministream, tree. No program here. -/
namespace Go.Proofs.YtokpomdfgbbhlaaDoor

theorem fatGo_ok (s per : Nat) (hper : 128 ≤ per) (hs : s ≤ 1000) : ∀ fuel f, 1 ≤ f → f ≤ 20 → 20 ≤ f + fuel → (f = 1 ∨ f - 1 < partsN (s + (f - 1)) per) →
    partsN (s + fatGo s per fuel f) per ≤ fatGo s per fuel f ∧ 1 ≤ fatGo s per fuel f ∧ (fatGo s per fuel f = 1 ∨ fatGo s per fuel f - 1 < partsN (s + (fatGo s per fuel f - 1)) per) := by
  intro fuel
  induction fuel with
  | zero =>
    intro f h1 h2 h3 h4
    obtain rfl : f = 20 := by omega
    refine ⟨?_, h1, h4⟩
    rw [fatGo, partsN]
    have : (s + 20 + per - 1) / per < 20 + 1 := by
      rw [Nat.div_lt_iff_lt_mul (by omega)]
      omega
    omega
  | succ fuel ih =>
    intro f h1 h2 h3 h4
    rw [fatGo]
    by_cases h : f < partsN (s + f) per
    · rw [if_pos h]
      by_cases h20 : f = 20
      · exfalso
        subst h20
        have : (s + 20 + per - 1) / per < 20 + 1 := by
          rw [Nat.div_lt_iff_lt_mul (by omega)]
          omega
        rw [partsN] at h
        omega
      · exact ih (f + 1) (by omega) (by omega) (by omega) (.inr (by simpa using h))
    · rw [if_neg h]
      exact ⟨by omega, h1, h4⟩

namespace Lay
variable {L : Lay}
theorem sz_or (L : Lay) : (L.sz = 512 ∧ L.four = false) ∨ (L.sz = 4096 ∧ L.four = true) := by
  unfold Lay.sz
  cases L.four <;> simp
theorem per_or (L : Lay) : (L.sz = 512 ∧ L.per = 128) ∨ (L.sz = 4096 ∧ L.per = 1024) := by
  unfold Lay.per
  rcases L.sz_or with ⟨h, _⟩ | ⟨h, _⟩ <;> simp [h]
end Lay

theorem partsN_le {n size a : Nat} (hs : 0 < size) (h : n ≤ a * size) : partsN n size ≤ a := by
  unfold partsN
  have : (n + size - 1) / size < a + 1 := by
    rw [Nat.div_lt_iff_lt_mul hs, Nat.add_mul]
    omega
  omega
theorem le_partsN (n size : Nat) (hs : 0 < size) : n ≤ partsN n size * size := by
  unfold partsN
  have := Nat.div_add_mod (n + size - 1) size
  have := Nat.mod_lt (n + size - 1) hs
  rw [Nat.mul_comm]
  omega
theorem partsN_lt {n size i : Nat} (hs : 0 < size) (h : i < partsN n size) : i * size < n := by
  unfold partsN at h
  have := (Nat.le_div_iff_mul_le hs).1 (show i + 1 ≤ (n + size - 1) / size by omega)
  rw [Nat.add_mul] at this
  omega
theorem partsN_pos {n size : Nat} (hs : 0 < size) (h : 1 ≤ n) : 1 ≤ partsN n size := by
  unfold partsN
  exact (Nat.le_div_iff_mul_le hs).2 (by omega)

section
variable {L : Lay} (hL : LayOK L)
include hL
theorem LayOK.small_le (k : Nat) (hk : k < L.N) : L.small k ≤ 64 := by
  have _ := hL.n1
  have _ := hk
  unfold Lay.small
  split
  · exact partsN_le (by omega) (by omega)
  · omega
theorem LayOK.big_le (k : Nat) (hk : k < L.N) : L.big k ≤ 18 := by
  unfold Lay.big
  have := hL.len k hk
  split
  · rcases L.sz_or with ⟨h, _⟩ | ⟨h, _⟩ <;> exact partsN_le (by omega) (by omega)
  · omega
theorem LayOK.minis_le : L.minis ≤ 1280 := by
  have := sumN_le L.small 64 L.N (fun i hi => hL.small_le i hi)
  have := hL.n2
  unfold Lay.minis
  omega
theorem LayOK.cnt_le (c : Nat) (hc : c < 3 + L.N) : L.cnt c ≤ 160 ∧ L.cnt 0 ≤ 5 ∧ L.cnt 1 ≤ 10 := by
  have hm := hL.minis_le
  have hn := hL.n2
  have hp := L.per_or
  refine ⟨?_, ?_, ?_⟩
  · unfold Lay.cnt
    split
    · rcases hp with ⟨h, _⟩ | ⟨h, _⟩ <;> rw [h] <;> exact partsN_le (by omega) (by omega)
    split
    · rcases hp with ⟨_, h⟩ | ⟨_, h⟩ <;> rw [h] <;> exact partsN_le (by omega) (by omega)
    split
    · rcases hp with ⟨h, _⟩ | ⟨h, _⟩ <;> rw [h] <;> exact partsN_le (by omega) (by omega)
    · have := hL.big_le (c - 3) (by omega)
      omega
  · unfold Lay.cnt
    rw [if_pos rfl]
    rcases hp with ⟨h, _⟩ | ⟨h, _⟩ <;> rw [h] <;> exact partsN_le (by omega) (by omega)
  · unfold Lay.cnt
    rw [if_neg (by omega), if_pos rfl]
    rcases hp with ⟨_, h⟩ | ⟨_, h⟩ <;> rw [h] <;> exact partsN_le (by omega) (by omega)
theorem LayOK.sum_le : L.sum ≤ 600 := by
  have h0 := (hL.cnt_le 0 (by omega)).2
  have h2 := (hL.cnt_le 2 (by omega)).1
  have hb := sumN_le (fun i => L.cnt (3 + i)) 18 L.N (fun i hi => by
    have := hL.big_le i hi
    show L.cnt (3 + i) ≤ 18
    unfold Lay.cnt
    rw [if_neg (by omega), if_neg (by omega), if_neg (by omega), Nat.add_sub_cancel_left]
    exact this)
  have hn := hL.n2
  have hs := sumN_shift L.cnt 3 L.N
  unfold Lay.sum
  rw [hs]
  simp only [sumN]
  omega
theorem LayOK.fats_ok : L.tot ≤ L.fats * L.per ∧ 1 ≤ L.fats ∧ L.fats ≤ 6 := by
  have hp := L.per_or
  have hs := hL.sum_le
  have hper : 128 ≤ L.per := by rcases hp with ⟨_, h⟩ | ⟨_, h⟩ <;> omega
  obtain ⟨h1, h2, h3⟩ := fatGo_ok L.sum L.per hper (by omega) 100 1 (by omega) (by omega) (by omega) (.inl rfl)
  have e : fatGo L.sum L.per 100 1 = L.fats := rfl
  rw [e] at h1 h2 h3
  refine ⟨?_, h2, ?_⟩
  · have := le_partsN (L.sum + L.fats) L.per (by omega)
    have := Nat.mul_le_mul_right L.per h1
    unfold Lay.tot
    omega
  · rcases h3 with h3 | h3
    · omega
    · have h4 := partsN_lt (by omega) h3
      have h5 : (L.fats - 1) * 128 ≤ (L.fats - 1) * L.per := Nat.mul_le_mul_left _ hper
      omega
theorem LayOK.tot_pos : 0 < L.tot := by
  have := hL.fats_ok.2.1
  unfold Lay.tot
  omega
theorem LayOK.base_lt {c i : Nat} (hc : c < 3 + L.N) (hi : i < L.cnt c) : L.base c + i < L.tot ∧ L.fats ≤ L.base c + i := by
  have _ := hL.n1
  have := sumN_mono L.cnt (show c + 1 ≤ 3 + L.N by omega)
  rw [sumN] at this
  unfold Lay.base Lay.tot Lay.sum
  omega
theorem LayOK.pl_lt (k : Nat) : L.pl k < L.tot := mixP_lt _ _ _ hL.tot_pos
end

theorem difat0_out (f : Nat → UInt8) (k x : Nat) (h : x < 76 ∨ 76 + 4 * k ≤ x) : difat0 f k x = f x := by
  induction k with
  | zero => rfl
  | succ k ih => rw [difat0, upd_out _ _ _ _ _ (by omega), ih (by omega)]
theorem difat1_out (f : Nat → UInt8) (pl : Nat → Nat) (k x : Nat) (h : x < 76 ∨ 76 + 4 * k ≤ x) : difat1 f pl k x = f x := by
  induction k with
  | zero => rfl
  | succ k ih => rw [difat1, upd_out _ _ _ _ _ (by omega), ih (by omega)]
theorem difat1_fld (f : Nat → UInt8) (pl : Nat → Nat) (hpl : ∀ k, pl k < 4294967296) (k j : Nat) (hj : j < k) : fld (difat1 f pl k) (76 + 4 * j) 4 = pl j := by
  induction k with
  | zero => omega
  | succ k ih =>
    rw [difat1]
    by_cases h : j = k
    · subst h; exact fld_upd _ _ _ _ (hpl j)
    · rw [fld_upd_other _ _ _ _ _ _ (by omega), ih (by omega)]
theorem hdrB_low (L : Lay) (off n : Nat) (h : off + n ≤ 76) : fld (hdrB L) off n = fld (hdrA L) off n := by
  refine fld_congr (fun i hi => ?_)
  rw [hdrB, difat1_out _ _ _ _ (by omega), difat0_out _ _ _ (by omega)]

theorem fld_upd2 (f : Nat → UInt8) (a v : Nat) (hv : v < 65536) : fld (upd f a 2 v) a 2 = v := fld_upd f a 2 v hv
theorem fld_upd4 (f : Nat → UInt8) (a v : Nat) (hv : v < 4294967296) : fld (upd f a 4 v) a 4 = v := fld_upd f a 4 v hv
theorem fld_upd8 (f : Nat → UInt8) (a v : Nat) (hv : v < 18446744073709551616) : fld (upd f a 8 v) a 8 = v := fld_upd f a 8 v hv
theorem fld_cpy_other (f : Nat → UInt8) (a m : Nat) (g : Nat → UInt8) (b n : Nat) (h : b + n ≤ a ∨ a + m ≤ b) : fld (cpy f a m g) b n = fld f b n :=
  le_congr n (fun i hi => cpy_out f a m g _ (by omega))

theorem fld_linkE_other (f : Nat → UInt8) (a : Nat) (v : Int) (b n : Nat) (h : b + n ≤ a ∨ a + 4 ≤ b) : fld (linkE f a v) b n = fld f b n := by
  unfold linkE
  split
  · exact fld_upd_other _ _ _ _ _ _ h
  · rfl
theorem fld_linkE (f : Nat → UInt8) (a : Nat) (v : Int) (hv : -1 ≤ v ∧ v < 20) (hf : fld f a 4 = 4294967295) : fld (linkE f a v) a 4 = if v = -1 then 4294967295 else v.toNat := by
  unfold linkE
  by_cases h : 0 ≤ v
  · rw [if_pos h, if_neg (by omega), fld_upd4 _ _ _ (by omega)]
  · rw [if_neg h, if_pos (by omega), hf]
theorem nameE_out (f : Nat → UInt8) (nm : Nat → Nat) (k x : Nat) (h : 2 * k ≤ x) : nameE f nm k x = f x := by
  induction k with
  | zero => rfl
  | succ k ih => rw [nameE, upd_out _ _ _ _ _ (by omega), ih (by omega)]
theorem fld_nameE_other (f : Nat → UInt8) (nm : Nat → Nat) (k b n : Nat) (h : 2 * k ≤ b) : fld (nameE f nm k) b n = fld f b n :=
  le_congr n (fun i hi => nameE_out f nm k _ (by omega))
theorem fld_nameE (f : Nat → UInt8) (nm : Nat → Nat) (hnm : ∀ j, nm j < 65536) (k j : Nat) (hj : j < k) : fld (nameE f nm k) (2 * j) 2 = nm j := by
  induction k with
  | zero => omega
  | succ k ih =>
    rw [nameE]
    by_cases h : j = k
    · subst h; exact fld_upd2 _ _ _ (hnm j)
    · rw [fld_upd_other _ _ _ _ _ _ (by omega), ih (by omega)]

/-- The fields of an entry. -/
structure EntFlds (L : Lay) (k : Nat) (G : Nat → UInt8) : Prop where
  nm : ∀ j, j < L.nmLen k → fld G (2 * j) 2 = L.nmOf k j
  nm0 : ∀ j, L.nmLen k ≤ j → j < 32 → fld G (2 * j) 2 = 0
  len : fld G 64 2 = 2 * L.nmLen k + 2
  kind : G 66 = byteN (L.kindOf k) 0
  left : fld G 68 4 = if (L.nd k).left = -1 then 4294967295 else (L.nd k).left.toNat
  right : fld G 72 4 = if (L.nd k).right = -1 then 4294967295 else (L.nd k).right.toNat
  child : fld G 76 4 = if (L.nd k).child = -1 then 4294967295 else (L.nd k).child.toNat
  cls : ∀ j, j < 16 → G (80 + j) = (L.nd k).cls j
  sts : ∀ j, j < 4 → G (96 + j) = (L.nd k).sts j
  cr : fld G 100 8 = (L.nd k).cr
  md : fld G 108 8 = (L.nd k).md
  start : fld G 116 4 = L.startOf k
  size8 : fld G 120 8 = L.lenOf k
  size4 : fld G 120 4 = L.lenOf k

theorem fld_free (a n : Nat) (h : a + n ≤ 68 ∨ 80 ≤ a) : fld freeE a n = fld (fun _ => 0) a n := by
  unfold freeE
  simp (disch := omega) only [fld_upd_other]
theorem fld_zero (a n : Nat) : fld (fun _ => 0) a n = 0 := by
  unfold fld
  induction n with
  | zero => rfl
  | succ n ih => simp only [le]; rw [ih]; rfl
theorem fld_upd84 (f : Nat → UInt8) (a v : Nat) (hv : v < 4294967296) : fld (upd f a 8 v) a 4 = v :=
  fld_byteN (fun i hi => upd_in f a 8 v i (by omega)) hv

theorem entF_flds (L : Lay) (hL : LayOK L) (k : Nat) (hk : k < L.N) (hst : L.startOf k < 4294967296) (hln : L.lenOf k < 4294967296) : EntFlds L k (L.entF k) := by
  have h1 := hL.nm1 k hk
  have h2 := hL.nm2 k hk
  have hl : L.nmLen k ≤ 10 := h2
  have hc : ∀ j, L.nmOf k j < 65536 := fun j => Nat.lt_trans (hL.nmc k j hk) (by omega)
  obtain ⟨k1, k2, k3⟩ := hL.lks k hk
  have c1 := hL.cr k hk
  have c2 := hL.md k hk
  have hfr : ∀ a, a = 68 ∨ a = 72 ∨ a = 76 → fld freeE a 4 = 4294967295 := by
    intro a ha
    unfold freeE
    rcases ha with rfl | rfl | rfl
    · rw [fld_upd_other _ _ _ _ _ _ (by omega), fld_upd_other _ _ _ _ _ _ (by omega), fld_upd4 _ _ _ (by omega)]
    · rw [fld_upd_other _ _ _ _ _ _ (by omega), fld_upd4 _ _ _ (by omega)]
    · rw [fld_upd4 _ _ _ (by omega)]
  constructor
  · intro j hj
    unfold Lay.entF
    simp (disch := omega) only [fld_upd_other, fld_cpy_other, fld_linkE_other]
    exact fld_nameE _ _ hc _ _ hj
  · intro j hj hj2
    unfold Lay.entF
    simp (disch := omega) only [fld_upd_other, fld_cpy_other, fld_linkE_other]
    rw [fld_nameE_other _ _ _ _ _ (by omega), fld_free _ _ (by omega), fld_zero]
  · unfold Lay.entF
    simp (disch := omega) only [fld_upd_other, fld_cpy_other, fld_linkE_other]
    exact fld_upd2 _ _ _ (by omega)
  · unfold Lay.entF
    show upd (upd (upd (upd (cpy (cpy (linkE (linkE (linkE _ _ _) _ _) _ _) _ _ _) _ _ _) _ _ _) _ _ _) _ _ _) _ _ _ 66 = _
    rw [upd_out _ _ _ _ _ (by omega), upd_out _ _ _ _ _ (by omega), upd_out _ _ _ _ _ (by omega), upd_out _ _ _ _ _ (by omega), cpy_out _ _ _ _ _ (by omega), cpy_out _ _ _ _ _ (by omega)]
    have hlk : ∀ f a v, 67 < a → linkE f a v 66 = f 66 := by
      intro f a v ha
      unfold linkE
      split
      · exact upd_out _ _ _ _ _ (by omega)
      · rfl
    rw [hlk _ _ _ (by omega), hlk _ _ _ (by omega), hlk _ _ _ (by omega), upd_out _ _ _ _ _ (by omega)]
    exact upd_in _ 66 1 _ 0 (by omega)
  · unfold Lay.entF
    simp (disch := omega) only [fld_upd_other, fld_cpy_other, fld_linkE_other]
    refine fld_linkE _ _ _ k1 ?_
    simp (disch := omega) only [fld_upd_other, fld_nameE_other]
    exact hfr _ (by simp)
  · unfold Lay.entF
    simp (disch := omega) only [fld_upd_other, fld_cpy_other, fld_linkE_other]
    refine fld_linkE _ _ _ k2 ?_
    simp (disch := omega) only [fld_upd_other, fld_nameE_other, fld_linkE_other]
    exact hfr _ (by simp)
  · unfold Lay.entF
    simp (disch := omega) only [fld_upd_other, fld_cpy_other, fld_linkE_other]
    refine fld_linkE _ _ _ k3 ?_
    simp (disch := omega) only [fld_upd_other, fld_nameE_other, fld_linkE_other]
    exact hfr _ (by simp)
  · intro j hj
    unfold Lay.entF
    show upd (upd (upd (upd (cpy (cpy _ _ _ _) _ _ _) _ _ _) _ _ _) _ _ _) _ _ _ (80 + j) = _
    rw [upd_out _ _ _ _ _ (by omega), upd_out _ _ _ _ _ (by omega), upd_out _ _ _ _ _ (by omega), upd_out _ _ _ _ _ (by omega), cpy_out _ _ _ _ _ (by omega), cpy_in _ _ _ _ _ hj]
  · intro j hj
    unfold Lay.entF
    show upd (upd (upd (upd (cpy (cpy _ _ _ _) _ _ _) _ _ _) _ _ _) _ _ _) _ _ _ (96 + j) = _
    rw [upd_out _ _ _ _ _ (by omega), upd_out _ _ _ _ _ (by omega), upd_out _ _ _ _ _ (by omega), upd_out _ _ _ _ _ (by omega), cpy_in _ _ _ _ _ hj]
  · unfold Lay.entF
    simp (disch := omega) only [fld_upd_other]
    exact fld_upd8 _ _ _ c1
  · unfold Lay.entF
    simp (disch := omega) only [fld_upd_other]
    exact fld_upd8 _ _ _ c2
  · unfold Lay.entF
    simp (disch := omega) only [fld_upd_other]
    exact fld_upd4 _ _ _ hst
  · unfold Lay.entF
    exact fld_upd8 _ _ _ (by omega)
  · unfold Lay.entF
    exact fld_upd84 _ _ _ hln

theorem EntFlds.congr {L : Lay} {k : Nat} {G G' : Nat → UInt8} (h : EntFlds L k G) (hx : ∀ x, x < 128 → G' x = G x) (hn : L.nmLen k ≤ 32) : EntFlds L k G' := by
  have hf : ∀ o n, o + n ≤ 128 → fld G' o n = fld G o n := fun o n h => fld_congr (fun j hj => hx _ (by omega))
  constructor
  · intro j hj; rw [hf _ _ (by omega)]; exact h.nm j hj
  · intro j hj hj2; rw [hf _ _ (by omega)]; exact h.nm0 j hj hj2
  · rw [hf _ _ (by omega)]; exact h.len
  · rw [hx _ (by omega)]; exact h.kind
  · rw [hf _ _ (by omega)]; exact h.left
  · rw [hf _ _ (by omega)]; exact h.right
  · rw [hf _ _ (by omega)]; exact h.child
  · intro j hj; rw [hx _ (by omega)]; exact h.cls j hj
  · intro j hj; rw [hx _ (by omega)]; exact h.sts j hj
  · rw [hf _ _ (by omega)]; exact h.cr
  · rw [hf _ _ (by omega)]; exact h.md
  · rw [hf _ _ (by omega)]; exact h.start
  · rw [hf _ _ (by omega)]; exact h.size8
  · rw [hf _ _ (by omega)]; exact h.size4
end Go.Proofs.YtokpomdfgbbhlaaDoor

/- The contracts of spec.put, parts, common. -/
namespace Go.Proofs.YtokpomdfgbbhlaaDoor
open Go Go.RowKit

set_option maxHeartbeats 400000 in
theorem parts_any (n size : Nat) (w : World) (hn : n ≤ 1000000) (h1 : 1 ≤ size) (h2 : size ≤ 1000000) :
    Calls Tryd.prog 21 #[.int .i64 n, .int .i64 size] w fun e w' => e = .returned (.int .i64 (partsN n size : Nat)) ∧ w = w' := by
  have e : ((partsN n size : Nat) : Int) = ((n : Int) + (size : Int) - 1) / (size : Int) := by
    unfold partsN
    have : ((n + size - 1 : Nat) : Int) = (n : Int) + size - 1 := by omega
    rw [Int.natCast_ediv, this]
  have E := Lib.hid e
  clear e
  have h3 : (0 : Int) ≤ (n : Int) + (size : Int) - 1 := by omega
  go_enter Tryd.func21, Tryd.ntmps21
  go_wp2_with fail
  go_ret
  exact ⟨by rw [E.out]; rfl, rfl⟩

/-- Bytes of a block, given by a function. -/
def Bts (w : World) (b n : Nat) (f : Nat → UInt8) : Prop := Blk w b 5 (tab n (fun i => U8 (f i)))

theorem Bts.congr {w : World} {b n : Nat} {f g : Nat → UInt8} (h : Bts w b n f) (hx : ∀ x, x < n → f x = g x) : Bts w b n g := by
  unfold Bts at h ⊢
  rw [tab_congr (g' := fun i => U8 (g i)) (fun i hi => by rw [hx i hi])] at h
  exact h

theorem upd_succ (f : Nat → UInt8) (a k v : Nat) (x : Nat) : upd f a (k + 1) v x = if x = a + k then byteN v k else upd f a k v x := by
  unfold upd
  by_cases h : x = a + k
  · subst h
    rw [if_pos (by omega), if_pos rfl]
    congr 1; omega
  · rw [if_neg h]
    by_cases h2 : a ≤ x ∧ x < a + k
    · rw [if_pos h2, if_pos (by omega)]
    · rw [if_neg h2, if_neg (by omega)]

theorem Bts.put {w : World} {b n : Nat} {f : Nat → UInt8} (a k v : Nat) (h0 : Bts w b n (upd f a k v)) (u : Value) (hu : u = U8 (byteN v k)) :
    Bts (w.setCell ⟨b, a + k, none⟩ u) b n (upd f a (k + 1) v) := by
  subst hu
  have := h0.set (a + k) (U8 (byteN v k))
  rw [tab_set] at this
  unfold Bts
  rw [tab_congr (g' := fun j => if j = a + k then U8 (byteN v k) else U8 (upd f a k v j)) (fun i _ => by rw [upd_succ]; split <;> rfl)]
  exact this

theorem byteN_shr (v i : Nat) : Value.int IntKind.u8 ((v : Int) / 2 ^ (8 * i) % 256) = U8 (byteN v i) := by
  have h1 : (2 : Nat) ^ (8 * i) = 256 ^ i := by rw [Nat.pow_mul]
  have h2 : (byteN v i).toNat = v / 256 ^ i % 256 := UInt8.toNat_ofNat'
  have h3 : (v : Int) / 2 ^ (8 * i) % 256 = ((v / 256 ^ i % 256 : Nat) : Int) := by
    rw [← h1, Int.natCast_emod, Int.natCast_ediv, Int.natCast_pow]
    rfl
  rw [h3]
  show _ = Value.int IntKind.u8 ((byteN v i).toNat : Int)
  rw [h2]

set_option maxHeartbeats 400000 in
theorem put_any (gb off len cap a v m N : Nat) (f : Nat → UInt8) (w : World) (h : Bts w gb N f) (hN : off + len ≤ N) (ham : a + m ≤ len) (hm : m ≤ 8) (hlen : len ≤ 9223372036854775807) :
    Calls Tryd.prog 26 #[.slice (some ⟨gb, off, none⟩) len cap, .int .i64 a, .int .u64 v, .int .i64 m] w fun e w' => e = .returned (.tuple #[]) ∧ Fr [gb] w w' ∧ Bts w' gb N (upd f (off + a) m v) := by
  go_enter Tryd.func26, Tryd.ntmps26
  go_wp2_with fail
  go_loopw [10] (fun s10 wr => ∃ k : Nat, k ≤ m ∧ s10 = .int .i64 k ∧ Fr [gb] w wr ∧ Bts wr gb N (upd f (off + a) k v)) (fun s10 _ => m - (intOf s10).toNat)
  case atStart => exact ⟨0, by omega, rfl, Fr.refl _ _, h.congr (fun x _ => by rw [upd_out _ _ _ _ _ (by omega)])⟩
  case round =>
    obtain ⟨k, hk, rfl, hf, hb⟩ := hrel
    by_cases hlt : k < m
    · have hc : wr.cell? ⟨gb, off + (a + k), none⟩ = some (U8 (upd f (off + a) k v (off + (a + k)))) := (hb.cell _).trans (tab_get _ _ _ (by omega))
      have hz := hb.frozen (off + (a + k))
      go_wp2_with fail
      go_roundw
      case rel => exact ⟨k + 1, by omega, by go_num, hf.setCell (.inl (by simp)) _, by rw [← Nat.add_assoc]; exact Bts.put _ _ _ hb _ (byteN_shr v k)⟩
      case measure => simp [intOf]; omega
    · obtain rfl : k = m := by omega
      go_wp2_with fail
      go_end0
      exact ⟨rfl, hf, hb⟩
end Go.Proofs.YtokpomdfgbbhlaaDoor

/- The contracts of spec.common and spec.mixed. -/
namespace Go.Proofs.YtokpomdfgbbhlaaDoor
open Go Go.RowKit

set_option maxHeartbeats 400000 in
theorem common_any (a b : Nat) (w : World) (ha : a ≤ 1000000) (hb : b ≤ 1000000) :
    Calls Tryd.prog 41 #[.int .i64 a, .int .i64 b] w fun e w' => e = .returned (.int .i64 (Nat.gcd a b : Nat)) ∧ Fr [] w w' := by
  go_enter Tryd.func41, Tryd.ntmps41
  go_wp2_with fail
  go_loopw [0, 1] (fun s0 s1 wr => ∃ x y : Nat, x ≤ 1000000 ∧ y ≤ 1000000 ∧ s0 = .int .i64 x ∧ s1 = .int .i64 y ∧ Nat.gcd x y = Nat.gcd a b ∧ Fr [] w wr) (fun _ s1 _ => (intOf s1).toNat)
  case atStart => exact ⟨a, b, ha, hb, rfl, rfl, rfl, Fr.refl _ _⟩
  case round =>
    obtain ⟨x, y, hx, hy, rfl, rfl, hg, hf⟩ := hrel
    have HG := Lib.hid hg
    clear hg
    by_cases h0 : y = 0
    · subst h0
      go_wp2_with fail
      go_ret
      exact ⟨by rw [← HG.out, Nat.gcd_zero_right]; rfl, hf⟩
    · have hne : ((y : Int) == 0) = false := by simp; omega
      have hy1 : (1 : Int) ≤ y := by omega
      have hm := Nat.mod_lt x (show 0 < y by omega)
      have he : (x : Int) % (y : Int) = ((x % y : Nat) : Int) := rfl
      have HE := Lib.hid he
      clear he
      go_wp2_with fail
      go_quiet (fail)
      go_wp2_with fail
      go_roundw
      case rel => exact ⟨y, x % y, hy, by omega, rfl, by rw [HE.out], by rw [← HG.out, Nat.gcd_comm x y, Nat.gcd_rec y x, Nat.gcd_comm], hf.drewN _⟩
      case measure => simp [intOf]; omega

theorem info3 : (Tryd.prog.info? 3).map (fun i => (i.zero, i.size, i.bytes)) = some (some (.int .i64 0), 1, 8) := by kernel_rfl
abbrev I64 (n : Nat) : Value := .int .i64 (n : Int)

/-- append of one value of one cell onto a row of the call's own. -/
theorem wpList_app1 {ops : Array Oper} {rest : List Oper} {o : Oper} {a : Act} {Q : Exit → Act → World → Prop} {w : World} (hgd : o.guard = none) (s x : Operand) (t : TypeId)
    (ho : o.op = .call { callee := .builtin .append, args := #[s, x], argTypes := #[t, t] }) (e : TypeId) (z : Value) (bytes : Nat) (ht : Tryd.prog.underlying t = some (.slice e))
    (hinfo : (Tryd.prog.info? e).map (fun i => (i.zero, i.size, i.bytes)) = some (some z, 1, bytes)) (hz : z.cells.size = 1) (hby : bytes ≤ 64)
    (base : Nat) (v : Value) (n : Nat) (xs : List Value) (hs : a.eval s = v) (u : Value) (hown : w.ownsRow base e 1 v n xs) (hx : a.eval x = .slice (some ⟨w.heap.size, 0, none⟩) 1 1) (hu : u.oneCell' = true)
    (hn : n ≤ 100000000) (hb : base ≤ w.heap.size)
    (h : ∀ v' w', w'.ownsRow base e 1 v' (n + 1) (xs ++ [u]) → Fr v.ownBlock.toList w w' → wpList Tryd.prog ops Q rest (a.put o.dst v') w') :
    wpList Tryd.prog ops Q (o :: rest) a (w.alloc (.cells #[u] e)) := by
  obtain ⟨i0, hi, hz0, hz1, hz2⟩ := info_parts hinfo
  refine wpList_append_own _ hgd s x t ho base e i0 z 1 bytes ht hi hz0 hz1 hz2 hz (by decide) v n xs hs (hown.alloc _) ⟨w.heap.size, 0, none⟩ 1 1 [u] hx rfl ?_ ?_ ?_ ?_ ?_ ?_
  · exact cell_one_new _ _ _
  · simpa using hu
  · unfold maxLen; omega
  · have := Nat.mul_le_mul (show n + 1 ≤ 100000001 by omega) hby
    omega
  · simp; omega
  · intro v' w' h1 h2 _
    refine h v' w' h1 ?_
    have h3 := Fr.of_grown h2
    refine (((Fr.refl [] w).alloc _).mono (by simp)).trans h3 (fun k hk => .inl hk)

theorem own_tab {w : World} {base : Nat} {e : TypeId} {v : Value} {n : Nat} {g : Nat → Value} {u : Value} (h : w.ownsRow base e 1 v (n + 1) (tab n g ++ [u])) (hu : u = g n) : w.ownsRow base e 1 v (n + 1) (tab (n + 1) g) := by
  rw [tab_snoc]
  subst hu
  exact h

theorem Fr.own {a w w' : World} {ms : List Nat} {base : Nat} {e : TypeId} {size n : Nat} {v : Value} {xs : List Value} (h : Fr ms a w) (hown : w.ownsRow base e size v n xs) (hb : a.heap.size ≤ base) (hg : Fr v.ownBlock.toList w w') : Fr ms a w' :=
  h.trans hg (fun k hk => .inr (by have := (hown.lt k (by simpa using hk)).1; omega))

set_option maxRecDepth 100000 in
set_option maxHeartbeats 1000000 in
theorem mixed_zero (step : Nat) (w : World) (hs : step ≤ 1000) :
    Calls Tryd.prog 22 #[.int .i64 0, .int .i64 step] w fun e w' => e = .returned (.slice (some ⟨w.heap.size, 0, none⟩) 0 0) ∧ w' = w.alloc (.cells #[] 3) := by
  go_enter Tryd.func22, Tryd.ntmps22
  go_wp2_with fail
  go_loop [1] (fun s1 => s1 = .int .i64 1) (fun _ => 0)
  case atStart => rfl
  case round =>
    obtain rfl := hrel
    go_wp2_with fail
    go_loop [5, 24] (fun s5 s24 => s5 = .slice (some ⟨w.heap.size, 0, none⟩) 0 0 ∧ s24 = .int .i64 0) (fun _ _ => 0)
    case atStart => exact ⟨rfl, rfl⟩
    case round =>
      obtain ⟨rfl, rfl⟩ := hrel
      go_wp2_with fail
      go_ret
      exact ⟨rfl, rfl⟩

set_option maxRecDepth 100000 in
set_option maxHeartbeats 1000000 in
theorem mixed_pos (n step : Nat) (w : World) (h1 : 1 ≤ n) (hn : n ≤ 5000) (hs : step ≤ 1000) :
    Calls Tryd.prog 22 #[.int .i64 n, .int .i64 step] w fun e w' => ∃ v, e = .returned v ∧ Fr [] w w' ∧ w'.ownsRow w.heap.size 3 1 v n (tab n (fun k => I64 (mixP n step k))) := by
  have hm0 : (0 : Int) ≤ (step : Int) % (n : Int) := by omega
  have hm1 : (step : Int) % (n : Int) < n := Int.emod_lt_of_pos _ (by omega)
  have hmn := Nat.mod_lt step (show 0 < n by omega)
  have he : 1 + (step : Int) % (n : Int) = ((1 + step % n : Nat) : Int) := by push_cast; rfl
  have HE := Lib.hid he
  clear he
  obtain ⟨hk1, hk2, hk3⟩ := mixStep_ok n step (by omega)
  have HK1 := Lib.hid hk1
  clear hk1
  go_enter Tryd.func22, Tryd.ntmps22
  go_wp2_with fail
  go_loopw [1] (fun s1 wr => ∃ s fuel : Nat, stepGo n fuel s = mixStep n step ∧ s ≤ n + 1 ∧ n + 1 ≤ s + fuel ∧ 1 ≤ s ∧ s1 = .int .i64 s ∧ Fr [] w wr) (fun s1 _ => n + 2 - (intOf s1).toNat)
  case atStart =>
    refine ⟨1 + step % n, n + 1, ?_, by omega, by omega, by omega, by rw [HE.out], Fr.refl _ _⟩
    rw [mixStep, if_neg (by omega)]
    have : max n 1 = n := by omega
    rw [this]
  case round =>
    obtain ⟨s, fuel, hgo, hs1, hs2, hs3, rfl, hf⟩ := hrel
    have HGO := Lib.hid hgo
    clear hgo
    have hcon := Lib.hid (common_any s n wr (by omega) (by omega))
    by_cases hg : Nat.gcd s n = 1
    · have hS : s = mixStep n step := by
        have := HGO.out
        cases fuel with
        | zero => exact this
        | succ fuel => rw [stepGo, if_pos hg] at this; exact this
      have hbase := hf.size
      have HS := Lib.hid hS
      clear hS
      have hgI : ((Nat.gcd s n : Nat) : Int) = 1 := by omega
      go_wp2_with (go_at_call 41; refine hcon.out.mono ?_; rintro e w1 ⟨rfl, hf1⟩)
      have hf2 : Fr [] w (w1.alloc (Obj.cells #[] 3)) := (hf.trans0 hf1).alloc _
      have ho2 : (w1.alloc (Obj.cells #[] 3)).ownsRow w.heap.size 3 1 (.slice (some ⟨w1.heap.size, 0, none⟩) 0 0) 0 [] := World.ownsRow_made w1 #[] 0 (by have := hf1.size; omega) (by unfold maxLen; omega) rfl
      clear hf hcon hg hgI hf1
      go_loopw [5, 24] (fun s5 s24 wr => ∃ k : Nat, k ≤ n ∧ s24 = .int .i64 k ∧ Fr [] w wr ∧ wr.ownsRow w.heap.size 3 1 s5 k (tab k (fun k => I64 (mixP n step k)))) (fun _ s24 _ => n - (intOf s24).toNat)
      case atStart => exact ⟨0, by omega, rfl, hf2, ho2⟩
      case round =>
        clear hf2 ho2
        obtain ⟨k, hk, rfl, hf, hown⟩ := hrel
        by_cases hlt : k < n
        · have b0 : k * s ≤ 5000 * 5001 := Nat.mul_le_mul (by omega) (by omega)
          have b1 : (0 : Int) ≤ (k : Int) * (s : Int) := by rw [← Int.natCast_mul]; omega
          have b2 : (k : Int) * (s : Int) ≤ 25005000 := by rw [← Int.natCast_mul]; omega
          have hbase := hf.size
          go_wp2_with (at_builtin; refine wpList_app1 rfl (.tmp 27) (.tmp 33) 31 rfl 3 (.int .i64 0) 8 Tryd.underlying31 info3 rfl (by decide) w.heap.size _ k _ rfl _ hown rfl rfl (by omega) hbase ?_)
          intro v' w1 hown1 hg1
          have hf1 := hf.own hown (Nat.le_refl _) hg1
          have hown2 := own_tab hown1 (by rw [mixP, ← HS.out]; show Value.int .i64 _ = Value.int .i64 _; rw [Int.natCast_emod, Int.natCast_mul])
          clear hown1 hg1 hown hf
          go_wp2_with fail
          go_roundw
          case rel => exact ⟨k + 1, by omega, by go_num, hf1, hown2⟩
          case measure => simp [intOf]; omega
        · obtain rfl : k = n := by omega
          go_wp2_with fail
          go_ret
          exact ⟨_, rfl, hf, hown⟩
    · have hgI : ((Nat.gcd s n : Nat) : Int) ≠ 1 := by omega
      have hs4 : s ≠ n + 1 := by
        rintro rfl
        exact hg (by simp)
      have hg' : ∃ fuel', fuel = fuel' + 1 ∧ stepGo n fuel' (s + 1) = mixStep n step := by
        have := HGO.out
        cases fuel with
        | zero => omega
        | succ fuel => rw [stepGo, if_neg hg] at this; exact ⟨fuel, rfl, this⟩
      obtain ⟨fuel', hfu, hg''⟩ := hg'
      have HG := Lib.hid hg''
      clear hg''
      go_wp2_with (go_at_call 41; refine hcon.out.mono ?_; rintro e w1 ⟨rfl, hf1⟩)
      go_roundw
      case rel => exact ⟨s + 1, fuel', HG.out, by omega, by omega, by omega, by go_num, hf.trans0 hf1⟩
      case measure => simp [intOf]; omega

end Go.Proofs.YtokpomdfgbbhlaaDoor

/- append onto a row of the call's own: its block is the old one or a new one. -/
namespace Go.Proofs.YtokpomdfgbbhlaaDoor
open Go Go.RowKit

theorem append_block {w w' : World} {base : Nat} {t ty e : TypeId} {i : TypeInfo} {z : Value} {size bytes : Nat} (ht : Tryd.prog.underlying t = some (.slice e)) (hi : Tryd.prog.info? e = some i) (hz : i.zero = some z)
    (hsize : i.size = size) (hby : i.bytes = bytes) {v v' : Value} {n : Nat} {xs : List Value} (hown : w.ownsRow base e size v n xs) {ad : Addr} {m c : Nat} {news : List Value} (hm : 0 < m) (hl : news.length = m * size)
    (hnews : ∀ j u, news[j]? = some u → w.cell? (ad.add j) = some u) (h1 : ∀ u ∈ news, u.oneCell' = true) (h63 : n + m ≤ maxLen) (hbytes : (n + m) * bytes ≤ 140737488355328)
    (hr : (Builtin.append_ #[t, t] ty #[v, .slice (some ad) m c]).run Tryd.prog w = .ok v' w') : ∀ g, v'.ownBlock = some g → v.ownBlock = some g ∨ g = w.heap.size := by
  subst hsize
  subst hby
  have hsm : n + m ≤ 9223372036854775807 := by simp only [maxLen] at h63; omega
  rcases hown.2 with ⟨rfl, rfl⟩ | ⟨b, cap, cur, rfl, hbg, hg, hnc, hcm, hcs, htake⟩
  · have h := run_append_nil (P := Tryd.prog) w t ty e i z ht hi hz ad m c news hl hnews hm (by omega) (by have hb := hbytes; simp only [Nat.zero_add] at hb; omega)
    rw [h] at hr
    cases hr
    intro g hg
    simp [Value.ownBlock] at hg
    exact .inr hg.symm
  · by_cases hroom : n + m ≤ cap
    · have hfit : n * i.size + news.length ≤ cur.size := by rw [hl, hcs, ← Nat.add_mul]; exact Nat.mul_le_mul_right _ hroom
      have h := run_append_room (P := Tryd.prog) w t ty e i ht hi b n cap cur hg ad m c news hl hnews h1 hroom hfit
      rw [h] at hr
      cases hr
      intro g hg
      exact .inl hg
    · have h := run_append_grow (P := Tryd.prog) w t ty e i z ht hi hz ⟨b, 0, none⟩ n cap xs hown.1 (hown.cells (g := b) rfl) ad m c news hl hnews (by omega) (by omega) (growslice_fits (by omega) hbytes)
      rw [h] at hr
      cases hr
      intro g hg
      simp [Value.ownBlock] at hg
      exact .inr hg.symm

/-- append of some cells onto a row of the call's own. -/
theorem wpList_app {ops : Array Oper} {rest : List Oper} {o : Oper} {a : Act} {Q : Exit → Act → World → Prop} {w : World} (hgd : o.guard = none) (s x : Operand) (t : TypeId)
    (ho : o.op = .call { callee := .builtin .append, args := #[s, x], argTypes := #[t, t] }) (e : TypeId) (i : TypeInfo) (z : Value) (size bytes : Nat) (ht : Tryd.prog.underlying t = some (.slice e))
    (hi : Tryd.prog.info? e = some i) (hz : i.zero = some z) (hsize : i.size = size) (hby : i.bytes = bytes) (hzs : z.cells.size = size) (hsz : 0 < size) (hb64 : bytes ≤ 1000)
    (base : Nat) (v : Value) (n : Nat) (xs : List Value) (hs : a.eval s = v) (hown : w.ownsRow base e size v n xs) (ad : Addr) (m c : Nat) (news : List Value) (hx : a.eval x = .slice (some ad) m c) (hm : 0 < m) (hl : news.length = m * size)
    (hnews : ∀ j u, news[j]? = some u → w.cell? (ad.add j) = some u) (h1 : ∀ u ∈ news, u.oneCell' = true) (hn : n + m ≤ 1000000) (hb : base ≤ w.heap.size)
    (h : ∀ v' w', w'.ownsRow base e size v' (n + m) (xs ++ news) → Fr v.ownBlock.toList w w' → (∀ g, v'.ownBlock = some g → v.ownBlock = some g ∨ w.heap.size ≤ g) → wpList Tryd.prog ops Q rest (a.put o.dst v') w') :
    wpList Tryd.prog ops Q (o :: rest) a w := by
  refine wpList_plain hgd fun K hK => ?_
  have h63 : n + m ≤ maxLen := by unfold maxLen; omega
  have hbt : (n + m) * bytes ≤ 140737488355328 := by
    have := Nat.mul_le_mul hn hb64
    omega
  obtain ⟨v', w', hr, h2, h3, _⟩ := run_append_own (P := Tryd.prog) w base t o.type e i z size bytes ht hi hz hsize hby hzs hsz v n xs hown ad m c news hl hnews h1 h63 hbt hb
  have h5 := append_block ht hi hz hsize hby hown hm hl hnews h1 h63 hbt hr
  unfold Oper.wp execOp
  simp only [ho, resolve, invoke, builtin, Sem.run_bind, Sem.run_pure, Result.andThen_ok, List.map_toArray, List.map_cons, List.map_nil, hs, hx, hr]
  exact hK _ _ (h v' w' h2 (Fr.of_grown h3) (fun g hg => (h5 g hg).imp id (fun e => by omega)))

/-- append of one value of one cell onto a row of the call's own. -/
theorem wpList_app2 {ops : Array Oper} {rest : List Oper} {o : Oper} {a : Act} {Q : Exit → Act → World → Prop} {w : World} (hgd : o.guard = none) (s x : Operand) (t : TypeId)
    (ho : o.op = .call { callee := .builtin .append, args := #[s, x], argTypes := #[t, t] }) (e : TypeId) (z : Value) (bytes : Nat) (ht : Tryd.prog.underlying t = some (.slice e))
    (hinfo : (Tryd.prog.info? e).map (fun i => (i.zero, i.size, i.bytes)) = some (some z, 1, bytes)) (hz : z.cells.size = 1) (hby : bytes ≤ 64)
    (base : Nat) (v : Value) (n : Nat) (xs : List Value) (hs : a.eval s = v) (u : Value) (hown : w.ownsRow base e 1 v n xs) (hx : a.eval x = .slice (some ⟨w.heap.size, 0, none⟩) 1 1) (hu : u.oneCell' = true)
    (hn : n ≤ 100000) (hb : base ≤ w.heap.size)
    (h : ∀ v' w', w'.ownsRow base e 1 v' (n + 1) (xs ++ [u]) → Fr v.ownBlock.toList w w' → (∀ g, v'.ownBlock = some g → v.ownBlock = some g ∨ w.heap.size ≤ g) → wpList Tryd.prog ops Q rest (a.put o.dst v') w') :
    wpList Tryd.prog ops Q (o :: rest) a (w.alloc (.cells #[u] e)) := by
  obtain ⟨i0, hi, hz0, hz1, hz2⟩ := info_parts hinfo
  refine wpList_app hgd s x t ho e i0 z 1 bytes ht hi hz0 hz1 hz2 hz (by decide) (by omega) base v n xs hs (hown.alloc _) ⟨w.heap.size, 0, none⟩ 1 1 [u] hx (by omega) rfl ?_ ?_ (by omega) ?_ ?_
  · exact cell_one_new _ _ _
  · simpa using hu
  · simp; omega
  · intro v' w' h1 h2 h3
    refine h v' w' h1 ?_ ?_
    · exact (((Fr.refl [] w).alloc _).mono (by simp)).trans h2 (fun k hk => .inl hk)
    · intro g hg
      rcases h3 g hg with h4 | h4
      · exact .inl h4
      · right; simp at h4; omega

/-- The same as a step of a region that draws its order. -/
theorem step_app {ops : Array Oper} {o : Oper} {a : Act} {w : World} {K : Act → World → Prop} {Q : Exit → Act → World → Prop} {E : Prop} (hgd : o.guard = none) (s x : Operand) (t : TypeId)
    (ho : o.op = .call { callee := .builtin .append, args := #[s, x], argTypes := #[t, t] }) (e : TypeId) (i : TypeInfo) (z : Value) (size bytes : Nat) (ht : Tryd.prog.underlying t = some (.slice e))
    (hi : Tryd.prog.info? e = some i) (hz : i.zero = some z) (hsize : i.size = size) (hby : i.bytes = bytes) (hzs : z.cells.size = size) (hsz : 0 < size) (hb64 : bytes ≤ 1000)
    (base : Nat) (v : Value) (n : Nat) (xs : List Value) (hs : a.eval s = v) (hown : w.ownsRow base e size v n xs) (ad : Addr) (m c : Nat) (news : List Value) (hx : a.eval x = .slice (some ad) m c) (hm : 0 < m) (hl : news.length = m * size)
    (hnews : ∀ j u, news[j]? = some u → w.cell? (ad.add j) = some u) (h1 : ∀ u ∈ news, u.oneCell' = true) (hn : n + m ≤ 1000000) (hb : base ≤ w.heap.size)
    (h : ∀ v' w', w'.ownsRow base e size v' (n + m) (xs ++ news) → Fr v.ownBlock.toList w w' → (∀ g, v'.ownBlock = some g → v.ownBlock = some g ∨ w.heap.size ≤ g) → K (a.put o.dst v') w') :
    if Region.wanted o (yielded ops a.tmps) = true then Oper.wp Tryd.prog o a w K Q else E := by
  have hw : Region.wanted o (yielded ops a.tmps) = true := by simp [Region.wanted, hgd]
  rw [if_pos hw]
  have h63 : n + m ≤ maxLen := by unfold maxLen; omega
  have hbt : (n + m) * bytes ≤ 140737488355328 := by
    have := Nat.mul_le_mul hn hb64
    omega
  obtain ⟨v', w', hr, h2, h3, _⟩ := run_append_own (P := Tryd.prog) w base t o.type e i z size bytes ht hi hz hsize hby hzs hsz v n xs hown ad m c news hl hnews h1 h63 hbt hb
  have h5 := append_block ht hi hz hsize hby hown hm hl hnews h1 h63 hbt hr
  unfold Oper.wp execOp
  simp only [ho, resolve, invoke, builtin, Sem.run_bind, Sem.run_pure, Result.andThen_ok, List.map_toArray, List.map_cons, List.map_nil, hs, hx, hr]
  exact h v' w' h2 (Fr.of_grown h3) (fun g hg => (h5 g hg).imp id (fun e => by omega))
end Go.Proofs.YtokpomdfgbbhlaaDoor

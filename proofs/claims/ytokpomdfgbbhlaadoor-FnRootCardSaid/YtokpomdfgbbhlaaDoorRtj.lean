/- FnRoot: a file as a whole has the class and the times of its root (part 10 of 11). No condition but the statement's own. -/
import Derived.Deep.CutBlock
import Derived.StillTailTactics
import Derived.Test.YtokpomdfgbbhlaaDoorRti
set_option linter.all false
set_option linter.unusedVariables false
set_option linter.unusedSimpArgs false
set_option linter.unnecessarySimpa false
/- The contract of (*Reader).setMiniStream. -/
namespace Go.Proofs.YtokpomdfgbbhlaaDoor
open Go Go.RowKit Go.Maps

theorem madeCells_tab (z : Value) (n : Nat) (h : z.cells = #[z]) : madeCells z.cells (n * 1) = (tab n (fun _ => z)).toArray := by
  apply Array.ext'
  rw [h]
  simp [madeCells, tab, List.map_const', Nat.mod_one]

/-- make([]T, l, c) of one-celled elements. -/
theorem make_tab {t e : TypeId} {z : Value} {bytes : Nat} (ht : Tryd.prog.underlying t = some (.slice e)) (hi : (Tryd.prog.info? e).map (fun i => (i.zero, i.size, i.bytes)) = some (some z, 1, bytes)) (hz : z.cells = #[z])
    (l c : Nat) (hlc : l ≤ c) (hb : bytes * c ≤ 281474976710656) (h63 : c ≤ 9223372036854775807) (w : World) :
    (Instr.makeSlice t (.int .i64 l) (.int .i64 c)).run Tryd.prog w = .ok (.slice (some ⟨w.heap.size, 0, none⟩) l c) (w.alloc (.cells (tab c (fun _ => z)).toArray e)) := by
  obtain ⟨i, h1, h2, h3, h4⟩ := info_parts hi
  have := run_make (P := Tryd.prog) w t e i z ht h1 h2 .i64 .i64 l c (by omega) (by omega) (by rw [h4]; have h : ((bytes * c : Nat) : Int) ≤ 281474976710656 := by omega
                                                                                               rwa [Int.natCast_mul] at h) (by omega)
  rw [this, h3, Int.toNat_natCast, Int.toNat_natCast, madeCells_tab z c hz]

theorem info63 : (Tryd.prog.info? 63).map (fun i => (i.zero, i.size, i.bytes)) = some (some (.int .u32 0), 1, 4) := by kernel_rfl
theorem make_u32 (c : Nat) (h : c ≤ 1000000) (w : World) : (Instr.makeSlice 22 (.int .i64 c) (.int .i64 c)).run Tryd.prog w = .ok (.slice (some ⟨w.heap.size, 0, none⟩) c c) (w.alloc (.cells (tab c (fun _ => .int .u32 0)).toArray 63)) :=
  make_tab Tryd.underlying22 info63 rfl c c (Nat.le_refl _) (by omega) (by omega) w
theorem make_u32_0 (c : Nat) (h : c ≤ 1000000) (w : World) : (Instr.makeSlice 22 (.int .i64 0) (.int .i64 c)).run Tryd.prog w = .ok (.slice (some ⟨w.heap.size, 0, none⟩) 0 c) (w.alloc (.cells (tab c (fun _ => .int .u32 0)).toArray 63)) :=
  make_tab Tryd.underlying22 info63 rfl 0 c (by omega) (by omega) (by omega) w

/-- append where there is room, as a step of a region that draws its order. -/
theorem step_append_room_blk {P : Program} {ops : Array Oper} {o : Oper} {a : Act} {w : World} {K : Act → World → Prop} {Q : Exit → Act → World → Prop} {E : Prop}
    (hg : o.guard = none) (s x : Operand) (t : TypeId) (hop : o.op = Op.call { callee := Callee.builtin Builtin.append, args := #[s, x], argTypes := #[t, t] })
    (e : TypeId) (h1 : P.underlying t = some (.slice e)) (size : Nat) (h2 : (P.info? e).map (·.size) = some size)
    (g n cap : Nat) (l : List Value) (hs : a.eval s = .slice (some ⟨g, 0, none⟩) n cap) (hb : Blk w g e l) (ad : Addr) (m c : Nat) (news : List Value) (hx : a.eval x = .slice (some ad) m c) (hn : news.length = m * size)
    (hc : ∀ j u, news[j]? = some u → w.cell? (ad.add j) = some u) (h1c : ∀ u ∈ news, u.oneCell' = true) (hroom : n + m ≤ cap) (hfit : n * size + news.length ≤ l.length)
    (hK : ∀ w', Fr [g] w w' → Blk w' g e (splice l (n * size) news) → K (a.put o.dst (.slice (some ⟨g, 0, none⟩) (n + m) cap)) w') :
    if Region.wanted o (yielded ops a.tmps) = true then Oper.wp P o a w K Q else E := by
  have hw : Region.wanted o (yielded ops a.tmps) = true := by simp [Region.wanted, hg]
  rw [if_pos hw]
  cases hq : P.info? e with
  | none => simp [hq] at h2
  | some i =>
    have hsz : i.size = size := by simpa [hq] using h2
    subst hsz
    have hrun := run_append_room (P := P) w t o.type e i h1 hq g n cap l.toArray hb ad m c news hn hc h1c hroom (by simpa using hfit)
    have h3 := hK (w.setRow g (l.toArray.toList.take (n * i.size) ++ news ++ l.toArray.toList.drop (n * i.size + news.length)).toArray)
      ⟨rfl, rfl, rfl, by simp [World.setRow], fun k _ hk => setRow_other w g k _ (by simpa using hk)⟩
      (by
        have := setRow_heap w g _ (l.toArray.toList.take (n * i.size) ++ news ++ l.toArray.toList.drop (n * i.size + news.length)).toArray e _ hb
        simpa [Blk, splice] using this)
    unfold Oper.wp
    simp [execOp, hop, resolve, invoke, builtin, hs, hx, hrun, Result.andThen]
    simp only [Oper.upon]
    simpa using h3

set_option maxRecDepth 100000 in
set_option maxHeartbeats 1000000 in
/-- Nothing is done where there is no ministream. -/
theorem setMini_none (rb hb fb ss g f0 d0 E cap : Nat) (F G : Nat → UInt8) (buf difats mf ms file wa : Value) (entry : Int) (sb : Nat) (w : World)
    (hrb : Blk w rb 91 (rdCells ss buf (.pointer (some ⟨hb, 0, none⟩)) file (.slice (some ⟨g, 0, none⟩) E cap) entry sb wa)) (hE : 1 ≤ E)
    (hhb : Blk w hb 142 (hdCells fb difats mf ms)) (hfb : Blk w fb 147 (hdrN F 109)) (hg : w.cell? ⟨g, 0, none⟩ = some (.pointer (some ⟨f0, 0, none⟩)))
    (h7 : w.cell? ⟨f0, 7, none⟩ = some (.pointer (some ⟨d0, 0, none⟩))) (hd : Blk w d0 119 (tab 69 (dirL12 G))) (hs : fld G 116 4 = 4294967294) :
    Calls Tryd.prog 52 #[.pointer (some ⟨rb, 0, none⟩)] w fun e w' => e = .returned .nilIface ∧ w = w' := by
  have r5 : w.cell? ⟨rb, 5, none⟩ = some (.slice (some ⟨g, 0, none⟩) E cap) := hrb.cell 5
  have d60 := (hd.cell 60).trans (dir_start G)
  rw [hs] at d60
  clear hs
  go_enter Tryd.func52, Tryd.ntmps52
  go_wp2_with fail
  go_ret
  exact ⟨rfl, rfl⟩

set_option maxRecDepth 100000 in
set_option maxHeartbeats 1000000 in
theorem setMini_some (rb hb fb sb bb n ncap ss g f0 d0 E cap c m : Nat) (F G : Nat → UInt8) (cf cs : Nat → Nat) (buf file wa : Value) (entry : Int) (w : World) (hS : Src w sb bb n ncap F)
    (hss : ss = 512 ∨ ss = 4096)
    (hrb : Blk w rb 91 (rdCells ss buf (.pointer (some ⟨hb, 0, none⟩)) file (.slice (some ⟨g, 0, none⟩) E cap) entry sb wa)) (hE : 1 ≤ E)
    (hhb : Blk w hb 142 (hdCells fb (.slice (some ⟨fb, 45, none⟩) 109 109) (.slice none 0 0) (.slice none 0 0))) (hfb : Blk w fb 147 (hdrN F 109)) (hg : w.cell? ⟨g, 0, none⟩ = some (.pointer (some ⟨f0, 0, none⟩)))
    (h7 : w.cell? ⟨f0, 7, none⟩ = some (.pointer (some ⟨d0, 0, none⟩))) (hd : Blk w d0 119 (tab 69 (dirL12 G))) (hgh : g ≠ hb) (hfh : f0 ≠ hb) (hsh : sb ≠ hb) (hbh : bb ≠ hb)
    (hch : Chain F n ss (fld G 116 4) m cs) (hm : 1 ≤ m) (hc1 : 1 ≤ c) (hc : fld F 64 4 = c) (hcs : ss / 4 * c ≤ 64000) (hmc : m ≤ ss / 4 * c) (hcf0 : fld F 60 4 = cf 0) (hcfl : cf 0 ≤ 65535)
    (hcf : ∀ j, j + 1 < c → FatAt F n ss (cf j) ∧ fatNext F ss (cf j) = cf (j + 1)) :
    Calls Tryd.prog 52 #[.pointer (some ⟨rb, 0, none⟩)] w fun e w' => e = .returned .nilIface ∧ Fr [hb] w w' ∧ ∃ mf ms k,
      Blk w' hb 142 (hdCells fb (.slice (some ⟨fb, 45, none⟩) 109 109) (.slice (some ⟨mf, 0, none⟩) c c) (.slice (some ⟨ms, 0, none⟩) m k)) ∧ w.heap.size ≤ mf ∧ w.heap.size ≤ ms ∧ m ≤ k ∧
      (∀ i, i < c → w'.cell? ⟨mf, i, none⟩ = some (.int .u32 (cf i))) ∧ (∀ i, i < m → w'.cell? ⟨ms, i, none⟩ = some (.int .u32 (cs i))) := by
  have r3 : w.cell? ⟨rb, 3, none⟩ = some (.pointer (some ⟨hb, 0, none⟩)) := hrb.cell 3
  have r5 : w.cell? ⟨rb, 5, none⟩ = some (.slice (some ⟨g, 0, none⟩) E cap) := hrb.cell 5
  have d0' : w.cell? ⟨hb, 0, none⟩ = some (.pointer (some ⟨fb, 0, none⟩)) := hhb.cell 0
  have d60 := (hd.cell 60).trans (dir_start G)
  have f41 := (hfb.cell 41).trans (hdr_mf F)
  have f42 := (hfb.cell 42).trans (hdr_nmf F)
  have hst : fld G 116 4 ≤ 65535 := by rw [hch.first]; exact (hch.low 0 (by omega)).1
  have hc64 : c ≤ 64000 := by have := Nat.mul_le_mul (show 1 ≤ ss / 4 by omega) (Nat.le_refl c); omega
  have t1 : (((fld G 116 4 : Nat) : Int) == 4294967294) = false := by simp; omega
  have t2 : (((cf 0 : Nat) : Int) == 4294967294) = false := by simp; omega
  have t3 : ((c : Int) == 0) = false := by simp; omega
  have t4 : decide ((64000 : Int) < c) = false := by simp; omega
  have tw : wrap64 (c : Int) = c := by unfold wrap64; omega
  rw [hc] at f42
  rw [hcf0] at f41
  clear hc hcf0
  go_enter Tryd.func52, Tryd.ntmps52
  go_upto_region 6 with (fail)
  go_cut [] from 85 to 92 (fun w1 => Fr [hb] w w1 ∧ Blk w1 hb 142 (hdCells fb (.slice (some ⟨fb, 45, none⟩) 109 109) (.slice (some ⟨w.heap.size, 0, none⟩) c c) (.slice none 0 0)) ∧ Blk w1 w.heap.size 63 (tab c (fun _ => .int .u32 0)))
  case first =>
    have hmk := make_u32 c (by omega)
    have h2 : w.cell? ⟨hb, 2, none⟩ = some (.slice none 0 0) := hhb.cell 2
    have z2 := hhb.frozen 2
    have a3 : (w.alloc (Obj.cells (tab c (fun _ => Value.int .u32 0)).toArray 63)).cell? ⟨rb, 3, none⟩ = some (.pointer (some ⟨hb, 0, none⟩)) := (hrb.alloc _).cell 3
    have a2 : (w.alloc (Obj.cells (tab c (fun _ => Value.int .u32 0)).toArray 63)).cell? ⟨hb, 2, none⟩ = some (.slice none 0 0) := (hhb.alloc _).cell 2
    have az2 := (hhb.alloc (Obj.cells (tab c (fun _ => Value.int .u32 0)).toArray 63)).frozen 2
    have hlh := hhb.lt
    go_region
    all_goals
      go_wp2_with fail
      go_meet
      case rel =>
        refine ⟨(((Fr.refl [hb] _).setCell (p := ⟨hb, 2, none⟩) (.inl (by simp)) _).alloc _).drew, ((hhb.set 2 _).alloc _).drew, ?_⟩
        have := Blk.new (w.setCell ⟨hb, 2, none⟩ (.slice (some ⟨w.heap.size, 0, none⟩) c c)) 63 (tab c (fun _ => Value.int .u32 0))
        rw [show (w.setCell ⟨hb, 2, none⟩ (.slice (some ⟨w.heap.size, 0, none⟩) c c)).heap.size = w.heap.size by simp] at this
        exact this
  case rest =>
  obtain ⟨hf1, hhb1, hmb1⟩ := hcut
  have hlh := hhb.lt
  have hlr := hrb.lt
  generalize hMB : w.heap.size = mb at *
  have hrh : rb ≠ hb := fun h => by subst h; exact absurd (hrb.unique hhb).1 (by decide)
  have hfbh : fb ≠ hb := fun h => by subst h; exact absurd (hfb.unique hhb).1 (by decide)
  have hdh : d0 ≠ hb := fun h => by subst h; exact absurd (hd.unique hhb).1 (by decide)
  go_upto_region 7 with (fail)
  go_cut [] from 93 to 110 (fun w1 => Fr [hb] w w1 ∧ Blk w1 hb 142 (hdCells fb (.slice (some ⟨fb, 45, none⟩) 109 109) (.slice (some ⟨mb, 0, none⟩) c c) (.slice none 0 0)) ∧ Blk w1 mb 63 (tab c (fun j => .int .u32 (if j < 1 then cf j else 0 : Nat))))
  case first =>
    have a3 : wc.cell? ⟨rb, 3, none⟩ = some (.pointer (some ⟨hb, 0, none⟩)) := hf1.cell (by simpa using hrh) r3
    have a2 : wc.cell? ⟨hb, 2, none⟩ = some (.slice (some ⟨mb, 0, none⟩) c c) := hhb1.cell 2
    have a0 : wc.cell? ⟨hb, 0, none⟩ = some (.pointer (some ⟨fb, 0, none⟩)) := hhb1.cell 0
    have a41 := hf1.cell (by simpa using hfbh) f41
    have m0 : wc.cell? ⟨mb, 0, none⟩ = some (.int .u32 0) := (hmb1.cell 0).trans (tab_get _ _ _ (by omega))
    have mz := hmb1.frozen 0
    have c0 : (0 : Int) < c := by omega
    go_region
    all_goals
      go_wp2_with fail
      go_meet
      case rel =>
        refine ⟨hf1.drew.setCell (.inr (by simp; omega)) _, hhb1.drew.setOther (by simp; omega) _, ?_⟩
        have := hmb1.drew.set 0 (.int .u32 (cf 0 : Nat))
        rw [tab_set] at this
        rw [tab_congr (g' := fun j => .int .u32 (if j < 1 then cf j else 0 : Nat)) ?_] at this
        · exact this
        · intro i hi
          by_cases h : i = 0
          · subst h; simp
          · rw [if_neg h, if_neg (by omega)]; rfl
  case rest =>
  clear hf1 hhb1 hmb1
  obtain ⟨hf1, hhb1, hmb1⟩ := hcut
  have HSs := Lib.hid hss
  have HCH := Lib.hid hch
  clear hss hch

  go_upto_block 0 with fail
  go_cut [2, 4, 5, 6] from 111 to 161 (fun s2 _ _ _ w1 => s2 = .nilIface ∧ Fr [hb] w w1 ∧ Blk w1 hb 142 (hdCells fb (.slice (some ⟨fb, 45, none⟩) 109 109) (.slice (some ⟨mb, 0, none⟩) c c) (.slice none 0 0)) ∧ Blk w1 mb 63 (tab c (fun j => .int .u32 (cf j : Nat))))
  case first =>
    go_wp2_with fail
    go_loopw [2, 4] (fun s2 s4 wr => ∃ k : Nat, 1 ≤ k ∧ k ≤ c ∧ s2 = .nilIface ∧ s4 = .int .i64 k ∧ Fr [hb] w wr ∧ Blk wr hb 142 (hdCells fb (.slice (some ⟨fb, 45, none⟩) 109 109) (.slice (some ⟨mb, 0, none⟩) c c) (.slice none 0 0)) ∧
      Blk wr mb 63 (tab c (fun j => .int .u32 (if j < k then cf j else 0 : Nat)))) (fun _ s4 _ => c - (intOf s4).toNat)
    case atStart => exact ⟨1, by omega, by omega, rfl, rfl, hf1, hhb1, hmb1⟩
    case round =>
      clear hf1 hhb1 hmb1
      obtain ⟨k, hk1, hk2, rfl, rfl, hf1, hhb1, hmb1⟩ := hrel
      by_cases hlt : k < c
      · have hltI : (k : Int) < c := by omega
        have a3 : wr.cell? ⟨rb, 3, none⟩ = some (.pointer (some ⟨hb, 0, none⟩)) := hf1.cell (by simpa using hrh) r3
        have a2 : wr.cell? ⟨hb, 2, none⟩ = some (.slice (some ⟨mb, 0, none⟩) c c) := hhb1.cell 2
        have mk : wr.cell? ⟨mb, k - 1, none⟩ = some (.int .u32 (cf (k - 1) : Nat)) := by
          rw [hmb1.cell, tab_get _ _ _ (by omega), if_pos (by omega)]
        obtain ⟨hat, hnx⟩ := hcf (k - 1) (by omega)
        have hfk : (((k : Int) - 1).toNat) = k - 1 := by omega
        go_wp2_with fail
        refine (findNext_at rb hb fb sb bb n ncap ss (cf (k - 1)) F _ _ _ _ _ _ _ _ (hS.fr hf1 (by simpa using hsh) (by simpa using hbh)) (hrb.fr hf1 (by simpa using hrh)) hhb1 (hfb.fr hf1 (by simpa using hfbh)) HSs.out hat).mono ?_
        rintro e w6 ⟨rfl, hf6⟩
        rw [hnx, show k - 1 + 1 = k by omega]
        have a3' := hf6.cell0 a3
        have a2' := hf6.cell0 a2
        have hhb2 := hhb1.fr0 hf6
        have hmb2 := hmb1.fr0 hf6
        have mk' : w6.cell? ⟨mb, k, none⟩ = some (.int .u32 0) := by
          rw [hmb2.cell, tab_get _ _ _ hlt, if_neg (by omega)]; rfl
        have mz := hmb2.frozen k
        have hf2 := hf1.trans0 hf6
        go_wp2_with fail
        go_roundw
        case rel =>
          refine ⟨k + 1, by omega, by omega, rfl, by go_num, hf2.setCell (.inr (by simp; omega)) _, hhb2.setOther (by simp; omega) _, ?_⟩
          have := hmb2.set k (.int .u32 (cf k : Nat))
          rw [tab_set] at this
          rw [tab_congr (g' := fun j => .int .u32 (if j < k + 1 then cf j else 0 : Nat)) ?_] at this
          · exact this
          · intro i hi
            by_cases h : i = k
            · subst h; simp
            · rw [if_neg h]
              by_cases h2 : i < k
              · rw [if_pos h2, if_pos (by omega)]
              · rw [if_neg h2, if_neg (by omega)]
        case measure => simp [intOf]; omega
      · obtain rfl : k = c := by omega
        go_wp2_with fail
        go_meet
        case rel =>
          refine ⟨rfl, hf1, hhb1, ?_⟩
          rw [tab_congr (g' := fun j => .int .u32 (cf j : Nat)) (fun i hi => by rw [if_pos hi])] at hmb1
          exact hmb1
  case rest =>
  clear hf1 hhb1 hmb1
  obtain ⟨rfl, hf1, hhb1, hmb1⟩ := hcut
  generalize hC : ss / 4 * c = C at *
  have hmk := make_u32_0 C (by omega)
  have hCI : ((ss : Int) / 4) * c = C := by rw [← hC]; push_cast; rfl
  have a3 : wc.cell? ⟨rb, 3, none⟩ = some (.pointer (some ⟨hb, 0, none⟩)) := hf1.cell (by simpa using hrh) r3
  have a1 : wc.cell? ⟨rb, 1, none⟩ = some (.int .u32 ss) := hf1.cell (by simpa using hrh) (hrb.cell 1)
  have a0 : wc.cell? ⟨hb, 0, none⟩ = some (.pointer (some ⟨fb, 0, none⟩)) := hhb1.cell 0
  have a42 := hf1.cell (by simpa using hfbh) f42
  have hw1 : ((ss : Int) / 4) % 4294967296 = (ss : Int) / 4 := by have := HSs.out; omega
  have t5 : decide ((64000 : Int) < C) = false := by simp; omega
  have hw2 : (C : Int) % 4294967296 = C := by omega
  go_upto_region 15 with (fail)
  go_cut [3] from 162 to 178 (fun s3 w1 => s3 = .int .i64 C ∧ Fr [] wc w1)
  case first =>
    go_quiet (fail)
    go_wp2_with fail
    go_meet
    case rel => exact ⟨by go_num, (Fr.refl _ _).drewN _⟩
  case rest =>
  have hf1c := hf1
  have hhb1c := hhb1
  have hmb1c := hmb1
  clear hf1 hhb1 hmb1
  obtain ⟨rfl, hfc⟩ := hcut
  have hf1 := hf1c.trans0 hfc
  have hhb1 := hhb1c.fr0 hfc
  have hmb1 := hmb1c.fr0 hfc
  clear hf1c hhb1c hmb1c a3 a1 a0 a42
  obtain ⟨msb, hMS⟩ : ∃ x, wc.heap.size = x := ⟨_, rfl⟩
  have hsz : w.heap.size ≤ msb := by rw [← hMS]; exact hf1.size
  have hms1 : mb < msb := by rw [← hMS]; exact hmb1.lt
  go_upto_region 18 with (fail)
  go_cut [] from 181 to 188 (fun w1 => Fr [hb] w w1 ∧ Blk w1 hb 142 (hdCells fb (.slice (some ⟨fb, 45, none⟩) 109 109) (.slice (some ⟨mb, 0, none⟩) c c) (.slice (some ⟨msb, 0, none⟩) 0 C)) ∧ Blk w1 mb 63 (tab c (fun j => .int .u32 (cf j : Nat))) ∧
    Blk w1 msb 63 (tab C (fun _ => .int .u32 0)) ∧ msb < w1.heap.size)
  case first =>
    have h2 : wc.cell? ⟨hb, 3, none⟩ = some (.slice none 0 0) := hhb1.cell 3
    have z2 := hhb1.frozen 3
    have a3 : wc.cell? ⟨rb, 3, none⟩ = some (.pointer (some ⟨hb, 0, none⟩)) := hf1.cell (by simpa using hrh) r3
    have a3' : (wc.alloc (Obj.cells (tab C (fun _ => Value.int .u32 0)).toArray 63)).cell? ⟨rb, 3, none⟩ = some (.pointer (some ⟨hb, 0, none⟩)) := ((Fr.refl [] wc).alloc _).cell0 a3
    have a2 : (wc.alloc (Obj.cells (tab C (fun _ => Value.int .u32 0)).toArray 63)).cell? ⟨hb, 3, none⟩ = some (.slice none 0 0) := (hhb1.alloc _).cell 3
    have az2 := (hhb1.alloc (Obj.cells (tab C (fun _ => Value.int .u32 0)).toArray 63)).frozen 3
    go_region
    all_goals
      go_wp2_with fail
      go_meet
      case rel =>
        subst hMS
        exact ⟨((hf1.alloc _).setCell (p := ⟨hb, 3, none⟩) (.inl (by simp)) _).drew, ((hhb1.alloc _).set 3 _).drew, ((hmb1.alloc _).setOther (by simp; omega) _).drew, ((Blk.new _ _ _).setOther (by simp; omega) _).drew, by simp⟩
  case rest =>
  clear hf1 hhb1 hmb1 hfc hMS
  obtain ⟨hf1', hhb1', hmb1', hsb1', hlt1⟩ := hcut
  have hf1 := hf1'.alloc (Obj.map #[] 0)
  have hhb1 := hhb1'.alloc (Obj.map #[] 0)
  have hmb1 := hmb1'.alloc (Obj.map #[] 0)
  have hsb1 := hsb1'.alloc (Obj.map #[] 0)
  have hms := MSet.made wc (fun k => ∃ i, 1 ≤ i ∧ i ≤ 0 ∧ k = cs i)
  clear hf1' hhb1' hmb1' hsb1'
  have hmm := @run_makeMap Tryd.prog
  have c5 := hf1.cell (by simpa using hrh) r5
  have cg := hf1.cell (by simpa using hgh) hg
  have c7 := hf1.cell (by simpa using hfh) h7
  have c60 := hf1.cell (by simpa using hdh) d60
  go_wp2_with fail
  have hmw : msb < wc.heap.size := hlt1
  generalize hM2 : wc.heap.size = mp at *
  go_loopw [2, 8] (fun s2 s8 wr => ∃ (j : Nat) (l' : List Value), j ≤ m ∧ s2 = .nilIface ∧ s8 = .int .u32 (cs j : Nat) ∧ Fr [hb] w wr ∧ Blk wr hb 142 (hdCells fb (.slice (some ⟨fb, 45, none⟩) 109 109) (.slice (some ⟨mb, 0, none⟩) c c) (.slice (some ⟨msb, 0, none⟩) j C)) ∧
    Blk wr mb 63 (tab c (fun j => .int .u32 (cf j : Nat))) ∧ Blk wr msb 63 l' ∧ l'.length = C ∧ (∀ i, i < j → l'[i]? = some (.int .u32 (cs i : Nat))) ∧ MSet wr mp (fun k => ∃ i, 1 ≤ i ∧ i ≤ j ∧ k = cs i)) (fun _ _ wr => m - lenOf ((wr.cell? ⟨hb, 3, none⟩).getD .nilIface))
  case atStart => exact ⟨0, _, by omega, rfl, by rw [HCH.out.first], hf1, hhb1, hmb1, hsb1, by simp, fun i hi => by omega, hms⟩
  case round =>
    clear hf1 hhb1 hmb1 hsb1 hms c5 cg c7 c60
    obtain ⟨j, l', hj, rfl, rfl, hf1, hhb1, hmb1, hsb1, hl1, hl2, hms⟩ := hrel
    have hL2 := Lib.hid hl2
    have xm0 : (wr.cell? ⟨hb, 3, none⟩).getD .nilIface = (.slice (some ⟨msb, 0, none⟩) j C) := by rw [hhb1.cell 3]; rfl
    clear hl2
    by_cases hlt : j < m
    · have hsn := HCH.out.low j hlt
      have hne : ((cs j : Nat) : Int) ≠ 4294967294 := by omega
      have a3 : wr.cell? ⟨rb, 3, none⟩ = some (.pointer (some ⟨hb, 0, none⟩)) := hf1.cell (by simpa using hrh) r3
      have a2 : wr.cell? ⟨hb, 3, none⟩ = some (.slice (some ⟨msb, 0, none⟩) j C) := hhb1.cell 3
      have z3 := hhb1.frozen 3
      go_upto_region 22 with (fail)
      go_cut [] from 202 to 219 (fun w1 => Fr [hb, msb] wr w1 ∧ Blk w1 hb 142 (hdCells fb (.slice (some ⟨fb, 45, none⟩) 109 109) (.slice (some ⟨mb, 0, none⟩) c c) (.slice (some ⟨msb, 0, none⟩) (j + 1) C)) ∧ Blk w1 msb 63 (splice l' j [.int .u32 (cs j : Nat)]))
      case first =>
        obtain ⟨R, hR⟩ : ∃ R : AR, R = ⟨wr, hb, 3, msb, j, C, 12, 13, 16, 63, l', .int .u32 (cs j : Nat), fun i => match i with
          | 0 | 1 | 4 | 5 => .pointer (some ⟨rb, 0, none⟩)
          | 2 | 6 => .pointer (some ⟨rb, 3, none⟩)
          | 3 | 7 | 8 | 14 => .pointer (some ⟨hb, 0, none⟩)
          | 9 | 15 => .pointer (some ⟨hb, 3, none⟩)
          | 10 => .slice (some ⟨msb, 0, none⟩) j C
          | 11 => .int .u32 (cs j : Nat)
          | 13 => .slice (some ⟨msb, 0, none⟩) (j + 1) C
          | _ => undef⟩ := ⟨_, rfl⟩
        have rB : R.B = 12 := by rw [hR]
        have rA : R.A = 13 := by rw [hR]
        have rS : R.S = 16 := by rw [hR]
        have rT : R.T = 63 := by rw [hR]
        have nhm : hb ≠ msb := by omega
        have nrm : rb ≠ msb := by omega
        have hxc : ∀ w1, Fr [msb] wr w1 → w1.cell? ⟨rb, 3, none⟩ = some (.pointer (some ⟨hb, 0, none⟩)) ∧ w1.cell? ⟨hb, 3, none⟩ = some (.slice (some ⟨msb, 0, none⟩) j C) := fun w1 hf1 => ⟨hf1.cell (by simpa using nrm) a3, hf1.cell (by simpa using nhm) a2⟩
        have hsc : ∀ w1, Fr [msb] wr w1 → w1.cell? ⟨hb, 3, none⟩ = some (.slice (some ⟨msb, 0, none⟩) j C) ∧ w1.frozen? ⟨hb, 3, none⟩ = false := fun w1 hf1 => ⟨hf1.cell (by simpa using nhm) a2, (hhb1.fr hf1 (by simpa using nhm)).frozen 3⟩
        have hroomA : j + 1 ≤ C := by omega
        have hroomL : j + 1 ≤ l'.length := by omega
        have hgl : R.gb < R.wr.heap.size := by rw [hR]; exact hsb1.lt
        have hsl : R.sb < R.wr.heap.size := by rw [hR]; exact hhb1.lt
        refine wp_region_loose (J := R.J) (Sp := R.Sp) (by kernel_rfl) (by kernel_rfl) ?_ ?_ ?_
        · subst hR
          exact ⟨fun _ => (Fr.refl _ _).drew, fun _ _ => hsb1, fun h => (by cases h), fun h => (by cases h)⟩
        · intro L a w1 i o hI hi hL hw
          have hj := hI.j
          have same : L R.S = false → ∀ i, i ≠ 13 ∧ i ≠ 16 → R.J (lSet L i) w1 := fun hS i hi => hj.alloc hS (Fr.refl _ _) i (by rw [rA, rS]; exact hi)
          have nop : ∀ j u, L j = true → R.Sp j w1 u → R.Sp j w1 u := fun _ _ _ h => h
          rcases i with _ | _ | _ | _ | _ | _ | _ | _ | _ | _ | _ | _ | _ | _ | _ | _ | _ | i
          · obtain rfl := Option.some.inj hi
            have hS : L 16 = false := hI.before (i := 0) (j := 16) hL rfl (by kernel_rfl)
            have hS' : L R.S = false := by rw [hR]; exact hS
            have e0 := hI.outer 0 (by kernel_rfl) (.pointer (some ⟨rb, 0, none⟩)) rfl
            rw [Array.getD_eq_getD_getElem?] at e0
            exact lw (.pointer (some ⟨rb, 0, none⟩)) (by simp [go_sem, e0]) ⟨_, rfl, same hS' 0 (by decide), nop, AR.sp_c (by rw [rB]; decide) (by subst hR; rfl)⟩
          · obtain rfl := Option.some.inj hi
            have hS : L 16 = false := hI.before (i := 1) (j := 16) hL rfl (by kernel_rfl)
            have hS' : L R.S = false := by rw [hR]; exact hS
            have l0 := waits_of hw 0 (by kernel_rfl)
            have e0 : a.tmps.getD 204 undef = .pointer (some ⟨rb, 0, none⟩) := (AR.of_sp (hI.val 0 _ 204 l0 rfl rfl) (by rw [rB]; decide)).trans (by subst hR; rfl)
            rw [Array.getD_eq_getD_getElem?] at e0
            exact lw (.pointer (some ⟨rb, 0, none⟩)) (by simp [go_sem, e0]) ⟨_, rfl, same hS' 1 (by decide), nop, AR.sp_c (by rw [rB]; decide) (by subst hR; rfl)⟩
          · obtain rfl := Option.some.inj hi
            have hS : L 16 = false := hI.before (i := 2) (j := 16) hL rfl (by kernel_rfl)
            have hS' : L R.S = false := by rw [hR]; exact hS
            have l0 := waits_of hw 1 (by kernel_rfl)
            have e0 : a.tmps.getD 205 undef = .pointer (some ⟨rb, 0, none⟩) := (AR.of_sp (hI.val 1 _ 205 l0 rfl rfl) (by rw [rB]; decide)).trans (by subst hR; rfl)
            rw [Array.getD_eq_getD_getElem?] at e0
            exact lw (.pointer (some ⟨rb, 3, none⟩)) (by simp [go_sem, e0]) ⟨_, rfl, same hS' 2 (by decide), nop, AR.sp_c (by rw [rB]; decide) (by subst hR; rfl)⟩
          · obtain rfl := Option.some.inj hi
            have hS : L 16 = false := hI.before (i := 3) (j := 16) hL rfl (by kernel_rfl)
            have hS' : L R.S = false := by rw [hR]; exact hS
            have l0 := waits_of hw 2 (by kernel_rfl)
            have e0 : a.tmps.getD 206 undef = .pointer (some ⟨rb, 3, none⟩) := (AR.of_sp (hI.val 2 _ 206 l0 rfl rfl) (by rw [rB]; decide)).trans (by subst hR; rfl)
            rw [Array.getD_eq_getD_getElem?] at e0
            have hc := (hxc w1 (by have := hj.a hS'; rw [hR] at this; exact this)).1
            exact lw (.pointer (some ⟨hb, 0, none⟩)) (by simp [go_sem, e0, hc]) ⟨_, rfl, same hS' 3 (by decide), nop, AR.sp_c (by rw [rB]; decide) (by subst hR; rfl)⟩
          · obtain rfl := Option.some.inj hi
            have hS : L 16 = false := hI.before (i := 4) (j := 16) hL rfl (by kernel_rfl)
            have hS' : L R.S = false := by rw [hR]; exact hS
            have e0 := hI.outer 0 (by kernel_rfl) (.pointer (some ⟨rb, 0, none⟩)) rfl
            rw [Array.getD_eq_getD_getElem?] at e0
            exact lw (.pointer (some ⟨rb, 0, none⟩)) (by simp [go_sem, e0]) ⟨_, rfl, same hS' 4 (by decide), nop, AR.sp_c (by rw [rB]; decide) (by subst hR; rfl)⟩
          · obtain rfl := Option.some.inj hi
            have hS : L 16 = false := hI.before (i := 5) (j := 16) hL rfl (by kernel_rfl)
            have hS' : L R.S = false := by rw [hR]; exact hS
            have l0 := waits_of hw 4 (by kernel_rfl)
            have e0 : a.tmps.getD 208 undef = .pointer (some ⟨rb, 0, none⟩) := (AR.of_sp (hI.val 4 _ 208 l0 rfl rfl) (by rw [rB]; decide)).trans (by subst hR; rfl)
            rw [Array.getD_eq_getD_getElem?] at e0
            exact lw (.pointer (some ⟨rb, 0, none⟩)) (by simp [go_sem, e0]) ⟨_, rfl, same hS' 5 (by decide), nop, AR.sp_c (by rw [rB]; decide) (by subst hR; rfl)⟩
          · obtain rfl := Option.some.inj hi
            have hS : L 16 = false := hI.before (i := 6) (j := 16) hL rfl (by kernel_rfl)
            have hS' : L R.S = false := by rw [hR]; exact hS
            have l0 := waits_of hw 5 (by kernel_rfl)
            have e0 : a.tmps.getD 209 undef = .pointer (some ⟨rb, 0, none⟩) := (AR.of_sp (hI.val 5 _ 209 l0 rfl rfl) (by rw [rB]; decide)).trans (by subst hR; rfl)
            rw [Array.getD_eq_getD_getElem?] at e0
            exact lw (.pointer (some ⟨rb, 3, none⟩)) (by simp [go_sem, e0]) ⟨_, rfl, same hS' 6 (by decide), nop, AR.sp_c (by rw [rB]; decide) (by subst hR; rfl)⟩
          · obtain rfl := Option.some.inj hi
            have hS : L 16 = false := hI.before (i := 7) (j := 16) hL rfl (by kernel_rfl)
            have hS' : L R.S = false := by rw [hR]; exact hS
            have l0 := waits_of hw 6 (by kernel_rfl)
            have e0 : a.tmps.getD 210 undef = .pointer (some ⟨rb, 3, none⟩) := (AR.of_sp (hI.val 6 _ 210 l0 rfl rfl) (by rw [rB]; decide)).trans (by subst hR; rfl)
            rw [Array.getD_eq_getD_getElem?] at e0
            have hc := (hxc w1 (by have := hj.a hS'; rw [hR] at this; exact this)).1
            exact lw (.pointer (some ⟨hb, 0, none⟩)) (by simp [go_sem, e0, hc]) ⟨_, rfl, same hS' 7 (by decide), nop, AR.sp_c (by rw [rB]; decide) (by subst hR; rfl)⟩
          · obtain rfl := Option.some.inj hi
            have hS : L 16 = false := hI.before (i := 8) (j := 16) hL rfl (by kernel_rfl)
            have hS' : L R.S = false := by rw [hR]; exact hS
            have l0 := waits_of hw 7 (by kernel_rfl)
            have e0 : a.tmps.getD 211 undef = .pointer (some ⟨hb, 0, none⟩) := (AR.of_sp (hI.val 7 _ 211 l0 rfl rfl) (by rw [rB]; decide)).trans (by subst hR; rfl)
            rw [Array.getD_eq_getD_getElem?] at e0
            exact lw (.pointer (some ⟨hb, 0, none⟩)) (by simp [go_sem, e0]) ⟨_, rfl, same hS' 8 (by decide), nop, AR.sp_c (by rw [rB]; decide) (by subst hR; rfl)⟩
          · obtain rfl := Option.some.inj hi
            have hS : L 16 = false := hI.before (i := 9) (j := 16) hL rfl (by kernel_rfl)
            have hS' : L R.S = false := by rw [hR]; exact hS
            have l0 := waits_of hw 8 (by kernel_rfl)
            have e0 : a.tmps.getD 212 undef = .pointer (some ⟨hb, 0, none⟩) := (AR.of_sp (hI.val 8 _ 212 l0 rfl rfl) (by rw [rB]; decide)).trans (by subst hR; rfl)
            rw [Array.getD_eq_getD_getElem?] at e0
            exact lw (.pointer (some ⟨hb, 3, none⟩)) (by simp [go_sem, e0]) ⟨_, rfl, same hS' 9 (by decide), nop, AR.sp_c (by rw [rB]; decide) (by subst hR; rfl)⟩
          · obtain rfl := Option.some.inj hi
            have hS : L 16 = false := hI.before (i := 10) (j := 16) hL rfl (by kernel_rfl)
            have hS' : L R.S = false := by rw [hR]; exact hS
            have l0 := waits_of hw 9 (by kernel_rfl)
            have e0 : a.tmps.getD 213 undef = .pointer (some ⟨hb, 3, none⟩) := (AR.of_sp (hI.val 9 _ 213 l0 rfl rfl) (by rw [rB]; decide)).trans (by subst hR; rfl)
            rw [Array.getD_eq_getD_getElem?] at e0
            have hc := (hxc w1 (by have := hj.a hS'; rw [hR] at this; exact this)).2
            exact lw (.slice (some ⟨msb, 0, none⟩) j C) (by simp [go_sem, e0, hc]) ⟨_, rfl, same hS' 10 (by decide), nop, AR.sp_c (by rw [rB]; decide) (by subst hR; rfl)⟩
          · obtain rfl := Option.some.inj hi
            have hS : L 16 = false := hI.before (i := 11) (j := 16) hL rfl (by kernel_rfl)
            have hS' : L R.S = false := by rw [hR]; exact hS
            have e0 := hI.outer 8 (by kernel_rfl) (.int .u32 (cs j : Nat)) rfl
            rw [Array.getD_eq_getD_getElem?] at e0
            exact lw (.int .u32 (cs j : Nat)) (by simp [go_sem, e0]) ⟨_, rfl, same hS' 11 (by decide), nop, AR.sp_c (by rw [rB]; decide) (by subst hR; rfl)⟩
          · obtain rfl := Option.some.inj hi
            have hS : L 16 = false := hI.before (j := 16) hL rfl (by kernel_rfl)
            have hS' : L R.S = false := by rw [hR]; exact hS
            have l0 := waits_of hw 11 (by kernel_rfl)
            have e0 : a.tmps.getD 215 undef = R.u := (AR.of_sp (hI.val 11 _ 215 l0 rfl rfl) (by rw [rB]; decide)).trans (by subst hR; rfl)
            have f := (Fr.refl [] w1).alloc (.cells #[R.u] 63)
            have hnew : Blk (w1.alloc (.cells #[R.u] 63)) w1.heap.size R.T [R.u] := by rw [rT]; exact Blk.new' _ _ _
            exact ow_build1 trivial 22 63 (.tmp 215) rfl R.u e0 (by subst hR; rfl) Tryd.underlying22 (by kernel_rfl) ⟨_, rfl, hj.alloc hS' f 12 (by rw [rA, rS]; decide), fun j u _ => AR.Sp_fr0 f j u, by unfold AR.Sp; rw [rB, if_pos rfl]; exact ⟨w1.heap.size, rfl, hnew, (hj.a hS').size⟩⟩
          · obtain rfl := Option.some.inj hi
            have hS : L 16 = false := hI.before (j := 16) hL rfl (by kernel_rfl)
            have hS' : L R.S = false := by rw [hR]; exact hS
            have l0 := waits_of hw 10 (by kernel_rfl)
            have l1 := waits_of hw 12 (by kernel_rfl)
            have e0 : a.tmps.getD 214 undef = .slice (some ⟨R.gb, 0, none⟩) R.n R.cap := (AR.of_sp (hI.val 10 _ 214 l0 rfl rfl) (by rw [rB]; decide)).trans (by subst hR; rfl)
            obtain ⟨g, e1, hg, hge⟩ := AR.of_spB (R := R) (by rw [rB]; exact hI.val 12 _ 216 l1 rfl rfl)
            rw [rT] at hg
            have hgb := hj.b (by rw [rA]; exact hL) hS'
            rw [rT] at hgb
            refine ow_app_room (.tmp 214) (.tmp 216) 22 rfl 63 Tryd.underlying22 (by kernel_rfl) R.gb R.n R.cap R.l e0 hgb g R.u e1 hg (by subst hR; rfl) (by subst hR; exact hroomA) (by subst hR; exact hroomL) ?_
            intro w' hf hb
            have hja := hj.app hS' (by rw [rA, rS]; decide) hf (by rw [rT]; exact hb)
            rw [rA] at hja
            exact ⟨_, rfl, hja, fun j u _ => AR.Sp_fr hf hgl j u, AR.sp_c (by rw [rB]; decide) (by subst hR; rfl)⟩
          · obtain rfl := Option.some.inj hi
            have hvia : L 15 = false := hI.before (j := 15) hL rfl (by kernel_rfl)
            have hS : L 16 = false := hI.before (i := 15) (j := 16) hvia rfl (by kernel_rfl)
            have hS' : L R.S = false := by rw [hR]; exact hS
            have l0 := waits_of hw 3 (by kernel_rfl)
            have e0 : a.tmps.getD 207 undef = .pointer (some ⟨hb, 0, none⟩) := (AR.of_sp (hI.val 3 _ 207 l0 rfl rfl) (by rw [rB]; decide)).trans (by subst hR; rfl)
            rw [Array.getD_eq_getD_getElem?] at e0
            exact lw (.pointer (some ⟨hb, 0, none⟩)) (by simp [go_sem, e0]) ⟨_, rfl, same hS' 14 (by decide), nop, AR.sp_c (by rw [rB]; decide) (by subst hR; rfl)⟩
          · obtain rfl := Option.some.inj hi
            have hS : L 16 = false := hI.before (i := 15) (j := 16) hL rfl (by kernel_rfl)
            have hS' : L R.S = false := by rw [hR]; exact hS
            have l0 := waits_of hw 14 (by kernel_rfl)
            have e0 : a.tmps.getD 218 undef = .pointer (some ⟨hb, 0, none⟩) := (AR.of_sp (hI.val 14 _ 218 l0 rfl rfl) (by rw [rB]; decide)).trans (by subst hR; rfl)
            rw [Array.getD_eq_getD_getElem?] at e0
            exact lw (.pointer (some ⟨hb, 3, none⟩)) (by simp [go_sem, e0]) ⟨_, rfl, same hS' 15 (by decide), nop, AR.sp_c (by rw [rB]; decide) (by subst hR; rfl)⟩
          · obtain rfl := Option.some.inj hi
            have hS' : L R.S = false := by rw [rS]; exact hL
            have l0 := waits_of hw 15 (by kernel_rfl)
            have l1 := waits_of hw 13 (by kernel_rfl)
            have e0 : a.tmps.getD 219 undef = .pointer (some ⟨hb, 3, none⟩) := (AR.of_sp (hI.val 15 _ 219 l0 rfl rfl) (by rw [rB]; decide)).trans (by subst hR; rfl)
            have e1 : a.tmps.getD 217 undef = .slice (some ⟨msb, 0, none⟩) (j + 1) C := (AR.of_sp (hI.val 13 _ 217 l1 rfl rfl) (by rw [rB]; decide)).trans (by subst hR; rfl)
            rw [Array.getD_eq_getD_getElem?] at e0 e1
            have hSc := hsc w1 (by have := hj.a hS'; rw [hR] at this; exact this)
            have hJ := hj.store hS' (by rw [rA]; exact l1)
            have hSp : ∀ j u, L j = true → R.Sp j w1 u → R.Sp j (w1.setCell ⟨R.sb, R.k, none⟩ R.nv) u := fun j u _ => AR.Sp_fr ((Fr.refl [R.sb] w1).setCell (.inl (by simp)) _) hsl j u
            rw [rS] at hJ
            have hend : R.Sp 16 (w1.setCell ⟨R.sb, R.k, none⟩ R.nv) undef := AR.sp_c (by rw [rB]; decide) (by subst hR; rfl)
            subst hR
            exact lw_skip (by simp [go_sem, e0, e1, hSc.1, hSc.2]; rfl) ⟨_, rfl, hJ, hSp, hend⟩
          · cases hi
        · intro L a w1 hI hall
          have hd := hI.j.d (by rw [rS]; exact hall 16 (by decide))
          rw [hR] at hd
          obtain ⟨w3, g1, g2, g3⟩ := hd
          have hlit := hI.lit [204, 205, 206, 207, 208, 209, 210, 211, 212, 213, 214, 215, 216, 217, 218, 219] (by kernel_rfl)
          rw [hlit]
          simp only [List.foldl, List.setIfInBounds_toArray, List.set_cons_succ, List.set_cons_zero]
          rename (∀ (a : Act) (w : World), Met _ a w → _) => hK
          refine hK _ _ ?_
          go_meet
          case rel =>
            subst g3
            exact ⟨(g1.mono (by simp)).setCell (.inl (by simp)) _, (hhb1.fr g1 (by simpa using nhm)).set 3 _, g2.setOther (p := ⟨hb, 3, none⟩) nhm _⟩
      case rest =>
        obtain ⟨hf2, hhb2, hsb2⟩ := hcut
        have y1 : Fr [hb] w wc := hf1.trans hf2 (by simp; omega)
        have ymb := hmb1.fr hf2 (by simp; omega)
        have yms := hms.fr hf2 (by simp; omega)
        have hD1 : ∀ i, i < j + 1 → (splice l' j [Value.int .u32 (cs j : Nat)])[i]? = some (.int .u32 (cs i : Nat)) := by
          intro i hi
          rw [splice_get _ _ _ (by simp; omega)]
          by_cases hik : i = j
          · subst hik; rw [if_pos (by simp)]; simp
          · rw [if_neg (by simp; omega)]; exact hL2.out i (by omega)
        have hl3 : (splice l' j [Value.int .u32 (cs j : Nat)]).length = C := by rw [length_splice _ _ _ (by simp; omega)]; exact hl1
        have HD1 := Lib.hid hD1
        clear hD1 hf1 hhb1 hmb1 hsb1 hms hf2
        generalize hLL : splice l' j [Value.int .u32 (cs j : Nat)] = l2 at *
        have hat := HCH.out.at_ j hlt
        have hnx := HCH.out.next j hlt
        have hnx4 : (j + 1 < m ∧ cs (j + 1) ≤ 65535) ∨ (j + 1 = m ∧ cs (j + 1) = 4294967294) := by
          by_cases h : j + 1 < m
          · exact .inl ⟨h, (HCH.out.low _ h).1⟩
          · have e : j + 1 = m := by omega
            right; exact ⟨e, by rw [e]; exact HCH.out.last⟩
        have hnS : cs (j + 1) ≤ cs j → ¬ ∃ i, 1 ≤ i ∧ i ≤ j ∧ cs (j + 1) = cs i := by
          intro h ⟨i, a, b, c⟩
          exact HCH.out.nodup i (j + 1) (by omega) (by omega) c.symm
        have hne1 : cs (j + 1) ≤ cs j → cs j ≠ cs (j + 1) := by
          intro h
          exact HCH.out.nodup j (j + 1) (by omega) (by omega)
        go_wp2_with fail
        refine (findNext_at rb hb fb sb bb n ncap ss (cs j) F _ _ _ _ _ _ _ _ (hS.fr y1 (by simpa using hsh) (by simpa using hbh)) (hrb.fr y1 (by simpa using hrh)) hhb2 (hfb.fr y1 (by simpa using hfbh)) HSs.out hat).mono ?_
        rintro e w6 ⟨rfl, hf6⟩
        rw [hnx]
        have x1 := y1.trans0 hf6
        have x2 := hhb2.fr0 hf6
        have x3 := ymb.fr0 hf6
        have x4 := yms.fr hf6 (by simp)
        have x5 := hsb2.fr0 hf6
        have xm : (w6.cell? ⟨hb, 3, none⟩).getD .nilIface = (.slice (some ⟨msb, 0, none⟩) (j + 1) C) := by rw [x2.cell 3]; rfl
        by_cases hle : cs (j + 1) ≤ cs j
        · have q1 : decide (cs (j + 1) ≤ cs j) = true := by simpa using hle
          have q2 : decide (cs (j + 1) = cs j) = false := by simpa using fun h => hne1 hle h.symm
          have q2' : ¬ (cs (j + 1) = cs j) := fun h => hne1 hle h.symm
          have q3 := x4.run_lookup (cs (j + 1)) (by omega) (hnS hle)
          go_wp2_with (at_mapUpdate; refine wpList_update_mset rfl _ _ _ rfl mp _ rfl x4 (cs (j + 1)) rfl (by omega) (hnS hle) ?_; intro w7 hf7 hm7)
          have n1 : mp ≠ hb := by omega
          have xm' : (w7.cell? ⟨hb, 3, none⟩).getD .nilIface = (.slice (some ⟨msb, 0, none⟩) (j + 1) C) := by rw [(x2.fr hf7 (by simpa using n1.symm)).cell 3]; rfl
          go_roundw
          case rel =>
            refine ⟨j + 1, l2, by omega, rfl, by go_num, x1.trans hf7 (fun x hx => .inr (by simp at hx; omega)), x2.fr hf7 (by simpa using n1.symm), x3.fr hf7 (by simp; omega), x5.fr hf7 (by simp; omega), hl3, HD1.out, hm7.mono ?_⟩
            rintro k (⟨i, a, b, c⟩ | h)
            · exact ⟨i, a, by omega, c⟩
            · exact ⟨j + 1, by omega, by omega, h⟩
          case measure => rw [xm', xm0]; simp [lenOf]; omega
        · have q1 : decide (cs (j + 1) ≤ cs j) = false := by simpa using hle
          have xm' := xm
          go_wp2_with fail
          go_roundw
          case rel => exact ⟨j + 1, l2, by omega, rfl, by go_num, x1, x2, x3, x5, hl3, HD1.out, x4.mono (fun k ⟨i, a, b, c⟩ => ⟨i, a, by omega, c⟩)⟩
          case measure => rw [xm', xm0]; simp [lenOf]; omega
    · obtain rfl : j = m := by omega
      have hcl := HCH.out.last
      go_wp2_with fail
      go_ret
      refine ⟨rfl, hf1, mb, msb, C, hhb1, by omega, hsz, hmc, ?_, ?_⟩
      · intro i hi
        rw [hmb1.cell, tab_get _ _ _ hi]
      · intro i hi
        rw [hsb1.cell]
        exact hL2.out i hi
end Go.Proofs.YtokpomdfgbbhlaaDoor

/- The contract of traverse's closure, by induction on the tree; and of traverse. -/
namespace Go.Proofs.YtokpomdfgbbhlaaDoor
open Go Go.RowKit Go.Maps

/-- A list of texts. -/
def PathIs (w : World) (base : Nat) (v : Value) (p : List ByteArray) : Prop :=
  ∃ b cap, v = .slice (some ⟨b, 0, none⟩) p.length cap ∧ base ≤ b ∧ Blk w b 9 (p.map Value.string)

theorem PathIs.fr {w w' : World} {base : Nat} {v : Value} {p : List ByteArray} {ms : List Nat} (h : PathIs w base v p) (f : Fr ms w w') (hm : ∀ b l, Blk w b 9 l → b ∉ ms) : PathIs w' base v p := by
  obtain ⟨b, cap, h1, h2, h3⟩ := h
  exact ⟨b, cap, h1, h2, h3.fr f (hm _ _ h3)⟩

/-- What the closure captures and what it reaches. -/
structure TEnv where
  (cb xb eb fb rb hb sb ub ul uc ss gb dg dcap E base : Nat)
  (hdr wa : Value)
  (G : Nat → Nat → UInt8)
  (P : Nat → EntP)
  (fk dk : Nat → Nat)

def TEnv.caps (T : TEnv) : Array Value := #[.pointer (some ⟨T.cb, 0, none⟩), .pointer (some ⟨T.xb, 0, none⟩), .pointer (some ⟨T.eb, 0, none⟩), .pointer (some ⟨T.fb, 0, none⟩)]

/-- The state of the walk through the tree: k calls, f files, the row l, the paths pv. -/
structure TSt (T : TEnv) (w : World) (k f : Nat) (l : List Value) (pv : Nat → Value) : Prop where
  cnt : Blk w T.cb 3 [.int .i64 k]
  box : Blk w T.xb 80 [.pointer (some ⟨T.rb, 0, none⟩)]
  err : Blk w T.eb 104 [.nilIface]
  rec_ : Blk w T.fb 102 [.func (.func 63) #[] T.caps]
  rd : Blk w T.rb 91 (rdCells T.ss (.slice (some ⟨T.ub, 0, none⟩) T.ul T.uc) T.hdr (.slice (some ⟨T.gb, 0, none⟩) f T.E) (.slice (some ⟨T.dg, 0, none⟩) T.E T.dcap) 0 T.sb T.wa)
  row : Blk w T.gb 92 l
  len : l.length = T.E
  dir : ∃ dl, Blk w T.dg 92 dl ∧ ∀ e, e < T.E → dl[e]? = some (.pointer (some ⟨T.fk e, 0, none⟩))
  file : ∀ e, e < T.E → Blk w (T.fk e) 95 (flCells (T.P e).name (T.P e).init (pv e) (T.P e).size 0 (fld (T.G e) 116 4) 0 (T.dk e) T.rb)
  ent : ∀ e, e < T.E → Blk w (T.dk e) 119 (tab 69 (dirL12 (T.G e)))
  inj : ∀ a b, a < T.E → b < T.E → T.fk a = T.fk b → a = b
  gdg : T.dg ≠ T.gb
  base : T.base ≤ w.heap.size

theorem Blk.ne {w : World} {b b' : Nat} {S S' : TypeId} {l l' : List Value} (h : Blk w b S l) (h' : Blk w b' S' l') (hS : S ≠ S') : b ≠ b' := fun e => by
  subst e; exact hS (h.unique h').1

theorem TSt.fr0 {T : TEnv} {w w' : World} {k f : Nat} {l : List Value} {pv : Nat → Value} (h : TSt T w k f l pv) (hf : Fr [] w w') : TSt T w' k f l pv where
  cnt := h.cnt.fr0 hf
  box := h.box.fr0 hf
  err := h.err.fr0 hf
  rec_ := h.rec_.fr0 hf
  rd := h.rd.fr0 hf
  row := h.row.fr0 hf
  len := h.len
  dir := by obtain ⟨dl, a, b⟩ := h.dir; exact ⟨dl, a.fr0 hf, b⟩
  file := fun e he => (h.file e he).fr0 hf
  ent := fun e he => (h.ent e he).fr0 hf
  inj := h.inj
  gdg := h.gdg
  base := Nat.le_trans h.base hf.size

theorem TSt.setCnt {T : TEnv} {w : World} {k f : Nat} {l : List Value} {pv : Nat → Value} (h : TSt T w k f l pv) (k' : Nat) (v : Value) (hv : v = .int .i64 k') : TSt T (w.setCell ⟨T.cb, 0, none⟩ v) k' f l pv where
  cnt := by subst hv; exact h.cnt.set 0 _
  box := h.box.setOther (h.cnt.ne h.box (by decide)) _
  err := h.err.setOther (h.cnt.ne h.err (by decide)) _
  rec_ := h.rec_.setOther (h.cnt.ne h.rec_ (by decide)) _
  rd := h.rd.setOther (h.cnt.ne h.rd (by decide)) _
  row := h.row.setOther (h.cnt.ne h.row (by decide)) _
  len := h.len
  dir := by obtain ⟨dl, a, b⟩ := h.dir; exact ⟨dl, a.setOther (h.cnt.ne a (by decide)) _, b⟩
  file := fun e he => (h.file e he).setOther (h.cnt.ne (h.file e he) (by decide)) _
  ent := fun e he => (h.ent e he).setOther (h.cnt.ne (h.ent e he) (by decide)) _
  inj := h.inj
  gdg := h.gdg
  base := by simpa using h.base

theorem TSt.setPath {T : TEnv} {w : World} {k f : Nat} {l : List Value} {pv : Nat → Value} (h : TSt T w k f l pv) (e : Nat) (he : e < T.E) (v : Value) :
    TSt T (w.setCell ⟨T.fk e, 2, none⟩ v) k f l (fun a => if a = e then v else pv a) where
  cnt := h.cnt.setOther ((h.file e he).ne h.cnt (by decide)) _
  box := h.box.setOther ((h.file e he).ne h.box (by decide)) _
  err := h.err.setOther ((h.file e he).ne h.err (by decide)) _
  rec_ := h.rec_.setOther ((h.file e he).ne h.rec_ (by decide)) _
  rd := h.rd.setOther ((h.file e he).ne h.rd (by decide)) _
  row := h.row.setOther ((h.file e he).ne h.row (by decide)) _
  len := h.len
  dir := by obtain ⟨dl, a, b⟩ := h.dir; exact ⟨dl, a.setOther ((h.file e he).ne a (by decide)) _, b⟩
  file := fun a ha => by
    by_cases hae : a = e
    · subst hae
      rw [if_pos rfl]
      exact (h.file a ha).set 2 v
    · rw [if_neg hae]
      exact (h.file a ha).setOther (fun hh => hae (h.inj a e ha he hh.symm)) _
  ent := fun a ha => (h.ent a ha).setOther ((h.file e he).ne (h.ent a ha) (by decide)) _
  inj := h.inj
  gdg := h.gdg
  base := by simpa using h.base

/-- One file more in the reader's list. -/
theorem TSt.app {T : TEnv} {w w' : World} {k f : Nat} {l l' : List Value} {pv : Nat → Value} (h : TSt T w k f l pv) (hf : Fr [T.gb] w w') (hr : Blk w' T.gb 92 l') (hl : l'.length = T.E) :
    TSt T (w'.setCell ⟨T.rb, 4, none⟩ (.slice (some ⟨T.gb, 0, none⟩) (f + 1) T.E)) k (f + 1) l' pv := by
  have n (b : Nat) (S : TypeId) (m : List Value) (hb : Blk w b S m) (hS : S ≠ 92) : b ∉ [T.gb] := by
    simp only [List.mem_singleton]; exact hb.ne h.row hS
  have hrd := h.rd.fr hf (n _ _ _ h.rd (by decide))
  obtain ⟨dl, da, db⟩ := h.dir
  exact {
    cnt := (h.cnt.fr hf (n _ _ _ h.cnt (by decide))).setOther (h.rd.ne h.cnt (by decide)) _
    box := (h.box.fr hf (n _ _ _ h.box (by decide))).setOther (h.rd.ne h.box (by decide)) _
    err := (h.err.fr hf (n _ _ _ h.err (by decide))).setOther (h.rd.ne h.err (by decide)) _
    rec_ := (h.rec_.fr hf (n _ _ _ h.rec_ (by decide))).setOther (h.rd.ne h.rec_ (by decide)) _
    rd := hrd.set 4 _
    row := hr.setOther (h.rd.ne h.row (by decide)) _
    len := hl
    dir := ⟨dl, (da.fr hf (by simpa using h.gdg)).setOther (h.rd.ne da (by decide)) _, db⟩
    file := fun e he => ((h.file e he).fr hf (n _ _ _ (h.file e he) (by decide))).setOther (h.rd.ne (h.file e he) (by decide)) _
    ent := fun e he => ((h.ent e he).fr hf (n _ _ _ (h.ent e he) (by decide))).setOther (h.rd.ne (h.ent e he) (by decide)) _
    inj := h.inj
    gdg := h.gdg
    base := by simpa using Nat.le_trans h.base hf.size }

theorem TSt.no9 {T : TEnv} {w : World} {k f : Nat} {l : List Value} {pv : Nat → Value} (h : TSt T w k f l pv) {os : List Nat} (hos : ∀ e, e ∈ os → e < T.E) (b : Nat) (m : List Value) (hb : Blk w b 9 m) :
    b ∉ T.cb :: T.rb :: T.gb :: os.map T.fk := by
  simp only [List.mem_cons, List.mem_map]
  rintro (rfl | rfl | rfl | ⟨e, he, rfl⟩)
  · exact hb.ne h.cnt (by decide) rfl
  · exact hb.ne h.rd (by decide) rfl
  · exact hb.ne h.row (by decide) rfl
  · exact hb.ne (h.file e (hos e he)) (by decide) rfl

/-- What a call of the closure leaves. -/
def TPost (T : TEnv) (t : Tr) (k f : Nat) (l : List Value) (pv : Nat → Value) (p : List ByteArray) (w w' : World) : Prop :=
  Fr (T.cb :: T.rb :: T.gb :: t.order.map T.fk) w w' ∧
      ∃ pv', TSt T w' (k + t.order.length) (f + t.order.length) (splice l f (t.order.map (fun e => .pointer (some ⟨T.fk e, 0, none⟩)))) pv' ∧
        (∀ e, e ∉ t.order → pv' e = pv e) ∧ ∀ q ∈ t.paths (fun e => (T.P e).name) p, PathIs w' T.base (pv' q.1) q.2

theorem TPost.drew {T : TEnv} {t : Tr} {k f : Nat} {l : List Value} {pv : Nat → Value} {p : List ByteArray} {w w' : World} (h : TPost T t k f l pv p w.drew w') : TPost T t k f l pv p w w' :=
  ⟨(Fr.refl _ w).drew.trans_same h.1, h.2⟩

theorem splice_nil (l : List Value) (o : Nat) : splice l o [] = l := by simp [splice]

theorem TPost.nil {T : TEnv} {k f : Nat} {l : List Value} {pv : Nat → Value} {p : List ByteArray} {w w' : World} (h : TSt T w k f l pv) (hf : Fr [] w w') : TPost T .nil k f l pv p w w' :=
  ⟨hf.mono (by simp), pv, by simpa [Tr.order, splice_nil] using h.fr0 hf, fun _ _ => rfl, fun q hq => by simp [Tr.paths] at hq⟩

theorem splice_app (l a b : List Value) (o : Nat) (h : o + a.length + b.length ≤ l.length) : splice (splice l o a) (o + a.length) b = splice l o (a ++ b) := by
  apply List.ext_getElem?
  intro i
  have h1 : (splice l o a).length = l.length := length_splice _ _ _ (by omega)
  rw [splice_get _ _ _ (by omega), splice_get _ _ _ (by omega), splice_get _ _ _ (by simp; omega)]
  simp only [List.length_append]
  by_cases c1 : o + a.length ≤ i ∧ i < o + a.length + b.length
  · rw [if_pos c1, if_pos (by omega), List.getElem?_append_right (by omega)]
    congr 1; omega
  · rw [if_neg c1]
    by_cases c2 : o ≤ i ∧ i < o + a.length
    · rw [if_pos c2, if_pos (by omega), List.getElem?_append_left (by omega)]
    · rw [if_neg c2, if_neg (by omega)]

/-- Left, the entry itself, below, right. -/
theorem TPost.join {T : TEnv} {x : Nat} {l c r : Tr} {k f : Nat} {row rowC : List Value} {pv pvL pv5 pvC : Nat → Value} {p pc : List ByteArray} {pb pcap : Nat} {w wL w4 w5 wC wR : World}
    (hst : TSt T w k f row pv) (hx : x < T.E) (hlE : ∀ e, e ∈ l.order → e < T.E) (hcE : ∀ e, e ∈ c.order → e < T.E) (hrE : ∀ e, e ∈ r.order → e < T.E) (hnd : (Tr.node x l c r).order.Nodup)
    (hp : PathIs w T.base (.slice (some ⟨pb, 0, none⟩) p.length pcap) p) (hfl : f + (l.order.length + (c.order.length + r.order.length + 1)) ≤ T.E)
    (hf1 : Fr (T.cb :: T.rb :: T.gb :: l.order.map T.fk) w wL) (hs3 : TSt T wL (k + 1 + l.order.length) (f + l.order.length) (splice row f (l.order.map (fun e => .pointer (some ⟨T.fk e, 0, none⟩)))) pvL)
    (hpvL : ∀ e, e ∉ l.order → pvL e = pv e) (hpaL : ∀ q ∈ l.paths (fun e => (T.P e).name) p, PathIs wL T.base (pvL q.1) q.2)
    (hf4 : Fr [T.rb, T.gb] wL w4) (hf5 : Fr [T.fk x] w4 w5) (hpv5 : pv5 = fun a => if a = x then Value.slice (some ⟨pb, 0, none⟩) p.length pcap else pvL a)
    (hpc : pc = if x = 0 then p else p ++ [(T.P x).name])
    (hrow : rowC = splice (splice (splice row f (l.order.map (fun e => .pointer (some ⟨T.fk e, 0, none⟩)))) (f + l.order.length) [.pointer (some ⟨T.fk x, 0, none⟩)]) (f + l.order.length + 1) (c.order.map (fun e => .pointer (some ⟨T.fk e, 0, none⟩))))
    (hfC : Fr (T.cb :: T.rb :: T.gb :: c.order.map T.fk) w5 wC) (hsC : TSt T wC (k + 1 + l.order.length + c.order.length) (f + l.order.length + 1 + c.order.length) rowC pvC)
    (hpvC : ∀ e, e ∉ c.order → pvC e = pv5 e) (hpaC : ∀ q ∈ c.paths (fun e => (T.P e).name) pc, PathIs wC T.base (pvC q.1) q.2)
    (hR : TPost T r (k + 1 + l.order.length + c.order.length) (f + l.order.length + 1 + c.order.length) rowC pvC p wC wR) :
    TPost T (.node x l c r) k f row pv p w wR := by
  obtain ⟨hfR, pvR, hsR, hpvR, hpaR⟩ := hR
  have hos : ∀ e, e ∈ (Tr.node x l c r).order → e < T.E := by
    intro e he
    simp only [Tr.order, List.mem_append, List.mem_cons] at he
    rcases he with he | rfl | he | he
    · exact hlE e he
    · exact hx
    · exact hcE e he
    · exact hrE e he
  have m1 : Fr (T.cb :: T.rb :: T.gb :: (Tr.node x l c r).order.map T.fk) w wL := hf1.mono (fun b hb => .inl (by simp only [Tr.order, List.map_append, List.map_cons, List.mem_cons, List.mem_append] at hb ⊢; grind))
  have m2 : Fr (T.cb :: T.rb :: T.gb :: (Tr.node x l c r).order.map T.fk) wL w4 := hf4.mono (fun b hb => .inl (by simp only [List.mem_cons, List.mem_nil_iff, or_false] at hb ⊢; grind))
  have m3 : Fr (T.cb :: T.rb :: T.gb :: (Tr.node x l c r).order.map T.fk) w4 w5 := hf5.mono (fun b hb => .inl (by simp only [Tr.order, List.map_append, List.map_cons, List.mem_cons, List.mem_append, List.mem_nil_iff, or_false] at hb ⊢; grind))
  have m4 : Fr (T.cb :: T.rb :: T.gb :: (Tr.node x l c r).order.map T.fk) w5 wC := hfC.mono (fun b hb => .inl (by simp only [Tr.order, List.map_append, List.map_cons, List.mem_cons, List.mem_append] at hb ⊢; grind))
  have m5 : Fr (T.cb :: T.rb :: T.gb :: (Tr.node x l c r).order.map T.fk) wC wR := hfR.mono (fun b hb => .inl (by simp only [Tr.order, List.map_append, List.map_cons, List.mem_cons, List.mem_append] at hb ⊢; grind))
  have hnd1 := List.nodup_append.1 hnd
  have hnd2 := List.nodup_cons.1 hnd1.2.1
  have hnd3 := List.nodup_append.1 hnd2.2
  have hxc : x ∉ c.order := fun h => hnd2.1 (by simp [h])
  have hxr : x ∉ r.order := fun h => hnd2.1 (by simp [h])
  refine ⟨(((m1.trans_same m2).trans_same m3).trans_same m4).trans_same m5, pvR, ?_, ?_, ?_⟩
  · have e1 : k + 1 + l.order.length + c.order.length + r.order.length = k + (Tr.node x l c r).order.length := by simp only [Tr.order, List.length_append, List.length_cons]; omega
    have e2 : f + l.order.length + 1 + c.order.length + r.order.length = f + (Tr.node x l c r).order.length := by simp only [Tr.order, List.length_append, List.length_cons]; omega
    rw [e1, e2, hrow] at hsR
    have hlen := hst.len
    have a1 := splice_app row (l.order.map (fun e => Value.pointer (some ⟨T.fk e, 0, none⟩))) [.pointer (some ⟨T.fk x, 0, none⟩)] f (by simp; omega)
    rw [List.length_map] at a1
    rw [a1] at hsR
    have a2 := splice_app row (l.order.map (fun e => Value.pointer (some ⟨T.fk e, 0, none⟩)) ++ [.pointer (some ⟨T.fk x, 0, none⟩)]) (c.order.map (fun e => Value.pointer (some ⟨T.fk e, 0, none⟩))) f (by simp; omega)
    rw [List.length_append, List.length_map, List.length_singleton, ← Nat.add_assoc] at a2
    rw [a2] at hsR
    have a3 := splice_app row ((l.order.map (fun e => Value.pointer (some ⟨T.fk e, 0, none⟩)) ++ [.pointer (some ⟨T.fk x, 0, none⟩)]) ++ c.order.map (fun e => Value.pointer (some ⟨T.fk e, 0, none⟩))) (r.order.map (fun e => Value.pointer (some ⟨T.fk e, 0, none⟩))) f (by simp; omega)
    rw [List.length_append, List.length_append, List.length_map, List.length_map, List.length_singleton, ← Nat.add_assoc, ← Nat.add_assoc] at a3
    rw [a3] at hsR
    have e3 : ((l.order.map (fun e => Value.pointer (some ⟨T.fk e, 0, none⟩)) ++ [.pointer (some ⟨T.fk x, 0, none⟩)]) ++ c.order.map (fun e => Value.pointer (some ⟨T.fk e, 0, none⟩))) ++ r.order.map (fun e => Value.pointer (some ⟨T.fk e, 0, none⟩)) = (Tr.node x l c r).order.map (fun e => Value.pointer (some ⟨T.fk e, 0, none⟩)) := by
      simp [Tr.order]
    rw [e3] at hsR
    exact hsR
  · intro e he
    simp only [Tr.order, List.mem_append, List.mem_cons, not_or] at he
    rw [hpvR e he.2.2.2, hpvC e he.2.2.1, hpv5]
    simp only [if_neg he.2.1]
    exact hpvL e he.1
  · intro q hq
    simp only [Tr.paths, List.mem_append, List.mem_cons] at hq
    have hmem : ∀ (t : Tr) (p : List ByteArray) (q : Nat × List ByteArray), q ∈ t.paths (fun e => (T.P e).name) p → q.1 ∈ t.order := by
      intro t
      induction t with
      | nil => intro p q h; simp [Tr.paths] at h
      | node e l c r h1 h2 h3 =>
        intro p q h
        simp only [Tr.paths, List.mem_append, List.mem_cons] at h
        simp only [Tr.order, List.mem_append, List.mem_cons]
        rcases h with h | rfl | h | h
        · exact .inl (h1 _ _ h)
        · exact .inr (.inl rfl)
        · exact .inr (.inr (.inl (h2 _ _ h)))
        · exact .inr (.inr (.inr (h3 _ _ h)))
    rcases hq with hq | rfl | hq | hq
    · have hm := hmem _ _ _ hq
      have n1 : q.1 ≠ x := fun h => hnd1.2.2 _ hm _ (by simp) h
      have n2 : q.1 ∉ c.order := fun h => hnd1.2.2 _ hm _ (by simp [h]) rfl
      have n3 : q.1 ∉ r.order := fun h => hnd1.2.2 _ hm _ (by simp [h]) rfl
      rw [hpvR _ n3, hpvC _ n2, hpv5]
      simp only [if_neg n1]
      exact (hpaL q hq).fr (((m2.trans_same m3).trans_same m4).trans_same m5) (hs3.no9 hos)
    · simp only
      rw [hpvR _ hxr, hpvC _ hxc, hpv5]
      simp only [if_true]
      exact hp.fr ((((m1.trans_same m2).trans_same m3).trans_same m4).trans_same m5) (hst.no9 hos)
    · have hm := hmem _ _ _ hq
      have n3 : q.1 ∉ r.order := fun h => hnd3.2.2 _ hm _ h rfl
      rw [hpvR _ n3]
      exact (hpaC q (by rw [hpc]; exact hq)).fr m5 (hsC.no9 hos)
    · exact hpaR q hq

theorem info9 : (Tryd.prog.info? 9).map (fun i => (i.zero, i.size, i.bytes)) = some (some (.string { data := #[] }), 1, 16) := by kernel_rfl
theorem make_path (n : Nat) (h : n ≤ 200000) (w : World) : (Instr.makeSlice 35 (.int .i64 ((n : Int) + 1)) (.int .i64 ((n : Int) + 1))).run Tryd.prog w =
    .ok (.slice (some ⟨w.heap.size, 0, none⟩) (n + 1) (n + 1)) (w.alloc (.cells (tab (n + 1) (fun _ => Value.string { data := #[] })).toArray 9)) := by
  have := make_tab Tryd.underlying35 info9 rfl (n + 1) (n + 1) (Nat.le_refl _) (by omega) (by omega) w
  simpa using this

set_option maxRecDepth 100000 in
set_option maxHeartbeats 1000000 in
theorem trav_any (T : TEnv) (t : Tr) : ∀ (x k f : Nat) (l : List Value) (pv : Nat → Value) (v : Value) (p : List ByteArray) (w : World), t ≠ .nil → t.Fits T.E T.G x → t.order.Nodup → TSt T w k f l pv →
    PathIs w T.base v p → k + t.order.length ≤ T.E → f + t.order.length ≤ T.E → T.E ≤ 100000 → p.length + t.order.length ≤ 200000 →
    Calls Tryd.prog 63 #[.int .i64 x, v, .pointer (some ⟨T.cb, 0, none⟩), .pointer (some ⟨T.xb, 0, none⟩), .pointer (some ⟨T.eb, 0, none⟩), .pointer (some ⟨T.fb, 0, none⟩)] w fun e w' => e = .returned (.tuple #[]) ∧ TPost T t k f l pv p w w' := by
  induction t with
  | nil => intro _ _ _ _ _ _ _ _ h; exact absurd rfl h
  | node e l c r ihl ihc ihr =>
    intro x k f row pv v p w _ hfit hnd hst hp hk hf hE hpl
    obtain ⟨rfl, he, hfl, hfc, hfr⟩ := hfit
    obtain ⟨pb, pcap, rfl, hpb, hpB⟩ := hp
    have hpB0 := hpB
    simp only [Tr.order, List.length_append, List.length_cons] at hk hf hpl
    have hndl : l.order.Nodup := (List.nodup_append.1 hnd).1
    have hnd2 := (List.nodup_cons.1 (List.nodup_append.1 hnd).2.1).2
    have hndc : c.order.Nodup := (List.nodup_append.1 hnd2).1
    have hndr : r.order.Nodup := (List.nodup_append.1 hnd2).2.1
    have c0 : w.cell? ⟨T.cb, 0, none⟩ = some (.int .i64 k) := hst.cnt.cell 0
    have z0 := hst.cnt.frozen 0
    have x0 : w.cell? ⟨T.xb, 0, none⟩ = some (.pointer (some ⟨T.rb, 0, none⟩)) := hst.box.cell 0
    have r5 : w.cell? ⟨T.rb, 5, none⟩ = some (.slice (some ⟨T.dg, 0, none⟩) T.E T.dcap) := hst.rd.cell 5
    go_enter Tryd.func63, Tryd.ntmps63
    go_upto_region 1 with (fail)
    have hs1 := hst.setCnt (k + 1) (.int .i64 ((k : Int) + 1)) (by push_cast; rfl)
    have hf1 : Fr [T.cb] w (w.setCell ⟨T.cb, 0, none⟩ (.int .i64 ((k : Int) + 1))) := (Fr.refl _ _).setCell (.inl (by simp)) _
    clear c0 z0 x0 r5
    generalize w.setCell ⟨T.cb, 0, none⟩ (.int .i64 ((k : Int) + 1)) = w1 at *
    obtain ⟨dl, hda, hdb⟩ := hs1.dir
    have c0 : w1.cell? ⟨T.cb, 0, none⟩ = some (.int .i64 ((k : Int) + 1)) := hs1.cnt.cell 0
    have x0 : w1.cell? ⟨T.xb, 0, none⟩ = some (.pointer (some ⟨T.rb, 0, none⟩)) := hs1.box.cell 0
    have r5 : w1.cell? ⟨T.rb, 5, none⟩ = some (.slice (some ⟨T.dg, 0, none⟩) T.E T.dcap) := hs1.rd.cell 5
    have dc : w1.cell? ⟨T.dg, x, none⟩ = some (.pointer (some ⟨T.fk x, 0, none⟩)) := (hda.cell x).trans (hdb x he)
    have f7 : w1.cell? ⟨T.fk x, 7, none⟩ = some (.pointer (some ⟨T.dk x, 0, none⟩)) := (hs1.file x he).cell 7
    have d35 := ((hs1.ent x he).cell 35).trans (dir_left _)
    have tt1 : decide ((T.E : Int) < (k : Int) + 1) = false := by simp; omega
    have tt2 : decide ((T.E : Int) ≤ (x : Int)) = false := by simp; omega
    have heI : (x : Int) < T.E := by omega
    go_quiet (fail)
    have HD := Lib.hid hdb
    clear hdb
    go_upto_if 50 with (fail)
    have hs2 := hs1.fr0 ((Fr.refl [] w1).drewN nq)
    have hf2 : Fr [T.cb] w (w1.drewN nq) := hf1.drewN nq
    have hp2 : Blk (w1.drewN nq) pb 9 (p.map Value.string) := (hpB.fr hf1 (by simp only [List.mem_singleton]; exact hpB.ne hst.cnt (by decide))).drewN nq
    clear c0 x0 r5 dc f7 d35 hs1 hf1 hda hpB
    generalize w1.drewN nq = w2 at *
    have fr0 : w2.cell? ⟨T.fb, 0, none⟩ = some (.func (.func 63) #[] T.caps) := hs2.rec_.cell 0
    have f7 : w2.cell? ⟨T.fk x, 7, none⟩ = some (.pointer (some ⟨T.dk x, 0, none⟩)) := (hs2.file x he).cell 7
    have d35 := ((hs2.ent x he).cell 35).trans (dir_left _)
    go_cut [] from 12 to 61 (fun w3 => TPost T l (k + 1) f row pv p w2 w3)
    case first =>
      cases l with
      | nil =>
        have hq : (((fld (T.G x) 68 4 : Nat) : Int) != 4294967295) = false := by rw [show fld (T.G x) 68 4 = 4294967295 from hfl]; rfl
        go_wp2_with fail
        go_meet
        case rel => exact TPost.nil hs2 (Fr.refl _ _)
      | node e' l' c' r' =>
        have hlt : fld (T.G x) 68 4 < T.E := by obtain ⟨h1, h2, _⟩ := hfl; rw [h1]; exact h2
        have hq : (((fld (T.G x) 68 4 : Nat) : Int) != 4294967295) = true := by simp; omega
        go_upto_region 7 with (fail)
        go_still_tail 10, (by kernel_rfl)
        change wpList _ _ _ _ _ w2.drew
        go_wp2_with fail
        refine (ihl (fld (T.G x) 68 4) (k + 1) f row pv _ p w2.drew (by simp) hfl hndl (hs2.fr0 ((Fr.refl [] w2).drew)) ⟨pb, pcap, rfl, hpb, hp2.drew⟩ (by omega) (by omega) hE (by omega)).mono ?_
        rintro e w3 ⟨rfl, hpost⟩
        go_wp2_with fail
        go_meet
        case rel => exact hpost.drew
    case rest =>
    clear fr0 f7 d35
    have hfL := hs2
    clear hs2
    obtain ⟨hf3, pvL, hs3, hpvL, hpaL⟩ := hcut
    have hp3 := hp2.fr hf3 (hfL.no9 hfl.lt _ _ hp2)
    have hf13 := (hf2.mono (ms' := T.cb :: T.rb :: T.gb :: l.order.map T.fk) (by simp)).trans_same hf3
    generalize hol : l.order.length = nl at *
    have hxg : T.xb ≠ T.gb := hs3.box.ne hs3.row (by decide)
    have hrg : T.rb ≠ T.gb := hs3.rd.ne hs3.row (by decide)
    have hxr : T.xb ≠ T.rb := hs3.box.ne hs3.rd (by decide)
    have x0 : wc.cell? ⟨T.xb, 0, none⟩ = some (.pointer (some ⟨T.rb, 0, none⟩)) := hs3.box.cell 0
    have r4 : wc.cell? ⟨T.rb, 4, none⟩ = some (.slice (some ⟨T.gb, 0, none⟩) (f + nl) T.E) := hs3.rd.cell 4
    have rz4 := hs3.rd.frozen 4
    have b2 : (wc.alloc (Obj.cells #[.pointer (some ⟨T.fk x, 0, none⟩)] 92)).cell? ⟨T.rb, 4, none⟩ = some (.slice (some ⟨T.gb, 0, none⟩) (f + nl) T.E) := ((Fr.refl [] wc).alloc _).cell0 r4
    have hl3 := hs3.len
    have hrow3 := hs3.row
    go_upto_region 8 with (fail)
    go_cut [] from 62 to 71 (fun w4 => ∃ w3, Fr [T.gb] wc w3 ∧ Blk w3 T.gb 92 (splice (splice row f (l.order.map (fun e => .pointer (some ⟨T.fk e, 0, none⟩)))) (f + nl) [.pointer (some ⟨T.fk x, 0, none⟩)]) ∧ w4 = w3.setCell ⟨T.rb, 4, none⟩ (.slice (some ⟨T.gb, 0, none⟩) (f + nl + 1) T.E))
    case first =>
      obtain ⟨R, hR⟩ : ∃ R : AR, R = ⟨wc, T.rb, 4, T.gb, f + nl, T.E, 6, 7, 10, 92, splice row f (l.order.map (fun e => .pointer (some ⟨T.fk e, 0, none⟩))), .pointer (some ⟨T.fk x, 0, none⟩), fun i => match i with
        | 0 | 1 | 2 | 8 => .pointer (some ⟨T.rb, 0, none⟩)
        | 3 | 9 => .pointer (some ⟨T.rb, 4, none⟩)
        | 4 => .slice (some ⟨T.gb, 0, none⟩) (f + nl) T.E
        | 5 => .pointer (some ⟨T.fk x, 0, none⟩)
        | 7 => .slice (some ⟨T.gb, 0, none⟩) (f + nl + 1) T.E
        | _ => undef⟩ := ⟨_, rfl⟩
      have rB : R.B = 6 := by rw [hR]
      have rA : R.A = 7 := by rw [hR]
      have rS : R.S = 10 := by rw [hR]
      have rT : R.T = 92 := by rw [hR]
      have hxc : ∀ w1, Fr [T.gb] wc w1 → w1.cell? ⟨T.xb, 0, none⟩ = some (.pointer (some ⟨T.rb, 0, none⟩)) ∧ w1.cell? ⟨T.rb, 4, none⟩ = some (.slice (some ⟨T.gb, 0, none⟩) (f + nl) T.E) := fun w1 hf1 => ⟨hf1.cell (by simpa using hxg) x0, hf1.cell (by simpa using hrg) r4⟩
      have hsc : ∀ w1, Fr [T.gb] wc w1 → w1.cell? ⟨T.rb, 4, none⟩ = some (.slice (some ⟨T.gb, 0, none⟩) (f + nl) T.E) ∧ w1.frozen? ⟨T.rb, 4, none⟩ = false := fun w1 hf1 => ⟨hf1.cell (by simpa using hrg) r4, (hs3.rd.fr hf1 (by simpa using hrg)).frozen 4⟩
      have hroomA : f + nl + 1 ≤ T.E := by omega
      have hroomL : f + nl + 1 ≤ (splice row f (l.order.map (fun e => Value.pointer (some ⟨T.fk e, 0, none⟩)))).length := by rw [hl3]; omega
      have hgl : R.gb < R.wr.heap.size := by rw [hR]; exact hrow3.lt
      have hsl : R.sb < R.wr.heap.size := by rw [hR]; exact hs3.rd.lt
      refine wp_region_loose (J := R.J) (Sp := R.Sp) (by kernel_rfl) (by kernel_rfl) ?_ ?_ ?_
      · subst hR
        exact ⟨fun _ => (Fr.refl _ _).drew, fun _ _ => hrow3, fun h => (by cases h), fun h => (by cases h)⟩
      · intro L a w1 i o hI hi hL hw
        have hj := hI.j
        have same : L R.S = false → ∀ i, i ≠ 7 ∧ i ≠ 10 → R.J (lSet L i) w1 := fun hS i hi => hj.alloc hS (Fr.refl _ _) i (by rw [rA, rS]; exact hi)
        have nop : ∀ j u, L j = true → R.Sp j w1 u → R.Sp j w1 u := fun _ _ _ h => h
        rcases i with _ | _ | _ | _ | _ | _ | _ | _ | _ | _ | _ | i
        · obtain rfl := Option.some.inj hi
          have hS : L 10 = false := hI.before (i := 0) (j := 10) hL rfl (by kernel_rfl)
          have hS' : L R.S = false := by rw [hR]; exact hS
          have e0 := hI.outer 3 (by kernel_rfl) (.pointer (some ⟨T.xb, 0, none⟩)) rfl
          rw [Array.getD_eq_getD_getElem?] at e0
          have hc := (hxc w1 (by have := hj.a hS'; rw [hR] at this; exact this)).1
          exact lw (.pointer (some ⟨T.rb, 0, none⟩)) (by simp [go_sem, e0, hc]) ⟨_, rfl, same hS' 0 (by decide), nop, AR.sp_c (by rw [rB]; decide) (by subst hR; rfl)⟩
        · obtain rfl := Option.some.inj hi
          have hS : L 10 = false := hI.before (i := 1) (j := 10) hL rfl (by kernel_rfl)
          have hS' : L R.S = false := by rw [hR]; exact hS
          have e0 := hI.outer 3 (by kernel_rfl) (.pointer (some ⟨T.xb, 0, none⟩)) rfl
          rw [Array.getD_eq_getD_getElem?] at e0
          have hc := (hxc w1 (by have := hj.a hS'; rw [hR] at this; exact this)).1
          exact lw (.pointer (some ⟨T.rb, 0, none⟩)) (by simp [go_sem, e0, hc]) ⟨_, rfl, same hS' 1 (by decide), nop, AR.sp_c (by rw [rB]; decide) (by subst hR; rfl)⟩
        · obtain rfl := Option.some.inj hi
          have hS : L 10 = false := hI.before (i := 2) (j := 10) hL rfl (by kernel_rfl)
          have hS' : L R.S = false := by rw [hR]; exact hS
          have l0 := waits_of hw 1 (by kernel_rfl)
          have e0 : a.tmps.getD 63 undef = .pointer (some ⟨T.rb, 0, none⟩) := (AR.of_sp (hI.val 1 _ 63 l0 rfl rfl) (by rw [rB]; decide)).trans (by subst hR; rfl)
          rw [Array.getD_eq_getD_getElem?] at e0
          exact lw (.pointer (some ⟨T.rb, 0, none⟩)) (by simp [go_sem, e0]) ⟨_, rfl, same hS' 2 (by decide), nop, AR.sp_c (by rw [rB]; decide) (by subst hR; rfl)⟩
        · obtain rfl := Option.some.inj hi
          have hS : L 10 = false := hI.before (i := 3) (j := 10) hL rfl (by kernel_rfl)
          have hS' : L R.S = false := by rw [hR]; exact hS
          have l0 := waits_of hw 2 (by kernel_rfl)
          have e0 : a.tmps.getD 64 undef = .pointer (some ⟨T.rb, 0, none⟩) := (AR.of_sp (hI.val 2 _ 64 l0 rfl rfl) (by rw [rB]; decide)).trans (by subst hR; rfl)
          rw [Array.getD_eq_getD_getElem?] at e0
          exact lw (.pointer (some ⟨T.rb, 4, none⟩)) (by simp [go_sem, e0]) ⟨_, rfl, same hS' 3 (by decide), nop, AR.sp_c (by rw [rB]; decide) (by subst hR; rfl)⟩
        · obtain rfl := Option.some.inj hi
          have hS : L 10 = false := hI.before (i := 4) (j := 10) hL rfl (by kernel_rfl)
          have hS' : L R.S = false := by rw [hR]; exact hS
          have l0 := waits_of hw 3 (by kernel_rfl)
          have e0 : a.tmps.getD 65 undef = .pointer (some ⟨T.rb, 4, none⟩) := (AR.of_sp (hI.val 3 _ 65 l0 rfl rfl) (by rw [rB]; decide)).trans (by subst hR; rfl)
          rw [Array.getD_eq_getD_getElem?] at e0
          have hc := (hxc w1 (by have := hj.a hS'; rw [hR] at this; exact this)).2
          exact lw (.slice (some ⟨T.gb, 0, none⟩) (f + nl) T.E) (by simp [go_sem, e0, hc]) ⟨_, rfl, same hS' 4 (by decide), nop, AR.sp_c (by rw [rB]; decide) (by subst hR; rfl)⟩
        · obtain rfl := Option.some.inj hi
          have hS : L 10 = false := hI.before (i := 5) (j := 10) hL rfl (by kernel_rfl)
          have hS' : L R.S = false := by rw [hR]; exact hS
          have e0 := hI.outer 8 (by kernel_rfl) (.pointer (some ⟨T.fk x, 0, none⟩)) rfl
          rw [Array.getD_eq_getD_getElem?] at e0
          exact lw (.pointer (some ⟨T.fk x, 0, none⟩)) (by simp [go_sem, e0]) ⟨_, rfl, same hS' 5 (by decide), nop, AR.sp_c (by rw [rB]; decide) (by subst hR; rfl)⟩
        · obtain rfl := Option.some.inj hi
          have hS : L 10 = false := hI.before (j := 10) hL rfl (by kernel_rfl)
          have hS' : L R.S = false := by rw [hR]; exact hS
          have l0 := waits_of hw 5 (by kernel_rfl)
          have e0 : a.tmps.getD 67 undef = R.u := (AR.of_sp (hI.val 5 _ 67 l0 rfl rfl) (by rw [rB]; decide)).trans (by subst hR; rfl)
          have f := (Fr.refl [] w1).alloc (.cells #[R.u] 92)
          have hnew : Blk (w1.alloc (.cells #[R.u] 92)) w1.heap.size R.T [R.u] := by rw [rT]; exact Blk.new' _ _ _
          exact ow_build1 trivial 85 92 (.tmp 67) rfl R.u e0 (by subst hR; rfl) Tryd.underlying85 (by kernel_rfl) ⟨_, rfl, hj.alloc hS' f 6 (by rw [rA, rS]; decide), fun j u _ => AR.Sp_fr0 f j u, by unfold AR.Sp; rw [rB, if_pos rfl]; exact ⟨w1.heap.size, rfl, hnew, (hj.a hS').size⟩⟩
        · obtain rfl := Option.some.inj hi
          have hS : L 10 = false := hI.before (j := 10) hL rfl (by kernel_rfl)
          have hS' : L R.S = false := by rw [hR]; exact hS
          have l0 := waits_of hw 4 (by kernel_rfl)
          have l1 := waits_of hw 6 (by kernel_rfl)
          have e0 : a.tmps.getD 66 undef = .slice (some ⟨R.gb, 0, none⟩) R.n R.cap := (AR.of_sp (hI.val 4 _ 66 l0 rfl rfl) (by rw [rB]; decide)).trans (by subst hR; rfl)
          obtain ⟨g, e1, hg, hge⟩ := AR.of_spB (R := R) (by rw [rB]; exact hI.val 6 _ 68 l1 rfl rfl)
          rw [rT] at hg
          have hgb := hj.b (by rw [rA]; exact hL) hS'
          rw [rT] at hgb
          refine ow_app_room (.tmp 66) (.tmp 68) 85 rfl 92 Tryd.underlying85 (by kernel_rfl) R.gb R.n R.cap R.l e0 hgb g R.u e1 hg (by subst hR; rfl) (by subst hR; exact hroomA) (by subst hR; exact hroomL) ?_
          intro w' hf hb
          have hja := hj.app hS' (by rw [rA, rS]; decide) hf (by rw [rT]; exact hb)
          rw [rA] at hja
          exact ⟨_, rfl, hja, fun j u _ => AR.Sp_fr hf hgl j u, AR.sp_c (by rw [rB]; decide) (by subst hR; rfl)⟩
        · obtain rfl := Option.some.inj hi
          have hvia : L 9 = false := hI.before (j := 9) hL rfl (by kernel_rfl)
          have hS : L 10 = false := hI.before (i := 9) (j := 10) hvia rfl (by kernel_rfl)
          have hS' : L R.S = false := by rw [hR]; exact hS
          have l0 := waits_of hw 0 (by kernel_rfl)
          have e0 : a.tmps.getD 62 undef = .pointer (some ⟨T.rb, 0, none⟩) := (AR.of_sp (hI.val 0 _ 62 l0 rfl rfl) (by rw [rB]; decide)).trans (by subst hR; rfl)
          rw [Array.getD_eq_getD_getElem?] at e0
          exact lw (.pointer (some ⟨T.rb, 0, none⟩)) (by simp [go_sem, e0]) ⟨_, rfl, same hS' 8 (by decide), nop, AR.sp_c (by rw [rB]; decide) (by subst hR; rfl)⟩
        · obtain rfl := Option.some.inj hi
          have hS : L 10 = false := hI.before (i := 9) (j := 10) hL rfl (by kernel_rfl)
          have hS' : L R.S = false := by rw [hR]; exact hS
          have l0 := waits_of hw 8 (by kernel_rfl)
          have e0 : a.tmps.getD 70 undef = .pointer (some ⟨T.rb, 0, none⟩) := (AR.of_sp (hI.val 8 _ 70 l0 rfl rfl) (by rw [rB]; decide)).trans (by subst hR; rfl)
          rw [Array.getD_eq_getD_getElem?] at e0
          exact lw (.pointer (some ⟨T.rb, 4, none⟩)) (by simp [go_sem, e0]) ⟨_, rfl, same hS' 9 (by decide), nop, AR.sp_c (by rw [rB]; decide) (by subst hR; rfl)⟩
        · obtain rfl := Option.some.inj hi
          have hS' : L R.S = false := by rw [rS]; exact hL
          have l0 := waits_of hw 9 (by kernel_rfl)
          have l1 := waits_of hw 7 (by kernel_rfl)
          have e0 : a.tmps.getD 71 undef = .pointer (some ⟨T.rb, 4, none⟩) := (AR.of_sp (hI.val 9 _ 71 l0 rfl rfl) (by rw [rB]; decide)).trans (by subst hR; rfl)
          have e1 : a.tmps.getD 69 undef = .slice (some ⟨T.gb, 0, none⟩) (f + nl + 1) T.E := (AR.of_sp (hI.val 7 _ 69 l1 rfl rfl) (by rw [rB]; decide)).trans (by subst hR; rfl)
          rw [Array.getD_eq_getD_getElem?] at e0 e1
          have hSc := hsc w1 (by have := hj.a hS'; rw [hR] at this; exact this)
          have hJ := hj.store hS' (by rw [rA]; exact l1)
          have hSp : ∀ j u, L j = true → R.Sp j w1 u → R.Sp j (w1.setCell ⟨R.sb, R.k, none⟩ R.nv) u := fun j u _ => AR.Sp_fr ((Fr.refl [R.sb] w1).setCell (.inl (by simp)) _) hsl j u
          rw [rS] at hJ
          have hend : R.Sp 10 (w1.setCell ⟨R.sb, R.k, none⟩ R.nv) undef := AR.sp_c (by rw [rB]; decide) (by subst hR; rfl)
          subst hR
          exact lw_skip (by simp [go_sem, e0, e1, hSc.1, hSc.2]; rfl) ⟨_, rfl, hJ, hSp, hend⟩
        · cases hi
      · intro L a w1 hI hall
        have hd := hI.j.d (by rw [rS]; exact hall 10 (by decide))
        rw [hR] at hd
        obtain ⟨w3, g1, g2, g3⟩ := hd
        have hlit := hI.lit [62, 63, 64, 65, 66, 67, 68, 69, 70, 71] (by kernel_rfl)
        rw [hlit]
        simp only [List.foldl, List.setIfInBounds_toArray, List.set_cons_succ, List.set_cons_zero]
        rename (∀ (a : Act) (w : World), Met _ a w → _) => hK
        refine hK _ _ ?_
        go_meet
        case rel => exact ⟨w3, g1, g2, g3⟩
    case rest =>
    clear x0 r4 rz4 b2 hl3 hrow3
    obtain ⟨w3, hfA, hrA, rfl⟩ := hcut
    have hs4 := hs3.app hfA hrA (by rw [length_splice _ _ _ (by simp [hs3.len]; omega)]; exact hs3.len)
    have hf4 : Fr [T.rb, T.gb] wc (w3.setCell ⟨T.rb, 4, none⟩ (.slice (some ⟨T.gb, 0, none⟩) (f + nl + 1) T.E)) := (hfA.mono (by simp)).setCell (.inl (by simp)) _
    generalize w3.setCell ⟨T.rb, 4, none⟩ (.slice (some ⟨T.gb, 0, none⟩) (f + nl + 1) T.E) = w4 at *
    have f2 : w4.cell? ⟨T.fk x, 2, none⟩ = some (pvL x) := (hs4.file x he).cell 2
    have fz := (hs4.file x he).frozen 2
    have f7 : w4.cell? ⟨T.fk x, 7, none⟩ = some (.pointer (some ⟨T.dk x, 0, none⟩)) := (hs4.file x he).cell 7
    have d37 := ((hs4.ent x he).cell 37).trans (dir_child _)
    have hfd : T.fk x ≠ T.dk x := (hs4.file x he).ne (hs4.ent x he) (by decide)
    go_upto_if 83 with (fail)
    have hs5 := hs4.setPath x he (.slice (some ⟨pb, 0, none⟩) p.length pcap)
    have hf5 : Fr [T.fk x] w4 (w4.setCell ⟨T.fk x, 2, none⟩ (.slice (some ⟨pb, 0, none⟩) p.length pcap)) := (Fr.refl _ _).setCell (.inl (by simp)) _
    clear f2 fz f7 d37
    generalize w4.setCell ⟨T.fk x, 2, none⟩ (.slice (some ⟨pb, 0, none⟩) p.length pcap) = w5 at *
    have hp5 : Blk w5 pb 9 (p.map Value.string) := (hp3.fr hf4 (by simp only [List.mem_cons, List.mem_nil_iff, or_false]; rintro (h | h); exact hp3.ne hs3.rd (by decide) h; exact hp3.ne hs3.row (by decide) h)).fr hf5 (by simp only [List.mem_singleton]; exact (hp3.fr hf4 (by simp only [List.mem_cons, List.mem_nil_iff, or_false]; rintro (h | h); exact hp3.ne hs3.rd (by decide) h; exact hp3.ne hs3.row (by decide) h)).ne (hs4.file x he) (by decide))
    have fr0 : w5.cell? ⟨T.fb, 0, none⟩ = some (.func (.func 63) #[] T.caps) := hs5.rec_.cell 0
    have f7 : w5.cell? ⟨T.fk x, 7, none⟩ = some (.pointer (some ⟨T.dk x, 0, none⟩)) := (hs5.file x he).cell 7
    have d37 := ((hs5.ent x he).cell 37).trans (dir_child _)
    generalize hRow : splice (splice row f (l.order.map (fun e => .pointer (some ⟨T.fk e, 0, none⟩)))) (f + nl) [.pointer (some ⟨T.fk x, 0, none⟩)] = row5 at *
    generalize hPv : (fun a => if a = x then Value.slice (some ⟨pb, 0, none⟩) p.length pcap else pvL a) = pv5 at *
    go_cut [9] from 72 to 123 (fun s9 w6 => TPost T c (k + 1 + nl) (f + nl + 1) row5 pv5 (if x = 0 then p else p ++ [(T.P x).name]) w5 w6)
    case first =>
      cases c with
      | nil =>
        have hq : (((fld (T.G x) 76 4 : Nat) : Int) != 4294967295) = false := by rw [show fld (T.G x) 76 4 = 4294967295 from hfc]; rfl
        go_wp2_with fail
        go_meet
        case rel => exact TPost.nil hs5 (Fr.refl _ _)
      | node e' l' c' r' =>
        have hlt : fld (T.G x) 76 4 < T.E := by obtain ⟨h1, h2, _⟩ := hfc; rw [h1]; exact h2
        have hq : (((fld (T.G x) 76 4 : Nat) : Int) != 4294967295) = true := by simp; omega
        simp only [Tr.order, List.length_append, List.length_cons] at hk hf hpl
        by_cases hx0 : x = 0
        · subst hx0
          go_upto_region 16 with (fail)
          go_still_tail 10, (by kernel_rfl)
          change wpList _ _ _ _ _ w5.drew
          go_wp2_with fail
          refine (ihc (fld (T.G 0) 76 4) (k + 1 + nl) (f + nl + 1) row5 pv5 _ p w5.drew (by simp) hfc hndc (hs5.fr0 ((Fr.refl [] w5).drew)) ⟨pb, pcap, rfl, hpb, hp5.drew⟩ (by simp only [Tr.order, List.length_append, List.length_cons]; omega) (by simp only [Tr.order, List.length_append, List.length_cons]; omega) hE (by simp only [Tr.order, List.length_append, List.length_cons]; omega)).mono ?_
          rintro e w3 ⟨rfl, hpost⟩
          go_wp2_with fail
          go_meet
          case rel => simpa using hpost.drew
        · have hx0I : decide ((0 : Int) < (x : Int)) = true := by simp; omega
          have hmk := make_path p.length (by omega)
          have nm0 : w5.cell? ⟨T.fk x, 0, none⟩ = some (.string (T.P x).name) := (hs5.file x he).cell 0
          obtain ⟨nb, hnb⟩ : ∃ nb, w5.heap.size = nb := ⟨_, rfl⟩
          have hB0 := Blk.new w5 9 (tab (p.length + 1) (fun _ => Value.string { data := #[] }))
          rw [hnb] at hB0
          have hxnb : T.fk x < nb := by rw [← hnb]; exact (hs5.file x he).lt
          have hpnb : pb < nb := by rw [← hnb]; exact hp5.lt
          go_wp2_with (with_reducible refine wpList_copy_blk rfl (.tmp 90) (.tmp 91) 35 35 rfl 9 Tryd.underlying35 (by kernel_rfl) _ _ _ _ _ _ rfl rfl nb 0 (tab (p.length + 1) (fun _ => Value.string { data := #[] })) 9 ?_ p.length (fun i => (Option.map Value.string p[i]?).getD .nilIface) ?_ ?_ ?_ ?_ ?_)
          · exact hB0
          · intro _ j hj
            rw [hp5.cell]
            simp [hj]
          · simp
          · intro j hj
            simp [hj, Value.oneCell']
          · intro w8 hf8 hb8
            have hl8 : (splice (tab (p.length + 1) (fun _ => Value.string { data := #[] })) 0 (tab p.length (fun i => (Option.map Value.string p[i]?).getD .nilIface))).length = p.length + 1 := by rw [length_splice _ _ _ (by simp)]; simp
            obtain ⟨v8, hv8⟩ := hb8.some p.length (by rw [hl8]; omega)
            have hz8 := hb8.frozen p.length
            have hf58 : Fr [] w5 w8 := ((Fr.refl [] w5).alloc _).trans hf8 (by simp; omega)
            have nm8 : w8.cell? ⟨T.fk x, 0, none⟩ = some (.string (T.P x).name) := hf58.cell0 nm0
            have hnew : (splice (tab (p.length + 1) (fun _ => Value.string { data := #[] })) 0 (tab p.length (fun i => (Option.map Value.string p[i]?).getD .nilIface))).set p.length (.string (T.P x).name) = (p ++ [(T.P x).name]).map Value.string := by
              apply List.ext_getElem?
              intro i
              by_cases hi : i < p.length
              · rw [List.getElem?_set_ne (by omega), splice_get _ _ _ (by simp), if_pos (by simp; omega), Nat.sub_zero, tab_get _ _ _ hi, List.map_append, List.getElem?_append_left (by simpa using hi)]
                simp [hi]
              · by_cases hi2 : i = p.length
                · subst hi2
                  rw [List.getElem?_set_self (by rw [hl8]; omega), List.map_append, List.getElem?_append_right (by simp)]
                  simp
                · rw [List.getElem?_eq_none (by rw [List.length_set, hl8]; omega), List.getElem?_eq_none (by simp; omega)]
            have hb9 := hb8.set p.length (.string (T.P x).name)
            rw [hnew] at hb9
            have hf59 : Fr [] w5 (w8.setCell ⟨nb, p.length, none⟩ (.string (T.P x).name)) := hf58.setCell (.inr (by simp; omega)) _
            clear hb8 hf8 hB0 hnew hl8
            go_upto_region 15 with (fail)
            generalize w8.setCell ⟨nb, p.length, none⟩ (.string (T.P x).name) = w9 at *
            have g0 := hf59.cell0 fr0
            have g7 := hf59.cell0 f7
            have g37 := hf59.cell0 d37
            go_still_tail 10, (by kernel_rfl)
            change wpList _ _ _ _ _ w9.drew
            go_wp2_with fail
            refine (ihc (fld (T.G x) 76 4) (k + 1 + nl) (f + nl + 1) row5 pv5 _ (p ++ [(T.P x).name]) w9.drew (by simp) hfc hndc (hs5.fr0 hf59.drew) ⟨nb, p.length + 1, by simp, by omega, hb9.drew⟩ (by simp only [Tr.order, List.length_append, List.length_cons]; omega) (by simp only [Tr.order, List.length_append, List.length_cons]; omega) hE (by simp only [Tr.order, List.length_append, List.length_cons, List.length_nil]; omega)).mono ?_
            rintro e w3 ⟨rfl, hpost⟩
            go_wp2_with fail
            go_meet
            case rel =>
              rw [if_neg hx0]
              exact ⟨(hf59.drew.mono (by simp)).trans_same hpost.1, hpost.2⟩
    case rest =>
    clear fr0 f7 d37
    obtain ⟨hfC, pvC, hsC, hpvC, hpaC⟩ := hcut
    have hpC : Blk wc pb 9 (p.map Value.string) := hp5.fr hfC (hs5.no9 hfc.lt _ _ hp5)
    have fr0 : wc.cell? ⟨T.fb, 0, none⟩ = some (.func (.func 63) #[] T.caps) := hsC.rec_.cell 0
    have f7 : wc.cell? ⟨T.fk x, 7, none⟩ = some (.pointer (some ⟨T.dk x, 0, none⟩)) := (hsC.file x he).cell 7
    have d36 := ((hsC.ent x he).cell 36).trans (dir_right _)
    have hjoin : ∀ wR, TPost T r (k + 1 + nl + c.order.length) (f + nl + 1 + c.order.length) (splice row5 (f + nl + 1) (c.order.map (fun e => .pointer (some ⟨T.fk e, 0, none⟩)))) pvC p wc wR → TPost T (.node x l c r) k f row pv p w wR := by
      intro wR hR
      subst hol
      exact TPost.join hst he hfl.lt hfc.lt hfr.lt hnd ⟨pb, pcap, rfl, hpb, hpB0⟩ (by omega) hf13 hs3 hpvL hpaL hf4 hf5 hPv.symm rfl (by rw [hRow]) hfC hsC hpvC hpaC hR
    have HJ := Lib.hid hjoin
    clear hjoin
    cases r with
    | nil =>
      have hq : (((fld (T.G x) 72 4 : Nat) : Int) != 4294967295) = false := by rw [show fld (T.G x) 72 4 = 4294967295 from hfr]; rfl
      go_wp2_with fail
      go_end0
      exact ⟨rfl, HJ.out _ (TPost.nil hsC (Fr.refl _ _))⟩
    | node e' l' c' r' =>
      have hlt : fld (T.G x) 72 4 < T.E := by obtain ⟨h1, h2, _⟩ := hfr; rw [h1]; exact h2
      have hq : (((fld (T.G x) 72 4 : Nat) : Int) != 4294967295) = true := by simp; omega
      go_upto_region 18 with (fail)
      go_still_tail 10, (by kernel_rfl)
      change wpList _ _ _ _ _ wc.drew
      go_wp2_with fail
      refine (ihr (fld (T.G x) 72 4) (k + 1 + nl + c.order.length) (f + nl + 1 + c.order.length) _ pvC _ p wc.drew (by simp) hfr hndr (hsC.fr0 ((Fr.refl [] wc).drew)) ⟨pb, pcap, rfl, hpb, hpC.drew⟩ (by omega) (by omega) hE (by omega)).mono ?_
      rintro e w3 ⟨rfl, hpost⟩
      go_wp2_with fail
      go_end0
      exact ⟨rfl, HJ.out _ hpost.drew⟩
end Go.Proofs.YtokpomdfgbbhlaaDoor

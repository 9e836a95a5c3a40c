/- FnMixed: a stream is read, sought and written by steps, what is told is what stands there then, the file behind all is that of the stream with these bytes (part 6 of 18). No condition but the statement's own. -/
import Derived.Deep.CutBlock
import Derived.StillTailTactics
import Derived.Deep.RegionLaw
import Derived.Test.YtokpomdfgbbhlaaDoorMxe
set_option linter.all false
set_option linter.unusedVariables false
set_option linter.unusedSimpArgs false
set_option linter.unnecessarySimpa false
/- The contract of (*Reader).setMiniStream. -/
namespace Go.Proofs.YtokpomdfgbbhlaaDoor
open Go Go.RowKit Go.Maps

theorem madeCells_tab (z : Value) (n : Nat) (h : z.cells = #[z]) : madeCells z.cells (n * 1) = (tab n (fun _ => z)).toArray := by
  apply Array.ext'
  rw [h]
  simp [madeCells, tab, List.map_const', Nat.mod_one]

/-- make([]T, l, c) of one-celled elements. -/
theorem make_tab {t e : TypeId} {z : Value} {bytes : Nat} (ht : Tryd.prog.underlying t = some (.slice e)) (hi : (Tryd.prog.info? e).map (fun i => (i.zero, i.size, i.bytes)) = some (some z, 1, bytes)) (hz : z.cells = #[z])
    (l c : Nat) (hlc : l ≤ c) (hb : bytes * c ≤ 281474976710656) (h63 : c ≤ 9223372036854775807) (w : World) :
    (Instr.makeSlice t (.int .i64 l) (.int .i64 c)).run Tryd.prog w = .ok (.slice (some ⟨w.heap.size, 0, none⟩) l c) (w.alloc (.cells (tab c (fun _ => z)).toArray e)) := by
  obtain ⟨i, h1, h2, h3, h4⟩ := info_parts hi
  have := run_make (P := Tryd.prog) w t e i z ht h1 h2 .i64 .i64 l c (by omega) (by omega) (by rw [h4]; have h : ((bytes * c : Nat) : Int) ≤ 281474976710656 := by omega
                                                                                               rwa [Int.natCast_mul] at h) (by omega)
  rw [this, h3, Int.toNat_natCast, Int.toNat_natCast, madeCells_tab z c hz]

theorem info63 : (Tryd.prog.info? 63).map (fun i => (i.zero, i.size, i.bytes)) = some (some (.int .u32 0), 1, 4) := by kernel_rfl
theorem make_u32 (c : Nat) (h : c ≤ 1000000) (w : World) : (Instr.makeSlice 22 (.int .i64 c) (.int .i64 c)).run Tryd.prog w = .ok (.slice (some ⟨w.heap.size, 0, none⟩) c c) (w.alloc (.cells (tab c (fun _ => .int .u32 0)).toArray 63)) :=
  make_tab Tryd.underlying22 info63 rfl c c (Nat.le_refl _) (by omega) (by omega) w
theorem make_u32_0 (c : Nat) (h : c ≤ 1000000) (w : World) : (Instr.makeSlice 22 (.int .i64 0) (.int .i64 c)).run Tryd.prog w = .ok (.slice (some ⟨w.heap.size, 0, none⟩) 0 c) (w.alloc (.cells (tab c (fun _ => .int .u32 0)).toArray 63)) :=
  make_tab Tryd.underlying22 info63 rfl 0 c (by omega) (by omega) (by omega) w

/-- append where there is room, as a step of a region that draws its order. -/
theorem step_append_room_blk {P : Program} {ops : Array Oper} {o : Oper} {a : Act} {w : World} {K : Act → World → Prop} {Q : Exit → Act → World → Prop} {E : Prop}
    (hg : o.guard = none) (s x : Operand) (t : TypeId) (hop : o.op = Op.call { callee := Callee.builtin Builtin.append, args := #[s, x], argTypes := #[t, t] })
    (e : TypeId) (h1 : P.underlying t = some (.slice e)) (size : Nat) (h2 : (P.info? e).map (·.size) = some size)
    (g n cap : Nat) (l : List Value) (hs : a.eval s = .slice (some ⟨g, 0, none⟩) n cap) (hb : Blk w g e l) (ad : Addr) (m c : Nat) (news : List Value) (hx : a.eval x = .slice (some ad) m c) (hn : news.length = m * size)
    (hc : ∀ j u, news[j]? = some u → w.cell? (ad.add j) = some u) (h1c : ∀ u ∈ news, u.oneCell' = true) (hroom : n + m ≤ cap) (hfit : n * size + news.length ≤ l.length)
    (hK : ∀ w', Fr [g] w w' → Blk w' g e (splice l (n * size) news) → K (a.put o.dst (.slice (some ⟨g, 0, none⟩) (n + m) cap)) w') :
    if Region.wanted o (yielded ops a.tmps) = true then Oper.wp P o a w K Q else E := by
  have hw : Region.wanted o (yielded ops a.tmps) = true := by simp [Region.wanted, hg]
  rw [if_pos hw]
  cases hq : P.info? e with
  | none => simp [hq] at h2
  | some i =>
    have hsz : i.size = size := by simpa [hq] using h2
    subst hsz
    have hrun := run_append_room (P := P) w t o.type e i h1 hq g n cap l.toArray hb ad m c news hn hc h1c hroom (by simpa using hfit)
    have h3 := hK (w.setRow g (l.toArray.toList.take (n * i.size) ++ news ++ l.toArray.toList.drop (n * i.size + news.length)).toArray)
      ⟨rfl, rfl, rfl, by simp [World.setRow], fun k _ hk => setRow_other w g k _ (by simpa using hk)⟩
      (by
        have := setRow_heap w g _ (l.toArray.toList.take (n * i.size) ++ news ++ l.toArray.toList.drop (n * i.size + news.length)).toArray e _ hb
        simpa [Blk, splice] using this)
    unfold Oper.wp
    simp [execOp, hop, resolve, invoke, builtin, hs, hx, hrun, Result.andThen]
    simp only [Oper.upon]
    simpa using h3

set_option maxRecDepth 100000 in
set_option maxHeartbeats 1000000 in
/-- Nothing is done where there is no ministream. -/
theorem setMini_none (rb hb fb ss g f0 d0 E cap : Nat) (F G : Nat → UInt8) (buf difats mf ms file wa : Value) (entry : Int) (sb : Nat) (w : World)
    (hrb : Blk w rb 91 (rdCells ss buf (.pointer (some ⟨hb, 0, none⟩)) file (.slice (some ⟨g, 0, none⟩) E cap) entry sb wa)) (hE : 1 ≤ E)
    (hhb : Blk w hb 142 (hdCells fb difats mf ms)) (hfb : Blk w fb 147 (hdrN F 109)) (hg : w.cell? ⟨g, 0, none⟩ = some (.pointer (some ⟨f0, 0, none⟩)))
    (h7 : w.cell? ⟨f0, 7, none⟩ = some (.pointer (some ⟨d0, 0, none⟩))) (hd : Blk w d0 119 (tab 69 (dirL12 G))) (hs : fld G 116 4 = 4294967294) :
    Calls Tryd.prog 52 #[.pointer (some ⟨rb, 0, none⟩)] w fun e w' => e = .returned .nilIface ∧ w = w' := by
  have r5 : w.cell? ⟨rb, 5, none⟩ = some (.slice (some ⟨g, 0, none⟩) E cap) := hrb.cell 5
  have d60 := (hd.cell 60).trans (dir_start G)
  rw [hs] at d60
  clear hs
  go_enter Tryd.func52, Tryd.ntmps52
  go_wp2_with fail
  go_ret
  exact ⟨rfl, rfl⟩

set_option maxRecDepth 100000 in
set_option maxHeartbeats 1000000 in
theorem setMini_some (rb hb fb sb bb n ncap ss g f0 d0 E cap c m : Nat) (F G : Nat → UInt8) (cf cs : Nat → Nat) (buf file wa : Value) (entry : Int) (w : World) (hS : Src w sb bb n ncap F)
    (hss : ss = 512 ∨ ss = 4096)
    (hrb : Blk w rb 91 (rdCells ss buf (.pointer (some ⟨hb, 0, none⟩)) file (.slice (some ⟨g, 0, none⟩) E cap) entry sb wa)) (hE : 1 ≤ E)
    (hhb : Blk w hb 142 (hdCells fb (.slice (some ⟨fb, 45, none⟩) 109 109) (.slice none 0 0) (.slice none 0 0))) (hfb : Blk w fb 147 (hdrN F 109)) (hg : w.cell? ⟨g, 0, none⟩ = some (.pointer (some ⟨f0, 0, none⟩)))
    (h7 : w.cell? ⟨f0, 7, none⟩ = some (.pointer (some ⟨d0, 0, none⟩))) (hd : Blk w d0 119 (tab 69 (dirL12 G))) (hgh : g ≠ hb) (hfh : f0 ≠ hb) (hsh : sb ≠ hb) (hbh : bb ≠ hb)
    (hch : Chain F n ss (fld G 116 4) m cs) (hm : 1 ≤ m) (hc1 : 1 ≤ c) (hc : fld F 64 4 = c) (hcs : ss / 4 * c ≤ 64000) (hmc : m ≤ ss / 4 * c) (hcf0 : fld F 60 4 = cf 0) (hcfl : cf 0 ≤ 65535)
    (hcf : ∀ j, j + 1 < c → FatAt F n ss (cf j) ∧ fatNext F ss (cf j) = cf (j + 1)) :
    Calls Tryd.prog 52 #[.pointer (some ⟨rb, 0, none⟩)] w fun e w' => e = .returned .nilIface ∧ Fr [hb] w w' ∧ ∃ mf ms k,
      Blk w' hb 142 (hdCells fb (.slice (some ⟨fb, 45, none⟩) 109 109) (.slice (some ⟨mf, 0, none⟩) c c) (.slice (some ⟨ms, 0, none⟩) m k)) ∧ w.heap.size ≤ mf ∧ w.heap.size ≤ ms ∧ m ≤ k ∧
      (∀ i, i < c → w'.cell? ⟨mf, i, none⟩ = some (.int .u32 (cf i))) ∧ (∀ i, i < m → w'.cell? ⟨ms, i, none⟩ = some (.int .u32 (cs i))) := by
  have r3 : w.cell? ⟨rb, 3, none⟩ = some (.pointer (some ⟨hb, 0, none⟩)) := hrb.cell 3
  have r5 : w.cell? ⟨rb, 5, none⟩ = some (.slice (some ⟨g, 0, none⟩) E cap) := hrb.cell 5
  have d0' : w.cell? ⟨hb, 0, none⟩ = some (.pointer (some ⟨fb, 0, none⟩)) := hhb.cell 0
  have d60 := (hd.cell 60).trans (dir_start G)
  have f41 := (hfb.cell 41).trans (hdr_mf F)
  have f42 := (hfb.cell 42).trans (hdr_nmf F)
  have hst : fld G 116 4 ≤ 65535 := by rw [hch.first]; exact (hch.low 0 (by omega)).1
  have hc64 : c ≤ 64000 := by have := Nat.mul_le_mul (show 1 ≤ ss / 4 by omega) (Nat.le_refl c); omega
  have t1 : (((fld G 116 4 : Nat) : Int) == 4294967294) = false := by simp; omega
  have t2 : (((cf 0 : Nat) : Int) == 4294967294) = false := by simp; omega
  have t3 : ((c : Int) == 0) = false := by simp; omega
  have t4 : decide ((64000 : Int) < c) = false := by simp; omega
  have tw : wrap64 (c : Int) = c := by unfold wrap64; omega
  rw [hc] at f42
  rw [hcf0] at f41
  clear hc hcf0
  go_enter Tryd.func52, Tryd.ntmps52
  go_upto_region 6 with (fail)
  go_cut [] from 85 to 92 (fun w1 => Fr [hb] w w1 ∧ Blk w1 hb 142 (hdCells fb (.slice (some ⟨fb, 45, none⟩) 109 109) (.slice (some ⟨w.heap.size, 0, none⟩) c c) (.slice none 0 0)) ∧ Blk w1 w.heap.size 63 (tab c (fun _ => .int .u32 0)))
  case first =>
    have hmk := make_u32 c (by omega)
    have h2 : w.cell? ⟨hb, 2, none⟩ = some (.slice none 0 0) := hhb.cell 2
    have z2 := hhb.frozen 2
    have a3 : (w.alloc (Obj.cells (tab c (fun _ => Value.int .u32 0)).toArray 63)).cell? ⟨rb, 3, none⟩ = some (.pointer (some ⟨hb, 0, none⟩)) := (hrb.alloc _).cell 3
    have a2 : (w.alloc (Obj.cells (tab c (fun _ => Value.int .u32 0)).toArray 63)).cell? ⟨hb, 2, none⟩ = some (.slice none 0 0) := (hhb.alloc _).cell 2
    have az2 := (hhb.alloc (Obj.cells (tab c (fun _ => Value.int .u32 0)).toArray 63)).frozen 2
    have hlh := hhb.lt
    go_region
    all_goals
      go_wp2_with fail
      go_meet
      case rel =>
        refine ⟨(((Fr.refl [hb] _).setCell (p := ⟨hb, 2, none⟩) (.inl (by simp)) _).alloc _).drew, ((hhb.set 2 _).alloc _).drew, ?_⟩
        have := Blk.new (w.setCell ⟨hb, 2, none⟩ (.slice (some ⟨w.heap.size, 0, none⟩) c c)) 63 (tab c (fun _ => Value.int .u32 0))
        rw [show (w.setCell ⟨hb, 2, none⟩ (.slice (some ⟨w.heap.size, 0, none⟩) c c)).heap.size = w.heap.size by simp] at this
        exact this
  case rest =>
  obtain ⟨hf1, hhb1, hmb1⟩ := hcut
  have hlh := hhb.lt
  have hlr := hrb.lt
  generalize hMB : w.heap.size = mb at *
  have hrh : rb ≠ hb := fun h => by subst h; exact absurd (hrb.unique hhb).1 (by decide)
  have hfbh : fb ≠ hb := fun h => by subst h; exact absurd (hfb.unique hhb).1 (by decide)
  have hdh : d0 ≠ hb := fun h => by subst h; exact absurd (hd.unique hhb).1 (by decide)
  go_upto_region 7 with (fail)
  go_cut [] from 93 to 110 (fun w1 => Fr [hb] w w1 ∧ Blk w1 hb 142 (hdCells fb (.slice (some ⟨fb, 45, none⟩) 109 109) (.slice (some ⟨mb, 0, none⟩) c c) (.slice none 0 0)) ∧ Blk w1 mb 63 (tab c (fun j => .int .u32 (if j < 1 then cf j else 0 : Nat))))
  case first =>
    have a3 : wc.cell? ⟨rb, 3, none⟩ = some (.pointer (some ⟨hb, 0, none⟩)) := hf1.cell (by simpa using hrh) r3
    have a2 : wc.cell? ⟨hb, 2, none⟩ = some (.slice (some ⟨mb, 0, none⟩) c c) := hhb1.cell 2
    have a0 : wc.cell? ⟨hb, 0, none⟩ = some (.pointer (some ⟨fb, 0, none⟩)) := hhb1.cell 0
    have a41 := hf1.cell (by simpa using hfbh) f41
    have m0 : wc.cell? ⟨mb, 0, none⟩ = some (.int .u32 0) := (hmb1.cell 0).trans (tab_get _ _ _ (by omega))
    have mz := hmb1.frozen 0
    have c0 : (0 : Int) < c := by omega
    go_region
    all_goals
      go_wp2_with fail
      go_meet
      case rel =>
        refine ⟨hf1.drew.setCell (.inr (by simp; omega)) _, hhb1.drew.setOther (by simp; omega) _, ?_⟩
        have := hmb1.drew.set 0 (.int .u32 (cf 0 : Nat))
        rw [tab_set] at this
        rw [tab_congr (g' := fun j => .int .u32 (if j < 1 then cf j else 0 : Nat)) ?_] at this
        · exact this
        · intro i hi
          by_cases h : i = 0
          · subst h; simp
          · rw [if_neg h, if_neg (by omega)]; rfl
  case rest =>
  clear hf1 hhb1 hmb1
  obtain ⟨hf1, hhb1, hmb1⟩ := hcut
  have HSs := Lib.hid hss
  have HCH := Lib.hid hch
  clear hss hch

  go_upto_block 0 with fail
  go_cut [2, 4, 5, 6] from 111 to 161 (fun s2 _ _ _ w1 => s2 = .nilIface ∧ Fr [hb] w w1 ∧ Blk w1 hb 142 (hdCells fb (.slice (some ⟨fb, 45, none⟩) 109 109) (.slice (some ⟨mb, 0, none⟩) c c) (.slice none 0 0)) ∧ Blk w1 mb 63 (tab c (fun j => .int .u32 (cf j : Nat))))
  case first =>
    go_wp2_with fail
    go_loopw [2, 4] (fun s2 s4 wr => ∃ k : Nat, 1 ≤ k ∧ k ≤ c ∧ s2 = .nilIface ∧ s4 = .int .i64 k ∧ Fr [hb] w wr ∧ Blk wr hb 142 (hdCells fb (.slice (some ⟨fb, 45, none⟩) 109 109) (.slice (some ⟨mb, 0, none⟩) c c) (.slice none 0 0)) ∧
      Blk wr mb 63 (tab c (fun j => .int .u32 (if j < k then cf j else 0 : Nat)))) (fun _ s4 _ => c - (intOf s4).toNat)
    case atStart => exact ⟨1, by omega, by omega, rfl, rfl, hf1, hhb1, hmb1⟩
    case round =>
      clear hf1 hhb1 hmb1
      obtain ⟨k, hk1, hk2, rfl, rfl, hf1, hhb1, hmb1⟩ := hrel
      by_cases hlt : k < c
      · have hltI : (k : Int) < c := by omega
        have a3 : wr.cell? ⟨rb, 3, none⟩ = some (.pointer (some ⟨hb, 0, none⟩)) := hf1.cell (by simpa using hrh) r3
        have a2 : wr.cell? ⟨hb, 2, none⟩ = some (.slice (some ⟨mb, 0, none⟩) c c) := hhb1.cell 2
        have mk : wr.cell? ⟨mb, k - 1, none⟩ = some (.int .u32 (cf (k - 1) : Nat)) := by
          rw [hmb1.cell, tab_get _ _ _ (by omega), if_pos (by omega)]
        obtain ⟨hat, hnx⟩ := hcf (k - 1) (by omega)
        have hfk : (((k : Int) - 1).toNat) = k - 1 := by omega
        go_wp2_with fail
        refine (findNext_at rb hb fb sb bb n ncap ss (cf (k - 1)) F _ _ _ _ _ _ _ _ (hS.fr hf1 (by simpa using hsh) (by simpa using hbh)) (hrb.fr hf1 (by simpa using hrh)) hhb1 (hfb.fr hf1 (by simpa using hfbh)) HSs.out hat).mono ?_
        rintro e w6 ⟨rfl, hf6⟩
        rw [hnx, show k - 1 + 1 = k by omega]
        have a3' := hf6.cell0 a3
        have a2' := hf6.cell0 a2
        have hhb2 := hhb1.fr0 hf6
        have hmb2 := hmb1.fr0 hf6
        have mk' : w6.cell? ⟨mb, k, none⟩ = some (.int .u32 0) := by
          rw [hmb2.cell, tab_get _ _ _ hlt, if_neg (by omega)]; rfl
        have mz := hmb2.frozen k
        have hf2 := hf1.trans0 hf6
        go_wp2_with fail
        go_roundw
        case rel =>
          refine ⟨k + 1, by omega, by omega, rfl, by go_num, hf2.setCell (.inr (by simp; omega)) _, hhb2.setOther (by simp; omega) _, ?_⟩
          have := hmb2.set k (.int .u32 (cf k : Nat))
          rw [tab_set] at this
          rw [tab_congr (g' := fun j => .int .u32 (if j < k + 1 then cf j else 0 : Nat)) ?_] at this
          · exact this
          · intro i hi
            by_cases h : i = k
            · subst h; simp
            · rw [if_neg h]
              by_cases h2 : i < k
              · rw [if_pos h2, if_pos (by omega)]
              · rw [if_neg h2, if_neg (by omega)]
        case measure => simp [intOf]; omega
      · obtain rfl : k = c := by omega
        go_wp2_with fail
        go_meet
        case rel =>
          refine ⟨rfl, hf1, hhb1, ?_⟩
          rw [tab_congr (g' := fun j => .int .u32 (cf j : Nat)) (fun i hi => by rw [if_pos hi])] at hmb1
          exact hmb1
  case rest =>
  clear hf1 hhb1 hmb1
  obtain ⟨rfl, hf1, hhb1, hmb1⟩ := hcut
  generalize hC : ss / 4 * c = C at *
  have hmk := make_u32_0 C (by omega)
  have hCI : ((ss : Int) / 4) * c = C := by rw [← hC]; push_cast; rfl
  have a3 : wc.cell? ⟨rb, 3, none⟩ = some (.pointer (some ⟨hb, 0, none⟩)) := hf1.cell (by simpa using hrh) r3
  have a1 : wc.cell? ⟨rb, 1, none⟩ = some (.int .u32 ss) := hf1.cell (by simpa using hrh) (hrb.cell 1)
  have a0 : wc.cell? ⟨hb, 0, none⟩ = some (.pointer (some ⟨fb, 0, none⟩)) := hhb1.cell 0
  have a42 := hf1.cell (by simpa using hfbh) f42
  have hw1 : ((ss : Int) / 4) % 4294967296 = (ss : Int) / 4 := by have := HSs.out; omega
  have t5 : decide ((64000 : Int) < C) = false := by simp; omega
  have hw2 : (C : Int) % 4294967296 = C := by omega
  go_upto_region 15 with (fail)
  go_cut [3] from 162 to 178 (fun s3 w1 => s3 = .int .i64 C ∧ Fr [] wc w1)
  case first =>
    go_quiet (fail)
    go_wp2_with fail
    go_meet
    case rel => exact ⟨by go_num, (Fr.refl _ _).drewN _⟩
  case rest =>
  have hf1c := hf1
  have hhb1c := hhb1
  have hmb1c := hmb1
  clear hf1 hhb1 hmb1
  obtain ⟨rfl, hfc⟩ := hcut
  have hf1 := hf1c.trans0 hfc
  have hhb1 := hhb1c.fr0 hfc
  have hmb1 := hmb1c.fr0 hfc
  clear hf1c hhb1c hmb1c a3 a1 a0 a42
  obtain ⟨msb, hMS⟩ : ∃ x, wc.heap.size = x := ⟨_, rfl⟩
  have hsz : w.heap.size ≤ msb := by rw [← hMS]; exact hf1.size
  have hms1 : mb < msb := by rw [← hMS]; exact hmb1.lt
  go_upto_region 18 with (fail)
  go_cut [] from 181 to 188 (fun w1 => Fr [hb] w w1 ∧ Blk w1 hb 142 (hdCells fb (.slice (some ⟨fb, 45, none⟩) 109 109) (.slice (some ⟨mb, 0, none⟩) c c) (.slice (some ⟨msb, 0, none⟩) 0 C)) ∧ Blk w1 mb 63 (tab c (fun j => .int .u32 (cf j : Nat))) ∧
    Blk w1 msb 63 (tab C (fun _ => .int .u32 0)) ∧ msb < w1.heap.size)
  case first =>
    have h2 : wc.cell? ⟨hb, 3, none⟩ = some (.slice none 0 0) := hhb1.cell 3
    have z2 := hhb1.frozen 3
    have a3 : wc.cell? ⟨rb, 3, none⟩ = some (.pointer (some ⟨hb, 0, none⟩)) := hf1.cell (by simpa using hrh) r3
    have a3' : (wc.alloc (Obj.cells (tab C (fun _ => Value.int .u32 0)).toArray 63)).cell? ⟨rb, 3, none⟩ = some (.pointer (some ⟨hb, 0, none⟩)) := ((Fr.refl [] wc).alloc _).cell0 a3
    have a2 : (wc.alloc (Obj.cells (tab C (fun _ => Value.int .u32 0)).toArray 63)).cell? ⟨hb, 3, none⟩ = some (.slice none 0 0) := (hhb1.alloc _).cell 3
    have az2 := (hhb1.alloc (Obj.cells (tab C (fun _ => Value.int .u32 0)).toArray 63)).frozen 3
    go_region
    all_goals
      go_wp2_with fail
      go_meet
      case rel =>
        subst hMS
        exact ⟨((hf1.alloc _).setCell (p := ⟨hb, 3, none⟩) (.inl (by simp)) _).drew, ((hhb1.alloc _).set 3 _).drew, ((hmb1.alloc _).setOther (by simp; omega) _).drew, ((Blk.new _ _ _).setOther (by simp; omega) _).drew, by simp⟩
  case rest =>
  clear hf1 hhb1 hmb1 hfc hMS
  obtain ⟨hf1', hhb1', hmb1', hsb1', hlt1⟩ := hcut
  have hf1 := hf1'.alloc (Obj.map #[] 0)
  have hhb1 := hhb1'.alloc (Obj.map #[] 0)
  have hmb1 := hmb1'.alloc (Obj.map #[] 0)
  have hsb1 := hsb1'.alloc (Obj.map #[] 0)
  have hms := MSet.made wc (fun k => ∃ i, 1 ≤ i ∧ i ≤ 0 ∧ k = cs i)
  clear hf1' hhb1' hmb1' hsb1'
  have hmm := @run_makeMap Tryd.prog
  have c5 := hf1.cell (by simpa using hrh) r5
  have cg := hf1.cell (by simpa using hgh) hg
  have c7 := hf1.cell (by simpa using hfh) h7
  have c60 := hf1.cell (by simpa using hdh) d60
  go_wp2_with fail
  have hmw : msb < wc.heap.size := hlt1
  generalize hM2 : wc.heap.size = mp at *
  go_loopw [2, 8] (fun s2 s8 wr => ∃ (j : Nat) (l' : List Value), j ≤ m ∧ s2 = .nilIface ∧ s8 = .int .u32 (cs j : Nat) ∧ Fr [hb] w wr ∧ Blk wr hb 142 (hdCells fb (.slice (some ⟨fb, 45, none⟩) 109 109) (.slice (some ⟨mb, 0, none⟩) c c) (.slice (some ⟨msb, 0, none⟩) j C)) ∧
    Blk wr mb 63 (tab c (fun j => .int .u32 (cf j : Nat))) ∧ Blk wr msb 63 l' ∧ l'.length = C ∧ (∀ i, i < j → l'[i]? = some (.int .u32 (cs i : Nat))) ∧ MSet wr mp (fun k => ∃ i, 1 ≤ i ∧ i ≤ j ∧ k = cs i)) (fun _ _ wr => m - lenOf ((wr.cell? ⟨hb, 3, none⟩).getD .nilIface))
  case atStart => exact ⟨0, _, by omega, rfl, by rw [HCH.out.first], hf1, hhb1, hmb1, hsb1, by simp, fun i hi => by omega, hms⟩
  case round =>
    clear hf1 hhb1 hmb1 hsb1 hms c5 cg c7 c60
    obtain ⟨j, l', hj, rfl, rfl, hf1, hhb1, hmb1, hsb1, hl1, hl2, hms⟩ := hrel
    have hL2 := Lib.hid hl2
    have xm0 : (wr.cell? ⟨hb, 3, none⟩).getD .nilIface = (.slice (some ⟨msb, 0, none⟩) j C) := by rw [hhb1.cell 3]; rfl
    clear hl2
    by_cases hlt : j < m
    · have hsn := HCH.out.low j hlt
      have hne : ((cs j : Nat) : Int) ≠ 4294967294 := by omega
      have a3 : wr.cell? ⟨rb, 3, none⟩ = some (.pointer (some ⟨hb, 0, none⟩)) := hf1.cell (by simpa using hrh) r3
      have a2 : wr.cell? ⟨hb, 3, none⟩ = some (.slice (some ⟨msb, 0, none⟩) j C) := hhb1.cell 3
      have z3 := hhb1.frozen 3
      go_upto_region 22 with (fail)
      go_cut [] from 202 to 219 (fun w1 => Fr [hb, msb] wr w1 ∧ Blk w1 hb 142 (hdCells fb (.slice (some ⟨fb, 45, none⟩) 109 109) (.slice (some ⟨mb, 0, none⟩) c c) (.slice (some ⟨msb, 0, none⟩) (j + 1) C)) ∧ Blk w1 msb 63 (splice l' j [.int .u32 (cs j : Nat)]))
      case first =>
        obtain ⟨R, hR⟩ : ∃ R : AR, R = ⟨wr, hb, 3, msb, j, C, 12, 13, 16, 63, l', .int .u32 (cs j : Nat), fun i => match i with
          | 0 | 1 | 4 | 5 => .pointer (some ⟨rb, 0, none⟩)
          | 2 | 6 => .pointer (some ⟨rb, 3, none⟩)
          | 3 | 7 | 8 | 14 => .pointer (some ⟨hb, 0, none⟩)
          | 9 | 15 => .pointer (some ⟨hb, 3, none⟩)
          | 10 => .slice (some ⟨msb, 0, none⟩) j C
          | 11 => .int .u32 (cs j : Nat)
          | 13 => .slice (some ⟨msb, 0, none⟩) (j + 1) C
          | _ => undef⟩ := ⟨_, rfl⟩
        have rB : R.B = 12 := by rw [hR]
        have rA : R.A = 13 := by rw [hR]
        have rS : R.S = 16 := by rw [hR]
        have rT : R.T = 63 := by rw [hR]
        have nhm : hb ≠ msb := by omega
        have nrm : rb ≠ msb := by omega
        have hxc : ∀ w1, Fr [msb] wr w1 → w1.cell? ⟨rb, 3, none⟩ = some (.pointer (some ⟨hb, 0, none⟩)) ∧ w1.cell? ⟨hb, 3, none⟩ = some (.slice (some ⟨msb, 0, none⟩) j C) := fun w1 hf1 => ⟨hf1.cell (by simpa using nrm) a3, hf1.cell (by simpa using nhm) a2⟩
        have hsc : ∀ w1, Fr [msb] wr w1 → w1.cell? ⟨hb, 3, none⟩ = some (.slice (some ⟨msb, 0, none⟩) j C) ∧ w1.frozen? ⟨hb, 3, none⟩ = false := fun w1 hf1 => ⟨hf1.cell (by simpa using nhm) a2, (hhb1.fr hf1 (by simpa using nhm)).frozen 3⟩
        have hroomA : j + 1 ≤ C := by omega
        have hroomL : j + 1 ≤ l'.length := by omega
        have hgl : R.gb < R.wr.heap.size := by rw [hR]; exact hsb1.lt
        have hsl : R.sb < R.wr.heap.size := by rw [hR]; exact hhb1.lt
        refine wp_region_loose (J := R.J) (Sp := R.Sp) (by kernel_rfl) (by kernel_rfl) ?_ ?_ ?_
        · subst hR
          exact ⟨fun _ => (Fr.refl _ _).drew, fun _ _ => hsb1, fun h => (by cases h), fun h => (by cases h)⟩
        · intro L a w1 i o hI hi hL hw
          have hj := hI.j
          have same : L R.S = false → ∀ i, i ≠ 13 ∧ i ≠ 16 → R.J (lSet L i) w1 := fun hS i hi => hj.alloc hS (Fr.refl _ _) i (by rw [rA, rS]; exact hi)
          have nop : ∀ j u, L j = true → R.Sp j w1 u → R.Sp j w1 u := fun _ _ _ h => h
          rcases i with _ | _ | _ | _ | _ | _ | _ | _ | _ | _ | _ | _ | _ | _ | _ | _ | _ | i
          · obtain rfl := Option.some.inj hi
            have hS : L 16 = false := hI.before (i := 0) (j := 16) hL rfl (by kernel_rfl)
            have hS' : L R.S = false := by rw [hR]; exact hS
            have e0 := hI.outer 0 (by kernel_rfl) (.pointer (some ⟨rb, 0, none⟩)) rfl
            rw [Array.getD_eq_getD_getElem?] at e0
            exact lw (.pointer (some ⟨rb, 0, none⟩)) (by simp [go_sem, e0]) ⟨_, rfl, same hS' 0 (by decide), nop, AR.sp_c (by rw [rB]; decide) (by subst hR; rfl)⟩
          · obtain rfl := Option.some.inj hi
            have hS : L 16 = false := hI.before (i := 1) (j := 16) hL rfl (by kernel_rfl)
            have hS' : L R.S = false := by rw [hR]; exact hS
            have l0 := waits_of hw 0 (by kernel_rfl)
            have e0 : a.tmps.getD 204 undef = .pointer (some ⟨rb, 0, none⟩) := (AR.of_sp (hI.val 0 _ 204 l0 rfl rfl) (by rw [rB]; decide)).trans (by subst hR; rfl)
            rw [Array.getD_eq_getD_getElem?] at e0
            exact lw (.pointer (some ⟨rb, 0, none⟩)) (by simp [go_sem, e0]) ⟨_, rfl, same hS' 1 (by decide), nop, AR.sp_c (by rw [rB]; decide) (by subst hR; rfl)⟩
          · obtain rfl := Option.some.inj hi
            have hS : L 16 = false := hI.before (i := 2) (j := 16) hL rfl (by kernel_rfl)
            have hS' : L R.S = false := by rw [hR]; exact hS
            have l0 := waits_of hw 1 (by kernel_rfl)
            have e0 : a.tmps.getD 205 undef = .pointer (some ⟨rb, 0, none⟩) := (AR.of_sp (hI.val 1 _ 205 l0 rfl rfl) (by rw [rB]; decide)).trans (by subst hR; rfl)
            rw [Array.getD_eq_getD_getElem?] at e0
            exact lw (.pointer (some ⟨rb, 3, none⟩)) (by simp [go_sem, e0]) ⟨_, rfl, same hS' 2 (by decide), nop, AR.sp_c (by rw [rB]; decide) (by subst hR; rfl)⟩
          · obtain rfl := Option.some.inj hi
            have hS : L 16 = false := hI.before (i := 3) (j := 16) hL rfl (by kernel_rfl)
            have hS' : L R.S = false := by rw [hR]; exact hS
            have l0 := waits_of hw 2 (by kernel_rfl)
            have e0 : a.tmps.getD 206 undef = .pointer (some ⟨rb, 3, none⟩) := (AR.of_sp (hI.val 2 _ 206 l0 rfl rfl) (by rw [rB]; decide)).trans (by subst hR; rfl)
            rw [Array.getD_eq_getD_getElem?] at e0
            have hc := (hxc w1 (by have := hj.a hS'; rw [hR] at this; exact this)).1
            exact lw (.pointer (some ⟨hb, 0, none⟩)) (by simp [go_sem, e0, hc]) ⟨_, rfl, same hS' 3 (by decide), nop, AR.sp_c (by rw [rB]; decide) (by subst hR; rfl)⟩
          · obtain rfl := Option.some.inj hi
            have hS : L 16 = false := hI.before (i := 4) (j := 16) hL rfl (by kernel_rfl)
            have hS' : L R.S = false := by rw [hR]; exact hS
            have e0 := hI.outer 0 (by kernel_rfl) (.pointer (some ⟨rb, 0, none⟩)) rfl
            rw [Array.getD_eq_getD_getElem?] at e0
            exact lw (.pointer (some ⟨rb, 0, none⟩)) (by simp [go_sem, e0]) ⟨_, rfl, same hS' 4 (by decide), nop, AR.sp_c (by rw [rB]; decide) (by subst hR; rfl)⟩
          · obtain rfl := Option.some.inj hi
            have hS : L 16 = false := hI.before (i := 5) (j := 16) hL rfl (by kernel_rfl)
            have hS' : L R.S = false := by rw [hR]; exact hS
            have l0 := waits_of hw 4 (by kernel_rfl)
            have e0 : a.tmps.getD 208 undef = .pointer (some ⟨rb, 0, none⟩) := (AR.of_sp (hI.val 4 _ 208 l0 rfl rfl) (by rw [rB]; decide)).trans (by subst hR; rfl)
            rw [Array.getD_eq_getD_getElem?] at e0
            exact lw (.pointer (some ⟨rb, 0, none⟩)) (by simp [go_sem, e0]) ⟨_, rfl, same hS' 5 (by decide), nop, AR.sp_c (by rw [rB]; decide) (by subst hR; rfl)⟩
          · obtain rfl := Option.some.inj hi
            have hS : L 16 = false := hI.before (i := 6) (j := 16) hL rfl (by kernel_rfl)
            have hS' : L R.S = false := by rw [hR]; exact hS
            have l0 := waits_of hw 5 (by kernel_rfl)
            have e0 : a.tmps.getD 209 undef = .pointer (some ⟨rb, 0, none⟩) := (AR.of_sp (hI.val 5 _ 209 l0 rfl rfl) (by rw [rB]; decide)).trans (by subst hR; rfl)
            rw [Array.getD_eq_getD_getElem?] at e0
            exact lw (.pointer (some ⟨rb, 3, none⟩)) (by simp [go_sem, e0]) ⟨_, rfl, same hS' 6 (by decide), nop, AR.sp_c (by rw [rB]; decide) (by subst hR; rfl)⟩
          · obtain rfl := Option.some.inj hi
            have hS : L 16 = false := hI.before (i := 7) (j := 16) hL rfl (by kernel_rfl)
            have hS' : L R.S = false := by rw [hR]; exact hS
            have l0 := waits_of hw 6 (by kernel_rfl)
            have e0 : a.tmps.getD 210 undef = .pointer (some ⟨rb, 3, none⟩) := (AR.of_sp (hI.val 6 _ 210 l0 rfl rfl) (by rw [rB]; decide)).trans (by subst hR; rfl)
            rw [Array.getD_eq_getD_getElem?] at e0
            have hc := (hxc w1 (by have := hj.a hS'; rw [hR] at this; exact this)).1
            exact lw (.pointer (some ⟨hb, 0, none⟩)) (by simp [go_sem, e0, hc]) ⟨_, rfl, same hS' 7 (by decide), nop, AR.sp_c (by rw [rB]; decide) (by subst hR; rfl)⟩
          · obtain rfl := Option.some.inj hi
            have hS : L 16 = false := hI.before (i := 8) (j := 16) hL rfl (by kernel_rfl)
            have hS' : L R.S = false := by rw [hR]; exact hS
            have l0 := waits_of hw 7 (by kernel_rfl)
            have e0 : a.tmps.getD 211 undef = .pointer (some ⟨hb, 0, none⟩) := (AR.of_sp (hI.val 7 _ 211 l0 rfl rfl) (by rw [rB]; decide)).trans (by subst hR; rfl)
            rw [Array.getD_eq_getD_getElem?] at e0
            exact lw (.pointer (some ⟨hb, 0, none⟩)) (by simp [go_sem, e0]) ⟨_, rfl, same hS' 8 (by decide), nop, AR.sp_c (by rw [rB]; decide) (by subst hR; rfl)⟩
          · obtain rfl := Option.some.inj hi
            have hS : L 16 = false := hI.before (i := 9) (j := 16) hL rfl (by kernel_rfl)
            have hS' : L R.S = false := by rw [hR]; exact hS
            have l0 := waits_of hw 8 (by kernel_rfl)
            have e0 : a.tmps.getD 212 undef = .pointer (some ⟨hb, 0, none⟩) := (AR.of_sp (hI.val 8 _ 212 l0 rfl rfl) (by rw [rB]; decide)).trans (by subst hR; rfl)
            rw [Array.getD_eq_getD_getElem?] at e0
            exact lw (.pointer (some ⟨hb, 3, none⟩)) (by simp [go_sem, e0]) ⟨_, rfl, same hS' 9 (by decide), nop, AR.sp_c (by rw [rB]; decide) (by subst hR; rfl)⟩
          · obtain rfl := Option.some.inj hi
            have hS : L 16 = false := hI.before (i := 10) (j := 16) hL rfl (by kernel_rfl)
            have hS' : L R.S = false := by rw [hR]; exact hS
            have l0 := waits_of hw 9 (by kernel_rfl)
            have e0 : a.tmps.getD 213 undef = .pointer (some ⟨hb, 3, none⟩) := (AR.of_sp (hI.val 9 _ 213 l0 rfl rfl) (by rw [rB]; decide)).trans (by subst hR; rfl)
            rw [Array.getD_eq_getD_getElem?] at e0
            have hc := (hxc w1 (by have := hj.a hS'; rw [hR] at this; exact this)).2
            exact lw (.slice (some ⟨msb, 0, none⟩) j C) (by simp [go_sem, e0, hc]) ⟨_, rfl, same hS' 10 (by decide), nop, AR.sp_c (by rw [rB]; decide) (by subst hR; rfl)⟩
          · obtain rfl := Option.some.inj hi
            have hS : L 16 = false := hI.before (i := 11) (j := 16) hL rfl (by kernel_rfl)
            have hS' : L R.S = false := by rw [hR]; exact hS
            have e0 := hI.outer 8 (by kernel_rfl) (.int .u32 (cs j : Nat)) rfl
            rw [Array.getD_eq_getD_getElem?] at e0
            exact lw (.int .u32 (cs j : Nat)) (by simp [go_sem, e0]) ⟨_, rfl, same hS' 11 (by decide), nop, AR.sp_c (by rw [rB]; decide) (by subst hR; rfl)⟩
          · obtain rfl := Option.some.inj hi
            have hS : L 16 = false := hI.before (j := 16) hL rfl (by kernel_rfl)
            have hS' : L R.S = false := by rw [hR]; exact hS
            have l0 := waits_of hw 11 (by kernel_rfl)
            have e0 : a.tmps.getD 215 undef = R.u := (AR.of_sp (hI.val 11 _ 215 l0 rfl rfl) (by rw [rB]; decide)).trans (by subst hR; rfl)
            have f := (Fr.refl [] w1).alloc (.cells #[R.u] 63)
            have hnew : Blk (w1.alloc (.cells #[R.u] 63)) w1.heap.size R.T [R.u] := by rw [rT]; exact Blk.new' _ _ _
            exact ow_build1 trivial 22 63 (.tmp 215) rfl R.u e0 (by subst hR; rfl) Tryd.underlying22 (by kernel_rfl) ⟨_, rfl, hj.alloc hS' f 12 (by rw [rA, rS]; decide), fun j u _ => AR.Sp_fr0 f j u, by unfold AR.Sp; rw [rB, if_pos rfl]; exact ⟨w1.heap.size, rfl, hnew, (hj.a hS').size⟩⟩
          · obtain rfl := Option.some.inj hi
            have hS : L 16 = false := hI.before (j := 16) hL rfl (by kernel_rfl)
            have hS' : L R.S = false := by rw [hR]; exact hS
            have l0 := waits_of hw 10 (by kernel_rfl)
            have l1 := waits_of hw 12 (by kernel_rfl)
            have e0 : a.tmps.getD 214 undef = .slice (some ⟨R.gb, 0, none⟩) R.n R.cap := (AR.of_sp (hI.val 10 _ 214 l0 rfl rfl) (by rw [rB]; decide)).trans (by subst hR; rfl)
            obtain ⟨g, e1, hg, hge⟩ := AR.of_spB (R := R) (by rw [rB]; exact hI.val 12 _ 216 l1 rfl rfl)
            rw [rT] at hg
            have hgb := hj.b (by rw [rA]; exact hL) hS'
            rw [rT] at hgb
            refine ow_app_room (.tmp 214) (.tmp 216) 22 rfl 63 Tryd.underlying22 (by kernel_rfl) R.gb R.n R.cap R.l e0 hgb g R.u e1 hg (by subst hR; rfl) (by subst hR; exact hroomA) (by subst hR; exact hroomL) ?_
            intro w' hf hb
            have hja := hj.app hS' (by rw [rA, rS]; decide) hf (by rw [rT]; exact hb)
            rw [rA] at hja
            exact ⟨_, rfl, hja, fun j u _ => AR.Sp_fr hf hgl j u, AR.sp_c (by rw [rB]; decide) (by subst hR; rfl)⟩
          · obtain rfl := Option.some.inj hi
            have hvia : L 15 = false := hI.before (j := 15) hL rfl (by kernel_rfl)
            have hS : L 16 = false := hI.before (i := 15) (j := 16) hvia rfl (by kernel_rfl)
            have hS' : L R.S = false := by rw [hR]; exact hS
            have l0 := waits_of hw 3 (by kernel_rfl)
            have e0 : a.tmps.getD 207 undef = .pointer (some ⟨hb, 0, none⟩) := (AR.of_sp (hI.val 3 _ 207 l0 rfl rfl) (by rw [rB]; decide)).trans (by subst hR; rfl)
            rw [Array.getD_eq_getD_getElem?] at e0
            exact lw (.pointer (some ⟨hb, 0, none⟩)) (by simp [go_sem, e0]) ⟨_, rfl, same hS' 14 (by decide), nop, AR.sp_c (by rw [rB]; decide) (by subst hR; rfl)⟩
          · obtain rfl := Option.some.inj hi
            have hS : L 16 = false := hI.before (i := 15) (j := 16) hL rfl (by kernel_rfl)
            have hS' : L R.S = false := by rw [hR]; exact hS
            have l0 := waits_of hw 14 (by kernel_rfl)
            have e0 : a.tmps.getD 218 undef = .pointer (some ⟨hb, 0, none⟩) := (AR.of_sp (hI.val 14 _ 218 l0 rfl rfl) (by rw [rB]; decide)).trans (by subst hR; rfl)
            rw [Array.getD_eq_getD_getElem?] at e0
            exact lw (.pointer (some ⟨hb, 3, none⟩)) (by simp [go_sem, e0]) ⟨_, rfl, same hS' 15 (by decide), nop, AR.sp_c (by rw [rB]; decide) (by subst hR; rfl)⟩
          · obtain rfl := Option.some.inj hi
            have hS' : L R.S = false := by rw [rS]; exact hL
            have l0 := waits_of hw 15 (by kernel_rfl)
            have l1 := waits_of hw 13 (by kernel_rfl)
            have e0 : a.tmps.getD 219 undef = .pointer (some ⟨hb, 3, none⟩) := (AR.of_sp (hI.val 15 _ 219 l0 rfl rfl) (by rw [rB]; decide)).trans (by subst hR; rfl)
            have e1 : a.tmps.getD 217 undef = .slice (some ⟨msb, 0, none⟩) (j + 1) C := (AR.of_sp (hI.val 13 _ 217 l1 rfl rfl) (by rw [rB]; decide)).trans (by subst hR; rfl)
            rw [Array.getD_eq_getD_getElem?] at e0 e1
            have hSc := hsc w1 (by have := hj.a hS'; rw [hR] at this; exact this)
            have hJ := hj.store hS' (by rw [rA]; exact l1)
            have hSp : ∀ j u, L j = true → R.Sp j w1 u → R.Sp j (w1.setCell ⟨R.sb, R.k, none⟩ R.nv) u := fun j u _ => AR.Sp_fr ((Fr.refl [R.sb] w1).setCell (.inl (by simp)) _) hsl j u
            rw [rS] at hJ
            have hend : R.Sp 16 (w1.setCell ⟨R.sb, R.k, none⟩ R.nv) undef := AR.sp_c (by rw [rB]; decide) (by subst hR; rfl)
            subst hR
            exact lw_skip (by simp [go_sem, e0, e1, hSc.1, hSc.2]; rfl) ⟨_, rfl, hJ, hSp, hend⟩
          · cases hi
        · intro L a w1 hI hall
          have hd := hI.j.d (by rw [rS]; exact hall 16 (by decide))
          rw [hR] at hd
          obtain ⟨w3, g1, g2, g3⟩ := hd
          have hlit := hI.lit [204, 205, 206, 207, 208, 209, 210, 211, 212, 213, 214, 215, 216, 217, 218, 219] (by kernel_rfl)
          rw [hlit]
          simp only [List.foldl, List.setIfInBounds_toArray, List.set_cons_succ, List.set_cons_zero]
          rename (∀ (a : Act) (w : World), Met _ a w → _) => hK
          refine hK _ _ ?_
          go_meet
          case rel =>
            subst g3
            exact ⟨(g1.mono (by simp)).setCell (.inl (by simp)) _, (hhb1.fr g1 (by simpa using nhm)).set 3 _, g2.setOther (p := ⟨hb, 3, none⟩) nhm _⟩
      case rest =>
        obtain ⟨hf2, hhb2, hsb2⟩ := hcut
        have y1 : Fr [hb] w wc := hf1.trans hf2 (by simp; omega)
        have ymb := hmb1.fr hf2 (by simp; omega)
        have yms := hms.fr hf2 (by simp; omega)
        have hD1 : ∀ i, i < j + 1 → (splice l' j [Value.int .u32 (cs j : Nat)])[i]? = some (.int .u32 (cs i : Nat)) := by
          intro i hi
          rw [splice_get _ _ _ (by simp; omega)]
          by_cases hik : i = j
          · subst hik; rw [if_pos (by simp)]; simp
          · rw [if_neg (by simp; omega)]; exact hL2.out i (by omega)
        have hl3 : (splice l' j [Value.int .u32 (cs j : Nat)]).length = C := by rw [length_splice _ _ _ (by simp; omega)]; exact hl1
        have HD1 := Lib.hid hD1
        clear hD1 hf1 hhb1 hmb1 hsb1 hms hf2
        generalize hLL : splice l' j [Value.int .u32 (cs j : Nat)] = l2 at *
        have hat := HCH.out.at_ j hlt
        have hnx := HCH.out.next j hlt
        have hnx4 : (j + 1 < m ∧ cs (j + 1) ≤ 65535) ∨ (j + 1 = m ∧ cs (j + 1) = 4294967294) := by
          by_cases h : j + 1 < m
          · exact .inl ⟨h, (HCH.out.low _ h).1⟩
          · have e : j + 1 = m := by omega
            right; exact ⟨e, by rw [e]; exact HCH.out.last⟩
        have hnS : cs (j + 1) ≤ cs j → ¬ ∃ i, 1 ≤ i ∧ i ≤ j ∧ cs (j + 1) = cs i := by
          intro h ⟨i, a, b, c⟩
          exact HCH.out.nodup i (j + 1) (by omega) (by omega) c.symm
        have hne1 : cs (j + 1) ≤ cs j → cs j ≠ cs (j + 1) := by
          intro h
          exact HCH.out.nodup j (j + 1) (by omega) (by omega)
        go_wp2_with fail
        refine (findNext_at rb hb fb sb bb n ncap ss (cs j) F _ _ _ _ _ _ _ _ (hS.fr y1 (by simpa using hsh) (by simpa using hbh)) (hrb.fr y1 (by simpa using hrh)) hhb2 (hfb.fr y1 (by simpa using hfbh)) HSs.out hat).mono ?_
        rintro e w6 ⟨rfl, hf6⟩
        rw [hnx]
        have x1 := y1.trans0 hf6
        have x2 := hhb2.fr0 hf6
        have x3 := ymb.fr0 hf6
        have x4 := yms.fr hf6 (by simp)
        have x5 := hsb2.fr0 hf6
        have xm : (w6.cell? ⟨hb, 3, none⟩).getD .nilIface = (.slice (some ⟨msb, 0, none⟩) (j + 1) C) := by rw [x2.cell 3]; rfl
        by_cases hle : cs (j + 1) ≤ cs j
        · have q1 : decide (cs (j + 1) ≤ cs j) = true := by simpa using hle
          have q2 : decide (cs (j + 1) = cs j) = false := by simpa using fun h => hne1 hle h.symm
          have q2' : ¬ (cs (j + 1) = cs j) := fun h => hne1 hle h.symm
          have q3 := x4.run_lookup (cs (j + 1)) (by omega) (hnS hle)
          go_wp2_with (at_mapUpdate; refine wpList_update_mset rfl _ _ _ rfl mp _ rfl x4 (cs (j + 1)) rfl (by omega) (hnS hle) ?_; intro w7 hf7 hm7)
          have n1 : mp ≠ hb := by omega
          have xm' : (w7.cell? ⟨hb, 3, none⟩).getD .nilIface = (.slice (some ⟨msb, 0, none⟩) (j + 1) C) := by rw [(x2.fr hf7 (by simpa using n1.symm)).cell 3]; rfl
          go_roundw
          case rel =>
            refine ⟨j + 1, l2, by omega, rfl, by go_num, x1.trans hf7 (fun x hx => .inr (by simp at hx; omega)), x2.fr hf7 (by simpa using n1.symm), x3.fr hf7 (by simp; omega), x5.fr hf7 (by simp; omega), hl3, HD1.out, hm7.mono ?_⟩
            rintro k (⟨i, a, b, c⟩ | h)
            · exact ⟨i, a, by omega, c⟩
            · exact ⟨j + 1, by omega, by omega, h⟩
          case measure => rw [xm', xm0]; simp [lenOf]; omega
        · have q1 : decide (cs (j + 1) ≤ cs j) = false := by simpa using hle
          have xm' := xm
          go_wp2_with fail
          go_roundw
          case rel => exact ⟨j + 1, l2, by omega, rfl, by go_num, x1, x2, x3, x5, hl3, HD1.out, x4.mono (fun k ⟨i, a, b, c⟩ => ⟨i, a, by omega, c⟩)⟩
          case measure => rw [xm', xm0]; simp [lenOf]; omega
    · obtain rfl : j = m := by omega
      have hcl := HCH.out.last
      go_wp2_with fail
      go_ret
      refine ⟨rfl, hf1, mb, msb, C, hhb1, by omega, hsz, hmc, ?_, ?_⟩
      · intro i hi
        rw [hmb1.cell, tab_get _ _ _ hi]
      · intro i hi
        rw [hsb1.cell]
        exact hL2.out i hi
end Go.Proofs.YtokpomdfgbbhlaaDoor

/- The contract of (*File).stream: the pieces of the file that hold the next bytes of a stream. -/
namespace Go.Proofs.YtokpomdfgbbhlaaDoor
open Go Go.RowKit Go.Maps

theorem info133 : (Tryd.prog.info? 133).map (fun i => (i.zero.map (·.cells), i.size, i.bytes)) = some (some #[.int .i64 0, .int .i64 0], 2, 16) := by kernel_rfl
theorem info133_parts : ∃ i z, Tryd.prog.info? 133 = some i ∧ i.zero = some z ∧ i.size = 2 ∧ i.bytes = 16 ∧ z.cells = #[.int .i64 0, .int .i64 0] := by
  have h := info133
  cases hi : Tryd.prog.info? 133 with
  | none => rw [hi] at h; cases h
  | some i =>
    rw [hi] at h
    simp only [Option.map_some, Option.some.injEq, Prod.mk.injEq] at h
    obtain ⟨h1, h2, h3⟩ := h
    cases hz : i.zero with
    | none => rw [hz] at h1; cases h1
    | some z => rw [hz] at h1; simp at h1; exact ⟨i, z, rfl, hz, h2, h3, h1⟩

theorem make_pcs (c : Nat) (h : c ≤ 1000000) (w : World) : (Instr.makeSlice 130 (.int .i64 0) (.int .i64 (c : Int))).run Tryd.prog w =
    .ok (.slice (some ⟨w.heap.size, 0, none⟩) 0 c) (w.alloc (.cells (tab (c * 2) (pf (fun _ => 0) (fun _ => 0))).toArray 133)) := by
  obtain ⟨i, z, h1, h2, h3, h4, h5⟩ := info133_parts
  have := run_make (P := Tryd.prog) w 130 133 i z Tryd.underlying130 h1 h2 .i64 .i64 0 (c : Int) (by omega) (by omega) (by rw [h4]; omega) (by omega)
  rw [this, h3, h5]
  have e : madeCells #[Value.int .i64 0, Value.int .i64 0] (c * 2) = (tab (c * 2) (pf (fun _ => 0) (fun _ => 0))).toArray := by
    apply Array.ext'
    simp only [madeCells, tab]
    apply List.ext_getElem?
    intro k
    simp
    by_cases hk : k < c * 2
    · simp [hk, pf]
      have : k % 2 = 0 ∨ k % 2 = 1 := by omega
      rcases this with e | e <;> simp [e]
    · simp [hk]
  rw [show ((0 : Int)).toNat = 0 from rfl, Int.toNat_natCast, e]

/-- A File's cells. -/
abbrev FlS (w : World) (fb : Nat) (nm : ByteArray) (ini : Nat) (pv : Value) (len i c r dk rb : Nat) : Prop := Blk w fb 95 (flCells nm ini pv (len : Nat) (i : Nat) c (r : Nat) dk rb)

theorem FlS.cur {w : World} {fb : Nat} {nm : ByteArray} {ini : Nat} {pv : Value} {len i c r dk rb : Nat} (h : FlS w fb nm ini pv len i c r dk rb) (c' : Nat) : FlS (w.setCell ⟨fb, 5, none⟩ (.int .u32 (c' : Nat))) fb nm ini pv len i c' r dk rb := h.set 5 _
theorem FlS.rem {w : World} {fb : Nat} {nm : ByteArray} {ini : Nat} {pv : Value} {len i c r dk rb : Nat} (h : FlS w fb nm ini pv len i c r dk rb) (r' : Nat) : FlS (w.setCell ⟨fb, 6, none⟩ (.int .i64 (r' : Nat))) fb nm ini pv len i c r' dk rb := h.set 6 _

theorem pcs_app {w : World} {b c : Nat} {o l : Nat → Nat} (k p q : Nat) (h : Blk w b 133 (splice (tab (c * 2) (pf o l)) (k * 2) [I64 p, I64 q])) (hk : k < c) : Pcs w b c (fun i => if i = k then p else o i) (fun i => if i = k then q else l i) := by
  unfold Pcs
  rw [← pcs_put k p q hk (fun _ => rfl) (fun _ => rfl)]
  exact h
theorem news2 (w : World) (cs : Array Value) (e : TypeId) {l : List Value} (h : cs.toList = l) : ∀ j u, l[j]? = some u → (w.alloc (.cells cs e)).cell? ((⟨w.heap.size, 0, none⟩ : Addr).add j) = some u := by
  intro j u hj
  rw [Addr.add_mid, Nat.zero_add, (Blk.new' w e cs).cell, h]
  exact hj

theorem Pcs.drew {w : World} {b c : Nat} {o l : Nat → Nat} (h : Pcs w b c o l) : Pcs w.drew b c o l := Blk.drew h
theorem Pcs.alloc {w : World} {b c : Nat} {o l : Nat → Nat} (h : Pcs w b c o l) (x : Obj) : Pcs (w.alloc x) b c o l := Blk.alloc h x

/-- One piece more, where there is room. -/
theorem wpList_app_piece {ops : Array Oper} {rest : List Oper} {o : Oper} {a : Act} {Q : Exit → Act → World → Prop} {w : World} (hg : o.guard = none) (s x : Operand)
    (hop : o.op = Op.call { callee := Callee.builtin Builtin.append, args := #[s, x], argTypes := #[130, 130] }) (pb n c : Nat) (ol ll : Nat → Nat) (hs : a.eval s = .slice (some ⟨pb, 0, none⟩) n c)
    (nb : Nat) (hx : a.eval x = .slice (some ⟨nb, 0, none⟩) 1 1) (p q : Nat) (hP : Pcs w pb c ol ll) (hN : Blk w nb 133 [I64 p, I64 q]) (hn : n < c)
    (h : ∀ w', Fr [pb] w w' → Pcs w' pb c (fun i => if i = n then p else ol i) (fun i => if i = n then q else ll i) → wpList Tryd.prog ops Q rest (a.put o.dst (.slice (some ⟨pb, 0, none⟩) (n + 1) c)) w') :
    wpList Tryd.prog ops Q (o :: rest) a w := by
  refine wpList_append_room_blk hg s x 130 hop 133 Tryd.underlying130 2 (by kernel_rfl) pb n c _ hs hP ⟨nb, 0, none⟩ 1 1 [I64 p, I64 q] hx rfl ?_ ?_ (by omega) (by simp; omega) ?_
  · intro j u hj
    rw [Addr.add_mid, Nat.zero_add, hN.cell]
    exact hj
  · intro u hu
    simp only [List.mem_cons, List.not_mem_nil, or_false] at hu
    rcases hu with rfl | rfl <;> rfl
  · intro w' hf hb
    exact h w' hf (pcs_app n p q hb hn)

theorem step_app_piece {ops : Array Oper} {o : Oper} {a : Act} {w : World} {K : Act → World → Prop} {Q : Exit → Act → World → Prop} {E : Prop} (hg : o.guard = none) (s x : Operand)
    (hop : o.op = Op.call { callee := Callee.builtin Builtin.append, args := #[s, x], argTypes := #[130, 130] }) (pb n c : Nat) (ol ll : Nat → Nat) (hs : a.eval s = .slice (some ⟨pb, 0, none⟩) n c)
    (nb : Nat) (hx : a.eval x = .slice (some ⟨nb, 0, none⟩) 1 1) (p q : Nat) (hP : Pcs w pb c ol ll) (hN : Blk w nb 133 [I64 p, I64 q]) (hn : n < c)
    (h : ∀ w', Fr [pb] w w' → Pcs w' pb c (fun i => if i = n then p else ol i) (fun i => if i = n then q else ll i) → K (a.put o.dst (.slice (some ⟨pb, 0, none⟩) (n + 1) c)) w') :
    if Region.wanted o (yielded ops a.tmps) = true then Oper.wp Tryd.prog o a w K Q else E := by
  refine step_append_room_blk hg s x 130 hop 133 Tryd.underlying130 2 (by kernel_rfl) pb n c _ hs hP ⟨nb, 0, none⟩ 1 1 [I64 p, I64 q] hx rfl ?_ ?_ (by omega) (by simp; omega) ?_
  · intro j u hj
    rw [Addr.add_mid, Nat.zero_add, hN.cell]
    exact hj
  · intro u hu
    simp only [List.mem_cons, List.not_mem_nil, or_false] at hu
    rcases hu with rfl | rfl <;> rfl
  · intro w' hf hb
    exact h w' hf (pcs_app n p q hb hn)

/-- What stream yields. -/
def StrPost (R : RB) (fb : Nat) (nm : ByteArray) (ini : Nat) (pv : Value) (len i sz dk q : Nat) (ch off : Nat → Nat) (w : World) (e : Ending) (w' : World) : Prop :=
  ∃ (pb k c : Nat) (o l : Nat → Nat), e = .returned (.tuple #[.slice (some ⟨pb, 0, none⟩) k c, .nilIface]) ∧ Fr [fb] w w' ∧ w.heap.size ≤ pb ∧ Pcs w' pb c o l ∧ 1 ≤ k ∧ k ≤ c ∧ c ≤ 1000000 ∧
    Cov (fun p => off (p / q) + p % q) o l k i (i + sz) ∧ (∀ j, j < k → o j + l j ≤ R.n) ∧ ∃ t r, i + sz = t * q + r ∧ r < q ∧ FlS w' fb nm ini pv len i (ch t) r dk R.rb

set_option maxRecDepth 100000 in
set_option maxHeartbeats 4000000 in
theorem stream_any (R : RB) (F : Nat → UInt8) (mini : Bool) (q K len fb i sz dk ini t0 r : Nat) (nm : ByteArray) (pv : Value) (ch off : Nat → Nat) (dat : Nat → UInt8) (w : World) (hR : RdS w R F) (hS : StrR R F mini q K len ch off dat)
    (hF : FlS w fb nm ini pv len i (ch t0) r dk R.rb) (hqt : t0 * q + r = i) (hrq : r < q) (hfb : fb ∉ R.bl) (hbl : ∀ x ∈ R.bl, x < w.heap.size) (h1 : 1 ≤ sz) (h2 : i + sz ≤ len) (hlen : len ≤ 100000) :
    Calls Tryd.prog 54 #[.pointer (some ⟨fb, 0, none⟩), .int .i64 (sz : Int)] w (StrPost R fb nm ini pv len i sz dk q ch off w) := by
  have hq64 : 64 ≤ q ∧ q ≤ 4096 := by
    have := hR.ss_
    rcases hS.kind with ⟨_, e, _⟩ | ⟨_, e, _⟩ <;> omega
  have hss4 := hR.ss_
  have hn1 := hR.n1
  have hfbl := Blk.lt hF
  have HBL := Lib.hid hbl
  clear hbl
  have HR := Lib.hid hR
  have HS := Lib.hid hS
  have HF := Lib.hid hF
  have HSS := Lib.hid hss4
  clear hR hS hF hss4
  have hszI : (1 : Int) ≤ sz := by omega
  obtain ⟨c, hc⟩ : ∃ c, c = sz / q + 2 := ⟨_, rfl⟩
  have hc1 : c ≤ 1000000 := by
    have := Nat.div_le_self sz q
    omega
  have hc2 : 2 ≤ c := by rw [hc]; exact Nat.le_add_left 2 _
  have hc0 : 0 < c := by omega
  have HC := Lib.hid hc
  clear hc
  go_enter Tryd.func54, Tryd.ntmps54
  have f3 : w.cell? ⟨fb, 3, none⟩ = some (.int .i64 (len : Nat)) := HF.out.cell 3
  go_upto_if 20 with (fail)
  go_cut [6, 7, 8] from 21 to 42 (fun s6 s7 s8 w2 => Fr [] w w2 ∧ s6 = .bool mini ∧ s7 = .int .i64 (c : Nat) ∧ s8 = .int .i64 (q : Nat))
  case first =>
    have f8 : w.cell? ⟨fb, 8, none⟩ = some (.pointer (some ⟨R.rb, 0, none⟩)) := HF.out.cell 8
    have r1 := HR.out.c1
    rcases HS.out.kind with ⟨hm, hq, hl⟩ | ⟨hm, hq, hl⟩
    · have hlB : decide ((len : Int) < 4096) = true := by simp; omega
      have hcI : (sz : Int) / 64 + 2 = (c : Int) := by have := HC.out; rw [hq] at this; omega
      subst hm
      subst hq
      go_wp2_with fail
      go_meet
      case rel => exact ⟨Fr.refl _ _, rfl, rfl, rfl⟩
    · have hlB : decide ((len : Int) < 4096) = false := by simp; omega
      have hcI : (sz : Int) / (R.ss : Int) + 2 = (c : Int) := by
        have := HC.out
        rw [hq] at this
        rw [this]
        push_cast
        rfl
      have hsI : 512 ≤ (R.ss : Int) := by have := HSS.out; omega
      have hsI2 : (R.ss : Int) ≤ 4096 := by have := HSS.out; omega
      subst hm
      subst hq
      go_wp2_with fail
      go_meet
      case rel => exact ⟨Fr.refl _ _, rfl, rfl, rfl⟩
  case rest =>
  obtain ⟨hf1, rfl, rfl, rfl⟩ := hcut
  have hmk := make_pcs c hc1
  have hR2 := HR.out.fr0 hf1
  have hF2 : FlS _ _ _ _ _ _ _ _ _ _ _ := HF.out.fr0 hf1
  have hfa : Fr [] w (wc.alloc (.cells (tab (c * 2) (pf (fun _ => 0) (fun _ => 0))).toArray 133)) := hf1.alloc _
  have hPa : Pcs (wc.alloc (.cells (tab (c * 2) (pf (fun _ => 0) (fun _ => 0))).toArray 133)) wc.heap.size c (fun _ => 0) (fun _ => 0) := Blk.new wc 133 _
  have hRa := HR.out.fr0 hfa
  have hFa : FlS _ _ _ _ _ _ _ _ _ _ _ := HF.out.fr0 hfa
  have hpb := hf1.size
  have HRw := Lib.hid HR.out
  clear HF HR f3
  have HRa := Lib.hid hRa
  have HFa := Lib.hid hFa
  have HPa := Lib.hid hPa
  have Hfa := Lib.hid hfa
  have f6a : (wc.alloc (.cells (tab (c * 2) (pf (fun _ => 0) (fun _ => 0))).toArray 133)).cell? ⟨fb, 6, none⟩ = some (.int .i64 (r : Nat)) := hFa.cell 6
  clear hRa hFa hPa hfa hR2 hF2 hf1
  go_upto_region 11 with (fail)
  generalize wc.alloc (.cells (tab (c * 2) (pf (fun _ => 0) (fun _ => 0))).toArray 133) = w2 at *
  generalize wc.heap.size = pb at *
  go_upto_if 49 with (fail)
  go_cut [9, 10, 11] from 49 to 167 (fun s9 s10 s11 w3 => ∃ (m j t : Nat) (o l : Nat → Nat), s9 = .slice (some ⟨pb, 0, none⟩) m c ∧ s10 = .int .i64 m ∧ s11 = .int .i64 j ∧ i + j = t * q ∧ j < sz ∧ m ≤ j / q + 1 ∧ Fr [fb] w w3 ∧ Pcs w3 pb c o l ∧
    Cov (fun p => off (p / q) + p % q) o l m i (i + j) ∧ (∀ k, k < m → o k + l k ≤ R.n) ∧ FlS w3 fb nm ini pv len i (ch t) 0 dk R.rb)
  case first =>
    have htK : t0 < K := by
      have := HS.out.cover
      have h3 : t0 * q < K * q := by omega
      exact Nat.lt_of_mul_lt_mul_right h3
    have g8 : w2.cell? ⟨fb, 8, none⟩ = some (.pointer (some ⟨R.rb, 0, none⟩)) := HFa.out.cell 8
    have g5 : w2.cell? ⟨fb, 5, none⟩ = some (.int .u32 (ch t0 : Nat)) := HFa.out.cell 5
    by_cases hr : r = 0
    · subst hr
      have HFP := Lib.hid (And.intro Hfa.out (And.intro HPa.out HFa.out))
      go_wp2_with fail
      go_meet
      case rel => exact ⟨0, 0, t0, _, _, rfl, rfl, rfl, by omega, by omega, Nat.zero_le _, HFP.out.1.mono (by simp), HFP.out.2.1, Cov.zero _ _ _ _, fun k hk => absurd hk (Nat.not_lt_zero _), HFP.out.2.2⟩
    have hrB : decide ((0 : Int) < (r : Int)) = true := by simp; omega
    have hoff : ∀ w', Fr [] w2 w' → _ := fun w' f => off_str (HRa.out.fr0 f) HS.out t0 htK
    have HOFF := Lib.hid hoff
    have HQT := Lib.hid hqt
    clear hoff hqt
    go_upto_region 13 with (fail)
    go_region_held3 (fun w' => w'.cell? ⟨fb, 8, none⟩ = some (.pointer (some ⟨R.rb, 0, none⟩)) ∧ w'.cell? ⟨fb, 5, none⟩ = some (.int .u32 (ch t0 : Nat))) (first | go_keep | exact ⟨hf3.cell0 g8, hf3.cell0 g5⟩)
      (first | (go_at_call 64; refine (HOFF.out _ (Fr.refl _ _).drew).mono ?_; rintro e w3 ⟨rfl, hf3⟩))
    have hf4 : Fr [] w2 w3 := (Fr.refl _ _).drew.trans0 hf3
    have hR3 := HRa.out.fr0 hf4
    have hF3 : FlS _ _ _ _ _ _ _ _ _ _ _ := HFa.out.fr0 hf4
    have hP3 : Pcs _ _ _ _ _ := HPa.out.fr0 hf4
    have hfw := Hfa.out.trans0 hf4
    have e6 : w3.cell? ⟨fb, 6, none⟩ = some (.int .i64 (r : Nat)) := hF3.cell 6
    rename (w3.cell? _ = _ ∧ w3.cell? _ = _) => hHeld
    clear hHeld hf3 hf4 HRa HFa HPa Hfa f6a g8 g5 HOFF
    have HR3 := Lib.hid hR3
    have HF3 := Lib.hid hF3
    have HP3 := Lib.hid hP3
    have HFW := Lib.hid hfw
    clear hR3 hF3 hP3 hfw
    obtain ⟨d, hd⟩ : ∃ d, q = r + d := ⟨q - r, by omega⟩
    have hdI : (q : Int) - (r : Int) = (d : Int) := by omega
    have hd1 : 1 ≤ d := by omega
    have HD := Lib.hid hd
    clear hd
    have hroom := HS.out.room t0 htK
    have hdq : d ≤ q := by have := HD.out; omega
    obtain ⟨i0, z0, hi0, hz0, hs0, _, hz1⟩ := info133_parts
    have hfpb : fb ∉ [pb] := by simp; omega
    go_upto_if 73 with (fail)
    go_cut [9] from 73 to 100 (fun s9 w4 => s9 = .slice (some ⟨pb, 0, none⟩) 1 c ∧ Fr [pb] w3 w4 ∧ Pcs w4 pb c (fun k => if k = 0 then off t0 + r else 0) (fun k => if k = 0 then min sz d else 0))
    case first =>
      by_cases hds : sz ≤ d
      · have hdsB : decide ((sz : Int) ≤ (d : Int)) = true := by simp; omega
        have hmin : min sz d = sz := by omega
        have HMIN := Lib.hid hmin
        clear hmin
        go_wp2_with (first
          | (refine wpList_build_one rfl 130 133 (.tmp 82) rfl #[I64 (off t0 + r), I64 sz] rfl Tryd.underlying130 i0 z0 hi0 hz0 2 hs0 rfl (by decide) (by decide) ?_)
          | (at_builtin; (refine wpList_app_piece rfl (.tmp 74) (.tmp 83) rfl pb 0 c _ _ rfl w3.heap.size rfl (off t0 + r) sz (HP3.out.alloc _) (Blk.new' _ _ _) hc0 ?_)))
        intro w4 hf4 hP4
        have HH := Lib.hid (And.intro (((Fr.refl [pb] w3).alloc _).trans_same hf4) hP4)
        clear hf4 hP4
        go_wp2_with fail
        go_meet
        case rel => exact ⟨rfl, HH.out.1, by rw [HMIN.out]; exact HH.out.2⟩
      · have hdsB : decide ((sz : Int) ≤ (d : Int)) = false := by simp; omega
        have hmin : min sz d = d := by omega
        have HMIN := Lib.hid hmin
        clear hmin
        have hN18 : Blk ((w3.alloc (Obj.cells #[.int .i64 (IntKind.i64.wrap ((off t0 : Int) + (r : Int))), .int .i64 (IntKind.i64.wrap (d : Int))] 133)).drew) w3.heap.size 133 [I64 (off t0 + r), I64 d] := by
          have e1 : IntKind.i64.wrap ((off t0 : Int) + (r : Int)) = ((off t0 + r : Nat) : Int) := by rw [IntWalk.i64_in _ (by omega)]; push_cast; rfl
          have e2 : IntKind.i64.wrap (d : Int) = (d : Int) := IntWalk.i64_in _ (by omega)
          rw [e1, e2]
          exact (Blk.new' w3 133 _).drew
        go_upto_region 18 with (fail)
        go_region_held3 (fun w' => w'.cell? ⟨fb, 6, none⟩ = some (.int .i64 (r : Nat))) (first | go_keep | exact hk6)
          (first
          | (refine wpList_build_one rfl 130 133 (.tmp 98) rfl #[I64 (off t0 + r), I64 d] rfl Tryd.underlying130 i0 z0 hi0 hz0 2 hs0 rfl (by decide) (by decide) ?_)
          | ((refine step_app_piece rfl (.tmp 85) (.tmp 99) rfl pb 0 c _ _ rfl w3.heap.size rfl (off t0 + r) d (HP3.out.alloc _).drew hN18 hc0 ?_; intro w4 hf4 hP4; have hk6 : w4.cell? ⟨fb, 6, none⟩ = some (.int .i64 (r : Nat)) := hf4.cell hfpb (((Fr.refl [] w3).alloc _).drew.cell0 e6))))
        have HH := Lib.hid (And.intro ((((Fr.refl [pb] w3).alloc _).drew).trans_same hf4) hP4)
        rename (World.cell? w4 _ = _) => hHeld
        clear hf4 hP4 hHeld
        go_wp2_with fail
        go_meet
        case rel => exact ⟨rfl, HH.out.1, by rw [HMIN.out]; exact HH.out.2⟩
    case rest =>
    obtain ⟨rfl, hf4, hP4⟩ := hcut
    have hR4 := HR3.out.fr hf4 (fun x hx => by have := HBL.out x hx; simp; omega)
    have hF4 : FlS _ _ _ _ _ _ _ _ _ _ _ := HF3.out.fr hf4 hfpb
    have e6 : wc.cell? ⟨fb, 6, none⟩ = some (.int .i64 (r : Nat)) := hF4.cell 6
    have e5 : wc.cell? ⟨fb, 5, none⟩ = some (.int .u32 (ch t0 : Nat)) := hF4.cell 5
    have e8 : wc.cell? ⟨fb, 8, none⟩ = some (.pointer (some ⟨R.rb, 0, none⟩)) := hF4.cell 8
    have z6 := hF4.frozen 6
    have hnx : ∀ w', Fr [] wc w' → _ := fun w' f => next_str (hR4.fr0 f) HS.out t0 htK
    have HNX := Lib.hid hnx
    have HF4 := Lib.hid hF4
    have HP4 := Lib.hid hP4
    have HFW4 := Lib.hid hf4
    clear hnx hR4 hF4 hP4 hf4
    go_upto_if 108 with (fail)
    go_cut [11] from 108 to 146 (fun s11 w5 => Fr [fb] wc w5 ∧ ((d ≤ sz ∧ s11 = .int .i64 d ∧ FlS w5 fb nm ini pv len i (ch (t0 + 1)) 0 dk R.rb) ∨ (sz < d ∧ s11 = .int .i64 0 ∧ FlS w5 fb nm ini pv len i (ch t0) (r + sz) dk R.rb)))
    case first =>
      by_cases hds : d ≤ sz
      · have hdsB : decide ((d : Int) ≤ (sz : Int)) = true := by simp; omega
        go_upto_region 20 with (fail)
        go_cut [13] from 108 to 124 (fun s13 w5 => s13 = .nilIface ∧ Fr [fb] wc w5 ∧ FlS w5 fb nm ini pv len i (ch (t0 + 1)) r dk R.rb)
        case first =>
          go_region_with (refine (HNX.out _ (Fr.refl _ _).drew).mono ?_; rintro e w5 ⟨rfl, hf5⟩; have c5 : w5.cell? ⟨fb, 5, none⟩ = some (.int .u32 (ch t0 : Nat)) := hf5.cell0 e5; have z5 : w5.frozen? ⟨fb, 5, none⟩ = false := (HF4.out.drew.fr0 hf5).frozen 5)
          all_goals
            go_wp2_with fail
            go_meet
            case rel => exact ⟨rfl, ((Fr.refl [fb] wc).drew.trans0 hf5).setCell (.inl (by simp)) _, FlS.cur (HF4.out.drew.fr0 hf5) _⟩
        case rest =>
        obtain ⟨rfl, hf5, hF5⟩ := hcut
        have k6 : wc.cell? ⟨fb, 6, none⟩ = some (.int .i64 (r : Nat)) := hF5.cell 6
        have y6 := hF5.frozen 6
        have HH := Lib.hid (And.intro hf5 hF5)
        clear hf5 hF5
        go_wp2_with fail
        go_meet
        case rel => exact ⟨HH.out.1.setCell (.inl (by simp)) _, .inl ⟨hds, rfl, HH.out.2.rem 0⟩⟩
      · have hdsB : decide ((d : Int) ≤ (sz : Int)) = false := by simp; omega
        go_wp2_with fail
        go_meet
        case rel => exact ⟨(Fr.refl [fb] wc).setCell (.inl (by simp)) _, .inr ⟨by omega, rfl, HF4.out.rem (r + sz)⟩⟩
    case rest =>
    obtain ⟨hf5, h5⟩ := hcut
    have hP5 : Pcs _ _ _ _ _ := HP4.out.fr hf5 (by simp; omega)
    have hsw := HFW.out.size
    have hfw5 : Fr [fb] w wc := ((HFW.out.trans HFW4.out (ms := []) (by simp; omega)).mono (by simp)).trans_same hf5
    have p1 : wc.cell? ⟨pb, 1, none⟩ = some (I64 (min sz d)) := by
      have := hP5.l 0 hc0
      rw [if_pos rfl, Nat.zero_mul, Nat.zero_add] at this
      exact this
    have hg : ∀ x, x < min sz d → off ((i + x) / q) + (i + x) % q = off t0 + r + x := by
      intro x hx
      have hq1 := HQT.out
      have hD := HD.out
      have e1 : (i + x) / q = t0 := by
        rw [← hq1, show t0 * q + r + x = (r + x) + t0 * q by omega, Nat.add_mul_div_right _ _ (by omega), Nat.div_eq_of_lt (by omega), Nat.zero_add]
      have e2 : (i + x) % q = r + x := by
        rw [← hq1, show t0 * q + r + x = (r + x) + t0 * q by omega, Nat.add_mul_mod_self_right, Nat.mod_eq_of_lt (by omega)]
      rw [e1, e2]
      omega
    have hcov : Cov (fun p => off (p / q) + p % q) (fun k => if k = 0 then off t0 + r else 0) (fun k => if k = 0 then min sz d else 0) 1 i (i + min sz d) :=
      (Cov.zero _ (fun _ => 0) (fun _ => 0) i).snoc (by omega) hg (fun k hk => absurd hk (Nat.not_lt_zero _)) (fun k hk => absurd hk (Nat.not_lt_zero _)) rfl rfl
    have hbnd : ∀ k, k < 1 → (if k = 0 then off t0 + r else 0) + (if k = 0 then min sz d else 0) ≤ R.n := by
      intro k hk
      have hD := HD.out
      rw [if_pos (by omega), if_pos (by omega)]
      omega
    by_cases hds : d < sz
    · rcases h5 with ⟨_, rfl, hF5⟩ | ⟨hx, _, _⟩
      · have hmin : min sz d = d := by omega
        have hneB : ((d : Int) == (sz : Int)) = false := by simp; omega
        have hqt := HQT.out
        have hD := HD.out
        have ht1 : (t0 + 1) * q = t0 * q + q := Nat.succ_mul _ _
        have htK1 : t0 + 1 < K := by
          have := HS.out.cover
          have h3 : (t0 + 1) * q < K * q := by omega
          exact Nat.lt_of_mul_lt_mul_right h3
        have hlow := HS.out.low (t0 + 1) htK1
        have hneC : (((ch (t0 + 1) : Nat) : Int) == 4294967294) = false := by simp; omega
        have c5 : wc.cell? ⟨fb, 5, none⟩ = some (.int .u32 (ch (t0 + 1) : Nat)) := hF5.cell 5
        rw [hmin] at p1
        rw [hmin] at hcov
        have HH := Lib.hid (And.intro hfw5 (And.intro hP5 (And.intro hcov (And.intro hbnd hF5))))
        have HT := Lib.hid (show i + d = (t0 + 1) * q by omega)
        have HMIN := Lib.hid hmin
        clear hfw5 hP5 hcov hbnd hF5 hg hf5 hmin hqt hD ht1
        go_wp2_with fail
        go_meet
        case rel =>
          obtain ⟨a1, a2, a3, a4, a5⟩ := HH.out
          exact ⟨1, d, t0 + 1, _, _, rfl, rfl, rfl, HT.out, hds, Nat.le_add_left 1 _, a1, a2, by rw [HMIN.out]; exact a3, a4, a5⟩
      · omega
    · have hmin : min sz d = sz := by omega
      have heqB : ((sz : Int) == (sz : Int)) = true := by simp
      rw [hmin] at p1
      rw [hmin] at hcov
      have hqt := HQT.out
      have hD := HD.out
      have ht1 : (t0 + 1) * q = t0 * q + q := Nat.succ_mul _ _
      have hfin : ∃ t r', i + sz = t * q + r' ∧ r' < q ∧ FlS wc fb nm ini pv len i (ch t) r' dk R.rb := by
        rcases h5 with ⟨_, _, hF5⟩ | ⟨_, _, hF5⟩
        · exact ⟨t0 + 1, 0, by omega, by omega, hF5⟩
        · exact ⟨t0, r + sz, by omega, by omega, hF5⟩
      have HH := Lib.hid (And.intro hfw5 (And.intro hP5 (And.intro hcov (And.intro hbnd hfin))))
      clear hfw5 hP5 hcov hbnd hfin hg hf5 hqt hD ht1
      have HMIN := Lib.hid hmin
      clear hmin
      rcases h5 with ⟨_, rfl, _⟩ | ⟨_, rfl, _⟩
      · go_wp2_with fail
        go_ret2
        obtain ⟨a1, a2, a3, a4, a5⟩ := HH.out
        exact ⟨pb, 1, c, _, _, rfl, a1, hpb, a2, Nat.le_refl 1, by omega, by omega, by rw [HMIN.out]; exact a3, a4, a5⟩
      · go_wp2_with fail
        go_ret2
        obtain ⟨a1, a2, a3, a4, a5⟩ := HH.out
        exact ⟨pb, 1, c, _, _, rfl, a1, hpb, a2, Nat.le_refl 1, by omega, by omega, by rw [HMIN.out]; exact a3, a4, a5⟩
  case rest =>
  obtain ⟨m, j, t, o, l, rfl, rfl, rfl, ht, hj, hm, hfw, hP, hcov, hb, hF⟩ := hcut
  have hsw := Hfa.out.size
  have hR0 : ∀ w', Fr [fb] w w' → RdS w' R F := fun w' f => HRw.out.fr f (fun x hx => by simp; rintro rfl; exact hfb hx)
  have HR0 := Lib.hid hR0
  clear hR0
  clear HRa HFa HPa Hfa f6a hmk
  rename (∀ (a : Act) (w : World), Code.wp Tryd.prog _ _ a w → _) => hK
  refine hK _ _ ?_
  clear hK
  refine wp_block ?_
  go_loopw [9, 10, 11] (fun s9 s10 s11 wr => ∃ (m j t : Nat) (o l : Nat → Nat), s9 = .slice (some ⟨pb, 0, none⟩) m c ∧ s10 = .int .i64 m ∧ s11 = .int .i64 j ∧ i + j = t * q ∧ j < sz ∧ m ≤ j / q + 1 ∧ Fr [fb] w wr ∧ Pcs wr pb c o l ∧
    Cov (fun p => off (p / q) + p % q) o l m i (i + j) ∧ (∀ k, k < m → o k + l k ≤ R.n) ∧ FlS wr fb nm ini pv len i (ch t) 0 dk R.rb) (fun _ _ s11 _ => sz - (intOf s11).toNat)
  case atStart => exact ⟨m, j, t, o, l, rfl, rfl, rfl, ht, hj, hm, hfw, hP, hcov, hb, hF⟩
  case round =>
    clear ht hj hm hfw hP hcov hb hF
    obtain ⟨m, j, t, o, l, rfl, rfl, rfl, ht, hj, hm, hfw, hP, hcov, hb, hF⟩ := hrel
    have hmc : m < c := by
      have h3 := HC.out
      have h4 := Nat.div_le_div_right (c := q) (show j ≤ sz by omega)
      omega
    have hcB : decide ((c : Int) ≤ (m : Int)) = false := by simp; omega
    have htK : t < K := by
      have := HS.out.cover
      have h3 : t * q < K * q := by omega
      exact Nat.lt_of_mul_lt_mul_right h3
    have e5 : wr.cell? ⟨fb, 5, none⟩ = some (.int .u32 (ch t : Nat)) := hF.cell 5
    have e8 : wr.cell? ⟨fb, 8, none⟩ = some (.pointer (some ⟨R.rb, 0, none⟩)) := hF.cell 8
    have hRr := HR0.out wr hfw
    have hoff : ∀ w', Fr [] wr w' → _ := fun w' f => off_str (hRr.fr0 f) HS.out t htK
    have HOFF := Lib.hid hoff
    have HT := Lib.hid ht
    have HFW := Lib.hid hfw
    have HP := Lib.hid hP
    have HCOV := Lib.hid hcov
    have HB := Lib.hid hb
    have HF := Lib.hid hF
    have HM := Lib.hid hm
    have HRR := Lib.hid hRr
    have hroom := HS.out.room t htK
    have hg : ∀ x, x < q → off ((i + j + x) / q) + (i + j + x) % q = off t + x := by
      intro x hx
      have e1 : (i + j + x) / q = t := by
        rw [ht, show t * q + x = x + t * q by omega, Nat.add_mul_div_right _ _ (by omega), Nat.div_eq_of_lt (by omega), Nat.zero_add]
      have e2 : (i + j + x) % q = x := by
        rw [ht, show t * q + x = x + t * q by omega, Nat.add_mul_mod_self_right, Nat.mod_eq_of_lt (by omega)]
      rw [e1, e2]
    have HG := Lib.hid hg
    obtain ⟨i0, z0, hi0, hz0, hs0, _, hz1⟩ := info133_parts
    have hfpb : fb ∉ [pb] := by simp; omega
    clear hoff ht hfw hP hcov hb hF hm hRr hg
    obtain ⟨u, hu⟩ : ∃ u, sz = j + u := ⟨sz - j, by omega⟩
    have huI : (sz : Int) - (j : Int) = (u : Int) := by omega
    have HU := Lib.hid hu
    clear hu
    go_upto_region 33 with (fail)
    go_region_held3 (fun w' => w'.cell? ⟨fb, 8, none⟩ = some (.pointer (some ⟨R.rb, 0, none⟩)) ∧ w'.cell? ⟨fb, 5, none⟩ = some (.int .u32 (ch t : Nat))) (first | go_keep | exact ⟨hf3.cell0 e8, hf3.cell0 e5⟩)
      (first | (go_at_call 64; refine (HOFF.out _ (Fr.refl _ _).drew).mono ?_; rintro e w3 ⟨rfl, hf3⟩))
    have hf4 : Fr [] wr w3 := (Fr.refl _ _).drew.trans0 hf3
    have hP3 : Pcs _ _ _ _ _ := HP.out.fr0 hf4
    have hF3 : FlS _ _ _ _ _ _ _ _ _ _ _ := HF.out.fr0 hf4
    have hR3 := HRR.out.fr0 hf4
    have hfw3 := HFW.out.trans0 hf4
    rename (World.cell? w3 _ = _ ∧ World.cell? w3 _ = _) => hHeld
    clear hHeld hf3 hf4 e5 e8 HOFF HP HF HRR HFW
    have HP3 := Lib.hid hP3
    have HF3 := Lib.hid hF3
    have HR3 := Lib.hid hR3
    have HFW3 := Lib.hid hfw3
    have z6 := hF3.frozen 6
    have c6 : w3.cell? ⟨fb, 6, none⟩ = some (.int .i64 (0 : Nat)) := hF3.cell 6
    clear hP3 hF3 hR3 hfw3
    by_cases huq : u < q
    · have huB : decide ((u : Int) < (q : Int)) = true := by simp; omega
      go_wp2_with (first
        | (refine wpList_build_one rfl 130 133 (.tmp 201) rfl #[I64 (off t), I64 u] rfl Tryd.underlying130 i0 z0 hi0 hz0 2 hs0 rfl (by decide) (by decide) ?_)
        | (at_builtin; (refine wpList_app_piece rfl (.tmp 196) (.tmp 202) rfl pb m c _ _ rfl w3.heap.size rfl (off t) u (HP3.out.alloc _) (Blk.new' _ _ _) hmc ?_)))
      intro w4 hf4 hP4
      have hf34 : Fr [pb] w3 w4 := ((Fr.refl [pb] w3).alloc _).trans_same hf4
      have hF4 : FlS _ _ _ _ _ _ _ _ _ _ _ := HF3.out.fr hf34 hfpb
      have d6 : w4.cell? ⟨fb, 6, none⟩ = some (.int .i64 (0 : Nat)) := hF4.cell 6
      have y6 := hF4.frozen 6
      have hF5 := hF4.rem u
      have hP5 : Pcs (w4.setCell ⟨fb, 6, none⟩ (.int .i64 (u : Nat))) pb c _ _ := Blk.setOther hP4 (by simp; omega) _
      have hfw5 : Fr [fb] w (w4.setCell ⟨fb, 6, none⟩ (.int .i64 (u : Nat))) := ((HFW3.out.trans (ms' := [pb]) (ms := [fb]) hf34 (by simp; omega))).setCell (.inl (by simp)) _
      have hu := HU.out
      have hu1 : 1 ≤ u := by omega
      have hcov5 : Cov (fun p => off (p / q) + p % q) (fun k => if k = m then off t else o k) (fun k => if k = m then u else l k) (m + 1) i (i + sz) := by
        have := HCOV.out.snoc (o' := fun k => if k = m then off t else o k) (l' := fun k => if k = m then u else l k) hu1 (fun x hx => HG.out x (by omega)) (fun k hk => if_neg (by omega)) (fun k hk => if_neg (by omega)) (if_pos rfl) (if_pos rfl)
        rw [show i + sz = i + j + u by omega]
        exact this
      have hb5 : ∀ k, k < m + 1 → (fun k => if k = m then off t else o k) k + (fun k => if k = m then u else l k) k ≤ R.n := by
        intro k hk
        dsimp only
        by_cases hkm : k = m
        · rw [if_pos hkm, if_pos hkm]; omega
        · rw [if_neg hkm, if_neg hkm]; exact HB.out k (by omega)
      have hlast : ∃ t' r', i + sz = t' * q + r' ∧ r' < q ∧ FlS (w4.setCell ⟨fb, 6, none⟩ (.int .i64 (u : Nat))) fb nm ini pv len i (ch t') r' dk R.rb := ⟨t, u, by have := HT.out; omega, huq, hF5⟩
      have hcmp := compress_any pb (m + 1) c R.n i (i + sz) _ _ _ _ hP5 (by omega) (by omega) (by omega) (by omega) hcov5 hb5
      have HH := Lib.hid (And.intro hfw5 hlast)
      have HCMP := Lib.hid hcmp
      clear hf4 hP4 hf34 hF4 hF5 hP5 hfw5 hcov5 hb5 hlast hcmp hu
      go_wp2_with fail
      refine HCMP.out.mono ?_
      rintro e w6 ⟨n', o', l', rfl, hf6, hP6, hn1', hn2', hcov6, hb6⟩
      have HQ := Lib.hid (And.intro hf6 (And.intro hP6 (And.intro hcov6 hb6)))
      clear hf6 hP6 hcov6 hb6
      go_wp2_with fail
      go_ret2
      obtain ⟨a1, a2, a3, a4⟩ := HQ.out
      obtain ⟨b1, t', r', b2, b3, b4⟩ := HH.out
      exact ⟨pb, n', c, o', l', rfl, b1.trans a1 (by simp; omega), hpb, a2, hn1', by omega, by omega, a3, a4, t', r', b2, b3, b4.fr a1 hfpb⟩
    · have huB : decide ((u : Int) < (q : Int)) = false := by simp; omega
      go_wp2_with (first
        | (refine wpList_build_one rfl 130 133 (.tmp 215) rfl #[I64 (off t), I64 q] rfl Tryd.underlying130 i0 z0 hi0 hz0 2 hs0 rfl (by decide) (by decide) ?_)
        | (at_builtin; (refine wpList_app_piece rfl (.tmp 212) (.tmp 216) rfl pb m c _ _ rfl w3.heap.size rfl (off t) q (HP3.out.alloc _) (Blk.new' _ _ _) hmc ?_)))
      intro w4 hf4 hP4
      have hf34 : Fr [pb] w3 w4 := ((Fr.refl [pb] w3).alloc _).trans_same hf4
      have hF4 : FlS _ _ _ _ _ _ _ _ _ _ _ := HF3.out.fr hf34 hfpb
      have hR4 := HR3.out.fr hf34 (fun x hx => by have := HBL.out x hx; simp; omega)
      have hfw4 : Fr [fb] w w4 := HFW3.out.trans (ms' := [pb]) (ms := [fb]) hf34 (by simp; omega)
      have hu := HU.out
      have hcov5 : Cov (fun p => off (p / q) + p % q) (fun k => if k = m then off t else o k) (fun k => if k = m then q else l k) (m + 1) i (i + (j + q)) := by
        have := HCOV.out.snoc (o' := fun k => if k = m then off t else o k) (l' := fun k => if k = m then q else l k) (by omega) HG.out (fun k hk => if_neg (by omega)) (fun k hk => if_neg (by omega)) (if_pos rfl) (if_pos rfl)
        rw [show i + (j + q) = i + j + q by omega]
        exact this
      have hb5 : ∀ k, k < m + 1 → (fun k => if k = m then off t else o k) k + (fun k => if k = m then q else l k) k ≤ R.n := by
        intro k hk
        dsimp only
        by_cases hkm : k = m
        · rw [if_pos hkm, if_pos hkm]; exact hroom
        · rw [if_neg hkm, if_neg hkm]; exact HB.out k (by omega)
      have d5 : w4.cell? ⟨fb, 5, none⟩ = some (.int .u32 (ch t : Nat)) := hF4.cell 5
      have d8 : w4.cell? ⟨fb, 8, none⟩ = some (.pointer (some ⟨R.rb, 0, none⟩)) := hF4.cell 8
      have hnx : ∀ w', Fr [] w4 w' → _ := fun w' f => next_str (hR4.fr0 f) HS.out t htK
      have HNX := Lib.hid hnx
      have HF4 := Lib.hid hF4
      have HP4 := Lib.hid hP4
      have HFW4 := Lib.hid hfw4
      have HCOV5 := Lib.hid hcov5
      have HB5 := Lib.hid hb5
      clear hnx hR4 hF4 hP4 hf4 hf34 hfw4 hcov5 hb5 hu c6 z6
      go_upto_region 42 with (fail)
      go_cut [15] from 221 to 236 (fun s15 w5 => s15 = .nilIface ∧ Fr [fb] w4 w5 ∧ FlS w5 fb nm ini pv len i (ch (t + 1)) 0 dk R.rb)
      case first =>
        go_region_with (refine (HNX.out _ (Fr.refl _ _).drew).mono ?_; rintro e w5 ⟨rfl, hf5⟩; have c5 : w5.cell? ⟨fb, 5, none⟩ = some (.int .u32 (ch t : Nat)) := hf5.cell0 d5; have z5 : w5.frozen? ⟨fb, 5, none⟩ = false := (HF4.out.drew.fr0 hf5).frozen 5)
        all_goals
          go_wp2_with fail
          go_meet
          case rel => exact ⟨rfl, ((Fr.refl [fb] w4).drew.trans0 hf5).setCell (.inl (by simp)) _, FlS.cur (HF4.out.drew.fr0 hf5) _⟩
      case rest =>
      obtain ⟨rfl, hf5, hF5⟩ := hcut
      have hP5 : Pcs _ _ _ _ _ := HP4.out.fr hf5 (by simp; omega)
      have hfw5 := HFW4.out.trans_same hf5
      have ht1 : (t + 1) * q = t * q + q := Nat.succ_mul _ _
      clear hf5 d5 d8 HNX
      by_cases hqu : q = u
      · have heB : ((j : Int) + (q : Int) == (sz : Int)) = true := by have := HU.out; simp; omega
        have hu := HU.out
        have hcov5 : Cov (fun p => off (p / q) + p % q) (fun k => if k = m then off t else o k) (fun k => if k = m then q else l k) (m + 1) i (i + sz) := by
          have := HCOV5.out
          rw [show i + (j + q) = i + sz by omega] at this
          exact this
        have hlast : ∃ t' r', i + sz = t' * q + r' ∧ r' < q ∧ FlS wc fb nm ini pv len i (ch t') r' dk R.rb := ⟨t + 1, 0, by have := HT.out; omega, by omega, hF5⟩
        have hcmp := compress_any pb (m + 1) c R.n i (i + sz) _ _ _ _ hP5 (by omega) (by omega) (by omega) (by omega) hcov5 HB5.out
        have HH := Lib.hid (And.intro hfw5 hlast)
        have HCMP := Lib.hid hcmp
        clear hF5 hP5 hfw5 hcov5 hlast hcmp hu ht1 hqu
        go_wp2_with fail
        refine HCMP.out.mono ?_
        rintro e w6 ⟨n', o', l', rfl, hf6, hP6, hn1', hn2', hcov6, hb6⟩
        have HQ := Lib.hid (And.intro hf6 (And.intro hP6 (And.intro hcov6 hb6)))
        clear hf6 hP6 hcov6 hb6
        go_wp2_with fail
        go_ret2
        obtain ⟨a1, a2, a3, a4⟩ := HQ.out
        obtain ⟨b1, t', r', b2, b3, b4⟩ := HH.out
        exact ⟨pb, n', c, o', l', rfl, b1.trans a1 (by simp; omega), hpb, a2, hn1', by omega, by omega, a3, a4, t', r', b2, b3, b4.fr a1 hfpb⟩
      · have heB : ((j : Int) + (q : Int) == (sz : Int)) = false := by have := HU.out; simp; omega
        have HH := Lib.hid (And.intro hfw5 (And.intro hP5 hF5))
        have hT1 : i + (j + q) = (t + 1) * q := by have := HT.out; omega
        have HT1 := Lib.hid hT1
        clear hfw5 hP5 hF5 ht1 hT1
        go_wp2_with fail
        go_roundw
        case rel =>
          obtain ⟨a1, a2, a3⟩ := HH.out
          refine ⟨m + 1, j + q, t + 1, _, _, rfl, by go_num, by go_num, HT1.out, by have := HU.out; omega, ?_, a1, a2, HCOV5.out, HB5.out, a3⟩
          have := HM.out
          rw [Nat.add_div_right _ (by omega)]
          omega
        case measure => simp [intOf]; omega
end Go.Proofs.YtokpomdfgbbhlaaDoor

/- The contract of (*File).seek: the reading place goes on. -/
namespace Go.Proofs.YtokpomdfgbbhlaaDoor
open Go Go.RowKit Go.Maps

/-- What seek yields: the place in the chain is that of the new place. -/
def SkPost (fb : Nat) (nm : ByteArray) (ini : Nat) (pv : Value) (len i1 tp dk rb q : Nat) (ch : Nat → Nat) (w : World) (e : Ending) (w' : World) : Prop :=
  e = .returned .nilIface ∧ Fr [fb] w w' ∧ ∃ t r, t * q + r = tp ∧ r < q ∧ FlS w' fb nm ini pv len i1 (ch t) r dk rb

set_option maxRecDepth 100000 in
set_option maxHeartbeats 4000000 in
theorem seekf_any (R : RB) (F : Nat → UInt8) (mini : Bool) (q K len fb i i1 sz dk ini t0 r : Nat) (nm : ByteArray) (pv : Value) (ch off : Nat → Nat) (dat : Nat → UInt8) (w : World) (hR : RdS w R F) (hS : StrR R F mini q K len ch off dat)
    (hF : FlS w fb nm ini pv len i1 (ch t0) r dk R.rb) (hqt : t0 * q + r = i) (hrq : r < q) (hfb : fb ∉ R.bl) (h2 : i + sz < len) (hlen : len ≤ 100000) :
    Calls Tryd.prog 55 #[.pointer (some ⟨fb, 0, none⟩), .int .i64 (sz : Int)] w (SkPost fb nm ini pv len i1 (i + sz) dk R.rb q ch w) := by
  have hq64 : 64 ≤ q ∧ q ≤ 4096 := by
    have := hR.ss_
    rcases hS.kind with ⟨_, e, _⟩ | ⟨_, e, _⟩ <;> omega
  have hss4 := hR.ss_
  have hR0 : ∀ w', Fr [fb] w w' → RdS w' R F := fun w' f => hR.fr f (fun x hx => by simp; rintro rfl; exact hfb hx)
  have HR0 := Lib.hid hR0
  have HR := Lib.hid hR
  have HS := Lib.hid hS
  have HF := Lib.hid hF
  have HSS := Lib.hid hss4
  clear hR hS hF hss4 hR0
  go_enter Tryd.func55, Tryd.ntmps55
  have f3 : w.cell? ⟨fb, 3, none⟩ = some (.int .i64 (len : Nat)) := HF.out.cell 3
  go_upto_if 13 with (fail)
  go_cut [5, 6] from 13 to 21 (fun s5 s6 w2 => Fr [] w w2 ∧ s5 = .bool mini ∧ s6 = .int .i64 (q : Nat))
  case first =>
    have f8 : w.cell? ⟨fb, 8, none⟩ = some (.pointer (some ⟨R.rb, 0, none⟩)) := HF.out.cell 8
    have r1 := HR.out.c1
    rcases HS.out.kind with ⟨hm, hq, hl⟩ | ⟨hm, hq, hl⟩
    · have hlB : decide ((len : Int) < 4096) = true := by simp; omega
      subst hm
      subst hq
      go_wp2_with fail
      go_meet
      case rel => exact ⟨Fr.refl _ _, rfl, rfl⟩
    · have hlB : decide ((len : Int) < 4096) = false := by simp; omega
      have hsI : 512 ≤ (R.ss : Int) := by have := HSS.out; omega
      have hsI2 : (R.ss : Int) ≤ 4096 := by have := HSS.out; omega
      subst hm
      subst hq
      go_wp2_with fail
      go_meet
      case rel => exact ⟨Fr.refl _ _, rfl, rfl⟩
  case rest =>
  obtain ⟨hf1, rfl, rfl⟩ := hcut
  have hFa : FlS _ _ _ _ _ _ _ _ _ _ _ := HF.out.fr0 hf1
  have f6a : wc.cell? ⟨fb, 6, none⟩ = some (.int .i64 (r : Nat)) := hFa.cell 6
  have HFa := Lib.hid hFa
  have Hfa := Lib.hid hf1
  clear hFa hf1 HF HR f3
  go_upto_if 26 with (fail)
  go_cut [7] from 22 to 87 (fun s7 w3 => ∃ (j t : Nat), s7 = .int .i64 j ∧ i + j = t * q ∧ j ≤ sz ∧ Fr [fb] w w3 ∧ FlS w3 fb nm ini pv len i1 (ch t) 0 dk R.rb)
  case first =>
    have htK : t0 < K := by
      have := HS.out.cover
      have h3 : t0 * q < K * q := by omega
      exact Nat.lt_of_mul_lt_mul_right h3
    by_cases hr : r = 0
    · subst hr
      have HFP := Lib.hid (And.intro Hfa.out HFa.out)
      go_wp2_with fail
      go_meet
      case rel => exact ⟨0, t0, rfl, by omega, by omega, HFP.out.1.mono (by simp), HFP.out.2⟩
    have hrB : decide ((0 : Int) < (r : Int)) = true := by simp; omega
    obtain ⟨d, hd⟩ : ∃ d, q = r + d := ⟨q - r, by omega⟩
    have hdI : (q : Int) - (r : Int) = (d : Int) := by omega
    have hd1 : 1 ≤ d := by omega
    have HD := Lib.hid hd
    have HQT := Lib.hid hqt
    clear hd hqt
    have e5 : wc.cell? ⟨fb, 5, none⟩ = some (.int .u32 (ch t0 : Nat)) := HFa.out.cell 5
    have e8 : wc.cell? ⟨fb, 8, none⟩ = some (.pointer (some ⟨R.rb, 0, none⟩)) := HFa.out.cell 8
    have z6 := HFa.out.frozen 6
    by_cases hds : d ≤ sz
    · have hdsB : decide ((d : Int) ≤ (sz : Int)) = true := by simp; omega
      have hR1 := HR0.out wc (Hfa.out.mono (by simp))
      have hnx : ∀ w', Fr [] wc w' → _ := fun w' f => next_str (hR1.fr0 f) HS.out t0 htK
      have HNX := Lib.hid hnx
      clear hnx hR1
      go_upto_region 11 with (fail)
      go_cut [8] from 22 to 50 (fun s8 w5 => s8 = .nilIface ∧ Fr [fb] wc w5 ∧ FlS w5 fb nm ini pv len i1 (ch (t0 + 1)) r dk R.rb)
      case first =>
        go_region_with (refine (HNX.out _ (Fr.refl _ _).drew).mono ?_; rintro e w5 ⟨rfl, hf5⟩; have c5 : w5.cell? ⟨fb, 5, none⟩ = some (.int .u32 (ch t0 : Nat)) := hf5.cell0 e5; have z5 : w5.frozen? ⟨fb, 5, none⟩ = false := (HFa.out.drew.fr0 hf5).frozen 5)
        all_goals
          go_wp2_with fail
          go_meet
          case rel => exact ⟨rfl, ((Fr.refl [fb] wc).drew.trans0 hf5).setCell (.inl (by simp)) _, FlS.cur (HFa.out.drew.fr0 hf5) _⟩
      case rest =>
      obtain ⟨rfl, hf5, hF5⟩ := hcut
      have k6 : wc.cell? ⟨fb, 6, none⟩ = some (.int .i64 (r : Nat)) := hF5.cell 6
      have y6 := hF5.frozen 6
      have hF6 := hF5.rem 0
      have hfw6 : Fr [fb] w (wc.setCell ⟨fb, 6, none⟩ (.int .i64 (0 : Nat))) := ((Hfa.out.mono (by simp)).trans_same hf5).setCell (.inl (by simp)) _
      have hqt := HQT.out
      have hD := HD.out
      have ht1 : (t0 + 1) * q = t0 * q + q := Nat.succ_mul _ _
      have hid : i + d = (t0 + 1) * q := by omega
      have c56 : (wc.setCell ⟨fb, 6, none⟩ (.int .i64 0)).cell? ⟨fb, 5, none⟩ = some (.int .u32 (ch (t0 + 1) : Nat)) := hF6.cell 5
      have HH := Lib.hid (And.intro hfw6 (And.intro hF6 hid))
      by_cases hde : d = sz
      · have heB : ((d : Int) == (sz : Int)) = true := by simp [hde]
        have HDE := Lib.hid hde
        clear hf5 hF5 hF6 hfw6 hqt hD ht1 hid hde
        go_wp2_with fail
        go_ret
        refine ⟨rfl, HH.out.1, t0 + 1, 0, ?_, by omega, HH.out.2.1⟩
        have := HH.out.2.2
        have := HDE.out
        omega
      · have heB : ((d : Int) == (sz : Int)) = false := by simp; omega
        have htK1 : t0 + 1 < K := by
          have := HS.out.cover
          have h3 : (t0 + 1) * q < K * q := by omega
          exact Nat.lt_of_mul_lt_mul_right h3
        have hlow := HS.out.low (t0 + 1) htK1
        have hneC : (((ch (t0 + 1) : Nat) : Int) == 4294967294) = false := by simp; omega
        clear hf5 hF5 hF6 hfw6 hqt hD ht1 hid
        go_wp2_with fail
        go_meet
        case rel => exact ⟨d, t0 + 1, rfl, HH.out.2.2, hds, HH.out.1, HH.out.2.1⟩
    · have hdsB : decide ((d : Int) ≤ (sz : Int)) = false := by simp; omega
      have hF6 := HFa.out.rem (r + sz)
      have hfw6 : Fr [fb] w (wc.setCell ⟨fb, 6, none⟩ (.int .i64 ((r + sz : Nat) : Int))) := (Hfa.out.mono (by simp)).setCell (.inl (by simp)) _
      have HH := Lib.hid (And.intro hfw6 hF6)
      clear hF6 hfw6
      go_wp2_with fail
      go_ret
      exact ⟨rfl, HH.out.1, t0, r + sz, by have := HQT.out; omega, by have := HD.out; omega, HH.out.2⟩
  case rest =>
  obtain ⟨j, t, rfl, ht, hj, hfw, hF⟩ := hcut
  clear HFa Hfa f6a
  rename (∀ (a : Act) (w : World), Code.wp Tryd.prog _ _ a w → _) => hK
  refine hK _ _ ?_
  clear hK
  refine wp_block ?_
  go_loopw [7] (fun s7 wr => ∃ j t : Nat, s7 = .int .i64 j ∧ i + j = t * q ∧ j ≤ sz ∧ Fr [fb] w wr ∧ FlS wr fb nm ini pv len i1 (ch t) 0 dk R.rb) (fun s7 _ => sz + 1 - (intOf s7).toNat)
  case atStart => exact ⟨j, t, rfl, ht, hj, hfw, hF⟩
  case round =>
    clear ht hj hfw hF
    obtain ⟨j, t, rfl, ht, hj, hfw, hF⟩ := hrel
    have htK : t < K := by
      have := HS.out.cover
      have h3 : t * q < K * q := by omega
      exact Nat.lt_of_mul_lt_mul_right h3
    obtain ⟨u, hu⟩ : ∃ u, sz = j + u := ⟨sz - j, by omega⟩
    have huI : (sz : Int) - (j : Int) = (u : Int) := by omega
    have HU := Lib.hid hu
    have HT := Lib.hid ht
    clear hu ht
    by_cases huq : u < q
    · have huB : decide ((u : Int) < (q : Int)) = true := by simp; omega
      have c6 : wr.cell? ⟨fb, 6, none⟩ = some (.int .i64 (0 : Nat)) := hF.cell 6
      have z6 := hF.frozen 6
      have HH := Lib.hid (And.intro (hfw.setCell (p := ⟨fb, 6, none⟩) (.inl (by simp)) (.int .i64 ((u : Nat) : Int))) (hF.rem u))
      clear hfw hF
      go_wp2_with fail
      go_ret
      exact ⟨rfl, HH.out.1, t, u, by have := HT.out; have := HU.out; omega, huq, HH.out.2⟩
    · have huB : decide ((u : Int) < (q : Int)) = false := by simp; omega
      have hR1 := HR0.out wr hfw
      have hnx : ∀ w', Fr [] wr w' → _ := fun w' f => next_str (hR1.fr0 f) HS.out t htK
      have HNX := Lib.hid hnx
      have e5 : wr.cell? ⟨fb, 5, none⟩ = some (.int .u32 (ch t : Nat)) := hF.cell 5
      have e8 : wr.cell? ⟨fb, 8, none⟩ = some (.pointer (some ⟨R.rb, 0, none⟩)) := hF.cell 8
      have HF := Lib.hid hF
      have HFW := Lib.hid hfw
      clear hnx hR1 hF hfw
      go_upto_region 26 with (fail)
      go_cut [8] from 102 to 117 (fun s8 w5 => s8 = .nilIface ∧ Fr [fb] wr w5 ∧ FlS w5 fb nm ini pv len i1 (ch (t + 1)) 0 dk R.rb)
      case first =>
        go_region_with (refine (HNX.out _ (Fr.refl _ _).drew).mono ?_; rintro e w5 ⟨rfl, hf5⟩; have c5 : w5.cell? ⟨fb, 5, none⟩ = some (.int .u32 (ch t : Nat)) := hf5.cell0 e5; have z5 : w5.frozen? ⟨fb, 5, none⟩ = false := (HF.out.drew.fr0 hf5).frozen 5)
        all_goals
          go_wp2_with fail
          go_meet
          case rel => exact ⟨rfl, ((Fr.refl [fb] wr).drew.trans0 hf5).setCell (.inl (by simp)) _, FlS.cur (HF.out.drew.fr0 hf5) _⟩
      case rest =>
      obtain ⟨rfl, hf5, hF5⟩ := hcut
      have hfw5 := HFW.out.trans_same hf5
      have ht1 : (t + 1) * q = t * q + q := Nat.succ_mul _ _
      have hT1 : i + (j + q) = (t + 1) * q := by have := HT.out; omega
      have HH := Lib.hid (And.intro hfw5 (And.intro hF5 hT1))
      clear hf5 hF5 hfw5 ht1 hT1 e5 e8
      by_cases hqu : q = u
      · have heB : ((j : Int) + (q : Int) == (sz : Int)) = true := by have := HU.out; simp; omega
        have HQU := Lib.hid hqu
        clear hqu
        go_wp2_with fail
        go_ret
        exact ⟨rfl, HH.out.1, t + 1, 0, by have := HH.out.2.2; have := HU.out; have := HQU.out; omega, by omega, HH.out.2.1⟩
      · have heB : ((j : Int) + (q : Int) == (sz : Int)) = false := by have := HU.out; simp; omega
        go_wp2_with fail
        go_roundw
        case rel => exact ⟨j + q, t + 1, by go_num, HH.out.2.2, by have := HU.out; omega, HH.out.1, HH.out.2.1⟩
        case measure => simp [intOf]; have := HU.out; omega
end Go.Proofs.YtokpomdfgbbhlaaDoor

/- FnCodes: a file with another byte of its signature or size of sectors is an error of its format, a short one an error of reading (part 7 of 12). No condition but the statement's own. -/
import Derived.BigQuiet
import Derived.Deep.QuietTactic
import Derived.Test.YtokpomdfgbbhlaaDoorCdf
set_option linter.all false
set_option linter.unusedVariables false
set_option linter.unusedSimpArgs false
set_option linter.unnecessarySimpa false
/- Reading past a file's end. -/
namespace Go.Proofs.YtokpomdfgbbhlaaDoor
open Go Go.RowKit

set_option maxRecDepth 100000 in
set_option maxHeartbeats 400000 in
theorem rdAt_empty (rb pb m pc cap : Nat) (a : Option Addr) (ev : Value) (w : World) 
    (hr : w.cell? ⟨rb, 0, none⟩ = some (.slice a 0 cap)) (hev : w.cell? ⟨0, 0, none⟩ = some ev) :
    Calls Tryd.prog 97 #[.pointer (some ⟨rb, 0, none⟩), .slice (some ⟨pb, 0, none⟩) m pc, .int .i64 0] w fun e w' =>
      e = .returned (.tuple #[.int .i64 0, ev]) ∧ Fr [] w w' := by
  go_enter Tryd.func97, Tryd.ntmps97
  go_upto_region 4 with (fail)
  go_quiet (fail)
  go_wp2_with fail
  exact bodyPost_ret (v := .tuple #[.int .i64 0, ev]) (by simp [results, Tryd.results97, go_sem]) rfl ⟨rfl, (Fr.refl _ _).drewN _⟩

set_option maxRecDepth 100000 in
set_option maxHeartbeats 400000 in
theorem rdAt_short (rb pb m pc bb n cap : Nat) (ev : Value) (F : Nat → UInt8) (l : List Value) (w : World) (hn1 : 1 ≤ n) (hm : n < m) (hmb : m ≤ 4096) (hn : n ≤ cap) (hrb : rb ≠ pb) (h0 : pb ≠ 0)
    (hr : w.cell? ⟨rb, 0, none⟩ = some (.slice (some ⟨bb, 0, none⟩) n cap)) (hev : w.cell? ⟨0, 0, none⟩ = some ev)
    (hF : ∀ i, i < n → w.cell? ⟨bb, i, none⟩ = some (U8 (F i)))
    (hl : Blk w pb 5 l) (hpo : m ≤ l.length) :
    Calls Tryd.prog 97 #[.pointer (some ⟨rb, 0, none⟩), .slice (some ⟨pb, 0, none⟩) m pc, .int .i64 0] w fun e w' =>
      e = .returned (.tuple #[.int .i64 n, ev]) ∧ Fr [pb] w w' := by
  have hne : ¬ cap = 0 := by omega
  have hne2 : ¬ n = 0 := by omega
  have hnI : (n : Int) < (m : Int) := by omega
  go_enter Tryd.func97, Tryd.ntmps97
  go_wp2_with (with_reducible refine wpList_copy_blk rfl (.tmp 19) (.tmp 25) 23 23 rfl 5 Tryd.underlying23 (by kernel_rfl) _ _ _ _ _ _ rfl rfl pb 0 l 5 ?_ n (fun i => U8 (F i)) ?_ ?_ ?_ ?_ ?_)
  · exact hl
  · omega
  · intro _ j hj
    exact hF j hj
  · omega
  · intro j _; rfl
  · intro w1 hf1 hb1
    have he1 : w1.cell? ⟨0, 0, none⟩ = some ev := hf1.cell (by simpa using Ne.symm h0) hev
    have HF := Lib.hid hf1
    clear hf1 hb1
    go_wp2_with fail
    exact bodyPost_ret (v := .tuple #[.int .i64 n, ev]) (by simp [results, Tryd.results97, go_sem]) rfl ⟨rfl, HF.out⟩

set_option maxRecDepth 100000 in
set_option maxHeartbeats 400000 in
/-- (*store).ReadAt past the end: what the reader says. -/
theorem stAt_short (sb pb m pc bb n cap : Nat) (a : Option Addr) (ev : Value) (F : Nat → UInt8) (l : List Value) (w : World) (hm : n < m) (hmb : m ≤ 4096) (hn : n ≤ cap) (ha : 0 < n → a = some ⟨bb, 0, none⟩) (h0 : pb ≠ 0)
    (hr : w.cell? ⟨sb, 0, none⟩ = some (.slice a n cap)) (hev : w.cell? ⟨0, 0, none⟩ = some ev)
    (hF : ∀ i, i < n → w.cell? ⟨bb, i, none⟩ = some (U8 (F i)))
    (hl : Blk w pb 5 l) (hpo : m ≤ l.length) :
    Calls Tryd.prog 94 #[.pointer (some ⟨sb, 0, none⟩), .slice (some ⟨pb, 0, none⟩) m pc, .int .i64 0] w fun e w' =>
      e = .returned (.tuple #[.int .i64 n, ev]) ∧ Fr [pb] w w' := by
  have hpl := hl.lt
  go_enter Tryd.func94, Tryd.ntmps94
  go_wp2_with (go_at_call 96; go_in)
  have hcon : Calls Tryd.prog 97 #[.pointer (some ⟨w.heap.size, 0, none⟩), .slice (some ⟨pb, 0, none⟩) m pc, .int .i64 0] (w.alloc (Obj.cells #[Value.slice a n cap, Value.int IntKind.i64 0, Value.int IntKind.i64 (-1)] 204)) fun e w' =>
      e = .returned (.tuple #[.int .i64 n, ev]) ∧ Fr [pb] (w.alloc (Obj.cells #[Value.slice a n cap, Value.int IntKind.i64 0, Value.int IntKind.i64 (-1)] 204)) w' := by
    have hf : Fr [] w (w.alloc (Obj.cells #[Value.slice a n cap, Value.int IntKind.i64 0, Value.int IntKind.i64 (-1)] 204)) := (Fr.refl _ _).alloc _
    have hc := (Blk.new' w 204 #[Value.slice a n cap, Value.int IntKind.i64 0, Value.int IntKind.i64 (-1)]).cell 0
    by_cases hn0 : 0 < n
    · obtain rfl := ha hn0
      exact rdAt_short w.heap.size pb m pc bb n cap ev F l _ hn0 hm hmb hn (by omega) h0 hc (hf.cell0 hev) (fun i hi => hf.cell0 (hF i hi)) (hl.fr0 hf) hpo
    · obtain rfl : n = 0 := by omega
      exact (rdAt_empty w.heap.size pb m pc cap a ev _ hc (hf.cell0 hev)).mono (fun e w' h => ⟨h.1, h.2.mono (by simp)⟩)
  refine hcon.mono ?_
  rintro e w1 ⟨rfl, hf1⟩
  have HF := Lib.hid ((((Fr.refl [] w).alloc (Obj.cells #[Value.slice a n cap, Value.int IntKind.i64 0, Value.int IntKind.i64 (-1)] 204)).mono (ms' := [pb]) (by simp)).trans_same hf1)
  clear hf1 hcon
  go_wp2_with fail
  exact bodyPost_ret (v := .tuple #[.int .i64 n, ev]) (by simp [results, Tryd.results94, go_sem]) rfl ⟨rfl, HF.out⟩
end Go.Proofs.YtokpomdfgbbhlaaDoor

/- New over a file of less than a header. -/
namespace Go.Proofs.YtokpomdfgbbhlaaDoor
open Go Go.RowKit Go.Maps

theorem errStr_any (eb eo : Nat) (s : ByteArray) (w : World) (h : w.cell? ⟨eb, eo, none⟩ = some (.string s)) : Calls Tryd.prog 115 #[.pointer (some ⟨eb, eo, none⟩)] w fun e w' => e = .returned (.string s) ∧ w = w' := by
  go_enter Tryd.func115, Tryd.ntmps115
  go_wp2_with fail
  go_ret
  exact ⟨rfl, rfl⟩

theorem method_err (a : Addr) (w : World) : (method 324 187 (.pointer (some a)) "Error").run Tryd.prog w = .ok (115, .pointer (some a)) w := by kernel_rfl

set_option maxRecDepth 100000 in
set_option maxHeartbeats 1000000 in
theorem readAt_short (rb sb bb n cap m ub ul uc eb eo : Nat) (a : Option Addr) (s : ByteArray) (F : Nat → UInt8) (L : List Value) (w : World) (hn : n ≤ cap) (ha : 0 < n → a = some ⟨bb, 0, none⟩) (hr : w.cell? ⟨sb, 0, none⟩ = some (.slice a n cap))
    (hF : ∀ i, i < n → w.cell? ⟨bb, i, none⟩ = some (U8 (F i))) (hev : w.cell? ⟨0, 0, none⟩ = some (.iface 187 (.pointer (some ⟨eb, eo, none⟩)))) (hes : w.cell? ⟨eb, eo, none⟩ = some (.string s)) (heu : eb ≠ ub) (h0u : ub ≠ 0)
    (h3 : w.cell? ⟨rb, 7, none⟩ = some (.iface 81 (.pointer (some ⟨sb, 0, none⟩))))
    (hsl : w.cell? ⟨rb, 0, none⟩ = some (.bool false)) (hbc : w.cell? ⟨rb, 2, none⟩ = some (.slice (some ⟨ub, 0, none⟩) ul uc)) (hul : ul ≤ uc)
    (hL : Blk w ub 5 L) (hm4 : m ≤ 4096) (hm : m ≤ ul) (hLm : m ≤ L.length) (hnm : n < m) (hru : rb ≠ ub) :
    Calls Tryd.prog 56 #[.pointer (some ⟨rb, 0, none⟩), .int .i64 0, .int .i64 m] w fun e w' => ∃ v, e = .returned (.tuple #[.slice none 0 0, v]) ∧ ErrIs 1 v ∧ Fr [ub] w w' := by
  have hd : decide (ul < m) = false := by simp; omega
  have hm0 : (0 : Int) ≤ (m : Int) := by omega
  have hm1 : (m : Int) ≤ (uc : Int) := by omega
  have hna := nil_ahead_ra
  have hme := method_ra
  go_enter Tryd.func56, Tryd.ntmps56
  go_upto_region 8 with (fail)
  go_cut [10, 11] from 47 to 63 (fun s10 s11 w1 => s10 = .int .i64 n ∧ s11 = .iface 187 (.pointer (some ⟨eb, eo, none⟩)) ∧ Fr [ub] w w1)
  case first =>
    have hcon := Lib.hid (stAt_short sb ub m uc bb n cap a (.iface 187 (.pointer (some ⟨eb, eo, none⟩))) F L w.drew hnm hm4 hn ha h0u hr hev hF hL hLm)
    go_region_held3 (fun w' => w'.cell? ⟨rb, 7, none⟩ = some (.iface 81 (.pointer (some ⟨sb, 0, none⟩))) ∧ w'.cell? ⟨rb, 2, none⟩ = some (.slice (some ⟨ub, 0, none⟩) ul uc))
      (first | go_keep | exact ⟨hf2.cell (by simp; exact hru) h3, hf2.cell (by simp; exact hru) hbc⟩)
      (first | (go_at_call 94; refine hcon.out.mono ?_; rintro e w2 ⟨rfl, hf2⟩))
    all_goals
      go_wp2_with fail
      go_meet
      case rel => exact ⟨rfl, rfl, (Fr.refl _ _).drew.trans_same hf2⟩
  case rest =>
    obtain ⟨rfl, rfl, hf⟩ := hcut
    have h5 := hf.cell (by simpa using heu) hes
    have HF := Lib.hid hf
    clear hf hme hna
    have hmt := method_err
    go_wp2_with fail
    refine (errStr_any eb eo s wc h5).mono ?_
    rintro e w3 ⟨rfl, rfl⟩
    go_wp2_with fail
    exact bodyPost_ret (v := .tuple #[.slice none 0 0, .iface 121 (.agg #[.int .i64 1, .string s, .int .i64 0])]) (by simp [results, Tryd.results56, go_sem]) rfl ⟨_, rfl, ⟨s, 0, rfl⟩, HF.out⟩

set_option maxRecDepth 100000 in
set_option maxHeartbeats 1000000 in
theorem setHeader_short (rb sb bb n cap ub uc eb eo : Nat) (a : Option Addr) (s : ByteArray) (F : Nat → UInt8) (L : List Value) (w : World) (hn : n ≤ cap) (ha : 0 < n → a = some ⟨bb, 0, none⟩) (hr : w.cell? ⟨sb, 0, none⟩ = some (.slice a n cap))
    (hF : ∀ i, i < n → w.cell? ⟨bb, i, none⟩ = some (U8 (F i))) (hev : w.cell? ⟨0, 0, none⟩ = some (.iface 187 (.pointer (some ⟨eb, eo, none⟩)))) (hes : w.cell? ⟨eb, eo, none⟩ = some (.string s)) (heu : eb ≠ ub) (h0u : ub ≠ 0) (hnm : n < 512)
    (hrb : Blk w rb 91 (rdCells 0 (.slice (some ⟨ub, 0, none⟩) 512 uc) (.pointer none) (.slice none 0 0) (.slice none 0 0) 0 sb .nilIface)) (huc : 512 ≤ uc ∧ uc ≤ 9223372036854775807)
    (hL : Blk w ub 5 L) (hLl : 512 ≤ L.length) :
    Calls Tryd.prog 49 #[.pointer (some ⟨rb, 0, none⟩)] w fun e w' => ∃ v, e = .returned v ∧ ErrIs 1 v ∧ Fr [ub] w w' := by
  have hru : rb ≠ ub := fun h => by subst h; exact absurd (hrb.unique hL).1 (by decide)
  have hcon := Lib.hid (readAt_short rb sb bb n cap 512 ub 512 uc eb eo a s F L w hn ha hr hF hev hes heu h0u (hrb.cell 7) (hrb.cell 0) (hrb.cell 2) huc.1 hL (by omega) (by omega) hLl hnm hru)
  clear hF
  go_enter Tryd.func49, Tryd.ntmps49
  go_wp2_with fail
  refine hcon.out.mono ?_
  rintro e w1 ⟨v, rfl, hv, hf1⟩
  obtain ⟨t, p, rfl⟩ := hv
  have HF := Lib.hid hf1
  clear hf1 hcon
  go_wp2_with fail
  go_ret
  exact ⟨_, rfl, ⟨t, p, rfl⟩, HF.out⟩

set_option maxRecDepth 100000 in
set_option maxHeartbeats 1000000 in
theorem new_short (sb bb n cap eb eo : Nat) (a : Option Addr) (s : ByteArray) (F : Nat → UInt8) (w : World) (hn : n ≤ cap) (ha : 0 < n → a = some ⟨bb, 0, none⟩) (hr : w.cell? ⟨sb, 0, none⟩ = some (.slice a n cap))
    (hF : ∀ i, i < n → w.cell? ⟨bb, i, none⟩ = some (U8 (F i))) (hev : w.cell? ⟨0, 0, none⟩ = some (.iface 187 (.pointer (some ⟨eb, eo, none⟩)))) (hes : w.cell? ⟨eb, eo, none⟩ = some (.string s)) (hnm : n < 512) :
    Calls Tryd.prog 42 #[.iface 81 (.pointer (some ⟨sb, 0, none⟩))] w fun e w' => ∃ v, e = .returned (.tuple #[.pointer none, v]) ∧ ErrIs 1 v ∧ Fr [] w w' := by
  have hmk : ∀ w : World, (Instr.makeSlice 23 (.int .i64 512) (.int .i64 512)).run Tryd.prog w = .ok (.slice (some ⟨w.heap.size, 0, none⟩) 512 512) (w.alloc (.cells (tab 512 (fun _ => .int .u8 0)).toArray 5)) := make_buf 512 (by omega)
  have hebl := World.block_lt_of_cell? w _ hes
  have h0l := World.block_lt_of_cell? w _ hev
  have HR := Lib.hid hr
  have HFF := Lib.hid hF
  have HEV := Lib.hid hev
  have HES := Lib.hid hes
  dsimp only at hebl h0l
  clear hr hF hev hes
  go_enter Tryd.func42, Tryd.ntmps42
  have hta := as81_127
  go_upto_region 2 with (fail)
  have hf1 : Fr [] w (w.alloc (Obj.cells #[.bool false, .int .u32 0, .slice none 0 0, .pointer none, .slice none 0 0, .slice none 0 0, .int .i64 0, .iface 81 (.pointer (some ⟨sb, 0, none⟩)), .nilIface] 91)) := (Fr.refl _ _).alloc _
  have hrb1 := Blk.new' w 91 #[.bool false, .int .u32 0, .slice none 0 0, .pointer none, .slice none 0 0, .slice none 0 0, .int .i64 0, .iface 81 (.pointer (some ⟨sb, 0, none⟩)), .nilIface]
  generalize w.alloc (Obj.cells #[.bool false, .int .u32 0, .slice none 0 0, .pointer none, .slice none 0 0, .slice none 0 0, .int .i64 0, .iface 81 (.pointer (some ⟨sb, 0, none⟩)), .nilIface] 91) = w1 at *
  generalize hrb : w.heap.size = rb at *
  have hr1 : rb < w1.heap.size := hrb1.lt
  have c2 : w1.cell? ⟨rb, 2, none⟩ = some (.slice none 0 0) := hrb1.cell 2
  have z2 := hrb1.frozen 2
  have hba := (hrb1.alloc (Obj.cells (tab 512 (fun _ => Value.int .u8 0)).toArray 5))
  have c2a : (w1.alloc (Obj.cells (tab 512 (fun _ => Value.int .u8 0)).toArray 5)).cell? ⟨rb, 2, none⟩ = some (.slice none 0 0) := hba.cell 2
  have z2a := hba.frozen 2
  go_upto_region 6 with (fail)
  have hrb2 : Blk ((w1.setCell ⟨rb, 2, none⟩ (.slice (some ⟨w1.heap.size, 0, none⟩) 512 512)).alloc (Obj.cells (tab 512 (fun _ => Value.int .u8 0)).toArray 5)) rb 91 (rdCells 0 (.slice (some ⟨w1.heap.size, 0, none⟩) 512 512) (.pointer none) (.slice none 0 0) (.slice none 0 0) 0 sb .nilIface) := (hrb1.set 2 _).alloc _
  have hub2 := Blk.new (w1.setCell ⟨rb, 2, none⟩ (.slice (some ⟨w1.heap.size, 0, none⟩) 512 512)) 5 (tab 512 (fun _ => Value.int .u8 0))
  rw [show (w1.setCell ⟨rb, 2, none⟩ (.slice (some ⟨w1.heap.size, 0, none⟩) 512 512)).heap.size = w1.heap.size by simp] at hub2
  have hF2 : Fr [] w ((w1.setCell ⟨rb, 2, none⟩ (.slice (some ⟨w1.heap.size, 0, none⟩) 512 512)).alloc (Obj.cells (tab 512 (fun _ => Value.int .u8 0)).toArray 5)) := (hf1.setCell (p := ⟨rb, 2, none⟩) (.inr (by simp; omega)) _).alloc _
  have hwu : w.heap.size < w1.heap.size := by omega
  clear c2 z2 c2a z2a hba hrb1 hf1
  generalize (w1.setCell ⟨rb, 2, none⟩ (.slice (some ⟨w1.heap.size, 0, none⟩) 512 512)).alloc (Obj.cells (tab 512 (fun _ => Value.int .u8 0)).toArray 5) = w2 at *
  generalize w1.heap.size = ub at *
  go_wp2_with fail
  refine (setHeader_short rb sb bb n cap ub 512 eb eo a s F _ w2 hn ha (hF2.cell0 HR.out) (fun i hi => hF2.cell0 (HFF.out i hi)) (hF2.cell0 HEV.out) (hF2.cell0 HES.out) (by omega) (by omega) hnm hrb2 (by omega) hub2 (by simp)).mono ?_
  rintro e w3 ⟨v, rfl, hv, hf3⟩
  obtain ⟨tx, p, rfl⟩ := hv
  have hF3 : Fr [] w w3 := hF2.trans hf3 (by simp; omega)
  have HF := Lib.hid hF3
  clear hmk hta hrb2 hub2 hf3 hF3
  go_wp2_with fail
  exact bodyPost_ret (v := .tuple #[.pointer none, .iface 121 (.agg #[.int .i64 1, .string tx, .int .i64 p])]) (by simp [results, Tryd.results42, go_sem]) rfl ⟨_, rfl, ⟨tx, p, rfl⟩, HF.out⟩


theorem own_bytes {w : World} {base n : Nat} {v : Value} {F : Nat → UInt8} (h : w.ownsRow base 5 1 v n (tab n (fun i => U8 (F i)))) : ∃ (a : Option Addr) (bb cap : Nat), v = .slice a n cap ∧ n ≤ cap ∧ (0 < n → a = some ⟨bb, 0, none⟩) ∧ ∀ i, i < n → w.cell? ⟨bb, i, none⟩ = some (U8 (F i)) := by
  by_cases h0 : 0 < n
  · obtain ⟨bb, cap, l, rfl, _, hbb, hbl, hc1, _⟩ := own_blk2 h h0
    exact ⟨_, bb, cap, rfl, hc1, fun _ => rfl, fun i hi => (hbb.cell i).trans (hbl i hi)⟩
  · obtain rfl : n = 0 := by omega
    obtain ⟨a, c, rfl⟩ := own_slice h
    exact ⟨a, 0, c, rfl, by omega, fun h => absurd h (by omega), fun i hi => absurd hi (by omega)⟩

set_option maxRecDepth 100000 in
set_option maxHeartbeats 1000000 in
/-- opened, over a file of less than a header. -/
theorem opened_short (ab ao n ncap eb eo : Nat) (s : ByteArray) (F : Nat → UInt8) (w : World) (hB : ∀ i, i < n → w.cell? ⟨ab, ao + i, none⟩ = some (U8 (F i))) (hev : w.cell? ⟨0, 0, none⟩ = some (.iface 187 (.pointer (some ⟨eb, eo, none⟩)))) (hes : w.cell? ⟨eb, eo, none⟩ = some (.string s)) (hn : n < 512) :
    Calls Tryd.prog 27 #[.slice (some ⟨ab, ao, none⟩) n ncap] w fun e w' => ∃ sv, e = .returned (.tuple #[.pointer none, sv, .int .i64 2]) ∧ Fr [] w w' := by
  have HEV := Lib.hid hev
  have HES := Lib.hid hes
  clear hev hes
  obtain ⟨i0, hi, hz0, hz1, hz2⟩ := info_parts info5
  have hnI : decide ((131072 : Int) < n) = false := by simp; omega
  have hnN : decide (131072 < n) = false := by simp; omega
  go_enter Tryd.func27, Tryd.ntmps27
  go_wp2_with (at_builtin; refine wpList_append_own _ rfl _ (.tmp 11) 23 rfl w.heap.size 5 i0 (.int .u8 0) 1 1 Tryd.underlying23 hi hz0 hz1 hz2 rfl (by decide) (.slice none 0 0) 0 [] rfl (World.ownsRow_nil _ _ _ _) ⟨ab, ao, none⟩ n ncap (tab n (fun i => U8 (F i))) rfl ?c1 ?c2 ?c3 ?c4 ?c5 (Nat.le_refl _) ?c6)
  case c1 => simp
  case c2 =>
    intro j u hj
    rw [tab_get?] at hj
    split at hj
    · rename_i hjn
      simp at hj; subst hj
      rw [Addr.add_mid]
      exact hB j hjn
    · cases hj
  case c3 =>
    intro u hu
    obtain ⟨i, hi⟩ := List.getElem?_of_mem hu
    rw [tab_get?] at hi
    split at hi
    · simp at hi; subst hi; rfl
    · cases hi
  case c4 => unfold maxLen; omega
  case c5 => omega
  intro v' w1 hown hg _
  have hf1 : Fr [] w w1 := Fr.of_grown hg
  obtain ⟨a, bb, cap, rfl, hc1, hab, hFb⟩ := own_bytes hown
  have hw1 := hf1.size
  clear hown hg
  have hf2 : Fr [] w1 (w1.alloc (Obj.cells #[.slice a n cap] 113)) := (Fr.refl _ _).alloc _
  have hsb := Blk.new' w1 113 #[.slice a n cap]
  have hcon := Lib.hid (new_short w1.heap.size bb n cap eb eo a s F _ hc1 hab (hsb.cell 0) (fun i hi => hf2.cell0 (hFb i hi)) (hf2.cell0 (hf1.cell0 HEV.out)) (hf2.cell0 (hf1.cell0 HES.out)) hn)
  clear hB hsb hFb hab
  go_wp2_with fail
  refine hcon.out.mono ?_
  rintro e w3 ⟨v, rfl, hv, hf3⟩
  have hce := Lib.hid (fun w => code_err 1 (by omega) v hv w)
  obtain ⟨tx, p, rfl⟩ := hv
  have HF := Lib.hid (hf1.trans0 (hf2.trans0 hf3))
  clear hf3 hcon
  go_wp2_with fail
  refine (hce.out _).mono ?_
  rintro e w4 ⟨rfl, hf4⟩
  have HG := Lib.hid (HF.out.trans0 hf4)
  clear hf4
  go_wp2_with fail
  exact bodyPost_ret (v := .tuple #[.pointer none, .pointer (some ⟨w1.heap.size, 0, none⟩), .int .i64 2]) (by simp [results, Tryd.results27, go_sem]) rfl ⟨_, rfl, HG.out⟩
end Go.Proofs.YtokpomdfgbbhlaaDoor

/- What Entries, Root and Walk answer where opened does not open. -/
namespace Go.Proofs.YtokpomdfgbbhlaaDoor
open Go Go.RowKit Go.Maps

/-- opened does not open x, and says k. -/
def Shut (k : Nat) (x : Value) (w : World) : Prop := Calls Tryd.prog 27 #[x] w fun e w' => ∃ sv, e = .returned (.tuple #[.pointer none, sv, .int .i64 k]) ∧ Fr [] w w'

set_option maxRecDepth 100000 in
theorem entries_err (k n c : Nat) (hk : k = 1 ∨ k = 2) (a : Option Addr) (w : World) (h : ∀ w1, Fr [] w w1 → Shut k (.slice a n c) w1) : Calls Tryd.prog 11 #[.slice a n c] w fun e w' => ∃ v, e = .returned (.tuple #[v, .int .i64 k]) ∧ Fr [] w w' := by
  have hkB : ((k : Int) != 0) = true := by simp; omega
  have H := Lib.hid h
  clear h
  go_enter Tryd.func11, Tryd.ntmps11
  go_wp2_with fail
  refine Calls.mono (H.out _ (Fr.refl _ _)) ?_
  rintro e w1 ⟨sv, rfl, hf⟩
  have HF := Lib.hid hf
  clear hf
  go_wp2_with fail
  exact bodyPost_ret (v := .tuple #[.slice none 0 0, .int .i64 k]) (by simp [results, Tryd.results11, go_sem]) rfl ⟨_, rfl, HF.out⟩

set_option maxRecDepth 100000 in
theorem root_err (k n c : Nat) (hk : k = 1 ∨ k = 2) (a : Option Addr) (w : World) (h : ∀ w1, Fr [] w w1 → Shut k (.slice a n c) w1) : Calls Tryd.prog 14 #[.slice a n c] w fun e w' => e = .returned (.tuple #[.agg (guidA (fun _ => 0)), .int .u64 0, .int .u64 0, .int .i64 k]) ∧ Fr [] w w' := by
  have hkB : ((k : Int) != 0) = true := by simp; omega
  have H := Lib.hid h
  clear h
  go_enter Tryd.func14, Tryd.ntmps14
  go_wp2_with fail
  refine Calls.mono (H.out _ ((Fr.refl _ _).alloc _)) ?_
  rintro e w1 ⟨sv, rfl, hf⟩
  have hr2 := (Blk.new' w 36 _).fr0 hf
  have HF := Lib.hid hf
  clear hf
  go_wp2_with (refine wpList_store_blk rfl 36 (.tmp 2) (.tmp 17) rfl w.heap.size 0 (guidA (fun _ => 0)) rfl rfl 36 _ hr2 ?_ ?_ (guidA_one _) ?_)
  · simp [guidA_size]
  · rw [guidA_size]; kernel_rfl
  · intro w4 hf4 hb3
    have hfr : Fr [] w w4 := (((Fr.refl [] w).alloc _).trans0 HF.out).trans hf4 (by simp)
    have e3 := splice_whole (List.replicate 16 (Value.int .u8 0)) (guidA (fun _ => 0)).toList (by simp [guidA])
    have hb4 : Blk w4 w.heap.size 36 (guidA (fun _ => 0)).toList := by rw [← e3]; exact hb3
    have hld : (loadVar 36 ⟨w.heap.size, 0, none⟩).run Tryd.prog w4 = .ok (.agg (guidA (fun _ => 0))) w4 := by
      have := run_loadVar_mid (P := Tryd.prog) w4 w.heap.size 0 36 (guidA (fun _ => 0)).toList _ (fun j v hj => by rw [hb4.cell]; simpa using hj) Tryd.underlying36 rfl (by rw [Array.length_toList, guidA_size]; kernel_rfl)
      simpa using this
    have HFR := Lib.hid hfr
    clear hb3 hb4 e3 hf4 hfr hr2
    go_wp2_with fail
    refine bodyPost_ret (v := .tuple #[.agg (guidA (fun _ => 0)), .int .u64 0, .int .u64 0, .int .i64 k]) ?_ rfl ⟨rfl, HFR.out⟩
    simp [results, Tryd.results14, asAddr, hld]

set_option maxRecDepth 100000 in
theorem walk_err (k n c : Nat) (hk : k = 1 ∨ k = 2) (a : Option Addr) (w : World) (h : ∀ w1, Fr [] w w1 → Shut k (.slice a n c) w1) : Calls Tryd.prog 15 #[.slice a n c, .slice none 0 0] w fun e w' => ∃ v, e = .returned (.tuple #[v, .int .i64 k]) ∧ Fr [] w w' := by
  have hkB : ((k : Int) != 0) = true := by simp; omega
  have H := Lib.hid h
  clear h
  go_enter Tryd.func15, Tryd.ntmps15
  go_wp2_with fail
  go_loopw [6, 8, 23] (fun s6 s8 s23 wr => s6 = .int .i64 0 ∧ s23 = .int .i64 0 ∧ Fr [] w wr) (fun _ _ _ _ => 0)
  case atStart => exact ⟨rfl, rfl, Fr.refl _ _⟩
  case round =>
    obtain ⟨rfl, rfl, hf0⟩ := hrel
    have HF0 := Lib.hid hf0
    have H1 := H.out _ hf0
    clear hf0
    go_wp2_with fail
    refine Calls.mono H1 ?_
    rintro e w1 ⟨sv, rfl, hf⟩
    have HF := Lib.hid (HF0.out.trans0 hf)
    clear hf
    go_wp2_with fail
    exact bodyPost_ret (v := .tuple #[.slice none 0 0, .int .i64 k]) (by simp [results, Tryd.results15, go_sem]) rfl ⟨_, rfl, HF.out⟩
end Go.Proofs.YtokpomdfgbbhlaaDoor

/- One byte of a header changed. -/
namespace Go.Proofs.YtokpomdfgbbhlaaDoor
open Go Go.RowKit Go.Maps

theorem le_inj : ∀ (n : Nat) (f g : Nat → UInt8), le f n = le g n → ∀ i, i < n → f i = g i := by
  intro n
  induction n with
  | zero => intro _ _ _ i hi; omega
  | succ n ih =>
    intro f g h i hi
    simp only [le] at h
    have h1 := (f 0).toNat_lt
    have h2 := (g 0).toNat_lt
    have h3 : (f 0).toNat = (g 0).toNat := by omega
    have h4 : le (fun i => f (i + 1)) n = le (fun i => g (i + 1)) n := by omega
    rcases i with _ | i
    · exact UInt8.toNat_inj.1 h3
    · exact ih _ _ h4 i (by omega)

/-- A byte of the signature turned. -/
theorem bad_sig {F G : Nat → UInt8} {ss : Nat} (h : HdrOK F ss) (k : Nat) (hk : k < 8) (hne : G k ≠ F k) : HdrBad G := by
  left
  intro he
  refine hne ?_
  have := le_inj 8 (fun i => G (0 + i)) (fun i => F (0 + i)) (he.trans h.sig.symm) k hk
  simpa using this
/-- The sectors' size turned. -/
theorem bad_shift {F G : Nat → UInt8} {ss : Nat} (h : HdrOK F ss) (hs : ∀ i, i < 8 → G i = F i) (hn : ¬ (G 31 = 0 ∧ (G 30 = 9 ∨ G 30 = 12))) : HdrBad G := by
  right
  have e0 : fld G 0 8 = fld F 0 8 := fld_congr (fun i hi => by simpa using hs i hi)
  have e1 : fld G 30 2 = (G 30).toNat + 256 * (G 31).toNat := by simp [fld, le]
  have a1 := (G 30).toNat_lt
  have a2 := (G 31).toNat_lt
  refine ⟨e0.trans h.sig, fun h9 => hn ?_, fun h12 => hn ?_⟩
  · rw [e1] at h9
    exact ⟨UInt8.toNat_inj.1 (by show (G 31).toNat = 0; omega), .inl (UInt8.toNat_inj.1 (by show (G 30).toNat = 9; omega))⟩
  · rw [e1] at h12
    exact ⟨UInt8.toNat_inj.1 (by show (G 31).toNat = 0; omega), .inr (UInt8.toNat_inj.1 (by show (G 30).toNat = 12; omega))⟩
/-- A byte xor a number that is not nought is another byte. -/
theorem xor_ne (a d : UInt8) (hd : d ≠ 0) : a ^^^ d ≠ a := by
  intro h
  apply hd
  have : a ^^^ (a ^^^ d) = a ^^^ a := by rw [h]
  simpa [← UInt8.xor_assoc] using this
end Go.Proofs.YtokpomdfgbbhlaaDoor

/- A written file is a sound file: the header, the chains, the directory, the tree. No program here. -/
namespace Go.Proofs.YtokpomdfgbbhlaaDoor

theorem NT.Fits.lt {nd : Nat → Nd} : ∀ {t : NT} {x : Int}, t.Fits nd x → x = -1 ∨ ∃ e, e ∈ t.order ∧ x = (e : Int)
  | .nil, _, h => .inl h
  | .node e l c r, _, h => .inr ⟨e, by simp [NT.order], h.1⟩

def NT.toTr : NT → Tr
  | .nil => .nil
  | .node e l c r => .node e l.toTr c.toTr r.toTr
theorem NT.toTr_order : ∀ t : NT, t.toTr.order = t.order
  | .nil => rfl
  | .node e l c r => by rw [NT.toTr, Tr.order, NT.order, NT.toTr_order l, NT.toTr_order c, NT.toTr_order r]

namespace Lay
variable (L : Lay)
/-- The sectors of chain c. -/
def chn (c i : Nat) : Nat := if i < L.cnt c then L.pl (L.base c + i) else 4294967294
/-- What the reader makes of entry e. -/
def EP (e : Nat) : EntP := if e < L.N then ⟨(L.nd e).name, L.nmOf e 0, if (L.nd e).stream = true then ((L.nd e).len : Int) else 0⟩ else ⟨ByteArray.empty, 0, 0⟩
def mn : Nat := if L.minis = 0 then 0 else L.cnt 1
end Lay

section
variable {L : Lay} {F : Nat → UInt8} {fat mfat : Nat → Nat} {W : Nat → UInt8} (hL : LayOK L) (hW : Wrote L F fat mfat W) (hB : L.bytes ≤ 131072)
include hL hW hB

theorem Wrote.tot_le : L.tot < 256 ∧ 512 ≤ L.sz := by
  have _ := hW.hdr
  have _ := hL.n1
  have h := hB
  unfold Lay.bytes at h
  rcases L.per_or with ⟨h1, h2⟩ | ⟨h1, h2⟩ <;> rw [h1] at h ⊢ <;> omega
theorem Wrote.pl_small (k : Nat) : L.pl k < 256 := Nat.lt_trans (hL.pl_lt k) (hW.tot_le hL hB).1
theorem Wrote.sec_le {k : Nat} (x : Nat) (hx : x < L.sz) : L.sec k + x < L.bytes := by
  have _ := hW.hdr
  have _ := hB
  have h1 := hL.pl_lt k
  have h2 := Nat.mul_le_mul_left L.sz (show 1 + L.pl k + 1 ≤ 1 + L.tot by omega)
  unfold Lay.sec Lay.bytes
  rw [Nat.mul_add L.sz (1 + L.pl k) 1] at h2
  omega
theorem Wrote.fld_hdr (off n : Nat) (h : off + n ≤ 512) : fld F off n = fld (hdrB L) off n :=
  fld_congr (fun i hi => hW.hdr _ (by have := (hW.tot_le hL hB).2; omega))
theorem Wrote.fld_low (off n : Nat) (h : off + n ≤ 76) : fld F off n = fld (hdrA L) off n := by
  rw [hW.fld_hdr hL hB _ _ (by omega), hdrB_low _ _ _ h]
theorem Wrote.fld_difat (k : Nat) (h : k < L.fats) : fld F (76 + 4 * k) 4 = L.pl k := by
  have h6 := (hL.fats_ok).2.2
  rw [hW.fld_hdr hL hB _ _ (by omega), hdrB]
  exact difat1_fld _ _ (fun j => by have := hW.pl_small hL hB j; omega) _ _ h

/-- The table of sectors, as the reader reads it. -/
theorem Wrote.fat_at (p : Nat) (hp : p < L.tot) (hv : fat p < 4294967296) : FatAt F L.bytes L.sz p ∧ fatNext F L.sz p = fat p := by
  obtain ⟨h1, h2, h3⟩ := hL.fats_ok
  have hper : L.sz / 4 = L.per := rfl
  have hpp : 0 < L.per := by rcases L.per_or with ⟨_, h⟩ | ⟨_, h⟩ <;> omega
  have hi : p / L.per < L.fats := by rw [Nat.div_lt_iff_lt_mul hpp]; omega
  have hm := Nat.mod_lt p hpp
  have hd := hW.fld_difat hL hB _ hi
  have hs := hW.pl_small hL hB (p / L.per)
  have h4 : L.per * 4 = L.sz := by rcases L.per_or with ⟨a, h⟩ | ⟨a, h⟩ <;> rw [a, h]
  have e : (L.pl (p / L.per) + 1) * L.sz = L.sec (p / L.per) := by unfold Lay.sec; rw [Nat.mul_comm, Nat.add_comm]
  refine ⟨⟨by rw [hper]; omega, by rw [hper, hd]; omega, ?_⟩, ?_⟩
  · rw [hper, hd, e]
    have := hW.sec_le hL hB (k := p / L.per) (p % L.per * 4 + 3) (by omega)
    omega
  · unfold fatNext
    rw [hper, hd, e]
    have hq : p / L.per * L.per + p % L.per = p := by rw [Nat.mul_comm]; exact Nat.div_add_mod p L.per
    refine fld_byteN (F := F) (a := L.sec (p / L.per) + p % L.per * 4) (n := 4) (fun i hi4 => ?_) hv
    rw [Nat.add_assoc, hW.fatS _ _ hi (by omega)]
    have e1 : (p % L.per * 4 + i) / 4 = p % L.per := by omega
    have e2 : (p % L.per * 4 + i) % 4 = i := by omega
    rw [e1, e2, hq]

theorem Wrote.chain {c : Nat} (hc : c < 3 + L.N) (h1 : 1 ≤ L.cnt c) : Chain F L.bytes L.sz (L.start c) (L.cnt c) (L.chn c) := by
  have hlt : ∀ i, i < L.cnt c → L.chn c i = L.pl (L.base c + i) := fun i hi => by unfold Lay.chn; rw [if_pos hi]
  have hfat : ∀ i, i < L.cnt c → fat (L.chn c i) = L.chn c (i + 1) := by
    intro i hi
    rw [hlt i hi, hW.fatOK.chain c i hc hi]
    unfold Lay.chn
    by_cases he : i + 1 = L.cnt c
    · rw [if_pos he, if_neg (by omega)]
    · rw [if_neg he, if_pos (by omega)]; rfl
  have hb : ∀ i, L.chn c i < 4294967296 := by
    intro i
    unfold Lay.chn
    split
    · have := hW.pl_small hL hB (L.base c + i); omega
    · omega
  have hat : ∀ i, i < L.cnt c → FatAt F L.bytes L.sz (L.chn c i) ∧ fatNext F L.sz (L.chn c i) = L.chn c (i + 1) := by
    intro i hi
    have := hW.fat_at hL hB (L.chn c i) (by rw [hlt i hi]; exact hL.pl_lt _) (by rw [hfat i hi]; exact hb _)
    rw [hfat i hi] at this
    exact this
  constructor
  · unfold Lay.start
    rw [if_neg (by omega), hlt 0 (by omega)]; rfl
  · unfold Lay.chn
    rw [if_neg (by omega)]
  · exact fun i hi => (hat i hi).2
  · exact fun i hi => (hat i hi).1
  · intro i hi
    rw [hlt i hi]
    have := hW.pl_small hL hB (L.base c + i)
    have h2 := hW.sec_le hL hB (k := L.base c + i) (L.sz - 1) (by have := (hW.tot_le hL hB).2; omega)
    have e : (L.pl (L.base c + i) + 1) * L.sz = L.sec (L.base c + i) := by unfold Lay.sec; rw [Nat.mul_comm, Nat.add_comm]
    rw [e]
    have := (hW.tot_le hL hB).2
    omega
  · intro i j hij hj he
    rw [hlt i (by omega), hlt j hj] at he
    have b1 := (hL.base_lt hc (show i < L.cnt c by omega)).1
    have b2 := (hL.base_lt hc hj).1
    have := mixP_inj _ _ b1 b2 he
    omega

theorem Wrote.start_lt (c : Nat) : L.start c < 4294967296 := by
  unfold Lay.start
  split
  · omega
  · have := hW.pl_small hL hB (L.base c); omega
theorem Wrote.startOf_lt (k : Nat) (hk : k < L.N) : L.startOf k < 4294967296 ∧ L.lenOf k < 4294967296 := by
  have hm := hL.minis_le
  have hl := hL.len k hk
  refine ⟨?_, ?_⟩
  · unfold Lay.startOf
    split
    · exact hW.start_lt hL hB 2
    split
    · split
      · unfold Lay.mstart
        split
        · omega
        · by_cases h0 : L.minis = 0
          · have h1 := sumN_mono L.small (show k + 1 ≤ L.N by omega)
            rw [sumN] at h1
            unfold Lay.minis at h0
            omega
          · have := mixP_lt L.minis (L.step + 3) (L.mbase k) (by omega)
            unfold Lay.mpl
            omega
      · exact hW.start_lt hL hB _
    · omega
  · unfold Lay.lenOf
    split
    · omega
    split
    · omega
    · omega

/-- The directory's entries, as the reader finds them. -/
theorem Wrote.ent_bytes (e x : Nat) (he : e < L.cnt 0 * (L.sz / 128)) (hx : x < 128) : entB F L.sz (L.chn 0) e x = L.dirF (128 * e + x) := by
  have hs := (hW.tot_le hL hB).2
  have hq : 0 < L.sz / 128 := by omega
  have h128 : L.sz / 128 * 128 = L.sz := by rcases L.per_or with ⟨a, _⟩ | ⟨a, _⟩ <;> rw [a]
  have hi : e / (L.sz / 128) < L.cnt 0 := by rw [Nat.div_lt_iff_lt_mul hq]; exact he
  have hm := Nat.mod_lt e hq
  have hd := Nat.div_add_mod e (L.sz / 128)
  unfold entB
  have hc : L.chn 0 (e / (L.sz / 128)) = L.pl (L.base 0 + e / (L.sz / 128)) := by unfold Lay.chn; rw [if_pos hi]
  have es : (L.pl (L.base 0 + e / (L.sz / 128)) + 1) * L.sz = L.sec (L.base 0 + e / (L.sz / 128)) := by unfold Lay.sec; rw [Nat.mul_comm, Nat.add_comm]
  rw [hc, es, Nat.add_assoc, hW.dirS _ _ hi (by omega)]
  congr 1
  generalize e / (L.sz / 128) = q at *
  generalize e % (L.sz / 128) = r at *
  have : q * L.sz = L.sz / 128 * q * 128 := by
    rw [Nat.mul_comm (L.sz / 128) q, Nat.mul_assoc, h128]
  rw [this, ← hd]
  omega

theorem Wrote.ent_flds (e : Nat) (he : e < L.cnt 0 * (L.sz / 128)) (hN : e < L.N) : EntFlds L e (entB F L.sz (L.chn 0) e) := by
  obtain ⟨h1, h2⟩ := hW.startOf_lt hL hB e hN
  have h10 := hL.nm2 e hN
  refine (entF_flds L hL e hN h1 h2).congr (fun x hx => ?_) (by unfold Lay.nmLen; omega)
  rw [hW.ent_bytes hL hB e x he hx]
  unfold Lay.dirF
  have a1 : (128 * e + x) / 128 = e := by omega
  have a2 : (128 * e + x) % 128 = x := by omega
  rw [a1, a2, if_pos hN]

theorem Wrote.ent_free (e : Nat) (he : e < L.cnt 0 * (L.sz / 128)) (hN : ¬ e < L.N) : ∀ x, x < 128 → entB F L.sz (L.chn 0) e x = freeE x := by
  intro x hx
  rw [hW.ent_bytes hL hB e x he hx]
  unfold Lay.dirF
  have a1 : (128 * e + x) / 128 = e := by omega
  have a2 : (128 * e + x) % 128 = x := by omega
  rw [a1, a2, if_neg hN]

theorem Wrote.N_le : L.N ≤ L.cnt 0 * (L.sz / 128) := by
  have hs := (hW.tot_le hL hB).2
  have e : L.cnt 0 = partsN L.N (L.sz / 128) := by unfold Lay.cnt; rw [if_pos rfl]
  rw [e]
  exact le_partsN _ _ (by omega)

theorem Wrote.ent_ok (e : Nat) (he : e < L.cnt 0 * (L.sz / 128)) : EntOK (entB F L.sz (L.chn 0) e) (L.EP e) := by
  by_cases hN : e < L.N
  · have hf := hW.ent_flds hL hB e he hN
    have h1 := hL.nm1 e hN
    have h2 := hL.nm2 e hN
    have hc := hL.nmc e
    have h0 := hL.nm0 e hN
    have hl : (L.nd e).name.size = L.nmLen e := rfl
    have hz : fld (entB F L.sz (L.chn 0) e) 0 2 = L.nmOf e 0 := hf.nm 0 (by omega)
    refine .inr ⟨L.nmLen e, L.lenOf e, by omega, by omega, hf.len, ?_, by rw [hz]; exact h0.1, by rw [hz]; exact h0.2, hf.size8, hf.size4, ?_, ?_, ?_, ?_⟩
    · intro i hi
      by_cases hj : i < L.nmLen e
      · rw [hf.nm i hj]; exact hc i hN
      · rw [hf.nm0 i (by omega) hi]; omega
    · have := hL.len e hN
      have := hL.minis_le
      unfold Lay.lenOf
      split
      · omega
      split <;> omega
    · unfold Lay.EP
      rw [if_pos hN]
      show (L.nd e).name = _
      have : nameOf (fun i => fld (entB F L.sz (L.chn 0) e) (2 * i) 2) (L.nmLen e) = nameOf (fun i => L.nmOf e i) (L.nmLen e) := by
        unfold nameOf
        congr 2
        refine List.map_congr_left (fun j hj => ?_)
        show UInt8.ofNat (fld (entB F L.sz (L.chn 0) e) (2 * j) 2) = UInt8.ofNat (L.nmOf e j)
        rw [hf.nm j (List.mem_range.1 hj)]
      rw [this]
      unfold nameOf Lay.nmOf Lay.nmLen
      generalize (L.nd e).name = nm
      rcases nm with ⟨⟨l⟩⟩
      show ByteArray.mk _ = ByteArray.mk _
      congr 1
      apply Array.ext'
      apply List.ext_getElem?
      intro i
      simp only [List.getElem?_map, ByteArray.size, List.size_toArray]
      by_cases hi : i < l.length
      · rw [List.getElem?_range hi]; simp [hi]
      · rw [List.getElem?_eq_none (by omega), List.getElem?_eq_none (by simpa using hi)]; rfl
    · rw [hz]
      unfold Lay.EP
      rw [if_pos hN]
    · rw [hf.kind]
      unfold Lay.EP Lay.kindOf Lay.lenOf
      rw [if_pos hN]
      by_cases hz : e = 0
      · subst hz
        rw [if_pos rfl, if_pos rfl]
        refine .inr ⟨by decide, ?_⟩
        show (if (L.nd 0).stream = true then _ else (0 : Int)) = 0
        rw [hL.root]; rfl
      · rw [if_neg hz, if_neg hz]
        by_cases hs : (L.nd e).stream = true
        · rw [if_pos hs, if_pos hs]
          refine .inl ⟨by decide, ?_⟩
          simp [hs]
        · rw [if_neg hs, if_neg hs]
          exact .inr ⟨by decide, rfl⟩
  · have hx := hW.ent_free hL hB e he hN
    refine .inl ⟨?_, ?_, ?_⟩
    · have : fld (entB F L.sz (L.chn 0) e) 64 2 = fld freeE 64 2 := fld_congr (fun i hi => hx _ (by omega))
      rw [this, fld_free _ _ (by omega), fld_zero]
    · rw [hx _ (by omega)]
      unfold freeE
      rw [upd_out _ _ _ _ _ (by omega), upd_out _ _ _ _ _ (by omega), upd_out _ _ _ _ _ (by omega)]
    · unfold Lay.EP
      rw [if_neg hN]
      exact ⟨rfl, rfl, rfl⟩

theorem Wrote.tree_fits : ∀ (t : NT) (x : Int), t.Fits L.nd x → (∀ e, e ∈ t.order → e < L.N) → t.toTr.Fits (L.cnt 0 * (L.sz / 128)) (entB F L.sz (L.chn 0)) (if x = -1 then 4294967295 else x.toNat)
  | .nil, x, h, _ => by
    have : x = -1 := h
    rw [if_pos this]; rfl
  | .node e l c r, x, h, ho => by
    obtain ⟨h1, h2, h3, h4⟩ := h
    have he : e < L.N := ho e (by simp [NT.order])
    have hE := Nat.lt_of_lt_of_le he (hW.N_le hL hB)
    have hf := hW.ent_flds hL hB e hE he
    have a2 := Wrote.tree_fits l _ h2 (fun y hy => ho y (by simp [NT.order, hy]))
    have a3 := Wrote.tree_fits c _ h3 (fun y hy => ho y (by simp [NT.order, hy]))
    have a4 := Wrote.tree_fits r _ h4 (fun y hy => ho y (by simp [NT.order, hy]))
    rw [← hf.left] at a2
    rw [← hf.child] at a3
    rw [← hf.right] at a4
    refine ⟨?_, hE, a2, a3, a4⟩
    rw [if_neg (by omega)]
    omega

theorem Wrote.mini_pos (hm : L.minis ≠ 0) : 1 ≤ L.cnt 1 ∧ 1 ≤ L.cnt 2 ∧ L.per * L.cnt 1 ≤ 64000 ∧ L.cnt 2 ≤ L.per * L.cnt 1 ∧ L.cnt 1 ≤ L.fats * (L.sz / 64) := by
  have _ := hW.hdr
  have _ := hB
  have e1 : L.cnt 1 = partsN L.minis L.per := by unfold Lay.cnt; rw [if_neg (by omega), if_pos rfl]
  have e2 : L.cnt 2 = partsN (L.minis * 64) L.sz := by unfold Lay.cnt; rw [if_neg (by omega), if_neg (by omega), if_pos rfl]
  have hf := hL.fats_ok.2.1
  have hml := hL.minis_le
  have hpp : 128 ≤ L.per ∧ L.per ≤ 1024 ∧ L.sz = 4 * L.per := by rcases L.per_or with ⟨a, h⟩ | ⟨a, h⟩ <;> rw [a, h] <;> omega
  obtain ⟨p1, p2, p3⟩ := hpp
  have c1 := (hL.cnt_le 0 (by omega)).2.2
  have g1 := le_partsN L.minis L.per (by omega)
  have hc1 : L.cnt 1 ≤ (L.minis + 127) / 128 := by
    rw [e1]
    refine partsN_le (by omega) ?_
    have h := Nat.mul_le_mul_left ((L.minis + 127) / 128) p1
    omega
  have hc2 : L.minis * 64 ≤ L.cnt 2 * L.sz := by rw [e2]; exact le_partsN _ _ (by omega)
  have hc3 : L.cnt 2 ≤ L.minis := by
    rw [e2]
    refine partsN_le (by omega) ?_
    have := Nat.mul_le_mul_left L.minis (show 64 ≤ L.sz by omega)
    omega
  refine ⟨by rw [e1]; exact partsN_pos (by omega) (by omega), by rw [e2]; exact partsN_pos (by omega) (by omega), ?_, ?_, ?_⟩
  · have := Nat.mul_le_mul p2 c1
    omega
  · rw [← e1] at g1
    rw [Nat.mul_comm]
    omega
  · -- the sectors of the ministream alone want as many tables
    have hs : L.cnt 2 ≤ L.tot := by
      by_cases hz : 1 ≤ L.cnt 2
      · have := (hL.base_lt (c := 2) (i := L.cnt 2 - 1) (by omega) (by omega)).1
        omega
      · omega
    have ht := hL.fats_ok.1
    rcases L.per_or with ⟨a, b⟩ | ⟨a, b⟩
    · rw [a] at hc2 ⊢
      rw [b] at ht
      omega
    · rw [a]
      omega

/-- A written file is a sound file. -/
theorem Wrote.fileOK (t : NT) (hne : t ≠ .nil) (ht : t.Fits L.nd 0) (hnd : t.order.Nodup) (hlt : ∀ e, e ∈ t.order → e < L.N) (hle : t.order.length ≤ L.N) :
    FileOK F L.bytes L.sz (L.cnt 0) (L.chn 0) L.EP t.toTr L.mn (L.cnt 2) (L.chn 1) (L.chn 2) := by
  obtain ⟨htot, hs⟩ := hW.tot_le hL hB
  have hN := hW.N_le hL hB
  have hn1 := hL.n1
  have h0 : 1 ≤ L.cnt 0 := by
    have e : L.cnt 0 = partsN L.N (L.sz / 128) := by unfold Lay.cnt; rw [if_pos rfl]
    rw [e]
    exact partsN_pos (by omega) hn1
  have hc0 := (hL.cnt_le 0 (by omega)).2.1
  have hc1 := (hL.cnt_le 0 (by omega)).2.2
  obtain ⟨hf1, hf2, hf3⟩ := hL.fats_ok
  have hst0 := hW.start_lt hL hB 0
  have hst1 := hW.start_lt hL hB 1
  have hge : 512 ≤ L.bytes := by
    unfold Lay.bytes
    have := Nat.mul_le_mul_left L.sz (show 1 ≤ 1 + L.tot by omega)
    omega
  have hflds := hW.ent_flds hL hB 0 (by omega) hn1
  have hA : ∀ a n, a + n ≤ 76 → fld F a n = fld (hdrA L) a n := fun a n h => hW.fld_low hL hB a n h
  have f44 : fld F 44 4 = L.fats := by
    rw [hA _ _ (by omega)]
    unfold hdrA
    simp (disch := omega) only [fld_upd_other]
    exact fld_upd4 _ _ _ (by omega)
  have f64 : fld F 64 4 = L.cnt 1 := by
    rw [hA _ _ (by omega)]
    unfold hdrA
    simp (disch := omega) only [fld_upd_other]
    exact fld_upd4 _ _ _ (by omega)
  have f60 : fld F 60 4 = L.start 1 := by
    rw [hA _ _ (by omega)]
    unfold hdrA
    simp (disch := omega) only [fld_upd_other]
    exact fld_upd4 _ _ _ hst1
  have f48 : fld F 48 4 = L.start 0 := by
    rw [hA _ _ (by omega)]
    unfold hdrA
    simp (disch := omega) only [fld_upd_other]
    exact fld_upd4 _ _ _ hst0
  have f72 : fld F 72 4 = 0 := by
    rw [hA _ _ (by omega)]
    unfold hdrA
    simp (disch := omega) only [fld_upd_other]
    split
    · simp (disch := omega) only [fld_upd_other, fld_cpy_other]
      exact fld_zero _ _
    · simp (disch := omega) only [fld_upd_other, fld_cpy_other]
      exact fld_zero _ _
  have f0 : fld F 0 8 = 16220472316735377360 := by
    rw [hA _ _ (by omega)]
    unfold hdrA
    simp (disch := omega) only [fld_upd_other]
    have hc : ∀ f : Nat → UInt8, fld (cpy f 0 8 sigB) 0 8 = 16220472316735377360 := fun f => fld_byteN (fun i hi => cpy_in f 0 8 sigB i hi) (by decide)
    split
    · simp (disch := omega) only [fld_upd_other]
      exact hc _
    · simp (disch := omega) only [fld_upd_other]
      exact hc _
  have f26 : fld F 26 2 = L.ver := by
    rw [hA _ _ (by omega)]
    unfold hdrA
    simp (disch := omega) only [fld_upd_other]
    have hv : L.ver < 65536 := by unfold Lay.ver; split <;> omega
    split
    · simp (disch := omega) only [fld_upd_other]
      exact fld_upd2 _ _ _ hv
    · simp (disch := omega) only [fld_upd_other]
      exact fld_upd2 _ _ _ hv
  have f30 : fld F 30 2 = if L.four = true then 12 else 9 := by
    rw [hA _ _ (by omega)]
    unfold hdrA
    simp (disch := omega) only [fld_upd_other]
    have hv : (if L.four = true then 12 else 9) < 65536 := by split <;> omega
    split
    · rename_i h
      simp (disch := omega) only [fld_upd_other]
      exact fld_upd2 _ _ _ (by omega)
    · rename_i h
      simp (disch := omega) only [fld_upd_other]
      exact fld_upd2 _ _ _ (by omega)
  constructor
  · exact hge
  · omega
  · constructor
    · exact f0
    · rw [f30]
      rcases L.sz_or with ⟨a, b⟩ | ⟨a, b⟩
      · exact .inl ⟨by rw [b]; rfl, a⟩
      · exact .inr ⟨by rw [b]; rfl, a⟩
    · exact f72
    · omega
    · omega
    · rw [f64, f44]
      by_cases hm : L.minis = 0
      · have : L.cnt 1 = 0 := by
          unfold Lay.cnt
          rw [if_neg (by omega), if_pos rfl, hm]
          have := partsN_le (n := 0) (size := L.per) (a := 0) (by rcases L.per_or with ⟨_, h⟩ | ⟨_, h⟩ <;> omega) (by omega)
          omega
        omega
      · exact (hW.mini_pos hL hB hm).2.2.2.2
  · rw [f26]
    rcases L.sz_or with ⟨a, b⟩ | ⟨a, b⟩
    · exact .inl (by unfold Lay.ver; rw [b]; rfl)
    · refine .inr ⟨by unfold Lay.ver; rw [b]; rfl, ?_⟩
      have f40 : fld F 40 4 = L.cnt 0 := by
        rw [hA _ _ (by omega)]
        unfold hdrA
        simp (disch := omega) only [fld_upd_other]
        rw [if_pos b]
        exact fld_upd4 _ _ _ (by omega)
      omega
  · rw [f48]
    exact hW.chain hL hB (by omega) h0
  · exact h0
  · omega
  · exact fun e he => hW.ent_ok hL hB e he
  · have hst : fld (entB F L.sz (L.chn 0) 0) 116 4 = L.start 2 := by
      rw [hflds.start]
      unfold Lay.startOf
      rw [if_pos rfl]
    rw [hst]
    by_cases hm : L.minis = 0
    · refine .inl ⟨by unfold Lay.mn; rw [if_pos hm], ?_⟩
      unfold Lay.start
      have : L.cnt 2 = 0 := by
        unfold Lay.cnt
        rw [if_neg (by omega), if_neg (by omega), if_pos rfl, hm, Nat.zero_mul]
        have := partsN_le (n := 0) (size := L.sz) (a := 0) (by omega) (by omega)
        omega
      rw [if_pos this]
    · obtain ⟨m1, m2, m3, m4, m5⟩ := hW.mini_pos hL hB hm
      have e : L.mn = L.cnt 1 := by unfold Lay.mn; rw [if_neg hm]
      have hper : L.sz / 4 = L.per := rfl
      have hch := hW.chain hL hB (c := 1) (by omega) m1
      rw [e, hper]
      refine .inr ⟨m1, f64, hW.chain hL hB (by omega) m2, m2, m3, m4, ?_, ?_, ?_⟩
      · rw [f60]; exact hch.first
      · exact (hch.low 0 (by omega)).1
      · exact fun j hj => ⟨hch.at_ j (by omega), hch.next j (by omega)⟩
  · cases t
    · exact absurd rfl hne
    · intro h; cases h
  · exact hW.tree_fits hL hB t 0 ht hlt
  · rw [NT.toTr_order]; exact hnd
  · rw [NT.toTr_order]; omega
end
end Go.Proofs.YtokpomdfgbbhlaaDoor

/- What nodesOf holds while it sorts the places below each node and links them. -/
namespace Go.Proofs.YtokpomdfgbbhlaaDoor
open Go Go.RowKit

theorem Fr.trans1 {a b c : World} {g : Nat} (h : Fr [] a b) (k : Fr [g] b c) (hg : a.heap.size ≤ g) : Fr [] a c :=
  h.trans k (fun x hx => .inr (by have e : x = g := List.mem_singleton.1 hx; omega))

/-- The same node but for its links. -/
structure SameF (a b : Nd) : Prop where
  name : a.name = b.name
  stream : a.stream = b.stream
  len : a.len = b.len
  dat : a.dat = b.dat
  cls : a.cls = b.cls
  sts : a.sts = b.sts
  cr : a.cr = b.cr
  md : a.md = b.md
theorem SameF.trans {a b c : Nd} (h : SameF a b) (k : SameF b c) : SameF a c :=
  ⟨h.name.trans k.name, h.stream.trans k.stream, h.len.trans k.len, h.dat.trans k.dat, h.cls.trans k.cls, h.sts.trans k.sts, h.cr.trans k.cr, h.md.trans k.md⟩
theorem SameF.refl (a : Nd) : SameF a a := ⟨rfl, rfl, rfl, rfl, rfl, rfl, rfl, rfl⟩
theorem SameF.datIs {a b : Nd} (h : SameF a b) {w : World} {d : Value} (hd : DatIs w b d) : DatIs w a d := by
  unfold DatIs at hd ⊢
  rw [h.len, h.dat]
  exact hd

def Bnd (N : Nat) (v : Int) : Prop := -1 ≤ v ∧ v < (N : Int)

theorem Sh.Fits.congr2 {nd nd' : Nat → Nd} : ∀ {t : Sh}, t.Fits nd → (∀ e, e ∈ t.order → (nd' e).left = (nd e).left ∧ (nd' e).right = (nd e).right) → t.Fits nd'
  | .nil, _, _ => trivial
  | .node e l r, h, hx => by
    obtain ⟨h1, h2, h3, h4⟩ := h
    have he := hx e (by simp [order])
    exact ⟨he.1.trans h1, he.2.trans h2, h3.congr2 (fun y hy => hx y (by simp [order, hy])), h4.congr2 (fun y hy => hx y (by simp [order, hy]))⟩
theorem Sh.Fits.bnd {nd : Nat → Nd} {N : Nat} : ∀ {t : Sh}, t.Fits nd → (∀ e, e ∈ t.order → e < N) → ∀ e, e ∈ t.order → Bnd N (nd e).left ∧ Bnd N (nd e).right
  | .nil, _, _, e, he => by simp [order] at he
  | .node a l r, h, hx, e, he => by
    obtain ⟨h1, h2, h3, h4⟩ := h
    have hl : ∀ y, y ∈ l.order → y < N := fun y hy => hx y (by simp [order, hy])
    have hr : ∀ y, y ∈ r.order → y < N := fun y hy => hx y (by simp [order, hy])
    simp only [order, List.mem_append, List.mem_cons] at he
    rcases he with he | rfl | he
    · exact h3.bnd hl e he
    · exact ⟨by rw [h1]; exact top_lt hl, by rw [h2]; exact top_lt hr⟩
    · exact h4.bnd hr e he

/-- Who stands below whom. -/
structure Par (N : Nat) (B : Nat → List Nat) (par : Nat → Nat) : Prop where
  mem : ∀ i, i < N → ∀ e, e ∈ B i → i < e ∧ e < N ∧ par e = i
  nodup : ∀ i, i < N → (B i).Nodup
  le : ∀ x, par x ≤ x
  all : ∀ x, 1 ≤ x → x < N → par x < x ∧ x ∈ B (par x)

structure SInv (base lb N k : Nat) (w : World) (v6 : Value) (nd nd' : Nat → Nd) (dv bv : Nat → Value) (B B' : Nat → List Nat) (sh : Nat → Sh) : Prop where
  row : NdRow w lb N nd' dv
  bel : w.ownsRow base 31 1 v6 N (tab N bv)
  bs : ∀ i, i < N → w.ownsRow base 3 1 (bv i) (B i).length ((B' i).map (fun e => I64 e))
  dis : ∀ i j, i < N → j < N → i ≠ j → ∀ g, (bv i).ownBlock = some g → (bv j).ownBlock ≠ some g
  perm : ∀ i, i < N → (B' i).Perm (B i)
  dat : ∀ i, i < N → DatIs w (nd i) (dv i)
  same : ∀ x, SameF (nd' x) (nd x)
  root : (nd' 0).left = -1 ∧ (nd' 0).right = -1
  lk : ∀ x, x < N → Bnd N (nd' x).left ∧ Bnd N (nd' x).right ∧ Bnd N (nd' x).child
  ord : ∀ i, i < k → (sh i).order = B' i
  fits : ∀ i, i < k → (sh i).Fits nd'
  child : ∀ i, i < k → (nd' i).child = (sh i).top

theorem SInv.init {base n lb : Nat} {w : World} {v5 v6 : Value} {nd : Nat → Nd} {dv bv : Nat → Value} {B : Nat → List Nat} {par : Nat → Nat} (h : NInv base w n v5 v6 nd dv bv B par) (hn : 1 ≤ n) (hr : NdRow w lb n nd dv) :
    SInv base lb n 0 w v6 nd nd dv bv B B (fun _ => .nil) where
  row := hr
  bel := h.bel
  bs := h.bs
  dis := h.dis
  perm := fun i hi => List.Perm.refl _
  dat := h.dat
  same := fun x => SameF.refl _
  root := ⟨(h.ok 0 (by omega)).left, (h.ok 0 (by omega)).right⟩
  lk := fun x hx => by
    have := h.ok x hx
    unfold Bnd
    rw [this.left, this.right, this.child]
    omega
  ord := fun i hi => by omega
  fits := fun i hi => by omega
  child := fun i hi => by omega

theorem NdRow.lbk {w : World} {lb N : Nat} {nd : Nat → Nd} {dv : Nat → Value} (h : NdRow w lb N nd dv) : ∃ l, Blk w lb 42 l := ⟨h.choose, h.choose_spec.1⟩

/-- The places below k, sorted. -/
theorem SInv.sorted {base lb N k : Nat} {w w1 : World} {v6 : Value} {nd nd' : Nat → Nd} {dv bv : Nat → Value} {B B' : Nat → List Nat} {sh : Nat → Sh} (h : SInv base lb N k w v6 nd nd' dv bv B B' sh) (hk : k < N)
    (C : List Nat) (hC : C.Perm (B k)) (ho : w1.ownsRow base 3 1 (bv k) (B k).length (C.map (fun e => I64 e))) (hf : Fr (bv k).ownBlock.toList w w1) :
    SInv base lb N k w1 v6 nd nd' dv bv B (fun i => if i = k then C else B' i) sh where
  row := by
    obtain ⟨l, hl, hc⟩ := h.row
    exact ⟨l, hl.fr hf (own_ne (h.bs k hk) hl (by decide)), hc⟩
  bel := own_fr h.bel hf (own_sep h.bel (h.bs k hk) (by decide))
  bs := fun i hi => by
    by_cases hik : i = k
    · subst hik; simpa using ho
    · simp only [if_neg hik]
      exact own_fr (h.bs i hi) hf (fun g hg hg2 => h.dis i k hi hk hik g hg (by simpa using hg2))
  dis := h.dis
  perm := fun i hi => by
    by_cases hik : i = k
    · subst hik; simpa using hC
    · simp only [if_neg hik]; exact h.perm i hi
  dat := fun i hi => (h.dat i hi).fr hf (fun b l hb => own_ne (h.bs k hk) hb (by decide))
  same := h.same
  root := h.root
  lk := h.lk
  ord := fun i hi => by simp only [if_neg (show i ≠ k by omega)]; exact h.ord i hi
  fits := h.fits
  child := h.child

/-- The places below k, linked. -/
theorem SInv.shape {base lb N k : Nat} {w w2 : World} {v6 : Value} {nd nd' nd2 : Nat → Nd} {dv bv : Nat → Value} {B B' : Nat → List Nat} {par : Nat → Nat} {sh : Nat → Sh} {s : Sh} (h : SInv base lb N k w v6 nd nd' dv bv B B' sh) (hP : Par N B par) (hk : k < N)
    (hord : s.order = B' k) (hf : Fr [lb] w w2) (hrow : NdRow w2 lb N nd2 dv) (hout : ∀ e, e ∉ B' k → nd2 e = nd' e) (hsame : ∀ e, nd2 e = { nd' e with left := (nd2 e).left, right := (nd2 e).right }) (hfit : s.Fits nd2) :
    SInv base lb N (k + 1) (w2.setCell ⟨lb, k * 28 + 5, none⟩ (.int .i64 s.top)) v6 nd (setC nd2 k s.top) dv bv B B' (fun i => if i = k then s else sh i) := by
  have hf' : Fr [lb] w (w2.setCell ⟨lb, k * 28 + 5, none⟩ (.int .i64 s.top)) := hf.setCell (.inl (by simp)) _
  obtain ⟨ll, hll⟩ := h.row.lbk
  have memB : ∀ i, i < N → ∀ e, e ∈ B' i → i < e ∧ e < N ∧ par e = i := fun i hi e he => hP.mem i hi e ((h.perm i hi).mem_iff.1 he)
  have hsl : ∀ e, (setC nd2 k s.top e).left = (nd2 e).left ∧ (setC nd2 k s.top e).right = (nd2 e).right := fun e => by
    unfold setC; split <;> exact ⟨rfl, rfl⟩
  have hsf : ∀ e, SameF (nd2 e) (nd' e) := fun e => by rw [hsame e]; exact ⟨rfl, rfl, rfl, rfl, rfl, rfl, rfl, rfl⟩
  have hsc : ∀ e, (nd2 e).child = (nd' e).child := fun e => by rw [hsame e]
  have hstop : Bnd N s.top := Sh.top_lt (fun e he => by rw [hord] at he; exact (memB k hk e he).2.1)
  exact {
    row := hrow.set k 5 s.top _ (fun x hx => by unfold setC; rw [if_neg hx]) (.inr (.inr ⟨rfl, by unfold setC; rw [if_pos rfl]⟩)) hk
    bel := own_fr h.bel hf' (fun g hg hg2 => by
      have : g = lb := by simpa using hg2
      subst this
      exact own_ne h.bel hll (by decide) (by simpa using hg))
    bs := fun i hi => own_fr (h.bs i hi) hf' (fun g hg hg2 => by
      have : g = lb := by simpa using hg2
      subst this
      exact own_ne (h.bs i hi) hll (by decide) (by simpa using hg))
    dis := h.dis
    perm := h.perm
    dat := fun i hi => (h.dat i hi).fr hf' (fun b l hb hb2 => by
      have : b = lb := by simpa using hb2
      subst this
      exact absurd (hb.unique hll).1 (by decide))
    same := fun x => by
      refine SameF.trans ?_ ((hsf x).trans (h.same x))
      unfold setC
      split <;> exact ⟨rfl, rfl, rfl, rfl, rfl, rfl, rfl, rfl⟩
    root := by
      have h0 : 0 ∉ B' k := fun h0 => by have := (memB k hk 0 h0).1; omega
      rw [(hsl 0).1, (hsl 0).2, hout 0 h0]
      exact h.root
    lk := fun x hx => by
      rw [(hsl x).1, (hsl x).2]
      have hc : Bnd N (setC nd2 k s.top x).child := by
        unfold setC
        split
        · exact hstop
        · rw [hsc x]; exact (h.lk x hx).2.2
      by_cases hm : x ∈ B' k
      · have := hfit.bnd (N := N) (fun e he => by rw [hord] at he; exact (memB k hk e he).2.1) x (by rw [hord]; exact hm)
        exact ⟨this.1, this.2, hc⟩
      · have := h.lk x hx
        rw [← hout x hm] at this
        exact ⟨this.1, this.2.1, hc⟩
    ord := fun i hi => by
      by_cases hik : i = k
      · subst hik; simpa using hord
      · simp only [if_neg hik]; exact h.ord i (by omega)
    fits := fun i hi => by
      by_cases hik : i = k
      · subst hik
        simp only [if_pos rfl]
        exact hfit.congr2 (fun e he => hsl e)
      · simp only [if_neg hik]
        refine (h.fits i (by omega)).congr2 (fun e he => ?_)
        rw [h.ord i (by omega)] at he
        have hne : e ∉ B' k := fun h2 => by
          have a := (memB i (by omega) e he).2.2
          have b := (memB k hk e h2).2.2
          omega
        rw [(hsl e).1, (hsl e).2, hout e hne]
        exact ⟨rfl, rfl⟩
    child := fun i hi => by
      by_cases hik : i = k
      · subst hik; simp [setC]
      · simp only [if_neg hik]
        have : (setC nd2 k s.top i).child = (nd2 i).child := by unfold setC; rw [if_neg hik]
        rw [this, hsc i]
        exact h.child i (by omega) }

/-- What nodesOf answers: a row of nodes that hang as one tree. -/
structure NodesOK (base lb N : Nat) (w : World) (nd : Nat → Nd) (dv : Nat → Value) (t : NT) : Prop where
  n1 : 1 ≤ N
  n2 : N ≤ 20
  lbb : base ≤ lb
  row : NdRow w lb N nd dv
  dat : ∀ k, k < N → DatIs w (nd k) (dv k)
  ok : ∀ four step, LayOK ⟨N, nd, four, step⟩
  tree : TreeOK N nd t
  emp : ∀ k, k < N → (nd k).stream = false → (nd k).len = 0
def NodesPost (w : World) (e : Ending) (w' : World) : Prop :=
  ∃ (lb N cap : Nat) (nd : Nat → Nd) (dv : Nat → Value) (t : NT), e = .returned (.slice (some ⟨lb, 0, none⟩) N cap) ∧ N ≤ cap ∧ cap ≤ 9223372036854775807 ∧ Fr [] w w' ∧ NodesOK w.heap.size lb N w' nd dv t

theorem SInv.done {base lb N : Nat} {w : World} {v6 : Value} {nd nd' : Nat → Nd} {dv bv : Nat → Value} {B B' : Nat → List Nat} {par : Nat → Nat} {sh : Nat → Sh} (h : SInv base lb N N w v6 nd nd' dv bv B B' sh) (hP : Par N B par) (hn : 1 ≤ N) (hn2 : N ≤ 20)
    (hok : ∀ i, i < N → NdOK (nd i)) (hroot : (nd 0).stream = false) (hb : base ≤ lb) : NodesOK base lb N w nd' dv (wholeT sh N) where
  n1 := hn
  n2 := hn2
  lbb := hb
  row := h.row
  dat := fun k hk => (h.same k).datIs (h.dat k hk)
  ok := fun four step => {
    n1 := hn
    n2 := hn2
    root := by show (nd' 0).stream = false; rw [(h.same 0).stream]; exact hroot
    len := fun k hk => by show (nd' k).len ≤ 9000; rw [(h.same k).len]; exact (hok k hk).len
    nm1 := fun k hk => by show 1 ≤ (nd' k).name.size; rw [(h.same k).name]; exact (hok k hk).nm1
    nm2 := fun k hk => by show (nd' k).name.size ≤ 10; rw [(h.same k).name]; exact (hok k hk).nm2
    nmc := fun k j hk => by show ((nd' k).name.data.toList.getD j 0).toNat < 128; rw [(h.same k).name]; exact (hok k hk).nmc j
    nm0 := fun k hk => by show 65 ≤ ((nd' k).name.data.toList.getD 0 0).toNat ∧ ((nd' k).name.data.toList.getD 0 0).toNat ≤ 90; rw [(h.same k).name]; exact (hok k hk).nm0
    lks := fun k hk => by
      obtain ⟨a, b, c⟩ := h.lk k hk
      unfold Bnd at a b c
      show (-1 ≤ (nd' k).left ∧ (nd' k).left < 20) ∧ (-1 ≤ (nd' k).right ∧ (nd' k).right < 20) ∧ (-1 ≤ (nd' k).child ∧ (nd' k).child < 20)
      have : N ≤ 20 := hn2
      omega
    cr := fun k hk => by show (nd' k).cr < _; rw [(h.same k).cr]; exact (hok k hk).cr
    md := fun k hk => by show (nd' k).md < _; rw [(h.same k).md]; exact (hok k hk).md }
  tree := by
    have hF : Forest N sh par := {
      mem := fun i hi e he => by rw [h.ord i hi] at he; exact hP.mem i hi e ((h.perm i hi).mem_iff.1 he)
      nodup := fun i hi => by rw [h.ord i hi]; exact (h.perm i hi).nodup_iff.2 (hP.nodup i hi)
      le := hP.le
      all := fun x h1 h2 => by
        obtain ⟨a, b⟩ := hP.all x h1 h2
        refine ⟨a, ?_⟩
        rw [h.ord _ (by omega)]
        exact (h.perm _ (by omega)).mem_iff.2 b }
    exact hF.tree nd' h.fits h.child hn h.root.1 h.root.2
  emp := fun k hk hs => by rw [(h.same k).stream] at hs; rw [(h.same k).len]; exact (hok k hk).emp hs

def lessB (a b : ByteArray) : Bool := if a.size = b.size then Op.bytesLess a.toList b.toList else decide (a.size < b.size)
theorem less_is (a b : ByteArray) (w : World) (ha : a.size ≤ 1000) (hb : b.size ≤ 1000) : Calls Tryd.prog 19 #[.string a, .string b] w fun e w' => e = .returned (.bool (lessB a b)) ∧ w' = w := by
  by_cases h : a.size = b.size
  · have hI : ((a.size : Int) == (b.size : Int)) = true := by simp [h]
    have hI2 : ((a.size : Int) != (b.size : Int)) = false := by simp [h]
    have H := Lib.hid h
    clear h
    go_enter Tryd.func19, Tryd.ntmps19
    go_wp2_with fail
    go_ret
    exact ⟨by unfold lessB; rw [if_pos H.out]; rfl, rfl⟩
  · have hI : ((a.size : Int) == (b.size : Int)) = false := by simp; omega
    have hI2 : ((a.size : Int) != (b.size : Int)) = true := by simp; omega
    have H := Lib.hid h
    clear h
    go_enter Tryd.func19, Tryd.ntmps19
    go_wp2_with fail
    go_ret
    exact ⟨by unfold lessB; rw [if_neg H.out]; rfl, rfl⟩

theorem own_any {w : World} {base : Nat} {e : TypeId} {size n : Nat} {v : Value} {xs : List Value} (h : w.ownsRow base e size v n xs) :
    ∃ pa cap pb, v = .slice pa n cap ∧ n ≤ cap ∧ cap ≤ 9223372036854775807 ∧ (0 < n → pa = some ⟨pb, 0, none⟩) := by
  rcases h.2 with ⟨rfl, rfl⟩ | ⟨b, cap, cur, rfl, hb, hg, h4, h5, h6, ht⟩
  · exact ⟨none, 0, 0, rfl, Nat.le_refl _, by omega, fun h => by omega⟩
  · exact ⟨_, cap, b, rfl, h4, by simpa [maxLen] using h5, fun _ => rfl⟩

theorem swap_perm (C : List Nat) (i : Nat) (hi : i + 1 < C.length) : ((C.set (i + 1) (C.getD i 0)).set i (C.getD (i + 1) 0)).Perm C := by
  have h1 : C.getD i 0 = C[i] := by rw [List.getD_eq_getElem?_getD, List.getElem?_eq_getElem (by omega)]; rfl
  have h2 : C.getD (i + 1) 0 = C[i + 1] := by rw [List.getD_eq_getElem?_getD, List.getElem?_eq_getElem hi]; rfl
  rw [h1, h2]
  have e1 : C = C.take i ++ C[i] :: C[i + 1] :: C.drop (i + 2) := by
    rw [List.getElem_cons_drop, List.getElem_cons_drop, List.take_append_drop]
  have e2 : (C.set (i + 1) C[i]).set i C[i + 1] = C.take i ++ C[i + 1] :: C[i] :: C.drop (i + 2) := by
    apply List.ext_getElem?
    intro j
    rw [List.getElem?_set, List.getElem?_set]
    have hl : (C.take i).length = i := by rw [List.length_take]; omega
    by_cases a : i = j
    · subst a
      rw [if_pos rfl, if_pos (by simp; omega), List.getElem?_append_right (by omega), hl, Nat.sub_self]
      rfl
    · rw [if_neg a]
      by_cases b : i + 1 = j
      · subst b
        rw [if_pos rfl, if_pos hi, List.getElem?_append_right (by omega), hl, show i + 1 - i = 1 by omega]
        rfl
      · rw [if_neg b]
        by_cases c : j < i
        · rw [List.getElem?_append_left (by omega), List.getElem?_take, if_pos c]
        · rw [List.getElem?_append_right (by omega), hl]
          obtain ⟨d, rfl⟩ : ∃ d, j = i + 2 + d := ⟨j - (i + 2), by omega⟩
          rw [show i + 2 + d - i = d + 2 by omega, List.getElem?_cons_succ, List.getElem?_cons_succ, List.getElem?_drop]
  rw [e2]
  conv => rhs; rw [e1]
  exact (List.Perm.swap _ _ _).append_left _

/-- Two cells of a row of places stored. -/
theorem own_map_set {w : World} {base pb cap n : Nat} {C : List Nat} (h : w.ownsRow base 3 1 (.slice (some ⟨pb, 0, none⟩) n cap) n (C.map (fun e => I64 e))) (i x : Nat) (v : Value) (hv : v = I64 x) :
    (w.setCell ⟨pb, i, none⟩ v).ownsRow base 3 1 (.slice (some ⟨pb, 0, none⟩) n cap) n ((C.set i x).map (fun e => I64 e)) := by
  subst hv
  refine ⟨by simpa using h.1, ?_⟩
  rcases h.2 with ⟨h0, _⟩ | ⟨b', cap', cur, hv, hb, hg, h4, h5, h6, ht⟩
  · cases h0
  · injection hv with e1 e2 e3
    cases e1
    subst e3
    have hB : Blk w pb 3 cur.toList := by simpa [Blk] using hg
    have hB2 := hB.set i (I64 x)
    refine .inr ⟨pb, cap, (cur.toList.set i (I64 x)).toArray, rfl, hb, by simpa [Blk] using hB2, h4, h5, by simpa using h6, ?_⟩
    rw [List.take_set, ht, List.map_set]
theorem own_map_cell {w : World} {base pb cap n : Nat} {C : List Nat} (h : w.ownsRow base 3 1 (.slice (some ⟨pb, 0, none⟩) n cap) n (C.map (fun e => I64 e))) (i : Nat) (hi : i < n) : w.cell? ⟨pb, i, none⟩ = some (I64 (C.getD i 0)) := by
  have hl := h.1
  rw [List.length_map, Nat.mul_one] at hl
  have := h.cells rfl i (I64 (C.getD i 0)) (by rw [List.getElem?_map, List.getD_eq_getElem?_getD, List.getElem?_eq_getElem (by omega)]; rfl)
  rwa [add_zero'] at this
theorem own_frz {w : World} {base pb cap n : Nat} {e : TypeId} {size : Nat} {xs : List Value} (h : w.ownsRow base e size (.slice (some ⟨pb, 0, none⟩) n cap) n xs) (i : Nat) : w.frozen? ⟨pb, i, none⟩ = false := by
  rcases h.2 with ⟨h0, _⟩ | ⟨b', cap', cur, hv, hb, hg, h4, h5, h6, ht⟩
  · cases h0
  · injection hv with e1 e2 e3
    cases e1
    have hB : Blk w pb e cur.toList := by simpa [Blk] using hg
    exact hB.frozen i
end Go.Proofs.YtokpomdfgbbhlaaDoor

/- FnMixed: a stream is read, sought and written by steps, what is told is what stands there then, the file behind all is that of the stream with these bytes (part 3 of 18). No condition but the statement's own. -/
import Derived.Deep.CutBlock
import Derived.Laws.Cover4
import Derived.BigRegion
import Derived.Test.YtokpomdfgbbhlaaDoorMxb
set_option linter.all false
set_option linter.unusedVariables false
set_option linter.unusedSimpArgs false
set_option linter.unnecessarySimpa false
/- The contracts of unicode.IsPrint at a capital letter and of utf16.Decode at units below 128. -/
namespace Go.Proofs.YtokpomdfgbbhlaaDoor
open Go Go.RowKit

set_option maxRecDepth 100000 in
set_option maxHeartbeats 400000 in
theorem isPrint_any (r : Nat) (w : World) (h1 : 65 ≤ r) (h2 : r ≤ 90) (hp : w.cell? ⟨2, r, none⟩ = some (.int .u8 160)) :
    Calls Tryd.prog 71 #[.int .i32 r] w fun e w' => e = .returned (.bool true) ∧ w = w' := by
  go_enter Tryd.func71, Tryd.ntmps71
  go_wp2_with fail
  go_ret
  exact ⟨rfl, rfl⟩

set_option maxRecDepth 100000 in
set_option maxHeartbeats 1000000 in
theorem decode_any (sb so len scap nb : Nat) (c : Nat → Nat) (l : List Value) (w : World) (hc : ∀ i, i < len → w.cell? ⟨sb, so + i, none⟩ = some (.int .u16 (c i))) (hlow : ∀ i, c i < 128)
    (hlen : len ≤ 64) (hb : Blk w nb 21 l) (hl : l.length = 64) (hne : sb ≠ nb) :
    Calls Tryd.prog 74 #[.slice (some ⟨sb, so, none⟩) len scap, .slice (some ⟨nb, 0, none⟩) 0 64] w fun e w' =>
      e = .returned (.slice (some ⟨nb, 0, none⟩) len 64) ∧ Fr [nb] w w' ∧ ∃ l', Blk w' nb 21 l' ∧ l'.length = 64 ∧ ∀ i, i < len → l'[i]? = some (.int .i32 (c i)) := by
  go_enter Tryd.func74, Tryd.ntmps74
  go_wp2_with fail
  go_loopw [5, 1] (fun s5 s1 wr => ∃ k : Nat, k ≤ len ∧ s5 = .int .i64 k ∧ s1 = .slice (some ⟨nb, 0, none⟩) k 64 ∧ Fr [nb] w wr ∧ ∃ l', Blk wr nb 21 l' ∧ l'.length = 64 ∧ ∀ i, i < k → l'[i]? = some (.int .i32 (c i))) (fun s5 _ _ => len - (intOf s5).toNat)
  case atStart => exact ⟨0, by omega, rfl, rfl, Fr.refl _ _, l, hb, hl, fun i hi => by omega⟩
  case round =>
    obtain ⟨k, hk, rfl, rfl, hf, l', hb', hl', hd⟩ := hrel
    have hD := Lib.hid hd
    clear hd
    by_cases hlt : k < len
    · have hkI : (k : Int) < (len : Int) := by omega
      have hck : ∀ _ : k < len, wr.cell? ⟨sb, so + k, none⟩ = some (.int .u16 (c k)) := fun _ => hf.cell (by simpa using hne) (hc k hlt)
      have hck' := hck hlt
      have hlk := hlow k
      have hI : (c k : Int) < 55296 := by omega
      go_wp2_with (at_builtin; refine wpList_append_room_blk rfl (.tmp 66) (.tmp 68) 165 rfl 21 Tryd.underlying165 1 (by kernel_rfl) nb k 64 l' rfl (hb'.alloc _) ⟨wr.heap.size, 0, none⟩ 1 1 [.int .i32 (c k)] rfl rfl ?_ ?_ ?_ ?_ ?_)
      · exact cell_one_new _ _ _
      · simp [Value.oneCell']
      · omega
      · simp; omega
      · intro w1 hf1 hb1
        have hD1 : ∀ i, i < k + 1 → (splice l' k [.int .i32 (c k)])[i]? = some (.int .i32 (c i)) := by
          intro i hi
          rw [splice_get _ _ _ (by simp; omega)]
          by_cases hik : i = k
          · subst hik; rw [if_pos (by simp)]; simp
          · rw [if_neg (by simp; omega)]; exact hD.out i (by omega)
        have hl1 : (splice l' k [Value.int .i32 (c k)]).length = 64 := by rw [length_splice _ _ _ (by simp; omega)]; exact hl'
        have hf2 : Fr [nb] w w1 := (hf.alloc _).trans_same hf1
        have HD1 := Lib.hid hD1
        clear hD1 hf1 hc hck hck'
        go_wp2_with fail
        go_roundw
        case rel => exact ⟨k + 1, by omega, by go_num, rfl, hf2, _, hb1, hl1, HD1.out⟩
        case measure => simp [intOf]; omega
    · obtain rfl : k = len := by omega
      go_wp2_with fail
      go_ret
      exact ⟨rfl, hf, l', hb', hl', hD.out⟩

theorem make64 (w : World) : (Instr.makeSlice 165 (.int .i64 0) (.int .i64 64)).run Tryd.prog w = .ok (.slice (some ⟨w.heap.size, 0, none⟩) 0 64) (w.alloc (.cells (List.replicate 64 (.int .i32 0)).toArray 21)) := by kernel_rfl

set_option maxRecDepth 100000 in
set_option maxHeartbeats 1000000 in
theorem utf16Decode_any (sb so len scap : Nat) (c : Nat → Nat) (w : World) (hc : ∀ i, i < len → w.cell? ⟨sb, so + i, none⟩ = some (.int .u16 (c i))) (hlow : ∀ i, c i < 128)
    (hlen : len ≤ 64) (hsb : sb < w.heap.size) :
    Calls Tryd.prog 72 #[.slice (some ⟨sb, so, none⟩) len scap] w fun e w' =>
      e = .returned (.slice (some ⟨w.heap.size, 0, none⟩) len 64) ∧ Fr [] w w' ∧ ∃ l', Blk w' w.heap.size 21 l' ∧ l'.length = 64 ∧ ∀ i, i < len → l'[i]? = some (.int .i32 (c i)) := by
  have hmk := make64
  go_enter Tryd.func72, Tryd.ntmps72
  go_wp2_with fail
  refine (decode_any sb so len scap w.heap.size c (List.replicate 64 (.int .i32 0)) _ ?_ hlow hlen (Blk.new' _ _ _) (by simp) (by omega)).mono ?_
  · exact fun i hi => ((Fr.refl [] w).alloc _).cell0 (hc i hi)
  rintro e w1 ⟨rfl, hf, hl⟩
  go_wp2_with fail
  go_ret
  exact ⟨rfl, ((Fr.refl [] w).alloc _).trans hf (by simp), hl⟩
end Go.Proofs.YtokpomdfgbbhlaaDoor

/- The contracts of zzGuid and zzTime. -/
namespace Go.Proofs.YtokpomdfgbbhlaaDoor
open Go Go.RowKit

set_option maxRecDepth 100000 in
set_option maxHeartbeats 400000 in
theorem zzTime_any (b off len cap : Nat) (f : Nat → UInt8) (w : World) (hl : 8 ≤ len) (hl' : len ≤ 9223372036854775807)
    (hc : ∀ i, i < 8 → w.cell? ⟨b, off + i, none⟩ = some (U8 (f i))) :
    Calls Tryd.prog 69 #[.slice (some ⟨b, off, none⟩) len cap] w fun e w' => e = .returned (.int .u64 (le f 8)) ∧ Fr [] w w' := by
  go_enter Tryd.func69, Tryd.ntmps69
  go_wp2_with fail
  refine (uint64_any b off len cap f _ hl hl' hc).mono ?_
  rintro e w1 ⟨rfl, hf⟩
  go_wp2_with fail
  go_ret
  exact ⟨rfl, hf⟩

/-- The sixteen bytes of a class. -/
def guidA (f : Nat → UInt8) : Array Value := (tab 16 (fun i => U8 (f i))).toArray
theorem guidA_size (f : Nat → UInt8) : (guidA f).size = 16 := by simp [guidA]
theorem guidA_one (f : Nat → UInt8) : (guidA f).all (·.oneCell') = true := tab_oneCell (fun _ _ => rfl)

set_option maxRecDepth 100000 in
set_option maxHeartbeats 1000000 in
theorem zzGuid_any (b off cap : Nat) (f : Nat → UInt8) (w : World) (hbw : b < w.heap.size)
    (hc : ∀ i, i < 16 → w.cell? ⟨b, off + i, none⟩ = some (U8 (f i))) :
    Calls Tryd.prog 68 #[.slice (some ⟨b, off, none⟩) 16 cap] w fun e w' => e = .returned (.agg (guidA f)) ∧ Fr [] w w' := by
  go_enter Tryd.func68, Tryd.ntmps68
  go_wp2_with (with_reducible refine wpList_copy_blk rfl (.tmp 4) (.tmp 5) 23 23 rfl 5 Tryd.underlying23 (by kernel_rfl) _ _ _ _ _ _ rfl rfl (w.heap.size + 1) 0 (List.replicate 16 (.int .u8 0)) 97 ?_ 16 (fun i => U8 (f i)) ?_ ?_ ?_ ?_ ?_)
  · have := Blk.new' (w.alloc (.cells (List.replicate 16 (.int .u8 0)).toArray 97)) 97 (List.replicate 16 (.int .u8 0)).toArray
    simpa using this
  · exact fun j hj => hc j hj
  · simp
  · intro j _; rfl
  · intro w1 hf1 hb1
    have hb2 : Blk w1 (w.heap.size + 1) 97 (tab 16 (fun i => U8 (f i))) := by
      have e := splice_whole (List.replicate 16 (.int .u8 0)) (tab 16 (fun i => U8 (f i))) (by simp)
      rw [← e]; exact hb1
    have hr1 : Blk w1 w.heap.size 97 (List.replicate 16 (.int .u8 0)) := ((Blk.new' w 97 (List.replicate 16 (.int .u8 0)).toArray).alloc _).fr hf1 (by simp)
    have hfr : Fr [] w w1 := ((((Fr.refl [] w).alloc _).alloc _).trans hf1 (by simp))
    clear hf1 hb1 hc
    go_wp2_with (first
      | (with_reducible refine wpList_load_blk rfl 97 (.tmp 3) rfl (w.heap.size + 1) 0 rfl 97 _ hb2 _ Tryd.underlying97 rfl 16 (by kernel_rfl) (by simp) (guidA f) ?_ ?_)
      | (with_reducible refine wpList_store_blk rfl 97 (.tmp 2) (.tmp 7) rfl w.heap.size 0 (guidA f) rfl rfl 97 _ hr1 ?_ ?_ (guidA_one f) ?_))
    · rw [tab_drop_take _ _ _ _ (by omega)]; simp [guidA]
    · simp [guidA_size]
    · rw [guidA_size]; kernel_rfl
    · intro w2 hf2 hb3
      have e3 := splice_whole (List.replicate 16 (.int .u8 0)) (guidA f).toList (by simp [guidA])
      have hb4 : Blk w2 w.heap.size 97 (guidA f).toList := by rw [← e3]; exact hb3
      have hld : (loadVar 97 ⟨w.heap.size, 0, none⟩).run Tryd.prog w2 = .ok (.agg (guidA f)) w2 := by
        have := run_loadVar_mid (P := Tryd.prog) w2 w.heap.size 0 97 (guidA f).toList _ (fun j v hj => by rw [hb4.cell]; simpa using hj) Tryd.underlying97 rfl (by rw [Array.length_toList, guidA_size]; kernel_rfl)
        simpa using this
      clear hb3 hb4 e3
      go_wp2_with fail
      refine bodyPost_ret (v := .agg (guidA f)) ?_ rfl ⟨rfl, hfr.trans hf2 (by simp)⟩
      simp [results, Tryd.results68, asAddr, hld]
end Go.Proofs.YtokpomdfgbbhlaaDoor

/- The contract of makeHeader: a new block with the fields that the first 512 bytes spell. Condition: 512 bytes lie in the slice. (Printed by gen/gen_header.py.) -/
namespace Go.Proofs.YtokpomdfgbbhlaaDoor
open Go Go.RowKit

/-- The zero value of headerFields. -/
def hdrZero : List Value := [.int .u64 0] ++ List.replicate 16 (.int .u8 0) ++ [.int .u16 0, .int .u16 0, .int .u8 0, .int .u8 0, .int .u16 0] ++ List.replicate 8 (.int .u8 0) ++ [.int .u32 0, .int .u32 0, .int .u32 0] ++ List.replicate 8 (.int .u8 0) ++ List.replicate 113 (.int .u32 0)

def hdrL1 (F : Nat → UInt8) : List Value := (hdrZero).set 0 (.int .u64 (le (fun i => F (0 + i)) 8))
def hdrL2 (F : Nat → UInt8) : List Value := (hdrL1 F).set 17 (.int .u16 (le (fun i => F (24 + i)) 2))
def hdrL3 (F : Nat → UInt8) : List Value := (hdrL2 F).set 18 (.int .u16 (le (fun i => F (26 + i)) 2))
def hdrL4 (F : Nat → UInt8) : List Value := (hdrL3 F).set 21 (.int .u16 (le (fun i => F (30 + i)) 2))
def hdrL5 (F : Nat → UInt8) : List Value := (hdrL4 F).set 30 (.int .u32 (le (fun i => F (40 + i)) 4))
def hdrL6 (F : Nat → UInt8) : List Value := (hdrL5 F).set 31 (.int .u32 (le (fun i => F (44 + i)) 4))
def hdrL7 (F : Nat → UInt8) : List Value := (hdrL6 F).set 32 (.int .u32 (le (fun i => F (48 + i)) 4))
def hdrL8 (F : Nat → UInt8) : List Value := (hdrL7 F).set 41 (.int .u32 (le (fun i => F (60 + i)) 4))
def hdrL9 (F : Nat → UInt8) : List Value := (hdrL8 F).set 42 (.int .u32 (le (fun i => F (64 + i)) 4))
def hdrL10 (F : Nat → UInt8) : List Value := (hdrL9 F).set 43 (.int .u32 (le (fun i => F (68 + i)) 4))
def hdrL11 (F : Nat → UInt8) : List Value := (hdrL10 F).set 44 (.int .u32 (le (fun i => F (72 + i)) 4))

/-- What the block holds when i of the 109 places are filled. -/
def hdrN (F : Nat → UInt8) : Nat → List Value
  | 0 => hdrL11 F
  | i + 1 => (hdrN F i).set (45 + i) (.int .u32 (le (fun j => F (76 + 4 * i + j)) 4))

theorem hdrLlen0 : (hdrZero).length = 154 := by simp [hdrZero]
theorem hdrLlen1 (F : Nat → UInt8) : (hdrL1 F).length = 154 := by unfold hdrL1; rw [List.length_set]; exact hdrLlen0
theorem hdrLlen2 (F : Nat → UInt8) : (hdrL2 F).length = 154 := by unfold hdrL2; rw [List.length_set]; exact hdrLlen1 F
theorem hdrLlen3 (F : Nat → UInt8) : (hdrL3 F).length = 154 := by unfold hdrL3; rw [List.length_set]; exact hdrLlen2 F
theorem hdrLlen4 (F : Nat → UInt8) : (hdrL4 F).length = 154 := by unfold hdrL4; rw [List.length_set]; exact hdrLlen3 F
theorem hdrLlen5 (F : Nat → UInt8) : (hdrL5 F).length = 154 := by unfold hdrL5; rw [List.length_set]; exact hdrLlen4 F
theorem hdrLlen6 (F : Nat → UInt8) : (hdrL6 F).length = 154 := by unfold hdrL6; rw [List.length_set]; exact hdrLlen5 F
theorem hdrLlen7 (F : Nat → UInt8) : (hdrL7 F).length = 154 := by unfold hdrL7; rw [List.length_set]; exact hdrLlen6 F
theorem hdrLlen8 (F : Nat → UInt8) : (hdrL8 F).length = 154 := by unfold hdrL8; rw [List.length_set]; exact hdrLlen7 F
theorem hdrLlen9 (F : Nat → UInt8) : (hdrL9 F).length = 154 := by unfold hdrL9; rw [List.length_set]; exact hdrLlen8 F
theorem hdrLlen10 (F : Nat → UInt8) : (hdrL10 F).length = 154 := by unfold hdrL10; rw [List.length_set]; exact hdrLlen9 F
theorem hdrLlen11 (F : Nat → UInt8) : (hdrL11 F).length = 154 := by unfold hdrL11; rw [List.length_set]; exact hdrLlen10 F
theorem hdrN_len (F : Nat → UInt8) (i : Nat) : (hdrN F i).length = 154 := by
  induction i with
  | zero => exact hdrLlen11 F
  | succ i ih => rw [hdrN, List.length_set, ih]

theorem hdrN_low (F : Nat → UInt8) (n j : Nat) (hj : j < 45) : (hdrN F n)[j]? = (hdrL11 F)[j]? := by
  induction n with
  | zero => rfl
  | succ n ih => rw [hdrN, List.getElem?_set_ne (by omega), ih]

theorem hdrN_tab (F : Nat → UInt8) (n j : Nat) (hn : n ≤ 109) (hj : j < n) : (hdrN F n)[45 + j]? = some (.int .u32 (fld F (76 + 4 * j) 4)) := by
  induction n with
  | zero => omega
  | succ n ih =>
    rw [hdrN]
    by_cases h : j = n
    · subst h
      rw [List.getElem?_set_self (by rw [hdrN_len]; omega)]; rfl
    · rw [List.getElem?_set_ne (by omega), ih (by omega) (by omega)]

theorem hdr_sig (F : Nat → UInt8) : (hdrN F 109)[0]? = some (.int .u64 (fld F 0 8)) := by rw [hdrN_low _ _ _ (by omega)]; rfl
theorem hdr_major (F : Nat → UInt8) : (hdrN F 109)[18]? = some (.int .u16 (fld F 26 2)) := by rw [hdrN_low _ _ _ (by omega)]; rfl
theorem hdr_shift (F : Nat → UInt8) : (hdrN F 109)[21]? = some (.int .u16 (fld F 30 2)) := by rw [hdrN_low _ _ _ (by omega)]; rfl
theorem hdr_ndir (F : Nat → UInt8) : (hdrN F 109)[30]? = some (.int .u32 (fld F 40 4)) := by rw [hdrN_low _ _ _ (by omega)]; rfl
theorem hdr_nfat (F : Nat → UInt8) : (hdrN F 109)[31]? = some (.int .u32 (fld F 44 4)) := by rw [hdrN_low _ _ _ (by omega)]; rfl
theorem hdr_dir (F : Nat → UInt8) : (hdrN F 109)[32]? = some (.int .u32 (fld F 48 4)) := by rw [hdrN_low _ _ _ (by omega)]; rfl
theorem hdr_mf (F : Nat → UInt8) : (hdrN F 109)[41]? = some (.int .u32 (fld F 60 4)) := by rw [hdrN_low _ _ _ (by omega)]; rfl
theorem hdr_nmf (F : Nat → UInt8) : (hdrN F 109)[42]? = some (.int .u32 (fld F 64 4)) := by rw [hdrN_low _ _ _ (by omega)]; rfl
theorem hdr_ndf (F : Nat → UInt8) : (hdrN F 109)[44]? = some (.int .u32 (fld F 72 4)) := by rw [hdrN_low _ _ _ (by omega)]; rfl

set_option maxRecDepth 100000 in
set_option maxHeartbeats 4000000 in
theorem makeHeader_any (b len cap : Nat) (F : Nat → UInt8) (w : World) (hl : 512 ≤ len) (hl' : len ≤ 4096) (hlc : len ≤ cap) (hcap : cap ≤ 9223372036854775807)
    (hF : ∀ i, i < 512 → w.cell? ⟨b, i, none⟩ = some (U8 (F i))) :
    Calls Tryd.prog 57 #[.slice (some ⟨b, 0, none⟩) len cap] w fun e w' => e = .returned (.pointer (some ⟨w.heap.size, 0, none⟩)) ∧ Fr [] w w' ∧ Blk w' w.heap.size 147 (hdrN F 109) := by
  go_enter Tryd.func57, Tryd.ntmps57
  go_upto_region 1 with (fail)
  go_cut [3] from 6 to 7 (fun s3 w1 => s3 = .pointer (some ⟨w.heap.size, 0, none⟩) ∧ Fr [] w w1 ∧ Blk w1 w.heap.size 147 hdrZero)
  case first =>
    go_wp2
    go_meet
    case rel => exact ⟨rfl, (Fr.refl _ _).alloc _, Blk.new' _ _ _⟩
  case rest =>
  obtain ⟨rfl, hf, hb⟩ := hcut
  go_upto_region 2 with (fail)
  go_cut [3] from 8 to 14 (fun s3 w1 => s3 = .pointer (some ⟨w.heap.size, 0, none⟩) ∧ Fr [] w w1 ∧ Blk w1 w.heap.size 147 (hdrL1 F))
  case first =>
    have g1 : ∀ i, i < 8 → wc.drew.cell? ⟨b, 0 + i, none⟩ = some (U8 (F (0 + i))) := fun i hi => hf.cells0 hF _ (by omega)
    have hbd : Blk wc.drew w.heap.size 147 (hdrZero) := hb
    go_region_with (go_at_call 66; refine (uint64_any b 0 8 _ (fun i => F (0 + i)) _ (by omega) (by omega) g1).mono ?_; rintro e w2 ⟨rfl, hf2⟩; have hb2 := hbd.fr0 hf2; obtain ⟨v2, hc2⟩ := hb2.some 0 (by rw [hdrLlen0]; omega); have hz2 := hb2.frozen 0)
    all_goals
      go_wp2_with fail
      go_meet
      case rel => exact ⟨rfl, (hf.drew.trans0 hf2).setCell (.inr (Nat.le_refl _)) _, hb2.set _ _⟩
  case rest =>
  clear hf hb
  obtain ⟨rfl, hf, hb⟩ := hcut
  go_upto_region 3 with (fail)
  go_cut [3] from 15 to 21 (fun s3 w1 => s3 = .pointer (some ⟨w.heap.size, 0, none⟩) ∧ Fr [] w w1 ∧ Blk w1 w.heap.size 147 (hdrL2 F))
  case first =>
    have g1 : ∀ i, i < 2 → wc.drew.cell? ⟨b, 24 + i, none⟩ = some (U8 (F (24 + i))) := fun i hi => hf.cells0 hF _ (by omega)
    have hbd : Blk wc.drew w.heap.size 147 (hdrL1 F) := hb
    go_region_with (go_at_call 67; refine (uint16_any b 24 2 _ (fun i => F (24 + i)) _ (by omega) (by omega) g1).mono ?_; rintro e w2 ⟨rfl, hf2⟩; have hb2 := hbd.fr0 hf2; obtain ⟨v2, hc2⟩ := hb2.some 17 (by rw [hdrLlen1]; omega); have hz2 := hb2.frozen 17)
    all_goals
      go_wp2_with fail
      go_meet
      case rel => exact ⟨rfl, (hf.drew.trans0 hf2).setCell (.inr (Nat.le_refl _)) _, hb2.set _ _⟩
  case rest =>
  clear hf hb
  obtain ⟨rfl, hf, hb⟩ := hcut
  go_upto_region 4 with (fail)
  go_cut [3] from 22 to 28 (fun s3 w1 => s3 = .pointer (some ⟨w.heap.size, 0, none⟩) ∧ Fr [] w w1 ∧ Blk w1 w.heap.size 147 (hdrL3 F))
  case first =>
    have g1 : ∀ i, i < 2 → wc.drew.cell? ⟨b, 26 + i, none⟩ = some (U8 (F (26 + i))) := fun i hi => hf.cells0 hF _ (by omega)
    have hbd : Blk wc.drew w.heap.size 147 (hdrL2 F) := hb
    go_region_with (go_at_call 67; refine (uint16_any b 26 2 _ (fun i => F (26 + i)) _ (by omega) (by omega) g1).mono ?_; rintro e w2 ⟨rfl, hf2⟩; have hb2 := hbd.fr0 hf2; obtain ⟨v2, hc2⟩ := hb2.some 18 (by rw [hdrLlen2]; omega); have hz2 := hb2.frozen 18)
    all_goals
      go_wp2_with fail
      go_meet
      case rel => exact ⟨rfl, (hf.drew.trans0 hf2).setCell (.inr (Nat.le_refl _)) _, hb2.set _ _⟩
  case rest =>
  clear hf hb
  obtain ⟨rfl, hf, hb⟩ := hcut
  go_upto_region 5 with (fail)
  go_cut [3] from 29 to 35 (fun s3 w1 => s3 = .pointer (some ⟨w.heap.size, 0, none⟩) ∧ Fr [] w w1 ∧ Blk w1 w.heap.size 147 (hdrL4 F))
  case first =>
    have g1 : ∀ i, i < 2 → wc.drew.cell? ⟨b, 30 + i, none⟩ = some (U8 (F (30 + i))) := fun i hi => hf.cells0 hF _ (by omega)
    have hbd : Blk wc.drew w.heap.size 147 (hdrL3 F) := hb
    go_region_with (go_at_call 67; refine (uint16_any b 30 2 _ (fun i => F (30 + i)) _ (by omega) (by omega) g1).mono ?_; rintro e w2 ⟨rfl, hf2⟩; have hb2 := hbd.fr0 hf2; obtain ⟨v2, hc2⟩ := hb2.some 21 (by rw [hdrLlen3]; omega); have hz2 := hb2.frozen 21)
    all_goals
      go_wp2_with fail
      go_meet
      case rel => exact ⟨rfl, (hf.drew.trans0 hf2).setCell (.inr (Nat.le_refl _)) _, hb2.set _ _⟩
  case rest =>
  clear hf hb
  obtain ⟨rfl, hf, hb⟩ := hcut
  go_upto_region 6 with (fail)
  go_cut [3] from 36 to 42 (fun s3 w1 => s3 = .pointer (some ⟨w.heap.size, 0, none⟩) ∧ Fr [] w w1 ∧ Blk w1 w.heap.size 147 (hdrL5 F))
  case first =>
    have g1 : ∀ i, i < 4 → wc.drew.cell? ⟨b, 40 + i, none⟩ = some (U8 (F (40 + i))) := fun i hi => hf.cells0 hF _ (by omega)
    have hbd : Blk wc.drew w.heap.size 147 (hdrL4 F) := hb
    go_region_with (go_at_call 59; refine (uint32_any b 40 4 _ (fun i => F (40 + i)) _ (by omega) (by omega) g1).mono ?_; rintro e w2 ⟨rfl, hf2⟩; have hb2 := hbd.fr0 hf2; obtain ⟨v2, hc2⟩ := hb2.some 30 (by rw [hdrLlen4]; omega); have hz2 := hb2.frozen 30)
    all_goals
      go_wp2_with fail
      go_meet
      case rel => exact ⟨rfl, (hf.drew.trans0 hf2).setCell (.inr (Nat.le_refl _)) _, hb2.set _ _⟩
  case rest =>
  clear hf hb
  obtain ⟨rfl, hf, hb⟩ := hcut
  go_upto_region 7 with (fail)
  go_cut [3] from 43 to 49 (fun s3 w1 => s3 = .pointer (some ⟨w.heap.size, 0, none⟩) ∧ Fr [] w w1 ∧ Blk w1 w.heap.size 147 (hdrL6 F))
  case first =>
    have g1 : ∀ i, i < 4 → wc.drew.cell? ⟨b, 44 + i, none⟩ = some (U8 (F (44 + i))) := fun i hi => hf.cells0 hF _ (by omega)
    have hbd : Blk wc.drew w.heap.size 147 (hdrL5 F) := hb
    go_region_with (go_at_call 59; refine (uint32_any b 44 4 _ (fun i => F (44 + i)) _ (by omega) (by omega) g1).mono ?_; rintro e w2 ⟨rfl, hf2⟩; have hb2 := hbd.fr0 hf2; obtain ⟨v2, hc2⟩ := hb2.some 31 (by rw [hdrLlen5]; omega); have hz2 := hb2.frozen 31)
    all_goals
      go_wp2_with fail
      go_meet
      case rel => exact ⟨rfl, (hf.drew.trans0 hf2).setCell (.inr (Nat.le_refl _)) _, hb2.set _ _⟩
  case rest =>
  clear hf hb
  obtain ⟨rfl, hf, hb⟩ := hcut
  go_upto_region 8 with (fail)
  go_cut [3] from 50 to 56 (fun s3 w1 => s3 = .pointer (some ⟨w.heap.size, 0, none⟩) ∧ Fr [] w w1 ∧ Blk w1 w.heap.size 147 (hdrL7 F))
  case first =>
    have g1 : ∀ i, i < 4 → wc.drew.cell? ⟨b, 48 + i, none⟩ = some (U8 (F (48 + i))) := fun i hi => hf.cells0 hF _ (by omega)
    have hbd : Blk wc.drew w.heap.size 147 (hdrL6 F) := hb
    go_region_with (go_at_call 59; refine (uint32_any b 48 4 _ (fun i => F (48 + i)) _ (by omega) (by omega) g1).mono ?_; rintro e w2 ⟨rfl, hf2⟩; have hb2 := hbd.fr0 hf2; obtain ⟨v2, hc2⟩ := hb2.some 32 (by rw [hdrLlen6]; omega); have hz2 := hb2.frozen 32)
    all_goals
      go_wp2_with fail
      go_meet
      case rel => exact ⟨rfl, (hf.drew.trans0 hf2).setCell (.inr (Nat.le_refl _)) _, hb2.set _ _⟩
  case rest =>
  clear hf hb
  obtain ⟨rfl, hf, hb⟩ := hcut
  go_upto_region 9 with (fail)
  go_cut [3] from 57 to 63 (fun s3 w1 => s3 = .pointer (some ⟨w.heap.size, 0, none⟩) ∧ Fr [] w w1 ∧ Blk w1 w.heap.size 147 (hdrL8 F))
  case first =>
    have g1 : ∀ i, i < 4 → wc.drew.cell? ⟨b, 60 + i, none⟩ = some (U8 (F (60 + i))) := fun i hi => hf.cells0 hF _ (by omega)
    have hbd : Blk wc.drew w.heap.size 147 (hdrL7 F) := hb
    go_region_with (go_at_call 59; refine (uint32_any b 60 4 _ (fun i => F (60 + i)) _ (by omega) (by omega) g1).mono ?_; rintro e w2 ⟨rfl, hf2⟩; have hb2 := hbd.fr0 hf2; obtain ⟨v2, hc2⟩ := hb2.some 41 (by rw [hdrLlen7]; omega); have hz2 := hb2.frozen 41)
    all_goals
      go_wp2_with fail
      go_meet
      case rel => exact ⟨rfl, (hf.drew.trans0 hf2).setCell (.inr (Nat.le_refl _)) _, hb2.set _ _⟩
  case rest =>
  clear hf hb
  obtain ⟨rfl, hf, hb⟩ := hcut
  go_upto_region 10 with (fail)
  go_cut [3] from 64 to 70 (fun s3 w1 => s3 = .pointer (some ⟨w.heap.size, 0, none⟩) ∧ Fr [] w w1 ∧ Blk w1 w.heap.size 147 (hdrL9 F))
  case first =>
    have g1 : ∀ i, i < 4 → wc.drew.cell? ⟨b, 64 + i, none⟩ = some (U8 (F (64 + i))) := fun i hi => hf.cells0 hF _ (by omega)
    have hbd : Blk wc.drew w.heap.size 147 (hdrL8 F) := hb
    go_region_with (go_at_call 59; refine (uint32_any b 64 4 _ (fun i => F (64 + i)) _ (by omega) (by omega) g1).mono ?_; rintro e w2 ⟨rfl, hf2⟩; have hb2 := hbd.fr0 hf2; obtain ⟨v2, hc2⟩ := hb2.some 42 (by rw [hdrLlen8]; omega); have hz2 := hb2.frozen 42)
    all_goals
      go_wp2_with fail
      go_meet
      case rel => exact ⟨rfl, (hf.drew.trans0 hf2).setCell (.inr (Nat.le_refl _)) _, hb2.set _ _⟩
  case rest =>
  clear hf hb
  obtain ⟨rfl, hf, hb⟩ := hcut
  go_upto_region 11 with (fail)
  go_cut [3] from 71 to 77 (fun s3 w1 => s3 = .pointer (some ⟨w.heap.size, 0, none⟩) ∧ Fr [] w w1 ∧ Blk w1 w.heap.size 147 (hdrL10 F))
  case first =>
    have g1 : ∀ i, i < 4 → wc.drew.cell? ⟨b, 68 + i, none⟩ = some (U8 (F (68 + i))) := fun i hi => hf.cells0 hF _ (by omega)
    have hbd : Blk wc.drew w.heap.size 147 (hdrL9 F) := hb
    go_region_with (go_at_call 59; refine (uint32_any b 68 4 _ (fun i => F (68 + i)) _ (by omega) (by omega) g1).mono ?_; rintro e w2 ⟨rfl, hf2⟩; have hb2 := hbd.fr0 hf2; obtain ⟨v2, hc2⟩ := hb2.some 43 (by rw [hdrLlen9]; omega); have hz2 := hb2.frozen 43)
    all_goals
      go_wp2_with fail
      go_meet
      case rel => exact ⟨rfl, (hf.drew.trans0 hf2).setCell (.inr (Nat.le_refl _)) _, hb2.set _ _⟩
  case rest =>
  clear hf hb
  obtain ⟨rfl, hf, hb⟩ := hcut
  go_upto_region 12 with (fail)
  go_cut [3] from 78 to 84 (fun s3 w1 => s3 = .pointer (some ⟨w.heap.size, 0, none⟩) ∧ Fr [] w w1 ∧ Blk w1 w.heap.size 147 (hdrL11 F))
  case first =>
    have g1 : ∀ i, i < 4 → wc.drew.cell? ⟨b, 72 + i, none⟩ = some (U8 (F (72 + i))) := fun i hi => hf.cells0 hF _ (by omega)
    have hbd : Blk wc.drew w.heap.size 147 (hdrL10 F) := hb
    go_region_with (go_at_call 59; refine (uint32_any b 72 4 _ (fun i => F (72 + i)) _ (by omega) (by omega) g1).mono ?_; rintro e w2 ⟨rfl, hf2⟩; have hb2 := hbd.fr0 hf2; obtain ⟨v2, hc2⟩ := hb2.some 44 (by rw [hdrLlen10]; omega); have hz2 := hb2.frozen 44)
    all_goals
      go_wp2_with fail
      go_meet
      case rel => exact ⟨rfl, (hf.drew.trans0 hf2).setCell (.inr (Nat.le_refl _)) _, hb2.set _ _⟩
  case rest =>
  clear hf hb
  obtain ⟨rfl, hf, hb⟩ := hcut
  go_wp2_with fail
  go_loopw [4, 5] (fun s4 s5 wr => ∃ k : Nat, k ≤ 109 ∧ s4 = .int .i64 k ∧ s5 = .int .i64 (76 + 4 * (k : Int)) ∧ Fr [] w wr ∧ Blk wr w.heap.size 147 (hdrN F k)) (fun s4 _ _ => 109 - (intOf s4).toNat)
  case atStart => exact ⟨0, by omega, rfl, rfl, hf, hb⟩
  case round =>
    obtain ⟨k, hk, rfl, rfl, hf, hb⟩ := hrel
    by_cases hlt : k < 109
    · have h5 : 76 + 4 * k + 4 ≤ 512 := by omega
      have h6 : 76 + 4 * (k : Int) < 512 := by omega
      have hk0 : (0 : Int) ≤ (k : Int) := by omega
      have hk1 : (k : Int) < 109 := by omega
      go_wp2_with fail
      go_cut [4] from 89 to 100 (fun s4 w1 => s4 = .int .i64 k ∧ Fr [] w w1 ∧ Blk w1 w.heap.size 147 (hdrN F (k + 1)))
      case first =>
        have g1 : ∀ i, i < 4 → wr.drew.cell? ⟨b, 76 + 4 * k + i, none⟩ = some (U8 (F (76 + 4 * k + i))) := fun i hi => hf.cells0 hF _ (by omega)
        have hbd : Blk wr.drew w.heap.size 147 (hdrN F k) := hb
        have hcon := Lib.hid (uint32_any b (76 + 4 * k) 4 (cap - (76 + 4 * k)) (fun i => F (76 + 4 * k + i)) wr.drew (by omega) (by omega) g1)
        have hln : 45 + k < (hdrN F k).length := by rw [hdrN_len]; omega
        have hne : ¬ cap = 76 + 4 * k := by omega
        clear g1
        have hw1 : IntKind.i64.wrap (76 + 4 * (k : Int) + 4) = 76 + 4 * (k : Int) + 4 := IntWalk.i64_in _ (by omega)
        have hw2 : (76 + 4 * (k : Int)).toNat = 76 + 4 * k := by omega
        have hw3 : (76 + 4 * (k : Int) + 4).toNat = 76 + 4 * k + 4 := by omega
        have hw4 : 0 ≤ 76 + 4 * (k : Int) := by omega
        have hw5 : 76 + 4 * (k : Int) ≤ 76 + 4 * (k : Int) + 4 := by omega
        have hw6 : 76 + 4 * (k : Int) + 4 ≤ (cap : Int) := by omega
        go_region_with (go_at_call 59; refine hcon.out.mono ?_; clear hcon hw1 hw2 hw3 hw4 hw5 hw6; rintro e w2 ⟨rfl, hf2⟩; have hb2 := hbd.fr0 hf2; obtain ⟨v2, hc2⟩ := hb2.some (45 + k) hln; have hz2 := hb2.frozen (45 + k))
        all_goals
          go_wp2_with fail
          go_meet
          case rel => exact ⟨rfl, (hf.drew.trans0 hf2).setCell (.inr (Nat.le_refl _)) _, hb2.set _ _⟩
      case rest =>
        clear hf hb
        obtain ⟨rfl, hf, hb⟩ := hcut
        go_wp2_with fail
        go_roundw
        case rel => exact ⟨k + 1, by omega, by go_num, by go_num, hf, hb⟩
        case measure => simp [intOf]; omega
    · obtain rfl : k = 109 := by omega
      go_wp2_with fail
      go_ret
      exact ⟨rfl, hf, hb⟩
end Go.Proofs.YtokpomdfgbbhlaaDoor

/- The contract of makeDirEntry: a new block with the fields that 128 bytes spell. Condition: 128 bytes lie in the slice. (Printed by gen/gen_dir.py.) -/
namespace Go.Proofs.YtokpomdfgbbhlaaDoor
open Go Go.RowKit

/-- The zero value of directoryEntryFields, cell by cell. -/
def dirZ (j : Nat) : Value := if j < 33 then .int .u16 0 else if j < 35 then .int .u8 0 else if j < 38 then .int .u32 0 else if j < 58 then .int .u8 0 else if j < 60 then .int .u64 0 else if j = 60 then .int .u32 0 else .int .u8 0
def dirN (G : Nat → UInt8) (k : Nat) (j : Nat) : Value := if j < k then .int .u16 (fld G (2 * j) 2) else dirZ j
def dirL1 (G : Nat → UInt8) (j : Nat) : Value := if j = 32 then .int .u16 (fld G 64 2) else dirN G 32 j
def dirL2 (G : Nat → UInt8) (j : Nat) : Value := if j = 33 then U8 (G 66) else dirL1 G j
def dirL3 (G : Nat → UInt8) (j : Nat) : Value := if j = 34 then U8 (G 67) else dirL2 G j
def dirL4 (G : Nat → UInt8) (j : Nat) : Value := if j = 35 then .int .u32 (fld G 68 4) else dirL3 G j
def dirL5 (G : Nat → UInt8) (j : Nat) : Value := if j = 36 then .int .u32 (fld G 72 4) else dirL4 G j
def dirL6 (G : Nat → UInt8) (j : Nat) : Value := if j = 37 then .int .u32 (fld G 76 4) else dirL5 G j
def dirL7 (G : Nat → UInt8) (j : Nat) : Value := if 38 ≤ j ∧ j < 38 + 16 then U8 (G (80 + (j - 38))) else dirL6 G j
def dirL8 (G : Nat → UInt8) (j : Nat) : Value := if 54 ≤ j ∧ j < 54 + 4 then U8 (G (96 + (j - 54))) else dirL7 G j
def dirL9 (G : Nat → UInt8) (j : Nat) : Value := if j = 58 then .int .u64 (fld G 100 8) else dirL8 G j
def dirL10 (G : Nat → UInt8) (j : Nat) : Value := if j = 59 then .int .u64 (fld G 108 8) else dirL9 G j
def dirL11 (G : Nat → UInt8) (j : Nat) : Value := if j = 60 then .int .u32 (fld G 116 4) else dirL10 G j
def dirL12 (G : Nat → UInt8) (j : Nat) : Value := if 61 ≤ j ∧ j < 61 + 8 then U8 (G (120 + (j - 61))) else dirL11 G j

set_option maxRecDepth 100000 in
set_option maxHeartbeats 8000000 in
theorem makeDirEntry_any (b base len cap : Nat) (G : Nat → UInt8) (w : World) (hl : 128 ≤ len) (hl' : len ≤ 4096) (hlc : len ≤ cap) (hcap : cap ≤ 9223372036854775807)
    (hF : ∀ i, i < 128 → w.cell? ⟨b, base + i, none⟩ = some (U8 (G i))) :
    Calls Tryd.prog 60 #[.slice (some ⟨b, base, none⟩) len cap] w fun e w' => e = .returned (.pointer (some ⟨w.heap.size, 0, none⟩)) ∧ Fr [] w w' ∧ Blk w' w.heap.size 119 (tab 69 (dirL12 G)) := by
  have hbw := World.block_lt_of_cell? w _ (hF 0 (by omega))
  dsimp only at hbw
  go_enter Tryd.func60, Tryd.ntmps60
  go_upto_region 1 with (fail)
  go_cut [3] from 5 to 6 (fun s3 w1 => s3 = .pointer (some ⟨w.heap.size, 0, none⟩) ∧ Fr [] w w1 ∧ Blk w1 w.heap.size 119 (tab 69 (dirN G 0)))
  case first =>
    go_wp2
    go_meet
    case rel => exact ⟨rfl, (Fr.refl _ _).alloc _, Blk.new' _ _ _⟩
  case rest =>
  obtain ⟨rfl, hf, hb⟩ := hcut
  go_upto_block 0 with (fail)
  go_cut [] from 4 to 24 (fun w1 => Fr [] w w1 ∧ Blk w1 w.heap.size 119 (tab 69 (dirN G 32)))
  case first =>
    go_wp2_with fail
    go_loopw [7] (fun s7 wr => ∃ k : Nat, k ≤ 32 ∧ s7 = .int .i64 k ∧ Fr [] w wr ∧ Blk wr w.heap.size 119 (tab 69 (dirN G k))) (fun s7 _ => 32 - (intOf s7).toNat)
    case atStart => exact ⟨0, by omega, rfl, hf, hb⟩
    case round =>
      obtain ⟨k, hk, rfl, hf, hb⟩ := hrel
      by_cases hlt : k < 32
      · have h6 : (k : Int) < 32 := by omega
        have hk0 : (0 : Int) ≤ (k : Int) := by omega
        go_upto_region 5 with (fail)
        have g1 : ∀ i, i < 2 → wr.drew.cell? ⟨b, base + k * 2 + i, none⟩ = some (U8 (G (2 * k + i))) := fun i hi => by
          have := hf.cell0 (hF (2 * k + i) (by omega))
          rw [show base + k * 2 + i = base + (2 * k + i) from by omega]; exact this
        have hcon := Lib.hid (uint16_any b (base + k * 2) 2 (cap - k * 2) (fun i => G (2 * k + i)) wr.drew (by omega) (by omega) g1)
        have hbd : Blk wr.drew w.heap.size 119 (tab 69 (dirN G k)) := hb
        have hln : k < (tab 69 (dirN G k)).length := by rw [tab_length]; omega
        have hne : ¬ cap = k * 2 := by omega
        clear g1
        have hw0 : IntKind.i64.wrap ((k : Int) * 2) = (k : Int) * 2 := IntWalk.i64_in _ (by omega)
        have hw1 : IntKind.i64.wrap ((k : Int) * 2 + 2) = (k : Int) * 2 + 2 := IntWalk.i64_in _ (by omega)
        have hw2 : ((k : Int) * 2).toNat = k * 2 := by omega
        have hw3 : ((k : Int) * 2 + 2).toNat = k * 2 + 2 := by omega
        have hw4 : 0 ≤ (k : Int) * 2 := by omega
        have hw5 : (k : Int) * 2 ≤ (k : Int) * 2 + 2 := by omega
        have hw6 : (k : Int) * 2 + 2 ≤ (cap : Int) := by omega
        go_region_with (go_at_call 67; refine hcon.out.mono ?_; clear hcon hw0 hw1 hw2 hw3 hw4 hw5 hw6; rintro e w2 ⟨rfl, hf2⟩; have hb2 := hbd.fr0 hf2; obtain ⟨v2, hc2⟩ := hb2.some k hln; have hz2 := hb2.frozen k)
        all_goals
          go_wp2_with fail
          go_roundw
          case rel =>
            refine ⟨k + 1, by omega, by go_num, (hf.drew.trans0 hf2).setCell (.inr (Nat.le_refl _)) _, ?_⟩
            have h9 := hb2.set k (.int .u16 (fld G (2 * k) 2))
            rw [tab_set] at h9
            have e9 : tab 69 (dirN G (k + 1)) = tab 69 (fun j => if j = k then .int .u16 (fld G (2 * k) 2) else dirN G k j) := tab_congr (fun j _ => by
              unfold dirN
              by_cases hj : j = k
              · subst hj; rw [if_pos (by omega), if_pos rfl]
              · rw [if_neg hj]
                by_cases hj2 : j < k
                · rw [if_pos (by omega), if_pos hj2]
                · rw [if_neg (by omega), if_neg hj2])
            rw [e9]; exact h9
          case measure => simp [intOf]; omega
      · obtain rfl : k = 32 := by omega
        go_wp2_with fail
        go_meet
        case rel => exact ⟨hf, hb⟩
  case rest =>
  clear hf hb
  obtain ⟨hf, hb⟩ := hcut
  go_upto_region 7 with (fail)
  go_cut [3] from 25 to 31 (fun s3 w1 => s3 = .pointer (some ⟨w.heap.size, 0, none⟩) ∧ Fr [] w w1 ∧ Blk w1 w.heap.size 119 (tab 69 (dirL1 G)))
  case first =>
    have g1 : ∀ i, i < 2 → wc.drew.cell? ⟨b, base + 64 + i, none⟩ = some (U8 (G (64 + i))) := fun i hi => by
      rw [Nat.add_assoc]; exact hf.cell0 (hF _ (by omega))
    have hcon := Lib.hid (uint16_any b (base + 64) 2 (cap - 64) (fun i => G (64 + i)) wc.drew (by omega) (by omega) g1)
    have hbd : Blk wc.drew w.heap.size 119 (tab 69 (dirN G 32)) := hb
    clear g1
    go_region_with (go_at_call 67; refine hcon.out.mono ?_; rintro e w2 ⟨rfl, hf2⟩; have hb2 := hbd.fr0 hf2; obtain ⟨v2, hc2⟩ := hb2.some 32 (by simp); have hz2 := hb2.frozen 32)
    all_goals
      go_wp2_with fail
      go_meet
      case rel => exact ⟨rfl, (hf.drew.trans0 hf2).setCell (.inr (Nat.le_refl _)) _, by have h9 := hb2.set 32 (.int .u16 (fld G 64 2)); rw [tab_set] at h9; exact h9⟩
  case rest =>
  clear hf hb
  obtain ⟨rfl, hf, hb⟩ := hcut
  go_upto_region 8 with (fail)
  go_cut [3] from 32 to 37 (fun s3 w1 => s3 = .pointer (some ⟨w.heap.size, 0, none⟩) ∧ Fr [] w w1 ∧ Blk w1 w.heap.size 119 (tab 69 (dirL2 G)))
  case first =>
    have g1 : wc.cell? ⟨b, base + 66, none⟩ = some (U8 (G 66)) := hf.cell0 (hF _ (by omega))
    obtain ⟨v2, hc2⟩ := hb.some 33 (by simp)
    have hz2 := hb.frozen 33
    go_wp2_with fail
    go_meet
    case rel => exact ⟨rfl, hf.setCell (.inr (Nat.le_refl _)) _, by have h9 := hb.set 33 (U8 (G 66)); rw [tab_set] at h9; exact h9⟩
  case rest =>
  clear hf hb
  obtain ⟨rfl, hf, hb⟩ := hcut
  go_upto_region 9 with (fail)
  go_cut [3] from 38 to 43 (fun s3 w1 => s3 = .pointer (some ⟨w.heap.size, 0, none⟩) ∧ Fr [] w w1 ∧ Blk w1 w.heap.size 119 (tab 69 (dirL3 G)))
  case first =>
    have g1 : wc.cell? ⟨b, base + 67, none⟩ = some (U8 (G 67)) := hf.cell0 (hF _ (by omega))
    obtain ⟨v2, hc2⟩ := hb.some 34 (by simp)
    have hz2 := hb.frozen 34
    go_wp2_with fail
    go_meet
    case rel => exact ⟨rfl, hf.setCell (.inr (Nat.le_refl _)) _, by have h9 := hb.set 34 (U8 (G 67)); rw [tab_set] at h9; exact h9⟩
  case rest =>
  clear hf hb
  obtain ⟨rfl, hf, hb⟩ := hcut
  go_upto_region 10 with (fail)
  go_cut [3] from 44 to 50 (fun s3 w1 => s3 = .pointer (some ⟨w.heap.size, 0, none⟩) ∧ Fr [] w w1 ∧ Blk w1 w.heap.size 119 (tab 69 (dirL4 G)))
  case first =>
    have g1 : ∀ i, i < 4 → wc.drew.cell? ⟨b, base + 68 + i, none⟩ = some (U8 (G (68 + i))) := fun i hi => by
      rw [Nat.add_assoc]; exact hf.cell0 (hF _ (by omega))
    have hcon := Lib.hid (uint32_any b (base + 68) 4 (cap - 68) (fun i => G (68 + i)) wc.drew (by omega) (by omega) g1)
    have hbd : Blk wc.drew w.heap.size 119 (tab 69 (dirL3 G)) := hb
    clear g1
    go_region_with (go_at_call 59; refine hcon.out.mono ?_; rintro e w2 ⟨rfl, hf2⟩; have hb2 := hbd.fr0 hf2; obtain ⟨v2, hc2⟩ := hb2.some 35 (by simp); have hz2 := hb2.frozen 35)
    all_goals
      go_wp2_with fail
      go_meet
      case rel => exact ⟨rfl, (hf.drew.trans0 hf2).setCell (.inr (Nat.le_refl _)) _, by have h9 := hb2.set 35 (.int .u32 (fld G 68 4)); rw [tab_set] at h9; exact h9⟩
  case rest =>
  clear hf hb
  obtain ⟨rfl, hf, hb⟩ := hcut
  go_upto_region 11 with (fail)
  go_cut [3] from 51 to 57 (fun s3 w1 => s3 = .pointer (some ⟨w.heap.size, 0, none⟩) ∧ Fr [] w w1 ∧ Blk w1 w.heap.size 119 (tab 69 (dirL5 G)))
  case first =>
    have g1 : ∀ i, i < 4 → wc.drew.cell? ⟨b, base + 72 + i, none⟩ = some (U8 (G (72 + i))) := fun i hi => by
      rw [Nat.add_assoc]; exact hf.cell0 (hF _ (by omega))
    have hcon := Lib.hid (uint32_any b (base + 72) 4 (cap - 72) (fun i => G (72 + i)) wc.drew (by omega) (by omega) g1)
    have hbd : Blk wc.drew w.heap.size 119 (tab 69 (dirL4 G)) := hb
    clear g1
    go_region_with (go_at_call 59; refine hcon.out.mono ?_; rintro e w2 ⟨rfl, hf2⟩; have hb2 := hbd.fr0 hf2; obtain ⟨v2, hc2⟩ := hb2.some 36 (by simp); have hz2 := hb2.frozen 36)
    all_goals
      go_wp2_with fail
      go_meet
      case rel => exact ⟨rfl, (hf.drew.trans0 hf2).setCell (.inr (Nat.le_refl _)) _, by have h9 := hb2.set 36 (.int .u32 (fld G 72 4)); rw [tab_set] at h9; exact h9⟩
  case rest =>
  clear hf hb
  obtain ⟨rfl, hf, hb⟩ := hcut
  go_upto_region 12 with (fail)
  go_cut [3] from 58 to 64 (fun s3 w1 => s3 = .pointer (some ⟨w.heap.size, 0, none⟩) ∧ Fr [] w w1 ∧ Blk w1 w.heap.size 119 (tab 69 (dirL6 G)))
  case first =>
    have g1 : ∀ i, i < 4 → wc.drew.cell? ⟨b, base + 76 + i, none⟩ = some (U8 (G (76 + i))) := fun i hi => by
      rw [Nat.add_assoc]; exact hf.cell0 (hF _ (by omega))
    have hcon := Lib.hid (uint32_any b (base + 76) 4 (cap - 76) (fun i => G (76 + i)) wc.drew (by omega) (by omega) g1)
    have hbd : Blk wc.drew w.heap.size 119 (tab 69 (dirL5 G)) := hb
    clear g1
    go_region_with (go_at_call 59; refine hcon.out.mono ?_; rintro e w2 ⟨rfl, hf2⟩; have hb2 := hbd.fr0 hf2; obtain ⟨v2, hc2⟩ := hb2.some 37 (by simp); have hz2 := hb2.frozen 37)
    all_goals
      go_wp2_with fail
      go_meet
      case rel => exact ⟨rfl, (hf.drew.trans0 hf2).setCell (.inr (Nat.le_refl _)) _, by have h9 := hb2.set 37 (.int .u32 (fld G 76 4)); rw [tab_set] at h9; exact h9⟩
  case rest =>
  clear hf hb
  obtain ⟨rfl, hf, hb⟩ := hcut
  go_upto_region 13 with (fail)
  go_cut [3] from 65 to 70 (fun s3 w1 => s3 = .pointer (some ⟨w.heap.size, 0, none⟩) ∧ Fr [] w w1 ∧ Blk w1 w.heap.size 119 (tab 69 (dirL7 G)))
  case first =>
    have g1 : ∀ i, i < 16 → wc.cell? ⟨b, base + 80 + i, none⟩ = some (U8 (G (80 + i))) := fun i hi => by
      rw [Nat.add_assoc]; exact hf.cell0 (hF _ (by omega))
    go_wp2_with fail
    refine (zzGuid_any b (base + 80) (cap - 80) (fun i => G (80 + i)) _ (Nat.lt_of_lt_of_le hbw hf.size) g1).mono ?_
    rintro e w2 ⟨rfl, hf2⟩
    have hb2 := hb.fr0 hf2
    go_wp2_with (with_reducible refine wpList_store_blk rfl 97 (.tmp 70) (.tmp 68) rfl w.heap.size 38 (guidA (fun i => G (80 + i))) rfl rfl 119 _ hb2 ?_ ?_ (guidA_one _) ?_)
    · rw [guidA_size]; simp
    · rw [guidA_size]; kernel_rfl
    · intro w3 hf3 hb3
      go_wp2_with fail
      go_meet
      case rel => exact ⟨rfl, (hf.trans0 hf2).trans hf3 (by simp), by have h9 := hb3; rw [guidA, List.toList_toArray, tab_splice _ _ _ _ _ (by omega)] at h9; exact h9⟩
  case rest =>
  clear hf hb
  obtain ⟨rfl, hf, hb⟩ := hcut
  go_upto_region 14 with (fail)
  go_cut [3] from 71 to 77 (fun s3 w1 => s3 = .pointer (some ⟨w.heap.size, 0, none⟩) ∧ Fr [] w w1 ∧ Blk w1 w.heap.size 119 (tab 69 (dirL8 G)))
  case first =>
    have hl2 : wc.heap.size = wc.heap.size := rfl
    have hbd : Blk wc.drew w.heap.size 119 (tab 69 (dirL7 G)) := hb
    have g1 : ∀ i, i < 4 → wc.drew.cell? ⟨b, base + 96 + i, none⟩ = some (U8 (G (96 + i))) := fun i hi => by
      rw [Nat.add_assoc]; exact hf.cell0 (hF _ (by omega))
    have G1 := Lib.hid g1
    have q1 : (100 : Int) ≤ (cap : Int) := by omega
    have q2 : ¬ cap = 96 := by omega
    clear g1 hl2
    go_region_law (refine step_copy_blk rfl (.tmp 74) (.tmp 76) 23 23 rfl 5 Tryd.underlying23 (by kernel_rfl) (some ⟨w.heap.size, 54, none⟩) (some ⟨b, base + 96, none⟩) 4 4 4 (cap - 96) (by simp [Act.eval, Act.put]) (by simp [Act.eval, Act.put]) w.heap.size 54 (tab 69 (dirL7 G)) 119 hbd 4 (fun i => U8 (G (96 + i))) (by omega) (fun _ => ⟨rfl, _, rfl, fun j hj => by rw [Addr.add_mid]; exact G1.out j hj⟩) (by simp) (fun _ _ => rfl) ?_; intro w2 hf2 hb2)
    all_goals
      go_wp2_with fail
      go_meet
      case rel => exact ⟨rfl, hf.drew.trans hf2 (by simp), by have h9 := hb2; rw [tab_splice _ _ _ _ _ (by omega)] at h9; exact h9⟩
  case rest =>
  clear hf hb
  obtain ⟨rfl, hf, hb⟩ := hcut
  go_upto_region 15 with (fail)
  go_cut [3] from 78 to 83 (fun s3 w1 => s3 = .pointer (some ⟨w.heap.size, 0, none⟩) ∧ Fr [] w w1 ∧ Blk w1 w.heap.size 119 (tab 69 (dirL9 G)))
  case first =>
    have g1 : ∀ i, i < 8 → wc.cell? ⟨b, base + 100 + i, none⟩ = some (U8 (G (100 + i))) := fun i hi => by
      rw [Nat.add_assoc]; exact hf.cell0 (hF _ (by omega))
    go_wp2_with fail
    refine (zzTime_any b (base + 100) 8 (cap - 100) (fun i => G (100 + i)) _ (by omega) (by omega) g1).mono ?_
    rintro e w2 ⟨rfl, hf2⟩
    have hb2 := hb.fr0 hf2
    obtain ⟨v2, hc2⟩ := hb2.some 58 (by simp)
    have hz2 := hb2.frozen 58
    go_wp2_with fail
    go_meet
    case rel => exact ⟨rfl, (hf.trans0 hf2).setCell (.inr (Nat.le_refl _)) _, by have h9 := hb2.set 58 (.int .u64 (fld G 100 8)); rw [tab_set] at h9; exact h9⟩
  case rest =>
  clear hf hb
  obtain ⟨rfl, hf, hb⟩ := hcut
  go_upto_region 16 with (fail)
  go_cut [3] from 84 to 89 (fun s3 w1 => s3 = .pointer (some ⟨w.heap.size, 0, none⟩) ∧ Fr [] w w1 ∧ Blk w1 w.heap.size 119 (tab 69 (dirL10 G)))
  case first =>
    have g1 : ∀ i, i < 8 → wc.cell? ⟨b, base + 108 + i, none⟩ = some (U8 (G (108 + i))) := fun i hi => by
      rw [Nat.add_assoc]; exact hf.cell0 (hF _ (by omega))
    go_wp2_with fail
    refine (zzTime_any b (base + 108) 8 (cap - 108) (fun i => G (108 + i)) _ (by omega) (by omega) g1).mono ?_
    rintro e w2 ⟨rfl, hf2⟩
    have hb2 := hb.fr0 hf2
    obtain ⟨v2, hc2⟩ := hb2.some 59 (by simp)
    have hz2 := hb2.frozen 59
    go_wp2_with fail
    go_meet
    case rel => exact ⟨rfl, (hf.trans0 hf2).setCell (.inr (Nat.le_refl _)) _, by have h9 := hb2.set 59 (.int .u64 (fld G 108 8)); rw [tab_set] at h9; exact h9⟩
  case rest =>
  clear hf hb
  obtain ⟨rfl, hf, hb⟩ := hcut
  go_upto_region 17 with (fail)
  go_cut [3] from 90 to 96 (fun s3 w1 => s3 = .pointer (some ⟨w.heap.size, 0, none⟩) ∧ Fr [] w w1 ∧ Blk w1 w.heap.size 119 (tab 69 (dirL11 G)))
  case first =>
    have g1 : ∀ i, i < 4 → wc.drew.cell? ⟨b, base + 116 + i, none⟩ = some (U8 (G (116 + i))) := fun i hi => by
      rw [Nat.add_assoc]; exact hf.cell0 (hF _ (by omega))
    have hcon := Lib.hid (uint32_any b (base + 116) 4 (cap - 116) (fun i => G (116 + i)) wc.drew (by omega) (by omega) g1)
    have hbd : Blk wc.drew w.heap.size 119 (tab 69 (dirL10 G)) := hb
    clear g1
    go_region_with (go_at_call 59; refine hcon.out.mono ?_; rintro e w2 ⟨rfl, hf2⟩; have hb2 := hbd.fr0 hf2; obtain ⟨v2, hc2⟩ := hb2.some 60 (by simp); have hz2 := hb2.frozen 60)
    all_goals
      go_wp2_with fail
      go_meet
      case rel => exact ⟨rfl, (hf.drew.trans0 hf2).setCell (.inr (Nat.le_refl _)) _, by have h9 := hb2.set 60 (.int .u32 (fld G 116 4)); rw [tab_set] at h9; exact h9⟩
  case rest =>
  clear hf hb
  obtain ⟨rfl, hf, hb⟩ := hcut
  go_upto_region 18 with (fail)
  go_cut [3] from 97 to 103 (fun s3 w1 => s3 = .pointer (some ⟨w.heap.size, 0, none⟩) ∧ Fr [] w w1 ∧ Blk w1 w.heap.size 119 (tab 69 (dirL12 G)))
  case first =>
    have hl2 : wc.heap.size = wc.heap.size := rfl
    have hbd : Blk wc.drew w.heap.size 119 (tab 69 (dirL11 G)) := hb
    have g1 : ∀ i, i < 8 → wc.drew.cell? ⟨b, base + 120 + i, none⟩ = some (U8 (G (120 + i))) := fun i hi => by
      rw [Nat.add_assoc]; exact hf.cell0 (hF _ (by omega))
    have G1 := Lib.hid g1
    have q1 : (128 : Int) ≤ (cap : Int) := by omega
    have q2 : ¬ cap = 120 := by omega
    clear g1 hl2
    go_region_law (refine step_copy_blk rfl (.tmp 100) (.tmp 102) 23 23 rfl 5 Tryd.underlying23 (by kernel_rfl) (some ⟨w.heap.size, 61, none⟩) (some ⟨b, base + 120, none⟩) 8 8 8 (cap - 120) (by simp [Act.eval, Act.put]) (by simp [Act.eval, Act.put]) w.heap.size 61 (tab 69 (dirL11 G)) 119 hbd 8 (fun i => U8 (G (120 + i))) (by omega) (fun _ => ⟨rfl, _, rfl, fun j hj => by rw [Addr.add_mid]; exact G1.out j hj⟩) (by simp) (fun _ _ => rfl) ?_; intro w2 hf2 hb2)
    all_goals
      go_wp2_with fail
      go_meet
      case rel => exact ⟨rfl, hf.drew.trans hf2 (by simp), by have h9 := hb2; rw [tab_splice _ _ _ _ _ (by omega)] at h9; exact h9⟩
  case rest =>
  clear hf hb
  obtain ⟨rfl, hf, hb⟩ := hcut
  go_wp2_with fail
  go_ret
  exact ⟨rfl, hf, hb⟩
end Go.Proofs.YtokpomdfgbbhlaaDoor

/- The contract of fixName: an unused entry; a name of letters. -/
namespace Go.Proofs.YtokpomdfgbbhlaaDoor
open Go Go.RowKit

/-- The text of m units below 128. -/
theorem encode_low (n : Nat) (h : n < 128) : Utf8.encode (n : Int) = ⟨#[UInt8.ofNat n]⟩ := by
  have hv : Utf8.valid (n : Int) = true := by
    unfold Utf8.valid
    simp; omega
  unfold Utf8.encode
  simp only [hv, if_true, Int.toNat_natCast]
  rw [if_pos (by omega)]

theorem nameOf_congr {c c' : Nat → Nat} (m : Nat) (h : ∀ i, i < m → c i = c' i) : nameOf c m = nameOf c' m := by
  unfold nameOf
  congr 2
  exact List.map_congr_left (fun j hj => by rw [h j (List.mem_range.1 hj)])

theorem runesBytes_low (c : Nat → Nat) (hlow : ∀ i, c i < 128) (m : Nat) : runesBytes ((List.range m).map (fun i => (c i : Int))) = nameOf c m := by
  unfold runesBytes nameOf
  induction m with
  | zero => rfl
  | succ m ih =>
    rw [List.range_succ, List.map_append, List.foldl_append, ih, List.map_append]
    simp only [List.map_cons, List.map_nil, List.foldl_cons, List.foldl_nil]
    rw [encode_low _ (hlow m)]
    apply ByteArray.ext
    simp

/-- The cells of a File. -/
def flCells (name : ByteArray) (initial : Nat) (path : Value) (size i : Int) (cur : Nat) (rem : Int) (d r : Nat) : List Value :=
  [.string name, .int .u16 initial, path, .int .i64 size, .int .i64 i, .int .u32 cur, .int .i64 rem, .pointer (some ⟨d, 0, none⟩), .pointer (some ⟨r, 0, none⟩)]

theorem dir_name (G : Nat → UInt8) (i : Nat) (hi : i < 32) : (tab 69 (dirL12 G))[i]? = some (.int .u16 (fld G (2 * i) 2)) := by
  rw [tab_get _ _ _ (by omega)]
  simp only [dirL12, dirL11, dirL10, dirL9, dirL8, dirL7, dirL6, dirL5, dirL4, dirL3, dirL2, dirL1, dirN]
  rw [if_neg (by omega), if_neg (by omega), if_neg (by omega), if_neg (by omega), if_neg (by omega), if_neg (by omega), if_neg (by omega), if_neg (by omega), if_neg (by omega), if_neg (by omega), if_neg (by omega), if_neg (by omega), if_pos (by omega)]
theorem dir_len (G : Nat → UInt8) : (tab 69 (dirL12 G))[32]? = some (.int .u16 (fld G 64 2)) := tab_get _ _ _ (by omega)
theorem dir_type (G : Nat → UInt8) : (tab 69 (dirL12 G))[33]? = some (U8 (G 66)) := tab_get _ _ _ (by omega)
theorem dir_left (G : Nat → UInt8) : (tab 69 (dirL12 G))[35]? = some (.int .u32 (fld G 68 4)) := tab_get _ _ _ (by omega)
theorem dir_right (G : Nat → UInt8) : (tab 69 (dirL12 G))[36]? = some (.int .u32 (fld G 72 4)) := tab_get _ _ _ (by omega)
theorem dir_child (G : Nat → UInt8) : (tab 69 (dirL12 G))[37]? = some (.int .u32 (fld G 76 4)) := tab_get _ _ _ (by omega)
theorem dir_create (G : Nat → UInt8) : (tab 69 (dirL12 G))[58]? = some (.int .u64 (fld G 100 8)) := tab_get _ _ _ (by omega)
theorem dir_modify (G : Nat → UInt8) : (tab 69 (dirL12 G))[59]? = some (.int .u64 (fld G 108 8)) := tab_get _ _ _ (by omega)
theorem dir_start (G : Nat → UInt8) : (tab 69 (dirL12 G))[60]? = some (.int .u32 (fld G 116 4)) := tab_get _ _ _ (by omega)
theorem dir_size (G : Nat → UInt8) (j : Nat) (hj : j < 8) : (tab 69 (dirL12 G))[61 + j]? = some (U8 (G (120 + j))) := by
  rw [tab_get _ _ _ (by omega)]
  simp only [dirL12]
  rw [if_pos (by omega)]
  congr 2
  congr 2; omega

theorem arrLen116 : Tryd.prog.arrayLen 116 = 32 := by kernel_rfl
theorem size116 (w : World) : (sizeOf (Tryd.prog.elem 116)).run Tryd.prog w = .ok 1 w := by kernel_rfl
theorem und116 : Tryd.prog.underlying 116 = some (.array (Tryd.prog.arrayLen 116) (Tryd.prog.elem 116)) := by kernel_rfl
theorem slice116 (d : Nat) (hi : Int) (m : Nat) (hm : hi = m) (h : m ≤ 31) (w : World) :
    (Instr.sliceAt 116 (.pointer (some ⟨d, 0, none⟩)) (some (.int .i64 0)) (some (.int .i64 hi)) none).run Tryd.prog w = .ok (.slice (some ⟨d, 0, none⟩) m 32) w := by
  subst hm
  rw [run_sliceAt_array_lh (P := Tryd.prog) w 116 _ und116 _ _ _ _ (by omega) (by omega) (by rw [arrLen116]; omega), size116]
  simp [slicedAt, arrLen116, Addr.add]

set_option maxRecDepth 100000 in
set_option maxHeartbeats 1000000 in
theorem fixName_unused (fk d : Nat) (name : ByteArray) (initial : Nat) (path : Value) (size i : Int) (cur : Nat) (rem : Int) (r : Nat) (G : Nat → UInt8) (w : World)
    (hf : Blk w fk 95 (flCells name initial path size i cur rem d r)) (hd : Blk w d 119 (tab 69 (dirL12 G))) (hn : fld G 64 2 = 0) :
    Calls Tryd.prog 70 #[.pointer (some ⟨fk, 0, none⟩)] w fun e w' => e = .returned (.tuple #[]) ∧ w = w' := by
  have c7 : w.cell? ⟨fk, 7, none⟩ = some (.pointer (some ⟨d, 0, none⟩)) := hf.cell 7
  have d32 := (hd.cell 32).trans (dir_len G)
  rw [hn] at d32
  clear hn
  go_enter Tryd.func70, Tryd.ntmps70
  go_wp2_with fail
  refine bodyPost_ret (results_none rfl _ _ _) rfl ?_
  exact ⟨rfl, rfl⟩

set_option maxRecDepth 100000 in
set_option maxHeartbeats 1000000 in
theorem fixName_any (fk d : Nat) (name : ByteArray) (initial : Nat) (path : Value) (size i : Int) (cur : Nat) (rem : Int) (r : Nat) (G : Nat → UInt8) (m : Nat) (w : World)
    (hf : Blk w fk 95 (flCells name initial path size i cur rem d r)) (hd : Blk w d 119 (tab 69 (dirL12 G))) (hm1 : 1 ≤ m) (hm2 : m ≤ 31) (hn : fld G 64 2 = 2 * m + 2)
    (hlow0 : ∀ i, i < m → fld G (2 * i) 2 < 128) (h65 : 65 ≤ fld G 0 2) (h90 : fld G 0 2 ≤ 90) (hp : w.cell? ⟨2, fld G 0 2, none⟩ = some (.int .u8 160)) (h2 : fk ≠ 2) :
    Calls Tryd.prog 70 #[.pointer (some ⟨fk, 0, none⟩)] w fun e w' => e = .returned (.tuple #[]) ∧ Fr [fk] w w' ∧
      Blk w' fk 95 (flCells (nameOf (fun i => fld G (2 * i) 2) m) (fld G 0 2) path size i cur rem d r) := by
  rw [nameOf_congr (c' := fun i => if i < m then fld G (2 * i) 2 else 0) m (fun i hi => by rw [if_pos hi])]
  obtain ⟨c, hcd⟩ : ∃ c : Nat → Nat, c = fun i => if i < m then fld G (2 * i) 2 else 0 := ⟨_, rfl⟩
  rw [← hcd]
  have hlow : ∀ i, c i < 128 := by
    intro i
    rw [hcd]
    show (if i < m then fld G (2 * i) 2 else 0) < 128
    split
    · rename_i h; exact hlow0 i h
    · omega
  have hci : ∀ i, i < m → fld G (2 * i) 2 = c i := by
    intro i hi
    rw [hcd]
    show _ = if i < m then fld G (2 * i) 2 else 0
    rw [if_pos hi]
  have HCI := Lib.hid hci
  clear hci hcd hlow0
  have hfd : fk ≠ d := fun h => by subst h; exact absurd (hf.unique hd).1 (by decide)
  have c7 : w.cell? ⟨fk, 7, none⟩ = some (.pointer (some ⟨d, 0, none⟩)) := hf.cell 7
  have c1 : w.cell? ⟨fk, 1, none⟩ = some (.int .u16 initial) := hf.cell 1
  have c0 : w.cell? ⟨fk, 0, none⟩ = some (.string name) := hf.cell 0
  have z1 := hf.frozen 1
  have z0 := hf.frozen 0
  have d32 := (hd.cell 32).trans (dir_len G)
  have d0 : w.cell? ⟨d, 0, none⟩ = some (.int .u16 (fld G 0 2)) := (hd.cell 0).trans (dir_name G 0 (by omega))
  rw [hn] at d32
  obtain ⟨NL, hNL⟩ : ∃ NL, NL = 2 * m + 2 := ⟨_, rfl⟩
  rw [← hNL] at d32
  have q1 : 4 ≤ NL := by omega
  have q2 : NL ≤ 64 := by omega
  have q3 : (0 : Int) ≤ (NL : Int) / 2 - 1 := by omega
  have q4 : (NL : Int) / 2 - 1 ≤ 32 := by omega
  have q5 := fun w => slice116 d ((NL : Int) / 2 - 1) m (by omega) (by omega) w
  have b1 : decide ((NL : Int) < 4) = false := by simp; omega
  have b2 : decide (NL < 4) = false := by simp; omega
  have b3 : decide (64 < NL) = false := by simp; omega
  have b4 : decide ((64 : Int) < NL) = false := by simp; omega
  have HN := Lib.hid hNL
  clear hn hNL
  generalize hch : fld G 0 2 = ch at *
  have HC := Lib.hid hch
  clear hch
  go_enter Tryd.func70, Tryd.ntmps70
  go_wp2_with fail
  refine (isPrint_any ch _ h65 h90 ?_).mono ?_
  · rw [World.cell?_setCell_other _ _ _ _ (by intro e; injection e with e1 e2; exact h2 e1)]; exact hp
  rintro e w1 ⟨rfl, rfl⟩
  go_wp2_with fail
  have hb1 := hf.set 1 (.int .u16 ch)
  have hd1 := hd.setOther (p := ⟨fk, 1, none⟩) (by exact hfd) (.int .u16 ch)
  refine (utf16Decode_any d 0 m 32 c _ ?_ hlow (by omega) (hd1.lt)).mono ?_
  · intro i hi
    rw [Nat.zero_add, hd1.cell]
    rw [← HCI.out i hi]
    exact dir_name G i (by omega)
  rintro e w1 ⟨rfl, hf1, l', hl1, hl2, hl3⟩
  have hb2 := hb1.fr0 hf1
  have hcv := run_convert_runes (P := Tryd.prog) w1 165 9 21 ⟨(w.setCell ⟨fk, 1, none⟩ (.int .u16 ch)).heap.size, 0, none⟩ m 64 ((List.range m).map (fun i => (c i : Int))) (by simp)
    Tryd.underlying165 Tryd.underlying21 Tryd.underlying9 (by
      intro j hj
      simp at hj
      rw [Addr.add_mid, Nat.zero_add, hl1.cell, hl3 j hj]
      simp [List.getD, hj])
  rw [List.take_of_length_le (by simp), runesBytes_low _ hlow] at hcv
  have e0 : w1.cell? ⟨fk, 0, none⟩ = some (.string name) := hb2.cell 0
  have y0 := hb2.frozen 0
  have hsz : (w.setCell ⟨fk, 1, none⟩ (.int .u16 ch)).heap.size = w.heap.size := by simp
  rw [hsz] at hcv
  clear hsz
  go_wp2_with fail
  go_end0
  exact ⟨rfl, (((Fr.refl [fk] w).setCell (.inl (by simp)) _).trans0 hf1).setCell (.inl (by simp)) _, hb2.set 0 _⟩
end Go.Proofs.YtokpomdfgbbhlaaDoor

/- append onto a row of the call's own: its block is the old one or a new one. -/
namespace Go.Proofs.YtokpomdfgbbhlaaDoor
open Go Go.RowKit

theorem append_block {w w' : World} {base : Nat} {t ty e : TypeId} {i : TypeInfo} {z : Value} {size bytes : Nat} (ht : Tryd.prog.underlying t = some (.slice e)) (hi : Tryd.prog.info? e = some i) (hz : i.zero = some z)
    (hsize : i.size = size) (hby : i.bytes = bytes) {v v' : Value} {n : Nat} {xs : List Value} (hown : w.ownsRow base e size v n xs) {ad : Addr} {m c : Nat} {news : List Value} (hm : 0 < m) (hl : news.length = m * size)
    (hnews : ∀ j u, news[j]? = some u → w.cell? (ad.add j) = some u) (h1 : ∀ u ∈ news, u.oneCell' = true) (h63 : n + m ≤ maxLen) (hbytes : (n + m) * bytes ≤ 140737488355328)
    (hr : (Builtin.append_ #[t, t] ty #[v, .slice (some ad) m c]).run Tryd.prog w = .ok v' w') : ∀ g, v'.ownBlock = some g → v.ownBlock = some g ∨ g = w.heap.size := by
  subst hsize
  subst hby
  have hsm : n + m ≤ 9223372036854775807 := by simp only [maxLen] at h63; omega
  rcases hown.2 with ⟨rfl, rfl⟩ | ⟨b, cap, cur, rfl, hbg, hg, hnc, hcm, hcs, htake⟩
  · have h := run_append_nil (P := Tryd.prog) w t ty e i z ht hi hz ad m c news hl hnews hm (by omega) (by have hb := hbytes; simp only [Nat.zero_add] at hb; omega)
    rw [h] at hr
    cases hr
    intro g hg
    simp [Value.ownBlock] at hg
    exact .inr hg.symm
  · by_cases hroom : n + m ≤ cap
    · have hfit : n * i.size + news.length ≤ cur.size := by rw [hl, hcs, ← Nat.add_mul]; exact Nat.mul_le_mul_right _ hroom
      have h := run_append_room (P := Tryd.prog) w t ty e i ht hi b n cap cur hg ad m c news hl hnews h1 hroom hfit
      rw [h] at hr
      cases hr
      intro g hg
      exact .inl hg
    · have h := run_append_grow (P := Tryd.prog) w t ty e i z ht hi hz ⟨b, 0, none⟩ n cap xs hown.1 (hown.cells (g := b) rfl) ad m c news hl hnews (by omega) (by omega) (growslice_fits (by omega) hbytes)
      rw [h] at hr
      cases hr
      intro g hg
      simp [Value.ownBlock] at hg
      exact .inr hg.symm

/-- append of some cells onto a row of the call's own. -/
theorem wpList_app {ops : Array Oper} {rest : List Oper} {o : Oper} {a : Act} {Q : Exit → Act → World → Prop} {w : World} (hgd : o.guard = none) (s x : Operand) (t : TypeId)
    (ho : o.op = .call { callee := .builtin .append, args := #[s, x], argTypes := #[t, t] }) (e : TypeId) (i : TypeInfo) (z : Value) (size bytes : Nat) (ht : Tryd.prog.underlying t = some (.slice e))
    (hi : Tryd.prog.info? e = some i) (hz : i.zero = some z) (hsize : i.size = size) (hby : i.bytes = bytes) (hzs : z.cells.size = size) (hsz : 0 < size) (hb64 : bytes ≤ 1000)
    (base : Nat) (v : Value) (n : Nat) (xs : List Value) (hs : a.eval s = v) (hown : w.ownsRow base e size v n xs) (ad : Addr) (m c : Nat) (news : List Value) (hx : a.eval x = .slice (some ad) m c) (hm : 0 < m) (hl : news.length = m * size)
    (hnews : ∀ j u, news[j]? = some u → w.cell? (ad.add j) = some u) (h1 : ∀ u ∈ news, u.oneCell' = true) (hn : n + m ≤ 1000000) (hb : base ≤ w.heap.size)
    (h : ∀ v' w', w'.ownsRow base e size v' (n + m) (xs ++ news) → Fr v.ownBlock.toList w w' → (∀ g, v'.ownBlock = some g → v.ownBlock = some g ∨ w.heap.size ≤ g) → wpList Tryd.prog ops Q rest (a.put o.dst v') w') :
    wpList Tryd.prog ops Q (o :: rest) a w := by
  refine wpList_plain hgd fun K hK => ?_
  have h63 : n + m ≤ maxLen := by unfold maxLen; omega
  have hbt : (n + m) * bytes ≤ 140737488355328 := by
    have := Nat.mul_le_mul hn hb64
    omega
  obtain ⟨v', w', hr, h2, h3, _⟩ := run_append_own (P := Tryd.prog) w base t o.type e i z size bytes ht hi hz hsize hby hzs hsz v n xs hown ad m c news hl hnews h1 h63 hbt hb
  have h5 := append_block ht hi hz hsize hby hown hm hl hnews h1 h63 hbt hr
  unfold Oper.wp execOp
  simp only [ho, resolve, invoke, builtin, Sem.run_bind, Sem.run_pure, Result.andThen_ok, List.map_toArray, List.map_cons, List.map_nil, hs, hx, hr]
  exact hK _ _ (h v' w' h2 (Fr.of_grown h3) (fun g hg => (h5 g hg).imp id (fun e => by omega)))

/-- append of one value of one cell onto a row of the call's own. -/
theorem wpList_app2 {ops : Array Oper} {rest : List Oper} {o : Oper} {a : Act} {Q : Exit → Act → World → Prop} {w : World} (hgd : o.guard = none) (s x : Operand) (t : TypeId)
    (ho : o.op = .call { callee := .builtin .append, args := #[s, x], argTypes := #[t, t] }) (e : TypeId) (z : Value) (bytes : Nat) (ht : Tryd.prog.underlying t = some (.slice e))
    (hinfo : (Tryd.prog.info? e).map (fun i => (i.zero, i.size, i.bytes)) = some (some z, 1, bytes)) (hz : z.cells.size = 1) (hby : bytes ≤ 64)
    (base : Nat) (v : Value) (n : Nat) (xs : List Value) (hs : a.eval s = v) (u : Value) (hown : w.ownsRow base e 1 v n xs) (hx : a.eval x = .slice (some ⟨w.heap.size, 0, none⟩) 1 1) (hu : u.oneCell' = true)
    (hn : n ≤ 100000) (hb : base ≤ w.heap.size)
    (h : ∀ v' w', w'.ownsRow base e 1 v' (n + 1) (xs ++ [u]) → Fr v.ownBlock.toList w w' → (∀ g, v'.ownBlock = some g → v.ownBlock = some g ∨ w.heap.size ≤ g) → wpList Tryd.prog ops Q rest (a.put o.dst v') w') :
    wpList Tryd.prog ops Q (o :: rest) a (w.alloc (.cells #[u] e)) := by
  obtain ⟨i0, hi, hz0, hz1, hz2⟩ := info_parts hinfo
  refine wpList_app hgd s x t ho e i0 z 1 bytes ht hi hz0 hz1 hz2 hz (by decide) (by omega) base v n xs hs (hown.alloc _) ⟨w.heap.size, 0, none⟩ 1 1 [u] hx (by omega) rfl ?_ ?_ (by omega) ?_ ?_
  · exact cell_one_new _ _ _
  · simpa using hu
  · simp; omega
  · intro v' w' h1 h2 h3
    refine h v' w' h1 ?_ ?_
    · exact (((Fr.refl [] w).alloc _).mono (by simp)).trans h2 (fun k hk => .inl hk)
    · intro g hg
      rcases h3 g hg with h4 | h4
      · exact .inl h4
      · right; simp at h4; omega

/-- The same as a step of a region that draws its order. -/
theorem step_app {ops : Array Oper} {o : Oper} {a : Act} {w : World} {K : Act → World → Prop} {Q : Exit → Act → World → Prop} {E : Prop} (hgd : o.guard = none) (s x : Operand) (t : TypeId)
    (ho : o.op = .call { callee := .builtin .append, args := #[s, x], argTypes := #[t, t] }) (e : TypeId) (i : TypeInfo) (z : Value) (size bytes : Nat) (ht : Tryd.prog.underlying t = some (.slice e))
    (hi : Tryd.prog.info? e = some i) (hz : i.zero = some z) (hsize : i.size = size) (hby : i.bytes = bytes) (hzs : z.cells.size = size) (hsz : 0 < size) (hb64 : bytes ≤ 1000)
    (base : Nat) (v : Value) (n : Nat) (xs : List Value) (hs : a.eval s = v) (hown : w.ownsRow base e size v n xs) (ad : Addr) (m c : Nat) (news : List Value) (hx : a.eval x = .slice (some ad) m c) (hm : 0 < m) (hl : news.length = m * size)
    (hnews : ∀ j u, news[j]? = some u → w.cell? (ad.add j) = some u) (h1 : ∀ u ∈ news, u.oneCell' = true) (hn : n + m ≤ 1000000) (hb : base ≤ w.heap.size)
    (h : ∀ v' w', w'.ownsRow base e size v' (n + m) (xs ++ news) → Fr v.ownBlock.toList w w' → (∀ g, v'.ownBlock = some g → v.ownBlock = some g ∨ w.heap.size ≤ g) → K (a.put o.dst v') w') :
    if Region.wanted o (yielded ops a.tmps) = true then Oper.wp Tryd.prog o a w K Q else E := by
  have hw : Region.wanted o (yielded ops a.tmps) = true := by simp [Region.wanted, hgd]
  rw [if_pos hw]
  have h63 : n + m ≤ maxLen := by unfold maxLen; omega
  have hbt : (n + m) * bytes ≤ 140737488355328 := by
    have := Nat.mul_le_mul hn hb64
    omega
  obtain ⟨v', w', hr, h2, h3, _⟩ := run_append_own (P := Tryd.prog) w base t o.type e i z size bytes ht hi hz hsize hby hzs hsz v n xs hown ad m c news hl hnews h1 h63 hbt hb
  have h5 := append_block ht hi hz hsize hby hown hm hl hnews h1 h63 hbt hr
  unfold Oper.wp execOp
  simp only [ho, resolve, invoke, builtin, Sem.run_bind, Sem.run_pure, Result.andThen_ok, List.map_toArray, List.map_cons, List.map_nil, hs, hx, hr]
  exact h v' w' h2 (Fr.of_grown h3) (fun g hg => (h5 g hg).imp id (fun e => by omega))
end Go.Proofs.YtokpomdfgbbhlaaDoor

/- The contract of spec.chained. -/
namespace Go.Proofs.YtokpomdfgbbhlaaDoor
open Go Go.RowKit

/-- Whole numbers in a slice at a block's head. -/
def Ints (w : World) (base : Nat) (v : Value) (n : Nat) (g : Nat → Nat) : Prop :=
  ∃ b cap l, v = .slice (some ⟨b, 0, none⟩) n cap ∧ base ≤ b ∧ n ≤ cap ∧ cap ≤ 9223372036854775807 ∧ Blk w b 3 l ∧ ∀ i, i < n → l[i]? = some (I64 (g i))

theorem Ints.fr {w w' : World} {base : Nat} {v : Value} {n : Nat} {g : Nat → Nat} {ms : List Nat} (h : Ints w base v n g) (f : Fr ms w w') (hm : ∀ b l, Blk w b 3 l → base ≤ b → b ∉ ms) : Ints w' base v n g := by
  obtain ⟨b, cap, l, h1, h2, h3, h4, h5, h6⟩ := h
  exact ⟨b, cap, l, h1, h2, h3, h4, h5.fr f (hm b l h5 h2), h6⟩
theorem Ints.fr0 {w w' : World} {base : Nat} {v : Value} {n : Nat} {g : Nat → Nat} (h : Ints w base v n g) (f : Fr [] w w') : Ints w' base v n g := h.fr f (by simp)
theorem Ints.of_own {w : World} {base : Nat} {v : Value} {n : Nat} {g : Nat → Nat} (h : w.ownsRow base 3 1 v n (tab n (fun k => I64 (g k)))) (hn : 1 ≤ n) : Ints w base v n g := by
  obtain ⟨b, cap, l, h1, h2, h3, h4, h5, h6⟩ := own_blk2 h hn
  exact ⟨b, cap, l, h1, h2, h5, h6, h3, h4⟩
theorem Ints.congr {w : World} {base : Nat} {v : Value} {n : Nat} {g g' : Nat → Nat} (h : Ints w base v n g) (hg : ∀ i, i < n → g i = g' i) : Ints w base v n g' := by
  obtain ⟨b, cap, l, h1, h2, h3, h4, h5, h6⟩ := h
  exact ⟨b, cap, l, h1, h2, h3, h4, h5, fun i hi => by rw [← hg i hi]; exact h6 i hi⟩
theorem Ints.mono {w : World} {base base' : Nat} {v : Value} {n : Nat} {g : Nat → Nat} (h : Ints w base v n g) (hb : base' ≤ base) : Ints w base' v n g := by
  obtain ⟨b, cap, l, h1, h2, h3, h4, h5, h6⟩ := h
  exact ⟨b, cap, l, h1, by omega, h3, h4, h5, h6⟩

theorem mixed_ints (n step : Nat) (w : World) (hn : n ≤ 5000) (hs : step ≤ 1000) :
    Calls Tryd.prog 22 #[.int .i64 n, .int .i64 step] w fun e w' => ∃ v, e = .returned v ∧ Fr [] w w' ∧ Ints w' w.heap.size v n (mixP n step) := by
  by_cases h0 : n = 0
  · subst h0
    refine (mixed_zero step w hs).mono ?_
    rintro e w' ⟨rfl, rfl⟩
    exact ⟨_, rfl, (Fr.refl _ _).alloc _, w.heap.size, 0, [], rfl, Nat.le_refl _, by omega, by omega, Blk.new' _ _ _, fun i hi => by omega⟩
  · refine (mixed_pos n step w (by omega) hn hs).mono ?_
    rintro e w' ⟨v, rfl, hf, h⟩
    exact ⟨v, rfl, hf, Ints.of_own h (by omega)⟩

/-- A table of sectors. -/
def Tbl (w : World) (b n : Nat) (T : Nat → Nat) : Prop := Blk w b 63 (tab n (fun p => .int .u32 (T p : Nat)))
theorem Tbl.set {w : World} {b n : Nat} {T : Nat → Nat} (h : Tbl w b n T) (p : Nat) (x : Nat) : Tbl (w.setCell ⟨b, p, none⟩ (.int .u32 (x : Nat))) b n (fun q => if q = p then x else T q) := by
  have := Blk.set h p (.int .u32 (x : Nat))
  rw [tab_set] at this
  unfold Tbl
  rw [tab_congr (g' := fun j => if j = p then .int .u32 (x : Nat) else .int .u32 (T j : Nat)) (fun i _ => by show Value.int .u32 ((if i = p then x else T i : Nat) : Int) = _; split <;> rfl)]
  exact this

/-- A table when k entries of a chain of n from place f on are laid. -/
def chT (pl : Nat → Nat) (f n : Nat) (T : Nat → Nat) : Nat → Nat → Nat
  | 0 => T
  | k + 1 => fun q => if q = pl (f + k) then (if k + 1 = n then 4294967294 else pl (f + k + 1)) else chT pl f n T k q
/-- A table when c chains are laid. -/
def chAll (pl cnt : Nat → Nat) (f : Nat) (T : Nat → Nat) : Nat → Nat → Nat
  | 0 => T
  | c + 1 => chT pl (f + sumN cnt c) (cnt c) (chAll pl cnt f T c) (cnt c)
def chStart (pl cnt : Nat → Nat) (f c : Nat) : Nat := if cnt c = 0 then 4294967294 else pl (f + sumN cnt c)

set_option maxRecDepth 100000 in
set_option maxHeartbeats 2000000 in
theorem chained_any (tb tn tc pb np pc f cb nc cc : Nat) (T pl cnt : Nat → Nat) (lp lc : List Value) (w : World) (ht : Tbl w tb tn T) (hp : Blk w pb 3 lp) (hpl : ∀ i, i < np → lp[i]? = some (I64 (pl i)))
    (hc : Blk w cb 3 lc) (hcl : ∀ i, i < nc → lc[i]? = some (I64 (cnt i))) (hsum : f + sumN cnt nc ≤ np) (hlt : ∀ i, i < np → pl i < tn) (htn : tn ≤ 1000000) (hnp : np ≤ 1000000) (hnc : nc ≤ 1000000) (htc : tn ≤ tc ∧ tc ≤ 9223372036854775807)
    (hpc : np ≤ pc ∧ pc ≤ 9223372036854775807) (hcc : nc ≤ cc ∧ cc ≤ 9223372036854775807) :
    Calls Tryd.prog 23 #[.slice (some ⟨tb, 0, none⟩) tn tc, .slice (some ⟨pb, 0, none⟩) np pc, .int .i64 f, .slice (some ⟨cb, 0, none⟩) nc cc] w fun e w' => ∃ v, e = .returned v ∧ Fr [tb] w w' ∧
      Tbl w' tb tn (chAll pl cnt f T nc) ∧ w'.ownsRow w.heap.size 3 1 v nc (tab nc (fun c => I64 (chStart pl cnt f c))) := by
  have htp : pb ≠ tb := fun h => by subst h; exact absurd (hp.unique ht).1 (by decide)
  have htcb : cb ≠ tb := fun h => by subst h; exact absurd (hc.unique ht).1 (by decide)
  have htb := Blk.lt ht
  have HS := Lib.hid hsum
  have HL := Lib.hid hlt
  have HPL := Lib.hid hpl
  have HCL := Lib.hid hcl
  clear hsum hlt hpl hcl
  go_enter Tryd.func23, Tryd.ntmps23
  go_wp2_with fail
  have hf2 : Fr [] w (w.alloc (Obj.cells #[] 3)) := (Fr.refl _ _).alloc _
  have ho2 : (w.alloc (Obj.cells #[] 3)).ownsRow w.heap.size 3 1 (.slice (some ⟨w.heap.size, 0, none⟩) 0 0) 0 [] := World.ownsRow_made w #[] 0 (Nat.le_refl _) (by unfold maxLen; omega) rfl
  have ht2 : Tbl (w.alloc (Obj.cells #[] 3)) tb tn T := Blk.fr0 ht hf2
  go_loopw [2, 9, 16] (fun s2 s9 s16 wr => ∃ c : Nat, c ≤ nc ∧ s16 = .int .i64 c ∧ s2 = .int .i64 ((f + sumN cnt c : Nat) : Int) ∧ Fr [tb] w wr ∧ Tbl wr tb tn (chAll pl cnt f T c) ∧ wr.ownsRow w.heap.size 3 1 s9 c (tab c (fun c => I64 (chStart pl cnt f c)))) (fun _ _ s16 _ => nc - (intOf s16).toNat)
  case atStart => exact ⟨0, by omega, rfl, rfl, hf2.mono (by simp), ht2, ho2⟩
  case round =>
    clear hf2 ho2 ht2
    obtain ⟨c, hcn, rfl, rfl, hfr, htb1, hown⟩ := hrel
    by_cases hlt : c < nc
    · have hS1 : f + sumN cnt c + cnt c ≤ np := by
        have h1 := HS.out
        have h2 := sumN_mono cnt (show c + 1 ≤ nc by omega)
        rw [sumN] at h2
        omega
      have hcs : chStart pl cnt f c = if cnt c = 0 then 4294967294 else pl (f + sumN cnt c) := rfl
      have hns : f + sumN cnt (c + 1) = f + sumN cnt c + cnt c := by rw [sumN]; omega
      have hch : chAll pl cnt f T (c + 1) = chT pl (f + sumN cnt c) (cnt c) (chAll pl cnt f T c) (cnt c) := rfl
      have HCS := Lib.hid hcs
      have HNS := Lib.hid hns
      have HCH := Lib.hid hch
      clear hcs hns hch
      have hcc1 : wr.cell? ⟨cb, c, none⟩ = some (I64 (cnt c)) := (hfr.cell (by simpa using htcb) ((hc.cell c).trans (HCL.out c hlt)))
      generalize hbs : f + sumN cnt c = F0 at *
      have hbase := hfr.size
      have hltI : (c : Int) < nc := by omega
      generalize hq : cnt c = q at *
      have hna := own_ne hown htb1 (by decide)
      by_cases h0 : q = 0
      · have h0B : ((q : Int) == 0) = true := by simp [h0]
        go_wp2_with (at_builtin; refine wpList_app1 rfl (.tmp 22) (.tmp 23) 31 rfl 3 (.int .i64 0) 8 Tryd.underlying31 info3 rfl (by decide) w.heap.size _ c _ rfl _ hown rfl rfl (by omega) hbase ?_)
        intro v' w1 hown1 hg1
        have hf1 := hfr.own hown (Nat.le_refl _) hg1
        have hown2 := own_tab hown1 (by rw [HCS.out, if_pos h0]; rfl)
        have ht1 : Tbl w1 tb tn (chAll pl cnt f T (c + 1)) := by
          rw [HCH.out, h0]
          exact Blk.fr htb1 hg1 hna
        clear hown1 hg1 hown hfr hna htb1
        go_wp2_with fail
        go_roundw
        case rel => exact ⟨c + 1, by omega, by go_num, by rw [HNS.out, h0]; rfl, hf1, ht1, hown2⟩
        case measure => simp [intOf]; omega
      · have h0B : ((q : Int) == 0) = false := by simp; omega
        have hpf : wr.cell? ⟨pb, F0, none⟩ = some (I64 (pl F0)) := (hfr.cell (by simpa using htp) ((hp.cell _).trans (HPL.out _ (by omega))))
        go_wp2_with (at_builtin; refine wpList_app1 rfl (.tmp 25) (.tmp 30) 31 rfl 3 (.int .i64 0) 8 Tryd.underlying31 info3 rfl (by decide) w.heap.size _ c _ rfl _ hown rfl rfl (by omega) hbase ?_)
        intro v' w1 hown1 hg1
        have hf1 := hfr.own hown (Nat.le_refl _) hg1
        have hown2 := own_tab hown1 (by rw [HCS.out, if_neg h0])
        have ht1 : Tbl w1 tb tn (chAll pl cnt f T c) := Blk.fr htb1 hg1 hna
        clear hown1 hg1 hown hfr hna htb1 hpf hcc1
        go_wp2_with fail
        go_loopw [2, 33] (fun s2 s33 wi => ∃ k : Nat, k ≤ q ∧ s33 = .int .i64 k ∧ s2 = .int .i64 ((F0 + k : Nat) : Int) ∧ Fr [tb] w1 wi ∧ Tbl wi tb tn (chT pl F0 q (chAll pl cnt f T c) k)) (fun _ s33 _ => q - (intOf s33).toNat)
        case atStart => exact ⟨0, by omega, rfl, rfl, Fr.refl _ _, ht1⟩
        case round =>
          clear ht1
          obtain ⟨k, hkq, rfl, rfl, hfi, hti⟩ := hrel
          by_cases hk : k < q
          · have hpl := HL.out (F0 + k) (by omega)
            have hpk : wr.cell? ⟨pb, F0 + k, none⟩ = some (I64 (pl (F0 + k))) := ((hf1.trans_same hfi).cell (by simpa using htp) ((hp.cell _).trans (HPL.out _ (by omega))))
            have htk : wr.cell? ⟨tb, pl (F0 + k), none⟩ = some (.int .u32 (chT pl F0 q (chAll pl cnt f T c) k (pl (F0 + k)) : Nat)) := (Blk.cell hti _).trans (tab_get _ _ _ hpl)
            have htz := Blk.frozen hti (pl (F0 + k))
            by_cases hl : k + 1 = q
            · have hkB : ((k : Int) == (q : Int) - 1) = true := by simp; omega
              go_wp2_with fail
              go_roundw
              case rel =>
                refine ⟨k + 1, by omega, by go_num, by rw [← Nat.add_assoc]; go_num, hfi.setCell (.inl (by simp)) _, ?_⟩
                have := Tbl.set hti (pl (F0 + k)) 4294967294
                unfold Tbl at this ⊢
                rw [tab_congr (g' := fun j => .int .u32 ((chT pl F0 q (chAll pl cnt f T c) (k + 1) j : Nat) : Int)) (fun i _ => by rw [chT]; show _ = Value.int .u32 ((if i = _ then (if k + 1 = q then _ else _) else _ : Nat) : Int); rw [if_pos hl])] at this
                exact this
              case measure => simp [intOf]; omega
            · have hkB : ((k : Int) == (q : Int) - 1) = false := by simp; omega
              have hpl2 := HL.out (F0 + k + 1) (by omega)
              have hpk2 : wr.cell? ⟨pb, F0 + k + 1, none⟩ = some (I64 (pl (F0 + k + 1))) := ((hf1.trans_same hfi).cell (by simpa using htp) ((hp.cell _).trans (HPL.out _ (by omega))))
              go_wp2_with fail
              go_region
              go_wp2_with fail
              go_roundw
              case rel =>
                refine ⟨k + 1, by omega, by go_num, by rw [← Nat.add_assoc]; go_num, (hfi.drewN _).setCell (.inl (by simp)) _, ?_⟩
                have := Tbl.set hti (pl (F0 + k)) (pl (F0 + k + 1))
                unfold Tbl at this ⊢
                rw [tab_congr (g' := fun j => .int .u32 ((chT pl F0 q (chAll pl cnt f T c) (k + 1) j : Nat) : Int)) (fun i _ => by rw [chT]; show _ = Value.int .u32 ((if i = _ then (if k + 1 = q then _ else _) else _ : Nat) : Int); rw [if_neg hl])] at this
                exact this
              case measure => simp [intOf]; omega
          · obtain rfl : k = q := by omega
            have hown3 := own_fr hown2 hfi (fun j hj => by simp; rintro rfl; have := (hown2.lt _ hj).1; omega)
            have hf3 := hf1.trans_same hfi
            go_wp2_with fail
            go_roundw
            case rel => exact ⟨c + 1, by omega, by go_num, by rw [HNS.out], hf3, by rw [HCH.out]; exact hti, hown3⟩
            case measure => simp [intOf]; omega
    · obtain rfl : c = nc := by omega
      go_wp2_with fail
      go_ret
      exact ⟨_, rfl, hfr, htb1, hown⟩
end Go.Proofs.YtokpomdfgbbhlaaDoor

/- The contracts of spec.Write's two closures: sector, fill. -/
namespace Go.Proofs.YtokpomdfgbbhlaaDoor
open Go Go.RowKit

set_option maxHeartbeats 400000 in
theorem sector_any (p ob zb outb n sz A : Nat) (w : World) (ho : w.cell? ⟨ob, 0, none⟩ = some (.slice (some ⟨outb, 0, none⟩) n n)) (hz : w.cell? ⟨zb, 0, none⟩ = some (I64 sz))
    (hA : sz * (1 + p) = A) (hn : A + sz ≤ n) (hs : 1 ≤ sz) (hs2 : sz ≤ 5000) (hp : p ≤ 100000) (hnn : n ≤ 1000000000) :
    Calls Tryd.prog 24 #[.int .i64 p, .pointer (some ⟨ob, 0, none⟩), .pointer (some ⟨zb, 0, none⟩)] w fun e w' => e = .returned (.slice (some ⟨outb, A, none⟩) sz (n - A)) ∧ w = w' := by
  have e1 : (sz : Int) * (1 + (p : Int)) = (A : Int) := by rw [← hA]; push_cast; rfl
  have e2 : (sz : Int) * (2 + (p : Int)) = (A : Int) + sz := by
    have : (2 + (p : Int)) = (1 + (p : Int)) + 1 := by omega
    rw [this, Int.mul_add, e1, Int.mul_one]
  have b1 : (0 : Int) ≤ (sz : Int) * (1 + (p : Int)) := by rw [e1]; omega
  have b2 : (sz : Int) * (1 + (p : Int)) ≤ 1000000000 := by rw [e1]; omega
  have b3 : (0 : Int) ≤ (sz : Int) * (2 + (p : Int)) := by rw [e2]; omega
  have b4 : (sz : Int) * (2 + (p : Int)) ≤ 2000000000 := by rw [e2]; omega
  have hcap : ¬ n = A := by omega
  clear hA
  go_enter Tryd.func24, Tryd.ntmps24
  go_wp2_with fail
  go_ret
  refine ⟨?_, rfl⟩
  show Ending.returned (Value.slice _ (A + sz - A) _) = _
  rw [Nat.add_sub_cancel_left]

theorem Bts.splice {w : World} {b n : Nat} {f g : Nat → UInt8} {off m : Nat} (hm : off + m ≤ n) (h : Blk w b 5 (splice (tab n (fun i => U8 (f i))) off (tab m (fun i => U8 (g i))))) : Bts w b n (cpy f off m g) := by
  rw [tab_splice _ _ _ _ _ hm] at h
  unfold Bts
  rw [tab_congr (g' := fun i => if off ≤ i ∧ i < off + m then U8 (g (i - off)) else U8 (f i)) (fun i _ => by unfold cpy; split <;> rfl)]
  exact h

/-- The file's bytes when k sectors of a chain are filled. -/
def fillF (f : Nat → UInt8) (sz len : Nat) (ps : Nat → Nat) (g : Nat → UInt8) : Nat → Nat → UInt8
  | 0 => f
  | k + 1 => cpy (fillF f sz len ps g k) (sz * (1 + ps k)) (min (len - k * sz) sz) (fun x => g (k * sz + x))

set_option maxRecDepth 100000 in
set_option maxHeartbeats 1000000 in
theorem fill_any (st tb tfb tn tc xb ob zb outb n sz len cap bb bo m : Nat) (T ps : Nat → Nat) (f g : Nat → UInt8) (ba : Option Addr) (w : World)
    (ho : w.cell? ⟨ob, 0, none⟩ = some (.slice (some ⟨outb, 0, none⟩) n n)) (hz : w.cell? ⟨zb, 0, none⟩ = some (I64 sz))
    (hx : w.cell? ⟨xb, 0, none⟩ = some (.func (.func 24) #[] #[.pointer (some ⟨ob, 0, none⟩), .pointer (some ⟨zb, 0, none⟩)]))
    (htc : w.cell? ⟨tfb, 0, none⟩ = some (.slice (some ⟨tb, 0, none⟩) tn tc)) (ht : Tbl w tb tn T) (hf : Bts w outb n f)
    (hne : ob ≠ outb ∧ zb ≠ outb ∧ xb ≠ outb ∧ tfb ≠ outb ∧ bb ≠ outb) (hsz : sz = 512 ∨ sz = 4096) (hm : m = partsN len sz)
    (hst : 0 < len → st = ps 0) (hps : ∀ k, k + 1 < m → T (ps k) = ps (k + 1)) (hlt : ∀ k, k < m → ps k < tn ∧ ps k ≤ 100000 ∧ sz * (1 + ps k) + sz ≤ n) (hn : n ≤ 1000000000)
    (hT : ∀ p, p < tn → T p < 4294967296) (hstb : st < 4294967296)
    (hlen : len ≤ cap ∧ cap ≤ 9223372036854775807) (hba : 0 < len → ba = some ⟨bb, bo, none⟩) (hb : ∀ i, i < len → w.cell? ⟨bb, bo + i, none⟩ = some (U8 (g i))) :
    Calls Tryd.prog 25 #[.int .i64 st, .slice ba len cap, .pointer (some ⟨tfb, 0, none⟩), .pointer (some ⟨xb, 0, none⟩)] w fun e w' => e = .returned (.tuple #[]) ∧ Fr [outb] w w' ∧ Bts w' outb n (fillF f sz len ps g m) := by
  obtain ⟨n1, n2, n3, n4, n5⟩ := hne
  have htb : tb ≠ outb := fun h => by subst h; exact absurd (Blk.unique ht hf).1 (by decide)
  have HM := Lib.hid hm
  have HSt := Lib.hid hst
  have HPS := Lib.hid hps
  have HLT := Lib.hid hlt
  have HT := Lib.hid hT
  have HBA := Lib.hid hba
  have HB := Lib.hid hb
  have HSZ := Lib.hid hsz
  have hs1 : 512 ≤ sz := by omega
  have hs2 : sz ≤ 4096 := by omega
  clear hm hst hps hlt hT hba hb hsz
  go_enter Tryd.func25, Tryd.ntmps25
  go_wp2_with fail
  go_loopw [1, 6] (fun s1 s6 wr => ∃ (k p : Nat) (a : Option Addr) (cp : Nat), k ≤ m ∧ s6 = .int .i64 p ∧ p < 4294967296 ∧ (k * sz < len → p = ps k) ∧ s1 = .slice a (len - k * sz) cp ∧ len - k * sz ≤ cp ∧ cp ≤ 9223372036854775807 ∧ (k * sz < len → a = some ⟨bb, bo + k * sz, none⟩) ∧
    Fr [outb] w wr ∧ Bts wr outb n (fillF f sz len ps g k) ∧ (k < m ∨ len ≤ k * sz)) (fun s1 _ _ => lenOf s1)
  case atStart =>
    refine ⟨0, st, ba, cap, by omega, rfl, hstb, fun h => HSt.out (by omega), by simp, by omega, hlen.2, fun h => by rw [HBA.out (by omega)]; simp, Fr.refl _ _, hf, ?_⟩
    by_cases h : len = 0
    · right; omega
    · left
      rw [HM.out]
      exact partsN_pos (by omega) (by omega)
  case round =>
    obtain ⟨k, p, a, cp, hkm, rfl, hpb, hpk, rfl, hcp, hcp2, ha, hfr, hbt, hkd⟩ := hrel
    by_cases hlt : k * sz < len
    · have hp := hpk hlt
      subst hp
      obtain rfl := ha hlt
      clear hpk ha
      have hkm2 : k < m := by rcases hkd with h | h <;> omega
      obtain ⟨l1, l2, l3⟩ := HLT.out k hkm2
      have c1 := hfr.cell (by simpa using n1) ho
      have c2 := hfr.cell (by simpa using n2) hz
      have c3 := hfr.cell (by simpa using n3) hx
      have c4 := hfr.cell (by simpa using n4) htc
      have t1 : Tbl wr tb tn T := Blk.fr ht hfr (by simpa using htb)
      generalize hks : k * sz = ks at *
      generalize hA : sz * (1 + ps k) = A at *
      have hlI : (0 : Int) < ((len - ks : Nat) : Int) := by omega
      have hfl : fillF f sz len ps g (k + 1) = cpy (fillF f sz len ps g k) A (min (len - ks) sz) (fun x => g (ks + x)) := by rw [fillF, hks, hA]
      have hks1 : (k + 1) * sz = ks + sz := by rw [Nat.add_mul, hks]; omega
      have HFL := Lib.hid hfl
      have HKS := Lib.hid hks1
      have HKS0 := Lib.hid hks
      clear hfl hks1 hks
      obtain ⟨mn, hmn⟩ : ∃ mn, min (len - ks) sz = mn := ⟨_, rfl⟩
      rw [hmn] at HFL
      have hmn1 : mn ≤ len - ks ∧ mn ≤ sz ∧ (mn = len - ks ∨ mn = sz) := by omega
      clear hmn
      have hbk : Blk wr outb 5 (tab n (fun i => U8 (fillF f sz len ps g k i))) := hbt
      go_wp2_with fail
      refine (sector_any (ps k) ob zb outb n sz A wr c1 c2 hA l3 (by omega) (by omega) (by omega) hn).mono ?_
      rintro e w1 ⟨rfl, rfl⟩
      go_wp2_with (with_reducible refine wpList_copy_blk rfl (.tmp 19) (.tmp 20) 23 23 rfl 5 Tryd.underlying23 (by kernel_rfl) _ _ _ _ _ _ rfl rfl outb A _ 5 hbk mn (fun i => U8 (g (ks + i))) ?_ ?_ ?_ ?_ ?_)
      · exact hmn1
      · intro _ j hj
        rw [Nat.add_assoc]
        exact hfr.cell (by simpa using n5) (HB.out _ (by omega))
      · rw [tab_length]; omega
      · intro j _; rfl
      · intro w1 hf1 hb1
        have hb2 := Bts.splice (by omega) hb1
        have t2 : Tbl w1 tb tn T := Blk.fr t1 hf1 (by simpa using htb)
        have t3 : w1.cell? ⟨tb, ps k, none⟩ = some (.int .u32 (T (ps k) : Nat)) := (Blk.cell t2 _).trans (tab_get _ _ _ l1)
        have c5 := hf1.cell (by simpa using n4) c4
        have hf2 := hfr.trans_same hf1
        have hTp := HT.out _ l1
        clear hb1 hfr hbt hbk t1 c1 c2 c3 c4 hf1
        have hlm := le_partsN len sz (by omega)
        rw [← HM.out] at hlm
        have hnx : ks + sz < len → k + 1 < m := by
          intro h
          rcases Nat.lt_or_ge (k + 1) m with h1 | h1
          · exact h1
          · have h2 := Nat.mul_le_mul_right sz h1
            rw [HKS.out] at h2
            omega
        have HNX := Lib.hid hnx
        have HLM := Lib.hid hlm
        clear hnx hlm
        have hle : len - ks - mn = len - (k + 1) * sz := by rw [HKS.out]; omega
        have HLE := Lib.hid hle
        clear hle
        by_cases hcm : cp = mn
        · go_wp2_with fail
          go_roundw
          case rel =>
            refine ⟨k + 1, T (ps k), some ⟨bb, bo + ks, none⟩, 0, by omega, rfl, hTp, ?_, by rw [HLE.out], ?_, by omega, ?_, hf2, by rw [HFL.out]; exact hb2, ?_⟩
            · intro h; rw [HKS.out] at h; omega
            · rw [HKS.out]; omega
            · intro h; rw [HKS.out] at h; omega
            · right; rw [HKS.out]; omega
          case measure => simp only [lenOf]; omega
        · have hcm2 : ¬ cp = mn := hcm
          go_wp2_with fail
          go_roundw
          case rel =>
            refine ⟨k + 1, T (ps k), some ⟨bb, bo + ks + mn, none⟩, cp - mn, by omega, rfl, hTp, ?_, by rw [HLE.out], ?_, by omega, ?_, hf2, by rw [HFL.out]; exact hb2, ?_⟩
            · intro h; rw [HKS.out] at h; exact HPS.out k (HNX.out h)
            · rw [HKS.out]; omega
            · intro h; rw [HKS.out] at h ⊢
              have : mn = sz := by omega
              rw [this, Nat.add_assoc]
            · rw [HKS.out]
              by_cases h : ks + sz < len
              · exact .inl (HNX.out h)
              · exact .inr (by omega)
          case measure => simp only [lenOf]; omega
    · have hz0 : len - k * sz = 0 := by omega
      have hkm3 : k = m := by
        rcases hkd with h | h
        · exfalso
          have h1 := HM.out
          have h2 : k * sz < len := partsN_lt (by omega) (by omega)
          omega
        · rcases Nat.lt_or_ge k m with h2 | h2
          · exfalso
            have h3 : k * sz < len := partsN_lt (by omega) (by rw [← HM.out]; exact h2)
            omega
          · omega
      subst hkm3
      generalize len - k * sz = z at *
      subst hz0
      go_wp2_with fail
      go_end0
      exact ⟨rfl, hfr, hbt⟩
end Go.Proofs.YtokpomdfgbbhlaaDoor

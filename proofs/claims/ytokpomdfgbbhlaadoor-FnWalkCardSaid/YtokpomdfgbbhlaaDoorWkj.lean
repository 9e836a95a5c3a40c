/- FnWalk: a file is gone through entry by entry, each read by pieces from its beginning, and behind the last one is the end (part 10 of 15). No condition but the statement's own. -/
import Derived.Deep.CutBlock
import Derived.Test.YtokpomdfgbbhlaaDoorWki
set_option linter.all false
set_option linter.unusedVariables false
set_option linter.unusedSimpArgs false
set_option linter.unnecessarySimpa false
/- The contract of laws.nodesOf. -/
namespace Go.Proofs.YtokpomdfgbbhlaaDoor
open Go Go.RowKit

theorem pinfo5 : (Tryd.prog.info? 5).map (fun i => (i.zero, i.size, i.bytes)) = some (some (.int .u8 0), 1, 1) := by kernel_rfl
theorem xor_any (a : Int) (y : UInt8) (h0 : 0 ≤ a) (h1 : a < 256) : ∃ b : UInt8, Value.int .u8 (bits .xor .u8 a (y.toNat : Int)) = U8 b := by
  have hy := y.toNat_lt
  rw [u8_xor a _ h0 h1 (by omega) (by omega)]
  exact u8_any _ (by omega) (by
    have : a.toNat ^^^ (y.toNat : Int).toNat < 2 ^ 8 := Nat.xor_lt_two_pow (by omega) (by omega)
    omega)
theorem XLoop.step {w0 w1 w w' : World} {b : Nat} {X : Nd} {j : Nat} {g : Nat → UInt8} {dx v : Value} {y : UInt8} (h1 : w0.heap.size ≤ b) (h2 : b < w1.heap.size) (h3 : Fr [] w0 w) (h4 : w1.heap.size ≤ w.heap.size)
    (h5 : Blk w b 42 (ndCells { X with len := j, dat := g } dx)) (h6 : w.ownsRow w1.heap.size 5 1 dx j (tab j (fun i => U8 (g i)))) (hn : w'.ownsRow w1.heap.size 5 1 v (j + 1) (tab j (fun i => U8 (g i)) ++ [U8 y])) (hg : Fr dx.ownBlock.toList w w') :
    XLoop w0 w1 (w'.setCell ⟨b, 2, none⟩ v) b X (j + 1) := by
  have hbd : b ∉ dx.ownBlock.toList := fun h => by have := (h6.lt b (by simpa using h)).1; omega
  have h5' := h5.fr hg hbd
  have hvb : ∀ k, v.ownBlock = some k → k ∉ [b] := fun k hk => by have := (hn.lt k hk).1; simp; omega
  refine ⟨insI j g y, v, h1, h2, ?_, ?_, ?_, ?_⟩
  · refine (h3.trans hg ?_).setCell (.inr h1) _
    intro x hx
    right
    have := (h6.lt x (by simpa using hx)).1
    have := h3.size
    omega
  · have := hg.size; simp; omega
  · have := h5'.set 2 v
    exact this
  · have := own_fr hn ((Fr.refl [b] w').setCell (p := ⟨b, 2, none⟩) (.inl (by simp)) v) hvb
    have e : tab j (fun i => U8 (g i)) ++ [U8 y] = tab (j + 1) (fun i => U8 (insI j g y i)) := by
      rw [tab_snoc]
      simp only [insI_self]
      congr 1
      exact tab_congr (fun i hi => by rw [insI_ne _ _ _ _ (by omega)])
    rw [e] at this
    exact this

set_option maxRecDepth 100000 in
set_option maxHeartbeats 16000000 in
theorem nodes_any (nb no nn ncap db do_ dn dcap : Nat) (num : Nat → Nat) (dat : Nat → UInt8) (na da : Option Addr) (w : World) (hnc : nn ≤ ncap ∧ ncap ≤ 9223372036854775807) (hdc : dn ≤ dcap ∧ dcap ≤ 9223372036854775807) (hnum : ∀ i, num i < 4294967296)
    (hna : 0 < nn → na = some ⟨nb, no, none⟩) (hda : 0 < dn → da = some ⟨db, do_, none⟩) (hnums : ∀ i, i < nn → w.cell? ⟨nb, no + i, none⟩ = some (.int .u32 (num i : Nat))) (hdats : ∀ i, i < dn → w.cell? ⟨db, do_ + i, none⟩ = some (U8 (dat i))) :
    Calls Tryd.prog 9 #[.slice na nn ncap, .slice da dn dcap] w (NodesPost w) := by
  have HNUM := Lib.hid hnum
  have HNA := Lib.hid hna
  have HDA := Lib.hid hda
  have HNUMS := Lib.hid hnums
  have HDATS := Lib.hid hdats
  clear hnum hna hda hnums hdats
  go_enter Tryd.func9, Tryd.ntmps9
  go_upto_region 4 with (fail)
  go_cut [5, 6, 7, 31, 32, 33] from 5 to 33 (fun s5 s6 s7 s31 s32 s33 w1 => Fr [] w w1 ∧ NInv w.heap.size w1 1 s5 s6 (fun _ => rootNd) (fun _ => .slice none 0 0) (fun _ => .slice none 0 0) (fun _ => []) (fun _ => 0) ∧ s7 = .int .i64 0 ∧ s31 = .slice na (min nn 19 : Nat) ncap ∧ s32 = .int .i64 ((min nn 19 : Nat) : Int) ∧ s33 = .int .i64 0)
  case first =>
    by_cases h19 : 19 < nn
    · have hm : min nn 19 = 19 := by omega
      have hmI : ¬ (nn : Int) ≤ 19 := by omega
      have hmI2 : (19 : Int) ≤ (nn : Int) := by omega
      have hmI3 : (19 : Int) ≤ (ncap : Int) := by omega
      have HM := Lib.hid hm
      clear hm
      obtain rfl := HNA.out (by omega)
      go_wp2_with fail
      go_meet
      case rel => exact ⟨((Fr.refl [] w).alloc _).alloc _, NInv.init w, rfl, by rw [HM.out], by rw [HM.out]; rfl, rfl⟩
    · have hm : min nn 19 = nn := by omega
      have hmI : (nn : Int) ≤ 19 := by omega
      have hmI3 : (nn : Int) ≤ (ncap : Int) := by omega
      have HM := Lib.hid hm
      clear hm
      by_cases h0 : 0 < nn
      · obtain rfl := HNA.out h0
        go_wp2_with fail
        go_meet
        case rel => exact ⟨((Fr.refl [] w).alloc _).alloc _, NInv.init w, rfl, by rw [HM.out], by rw [HM.out], rfl⟩
      · obtain rfl : nn = 0 := by omega
        go_wp2_with fail
        go_meet
        case rel => exact ⟨((Fr.refl [] w).alloc _).alloc _, NInv.init w, rfl, by rw [HM.out], by rw [HM.out]; rfl, rfl⟩
  case rest =>
  obtain ⟨hf, hinv, rfl, rfl, rfl, rfl⟩ := hcut
  generalize hm : min nn 19 = m at *
  have hmn : m ≤ nn ∧ m ≤ 19 := by omega
  clear hm
  go_upto_block 0 with (fail)
  go_cut [5, 6] from 5 to 180 (fun s5 s6 w1 => ∃ (nd : Nat → Nd) (dv bv : Nat → Value) (B : Nat → List Nat) (par : Nat → Nat), Fr [] w w1 ∧ NInv w.heap.size w1 (m + 1) s5 s6 nd dv bv B par)
  case first =>
    go_wp2_with fail
    go_loopw [5, 6, 7, 33] (fun s5 s6 s7 s33 wr => ∃ (k at_ : Nat) (nd : Nat → Nd) (dv bv : Nat → Value) (B : Nat → List Nat) (par : Nat → Nat), k ≤ m ∧ s33 = .int .i64 k ∧ s7 = .int .i64 at_ ∧ at_ ≤ 9000 * k ∧ Fr [] w wr ∧ NInv w.heap.size wr (k + 1) s5 s6 nd dv bv B par) (fun _ _ _ s33 _ => m - (intOf s33).toNat)
    case atStart => exact ⟨0, 0, _, _, _, _, _, by omega, rfl, rfl, by omega, hf, hinv⟩
    case round =>
      obtain ⟨k, at_, nd, dv, bv, B, par, hk, rfl, rfl, hat, hf, hinv⟩ := hrel
      have HINV := Lib.hid hinv
      clear hinv
      obtain ⟨wq, hwq⟩ : ∃ x, x = wr := ⟨_, rfl⟩
      subst hwq
      by_cases hlt : k < m
      · obtain rfl := HNA.out (by omega)
        have cn := hf.cell0 (HNUMS.out k (by omega))
        have hnl := HNUM.out k
        go_upto_region 8 with (fail)
        generalize num k = n at *
        go_cut [10, 11, 31, 32, 33] from 34 to 59 (fun s10 s11 s31 s32 s33 w1 => ∃ (h b : Nat) (X : Nd), s10 = .int .u32 h ∧ h < 4294967296 ∧ s11 = .pointer (some ⟨b, 0, none⟩) ∧ s31 = .slice (some ⟨nb, no, none⟩) m ncap ∧ s32 = .int .i64 m ∧ s33 = .int .i64 k ∧ XBlk wq w1 b X)
        case first =>
          obtain ⟨nA, hA⟩ : ∃ x : ByteArray, ({ data := #[65, 66, 67, 68, 69, 70, 71, 72, 73, 74] } : ByteArray).extract 0 (1 + n % 7) = x := ⟨_, rfl⟩
          obtain ⟨nB, hB⟩ : ∃ x : ByteArray, Utf8.encode (65 + (k : Int)) = x := ⟨_, rfl⟩
          have hq : n % 7 < 7 := Nat.mod_lt _ (by omega)
          have hgood : nmGood (nA ++ nB) = true := by rw [← hA, ← hB]; exact nm_all _ hq k (by omega)
          have hsA : nA.size ≤ 8 := by rw [← hA]; exact nm_sz _ hq
          have hsB : nB.size ≤ 4 := by rw [← hB]; exact nm_sz2 k (by omega)
          have HGOOD := Lib.hid hgood
          clear hgood hq
          have hone := newCells_one (nA ++ nB) (decide ((0 : Int) < (n : Int) / 8 % 3)) ((n : Int) * 2654435761 % 4294967296 * 77) ((n : Int) * 1048576)
          go_wp2_with (refine wpList_store_blk rfl 42 (.tmp 11) (.tmp 59) rfl wq.heap.size 0 (newCells (nA ++ nB) (decide ((0 : Int) < (n : Int) / 8 % 3)) ((n : Int) * 2654435761 % 4294967296 * 77) ((n : Int) * 1048576)) rfl rfl 42 _ (Blk.new' wq 42 _) (by show 0 + 28 ≤ 28; omega) (show _ = some 28 by kernel_rfl) hone ?_)
          intro w1 hf1 hb1
          obtain ⟨X0, hX⟩ := newX _ _ _ _ _ _ _ rfl hf1 hb1 HGOOD.out ⟨by omega, by omega⟩ ⟨by omega, by omega⟩
          have HX := Lib.hid hX
          clear hX hb1 hf1 hone
          go_wp2_with fail
          go_meet
          case rel =>
            obtain ⟨h, hh⟩ := Int.eq_ofNat_of_zero_le (show (0 : Int) ≤ (n : Int) * 2654435761 % 4294967296 by omega)
            have hh2 : h < 4294967296 := by omega
            exact ⟨h, wq.heap.size, X0, congrArg (Value.int .u32) hh, hh2, rfl, rfl, rfl, rfl, HX.out⟩
        case rest =>
        obtain ⟨h, b, X, rfl, hh, rfl, rfl, rfl, rfl, hX⟩ := hcut
        clear cn
        go_upto_block 2 with (fail)
        go_cut [31, 32, 33] from 60 to 71 (fun s31 s32 s33 w1 => s31 = .slice (some ⟨nb, no, none⟩) m ncap ∧ s32 = .int .i64 m ∧ s33 = .int .i64 k ∧ ∃ X : Nd, XBlk wq w1 b X)
        case first =>
          go_wp2_with fail
          go_loopw [60] (fun s60 wr1 => ∃ (j : Nat) (X : Nd), j ≤ 16 ∧ s60 = .int .i64 j ∧ XBlk wq wr1 b X) (fun s60 _ => 16 - (intOf s60).toNat)
          case atStart => exact ⟨0, X, by omega, rfl, hX⟩
          case round =>
            obtain ⟨j, X, hj, rfl, hX⟩ := hrel
            have hbz := hX.2.2.1.frozen (6 + j)
            obtain ⟨u, hu⟩ : ∃ u, wr.cell? ⟨b, 6 + j, none⟩ = some u := hX.2.2.1.some _ (by rw [ndCells_length]; omega)
            by_cases hj2 : j < 16
            · have HX := Lib.hid hX
              go_wp2_with fail
              go_roundw
              case rel =>
                obtain ⟨X', hX'⟩ := HX.out.cls j hj2 _ (Int.emod_nonneg _ (by decide)) (Int.emod_lt_of_pos _ (by decide))
                exact ⟨j + 1, X', by omega, by go_num, hX'⟩
              case measure => simp [intOf]; omega
            · obtain rfl : j = 16 := by omega
              go_wp2_with fail
              go_meet
              case rel => exact ⟨rfl, rfl, rfl, X, hX⟩
        case rest =>
        clear hX X
        obtain ⟨rfl, rfl, rfl, X, hX⟩ := hcut
        go_upto_block 4 with (fail)
        go_cut [31, 32, 33] from 72 to 83 (fun s31 s32 s33 w1 => s31 = .slice (some ⟨nb, no, none⟩) m ncap ∧ s32 = .int .i64 m ∧ s33 = .int .i64 k ∧ ∃ X : Nd, XBlk wq w1 b X)
        case first =>
          go_wp2_with fail
          go_loopw [72] (fun s72 wr1 => ∃ (j : Nat) (X : Nd), j ≤ 4 ∧ s72 = .int .i64 j ∧ XBlk wq wr1 b X) (fun s72 _ => 4 - (intOf s72).toNat)
          case atStart => exact ⟨0, X, by omega, rfl, hX⟩
          case round =>
            obtain ⟨j, X, hj, rfl, hX⟩ := hrel
            have hbz := hX.2.2.1.frozen (22 + j)
            obtain ⟨u, hu⟩ : ∃ u, wr.cell? ⟨b, 22 + j, none⟩ = some u := hX.2.2.1.some _ (by rw [ndCells_length]; omega)
            by_cases hj2 : j < 4
            · have HX := Lib.hid hX
              go_wp2_with fail
              go_roundw
              case rel =>
                obtain ⟨X', hX'⟩ := HX.out.sts j hj2 _ (Int.emod_nonneg _ (by decide)) (Int.emod_lt_of_pos _ (by decide))
                exact ⟨j + 1, X', by omega, by go_num, hX'⟩
              case measure => simp [intOf]; omega
            · obtain rfl : j = 4 := by omega
              go_wp2_with fail
              go_meet
              case rel => exact ⟨rfl, rfl, rfl, X, hX⟩
        case rest =>
        clear hX X
        obtain ⟨rfl, rfl, rfl, X, hX⟩ := hcut
        obtain ⟨st, hst⟩ : ∃ st, st = X.stream := ⟨_, rfl⟩
        have k1 : wc.cell? ⟨b, 1, none⟩ = some (.bool st) := by rw [hst]; exact hX.2.2.1.cell 1
        have HX := Lib.hid hX
        have HST := Lib.hid hst
        clear hX hst
        go_upto_if 85 with (fail)
        go_cut [7, 10, 11, 31, 32, 33] from 84 to 135 (fun s7 s10 s11 s31 s32 s33 w1 => ∃ (at2 : Nat) (X : Nd) (dx : Value), s7 = .int .i64 at2 ∧ at2 ≤ at_ + 9000 ∧ s10 = .int .u32 h ∧ s11 = .pointer (some ⟨b, 0, none⟩) ∧ s31 = .slice (some ⟨nb, no, none⟩) m ncap ∧ s32 = .int .i64 m ∧ s33 = .int .i64 k ∧ XDone wq w1 b X dx)
        case first =>
          cases st
          · go_wp2_with fail
            go_meet
            case rel => exact ⟨at_, X, _, rfl, by omega, rfl, rfl, rfl, rfl, rfl, HX.out.done⟩
          · clear k1
            go_upto_if 93 with (fail)
            go_cut [14, 31, 32, 33] from 84 to 97 (fun s14 s31 s32 s33 w1 => wc = w1 ∧ s31 = .slice (some ⟨nb, no, none⟩) m ncap ∧ s32 = .int .i64 m ∧ s33 = .int .i64 k ∧ ∃ z : Nat, s14 = .int .i64 z ∧ z ≤ 9000)
            case first =>
              by_cases h8 : (n : Int) / 16384 % 8 = 0
              · have h8B : (((n : Int) / 16384 % 8) == 0) = true := by simpa using h8
                go_wp2_with fail
                go_meet
                case rel =>
                  obtain ⟨z, hz⟩ := Int.eq_ofNat_of_zero_le (show (0 : Int) ≤ (n : Int) / 32 % 9000 by omega)
                  exact ⟨rfl, rfl, rfl, rfl, z, congrArg (Value.int .i64) hz, by omega⟩
              · have h8B : (((n : Int) / 16384 % 8) == 0) = false := by simpa using h8
                go_wp2_with fail
                go_meet
                case rel =>
                  obtain ⟨z, hz⟩ := Int.eq_ofNat_of_zero_le (show (0 : Int) ≤ (n : Int) / 32 % 300 by omega)
                  exact ⟨rfl, rfl, rfl, rfl, z, congrArg (Value.int .i64) hz, by omega⟩
            case rest =>
            obtain ⟨rfl, rfl, rfl, rfl, z, rfl, hz⟩ := hcut
            go_upto_block 6 with (fail)
            go_cut [31, 32, 33] from 98 to 132 (fun s31 s32 s33 w1 => s31 = .slice (some ⟨nb, no, none⟩) m ncap ∧ s32 = .int .i64 m ∧ s33 = .int .i64 k ∧ ∃ (X : Nd) (dx : Value), XDone wq w1 b X dx)
            case first =>
              have hX0 : XLoop wq wc wc b X 0 := by
                obtain ⟨h1, h2, h3, h4, h5⟩ := HX.out
                exact ⟨fun _ => 0, .slice none 0 0, h1, h3.lt, h2, Nat.le_refl _, h3, own_nil _ _ _ _⟩
              go_wp2_with fail
              go_loopw [99] (fun s99 wr1 => ∃ j : Nat, j ≤ z ∧ s99 = .int .i64 j ∧ XLoop wq wc wr1 b X j) (fun s99 _ => z - (intOf s99).toNat)
              case atStart => exact ⟨0, by omega, rfl, hX0⟩
              case round =>
                clear hX0
                obtain ⟨j, hj, rfl, g, dx, h1, h2, h3, h4, h5, h6⟩ := hrel
                by_cases hlt : j < z
                · have h2c : wr.cell? ⟨b, 2, none⟩ = some dx := h5.cell 2
                  have H5 := Lib.hid h5
                  have H6 := Lib.hid h6
                  have H3 := Lib.hid h3
                  clear h5 h6 h3
                  go_upto_if 114 with (fail)
                  go_cut [16] from 100 to 125 (fun s16 w1 => wr = w1 ∧ ∃ y : UInt8, s16 = U8 y)
                  case first =>
                    by_cases h0 : 0 < dn
                    · obtain rfl := HDA.out h0
                      have hml := Nat.mod_lt (j + at_) h0
                      have cd : wr.cell? ⟨db, do_ + (j + at_) % dn, none⟩ = some (U8 (dat ((j + at_) % dn))) := H3.out.cell0 (hf.cell0 (HDATS.out _ hml))
                      have hnI : (0 : Int) < (dn : Int) := by omega
                      have hmod0 : (0 : Int) ≤ ((j : Int) + (at_ : Int)) % (dn : Int) := Int.emod_nonneg _ (by omega)
                      have hmod1 : ((j : Int) + (at_ : Int)) % (dn : Int) < (dn : Int) := Int.emod_lt_of_pos _ hnI
                      generalize dat ((j + at_) % dn) = yd at *
                      go_wp2_with fail
                      go_meet
                      case rel => exact ⟨rfl, xor_any _ _ (Int.emod_nonneg _ (by decide)) (Int.emod_lt_of_pos _ (by decide))⟩
                    · have hnI : ¬ (0 : Int) < (dn : Int) := by omega
                      go_wp2_with fail
                      go_meet
                      case rel => exact ⟨rfl, u8_any _ (Int.emod_nonneg _ (by decide)) (Int.emod_lt_of_pos _ (by decide))⟩
                  case rest =>
                  obtain ⟨rfl, y, rfl⟩ := hcut
                  have h5 := H5.out
                  have h6 := H6.out
                  have h3 := H3.out
                  have hbd : b ∉ dx.ownBlock.toList := fun h => by have := (h6.lt b (by simpa using h)).1; omega
                  have H5 := Lib.hid h5
                  have H3 := Lib.hid h3
                  clear h5 h3
                  go_wp2_with (at_builtin; (refine wpList_app2 rfl (.tmp 127) (.tmp 129) 23 rfl 5 (.int .u8 0) 1 Tryd.underlying23 pinfo5 rfl (by decide) wc.heap.size _ j _ rfl _ h6 rfl rfl (by omega) h4 ?_))
                  intro v w1 hn1 hg1 hd1
                  have h5' := H5.out.fr hg1 hbd
                  have hfz := h5'.frozen 2
                  have h2c' : w1.cell? ⟨b, 2, none⟩ = some dx := h5'.cell 2
                  have hstep := XLoop.step h1 h2 H3.out h4 H5.out h6 hn1 hg1
                  have HS := Lib.hid hstep
                  obtain ⟨va, vc, rfl⟩ := own_slice hn1
                  clear hstep h5' hn1 hg1 hd1 hbd h6 h2c
                  go_wp2_with fail
                  go_roundw
                  case rel => exact ⟨j + 1, by omega, by go_num, HS.out⟩
                  case measure => simp [intOf]; omega
                · obtain rfl : j = z := by omega
                  have hl : XLoop wq wc wr b X j := ⟨g, dx, h1, h2, h3, h4, h5, h6⟩
                  obtain ⟨X', dx', hX'⟩ := hl.done HX.out.2.2.2.1 HST.out.symm hz
                  have HX' := Lib.hid hX'
                  clear hX' hl h3 h5 h6
                  go_wp2_with fail
                  go_meet
                  case rel => exact ⟨rfl, rfl, rfl, X', dx', HX'.out⟩
            case rest =>
            obtain ⟨rfl, rfl, rfl, X', dx, hX'⟩ := hcut
            have HX' := Lib.hid hX'
            clear hX'
            go_wp2_with fail
            go_meet
            case rel => exact ⟨at_ + z, X', dx, by go_num, by omega, rfl, rfl, rfl, rfl, rfl, HX'.out⟩
        case rest =>
        clear k1 HX
        obtain ⟨at2, X, dx, rfl, hat2, rfl, rfl, rfl, rfl, rfl, hX⟩ := hcut
        have hN := HINV.out.fr hX.fr
        have hfW : Fr [] w wc := hf.trans0 hX.fr
        obtain ⟨lb, lcap, ll, rfl, hlb, hll, hlg, hlc1, hlc2, _⟩ := own_blkS hN.row (by omega)
        have hrow : NdRow wc lb (k + 1) nd dv := ⟨ll, hll, fun e he j hj => (hlg _ (by omega)).trans (ndRow_get _ _ _ _ _ he hj)⟩
        have HROW := Lib.hid hrow
        have HN := Lib.hid hN
        have HX := Lib.hid hX
        clear hX hN hrow hlg hll
        go_upto_block 8 with (fail)
        go_cut [17] from 136 to 159 (fun s17 w1 => wc = w1 ∧ ∃ p : Nat, s17 = .int .i64 p ∧ p < k + 1)
        case first =>
          go_wp2_with fail
          go_loop [17, 138] (fun s17 s138 => s17 = .int .i64 0 ∧ ∃ j : Nat, j ≤ k + 1 ∧ s138 = .int .i64 j) (fun _ s138 => k + 1 - (intOf s138).toNat)
          case atStart => exact ⟨rfl, 0, by omega, rfl⟩
          case round =>
            obtain ⟨rfl, j, hj, rfl⟩ := hrel
            by_cases hlt : j < k + 1
            · have hltI : (j : Int) < (k : Int) + 1 := by omega
              go_upto_region 36 with (fail)
              go_cut [19] from 141 to 148 (fun s19 w1 => wc = w1 ∧ ∃ p : Nat, s19 = .int .i64 p ∧ p < k + 1)
              case first =>
                go_wp2_with fail
                go_meet
                case rel =>
                  obtain ⟨p, hp⟩ := Int.eq_ofNat_of_zero_le (show (0 : Int) ≤ ((h : Int) / 1048576 + (j : Int)) % ((k : Int) + 1) from Int.emod_nonneg _ (by omega))
                  have hp2 := Int.emod_lt_of_pos ((h : Int) / 1048576 + (j : Int)) (show (0 : Int) < (k : Int) + 1 by omega)
                  exact ⟨rfl, p, congrArg (Value.int .i64) hp, by omega⟩
              case rest =>
              obtain ⟨rfl, p, rfl, hp⟩ := hcut
              have cs : wc.cell? ⟨lb, p * 28 + 1, none⟩ = some (.bool (nd p).stream) := HROW.out.cell hp (by omega)
              have hpI : (p : Int) < (k : Int) + 1 := by omega
              generalize (nd p).stream = st at *
              by_cases hp0 : p = 0
              · have hB : ((p : Int) == 0) = true := by simpa using hp0
                have HP := Lib.hid hp0
                clear hp0
                go_wp2_with fail
                go_meet
                case rel => exact ⟨rfl, p, rfl, hp⟩
              · have hB : ((p : Int) == 0) = false := by simpa using hp0
                cases st
                · go_wp2_with fail
                  go_meet
                  case rel => exact ⟨rfl, p, rfl, hp⟩
                · go_wp2_with fail
                  go_round
                  case rel => exact ⟨rfl, j + 1, by omega, by go_num⟩
                  case measure => simp [intOf]; omega
            · have hltI : ¬ (j : Int) < (k : Int) + 1 := by omega
              go_wp2_with fail
              go_meet
              case rel => exact ⟨rfl, 0, rfl, by omega⟩
        case rest =>
        obtain ⟨rfl, p, rfl, hp⟩ := hcut
        obtain ⟨xl, hxl⟩ : ∃ xl, xl = (ndCells X dx).toArray := ⟨_, rfl⟩
        have hXb : Blk wc b 42 xl.toList := by rw [hxl]; exact HX.out.blk
        have hXs : xl.size = 28 := by rw [hxl]; exact ndCells_length _ _
        have hone : xl.all (·.oneCell') = true := by
          obtain ⟨a, xcap, hdx, _⟩ := HX.out.dat
          rw [hxl, hdx]; exact ndCells_one _ _ _ _
        have hcs : (xl.toList.drop 0).take 28 = xl.toList := by rw [List.drop_zero, List.take_of_length_le (by simp; omega)]
        have HCS := Lib.hid hcs
        have HXS := Lib.hid hXs
        have HXL := Lib.hid hxl
        have hle : 0 + 28 ≤ xl.toList.length := by simp; omega
        clear hcs hXs hxl
        obtain ⟨i0, z0, hi0⟩ := info42_parts
        have HI := Lib.hid hi0
        clear hi0
        have hbase : w.heap.size ≤ wc.heap.size := hfW.size
        have hnews : ∀ j u, xl.toList[j]? = some u → (wc.alloc (.cells xl 42)).cell? ((⟨wc.heap.size, 0, none⟩ : Addr).add j) = some u := by
          intro j u hj
          have := (Blk.new' wc 42 xl).cell j
          have e : (⟨wc.heap.size, 0, none⟩ : Addr).add j = ⟨wc.heap.size, j, none⟩ := add_zero' _ _
          rw [e, this]; exact hj
        have h1one : ∀ u ∈ xl.toList, u.oneCell' = true := all_oneCell_mem hone
        have hbA : w.heap.size ≤ (wc.alloc (.cells xl 42)).heap.size := by rw [World.size_alloc]; omega
        have HNEWS := Lib.hid hnews
        have HONE := Lib.hid h1one
        have hlen28 : xl.toList.length = 1 * 28 := by simpa using HXS.out
        have HL28 := Lib.hid hlen28
        clear hnews h1one hlen28 hone
        go_wp2_with (first | (refine wpList_load_blk rfl 42 (.tmp 11) rfl b 0 rfl 42 xl.toList hXb _ Tryd.underlying42 rfl 28 (by kernel_rfl) hle xl HCS.out ?_) | (refine wpList_build_one rfl 25 42 (.tmp 162) rfl xl rfl Tryd.underlying25 i0 z0 HI.out.1 HI.out.2.1 28 HI.out.2.2.1 HXS.out (by decide) (by decide) ?_) | (at_builtin; (refine wpList_app rfl (.tmp 161) (.tmp 163) 25 rfl 42 i0 z0 28 112 Tryd.underlying25 HI.out.1 HI.out.2.1 HI.out.2.2.1 HI.out.2.2.2.1 HI.out.2.2.2.2 (by decide) (by decide) w.heap.size _ (k + 1) _ rfl (HN.out.row.alloc _) ⟨wc.heap.size, 0, none⟩ 1 1 xl.toList rfl (by decide) HL28.out HNEWS.out HONE.out (by omega) hbA ?_)))
        intro v1 w1 hr1 hg1 hd1
        have f1 : Fr (Value.slice (some ⟨lb, 0, none⟩) (k + 1) lcap).ownBlock.toList wc w1 := (((Fr.refl [] wc).alloc _).mono (by simp)).trans hg1 (fun x hx => .inl hx)
        rw [HXL.out, List.toList_toArray] at hr1
        have hbel1 := own_fr HN.out.bel f1 (own_sep HN.out.bel HN.out.row (by decide))
        have hbase1 : w.heap.size ≤ w1.heap.size := Nat.le_trans hbase f1.size
        obtain ⟨va, vc, rfl⟩ := own_slice hr1
        have HR1 := Lib.hid hr1
        have HF1 := Lib.hid f1
        clear hr1 f1 hd1 hg1
        go_wp2_with (at_builtin; (refine wpList_app2 rfl (.tmp 165) (.tmp 166) 70 rfl 31 (.slice none 0 0) 24 Tryd.underlying70 info31 rfl (by decide) w.heap.size _ (k + 1) _ rfl _ hbel1 rfl rfl (by omega) hbase1 ?_))
        intro v2 w2 hr2 hg2 hd2
        have hbp2 := own_fr (own_fr (HN.out.bs p hp) HF1.out (own_sep (HN.out.bs p hp) HN.out.row (by decide))) hg2 (own_sep (own_fr (HN.out.bs p hp) HF1.out (own_sep (HN.out.bs p hp) HN.out.row (by decide))) hbel1 (by decide))
        have hbase2 : w.heap.size ≤ w2.heap.size := Nat.le_trans hbase1 hg2.size
        obtain ⟨gb, gcap, gl, rfl, hgb, hgl, hgg, hgc1, hgc2, _⟩ := own_blkS hr2 (by omega)
        have cp : w2.cell? ⟨gb, p, none⟩ = some (bv p) := by
          rw [hgl.cell, hgg p (by omega), List.getElem?_append_left (by rw [tab_length]; exact hp), tab_get _ _ _ hp]
        have hpI : (p : Int) < (k : Int) + 1 + 1 := by omega
        have hlenp := HN.out.len_le p hp
        generalize hpl : (B p).length = pl at *
        have HPL := Lib.hid hpl
        have HR2 := Lib.hid hr2
        have HG2 := Lib.hid hg2
        clear hr2 hg2 hd2 hgg hpl
        go_wp2_with (at_builtin; (refine wpList_app2 rfl (.tmp 173) (.tmp 177) 31 rfl 3 (.int .i64 0) 8 Tryd.underlying31 info3 rfl (by decide) w.heap.size _ pl _ rfl _ hbp2 rfl rfl (by omega) hbase2 ?_))
        intro v3 w3 hr3 hg3 hd3
        have hr3' : w3.ownsRow w.heap.size 3 1 v3 ((B p).length + 1) ((B p).map (fun e => I64 e) ++ [I64 (k + 1 : Nat)]) := by
          rw [HPL.out]
          exact hr3
        obtain ⟨v3a, v3c, rfl⟩ := own_slice hr3'
        have hgl3 := hgl.fr hg3 (fun hx => own_sep HR2.out hbp2 (by decide) gb rfl hx)
        have hst := NInv.step HN.out (by omega) hp HX.out.ok HX.out.dat HR1.out HF1.out HR2.out HG2.out hr3' hg3 hd3
        have hfin : Fr [] w (w3.setCell ⟨gb, p, none⟩ (.slice v3a ((B p).length + 1) v3c)) := (((hfW.own HN.out.row (Nat.le_refl _) HF1.out).own hbel1 (Nat.le_refl _) HG2.out).own hbp2 (Nat.le_refl _) hg3).setCell (.inr hgb) _
        have c3 : w3.cell? ⟨gb, p, none⟩ = some (bv p) := (hgl3.cell p).trans ((hgl.cell p).symm.trans cp)
        have z3 := hgl3.frozen p
        have HST := Lib.hid hst
        have HFIN := Lib.hid hfin
        clear hst hfin hr3 hr3' hg3 hd3 hbp2 hbel1 hgl hgl3 cp hXb
        go_wp2_with fail
        go_roundw
        case rel => exact ⟨k + 1, at2, _, _, _, _, _, by omega, by go_num, rfl, by omega, HFIN.out, HST.out⟩
        case measure => simp [intOf]; omega
      · obtain rfl : k = m := by omega
        go_wp2_with fail
        go_meet
        case rel => exact ⟨nd, dv, bv, B, par, hf, HINV.out⟩
  case rest =>
  obtain ⟨nd, dv, bv, B, par, hf, hinv⟩ := hcut
  obtain ⟨lb, lcap, ll, rfl, hlb, hll, hlg, hlc1, hlc2, _⟩ := own_blkS hinv.row (by omega)
  have hrow : NdRow wc lb (m + 1) nd dv := ⟨ll, hll, fun e he j hj => (hlg _ (by omega)).trans (ndRow_get _ _ _ _ _ he hj)⟩
  have hst := SInv.init hinv (by omega) hrow
  have hP : Par (m + 1) B par := ⟨hinv.mem, hinv.nodup, hinv.le, hinv.all⟩
  obtain ⟨gb, gcap, gl, rfl, hgb, hgl, hgg, hgc1, hgc2, _⟩ := own_blkS hinv.bel (by omega)
  have HP := Lib.hid hP
  have HOK := Lib.hid hinv.ok
  have HROOT := Lib.hid hinv.root
  have hmm : m ≤ 19 := by omega
  clear hP hrow hlg hll hgg hgl hinv
  go_wp2_with fail
  go_loopw [183] (fun s183 wr => ∃ (k : Nat) (nd' : Nat → Nd) (B' : Nat → List Nat) (sh : Nat → Sh), k ≤ m + 1 ∧ s183 = .int .i64 k ∧ Fr [] w wr ∧ SInv w.heap.size lb (m + 1) k wr (.slice (some ⟨gb, 0, none⟩) (m + 1) gcap) nd nd' dv bv B B' sh) (fun s183 _ => m + 1 - (intOf s183).toNat)
  case atStart => exact ⟨0, nd, B, _, by omega, rfl, hf, hst⟩
  case round =>
    clear hst
    obtain ⟨k, nd', B', sh, hk, rfl, hf, hst⟩ := hrel
    obtain ⟨wq, hwq⟩ : ∃ x, x = wr := ⟨_, rfl⟩
    subst hwq
    by_cases hlt : k < m + 1
    · have ck : wq.cell? ⟨gb, k, none⟩ = some (bv k) := by
        have := hst.bel.cells rfl k (bv k) (tab_get _ _ _ hlt)
        rwa [add_zero'] at this
      obtain ⟨pa, pcap, pb, hbv, hpc1, hpc2, hpa⟩ := own_any (hst.bs k hlt)
      have hbk := hst.bs k hlt
      have hpm := hst.perm k hlt
      have hlen : (B' k).length = (B k).length := hpm.length_eq
      have hle : (B k).length ≤ m + 1 := nodup_le _ (HP.out.nodup k hlt) (fun e he => (HP.out.mem k hlt e he).2.1)
      rw [hbv] at ck hbk
      have HBV := Lib.hid hbv
      have HST := Lib.hid hst
      have HPM := Lib.hid hpm
      have HPA := Lib.hid hpa
      clear hbv hst hpm hpa hlen
      generalize hpl : (B k).length = pl at *
      have HPL := Lib.hid hpl
      clear hpl
      have hltI : (k : Int) < (m : Int) + 1 := by omega
      go_upto_block 12 with (fail)
      go_cut [] from 188 to 234 (fun w1 => ∃ C : List Nat, C.Perm (B k) ∧ w1.ownsRow w.heap.size 3 1 (.slice pa pl pcap) pl (C.map (fun e => I64 e)) ∧ Fr (Value.slice pa pl pcap).ownBlock.toList wq w1)
      case first =>
        go_wp2_with fail
        go_loopw [190] (fun s190 wr1 => ∃ (j : Nat) (C : List Nat), j ≤ pl ∧ s190 = .int .i64 j ∧ C.Perm (B k) ∧ wr1.ownsRow w.heap.size 3 1 (.slice pa pl pcap) pl (C.map (fun e => I64 e)) ∧ Fr (Value.slice pa pl pcap).ownBlock.toList wq wr1) (fun s190 _ => pl - (intOf s190).toNat)
        case atStart => exact ⟨0, B' k, by omega, rfl, HPM.out, hbk, Fr.refl _ _⟩
        case round =>
          clear hbk
          obtain ⟨j, C, hj, rfl, hC, hoC, hfC⟩ := hrel
          obtain ⟨wp, hwp⟩ : ∃ x, x = wr := ⟨_, rfl⟩
          subst hwp
          by_cases hjl : j < pl
          · obtain rfl := HPA.out (by omega)
            go_wp2_with fail
            go_loopw [23] (fun s23 w1 => ∃ (i : Nat) (C : List Nat), i ≤ j ∧ s23 = .int .i64 i ∧ C.Perm (B k) ∧ w1.ownsRow w.heap.size 3 1 (.slice (some ⟨pb, 0, none⟩) pl pcap) pl (C.map (fun e => I64 e)) ∧ Fr (Value.slice (some ⟨pb, 0, none⟩) pl pcap).ownBlock.toList wq w1) (fun s23 _ => (intOf s23).toNat)
            case atStart => exact ⟨j, C, by omega, rfl, hC, hoC, hfC⟩
            case round =>
              clear hC hoC hfC
              obtain ⟨i, C, hi, rfl, hC, hoC, hfC⟩ := hrel
              by_cases h0 : 0 < i
              · obtain ⟨i, rfl⟩ : ∃ x, i = x + 1 := ⟨i - 1, by omega⟩
                have hCl : C.length = pl := by rw [hC.length_eq]; exact HPL.out
                have hSS := (HST.out.sorted hlt C hC (by rw [HBV.out, HPL.out]; exact hoC) (by rw [HBV.out]; exact hfC))
                have c1 := own_map_cell hoC (i + 1) (by omega)
                have c2 := own_map_cell hoC i (by omega)
                have z1 := own_frz hoC (i + 1)
                have z2 := own_frz hoC i
                have hm1 : C.getD (i + 1) 0 < m + 1 := (HP.out.mem k hlt _ (hC.mem_iff.1 (getD_mem C (i + 1) (by omega)))).2.1
                have hm2 : C.getD i 0 < m + 1 := (HP.out.mem k hlt _ (hC.mem_iff.1 (getD_mem C i (by omega)))).2.1
                have n1 : wr.cell? ⟨lb, C.getD (i + 1) 0 * 28, none⟩ = some (.string (nd' (C.getD (i + 1) 0)).name) := (hSS.row.cell hm1 (show 0 < 28 by omega)).trans rfl
                have n2 : wr.cell? ⟨lb, C.getD i 0 * 28, none⟩ = some (.string (nd' (C.getD i 0)).name) := (hSS.row.cell hm2 (show 0 < 28 by omega)).trans rfl
                have s1 : (nd' (C.getD (i + 1) 0)).name.size ≤ 10 := by rw [(HST.out.same _).name]; exact (HOK.out _ hm1).nm2
                have s2 : (nd' (C.getD i 0)).name.size ≤ 10 := by rw [(HST.out.same _).name]; exact (HOK.out _ hm2).nm2
                have hsp := swap_perm C i (by omega)
                have hos := own_map_set (own_map_set hoC (i + 1) (C.getD i 0) _ rfl) i (C.getD (i + 1) 0) _ rfl
                have hos2 := own_map_set (own_map_set hoC i (C.getD (i + 1) 0) _ rfl) (i + 1) (C.getD i 0) _ rfl
                have hcc : (C.set i (C.getD (i + 1) 0)).set (i + 1) (C.getD i 0) = (C.set (i + 1) (C.getD i 0)).set i (C.getD (i + 1) 0) := List.set_comm _ _ (by omega)
                rw [hcc] at hos2
                generalize (C.set (i + 1) (C.getD i 0)).set i (C.getD (i + 1) 0) = C2 at *
                have hC2 := hsp.trans hC
                have HC2 := Lib.hid hC2
                have HOS := Lib.hid hos
                have HOS2 := Lib.hid hos2
                generalize (nd' (C.getD (i + 1) 0)).name = nm1 at *
                generalize (nd' (C.getD i 0)).name = nm2 at *
                generalize C.getD (i + 1) 0 = e1 at *
                generalize C.getD i 0 = e2 at *
                have HOC := Lib.hid hoC
                have HFC := Lib.hid hfC
                have HC := Lib.hid hC
                clear hsp hC2 hos hos2 hcc hSS hCl hoC hC hfC
                have hiI : (0 : Int) < (i : Int) + 1 := by omega
                have hiI2 : (i : Int) + 1 < (pl : Int) := by omega
                have hiI3 : (i : Int) < (pl : Int) := by omega
                have hm1I : (e1 : Int) < (m : Int) + 1 := by omega
                have hm2I : (e2 : Int) < (m : Int) + 1 := by omega
                have hw1 : IntKind.i64.wrap ((i : Int) + 1 - 1) = (i : Int) := IntWalk.i64_in _ (by omega) |>.trans (by omega)
                have hd : decide ((0 : Int) < (i : Int) + 1) = true := decide_eq_true (by omega)
                go_upto_region 51 with (fail)
                go_quiet ((go_at_call 19; exact Calls.quiet_of_same (less_is _ _ _ (by omega) (by omega))))
                generalize lessB nm1 nm2 = bl at *
                cases bl
                · go_wp2_with fail
                  go_roundw
                  case rel => exact ⟨j + 1, C, by omega, by go_num, HC.out, HOC.out, HFC.out.drewN _⟩
                  case measure => simp [intOf]; omega
                · have hw2 : IntKind.i64.wrap ((i : Int) + 1 - 1) = (i : Int) := IntWalk.i64_in _ (by omega) |>.trans (by omega)
                  go_upto_region 53 with (fail)
                  go_region
                  all_goals
                    go_wp2_with fail
                    go_roundw
                    case rel => exact ⟨i, C2, by omega, by go_num, HC2.out, HOS.out, ((HFC.out.drewN _).setCell (.inl (by simp [Value.ownBlock])) _).setCell (.inl (by simp [Value.ownBlock])) _⟩
                    case measure => simp [intOf]
              · obtain rfl : i = 0 := by omega
                have hd : decide ((0 : Int) < 0) = false := by decide
                have HC := Lib.hid hC
                clear hC
                go_upto_region 51 with (fail)
                go_quiet (fail)
                go_wp2_with fail
                go_roundw
                case rel => exact ⟨j + 1, C, by omega, by go_num, HC.out, hoC, hfC.drewN _⟩
                case measure => simp [intOf]; omega
          · obtain rfl : j = pl := by omega
            go_wp2_with fail
            go_meet
            case rel => exact ⟨C, hC, hoC, hfC⟩
      case rest =>
      obtain ⟨C, hC, hoC, hfC⟩ := hcut
      have hCl : C.length = pl := by rw [hC.length_eq]; exact HPL.out
      have hfw : Fr [] w wc := hf.trans hfC (fun x hx => .inr (by have := (hoC.lt x (by simpa using hx)).1; omega))
      have hSS := HST.out.sorted hlt C hC (by rw [HBV.out, HPL.out]; exact hoC) (by rw [HBV.out]; exact hfC)
      obtain ⟨lx, hlx⟩ := hSS.row.lbk
      obtain ⟨pb', hpa', hpb', hps'⟩ : ∃ pb' : Nat, (0 < pl → pa = some ⟨pb', 0, none⟩) ∧ pb' ≠ lb ∧ ∀ i, i < pl → wc.cell? ⟨pb', 0 + i, none⟩ = some (I64 (C.getD i 0)) := by
        by_cases h0 : 0 < pl
        · obtain rfl := HPA.out h0
          refine ⟨pb, fun _ => rfl, fun h => ?_, fun i hi => by rw [Nat.zero_add]; exact own_map_cell hoC i hi⟩
          subst h
          exact own_ne hoC hlx (by decide) (by simp [Value.ownBlock])
        · exact ⟨lb + 1, fun h => absurd h h0, by omega, fun i hi => by omega⟩
      obtain ⟨nb', hna', hnb', hns'⟩ : ∃ nb' : Nat, (0 < nn → na = some ⟨nb', no, none⟩) ∧ nb' ≠ lb ∧ ∀ i, i < nn → wc.cell? ⟨nb', no + i, none⟩ = some (.int .u32 (num i : Nat)) := by
        by_cases h0 : 0 < nn
        · have h1 := World.block_lt_of_cell? _ _ (HNUMS.out 0 h0)
          exact ⟨nb, HNA.out, fun h => by subst h; simp at h1; omega, fun i hi => hfw.cell0 (HNUMS.out i hi)⟩
        · exact ⟨lb + 1, fun h => absurd h h0, by omega, fun i hi => by omega⟩
      have hP2 : P2 20 = 1048576 := by decide
      have hbig : (k + 2) * P2 20 ≤ 1000000000000 := by rw [hP2]; omega
      have hsh := shaped_any lb (m + 1) lcap nb' no nn ncap dv num na (by omega) ⟨hlc1, hlc2⟩ hnc HNUM.out hna' hnb' 20 C pb' 0 pcap k pa (k : Int) nd' wc (by omega) (by omega) hbig rfl (by rw [hCl]; exact hpa') (by omega) hpc2
        (by rw [hCl]; exact hps') (hC.nodup_iff.2 (HP.out.nodup k hlt)) (fun e he => (HP.out.mem k hlt e (hC.mem_iff.1 he)).2.1) hSS.row hpb' hns'
      rw [hCl] at hsh
      have HSH := Lib.hid hsh
      have HSS := Lib.hid hSS
      have HFW := Lib.hid hfw
      clear hsh hSS hfw hbig hP2 hns' hna' hps' hpa' hCl hoC hfC hlx hC ck
      go_wp2_with fail
      refine HSH.out.mono ?_
      rintro e1 w2 ⟨s, nd2, rfl, hs1, hf1, hr1, hx1, hy1, hz1⟩
      have cN : w2.cell? ⟨lb, k * 28 + 5, none⟩ = some (.int .i64 (nd2 k).child) := (hr1.cell hlt (by omega)).trans rfl
      have zN := hr1.frozen (k * 28 + 5)
      have hnext := HSS.out.shape HP.out hlt (by simpa using hs1) hf1 hr1 (fun e he => hx1 e (by simpa using he)) hy1 hz1
      have hfin := (HFW.out.trans1 hf1 hlb).setCell (p := ⟨lb, k * 28 + 5, none⟩) (.inr hlb) (.int .i64 s.top)
      have HN := Lib.hid hnext
      have HF := Lib.hid hfin
      clear hnext hfin hs1 hf1 hr1 hx1 hy1 hz1
      go_wp2_with fail
      go_roundw
      case rel => exact ⟨k + 1, _, _, _, by omega, by go_num, HF.out, HN.out⟩
      case measure => simp [intOf]; omega
    · obtain rfl : k = m + 1 := by omega
      have hdone := hst.done HP.out (by omega) (by omega) HOK.out HROOT.out hlb
      have HD := Lib.hid hdone
      clear hdone hst
      go_wp2_with fail
      go_ret
      exact ⟨lb, m + 1, lcap, nd', dv, _, rfl, hlc1, hlc2, hf, HD.out⟩
end Go.Proofs.YtokpomdfgbbhlaaDoor

/- The parts of spec.Write's code. -/
namespace Go.Proofs.YtokpomdfgbbhlaaDoor
open Go Go.RowKit

/-- The code from region n on. -/
def dropTo (n : Nat) : Code → Option Code
  | .seq a b => match dropTo n a with
    | some a' => some (.seq a' b)
    | none => dropTo n b
  | .region id ops f => if id = n then some (.region id ops f) else none
  | _ => none
noncomputable def rest57 : Code := (Tryd.f10.body.bind (dropTo 57)).getD .skip

noncomputable def rest76 : Code := (Tryd.f10.body.bind (dropTo 76)).getD .skip
noncomputable def rest86 : Code := (Tryd.f10.body.bind (dropTo 86)).getD .skip
noncomputable def rest93 : Code := (Tryd.f10.body.bind (dropTo 93)).getD .skip
noncomputable def rest104 : Code := (Tryd.f10.body.bind (dropTo 104)).getD .skip
noncomputable def rest143 : Code := (Tryd.f10.body.bind (dropTo 143)).getD .skip

/-- What Write answers. -/
def WPost (L : Lay) (w0 : World) (e : Ending) (w' : World) : Prop :=
  ∃ (b : Nat) (F : Nat → UInt8) (fat mfat : Nat → Nat) (W : Nat → UInt8), e = .returned (.slice (some ⟨b, 0, none⟩) L.bytes L.bytes) ∧ Fr [] w0 w' ∧ w0.heap.size ≤ b ∧ Bts w' b L.bytes F ∧ Wrote L F fat mfat W
end Go.Proofs.YtokpomdfgbbhlaaDoor

/- The map of two sizes that Write makes: its equations. -/
namespace Go.Proofs.YtokpomdfgbbhlaaDoor
open Go Go.RowKit Go.Maps

/-- The first fields of the header. -/
def hA6 (L : Lay) : Nat → UInt8 := upd (upd (upd (upd (upd (cpy (fun _ => 0) 0 8 sigB) 24 2 62) 26 2 L.ver) 28 2 65534) 30 2 (if L.four = true then 12 else 9)) 32 2 6
def hA7 (L : Lay) : Nat → UInt8 := if L.four = true then upd (hA6 L) 40 4 (L.cnt 0) else hA6 L

theorem start_lt (L : Lay) (hL : LayOK L) (c : Nat) : L.start c < 4294967296 := by
  unfold Lay.start
  split
  · omega
  · have := hL.pl_lt (L.base c)
    have := hL.sum_le
    have := hL.fats_ok.2.2
    unfold Lay.tot at *
    omega

theorem u64w (x : Nat) (h : x < 18446744073709551616) : IntKind.u64.wrap (x : Int) = x := by
  unfold IntKind.wrap
  simp [IntKind.bits, IntKind.signed]
  omega
theorem u64w4 (x : Nat) (h : x < 4294967296) : IntKind.u64.wrap (x : Int) = x := u64w x (by omega)

theorem int_keyed3 : Keyed Tryd.prog 3 := int_keyed Tryd.underlying3
theorem int_key (k : Nat) (h : k ≤ 10000) : keyOf Tryd.prog 3 (.int .i64 k) = some (.int .i64 k) := keyOf_int_mk Tryd.underlying3 (WalkArith.wf_i64 (by omega))

def mE1 : MapEntry := { key := .int .i64 512, val := .int .u64 9, born := 0 }
def mE2 : MapEntry := { key := .int .i64 4096, val := .int .u64 12, born := 1 }

theorem find_nil (w : World) (k : Value) : (Instr.findKey 3 k []).run Tryd.prog w = .ok none w := by kernel_rfl
theorem find_12 (w : World) : (Instr.findKey 3 (.int .i64 4096) [mE1]).run Tryd.prog w = .ok none w := by kernel_rfl
theorem find_a (w : World) : (Instr.findKey 3 (.int .i64 512) [mE1, mE2]).run Tryd.prog w = .ok (some (0, .int .u64 9)) w := by kernel_rfl
theorem find_b (w : World) : (Instr.findKey 3 (.int .i64 4096) [mE1, mE2]).run Tryd.prog w = .ok (some (1, .int .u64 12)) w := by kernel_rfl

theorem alloc_set (w : World) (o o' : Obj) : ({ w.alloc o with heap := (w.alloc o).heap.setIfInBounds w.heap.size o' } : World) = w.alloc o' := by
  have h : (w.heap.push o).setIfInBounds w.heap.size o' = w.heap.push o' := by
    apply Array.ext'
    simp
  show ({ w with heap := (w.heap.push o).setIfInBounds w.heap.size o' } : World) = { w with heap := w.heap.push o' }
  rw [h]
theorem key512 : keyOf Tryd.prog 3 (.int .i64 512) = some (.int .i64 512) := int_key 512 (by omega)
theorem key4096 : keyOf Tryd.prog 3 (.int .i64 4096) = some (.int .i64 4096) := int_key 4096 (by omega)

theorem ins1 (w : World) : (Instr.mapUpdate 79 (.map (some w.heap.size)) (.int .i64 512) (.int .u64 9)).run Tryd.prog (w.alloc (.map #[] 0)) = .ok () (w.alloc (.map #[mE1] 1)) := by
  have hf := find_nil (w.alloc (.map #[] 0)) (.int .i64 512)
  have hc := int_keyed3.check (w.alloc (.map #[] 0)) false key512
  have h1 : (w.alloc (.map #[] 0)).heap[w.heap.size]? = some (.map #[] 0) := heap_alloc_new w _
  have hs := alloc_set w (.map #[] 0) (.map #[mE1] 1)
  generalize w.alloc (.map #[] 0) = w1 at *
  generalize w.heap.size = b at *
  generalize w.alloc (.map #[mE1] 1) = w2 at *
  simp [Instr.mapUpdate, run_underlying Tryd.underlying79, getObj, setObj, Sem.run, h1, hf, hc]
  exact hs
theorem ins2 (w : World) : (Instr.mapUpdate 79 (.map (some w.heap.size)) (.int .i64 4096) (.int .u64 12)).run Tryd.prog (w.alloc (.map #[mE1] 1)) = .ok () (w.alloc (.map #[mE1, mE2] 2)) := by
  have hf := find_12 (w.alloc (.map #[mE1] 1))
  have hc := int_keyed3.check (w.alloc (.map #[mE1] 1)) false key4096
  have h1 : (w.alloc (.map #[mE1] 1)).heap[w.heap.size]? = some (.map #[mE1] 1) := heap_alloc_new w _
  have hs := alloc_set w (.map #[mE1] 1) (.map #[mE1, mE2] 2)
  generalize w.alloc (.map #[mE1] 1) = w1 at *
  generalize w.heap.size = b at *
  generalize w.alloc (.map #[mE1, mE2] 2) = w2 at *
  simp [Instr.mapUpdate, run_underlying Tryd.underlying79, getObj, setObj, Sem.run, h1, hf, hc]
  exact hs
theorem look_a (w : World) (b : Nat) (hb : b = w.heap.size) : (Instr.lookup 79 (.map (some b)) (.int .i64 512) false).run Tryd.prog (w.alloc (.map #[mE1, mE2] 2)) = .ok (.int .u64 9) (w.alloc (.map #[mE1, mE2] 2)) := by
  subst hb
  have hf := find_a (w.alloc (.map #[mE1, mE2] 2))
  have hc := int_keyed3.check (w.alloc (.map #[mE1, mE2] 2)) false key512
  have h1 : (w.alloc (.map #[mE1, mE2] 2)).heap[w.heap.size]? = some (.map #[mE1, mE2] 2) := heap_alloc_new w _
  generalize w.alloc (.map #[mE1, mE2] 2) = w2 at *
  simp [Instr.lookup, run_underlying Tryd.underlying79, getObj, Sem.run, h1, hf, hc]
theorem look_b (w : World) (b : Nat) (hb : b = w.heap.size) : (Instr.lookup 79 (.map (some b)) (.int .i64 4096) false).run Tryd.prog (w.alloc (.map #[mE1, mE2] 2)) = .ok (.int .u64 12) (w.alloc (.map #[mE1, mE2] 2)) := by
  subst hb
  have hf := find_b (w.alloc (.map #[mE1, mE2] 2))
  have hc := int_keyed3.check (w.alloc (.map #[mE1, mE2] 2)) false key4096
  have h1 : (w.alloc (.map #[mE1, mE2] 2)).heap[w.heap.size]? = some (.map #[mE1, mE2] 2) := heap_alloc_new w _
  generalize w.alloc (.map #[mE1, mE2] 2) = w2 at *
  simp [Instr.lookup, run_underlying Tryd.underlying79, getObj, Sem.run, h1, hf, hc]
end Go.Proofs.YtokpomdfgbbhlaaDoor

/- The tables' sectors, filled one by one. No program here but the parts of Write. -/
namespace Go.Proofs.YtokpomdfgbbhlaaDoor
open Go Go.RowKit

/-- The bytes when j numbers of a table are laid at a. -/
def sectF (f : Nat → UInt8) (a : Nat) (T : Nat → Nat) (o : Nat) : Nat → Nat → UInt8
  | 0 => f
  | j + 1 => upd (sectF f a T o j) (a + 4 * j) 4 (T (o + j))
/-- The bytes when k sectors of tables are laid. -/
def tabF (L : Lay) (fat : Nat → Nat) (f : Nat → UInt8) : Nat → Nat → UInt8
  | 0 => f
  | k + 1 => sectF (upd (tabF L fat f k) (76 + 4 * k) 4 (L.pl k)) (L.sec k) fat (k * L.per) L.per

theorem sectF_in (f : Nat → UInt8) (a : Nat) (T : Nat → Nat) (o n x : Nat) (h : x < 4 * n) : sectF f a T o n (a + x) = byteN (T (o + x / 4)) (x % 4) := by
  induction n with
  | zero => omega
  | succ n ih =>
    rw [sectF]
    by_cases hx : x < 4 * n
    · rw [upd_out _ _ _ _ _ (by omega)]
      exact ih hx
    · have e : a + x = a + 4 * n + (x - 4 * n) := by omega
      rw [e, upd_in _ _ _ _ _ (by omega)]
      have e1 : x / 4 = n := by omega
      have e2 : x % 4 = x - 4 * n := by omega
      rw [e1, e2]
theorem sectF_out (f : Nat → UInt8) (a : Nat) (T : Nat → Nat) (o n x : Nat) (h : x < a ∨ a + 4 * n ≤ x) : sectF f a T o n x = f x := by
  induction n with
  | zero => rfl
  | succ n ih => rw [sectF, upd_out _ _ _ _ _ (by omega), ih (by omega)]

theorem Lay.sec_ge (L : Lay) (k : Nat) : L.sz ≤ L.sec k := by
  unfold Lay.sec
  have := Nat.mul_le_mul_left L.sz (show 1 ≤ 1 + L.pl k by omega)
  omega
/-- Sectors at other places lie apart. -/
theorem sec_apart (L : Lay) {a b : Nat} (h : L.pl a ≠ L.pl b) : L.sec a + L.sz ≤ L.sec b ∨ L.sec b + L.sz ≤ L.sec a := by
  unfold Lay.sec
  rcases Nat.lt_or_gt_of_ne h with h1 | h1
  · left
    have := Nat.mul_le_mul_left L.sz (show 1 + L.pl a + 1 ≤ 1 + L.pl b by omega)
    rw [Nat.mul_add L.sz (1 + L.pl a) 1] at this
    omega
  · right
    have := Nat.mul_le_mul_left L.sz (show 1 + L.pl b + 1 ≤ 1 + L.pl a by omega)
    rw [Nat.mul_add L.sz (1 + L.pl b) 1] at this
    omega

/-- What the tables leave: the header, the tables' sectors, and all else as it was. -/
structure TabsOK (L : Lay) (fat : Nat → Nat) (F : Nat → UInt8) : Prop where
  hdr : ∀ x, x < L.sz → F x = hdrB L x
  tab : ∀ k x, k < L.fats → x < L.sz → F (L.sec k + x) = byteN (fat (k * L.per + x / 4)) (x % 4)
  rest : ∀ k x, L.fats ≤ k → k < L.tot → x < L.sz → F (L.sec k + x) = 0

theorem tabF_ok (L : Lay) (hL : LayOK L) (fat : Nat → Nat) : TabsOK L fat (tabF L fat (difat0 (hdrA L) 109) L.fats) := by
  have hinj : ∀ a b, a < L.tot → b < L.tot → L.pl a = L.pl b → a = b := fun a b ha hb h => mixP_inj _ _ ha hb h
  have hsz : L.sz = 4 * L.per ∧ 512 ≤ L.sz := by rcases L.per_or with ⟨a, h⟩ | ⟨a, h⟩ <;> omega
  obtain ⟨hz1, hz2⟩ := hsz
  obtain ⟨hft1, hft2, hft3⟩ := hL.fats_ok
  have htot : L.fats ≤ L.tot := by unfold Lay.tot; omega
  have key : ∀ k, k ≤ L.fats → (∀ x, x < L.sz → tabF L fat (difat0 (hdrA L) 109) k x = difat1 (difat0 (hdrA L) 109) L.pl k x) ∧
      (∀ j x, j < k → x < L.sz → tabF L fat (difat0 (hdrA L) 109) k (L.sec j + x) = byteN (fat (j * L.per + x / 4)) (x % 4)) ∧
      (∀ j x, k ≤ j → j < L.tot → x < L.sz → tabF L fat (difat0 (hdrA L) 109) k (L.sec j + x) = difat0 (hdrA L) 109 (L.sec j + x)) := by
    intro k
    induction k with
    | zero => intro _; exact ⟨fun x _ => rfl, fun j x h _ => by omega, fun j x _ _ _ => rfl⟩
    | succ k ih =>
      intro hk
      obtain ⟨i1, i2, i3⟩ := ih (by omega)
      have hge := L.sec_ge k
      refine ⟨?_, ?_, ?_⟩
      · intro x hx
        rw [tabF, sectF_out _ _ _ _ _ _ (by omega), difat1]
        unfold upd
        by_cases h : 76 + 4 * k ≤ x ∧ x < 76 + 4 * k + 4
        · rw [if_pos h, if_pos h]
        · rw [if_neg h, if_neg h]; exact i1 x hx
      · intro j x hj hx
        rw [tabF]
        by_cases hjk : j = k
        · subst hjk
          exact sectF_in _ _ _ _ _ _ (by omega)
        · have hap := sec_apart L (a := j) (b := k) (fun e => hjk (hinj _ _ (by omega) (by omega) e))
          have hgj := L.sec_ge j
          rw [sectF_out _ _ _ _ _ _ (by omega), upd_out _ _ _ _ _ (by omega)]
          exact i2 j x (by omega) hx
      · intro j x hj hjt hx
        rw [tabF]
        have hap := sec_apart L (a := j) (b := k) (fun e => by have := hinj _ _ hjt (by omega) e; omega)
        have hgj := L.sec_ge j
        rw [sectF_out _ _ _ _ _ _ (by omega), upd_out _ _ _ _ _ (by omega)]
        exact i3 j x (by omega) hjt hx
  obtain ⟨h1, h2, h3⟩ := key L.fats (Nat.le_refl _)
  refine ⟨h1, h2, ?_⟩
  intro k x hk hkt hx
  have hge := L.sec_ge k
  rw [h3 k x hk hkt hx, difat0_out _ _ _ (by omega)]
  unfold hdrA
  have hc : ∀ (f : Nat → UInt8) (a m v y : Nat), a + m ≤ 76 → 512 ≤ y → upd f a m v y = f y := fun f a m v y h1 h2 => upd_out _ _ _ _ _ (by omega)
  show upd (upd (upd (upd (upd (upd _ _ _ _) _ _ _) _ _ _) _ _ _) _ _ _) _ _ _ _ = _
  rw [hc _ _ _ _ _ (by omega) (by omega), hc _ _ _ _ _ (by omega) (by omega), hc _ _ _ _ _ (by omega) (by omega), hc _ _ _ _ _ (by omega) (by omega), hc _ _ _ _ _ (by omega) (by omega), hc _ _ _ _ _ (by omega) (by omega)]
  split
  · rw [hc _ _ _ _ _ (by omega) (by omega), hc _ _ _ _ _ (by omega) (by omega), hc _ _ _ _ _ (by omega) (by omega), hc _ _ _ _ _ (by omega) (by omega), hc _ _ _ _ _ (by omega) (by omega), hc _ _ _ _ _ (by omega) (by omega), cpy_out _ _ _ _ _ (by omega)]
  · rw [hc _ _ _ _ _ (by omega) (by omega), hc _ _ _ _ _ (by omega) (by omega), hc _ _ _ _ _ (by omega) (by omega), hc _ _ _ _ _ (by omega) (by omega), hc _ _ _ _ _ (by omega) (by omega), cpy_out _ _ _ _ _ (by omega)]
end Go.Proofs.YtokpomdfgbbhlaaDoor

/- A chain's sectors filled: the image of the file. fill over a chain of the layout. -/
namespace Go.Proofs.YtokpomdfgbbhlaaDoor
open Go Go.RowKit

/-- The file's image: the header, and what each sector holds. -/
structure Img (L : Lay) (F : Nat → UInt8) (C : Nat → Nat → UInt8) : Prop where
  hdr : ∀ x, x < L.sz → F x = hdrB L x
  sec : ∀ k x, k < L.tot → x < L.sz → F (L.sec k + x) = C k x

/-- What the sectors hold when a chain from b on is filled with len bytes. -/
def fillC (C : Nat → Nat → UInt8) (sz b len : Nat) (g : Nat → UInt8) (k x : Nat) : UInt8 :=
  if b ≤ k ∧ (k - b) * sz + x < len then g ((k - b) * sz + x) else C k x

theorem TabsOK.img {L : Lay} {fat : Nat → Nat} {F : Nat → UInt8} (h : TabsOK L fat F) : Img L F (fun k x => if k < L.fats then byteN (fat (k * L.per + x / 4)) (x % 4) else 0) where
  hdr := h.hdr
  sec := fun k x hk hx => by
    show _ = if k < L.fats then _ else _
    by_cases hf : k < L.fats
    · rw [if_pos hf]; exact h.tab k x hf hx
    · rw [if_neg hf]; exact h.rest k x (by omega) hk hx

theorem Img.fill {L : Lay} {F : Nat → UInt8} {C : Nat → Nat → UInt8} (h : Img L F C) (b len : Nat) (g : Nat → UInt8) (hb : b + partsN len L.sz ≤ L.tot) :
    Img L (fillF F L.sz len (fun i => L.pl (b + i)) g (partsN len L.sz)) (fillC C L.sz b len g) := by
  have hinj : ∀ a b, a < L.tot → b < L.tot → L.pl a = L.pl b → a = b := fun a b ha hb h => mixP_inj _ _ ha hb h
  have hsz : 512 ≤ L.sz := by rcases L.sz_or with ⟨a, _⟩ | ⟨a, _⟩ <;> omega
  have key : ∀ m, m ≤ partsN len L.sz → (∀ x, x < L.sz → fillF F L.sz len (fun i => L.pl (b + i)) g m x = F x) ∧
      (∀ k x, k < L.tot → x < L.sz → fillF F L.sz len (fun i => L.pl (b + i)) g m (L.sec k + x) = if b ≤ k ∧ k < b + m ∧ (k - b) * L.sz + x < len then g ((k - b) * L.sz + x) else F (L.sec k + x)) := by
    intro m
    induction m with
    | zero => intro _; exact ⟨fun x _ => rfl, fun k x _ _ => by rw [if_neg (by omega)]; rfl⟩
    | succ m ih =>
      intro hm
      obtain ⟨i1, i2⟩ := ih (by omega)
      have hge : L.sz ≤ L.sz * (1 + L.pl (b + m)) := L.sec_ge (b + m)
      have hse : L.sz * (1 + L.pl (b + m)) = L.sec (b + m) := rfl
      refine ⟨?_, ?_⟩
      · intro x hx
        rw [fillF, cpy_out _ _ _ _ _ (by omega)]
        exact i1 x hx
      · intro k x hk hx
        rw [fillF]
        by_cases hkm : k = b + m
        · subst hkm
          have e : b + m - b = m := by omega
          rw [e]
          by_cases hl : m * L.sz + x < len
          · rw [if_pos ⟨by omega, by omega, hl⟩, ← hse, cpy_in _ _ _ _ _ (by omega)]
          · rw [if_neg (by omega), ← hse, cpy_out _ _ _ _ _ (by omega), hse, i2 _ x hk hx, if_neg (by omega)]
        · have hap := sec_apart L (a := k) (b := b + m) (fun e => hkm (hinj _ _ hk (by omega) e))
          rw [cpy_out _ _ _ _ _ (by rw [hse]; omega), i2 k x hk hx]
          by_cases hc : b ≤ k ∧ k < b + m ∧ (k - b) * L.sz + x < len
          · rw [if_pos hc, if_pos ⟨hc.1, by omega, hc.2.2⟩]
          · rw [if_neg hc, if_neg (by omega)]
  obtain ⟨h1, h2⟩ := key _ (Nat.le_refl _)
  refine ⟨fun x hx => (h1 x hx).trans (h.hdr x hx), fun k x hk hx => ?_⟩
  rw [h2 k x hk hx]
  unfold fillC
  by_cases hc : b ≤ k ∧ (k - b) * L.sz + x < len
  · have hkm : k < b + partsN len L.sz := by
      rcases Nat.lt_or_ge k (b + partsN len L.sz) with h3 | h3
      · exact h3
      · exfalso
        have h4 := le_partsN len L.sz (by omega)
        have h5 := Nat.mul_le_mul_right L.sz (show partsN len L.sz ≤ k - b by omega)
        omega
    rw [if_pos ⟨hc.1, hkm, hc.2⟩, if_pos hc]
  · rw [if_neg (by omega), if_neg hc]
    exact h.sec k x hk hx

theorem Img.congr {L : Lay} {F : Nat → UInt8} {C C' : Nat → Nat → UInt8} (h : Img L F C) (hc : ∀ k x, k < L.tot → x < L.sz → C k x = C' k x) : Img L F C' where
  hdr := h.hdr
  sec := fun k x hk hx => (h.sec k x hk hx).trans (hc k x hk hx)

theorem base_cnt (L : Lay) (c : Nat) (hc : c < 3 + L.N) : L.base c + L.cnt c ≤ L.tot := by
  have := sumN_mono L.cnt (show c + 1 ≤ 3 + L.N by omega)
  rw [sumN] at this
  unfold Lay.base Lay.tot Lay.sum
  omega

/-- The directory's bytes when k entries are marked as not used. -/
def freeD : Nat → Nat → UInt8
  | 0 => fun _ => 0
  | k + 1 => sectF (freeD k) (128 * k + 68) (fun _ => 4294967295) 0 3
theorem freeD_ok (k : Nat) : (∀ y, y < 128 * k → freeD k y = freeE (y % 128)) ∧ ∀ y, 128 * k ≤ y → freeD k y = 0 := by
  induction k with
  | zero => exact ⟨fun y h => by omega, fun y _ => rfl⟩
  | succ k ih =>
    obtain ⟨i1, i2⟩ := ih
    have hs : ∀ y, freeD (k + 1) y = upd (upd (upd (freeD k) (128 * k + 68) 4 4294967295) (128 * k + 72) 4 4294967295) (128 * k + 76) 4 4294967295 y := fun y => rfl
    refine ⟨?_, ?_⟩
    · intro y hy
      rw [hs]
      by_cases h : y < 128 * k
      · rw [upd_out _ _ _ _ _ (by omega), upd_out _ _ _ _ _ (by omega), upd_out _ _ _ _ _ (by omega)]
        exact i1 y h
      · have e : y % 128 = y - 128 * k := by omega
        rw [e]
        have h76 : (76 ≤ y - 128 * k ∧ y - 128 * k < 76 + 4) = (128 * k + 76 ≤ y ∧ y < 128 * k + 76 + 4) := propext (by omega)
        have h72 : (72 ≤ y - 128 * k ∧ y - 128 * k < 72 + 4) = (128 * k + 72 ≤ y ∧ y < 128 * k + 72 + 4) := propext (by omega)
        have h68 : (68 ≤ y - 128 * k ∧ y - 128 * k < 68 + 4) = (128 * k + 68 ≤ y ∧ y < 128 * k + 68 + 4) := propext (by omega)
        unfold freeE upd
        simp only [h76, h72, h68, Nat.sub_sub, i2 y (show 128 * k ≤ y by omega)]
    · intro y hy
      rw [hs, upd_out _ _ _ _ _ (by omega), upd_out _ _ _ _ _ (by omega), upd_out _ _ _ _ _ (by omega)]
      exact i2 y (by omega)

/-- fill over chain c. -/
theorem fill_chain {L : Lay} {lb lcap zb xb fb fn mb mn pb pc b19 c19 b29 c29 b33 c33 ob outb fnb : Nat} {dv : Nat → Value} {fat mfat : Nat → Nat} {w0 w : World} {F : Nat → UInt8}
    (E : WEnv L w0 lb lcap fn mn pc c19 c29 c33 outb dv fat mfat) (hT : WTab w L zb xb fb fn mb mn pb b19 b29 b33 fat mfat) (hO : WOut w L zb xb ob outb fnb F)
    (c len cap bb bo : Nat) (ba : Option Addr) (g : Nat → UInt8) (hc : c < 3 + L.N) (hp : partsN len L.sz = L.cnt c) (hlen : len ≤ cap ∧ cap ≤ 9223372036854775807)
    (hba : 0 < len → ba = some ⟨bb, bo, none⟩) (hb : ∀ i, i < len → w.cell? ⟨bb, bo + i, none⟩ = some (U8 (g i))) (hne : bb ≠ outb) :
    Calls Tryd.prog 25 #[.int .i64 (L.start c), .slice ba len cap, .pointer (some ⟨xb, 0, none⟩), .pointer (some ⟨fnb, 0, none⟩)] w fun e w' => e = .returned (.tuple #[]) ∧ Fr [outb] w w' ∧
      Bts w' outb L.bytes (fillF F L.sz len (fun i => L.pl (L.base c + i)) g (partsN len L.sz)) := by
  have hL := E.hL
  have hsz : L.sz = 512 ∨ L.sz = 4096 := by rcases L.sz_or with ⟨a, _⟩ | ⟨a, _⟩ <;> omega
  have hb606 : L.tot ≤ 606 := by have := hL.sum_le; have := hL.fats_ok.2.2; unfold Lay.tot; omega
  have hfn : L.tot ≤ fn := by rw [E.fn_]; exact hL.fats_ok.1
  have hst : L.start c < 4294967296 := by
    unfold Lay.start
    split
    · omega
    · have := hL.pl_lt (L.base c); omega
  refine fill_any (L.start c) fb xb fn fn fnb ob zb outb L.bytes L.sz len cap bb bo (partsN len L.sz) fat (fun i => L.pl (L.base c + i)) F g ba w (hO.ob_.cell 0) (hT.z.cell 0) (hO.fnb_.cell 0) (hT.x.cell 0) hT.ft hO.out ?_ hsz rfl ?_ ?_ ?_ ?_ (fun p _ => E.fl p) hst hlen hba hb
  · exact ⟨blk_ne hO.ob_ hO.out (by decide), blk_ne hT.z hO.out (by decide), blk_ne hO.fnb_ hO.out (by decide), blk_ne hT.x hO.out (by decide), hne⟩
  · intro h0
    have h1 := partsN_pos (n := len) (size := L.sz) (by omega) h0
    unfold Lay.start
    rw [if_neg (by omega)]; rfl
  · intro k hk
    rw [hp] at hk
    have := E.fo.chain c k hc (by omega)
    rw [this, if_neg (by omega)]; rfl
  · intro k hk
    rw [hp] at hk
    have h1 := hL.pl_lt (L.base c + k)
    refine ⟨by omega, by omega, ?_⟩
    have h2 := Nat.mul_le_mul_left L.sz (show 1 + L.pl (L.base c + k) + 1 ≤ 1 + L.tot by omega)
    rw [Nat.mul_add L.sz _ 1] at h2
    unfold Lay.bytes
    show L.sz * (1 + L.pl (L.base c + k)) + L.sz ≤ _
    omega
  · have := hL.bytes_le; omega
end Go.Proofs.YtokpomdfgbbhlaaDoor

/- An entry within the directory; the ministream and the image behind k nodes. No program here but the parts of Write. -/
namespace Go.Proofs.YtokpomdfgbbhlaaDoor
open Go Go.RowKit

/-- The directory D with entry k replaced. -/
def at128 (D : Nat → UInt8) (k : Nat) (e : Nat → UInt8) (y : Nat) : UInt8 := if 128 * k ≤ y ∧ y < 128 * k + 128 then e (y - 128 * k) else D y

theorem at128_upd (D : Nat → UInt8) (k : Nat) (e : Nat → UInt8) (a m v : Nat) (h : a + m ≤ 128) : upd (at128 D k e) (128 * k + a) m v = at128 D k (upd e a m v) := by
  funext y
  unfold at128 upd
  by_cases h1 : 128 * k + a ≤ y ∧ y < 128 * k + a + m
  · rw [if_pos h1, if_pos (by omega), if_pos (by omega)]
    congr 1; omega
  · rw [if_neg h1]
    dsimp only
    by_cases h2 : 128 * k ≤ y ∧ y < 128 * k + 128
    · rw [if_pos h2, if_pos h2, if_neg (by omega)]
    · rw [if_neg h2, if_neg h2]
theorem at128_cpy (D : Nat → UInt8) (k : Nat) (e : Nat → UInt8) (a m : Nat) (g : Nat → UInt8) (h : a + m ≤ 128) : cpy (at128 D k e) (128 * k + a) m g = at128 D k (cpy e a m g) := by
  funext y
  unfold at128 cpy
  by_cases h1 : 128 * k + a ≤ y ∧ y < 128 * k + a + m
  · rw [if_pos h1, if_pos (by omega), if_pos (by omega)]
    congr 1; omega
  · rw [if_neg h1]
    dsimp only
    by_cases h2 : 128 * k ≤ y ∧ y < 128 * k + 128
    · rw [if_pos h2, if_pos h2, if_neg (by omega)]
    · rw [if_neg h2, if_neg h2]

/-- The directory's bytes when k entries are laid. -/
def dirK (L : Lay) (k y : Nat) : UInt8 := if y / 128 < k then L.entF (y / 128) (y % 128) else freeE (y % 128)
theorem dirK_open (L : Lay) (k y : Nat) : dirK L k y = at128 (dirK L k) k freeE y := by
  unfold at128
  by_cases h : 128 * k ≤ y ∧ y < 128 * k + 128
  · rw [if_pos h]
    unfold dirK
    rw [if_neg (by omega)]
    congr 1; omega
  · rw [if_neg h]
theorem dirK_shut (L : Lay) (k y : Nat) : at128 (dirK L k) k (L.entF k) y = dirK L (k + 1) y := by
  unfold at128
  by_cases h : 128 * k ≤ y ∧ y < 128 * k + 128
  · rw [if_pos h]
    unfold dirK
    have e : y / 128 = k := by omega
    rw [if_pos (by omega), e]
    congr 1; omega
  · rw [if_neg h]
    unfold dirK
    by_cases h2 : y / 128 < k
    · rw [if_pos h2, if_pos (by omega)]
    · rw [if_neg h2, if_neg (by omega)]

/-- The sectors behind the tables and the ministream's table. -/
def C1 (L : Lay) (fat mfat : Nat → Nat) (mn : Nat) : Nat → Nat → UInt8 :=
  fillC (fun k x => if k < L.fats then byteN (fat (k * L.per + x / 4)) (x % 4) else 0) L.sz (L.base 1) (4 * mn) (sectF (fun _ => 0) 0 mfat 0 mn)
/-- And behind the first k nodes. -/
def C2 (L : Lay) (fat mfat : Nat → Nat) (mn : Nat) : Nat → Nat → Nat → UInt8
  | 0 => C1 L fat mfat mn
  | k + 1 => if (L.nd k).stream = true ∧ ¬ (L.nd k).len < 4096 then fillC (C2 L fat mfat mn k) L.sz (L.base (3 + k)) (L.nd k).len (L.nd k).dat else C2 L fat mfat mn k

/-- The ministream when the first k nodes are laid. -/
structure WholeK (L : Lay) (k : Nat) (W : Nat → UInt8) : Prop where
  done : ∀ j i x, j < k → j < L.N → i < L.small j → x < 64 → W (64 * L.mpl (L.mbase j + i) + x) = if 64 * i + x < (L.nd j).len then (L.nd j).dat (64 * i + x) else 0
  todo : ∀ j i x, k ≤ j → j < L.N → i < L.small j → x < 64 → W (64 * L.mpl (L.mbase j + i) + x) = 0

/-- The ministream when i parts of node k are laid. -/
def miniF (L : Lay) (k : Nat) (W : Nat → UInt8) : Nat → Nat → UInt8
  | 0 => W
  | i + 1 => cpy (miniF L k W i) (64 * L.mpl (L.mbase k + i)) (min ((L.nd k).len - 64 * i) 64) (fun x => (L.nd k).dat (64 * i + x))

theorem mbase_lt (L : Lay) {k i : Nat} (hk : k < L.N) (hi : i < L.small k) : L.mbase k + i < L.minis := by
  have := sumN_mono L.small (show k + 1 ≤ L.N by omega)
  rw [sumN] at this
  unfold Lay.mbase Lay.minis
  omega
theorem mpl_inj (L : Lay) {a b : Nat} (ha : a < L.minis) (hb : b < L.minis) (h : L.mpl a = L.mpl b) : a = b := mixP_inj _ _ ha hb h

theorem miniF_out (L : Lay) (k : Nat) (W : Nat → UInt8) (m y : Nat) (h : ∀ i, i < m → y < 64 * L.mpl (L.mbase k + i) ∨ 64 * L.mpl (L.mbase k + i) + 64 ≤ y) : miniF L k W m y = W y := by
  induction m with
  | zero => rfl
  | succ m ih =>
    rw [miniF, cpy_out _ _ _ _ _ (by have := h m (by omega); omega)]
    exact ih (fun i hi => h i (by omega))
theorem miniF_in (L : Lay) (k : Nat) (hk : k < L.N) (W : Nat → UInt8) (m : Nat) (hm : m ≤ L.small k) (hW : ∀ i x, i < L.small k → x < 64 → W (64 * L.mpl (L.mbase k + i) + x) = 0) (i x : Nat) (hi : i < m) (hx : x < 64) :
    miniF L k W m (64 * L.mpl (L.mbase k + i) + x) = if 64 * i + x < (L.nd k).len then (L.nd k).dat (64 * i + x) else 0 := by
  induction m with
  | zero => omega
  | succ m ih =>
    rw [miniF]
    have apart : ∀ a b, a < L.small k → b < L.small k → a ≠ b → L.mpl (L.mbase k + a) ≠ L.mpl (L.mbase k + b) := by
      intro a b ha hb hab e
      have := mpl_inj L (mbase_lt L hk ha) (mbase_lt L hk hb) e
      omega
    by_cases him : i = m
    · subst him
      by_cases hl : 64 * i + x < (L.nd k).len
      · rw [if_pos hl, cpy_in _ _ _ _ _ (by omega)]
      · rw [if_neg hl, cpy_out _ _ _ _ _ (by omega), miniF_out L k W i _ (fun a ha => by have := apart a i (by omega) (by omega) (by omega); omega)]
        exact hW i x (by omega) hx
    · have := apart i m (by omega) (by omega) him
      rw [cpy_out _ _ _ _ _ (by omega)]
      exact ih (by omega) (by omega)

theorem WholeK.next {L : Lay} {k : Nat} {W : Nat → UInt8} (h : WholeK L k W) (hk : k < L.N) : WholeK L (k + 1) (miniF L k W (L.small k)) := by
  have hin := miniF_in L k hk W (L.small k) (Nat.le_refl _) (fun i x hi hx => h.todo k i x (Nat.le_refl _) hk hi hx)
  have hout : ∀ j i x, j ≠ k → j < L.N → i < L.small j → x < 64 → miniF L k W (L.small k) (64 * L.mpl (L.mbase j + i) + x) = W (64 * L.mpl (L.mbase j + i) + x) := by
    intro j i x hj hjN hi hx
    refine miniF_out L k W _ _ (fun a ha => ?_)
    have h1 : L.mpl (L.mbase j + i) ≠ L.mpl (L.mbase k + a) := by
      intro e
      have h2 := mpl_inj L (mbase_lt L hjN hi) (mbase_lt L hk ha) e
      exact hj (sumN_uniq L.small j k i a hi ha h2).1
    omega
  constructor
  · intro j i x hj hjN hi hx
    by_cases hjk : j = k
    · subst hjk; exact hin i x hi hx
    · rw [hout j i x hjk hjN hi hx]
      exact h.done j i x (by omega) hjN hi hx
  · intro j i x hj hjN hi hx
    rw [hout j i x (by omega) hjN hi hx]
    exact h.todo j i x (by omega) hjN hi hx
theorem WholeK.skip {L : Lay} {k : Nat} {W : Nat → UInt8} (h : WholeK L k W) (h0 : L.small k = 0) : WholeK L (k + 1) W where
  done := fun j i x hj hjN hi hx => by
    by_cases hjk : j = k
    · subst hjk; omega
    · exact h.done j i x (by omega) hjN hi hx
  todo := fun j i x hj hjN hi hx => h.todo j i x (by omega) hjN hi hx
end Go.Proofs.YtokpomdfgbbhlaaDoor

/- The nodes' loop of spec.Write: its code's parts, what stands in it. -/
namespace Go.Proofs.YtokpomdfgbbhlaaDoor
open Go Go.RowKit

/-- The body of block n. -/
def findBlk (n : Nat) : Code → Option Code
  | .block id c => if id = n then some c else findBlk n c
  | .seq a b => match findBlk n a with
    | some c => some c
    | none => findBlk n b
  | .cond _ a b => match findBlk n a with
    | some c => some c
    | none => findBlk n b
  | .loop c => findBlk n c
  | .scope c => findBlk n c
  | _ => none
/-- The code behind region n. -/
def dropAft (n : Nat) : Code → Option Code
  | .seq a b => match dropAft n a with
    | some .skip => some b
    | some a' => some (.seq a' b)
    | none => dropAft n b
  | .region id _ _ => if id = n then some .skip else none
  | _ => none
noncomputable def c27 : Code := (Tryd.f10.body.bind (findBlk 27)).getD .skip
noncomputable def c27b : Code := (dropAft 114 c27).getD .skip
noncomputable def c27c : Code := (dropTo 129 c27).getD .skip

/-- What the nodes' loop keeps. -/
structure NLoop (L : Lay) (zb xb ob outb fnb wb db wn dn mn k : Nat) (fat mfat : Nat → Nat) (w wr : World) : Prop where
  fr : Fr [outb, wb, db] w wr
  out : ∃ F, WOut wr L zb xb ob outb fnb F ∧ Img L F (C2 L fat mfat mn k)
  whole : ∃ W, Bts wr wb wn W ∧ WholeK L k W
  dir : Bts wr db dn (dirK L k)

/-- What stands around it. -/
structure NStat (L : Lay) (lb lcap zb xb fb fn mb mn pb pc b19 c19 b29 c29 b33 c33 ob outb fnb wb db wn dn : Nat) (dv : Nat → Value) (fat mfat : Nat → Nat) (w0 wA : World) : Prop where
  E : WEnv L w0 lb lcap fn mn pc c19 c29 c33 outb dv fat mfat
  hT : WTab wA L zb xb fb fn mb mn pb b19 b29 b33 fat mfat
  hF0 : Fr [] w0 wA
  out : ∃ l, Blk wA outb 5 l
  wb_ : ∃ l, Blk wA wb 5 l
  db_ : ∃ l, Blk wA db 5 l
  ne1 : wb ≠ db
  ne2 : wb ≠ outb
  ne3 : db ≠ outb
  wn_ : wn = 64 * L.minis
  dn1 : 128 * L.N ≤ dn
  dn2 : dn ≤ 20480

section
variable {L : Lay} {lb lcap zb xb fb fn mb mn pb pc b19 c19 b29 c29 b33 c33 ob outb fnb wb db wn dn : Nat} {dv : Nat → Value} {fat mfat : Nat → Nat} {w0 wA w : World}
/-- Blocks that are no rows of bytes stay. -/
theorem NStat.keep (S : NStat L lb lcap zb xb fb fn mb mn pb pc b19 c19 b29 c29 b33 c33 ob outb fnb wb db wn dn dv fat mfat w0 wA) (hf : Fr [outb, wb, db] wA w) {b : Nat} {T : TypeId} {l : List Value} (hb : Blk wA b T l) (h5 : T ≠ 5) : Blk w b T l := by
  obtain ⟨l1, h1⟩ := S.out
  obtain ⟨l2, h2⟩ := S.wb_
  obtain ⟨l3, h3⟩ := S.db_
  refine hb.fr hf ?_
  simp only [List.mem_cons, List.not_mem_nil, or_false, not_or]
  exact ⟨blk_ne hb h1 h5, blk_ne hb h2 h5, blk_ne hb h3 h5⟩
theorem NStat.tab (S : NStat L lb lcap zb xb fb fn mb mn pb pc b19 c19 b29 c29 b33 c33 ob outb fnb wb db wn dn dv fat mfat w0 wA) (hf : Fr [outb, wb, db] wA w) : WTab w L zb xb fb fn mb mn pb b19 b29 b33 fat mfat :=
  S.hT.fr hf (fun b T l hb h5 _ => by
    obtain ⟨l1, h1⟩ := S.out
    obtain ⟨l2, h2⟩ := S.wb_
    obtain ⟨l3, h3⟩ := S.db_
    simp only [List.mem_cons, List.not_mem_nil, or_false, not_or]
    exact ⟨blk_ne hb h1 h5, blk_ne hb h2 h5, blk_ne hb h3 h5⟩)
/-- A node's bytes stand as they did (they are of the file's reader of the nodes, ahead of all that Write makes). -/
theorem NStat.dat (S : NStat L lb lcap zb xb fb fn mb mn pb pc b19 c19 b29 c29 b33 c33 ob outb fnb wb db wn dn dv fat mfat w0 wA) (hw : w0.heap.size ≤ wb) (hd : w0.heap.size ≤ db) (hf : Fr [outb, wb, db] wA w) {k : Nat} (hk : k < L.N) : DatIs w (L.nd k) (dv k) := by
  obtain ⟨a, cap, h1, h2, h3, h4⟩ := S.E.nd.dat k hk
  refine ⟨a, cap, h1, h2, h3, fun h0 => ?_⟩
  obtain ⟨b, o, rfl, l, hb, hl⟩ := h4 h0
  refine ⟨b, o, rfl, l, (hb.fr0 S.hF0).fr hf ?_, hl⟩
  have h5 := hb.lt
  have h6 := S.E.ob_
  simp only [List.mem_cons, List.not_mem_nil, or_false, not_or]
  omega
end
end Go.Proofs.YtokpomdfgbbhlaaDoor

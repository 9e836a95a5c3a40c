/- FnCodes: a file with another byte of its signature or size of sectors is an error of its format, a short one an error of reading (part 11 of 12). No condition but the statement's own. -/
import Derived.Test.YtokpomdfgbbhlaaDoorCdj
set_option linter.all false
set_option linter.unusedVariables false
set_option linter.unusedSimpArgs false
set_option linter.unnecessarySimpa false
/- spec.Write: the counts. -/
namespace Go.Proofs.YtokpomdfgbbhlaaDoor
open Go Go.RowKit

attribute [local go_sem] run_store_fn

set_option maxRecDepth 100000 in
set_option maxHeartbeats 8000000 in
theorem write_a (lb lcap : Nat) (L : Lay) (dv : Nat → Value) (w : World) (hL : LayOK L) (hn : NdsIs w lb L dv) (hc : L.N ≤ lcap ∧ lcap ≤ 9223372036854775807) (hst : L.step ≤ 300) :
    Calls Tryd.prog 10 #[.slice (some ⟨lb, 0, none⟩) L.N lcap, .int .i64 L.ver, .int .i64 L.step] w (WPost L w) := by
  have HV := Lib.hid (verI L)
  obtain ⟨⟨ll, hll, hlc⟩, hdat⟩ := hn
  have HDAT := Lib.hid hdat
  have HLC := Lib.hid hlc
  clear hdat hlc
  have hn1 := hL.n1
  have hn2 := hL.n2
  have HL := Lib.hid hL
  clear hL
  go_enter Tryd.func10, Tryd.ntmps10
  go_upto_if 60 with (fail)
  go_cut [] from 61 to 61 (fun w1 => Fr [] w w1 ∧ Blk w1 w.heap.size 3 [I64 L.sz])
  case first =>
    have hsz := L.sz_or
    rcases hsz with ⟨e, e'⟩ | ⟨e, e'⟩
    · have hver : ((L.ver : Int) == 4) = false := by rw [HV.out]; exact e'
      have E := Lib.hid e
      clear e e'
      go_wp2_with fail
      go_meet
      case rel => exact ⟨(Fr.refl _ _).alloc _, by rw [E.out]; exact Blk.new' _ _ _⟩
    · have hver : ((L.ver : Int) == 4) = true := by rw [HV.out]; exact e'
      have E := Lib.hid e
      clear e e'
      go_wp2_with fail
      go_meet
      case rel => exact ⟨(Fr.refl _ _).alloc _, by rw [E.out]; exact Blk.new' _ _ _⟩
  case rest =>
  obtain ⟨hf, hz⟩ := hcut
  go_upto_block 0 with (fail)
  go_cut [8, 9] from 59 to 65 (fun s8 s9 w1 => Fr [] w w1 ∧ Blk w1 w.heap.size 3 [I64 L.sz] ∧ w1.ownsRow (w.heap.size + 1) 3 1 s8 L.N (tab L.N (fun i => I64 (L.small i))) ∧ w1.ownsRow (w.heap.size + 1) 3 1 s9 L.N (tab L.N (fun i => I64 (L.big i))))
  case first =>
    go_wp2_with fail
    go_loopw [8, 9, 65] (fun s8 s9 s65 wr => ∃ k : Nat, k ≤ L.N ∧ s65 = .int .i64 k ∧ Fr [] w wr ∧ Blk wr w.heap.size 3 [I64 L.sz] ∧ wr.ownsRow (w.heap.size + 1) 3 1 s8 k (tab k (fun i => I64 (L.small i))) ∧ wr.ownsRow (w.heap.size + 1) 3 1 s9 k (tab k (fun i => I64 (L.big i))) ∧ (∀ b, s8.ownBlock = some b → s9.ownBlock ≠ some b)) (fun _ _ s65 _ => L.N - (intOf s65).toNat)
    case atStart =>
      have hl := hz.lt
      refine ⟨0, by omega, rfl, ((hf.alloc _).alloc _), (hz.alloc _).alloc _, (World.ownsRow_made wc #[] 0 (by omega) (by unfold maxLen; omega) rfl).alloc _, ?_, ?_⟩
      · have := World.ownsRow_made (base := w.heap.size + 1) (e := 3) (size := 1) (wc.alloc (Obj.cells #[] 3)) #[] 0 (by simp; omega) (by unfold maxLen; omega) rfl
        simpa [tab] using this
      · simp [Value.ownBlock]
    case round =>
      obtain ⟨k, hk, rfl, hf, hz, ho1, ho2, hd⟩ := hrel
      by_cases hlt : k < L.N
      · have hcs : (ll.drop (k * 28)).take 28 = (ndCells (L.nd k) (dv k)).toArray.toList := by
          apply List.ext_getElem?
          intro j
          rw [List.getElem?_take]
          by_cases hj : j < 28
          · rw [if_pos hj, List.getElem?_drop, HLC.out k hlt j hj]
          · rw [if_neg hj]; exact (List.getElem?_eq_none (by rw [ndCells_length]; omega)).symm
        have hln : k * 28 + 28 ≤ ll.length := by
          have h1 := HLC.out k hlt 27 (by omega)
          rw [List.getElem?_eq_getElem (show 27 < (ndCells (L.nd k) (dv k)).length by rw [ndCells_length]; omega)] at h1
          have := (List.getElem?_eq_some_iff.1 h1).1
          omega
        have HCS := Lib.hid hcs
        clear hcs
        have hll1 := hll.fr0 hf
        obtain ⟨da, dcap, hdv, hd1, hd2, hd3⟩ := HDAT.out k hlt
        have hone : (ndCells (L.nd k) (dv k)).toArray.all (·.oneCell') = true := by rw [hdv]; exact ndCells_one _ _ _ _
        have hdv5 : (ndCells (L.nd k) (dv k))[2]? = some (.slice da (L.nd k).len dcap) := by rw [← hdv]; rfl
        have HDV := Lib.hid hdv
        clear hdv
        go_wp2_with (first | (refine wpList_load_blk rfl 42 (.tmp 67) rfl lb (k * 28) rfl 42 ll hll1 _ Tryd.underlying42 rfl 28 (by kernel_rfl) hln (ndCells (L.nd k) (dv k)).toArray HCS.out ?_) | (refine wpList_store_blk rfl 42 (.tmp 11) (.tmp 68) rfl wr.heap.size 0 (ndCells (L.nd k) (dv k)).toArray rfl rfl 42 _ (Blk.new' wr 42 _) (by simp [ndCells_length]) (by rw [List.size_toArray, ndCells_length]; kernel_rfl) hone ?_))
        intro w1 hf1 hb1
        have hb2 : Blk w1 wr.heap.size 42 (ndCells (L.nd k) (dv k)) := by
          have := splice_whole [Value.string { data := #[] }, Value.bool false, Value.slice none 0 0, Value.int IntKind.i64 0, Value.int IntKind.i64 0, Value.int IntKind.i64 0, Value.int IntKind.u8 0, Value.int IntKind.u8 0, Value.int IntKind.u8 0, Value.int IntKind.u8 0, Value.int IntKind.u8 0, Value.int IntKind.u8 0, Value.int IntKind.u8 0, Value.int IntKind.u8 0, Value.int IntKind.u8 0, Value.int IntKind.u8 0, Value.int IntKind.u8 0, Value.int IntKind.u8 0, Value.int IntKind.u8 0, Value.int IntKind.u8 0, Value.int IntKind.u8 0, Value.int IntKind.u8 0, Value.int IntKind.u8 0, Value.int IntKind.u8 0, Value.int IntKind.u8 0, Value.int IntKind.u8 0, Value.int IntKind.u64 0, Value.int IntKind.u64 0] (ndCells (L.nd k) (dv k)) (by rw [ndCells_length]; rfl)
          rw [← this]; exact hb1
        have hf2 : Fr [] wr w1 := ((Fr.refl [] wr).alloc _).trans hf1 (by simp)
        have hF := hf.trans0 hf2
        have hz1 := hz.fr0 hf2
        have ho1' := own_fr ho1 hf2 (by simp)
        have ho2' := own_fr ho2 hf2 (by simp)
        have cz : w1.cell? ⟨w.heap.size, 0, none⟩ = some (I64 L.sz) := hz1.cell 0
        have k1 : w1.cell? ⟨wr.heap.size, 1, none⟩ = some (.bool (L.nd k).stream) := hb2.cell 1
        have k2 : w1.cell? ⟨wr.heap.size, 2, none⟩ = some (.slice da (L.nd k).len dcap) := (hb2.cell 2).trans hdv5
        have hbase : w.heap.size + 1 ≤ w1.heap.size := hz1.lt
        have hsz1 : 1 ≤ L.sz ∧ L.sz ≤ 4096 := by rcases L.sz_or with ⟨e, _⟩ | ⟨e, _⟩ <;> omega
        have hcase : ((L.nd k).stream = true ∧ (L.nd k).len < 4096 ∧ L.small k = partsN (L.nd k).len 64 ∧ L.big k = 0) ∨ ((L.nd k).stream = true ∧ ¬ (L.nd k).len < 4096 ∧ L.small k = 0 ∧ L.big k = partsN (L.nd k).len L.sz) ∨ ((L.nd k).stream = false ∧ L.small k = 0 ∧ L.big k = 0) := by
          unfold Lay.small Lay.big
          cases (L.nd k).stream
          · right; right; simp
          · by_cases h : (L.nd k).len < 4096
            · left; simp [h]
            · right; left; simp [h]
        have hlenk := HL.out.len k hlt
        clear hf ho1 ho2 hz hf1 hb1 hb2 hll1 hf2 HCS hone hln hdv5
        generalize (L.nd k).stream = st at *
        generalize hlen : (L.nd k).len = len at *
        generalize wr.heap.size = tb at *
        rcases hcase with ⟨rfl, hl, hsm, hbg⟩ | ⟨rfl, hl, hsm, hbg⟩ | ⟨rfl, hsm, hbg⟩
        · have hlI : (len : Int) < 4096 := by omega
          have HSM := Lib.hid hsm
          have HBG := Lib.hid hbg
          clear hsm hbg hlen
          go_wp2_with fail
          refine (parts_any len 64 _ (by omega) (by omega) (by omega)).mono ?_
          rintro e w2 ⟨rfl, rfl⟩
          go_wp2_with (at_builtin; (refine wpList_app2 rfl (.tmp 88) (.tmp 90) 31 rfl 3 (.int .i64 0) 8 Tryd.underlying31 info3 rfl (by decide) (w.heap.size + 1) _ k _ rfl _ ho1' rfl rfl (by omega) hbase ?_))
          intro v1 w2 hn1' hg1 hd1'
          have hF2 := hF.own ho1' (by omega) hg1
          have ho3 := own_fr ho2' hg1 (fun b hb => by simp only [Option.mem_toList, Option.mem_def]; exact fun h => hd b h hb)
          have hz2 := hz1.fr hg1 (fun h => by have := (ho1'.lt _ (by simpa using h)).1; omega)
          have hbase2 : w.heap.size + 1 ≤ w2.heap.size := hz2.lt
          clear cz k1 k2 hz1
          go_wp2_with (at_builtin; (refine wpList_app2 rfl (.tmp 92) (.tmp 94) 31 rfl 3 (.int .i64 0) 8 Tryd.underlying31 info3 rfl (by decide) (w.heap.size + 1) _ k _ rfl _ ho3 rfl rfl (by omega) hbase2 ?_))
          intro v2 w3 hn2' hg2 hd2'
          have hz4 := hz2.fr hg2 (fun h => by have := (ho3.lt _ (by simpa using h)).1; omega)
          have hF3 := hF2.own ho3 (by omega) hg2
          obtain ⟨hr1, hr2⟩ := two_rows ho1' ho2' hd hn1' hg1 hd1' hg2 hd2'
          have ho4 := own_tab hr1 (by rw [HSM.out] <;> rfl)
          have ho5 := own_tab hn2' (by rw [HBG.out] <;> rfl)
          clear hr1 hn1' hn2' hg1 hg2 hd1' hd2' ho1' ho2' ho3 hd hz2 hF hF2
          go_wp2_with fail
          go_roundw
          case rel => exact ⟨k + 1, by omega, by go_num, hF3, hz4, ho4, ho5, hr2⟩
          case measure => simp [intOf]; omega
        · have hlI : ¬ (len : Int) < 4096 := by omega
          have HSM := Lib.hid hsm
          have HBG := Lib.hid hbg
          clear hsm hbg hlen
          go_wp2_with fail
          refine (parts_any len L.sz _ (by omega) (by omega) (by omega)).mono ?_
          rintro e w2 ⟨rfl, rfl⟩
          go_wp2_with (at_builtin; (refine wpList_app2 rfl (.tmp 88) (.tmp 90) 31 rfl 3 (.int .i64 0) 8 Tryd.underlying31 info3 rfl (by decide) (w.heap.size + 1) _ k _ rfl _ ho1' rfl rfl (by omega) hbase ?_))
          intro v1 w2 hn1' hg1 hd1'
          have hF2 := hF.own ho1' (by omega) hg1
          have ho3 := own_fr ho2' hg1 (fun b hb => by simp only [Option.mem_toList, Option.mem_def]; exact fun h => hd b h hb)
          have hz2 := hz1.fr hg1 (fun h => by have := (ho1'.lt _ (by simpa using h)).1; omega)
          have hbase2 : w.heap.size + 1 ≤ w2.heap.size := hz2.lt
          clear cz k1 k2 hz1
          go_wp2_with (at_builtin; (refine wpList_app2 rfl (.tmp 92) (.tmp 94) 31 rfl 3 (.int .i64 0) 8 Tryd.underlying31 info3 rfl (by decide) (w.heap.size + 1) _ k _ rfl _ ho3 rfl rfl (by omega) hbase2 ?_))
          intro v2 w3 hn2' hg2 hd2'
          have hz4 := hz2.fr hg2 (fun h => by have := (ho3.lt _ (by simpa using h)).1; omega)
          have hF3 := hF2.own ho3 (by omega) hg2
          obtain ⟨hr1, hr2⟩ := two_rows ho1' ho2' hd hn1' hg1 hd1' hg2 hd2'
          have ho4 := own_tab hr1 (by rw [HSM.out] <;> rfl)
          have ho5 := own_tab hn2' (by rw [HBG.out] <;> rfl)
          clear hr1 hn1' hn2' hg1 hg2 hd1' hd2' ho1' ho2' ho3 hd hz2 hF hF2
          go_wp2_with fail
          go_roundw
          case rel => exact ⟨k + 1, by omega, by go_num, hF3, hz4, ho4, ho5, hr2⟩
          case measure => simp [intOf]; omega
        · skip
          have HSM := Lib.hid hsm
          have HBG := Lib.hid hbg
          clear hsm hbg hlen
          go_wp2_with (at_builtin; (refine wpList_app2 rfl (.tmp 88) (.tmp 90) 31 rfl 3 (.int .i64 0) 8 Tryd.underlying31 info3 rfl (by decide) (w.heap.size + 1) _ k _ rfl _ ho1' rfl rfl (by omega) hbase ?_))
          intro v1 w2 hn1' hg1 hd1'
          have hF2 := hF.own ho1' (by omega) hg1
          have ho3 := own_fr ho2' hg1 (fun b hb => by simp only [Option.mem_toList, Option.mem_def]; exact fun h => hd b h hb)
          have hz2 := hz1.fr hg1 (fun h => by have := (ho1'.lt _ (by simpa using h)).1; omega)
          have hbase2 : w.heap.size + 1 ≤ w2.heap.size := hz2.lt
          clear cz k1 k2 hz1
          go_wp2_with (at_builtin; (refine wpList_app2 rfl (.tmp 92) (.tmp 94) 31 rfl 3 (.int .i64 0) 8 Tryd.underlying31 info3 rfl (by decide) (w.heap.size + 1) _ k _ rfl _ ho3 rfl rfl (by omega) hbase2 ?_))
          intro v2 w3 hn2' hg2 hd2'
          have hz4 := hz2.fr hg2 (fun h => by have := (ho3.lt _ (by simpa using h)).1; omega)
          have hF3 := hF2.own ho3 (by omega) hg2
          obtain ⟨hr1, hr2⟩ := two_rows ho1' ho2' hd hn1' hg1 hd1' hg2 hd2'
          have ho4 := own_tab hr1 (by rw [HSM.out] <;> rfl)
          have ho5 := own_tab hn2' (by rw [HBG.out] <;> rfl)
          clear hr1 hn1' hn2' hg1 hg2 hd1' hd2' ho1' ho2' ho3 hd hz2 hF hF2
          go_wp2_with fail
          go_roundw
          case rel => exact ⟨k + 1, by omega, by go_num, hF3, hz4, ho4, ho5, hr2⟩
          case measure => simp [intOf]; omega
      · have hkN : k = L.N := by omega
        rw [hkN] at ho1 ho2
        clear hkN
        go_wp2_with fail
        go_meet
        case rel => exact ⟨hf, hz, ho1, ho2⟩
  case rest =>
  obtain ⟨hf, hz, ho1, ho2⟩ := hcut
  have hHL := HL.out
  have hm1 := hHL.minis_le
  obtain ⟨b8, c8, l8, rfl, hb8, hl8, hg8, hc8, hc8'⟩ := own_blk2 ho1 hn1
  obtain ⟨b9, c9, l9, rfl, hb9, hl9, hg9, hc9, hc9'⟩ := own_blk2 ho2 hn1
  have HG8 := Lib.hid hg8
  have HG9 := Lib.hid hg9
  clear hg8 hg9 ho1 ho2
  go_upto_block 2 with (fail)
  go_cut [14] from 97 to 99 (fun s14 w1 => s14 = I64 L.minis ∧ wc = w1)
  case first =>
    go_wp2_with fail
    go_loop [14, 99] (fun s14 s99 => ∃ k : Nat, k ≤ L.N ∧ s99 = .int .i64 k ∧ s14 = I64 (sumN L.small k)) (fun _ s99 => L.N - (intOf s99).toNat)
    case atStart => exact ⟨0, by omega, rfl, rfl⟩
    case round =>
      obtain ⟨k, hk, rfl, rfl⟩ := hrel
      by_cases hlt : k < L.N
      · have hltI : (k : Int) < L.N := by omega
        have c1 : wc.cell? ⟨b8, k, none⟩ = some (I64 (L.small k)) := (hl8.cell k).trans (HG8.out k hlt)
        have h1 := sumN_mono L.small (show k + 1 ≤ L.N by omega)
        have h2 : sumN L.small (k + 1) = sumN L.small k + L.small k := rfl
        have h3 : sumN L.small L.N ≤ 1280 := hm1
        have H2 := Lib.hid h2
        rw [h2] at h1
        clear h2
        go_wp2_with fail
        go_round
        case rel => exact ⟨k + 1, by omega, by go_num, by rw [H2.out]; go_num⟩
        case measure => simp [intOf]; omega
      · obtain rfl : k = L.N := by omega
        go_wp2_with fail
        go_meet
        case rel => exact ⟨rfl, rfl⟩
  case rest =>
  obtain ⟨rfl, rfl⟩ := hcut
  have cz : wc.cell? ⟨w.heap.size, 0, none⟩ = some (I64 L.sz) := hz.cell 0
  have hsz1 : 512 ≤ L.sz ∧ L.sz ≤ 4096 := by rcases L.sz_or with ⟨e, _⟩ | ⟨e, _⟩ <;> omega
  have hpI : (L.sz : Int) / 4 = (L.per : Int) := by unfold Lay.per; omega
  have hp1 : 128 ≤ L.per ∧ L.per ≤ 1024 := by unfold Lay.per; omega
  go_upto_region 23 with (go_at_call 21; refine (parts_any L.N (L.sz / 128) _ (by omega) (by omega) (by omega)).mono ?_; rintro e w2 ⟨rfl, rfl⟩)
  have hc0 : L.cnt 0 = partsN L.N (L.sz / 128) := rfl
  have hc1 : L.cnt 1 = partsN L.minis L.per := rfl
  have hc2 : L.cnt 2 = partsN (L.minis * 64) L.sz := rfl
  rw [← hc0]
  have HC1 := Lib.hid hc1
  have HC2 := Lib.hid hc2
  clear hc0 hc1 hc2
  have hbase1 : w.heap.size + 1 ≤ wc.heap.size := hz.lt
  go_cut [19] from 97 to 124 (fun s19 w1 => Fr [] wc w1 ∧ w1.ownsRow (w.heap.size + 1) 3 1 s19 (3 + L.N) (tab (3 + L.N) (fun c => I64 (L.cnt c))))
  case first =>
    obtain ⟨i0, hi, hz0, hz1, hz2⟩ := info_parts info3
    have hcon1 := Lib.hid (fun w0 => parts_any L.minis L.per w0 (by omega) (by omega) (by omega))
    have e64 : ((L.minis * 64 : Nat) : Int) = (L.minis : Int) * 64 := Int.natCast_mul _ _
    have hcon2 := (fun w0 => parts_any (L.minis * 64) L.sz w0 (by omega) (by omega) (by omega))
    rw [e64] at hcon2
    have hcon2 := Lib.hid hcon2
    clear e64
    have hw64 : IntKind.i64.wrap ((L.minis : Int) * 64) = (L.minis : Int) * 64 := IntWalk.i64_in _ (by omega)
    have hnews : ∀ (w0 : World), Fr [] wc w0 → ∀ j u, (tab L.N (fun c => I64 (L.big c)))[j]? = some u → w0.cell? ((⟨b9, 0, none⟩ : Addr).add j) = some u := by
      intro w0 f0 j u hj
      rw [tab_get?] at hj
      split at hj
      · rename_i hjn
        rw [Addr.add_mid, Nat.zero_add, ← hj]
        exact f0.cell0 ((hl9.cell j).trans (HG9.out j hjn))
      · cases hj
    have HNEWS := Lib.hid hnews
    clear hnews
    have hlit := World.ownsRow_lit (base := w.heap.size + 1) (e := 3) (size := 1) wc.drew #[I64 (L.cnt 0), I64 (partsN L.minis L.per), I64 (partsN (L.minis * 64) L.sz)] 3 (by simpa using hbase1) (by unfold maxLen; omega) rfl
    have HLIT := Lib.hid hlit
    clear hlit
    generalize L.minis = mi at *
    go_region_held3 (fun w' => w'.cell? ⟨w.heap.size, 0, none⟩ = some (I64 L.sz))
      (first | go_keep | exact hf3.cell (by simp [Value.ownBlock]; omega) (((Fr.refl [] wc).drew.alloc _).cell0 cz))
      (first | (refine step_app rfl (.tmp 122) (.tmp 123) 31 rfl 3 i0 (.int .i64 0) 1 8 Tryd.underlying31 hi hz0 hz1 hz2 rfl (by decide) (by omega) (w.heap.size + 1) (.slice (some ⟨wc.heap.size, 0, none⟩) 3 3) 3 _ (by simp [Act.eval]) HLIT.out ⟨b9, 0, none⟩ L.N c9 (tab L.N (fun c => I64 (L.big c))) (by simp [Act.eval]) (by omega) (by simp) (HNEWS.out _ ((Fr.refl [] wc).drew.alloc _)) (by intro u hu; obtain ⟨q, _, rfl⟩ := List.mem_map.1 hu; rfl) (by omega) (by simp; omega) ?_; rintro v' w3 ho3 hf3 hd3) | (go_at_call 21; (with_reducible refine (hcon1.out _).mono ?_); rintro e w3 ⟨rfl, rfl⟩) | (go_at_call 21; (with_reducible refine (hcon2.out _).mono ?_); rintro e w3 ⟨rfl, rfl⟩))
    all_goals
      go_wp2_with fail
      go_meet
      case rel =>
        refine ⟨((Fr.refl [] wc).drew.alloc _).trans hf3 (by simp [Value.ownBlock]), ?_⟩
        rw [tab_three _ _ _ L.N _ (fun c => I64 (L.cnt c)) rfl (by show I64 (L.cnt 1) = _; rw [HC1.out]) (by show I64 (L.cnt 2) = _; rw [HC2.out]) (fun i _ => by show I64 (L.cnt (3 + i)) = _; rw [cnt_big])] at ho3
        exact ho3
  case rest =>
  obtain ⟨hf3, ho19⟩ := hcut
  obtain ⟨b19, c19, l19, rfl, hb19, hl19, hg19, hc19, hc19'⟩ := own_blk2 ho19 (by omega)
  have HG19 := Lib.hid hg19
  have hF := hf.trans0 hf3
  have hz3 := hz.fr0 hf3
  have hL8 := hl8.fr0 hf3
  clear hg19 ho19 hf hl8 hl9 HG9 hc9 hc9' hb9 cz hz
  have hsum := hHL.sum_le
  obtain ⟨hft1, hft2, hft3⟩ := hHL.fats_ok
  go_upto_block 4 with (fail)
  go_cut [20] from 97 to 127 (fun s20 w1 => s20 = I64 L.sum ∧ wc = w1)
  case first =>
    go_wp2_with fail
    go_loop [20, 127] (fun s20 s127 => ∃ k : Nat, k ≤ 3 + L.N ∧ s127 = .int .i64 k ∧ s20 = I64 (sumN L.cnt k)) (fun _ s127 => 3 + L.N - (intOf s127).toNat)
    case atStart => exact ⟨0, by omega, rfl, rfl⟩
    case round =>
      obtain ⟨k, hk, rfl, rfl⟩ := hrel
      by_cases hlt : k < 3 + L.N
      · have hltI : (k : Int) < 3 + L.N := by omega
        have c1 : wc.cell? ⟨b19, k, none⟩ = some (I64 (L.cnt k)) := (hl19.cell k).trans (HG19.out k hlt)
        have h1 := sumN_mono L.cnt (show k + 1 ≤ 3 + L.N by omega)
        have h2 : sumN L.cnt (k + 1) = sumN L.cnt k + L.cnt k := rfl
        have h3 : sumN L.cnt (3 + L.N) ≤ 600 := hsum
        have H2 := Lib.hid h2
        rw [h2] at h1
        clear h2
        go_wp2_with fail
        go_round
        case rel => exact ⟨k + 1, by omega, by go_num, by rw [H2.out]; go_num⟩
        case measure => simp [intOf]; omega
      · have hkN : k = 3 + L.N := by omega
        have hltI : ¬ (k : Int) < 3 + L.N := by omega
        have hm : sumN L.cnt k = L.sum := by rw [hkN]; rfl
        have HM := Lib.hid hm
        clear hm hkN
        go_wp2_with fail
        go_meet
        case rel => exact ⟨by rw [HM.out], rfl⟩
  case rest =>
  obtain ⟨rfl, rfl⟩ := hcut
  go_upto_block 6 with (fail)
  go_cut [23] from 97 to 134 (fun s23 w1 => s23 = I64 L.fats ∧ wc = w1)
  case first =>
    go_wp2_with fail
    go_loop [23] (fun s23 => ∃ f fuel : Nat, fatGo L.sum L.per fuel f = L.fats ∧ 1 ≤ f ∧ f ≤ 20 ∧ 20 ≤ f + fuel ∧ s23 = .int .i64 f) (fun s23 => 21 - (intOf s23).toNat)
    case atStart => exact ⟨1, 100, rfl, by omega, by omega, by omega, rfl⟩
    case round =>
      obtain ⟨f, fuel, hgo, hf1, hf2, hf3, rfl⟩ := hrel
      have hle6 : partsN (L.sum + f) L.per ≤ 6 := partsN_le (by omega) (by have := Nat.mul_le_mul_left 6 hp1.1; omega)
      have hcon := Lib.hid (parts_int ((L.sum : Int) + f) (L.sum + f) L.per (by omega) wc (by omega) (by omega) (by omega))
      have HGO := Lib.hid hgo
      clear hgo
      generalize hq : partsN (L.sum + f) L.per = q at *
      by_cases hlt : f < q
      · have hltI : (f : Int) < q := by omega
        have hg : ∃ fuel', fatGo L.sum L.per fuel' (f + 1) = L.fats ∧ 20 ≤ f + 1 + fuel' := by
          have := HGO.out
          cases fuel with
          | zero => omega
          | succ fuel => rw [fatGo, hq, if_pos hlt] at this; exact ⟨fuel, this, by omega⟩
        obtain ⟨fuel', hg1, hg2⟩ := hg
        have HG := Lib.hid hg1
        clear hg1 hq
        go_wp2_with (go_at_call 21; refine hcon.out.mono ?_; rintro e w1 ⟨rfl, rfl⟩)
        go_round
        case rel => exact ⟨f + 1, fuel', HG.out, by omega, by omega, hg2, by go_num⟩
        case measure => simp [intOf]; omega
      · have hltI : ¬ (f : Int) < q := by omega
        have hF : f = L.fats := by
          have := HGO.out
          cases fuel with
          | zero => exact this
          | succ fuel => rw [fatGo, hq, if_neg hlt] at this; exact this
        have HFX := Lib.hid hF
        clear hF hq
        go_wp2_with (go_at_call 21; refine hcon.out.mono ?_; rintro e w1 ⟨rfl, rfl⟩)
        go_meet
        case rel => exact ⟨by rw [← HFX.out], rfl⟩
  case rest =>
  obtain ⟨rfl, rfl⟩ := hcut
  have htot : L.tot ≤ L.sum + L.fats ∧ L.sum + L.fats ≤ L.tot := ⟨Nat.le_refl _, Nat.le_refl _⟩
  have htot1 : L.tot ≤ 606 := by omega
  have htpos := hHL.tot_pos
  have hfn : L.fats * L.per ≤ 6144 := Nat.le_trans (Nat.mul_le_mul hft3 hp1.2) (by omega)
  have hmk := Lib.hid (fun w0 => mk_u32 ((L.fats : Int) * L.per) (L.fats * L.per) (by rw [Int.natCast_mul]) (by omega) w0)
  have hfI : (0 : Int) ≤ (L.fats : Int) * L.per ∧ (L.fats : Int) * L.per ≤ 6144 := by rw [← Int.natCast_mul]; omega
  have hcon := Lib.hid (mixed_int ((L.sum : Int) + L.fats) L.step L.tot L.step (by omega) rfl wc (by omega) (by omega))
  go_upto_region 34 with (go_at_call 22; refine hcon.out.mono ?_; rintro e w1 ⟨v24, rfl, hf4, hi24⟩)
  have hF4 := hF.trans0 hf4
  have hz4 := hz3.fr0 hf4
  have hL8a := hL8.fr0 hf4
  have hL19 := hl19.fr0 hf4
  clear hF hz3 hL8 hl19 hf4 hcon
  obtain ⟨pb, pc, lp, rfl, hpb, hpc, hpc', hlp, hgp⟩ := hi24
  have HGP := Lib.hid hgp
  clear hgp
  obtain ⟨fn, hfn0⟩ : ∃ fn, fn = L.fats * L.per := ⟨_, rfl⟩
  rw [← hfn0] at hmk hfn
  go_cut [25] from 97 to 152 (fun s25 w2 => ∃ fb xb : Nat, s25 = .pointer (some ⟨xb, 0, none⟩) ∧ Fr [] w1 w2 ∧ w1.heap.size ≤ fb ∧ w1.heap.size ≤ xb ∧ Blk w2 xb 22 [.slice (some ⟨fb, 0, none⟩) fn fn] ∧ Tbl w2 fb fn (fun _ => 0))
  case first =>
    have hmk' := hmk.out
    clear hfn0
    go_wp2_with fail
    go_meet
    case rel =>
      refine ⟨w1.heap.size, w1.heap.size + 1, rfl, ((Fr.refl _ _).alloc _).alloc _, Nat.le_refl _, by omega, ?_, (Blk.new w1 63 (tab fn (fun _ => .int .u32 0))).alloc _⟩
      have := Blk.new' (w1.alloc (Obj.cells (tab fn (fun _ => .int .u32 0)).toArray 63)) 22 #[.slice (some ⟨w1.heap.size, 0, none⟩) fn fn]
      simpa using this
  case rest =>
  obtain ⟨fb, xb, rfl, hf5, hfb0, hxb0, hxb, htb⟩ := hcut
  have cx : wc.cell? ⟨xb, 0, none⟩ = some (.slice (some ⟨fb, 0, none⟩) fn fn) := hxb.cell 0
  have nxf : xb ≠ fb := blk_ne hxb htb (by decide)
  have nzf : w.heap.size ≠ fb := by have := hz4.lt; omega
  have npf : pb ≠ fb := by have := hlp.lt; omega
  have n8f : b8 ≠ fb := by have := hL8a.lt; omega
  have n19f : b19 ≠ fb := by have := hL19.lt; omega
  have hF5 := hF4.trans0 hf5
  have hfbw : w.heap.size ≤ fb := by have := hF4.size; omega
  have hfn2 : L.tot ≤ fn := by rw [hfn0]; exact hft1
  have HFN := Lib.hid hfn0
  clear hfn0 hmk
  go_upto_block 8 with (fail)
  go_cut [] from 97 to 155 (fun w2 => Fr [fb] wc w2 ∧ Tbl w2 fb fn (fun _ => 4294967295))
  case first =>
    go_wp2_with fail
    go_loopw [155] (fun s155 wr => ∃ k : Nat, k ≤ fn ∧ s155 = .int .i64 k ∧ Fr [fb] wc wr ∧ Tbl wr fb fn (fun p => if p < k then 4294967295 else 0)) (fun s155 _ => fn - (intOf s155).toNat)
    case atStart => exact ⟨0, by omega, rfl, Fr.refl _ _, htb.congr (fun p _ => by simp)⟩
    case round =>
      obtain ⟨k, hk, rfl, hf, ht⟩ := hrel
      by_cases hlt : k < fn
      · have hltI : (k : Int) < fn := by omega
        have c1 := hf.cell (by simpa using nxf) cx
        have c2 := ht.cell k hlt
        have z2 := Blk.frozen ht k
        go_wp2_with fail
        go_roundw
        case rel => exact ⟨k + 1, by omega, by go_num, hf.setCell (.inl (by simp)) _, (Tbl.set ht k 4294967295).congr (fun p _ => by
          show (if p = k then 4294967295 else if p < k then 4294967295 else 0) = if p < k + 1 then 4294967295 else 0
          by_cases h : p = k
          · rw [if_pos h, if_pos (by omega)]
          · rw [if_neg h]
            by_cases h2 : p < k
            · rw [if_pos h2, if_pos (by omega)]
            · rw [if_neg h2, if_neg (by omega)])⟩
        case measure => simp [intOf]; omega
      · obtain rfl : k = fn := by omega
        go_wp2_with fail
        go_meet
        case rel => exact ⟨hf, ht.congr (fun p hp => by rw [if_pos hp])⟩
  case rest =>
  clear htb
  obtain ⟨hf6, htb⟩ := hcut
  have cx6 := hf6.cell (by simpa using nxf) cx
  have hlp6 := (hlp.fr0 hf5).fr hf6 (by simpa using npf)
  have hfc : L.fats ≤ pc := by omega
  go_upto_block 10 with (fail)
  go_cut [] from 97 to 166 (fun w2 => Fr [fb] wc w2 ∧ Tbl w2 fb fn (fsT L.pl L.fats))
  case first =>
    go_wp2_with fail
    go_loopw [166] (fun s166 wr => ∃ k : Nat, k ≤ L.fats ∧ s166 = .int .i64 k ∧ Fr [fb] wc wr ∧ Tbl wr fb fn (fsT L.pl k)) (fun s166 _ => L.fats - (intOf s166).toNat)
    case atStart => exact ⟨0, by omega, rfl, Fr.refl _ _, htb⟩
    case round =>
      obtain ⟨k, hk, rfl, hf, ht⟩ := hrel
      by_cases hlt : k < L.fats
      · have hltI : (k : Int) < L.fats := by omega
        have hpl := hHL.pl_lt k
        have c1 := hf.cell (by simpa using nxf) cx6
        have c2 := ht.cell (L.pl k) (by omega)
        have c3 : wr.cell? ⟨pb, k, none⟩ = some (I64 (L.pl k)) := hf.cell (by simpa using npf) ((hlp6.cell k).trans (HGP.out k (by omega)))
        have z2 := Blk.frozen ht (L.pl k)
        go_wp2_with fail
        go_roundw
        case rel => exact ⟨k + 1, by omega, by go_num, hf.setCell (.inl (by simp)) _, (Tbl.set ht (L.pl k) 4294967293).congr (fun p _ => rfl)⟩
        case measure => simp [intOf]; omega
      · have hkN : k = L.fats := by omega
        rw [hkN] at ht
        clear hkN
        go_wp2_with fail
        go_meet
        case rel => exact ⟨hf, ht⟩
  case rest =>
  clear htb
  obtain ⟨hf7, htb⟩ := hcut
  have cx7 := hf7.cell (by simpa using nxf) cx6
  have hlp7 := hlp6.fr hf7 (by simpa using npf)
  have hL19a := (hL19.fr0 hf5).fr (hf6.trans_same hf7) (by simpa using n19f)
  have hL8b := (hL8a.fr0 hf5).fr (hf6.trans_same hf7) (by simpa using n8f)
  have hz7 := (hz4.fr0 hf5).fr (hf6.trans_same hf7) (by simpa using nzf)
  have hxb7 := hxb.fr (hf6.trans_same hf7) (by simpa using nxf)
  have hF7 : Fr [] w wc := hF5.trans (hf6.trans_same hf7) (by simp; omega)
  have hcon := Lib.hid (chained_any fb fn fn pb L.tot pc L.fats b19 (3 + L.N) c19 (fsT L.pl L.fats) L.pl L.cnt lp l19 wc htb hlp7 HGP.out hL19a HG19.out (by have : L.sum = sumN L.cnt (3 + L.N) := rfl; omega) (fun i hi => Nat.lt_of_lt_of_le (hHL.pl_lt i) hfn2) (by omega) (by omega) (by omega) (by omega) ⟨hpc, hpc'⟩ ⟨hc19, hc19'⟩)
  go_upto_region 46 with (go_at_call 23; refine hcon.out.mono ?_; rintro e w1 ⟨v29, rfl, hf8, ht8, ho29⟩)
  obtain ⟨b29, c29, l29, rfl, hb29, hl29, hg29, hc29, hc29'⟩ := own_blk2 ho29 (by omega)
  have HG29 := Lib.hid hg29
  have hcx8 := hf8.cell (by simpa using nxf) cx7
  have hlp8 := hlp7.fr hf8 (by simpa using npf)
  have hL19c := hL19a.fr hf8 (by simpa using n19f)
  have hL8d := hL8b.fr hf8 (by simpa using n8f)
  have hz8 := hz7.fr hf8 (by simpa using nzf)
  have hxb8 := hxb7.fr hf8 (by simpa using nxf)
  have hF8 : Fr [] w w1 := hF7.trans hf8 (by simp; omega)
  have hwc := hF7.size
  clear hg29 ho29 hf8 hf7 hf6 hf5 cx cx6 cx7 hlp hlp6 hlp7 hL19 hL19a hL8a hL8b hz4 hz7 hxb hxb7 hF4 hF5 hF7 htb hcon
  have hc1 : w1.cell? ⟨b19, 1, none⟩ = some (I64 (L.cnt 1)) := (hL19c.cell 1).trans (HG19.out 1 (by omega))
  have hcl1 := (hHL.cnt_le 0 (by omega)).2.2
  obtain ⟨mn, hmn⟩ : ∃ mn, mn = L.cnt 1 * L.per := ⟨_, rfl⟩
  have hmnI : (0 : Int) ≤ (L.cnt 1 : Int) * L.per ∧ (L.cnt 1 : Int) * L.per ≤ 10240 := by
    rw [← Int.natCast_mul]
    have := Nat.mul_le_mul hcl1 hp1.2
    omega
  have hmn2 : mn ≤ 10240 := by have := Nat.mul_le_mul hcl1 hp1.2; omega
  have hmk := Lib.hid (fun w0 => mk_u32 ((L.cnt 1 : Int) * L.per) mn (by rw [hmn, Int.natCast_mul]) (by omega) w0)
  have hmm : L.minis ≤ mn := by
    rw [hmn, HC1.out]
    exact le_partsN _ _ (by omega)
  have HMN := Lib.hid hmn
  clear hmn
  go_cut [30] from 97 to 184 (fun s30 w2 => ∃ mb : Nat, s30 = .slice (some ⟨mb, 0, none⟩) mn mn ∧ Fr [] w1 w2 ∧ w1.heap.size ≤ mb ∧ Tbl w2 mb mn (fun _ => 0))
  case first =>
    have hmk' := hmk.out
    go_wp2_with fail
    go_meet
    case rel => exact ⟨w1.heap.size, rfl, (Fr.refl _ _).alloc _, Nat.le_refl _, Blk.new w1 63 (tab mn (fun _ => .int .u32 0))⟩
  case rest =>
  obtain ⟨mb, rfl, hf9, hmb0, htm⟩ := hcut
  have hmbw : w.heap.size ≤ mb := by have := hF8.size; omega
  have nmb : ∀ (b : Nat) (S : TypeId) (l : List Value), Blk w1 b S l → b ∉ [mb] := fun b S l h => by have := h.lt; simp; omega
  have NMB := Lib.hid nmb
  clear nmb hmk
  go_upto_block 12 with (fail)
  go_cut [] from 97 to 187 (fun w2 => Fr [mb] wc w2 ∧ Tbl w2 mb mn (fun _ => 4294967295))
  case first =>
    go_wp2_with fail
    go_loopw [187] (fun s187 wr => ∃ k : Nat, k ≤ mn ∧ s187 = .int .i64 k ∧ Fr [mb] wc wr ∧ Tbl wr mb mn (fun p => if p < k then 4294967295 else 0)) (fun s187 _ => mn - (intOf s187).toNat)
    case atStart => exact ⟨0, by omega, rfl, Fr.refl _ _, htm.congr (fun p _ => by simp)⟩
    case round =>
      obtain ⟨k, hk, rfl, hf, ht⟩ := hrel
      by_cases hlt : k < mn
      · have hltI : (k : Int) < mn := by omega
        have c2 := ht.cell k hlt
        have z2 := Blk.frozen ht k
        go_wp2_with fail
        go_roundw
        case rel => exact ⟨k + 1, by omega, by go_num, hf.setCell (.inl (by simp)) _, (Tbl.set ht k 4294967295).congr (fun p _ => by
          show (if p = k then 4294967295 else if p < k then 4294967295 else 0) = if p < k + 1 then 4294967295 else 0
          by_cases h : p = k
          · rw [if_pos h, if_pos (by omega)]
          · rw [if_neg h]
            by_cases h2 : p < k
            · rw [if_pos h2, if_pos (by omega)]
            · rw [if_neg h2, if_neg (by omega)])⟩
        case measure => simp [intOf]; omega
      · obtain rfl : k = mn := by omega
        go_wp2_with fail
        go_meet
        case rel => exact ⟨hf, ht.congr (fun p hp => by rw [if_pos hp])⟩
  case rest =>
  clear htm
  obtain ⟨hf10, htm⟩ := hcut
  have hfA : Fr [mb] w1 wc := (hf9.mono (by simp)).trans_same hf10
  have hF10 : Fr [] w wc := hF8.trans hfA (by simp; have := hF8.size; omega)
  have hl29a := hl29.fr hfA (NMB.out _ _ _ hl29)
  have hlp9 := hlp8.fr hfA (NMB.out _ _ _ hlp8)
  have hL19d := hL19c.fr hfA (NMB.out _ _ _ hL19c)
  have hL8e := hL8d.fr hfA (NMB.out _ _ _ hL8d)
  have hz9 := hz8.fr hfA (NMB.out _ _ _ hz8)
  have hxb9 := hxb8.fr hfA (NMB.out _ _ _ hxb8)
  have htf9 : Tbl wc fb fn (chAll L.pl L.cnt L.fats (fsT L.pl L.fats) (3 + L.N)) := Blk.fr ht8 hfA (NMB.out _ _ _ ht8)
  have nfm : fb ≠ mb := by simpa using NMB.out _ _ _ ht8
  clear hl29 hlp8 hL19c hL8d hz8 hxb8 ht8 hfA hf9 hf10 hF8 hcx8 hc1
  have hcon := Lib.hid (mixed_int (L.minis : Int) ((L.step : Int) + 3) L.minis (L.step + 3) rfl (by omega) wc (by omega) (by omega))
  go_upto_region 53 with (go_at_call 22; refine hcon.out.mono ?_; rintro e w1 ⟨v32, rfl, hf11, hi32⟩)
  obtain ⟨qb, qc, lq, rfl, hqb, hqc, hqc', hlq, hgq⟩ := hi32
  have hL8f := hL8e.fr0 hf11
  have htm1 : Tbl w1 mb mn (fun _ => 4294967295) := Blk.fr0 htm hf11
  have hmpl : ∀ i, i < L.minis → L.mpl i < mn := fun i hi => Nat.lt_of_lt_of_le (mixP_lt _ _ _ (by omega)) hmm
  have hcon2 := Lib.hid (chained_any mb mn mn qb L.minis qc 0 b8 L.N c8 (fun _ => 4294967295) L.mpl L.small lq l8 w1 htm1 hlq hgq hL8f HG8.out (by have : L.minis = sumN L.small L.N := rfl; omega) hmpl (by omega) (by omega) (by omega) (by omega) ⟨hqc, hqc'⟩ ⟨hc8, hc8'⟩)
  clear hgq hmpl
  go_upto_region 54 with (go_at_call 23; refine hcon2.out.mono ?_; rintro e w2 ⟨v33, rfl, hf12, htm2, ho33⟩)
  obtain ⟨b33, c33, l33, rfl, hb33, hl33, hg33, hc33, hc33'⟩ := own_blk2 ho33 hn1
  have hTab : WTab w2 L w.heap.size xb fb fn mb mn pb b19 b29 b33 (chAll L.pl L.cnt L.fats (fsT L.pl L.fats) (3 + L.N)) (chAll L.mpl L.small 0 (fun _ => 4294967295) L.N) := by
    have e : ∀ (b : Nat) (S : TypeId) (l : List Value), Blk wc b S l → b ≠ mb → Blk w2 b S l := fun b S l h hb => (h.fr0 hf11).fr hf12 (by simpa using hb)
    exact {
      z := e _ _ _ hz9 (blk_ne hz9 htm (by decide))
      x := e _ _ _ hxb9 (blk_ne hxb9 htm (by decide))
      ft := e _ _ _ htf9 nfm
      mt := htm2
      pl := ⟨lp, e _ _ _ hlp9 (blk_ne hlp9 htm (by decide)), HGP.out⟩
      cn := ⟨l19, e _ _ _ hL19d (blk_ne hL19d htm (by decide)), HG19.out⟩
      st := ⟨l29, e _ _ _ hl29a (blk_ne hl29a htm (by decide)), HG29.out⟩
      ms := ⟨l33, hl33, fun i hi => by rw [hg33 i hi, mstart_ch]⟩ }
  have hF12 : Fr [] w w2 := (hF10.trans0 hf11).trans hf12 (by simp; omega)
  clear hz9 hxb9 htf9 hlp9 hL19d hl29a hL8e hL8f htm htm1 htm2 hlq hl33 hf11 hf12 hcon hcon2 hg33 hF10 ho33
  have hbytes : L.bytes = L.sz * (1 + L.tot) := rfl
  have hbI : ((L.bytes : Nat) : Int) = (L.sz : Int) * (1 + (L.sum : Int) + (L.fats : Int)) := by
    have e1 : (1 + (L.sum : Int) + (L.fats : Int)) = ((1 + L.tot : Nat) : Int) := by omega
    rw [e1, hbytes, Int.natCast_mul]
  have hbB : L.bytes ≤ 2490368 := by
    rw [hbytes]
    have := Nat.mul_le_mul hsz1.2 (show 1 + L.tot ≤ 608 by omega)
    omega
  have hbI2 : (0 : Int) ≤ (L.sz : Int) * (1 + (L.sum : Int) + (L.fats : Int)) ∧ (L.sz : Int) * (1 + (L.sum : Int) + (L.fats : Int)) ≤ 2490368 := by rw [← hbI]; omega
  have hmk := Lib.hid (fun w0 => mk_u8 ((L.sz : Int) * (1 + (L.sum : Int) + (L.fats : Int))) L.bytes hbI.symm (by omega) w0)
  have HBY := Lib.hid hbytes
  clear hbytes hbI
  go_cut [34] from 97 to 208 (fun s34 w3 => ∃ ob outb : Nat, s34 = .pointer (some ⟨ob, 0, none⟩) ∧ Fr [] w2 w3 ∧ w2.heap.size ≤ outb ∧ w2.heap.size ≤ ob ∧ Blk w3 ob 23 [.slice (some ⟨outb, 0, none⟩) L.bytes L.bytes] ∧ Bts w3 outb L.bytes (fun _ => 0))
  case first =>
    have hmk' := hmk.out
    have cz : w2.cell? ⟨w.heap.size, 0, none⟩ = some (I64 L.sz) := hTab.z.cell 0
    go_wp2_with fail
    go_meet
    case rel =>
      refine ⟨w2.heap.size + 1, w2.heap.size, rfl, ((Fr.refl _ _).alloc _).alloc _, Nat.le_refl _, by omega, ?_, (Blk.new w2 5 (tab L.bytes (fun _ => .int .u8 0))).alloc _⟩
      have := Blk.new' (w2.alloc (Obj.cells (tab L.bytes (fun _ => .int .u8 0)).toArray 5)) 23 #[.slice (some ⟨w2.heap.size, 0, none⟩) L.bytes L.bytes]
      simpa using this
  case rest =>
  obtain ⟨ob, outb, rfl, hf13, hob0, hox0, hobx, hout⟩ := hcut
  have hTab1 := hTab.fr0 hf13
  have hF13 := hF12.trans0 hf13
  have hs12 := hF12.size
  clear hmk hTab hF12 hf13
  go_upto_region 55 with (fail)
  go_cut [35] from 97 to 209 (fun s35 w3 => ∃ fnb : Nat, s35 = .pointer (some ⟨fnb, 0, none⟩) ∧ Fr [] wc w3 ∧ wc.heap.size ≤ fnb ∧ Blk w3 fnb 76 [.func (.func 24) #[] #[.pointer (some ⟨ob, 0, none⟩), .pointer (some ⟨w.heap.size, 0, none⟩)]])
  case first =>
    have hmf : ∀ (fn : Fn) (first cap : Array Value) (w : World), (Instr.makeFunc fn first cap).run Tryd.prog w = .ok (.func fn first cap) w := fun _ _ _ _ => rfl
    go_wp2_with fail
    go_meet
    case rel => exact ⟨wc.heap.size, rfl, (Fr.refl _ _).alloc _, Nat.le_refl _, Blk.new' _ _ _⟩
  case rest =>
  obtain ⟨fnb, rfl, hf14, hfnb0, hfnb⟩ := hcut
  have hTab2 := hTab1.fr0 hf14
  have hF14 := hF13.trans0 hf14
  have hobx1 := hobx.fr0 hf14
  have hout1 : Bts wc outb L.bytes (fun _ => 0) := Blk.fr0 hout hf14
  clear hTab1 hF13 hf14 hobx hout
  have hmf : ∀ (fn : Fn) (first cap : Array Value) (w : World), (Instr.makeFunc fn first cap).run Tryd.prog w = .ok (.func fn first cap) w := fun _ _ _ _ => rfl
  go_upto_region 56 with (fail)
  go_cut [36] from 97 to 210 (fun s36 w3 => s36 = .func (.func 25) #[] #[.pointer (some ⟨xb, 0, none⟩), .pointer (some ⟨fnb, 0, none⟩)] ∧ wc = w3)
  case first =>
    go_wp2_with fail
    go_meet
    case rel => exact ⟨rfl, rfl⟩
  case rest =>
  obtain ⟨rfl, rfl⟩ := hcut
  clear hmf
  rename (∀ (a : Act) (w : World), Code.wp Tryd.prog _ _ a w → _) => hK
  refine hK _ _ ?_
  have hE : WEnv L w lb lcap fn mn pc c19 c29 c33 outb dv (chAll L.pl L.cnt L.fats (fsT L.pl L.fats) (3 + L.N)) (chAll L.mpl L.small 0 (fun _ => 4294967295) L.N) := {
    hL := hHL
    st := hst
    nd := ⟨⟨ll, hll, HLC.out⟩, HDAT.out⟩
    lc := hc
    fo := fat_ok L hHL
    fl := fun p => fat_lt L hHL p
    mo := mfat_ok L
    ml := fun p hp => by
      by_cases h0 : L.minis = 0
      · exfalso
        have h1 : L.cnt 1 = 0 := by
          rw [HC1.out, h0]
          have := partsN_le (n := 0) (size := L.per) (a := 0) (by omega) (by omega)
          omega
        have h2 := HMN.out
        rw [h1, Nat.zero_mul] at h2
        omega
      · exact mfat_lt L hHL h0 p
    fn_ := HFN.out
    mn_ := HMN.out
    pc_ := ⟨hpc, hpc'⟩
    c19_ := ⟨hc19, hc19'⟩
    c29_ := ⟨hc29, hc29'⟩
    c33_ := ⟨hc33, hc33'⟩
    ob_ := by omega }
  exact write_b _ _ _ _ _ _ _ _ _ _ _ _ _ _ _ _ _ _ _ _ _ _ _ _ _ _ _ _ _ _ _ _ _ _ _ _ _ _ _ _ _ _ _ _ _ _ _ _ _ _ _ _ _ _ _ _ _ _ _ _ _ _ _ _ _ _ _ _ _ _ _ _ _ _ _ _ _ _ _ _ _ _ _ _ _ _ _ _ _ _ _ _ _ _ _ _ _ _ _ _ _ _ _ _ _ _ _ _ _ _ _ _ _ _ _ _ _ _ _ _ _ _ _ _ _ _ _ _ _ _ _ _ _ _ _ _ _ _ _ _ _ _ _ _ _ _ _ _ _ _ _ _ _ _ _ _ _ _ _ _ _ _ _ _ _ _ _ _ _ _ _ _ _ _ _ _ _ _ _ _ _ _ _ _ _ _ _ _ _ _ _ _ _ _ _ _ _ _ _ _ _ _ _ _ _ _ _ _ _ _ _ _ _ _ _ _ _ _ _ _ _ _ _ _ _ _ _ _ _ _ _ _ _ _ _ _ _ _ _ _ _ _ _ _ _ _ _ _ _ _ _ _ _ _ _ _ _ _ _ _ _ _ _ _ _ _ _ _ _ _ _ _ _ _ _ _ _ _ _ _ _ _ _ _ _ _ _ _ _ _ _ _ _ _ _ _ _ _ _ _ _ _ _ _ _ _ _ _ _ _ _ _ _ _ _ _ _ _ _ _ _ _ _ _ _ _ _ _ _ _ _ _ _ _ _ _ _ _ _ _ _ _ _ _ _ _ _ _ _ _ _ _ _ _ _ _ _ _ _ _ _ _ _ _ _ _ _ _ _ _ _ _ _ _ _ _ _ _ _ _ _ _ _ _ _ _ _ _ _ _ _ _ _ _ _ _ _ _ _ _ _ _ _ _ _ _ _ _ _ _ _ _ _ _ _ _ _ _ _ _ _ _ _ _ _ _ _ _ _ _ _ _ _ _ _ _ _ _ _ _ _ _ _ _ _ _ _ _ _ _ _ _ _ _ _ _ _ _ _ _ _ _ _ _ _ _ _ _ _ _ _ _ _ _ _ _ _ _ _ _ _ _ _ _ _ _ _ _ _ _ _ _ _ _ _ _ L lb lcap w.heap.size xb fb fn mb mn pb pc b19 c19 b29 c29 b33 c33 ob outb fnb dv _ _ w wc hE hTab2 hF14 ⟨hobx1, hfnb, hout1⟩
end Go.Proofs.YtokpomdfgbbhlaaDoor

/- What the laws share: few, versionOf; a row of nodes with a cell stored. -/
namespace Go.Proofs.YtokpomdfgbbhlaaDoor
open Go Go.RowKit

theorem few_no1 (x y : Option Addr) (n m c d : Nat) (w : World) (h : 100 < n) : Calls Tryd.prog 8 #[.slice x n c, .slice y m d] w fun e w' => e = .returned (.bool false) ∧ w = w' := by
  have hd : decide (((n : Nat) : Int) ≤ 100) = false := by simp; omega
  go_enter Tryd.func8, Tryd.ntmps8
  go_wp2_with fail
  go_ret
  exact ⟨rfl, rfl⟩
theorem few_no2 (x y : Option Addr) (n m c d : Nat) (w : World) (h : n ≤ 100) (h2 : 1000 < m) : Calls Tryd.prog 8 #[.slice x n c, .slice y m d] w fun e w' => e = .returned (.bool false) ∧ w = w' := by
  have hd : decide (((n : Nat) : Int) ≤ 100) = true := by simp; omega
  have hd2 : decide (((m : Nat) : Int) ≤ 1000) = false := by simp; omega
  go_enter Tryd.func8, Tryd.ntmps8
  go_wp2_with fail
  go_ret
  exact ⟨rfl, rfl⟩
theorem few_yes (x y : Option Addr) (n m c d : Nat) (w : World) (h : n ≤ 100) (h2 : m ≤ 1000) : Calls Tryd.prog 8 #[.slice x n c, .slice y m d] w fun e w' => e = .returned (.bool true) ∧ w = w' := by
  have hd : decide (((n : Nat) : Int) ≤ 100) = true := by simp; omega
  have hd2 : decide (((m : Nat) : Int) ≤ 1000) = true := by simp; omega
  go_enter Tryd.func8, Tryd.ntmps8
  go_wp2_with fail
  go_ret
  exact ⟨rfl, rfl⟩
theorem version_any (four : Bool) (w : World) : Calls Tryd.prog 13 #[.bool four] w fun e w' => e = .returned (.int .i64 ((if four = true then 4 else 3 : Nat) : Int)) ∧ w = w' := by
  cases four
  · go_enter Tryd.func13, Tryd.ntmps13
    go_wp2_with fail
    go_ret
    exact ⟨rfl, rfl⟩
  · go_enter Tryd.func13, Tryd.ntmps13
    go_wp2_with fail
    go_ret
    exact ⟨rfl, rfl⟩

theorem version_is (four : Bool) (v : Nat) (hv : (if four = true then 4 else 3) = v) (w : World) : Calls Tryd.prog 13 #[.bool four] w fun e w' => e = .returned (.int .i64 v) ∧ w = w' := by
  subst hv
  exact version_any four w

theorem NdRow.put {w : World} {lb N : Nat} {nd : Nat → Nd} {dv : Nat → Value} (h : NdRow w lb N nd dv) (e j : Nat) (v : Value) (nd' : Nat → Nd) (dv' : Nat → Value) (hx : ∀ x, x ≠ e → nd' x = nd x ∧ dv' x = dv x)
    (hj : ndCells (nd' e) (dv' e) = (ndCells (nd e) (dv e)).set j v) (hj28 : j < 28) : NdRow (w.setCell ⟨lb, e * 28 + j, none⟩ v) lb N nd' dv' := by
  obtain ⟨l, hl, hc⟩ := h
  refine ⟨l.set (e * 28 + j) v, hl.set _ _, ?_⟩
  intro k hk i hi
  by_cases hke : k = e
  · subst hke
    rw [hj]
    by_cases hij : i = j
    · subst hij
      have h1 := hc k hk i hi
      rw [List.getElem?_eq_getElem (show i < (ndCells (nd k) (dv k)).length by rw [ndCells_length]; exact hi)] at h1
      have h2 := (List.getElem?_eq_some_iff.1 h1).1
      rw [List.getElem?_set_self h2, List.getElem?_set_self (by rw [ndCells_length]; exact hi)]
    · rw [List.getElem?_set_ne (by omega), List.getElem?_set_ne (by omega)]
      exact hc k hk i hi
  · rw [(hx k hke).1, (hx k hke).2, List.getElem?_set_ne (by omega)]
    exact hc k hk i hi

theorem NT.Fits.congr {nd nd' : Nat → Nd} (h : ∀ e, (nd' e).left = (nd e).left ∧ (nd' e).right = (nd e).right ∧ (nd' e).child = (nd e).child) : ∀ {t : NT} {x : Int}, t.Fits nd x → t.Fits nd' x
  | .nil, _, hx => hx
  | .node e l c r, x, ⟨h0, h1, h2, h3⟩ => ⟨h0, by rw [(h e).1]; exact h1.congr h, by rw [(h e).2.2]; exact h2.congr h, by rw [(h e).2.1]; exact h3.congr h⟩

/-- Another class and other times of the root. -/
def rootSet (nd : Nat → Nd) (f : Nat → UInt8) (cr md : Nat) : Nat → Nd := fun x => if x = 0 then { nd 0 with cls := f, cr := cr, md := md } else nd x
theorem rootSet_same (nd : Nat → Nd) (f : Nat → UInt8) (cr md : Nat) (x : Nat) : (rootSet nd f cr md x).name = (nd x).name ∧ (rootSet nd f cr md x).stream = (nd x).stream ∧ (rootSet nd f cr md x).len = (nd x).len ∧ (rootSet nd f cr md x).dat = (nd x).dat ∧
    (rootSet nd f cr md x).left = (nd x).left ∧ (rootSet nd f cr md x).right = (nd x).right ∧ (rootSet nd f cr md x).child = (nd x).child := by
  unfold rootSet
  split
  · rename_i h; subst h; exact ⟨rfl, rfl, rfl, rfl, rfl, rfl, rfl⟩
  · exact ⟨rfl, rfl, rfl, rfl, rfl, rfl, rfl⟩
theorem rootSet_self (nd : Nat → Nd) (x : Nat) : rootSet nd (nd 0).cls (nd 0).cr (nd 0).md x = nd x := by
  unfold rootSet
  split
  · rename_i h; subst h; rfl
  · rfl

theorem NodesOK.rootSet {base lb N : Nat} {w w' : World} {nd : Nat → Nd} {dv : Nat → Value} {t : NT} (h : NodesOK base lb N w nd dv t) (f : Nat → UInt8) (cr md : Nat) (hcr : cr < 18446744073709551616) (hmd : md < 18446744073709551616) (hf : Fr [lb] w w')
    (hrow : NdRow w' lb N (rootSet nd f cr md) dv) : NodesOK base lb N w' (rootSet nd f cr md) dv t where
  n1 := h.n1
  n2 := h.n2
  lbb := h.lbb
  row := hrow
  dat := fun k hk => by
    obtain ⟨ll, hll⟩ := h.row.lbk
    have h1 := (h.dat k hk).fr hf (fun b l hb hb2 => by
      have : b = lb := by simpa using hb2
      subst this
      exact absurd (hb.unique hll).1 (by decide))
    unfold DatIs at h1 ⊢
    rw [(rootSet_same nd f cr md k).2.2.1, (rootSet_same nd f cr md k).2.2.2.1]
    exact h1
  ok := fun four step => by
    have hL := h.ok four step
    have s := rootSet_same nd f cr md
    exact {
      n1 := hL.n1
      n2 := hL.n2
      root := by show (Go.Proofs.YtokpomdfgbbhlaaDoor.rootSet nd f cr md 0).stream = false; rw [(s 0).2.1]; exact hL.root
      len := fun k hk => by show (Go.Proofs.YtokpomdfgbbhlaaDoor.rootSet nd f cr md k).len ≤ 9000; rw [(s k).2.2.1]; exact hL.len k hk
      nm1 := fun k hk => by show 1 ≤ (Go.Proofs.YtokpomdfgbbhlaaDoor.rootSet nd f cr md k).name.size; rw [(s k).1]; exact hL.nm1 k hk
      nm2 := fun k hk => by show (Go.Proofs.YtokpomdfgbbhlaaDoor.rootSet nd f cr md k).name.size ≤ 10; rw [(s k).1]; exact hL.nm2 k hk
      nmc := fun k j hk => by show ((Go.Proofs.YtokpomdfgbbhlaaDoor.rootSet nd f cr md k).name.data.toList.getD j 0).toNat < 128; rw [(s k).1]; exact hL.nmc k j hk
      nm0 := fun k hk => by show 65 ≤ ((Go.Proofs.YtokpomdfgbbhlaaDoor.rootSet nd f cr md k).name.data.toList.getD 0 0).toNat ∧ ((Go.Proofs.YtokpomdfgbbhlaaDoor.rootSet nd f cr md k).name.data.toList.getD 0 0).toNat ≤ 90; rw [(s k).1]; exact hL.nm0 k hk
      lks := fun k hk => by
        have := hL.lks k hk
        rw [show (Lay.nd ⟨N, Go.Proofs.YtokpomdfgbbhlaaDoor.rootSet nd f cr md, four, step⟩ k) = Go.Proofs.YtokpomdfgbbhlaaDoor.rootSet nd f cr md k from rfl, (s k).2.2.2.2.1, (s k).2.2.2.2.2.1, (s k).2.2.2.2.2.2]
        exact this
      cr := fun k hk => by
        show (Go.Proofs.YtokpomdfgbbhlaaDoor.rootSet nd f cr md k).cr < _
        unfold Go.Proofs.YtokpomdfgbbhlaaDoor.rootSet
        split
        · exact hcr
        · exact hL.cr k hk
      md := fun k hk => by
        show (Go.Proofs.YtokpomdfgbbhlaaDoor.rootSet nd f cr md k).md < _
        unfold Go.Proofs.YtokpomdfgbbhlaaDoor.rootSet
        split
        · exact hmd
        · exact hL.md k hk }
  tree := by
    have s := rootSet_same nd f cr md
    exact { ne := h.tree.ne, fits := h.tree.fits.congr (fun e => (s e).2.2.2.2), nodup := h.tree.nodup, lt := h.tree.lt, le := h.tree.le, all := h.tree.all, len := h.tree.len, head := h.tree.head }
  emp := fun k hk hs => by
    have s := rootSet_same nd f cr md k
    rw [s.2.1] at hs
    rw [s.2.2.1]
    exact h.emp k hk hs

theorem NodesOK.nds {base lb N : Nat} {w : World} {nd : Nat → Nd} {dv : Nat → Value} {t : NT} (h : NodesOK base lb N w nd dv t) (four : Bool) (step : Nat) : NdsIs w lb ⟨N, nd, four, step⟩ dv := ⟨h.row, h.dat⟩
theorem NodesOK.fr {base lb N : Nat} {w w' : World} {nd : Nat → Nd} {dv : Nat → Value} {t : NT} (h : NodesOK base lb N w nd dv t) (f : Fr [] w w') : NodesOK base lb N w' nd dv t :=
  { h with row := h.row.fr f (by simp), dat := fun k hk => (h.dat k hk).fr f (fun _ _ _ => by simp) }
/-- A written file of nodes is a sound file. -/
theorem NodesOK.file {base lb N : Nat} {w : World} {nd : Nat → Nd} {dv : Nat → Value} {t : NT} (h : NodesOK base lb N w nd dv t) {L : Lay} (hL : L.nd = nd ∧ L.N = N) {F : Nat → UInt8} {fat mfat : Nat → Nat} {W : Nat → UInt8} (hW : Wrote L F fat mfat W) (hb : L.bytes ≤ 131072) :
    LayOK L ∧ FileOK F L.bytes L.sz (L.cnt 0) (L.chn 0) L.EP t.toTr L.mn (L.cnt 2) (L.chn 1) (L.chn 2) := by
  obtain ⟨N', nd', four, step⟩ := L
  obtain ⟨rfl, rfl⟩ := hL
  have hLO := h.ok four step
  exact ⟨hLO, hW.fileOK hLO hb t h.tree.ne h.tree.fits h.tree.nodup h.tree.lt h.tree.le⟩
end Go.Proofs.YtokpomdfgbbhlaaDoor

/- The contracts of the small readers of a file's fields. -/
namespace Go.Proofs.YtokpomdfgbbhlaaDoor
open Go Go.RowKit Go.Maps

theorem created_any (fk d : Nat) (name : ByteArray) (initial : Nat) (path : Value) (size i : Int) (cur : Nat) (rem : Int) (r : Nat) (G : Nat → UInt8) (w : World)
    (hf : Blk w fk 95 (flCells name initial path size i cur rem d r)) (hd : Blk w d 119 (tab 69 (dirL12 G))) :
    Calls Tryd.prog 31 #[.pointer (some ⟨fk, 0, none⟩)] w fun e w' => e = .returned (.int .u64 (fld G 100 8)) ∧ w = w' := by
  have c7 : w.cell? ⟨fk, 7, none⟩ = some (.pointer (some ⟨d, 0, none⟩)) := hf.cell 7
  have d58 := (hd.cell 58).trans (dir_create G)
  go_enter Tryd.func31, Tryd.ntmps31
  go_wp2_with fail
  go_ret
  exact ⟨rfl, rfl⟩

theorem modified_any (fk d : Nat) (name : ByteArray) (initial : Nat) (path : Value) (size i : Int) (cur : Nat) (rem : Int) (r : Nat) (G : Nat → UInt8) (w : World)
    (hf : Blk w fk 95 (flCells name initial path size i cur rem d r)) (hd : Blk w d 119 (tab 69 (dirL12 G))) :
    Calls Tryd.prog 32 #[.pointer (some ⟨fk, 0, none⟩)] w fun e w' => e = .returned (.int .u64 (fld G 108 8)) ∧ w = w' := by
  have c7 : w.cell? ⟨fk, 7, none⟩ = some (.pointer (some ⟨d, 0, none⟩)) := hf.cell 7
  have d59 := (hd.cell 59).trans (dir_modify G)
  go_enter Tryd.func32, Tryd.ntmps32
  go_wp2_with fail
  go_ret
  exact ⟨rfl, rfl⟩

theorem type_any (fk d : Nat) (name : ByteArray) (initial : Nat) (path : Value) (size i : Int) (cur : Nat) (rem : Int) (r : Nat) (G : Nat → UInt8) (w : World)
    (hf : Blk w fk 95 (flCells name initial path size i cur rem d r)) (hd : Blk w d 119 (tab 69 (dirL12 G))) :
    Calls Tryd.prog 28 #[.pointer (some ⟨fk, 0, none⟩)] w fun e w' => e = .returned (.int .i64 ((G 66).toNat : Nat)) ∧ w = w' := by
  have c7 : w.cell? ⟨fk, 7, none⟩ = some (.pointer (some ⟨d, 0, none⟩)) := hf.cell 7
  have d33 : w.cell? ⟨d, 33, none⟩ = some (.int .u8 ((G 66).toNat : Nat)) := (hd.cell 33).trans (dir_type G)
  have hlt : (G 66).toNat < 256 := (G 66).toNat_lt
  generalize (G 66).toNat = g at *
  go_enter Tryd.func28, Tryd.ntmps28
  go_wp2_with fail
  go_ret
  exact ⟨by go_num, rfl⟩

theorem dir_class (G : Nat → UInt8) (j : Nat) (hj : j < 16) : (tab 69 (dirL12 G))[38 + j]? = some (U8 (G (80 + j))) := by
  rw [tab_get _ _ _ (by omega)]
  simp only [dirL12, dirL11, dirL10, dirL9, dirL8, dirL7]
  rw [if_neg (by omega), if_neg (by omega), if_neg (by omega), if_neg (by omega), if_neg (by omega), if_pos (by omega)]
  congr 2
  congr 2; omega

set_option maxRecDepth 100000 in
set_option maxHeartbeats 1000000 in
theorem id_any (fk d : Nat) (name : ByteArray) (initial : Nat) (path : Value) (size i : Int) (cur : Nat) (rem : Int) (r : Nat) (G : Nat → UInt8) (w : World)
    (hf : Blk w fk 95 (flCells name initial path size i cur rem d r)) (hd : Blk w d 119 (tab 69 (dirL12 G))) :
    Calls Tryd.prog 29 #[.pointer (some ⟨fk, 0, none⟩)] w fun e w' => e = .returned (.agg (guidA (fun j => G (80 + j)))) ∧ Fr [] w w' := by
  have hz : (zeroValue 97).run Tryd.prog w = .ok (.agg (List.replicate 16 (.int .u8 0)).toArray) w := by kernel_rfl
  have f1 : Fr [] w (w.alloc (.cells (List.replicate 16 (.int .u8 0)).toArray 97)) := (Fr.refl _ _).alloc _
  have hr1 := Blk.new w 97 (List.replicate 16 (Value.int .u8 0))
  have hd1 := hd.fr0 f1
  have c7 : w.cell? ⟨fk, 7, none⟩ = some (.pointer (some ⟨d, 0, none⟩)) := hf.cell 7
  have l1 := hf.lt
  have l2 := hd.lt
  have hlen : ((tab 69 (dirL12 G)).drop 38).take 16 = (guidA (fun j => G (80 + j))).toList := by
    rw [tab_drop_take _ _ _ _ (by omega)]
    simp only [guidA]
    refine (tab_congr (fun j hj => ?_))
    have := dir_class G j hj
    rw [tab_get _ _ _ (by omega)] at this
    exact Option.some.inj this
  go_enter Tryd.func29, Tryd.ntmps29
  go_wp2_with (first
      | (with_reducible refine wpList_load_blk rfl 97 (.tmp 8) rfl d 38 rfl 119 _ (hd.alloc _) _ Tryd.underlying97 rfl 16 (by kernel_rfl) (by simp) (guidA (fun j => G (80 + j))) ?_ ?_)
      | (with_reducible refine wpList_store_blk rfl 97 (.tmp 2) (.tmp 9) rfl w.heap.size 0 (guidA (fun j => G (80 + j))) rfl rfl 97 _ (Blk.new' w 97 _) ?_ ?_ (guidA_one _) ?_))
  · exact hlen
  · simp [guidA_size]
  · rw [guidA_size]; kernel_rfl
  · intro w2 hf2 hb3
    have hfr : Fr [] w w2 := ((Fr.refl [] w).alloc _).trans hf2 (by simp)
    have e3 := splice_whole (List.replicate 16 (Value.int .u8 0)) (guidA (fun j => G (80 + j))).toList (by simp [guidA])
    have hb4 : Blk w2 w.heap.size 97 (guidA (fun j => G (80 + j))).toList := by rw [← e3]; exact hb3
    have hld : (loadVar 97 ⟨w.heap.size, 0, none⟩).run Tryd.prog w2 = .ok (.agg (guidA (fun j => G (80 + j)))) w2 := by
      have := run_loadVar_mid (P := Tryd.prog) w2 w.heap.size 0 97 (guidA (fun j => G (80 + j))).toList _ (fun j v hj => by rw [hb4.cell]; simpa using hj) Tryd.underlying97 rfl (by rw [Array.length_toList, guidA_size]; kernel_rfl)
      simpa using this
    clear hb3 hb4 e3 hf2
    go_wp2_with fail
    refine bodyPost_ret (v := .agg (guidA (fun j => G (80 + j)))) ?_ rfl ⟨rfl, hfr⟩
    simp [results, Tryd.results29, asAddr, hld]
theorem dir_state (G : Nat → UInt8) (j : Nat) (hj : j < 4) : (tab 69 (dirL12 G))[54 + j]? = some (U8 (G (96 + j))) := by
  rw [tab_get _ _ _ (by omega)]
  simp only [dirL12, dirL11, dirL10, dirL9, dirL8]
  rw [if_neg (by omega), if_neg (by omega), if_neg (by omega), if_neg (by omega), if_pos (by omega)]
  congr 2
  congr 2; omega

/-- Four bytes as an array's value. -/
def stateA (f : Nat → UInt8) : Array Value := (tab 4 (fun i => U8 (f i))).toArray
theorem stateA_size (f : Nat → UInt8) : (stateA f).size = 4 := by simp [stateA]
theorem stateA_one (f : Nat → UInt8) : (stateA f).all (·.oneCell') = true := tab_oneCell (fun _ _ => rfl)

set_option maxRecDepth 100000 in
set_option maxHeartbeats 1000000 in
theorem state_any (fk d : Nat) (name : ByteArray) (initial : Nat) (path : Value) (size i : Int) (cur : Nat) (rem : Int) (r : Nat) (G : Nat → UInt8) (w : World)
    (hf : Blk w fk 95 (flCells name initial path size i cur rem d r)) (hd : Blk w d 119 (tab 69 (dirL12 G))) :
    Calls Tryd.prog 30 #[.pointer (some ⟨fk, 0, none⟩)] w fun e w' => e = .returned (.agg (stateA (fun j => G (96 + j)))) ∧ Fr [] w w' := by
  have hz : (zeroValue 37).run Tryd.prog w = .ok (.agg (List.replicate 4 (.int .u8 0)).toArray) w := by kernel_rfl
  have f1 : Fr [] w (w.alloc (.cells (List.replicate 4 (.int .u8 0)).toArray 37)) := (Fr.refl _ _).alloc _
  have hr1 := Blk.new w 37 (List.replicate 4 (Value.int .u8 0))
  have hd1 := hd.fr0 f1
  have c7 : w.cell? ⟨fk, 7, none⟩ = some (.pointer (some ⟨d, 0, none⟩)) := hf.cell 7
  have l1 := hf.lt
  have l2 := hd.lt
  have hlen : ((tab 69 (dirL12 G)).drop 54).take 4 = (stateA (fun j => G (96 + j))).toList := by
    rw [tab_drop_take _ _ _ _ (by omega)]
    simp only [stateA]
    refine (tab_congr (fun j hj => ?_))
    have := dir_state G j hj
    rw [tab_get _ _ _ (by omega)] at this
    exact Option.some.inj this
  go_enter Tryd.func30, Tryd.ntmps30
  go_wp2_with (first
      | (with_reducible refine wpList_load_blk rfl 37 (.tmp 8) rfl d 54 rfl 119 _ (hd.alloc _) _ Tryd.underlying37 rfl 4 (by kernel_rfl) (by simp) (stateA (fun j => G (96 + j))) ?_ ?_)
      | (with_reducible refine wpList_store_blk rfl 37 (.tmp 2) (.tmp 9) rfl w.heap.size 0 (stateA (fun j => G (96 + j))) rfl rfl 37 _ (Blk.new' w 37 _) ?_ ?_ (stateA_one _) ?_))
  · exact hlen
  · simp [stateA_size]
  · rw [stateA_size]; kernel_rfl
  · intro w2 hf2 hb3
    have hfr : Fr [] w w2 := ((Fr.refl [] w).alloc _).trans hf2 (by simp)
    have e3 := splice_whole (List.replicate 4 (Value.int .u8 0)) (stateA (fun j => G (96 + j))).toList (by simp [stateA])
    have hb4 : Blk w2 w.heap.size 37 (stateA (fun j => G (96 + j))).toList := by rw [← e3]; exact hb3
    have hld : (loadVar 37 ⟨w.heap.size, 0, none⟩).run Tryd.prog w2 = .ok (.agg (stateA (fun j => G (96 + j)))) w2 := by
      have := run_loadVar_mid (P := Tryd.prog) w2 w.heap.size 0 37 (stateA (fun j => G (96 + j))).toList _ (fun j v hj => by rw [hb4.cell]; simpa using hj) Tryd.underlying37 rfl (by rw [Array.length_toList, stateA_size]; kernel_rfl)
      simpa using this
    clear hb3 hb4 e3 hf2
    go_wp2_with fail
    refine bodyPost_ret (v := .agg (stateA (fun j => G (96 + j)))) ?_ rfl ⟨rfl, hfr⟩
    simp [results, Tryd.results30, asAddr, hld]
end Go.Proofs.YtokpomdfgbbhlaaDoor

/- The contracts of Reader.ID, Created, Modified, and of Root over a sound file. -/
namespace Go.Proofs.YtokpomdfgbbhlaaDoor
open Go Go.RowKit Go.Maps

section
variable {w : World} {base rb sb : Nat} {F : Nat → UInt8} {ss m : Nat} {cs : Nat → Nat} {P : Nat → EntP} {t : Tr} {mn mm : Nat} {mf ms : Nat → Nat}
    {hb fb gb dg dcap ub ul uc : Nat} {fk dk : Nat → Nat} {pv : Nat → Value} {mfv msv : Value}

theorem rcreated_any (h : RdOK w base rb sb F ss m cs P t mn mm mf ms hb fb gb dg dcap ub ul uc fk dk pv mfv msv) (hl : 1 ≤ t.order.length) (he : t.order.getD 0 0 < m * (ss / 128)) :
    Calls Tryd.prog 35 #[.pointer (some ⟨rb, 0, none⟩)] w fun e w' => e = .returned (.int .u64 (fld (entB F ss cs (t.order.getD 0 0)) 100 8)) ∧ w = w' := by
  have r4 : w.cell? ⟨rb, 4, none⟩ = some (.slice (some ⟨gb, 0, none⟩) t.order.length (m * (ss / 128))) := h.rd.cell 4
  have g0 := h.files 0 (by omega)
  have hcon := Lib.hid (created_any _ _ _ _ _ _ _ _ _ _ _ w (h.file _ he) (h.ent _ he))
  generalize t.order.getD 0 0 = e0 at *
  generalize t.order.length = tl at *
  go_enter Tryd.func35, Tryd.ntmps35
  go_wp2_with fail
  refine hcon.out.mono ?_
  rintro e w1 ⟨rfl, rfl⟩
  go_wp2_with fail
  go_ret
  exact ⟨rfl, rfl⟩
theorem rmodified_any (h : RdOK w base rb sb F ss m cs P t mn mm mf ms hb fb gb dg dcap ub ul uc fk dk pv mfv msv) (hl : 1 ≤ t.order.length) (he : t.order.getD 0 0 < m * (ss / 128)) :
    Calls Tryd.prog 36 #[.pointer (some ⟨rb, 0, none⟩)] w fun e w' => e = .returned (.int .u64 (fld (entB F ss cs (t.order.getD 0 0)) 108 8)) ∧ w = w' := by
  have r4 : w.cell? ⟨rb, 4, none⟩ = some (.slice (some ⟨gb, 0, none⟩) t.order.length (m * (ss / 128))) := h.rd.cell 4
  have g0 := h.files 0 (by omega)
  have hcon := Lib.hid (modified_any _ _ _ _ _ _ _ _ _ _ _ w (h.file _ he) (h.ent _ he))
  generalize t.order.getD 0 0 = e0 at *
  generalize t.order.length = tl at *
  go_enter Tryd.func36, Tryd.ntmps36
  go_wp2_with fail
  refine hcon.out.mono ?_
  rintro e w1 ⟨rfl, rfl⟩
  go_wp2_with fail
  go_ret
  exact ⟨rfl, rfl⟩

set_option maxRecDepth 100000 in
set_option maxHeartbeats 1000000 in
theorem rid_any (h : RdOK w base rb sb F ss m cs P t mn mm mf ms hb fb gb dg dcap ub ul uc fk dk pv mfv msv) (hl : 1 ≤ t.order.length) (he : t.order.getD 0 0 < m * (ss / 128)) :
    Calls Tryd.prog 34 #[.pointer (some ⟨rb, 0, none⟩)] w fun e w' => e = .returned (.agg (guidA (fun j => entB F ss cs (t.order.getD 0 0) (80 + j)))) ∧ Fr [] w w' := by
  have r4 : w.cell? ⟨rb, 4, none⟩ = some (.slice (some ⟨gb, 0, none⟩) t.order.length (m * (ss / 128))) := h.rd.cell 4
  have g0 := h.files 0 (by omega)
  have hfl := h.file _ he
  have hen := h.ent _ he
  have lr := h.rd.lt
  have lg := World.block_lt_of_cell? w _ g0
  dsimp only at lg
  generalize t.order.getD 0 0 = e0 at *
  generalize t.order.length = tl at *
  generalize entB F ss cs e0 = G at *
  go_enter Tryd.func34, Tryd.ntmps34
  go_wp2_with fail
  refine (id_any _ _ _ _ _ _ _ _ _ _ G _ (hfl.alloc _) (hen.alloc _)).mono ?_
  rintro e w1 ⟨rfl, hf1⟩
  have hr1 := (Blk.new' w 97 (List.replicate 16 (Value.int .u8 0)).toArray).fr0 hf1
  go_wp2_with (with_reducible refine wpList_store_blk rfl 97 (.tmp 2) (.tmp 9) rfl w.heap.size 0 (guidA (fun j => G (80 + j))) rfl rfl 97 _ hr1 ?_ ?_ (guidA_one _) ?_)
  · simp [guidA_size]
  · rw [guidA_size]; kernel_rfl
  · intro w2 hf2 hb3
    have hfr : Fr [] w w2 := (((Fr.refl [] w).alloc _).trans0 hf1).trans hf2 (by simp)
    have e3 := splice_whole (List.replicate 16 (Value.int .u8 0)) (guidA (fun j => G (80 + j))).toList (by simp [guidA])
    have hb4 : Blk w2 w.heap.size 97 (guidA (fun j => G (80 + j))).toList := by rw [← e3]; exact hb3
    have hld : (loadVar 97 ⟨w.heap.size, 0, none⟩).run Tryd.prog w2 = .ok (.agg (guidA (fun j => G (80 + j)))) w2 := by
      have := run_loadVar_mid (P := Tryd.prog) w2 w.heap.size 0 97 (guidA (fun j => G (80 + j))).toList _ (fun j v hj => by rw [hb4.cell]; simpa using hj) Tryd.underlying97 rfl (by rw [Array.length_toList, guidA_size]; kernel_rfl)
      simpa using this
    clear hb3 hb4 e3 hf2
    go_wp2_with fail
    refine bodyPost_ret (v := .agg (guidA (fun j => G (80 + j)))) ?_ rfl ⟨rfl, hfr⟩
    simp [results, Tryd.results34, asAddr, hld]

theorem RdOK.fr0 {w' : World} (h : RdOK w base rb sb F ss m cs P t mn mm mf ms hb fb gb dg dcap ub ul uc fk dk pv mfv msv) (f : Fr [] w w') :
    RdOK w' base rb sb F ss m cs P t mn mm mf ms hb fb gb dg dcap ub ul uc fk dk pv mfv msv where
  rb_ := h.rb_
  rd := h.rd.fr0 f
  hd := h.hd.fr0 f
  hdb := h.hdb
  fd := h.fd.fr0 f
  files := fun i hi => f.cell0 (h.files i hi)
  file := fun e he => (h.file e he).fr0 f
  fileb := h.fileb
  filei := h.filei
  ent := fun e he => (h.ent e he).fr0 f
  path := fun q hq => (h.path q hq).fr f (by simp)
  mini := by
    rcases h.mini with h | ⟨a, b, k, h1, h2, h3, h4, h5, h6, h7⟩
    · exact .inl h
    · exact .inr ⟨a, b, k, h1, h2, h3, h4, h5, fun i hi => f.cell0 (h6 i hi), fun i hi => f.cell0 (h7 i hi)⟩
end
end Go.Proofs.YtokpomdfgbbhlaaDoor

/- The contract of Root over a sound file. -/
namespace Go.Proofs.YtokpomdfgbbhlaaDoor
open Go Go.RowKit Go.Maps

set_option maxRecDepth 100000 in
set_option maxHeartbeats 1000000 in
theorem root_ok (ab ao n ncap ss m mn mm : Nat) (F : Nat → UInt8) (cs mf ms : Nat → Nat) (P : Nat → EntP) (t : Tr) (w : World) (hB : ∀ i, i < n → w.cell? ⟨ab, ao + i, none⟩ = some (U8 (F i)))
    (hF : FileOK F n ss m cs P t mn mm mf ms) (hn : n ≤ 131072)
    (hp : ∀ i, 65 ≤ i → i ≤ 90 → w.cell? ⟨2, i, none⟩ = some (.int .u8 160)) (h2w : 2 < w.heap.size) (hl : 1 ≤ t.order.length) (h0 : t.order.getD 0 0 = 0) (hm : 0 < m * (ss / 128)) :
    Calls Tryd.prog 14 #[.slice (some ⟨ab, ao, none⟩) n ncap] w fun e w' => Fr [] w w' ∧
      e = .returned (.tuple #[.agg (guidA (fun j => entB F ss cs 0 (80 + j))), .int .u64 (fld (entB F ss cs 0) 100 8), .int .u64 (fld (entB F ss cs 0) 108 8), .int .i64 0]) := by
  go_enter Tryd.func14, Tryd.ntmps14
  go_wp2_with fail
  refine (opened_ok ab ao n ncap ss m mn mm F cs mf ms P t _ (fun i hi => ((Fr.refl [] w).alloc _).cell0 (hB i hi)) hF hn (fun i a b => ((Fr.refl [] w).alloc _).cell0 (hp i a b)) (by simp; omega)).mono ?_
  rintro e w1 ⟨base, sb, bb, cap, rb, hb, fb, gb, dg, dcap, ub, ul, uc, fk, dk, pv, mfv, msv, rfl, hf1, _, _, _, _, _, _, hR⟩
  have hr1 := (Blk.new' w 36 (List.replicate 16 (Value.int .u8 0)).toArray).fr0 hf1
  go_wp2_with fail
  have k1 := rid_any hR hl (by rw [h0]; exact hm)
  rw [h0] at k1
  generalize hG : entB F ss cs 0 = G at *
  refine k1.mono ?_
  rintro e w2 ⟨rfl, hf2⟩
  go_wp2_with fail
  have k2 := rcreated_any (hR.fr0 hf2) hl (by rw [h0]; exact hm)
  rw [h0, hG] at k2
  refine k2.mono ?_
  rintro e w3 ⟨rfl, rfl⟩
  go_wp2_with fail
  have k3 := rmodified_any (hR.fr0 hf2) hl (by rw [h0]; exact hm)
  rw [h0, hG] at k3
  refine k3.mono ?_
  rintro e w3 ⟨rfl, rfl⟩
  have hr2 := hr1.fr0 hf2
  clear k1 k2 k3
  go_wp2_with (refine wpList_store_blk rfl 36 (.tmp 2) (.tmp 20) rfl w.heap.size 0 (guidA (fun j => G (80 + j))) rfl rfl 36 _ hr2 ?_ ?_ (guidA_one _) ?_)
  · simp [guidA_size]
  · rw [guidA_size]; kernel_rfl
  · intro w4 hf4 hb3
    have hfr : Fr [] w w4 := ((((Fr.refl [] w).alloc _).trans0 hf1).trans0 hf2).trans hf4 (by simp)
    have e3 := splice_whole (List.replicate 16 (Value.int .u8 0)) (guidA (fun j => G (80 + j))).toList (by simp [guidA])
    have hb4 : Blk w4 w.heap.size 36 (guidA (fun j => G (80 + j))).toList := by rw [← e3]; exact hb3
    have hld : (loadVar 36 ⟨w.heap.size, 0, none⟩).run Tryd.prog w4 = .ok (.agg (guidA (fun j => G (80 + j)))) w4 := by
      have := run_loadVar_mid (P := Tryd.prog) w4 w.heap.size 0 36 (guidA (fun j => G (80 + j))).toList _ (fun j v hj => by rw [hb4.cell]; simpa using hj) Tryd.underlying36 rfl (by rw [Array.length_toList, guidA_size]; kernel_rfl)
      simpa using this
    clear hb3 hb4 e3 hf4
    go_wp2_with fail
    refine bodyPost_ret (v := .tuple #[.agg (guidA (fun j => G (80 + j))), .int .u64 (fld G 100 8), .int .u64 (fld G 108 8), .int .i64 0]) ?_ rfl ⟨hfr, by rw [hG]⟩
    simp [results, Tryd.results14, asAddr, hld]
end Go.Proofs.YtokpomdfgbbhlaaDoor

/- append onto a row of the call's own, as a step of a region that draws its order. -/
namespace Go.Proofs.YtokpomdfgbbhlaaDoor
open Go Go.RowKit Go.Maps

theorem step_append_own {P : Program} {ops : Array Oper} {o : Oper} {a : Act} {w : World} {K : Act → World → Prop} {Q : Exit → Act → World → Prop} {E : Prop} (hgd : o.guard = none) (s x : Operand) (t : TypeId)
    (ho : o.op = .call { callee := .builtin .append, args := #[s, x], argTypes := #[t, t] })
    (base : Nat) (e : TypeId) (i : TypeInfo) (z : Value) (size bytes : Nat) (ht : P.underlying t = some (.slice e)) (hi : P.info? e = some i) (hz : i.zero = some z)
    (hsize : i.size = size) (hby : i.bytes = bytes) (hzs : z.cells.size = size) (hsz : 0 < size)
    (v : Value) (n : Nat) (xs : List Value) (hs : a.eval s = v) (hown : w.ownsRow base e size v n xs)
    (ad : Addr) (m c : Nat) (news : List Value) (hx : a.eval x = .slice (some ad) m c) (hl : news.length = m * size) (hnews : ∀ j u, news[j]? = some u → w.cell? (ad.add j) = some u) (h1 : ∀ u ∈ news, u.oneCell' = true)
    (h63 : n + m ≤ maxLen) (hbytes : (n + m) * bytes ≤ 140737488355328) (hbase : base ≤ w.heap.size)
    (h : ∀ v' w', w'.ownsRow base e size v' (n + m) (xs ++ news) → w.grownBy w' v.ownBlock → K (a.put o.dst v') w') :
    if Region.wanted o (yielded ops a.tmps) = true then Oper.wp P o a w K Q else E := by
  have hw : Region.wanted o (yielded ops a.tmps) = true := by simp [Region.wanted, hgd]
  rw [if_pos hw]
  obtain ⟨v', w', hr, h2, h3, h4⟩ := run_append_own (P := P) w base t o.type e i z size bytes ht hi hz hsize hby hzs hsz v n xs hown ad m c news hl hnews h1 h63 hbytes hbase
  unfold Oper.wp
  simp only [execOp, ho, resolve, invoke, builtin, Sem.run_bind, Sem.run_pure, Result.andThen_ok, List.map_toArray, List.map_cons, List.map_nil, hs, hx, hr]
  exact h v' w' h2 h3
end Go.Proofs.YtokpomdfgbbhlaaDoor

/- The contract of Entries over a sound file. -/
namespace Go.Proofs.YtokpomdfgbbhlaaDoor
open Go Go.RowKit Go.Maps

theorem info40 : (Tryd.prog.info? 40).map (fun i => (i.zero.map (·.cells.size), i.size, i.bytes)) = some (some 27, 27, 104) := by kernel_rfl
theorem info40_parts : ∃ i z, Tryd.prog.info? 40 = some i ∧ i.zero = some z ∧ i.size = 27 ∧ i.bytes = 104 ∧ z.cells.size = 27 := by
  obtain ⟨i, hi, hzz⟩ := Option.map_eq_some_iff.1 info40
  simp only [Prod.mk.injEq] at hzz
  obtain ⟨z, h1, h2⟩ := Option.map_eq_some_iff.1 hzz.1
  exact ⟨i, z, hi, h1, hzz.2.1, hzz.2.2, h2⟩

/-- The cells of an Entry. -/
def entCells (p : EntP) (path : Value) (G : Nat → UInt8) : List Value :=
  [.string p.name, path, .int .i64 ((G 66).toNat : Nat), .int .i64 p.size, .int .i64 p.init] ++ (guidA (fun j => G (80 + j))).toList ++ (stateA (fun j => G (96 + j))).toList ++ [.int .u64 (fld G 100 8), .int .u64 (fld G 108 8)]
theorem entCells_length (p : EntP) (path : Value) (G : Nat → UInt8) : (entCells p path G).length = 27 := by simp [entCells, guidA, stateA]

/-- A list of texts, in a slice that may be nil. -/
def TextsIs (w : World) (base : Nat) (v : Value) (p : List ByteArray) : Prop := w.ownsRow base 9 1 v p.length (p.map Value.string)

theorem own_fr0 {w w' : World} {base : Nat} {e : TypeId} {size n : Nat} {v : Value} {xs : List Value} (h : w.ownsRow base e size v n xs) (f : Fr [] w w') : w'.ownsRow base e size v n xs := own_fr h f (by simp)
theorem news_new (w : World) (cs : Array Value) (e : TypeId) {l : List Value} (h : cs.toList = l) : ∀ j u, l[j]? = some u → (w.alloc (.cells cs e)).cell? ((⟨w.heap.size, 0, none⟩ : Addr).add j) = some u := by
  intro j u hj
  subst h
  rw [add_zero']
  exact ((Blk.new' w e cs).cell j).trans hj
theorem own_mono {w : World} {base base' : Nat} {e : TypeId} {size n : Nat} {v : Value} {xs : List Value} (h : w.ownsRow base e size v n xs) (hb : base' ≤ base) : w.ownsRow base' e size v n xs := by
  refine ⟨h.1, ?_⟩
  rcases h.2 with h0 | ⟨g, cap, cur, e1, h1, h2⟩
  · exact .inl h0
  · exact .inr ⟨g, cap, cur, e1, Nat.le_trans hb h1, h2⟩
theorem ent_last {wr w3 w4 : World} {o : Obj} {out pv : Value} {base b9 k n f0 : Nat} {rows xs l : List Value} (hfc : Fr [] wr w3) (hfo : Fr out.ownBlock.toList (w3.alloc o) w4) (hown : wr.ownsRow base 40 27 out k rows) (hfl : Blk wr f0 95 l)
    (ht : w3.ownsRow b9 9 1 pv n xs) : Blk w4 f0 95 l ∧ w4.ownsRow b9 9 1 pv n xs ∧ Fr out.ownBlock.toList wr w4 := by
  have h1 := own_fr0 hown (hfc.alloc o)
  have h2 := hfl.fr0 (hfc.alloc o)
  have h3 := own_fr0 ht ((Fr.refl [] w3).alloc o)
  exact ⟨h2.fr hfo (own_ne h1 h2 (by decide)), own_fr h3 hfo (own_sep h3 h1 (by decide)), ((hfc.alloc o).mono (by simp)).trans hfo (fun x hx => .inl hx)⟩
theorem entCells_one (p : EntP) (a : Option Addr) (n c : Nat) (G : Nat → UInt8) : ∀ u ∈ entCells p (.slice a n c) G, u.oneCell' = true := by
  intro u hu
  simp only [entCells, guidA, stateA, List.mem_append, List.mem_cons, List.not_mem_nil, or_false, tab, List.toList_toArray, List.mem_map] at hu
  rcases hu with ((h | ⟨i, _, rfl⟩) | ⟨i, _, rfl⟩) | h
  · rcases h with rfl | rfl | rfl | rfl | rfl <;> rfl
  · rfl
  · rfl
  · rcases h with rfl | rfl <;> rfl

/-- The entries' cells, one behind the other. -/
def entRows (k : Nat) (o : Nat → Nat) (P : Nat → EntP) (pth : Nat → Value) (B : Nat → Nat → UInt8) : List Value := (List.range k).flatMap (fun i => entCells (P (o i)) (pth i) (B (o i)))
theorem entRows_succ (k : Nat) (o : Nat → Nat) (P : Nat → EntP) (pth : Nat → Value) (B : Nat → Nat → UInt8) : entRows (k + 1) o P pth B = entRows k o P pth B ++ entCells (P (o k)) (pth k) (B (o k)) := by
  simp [entRows, List.range_succ]
theorem entRows_congr {k : Nat} {o : Nat → Nat} {P : Nat → EntP} {pth pth' : Nat → Value} {B : Nat → Nat → UInt8} (h : ∀ i, i < k → pth i = pth' i) : entRows k o P pth B = entRows k o P pth' B := by
  unfold entRows
  induction k with
  | zero => rfl
  | succ k ih =>
    rw [List.range_succ, List.flatMap_append, List.flatMap_append, ih (fun i hi => h i (by omega))]
    simp [h k (by omega)]


/-- sixteen bytes, written out. -/
theorem guidA_lit (f : Nat → UInt8) : guidA f = #[U8 (f 0), U8 (f 1), U8 (f 2), U8 (f 3), U8 (f 4), U8 (f 5), U8 (f 6), U8 (f 7), U8 (f 8), U8 (f 9), U8 (f 10), U8 (f 11), U8 (f 12), U8 (f 13), U8 (f 14), U8 (f 15)] := rfl
theorem stateA_lit (f : Nat → UInt8) : stateA f = #[U8 (f 0), U8 (f 1), U8 (f 2), U8 (f 3)] := rfl

theorem Tr.paths_fst (nm : Nat → ByteArray) : ∀ (t : Tr) (p : List ByteArray), (t.paths nm p).map Prod.fst = t.order
  | .nil, _ => rfl
  | .node e l c r, p => by simp [Tr.paths, Tr.order, Tr.paths_fst nm l, Tr.paths_fst nm c, Tr.paths_fst nm r]
theorem Tr.paths_at (nm : Nat → ByteArray) (t : Tr) (p : List ByteArray) (k : Nat) (hk : k < t.order.length) :
    (t.order.getD k 0, ((t.paths nm p).getD k (0, [])).2) ∈ t.paths nm p := by
  have h := Tr.paths_fst nm t p
  have hl : k < (t.paths nm p).length := by
    have := congrArg List.length h
    simp at this; omega
  have h2 : t.order.getD k 0 = ((t.paths nm p)[k]).1 := by
    rw [← h, List.getD_eq_getElem?_getD, List.getElem?_map, List.getElem?_eq_getElem hl]
    rfl
  rw [h2, List.getD_eq_getElem?_getD, List.getElem?_eq_getElem hl]
  exact List.getElem_mem hl

theorem Tr.paths_len (nm : Nat → ByteArray) : ∀ (t : Tr) (p : List ByteArray) (q : Nat × List ByteArray), q ∈ t.paths nm p → q.2.length ≤ p.length + t.order.length
  | .nil, p, q, h => by simp [Tr.paths] at h
  | .node e l c r, p, q, h => by
    simp only [Tr.paths, List.mem_append, List.mem_cons] at h
    simp only [Tr.order, List.length_append, List.length_cons]
    rcases h with h | rfl | h | h
    · have := Tr.paths_len nm l p q h; omega
    · simp
    · have h1 := Tr.paths_len nm c _ q h
      split at h1
      · omega
      · simp at h1; omega
    · have := Tr.paths_len nm r p q h; omega

set_option maxRecDepth 100000 in
set_option maxHeartbeats 4000000 in
theorem entries_ok (ab ao n ncap ss m mn mm : Nat) (F : Nat → UInt8) (cs mf ms : Nat → Nat) (P : Nat → EntP) (t : Tr) (w : World) (hB : ∀ i, i < n → w.cell? ⟨ab, ao + i, none⟩ = some (U8 (F i)))
    (hF : FileOK F n ss m cs P t mn mm mf ms) (hn : n ≤ 131072)
    (hp : ∀ i, 65 ≤ i → i ≤ 90 → w.cell? ⟨2, i, none⟩ = some (.int .u8 160)) (h2w : 2 < w.heap.size) :
    Calls Tryd.prog 11 #[.slice (some ⟨ab, ao, none⟩) n ncap] w fun e w' => Fr [] w w' ∧ ∃ (v : Value) (pth : Nat → Value), e = .returned (.tuple #[v, .int .i64 0]) ∧
      w'.ownsRow w.heap.size 40 27 v t.order.length (entRows t.order.length (fun i => t.order.getD i 0) P pth (entB F ss cs)) ∧
      ∀ i, i < t.order.length → TextsIs w' w.heap.size (pth i) (((t.paths (fun e => (P e).name) []).getD i (0, [])).2) := by
  go_enter Tryd.func11, Tryd.ntmps11
  go_wp2_with fail
  refine (opened_ok ab ao n ncap ss m mn mm F cs mf ms P t _ hB hF hn hp h2w).mono ?_
  rintro e w1 ⟨base, sb, bb, cap, rb, hb, fb, gb, dg, dcap, ub, ul, uc, fk, dk, pv, mfv, msv, rfl, hf1, _, _, _, _, _, _, hR⟩
  have r4 : w1.cell? ⟨rb, 4, none⟩ = some (.slice (some ⟨gb, 0, none⟩) t.order.length (m * (ss / 128))) := hR.rd.cell 4
  have hord : ∀ i, i < t.order.length → t.order.getD i 0 < m * (ss / 128) := by
    intro i hi
    refine hF.t1.lt _ ?_
    rw [List.getD_eq_getElem?_getD, List.getElem?_eq_getElem hi]
    simp
  have hfs := hR.files
  have HO := Lib.hid hord
  have HFS := Lib.hid hfs
  clear hord hfs
  generalize hlen : t.order.length = tl at *
  obtain ⟨i0, z0, hi, hz0, hz1, hz2, hz3⟩ := info40_parts
  have hown0 : w1.ownsRow w1.heap.size 40 27 (.slice none 0 0) 0 [] := World.ownsRow_nil _ _ _ _
  go_wp2_with fail
  go_loopw [7, 24] (fun s7 s24 wr => ∃ (k : Nat) (pth : Nat → Value), k ≤ tl ∧ s24 = .int .i64 k ∧ Fr [] w1 wr ∧ wr.ownsRow w1.heap.size 40 27 s7 k (entRows k (fun i => t.order.getD i 0) P pth (entB F ss cs)) ∧
    ∀ i, i < k → TextsIs wr w1.heap.size (pth i) (((t.paths (fun e => (P e).name) []).getD i (0, [])).2)) (fun _ s24 _ => tl - (intOf s24).toNat)
  case atStart => exact ⟨0, fun _ => .nilIface, by omega, rfl, Fr.refl _ _, by simpa [entRows] using hown0, fun i hi => by omega⟩
  case round =>
    obtain ⟨k, pth, hk, rfl, hf, hown, htx⟩ := hrel
    by_cases hlt : k < tl
    · have hltI : (k : Int) < tl := by omega
      have hke := HO.out k hlt
      obtain ⟨pb, pcap, hpv, hpb, hpB⟩ := hR.path _ (Tr.paths_at (fun e => (P e).name) t [] k (by rw [hlen]; exact hlt))
      simp only at hpv
      have g0 : wr.cell? ⟨gb, k, none⟩ = some (.pointer (some ⟨fk (t.order.getD k 0), 0, none⟩)) := hf.cell0 (HFS.out k hlt)
      have hfl := (hR.file _ hke).fr0 hf
      have hen := (hR.ent _ hke).fr0 hf
      have hpB2 := hpB.fr0 hf
      rw [hpv] at hfl
      have hppl := Tr.paths_len (fun e => (P e).name) t [] _ (Tr.paths_at (fun e => (P e).name) t [] k (by rw [hlen]; exact hlt))
      rw [hlen] at hppl
      generalize hpp : ((t.paths (fun e => (P e).name) []).getD k (0, [])).2 = pp at *
      generalize he0 : t.order.getD k 0 = e0 at *
      have HPP := Lib.hid hpp
      have HE := Lib.hid he0
      clear hpp he0
      generalize fk e0 = f0 at *
      generalize dk e0 = d0 at *
      have hinit : (P e0).init ≤ 90 := by
        rcases hF.ent e0 hke with ⟨_, _, _, h, _⟩ | ⟨_, _, _, _, _, _, _, h90, _, _, _, _, h, _⟩
        · omega
        · omega
      generalize hG : entB F ss cs e0 = G at *
      generalize hp0 : P e0 = p0 at *
      have HP0 := Lib.hid hp0
      clear hp0
      have HG := Lib.hid hG
      clear hG
      have hidc := Lib.hid (fun w0 (f : Fr [] wr w0) => id_any f0 d0 p0.name p0.init _ p0.size 0 (fld G 116 4) 0 rb G w0 (hfl.fr0 f) (hen.fr0 f))
      have hstc := Lib.hid (fun w0 (f : Fr [] wr w0) => state_any f0 d0 p0.name p0.init _ p0.size 0 (fld G 116 4) 0 rb G w0 (hfl.fr0 f) (hen.fr0 f))
      have htyc := Lib.hid (fun w0 (f : Fr [] wr w0) => type_any f0 d0 p0.name p0.init _ p0.size 0 (fld G 116 4) 0 rb G w0 (hfl.fr0 f) (hen.fr0 f))
      have hcrc := Lib.hid (fun w0 (f : Fr [] wr w0) => created_any f0 d0 p0.name p0.init _ p0.size 0 (fld G 116 4) 0 rb G w0 (hfl.fr0 f) (hen.fr0 f))
      have hmdc := Lib.hid (fun w0 (f : Fr [] wr w0) => modified_any f0 d0 p0.name p0.init _ p0.size 0 (fld G 116 4) 0 rb G w0 (hfl.fr0 f) (hen.fr0 f))
      simp only [guidA_lit, stateA_lit] at hidc hstc
      have q0 : wr.cell? ⟨f0, 0, none⟩ = some (.string p0.name) := hfl.cell 0
      have q1 : wr.cell? ⟨f0, 1, none⟩ = some (.int .u16 p0.init) := hfl.cell 1
      have q2 : wr.cell? ⟨f0, 2, none⟩ = some (.slice (some ⟨pb, 0, none⟩) pp.length pcap) := hfl.cell 2
      have q3 : wr.cell? ⟨f0, 3, none⟩ = some (.int .i64 p0.size) := hfl.cell 3
      obtain ⟨i9, hi9, hz9, hs9, hb9⟩ := info_parts info9
      have htl : pp.length ≤ 100000 := by
        have h1 := hF.t3
        have h2 := hF.m2
        rw [hlen] at h1
        have h3 : ss / 128 ≤ 32 := by rcases hF.hdr.shift with ⟨_, h⟩ | ⟨_, h⟩ <;> omega
        have h4 := Nat.mul_le_mul h2 h3
        simp at hppl
        omega
      have htl2 : tl ≤ 100000 := by
        have h1 := hF.t3
        have h2 := hF.m2
        rw [hlen] at h1
        have h3 : ss / 128 ≤ 32 := by rcases hF.hdr.shift with ⟨_, h⟩ | ⟨_, h⟩ <;> omega
        have h4 := Nat.mul_le_mul h2 h3
        omega
      have hnews : ∀ j u, (pp.map Value.string)[j]? = some u → wr.drew.cell? ((⟨pb, 0, none⟩ : Addr).add j) = some u := by
        intro j u hj
        rw [add_zero']
        exact (hpB2.cell j).trans hj
      have h1one : ∀ u ∈ pp.map Value.string, u.oneCell' = true := by
        intro u hu
        obtain ⟨x, _, rfl⟩ := List.mem_map.1 hu
        rfl
      have hbase : w1.heap.size ≤ wr.drew.heap.size := hf.size
      have HNEWS := Lib.hid hnews
      have HONE := Lib.hid h1one
      have HI9 := Lib.hid (And.intro hi9 (And.intro hz9 (And.intro hs9 hb9)))
      have HI40 := Lib.hid (And.intro hi (And.intro hz0 (And.intro hz1 (And.intro hz2 hz3))))
      have HOWN := Lib.hid hown
      have HTX := Lib.hid htx
      have HFL := Lib.hid hfl
      have hfc : Fr [] wr wr.drew := (Fr.refl _ _).drew
      have hppl2 : (pp.map Value.string).length = pp.length * 1 := by simp
      have HPPL := Lib.hid hppl2
      clear hnews h1one hi9 hz9 hs9 hb9 hown htx hfl hpB2 hpB hppl hppl2 hen hR hown0
      have hwi : IntKind.i64.wrap (p0.init : Int) = (p0.init : Int) := IntWalk.i64_in _ (by omega)
      go_upto_region 8 with (fail)
      go_region_held3 (fun w' => w'.cell? ⟨f0, 0, none⟩ = some (.string p0.name) ∧ w'.cell? ⟨f0, 1, none⟩ = some (.int .u16 p0.init) ∧ w'.cell? ⟨f0, 2, none⟩ = some (.slice (some ⟨pb, 0, none⟩) pp.length pcap) ∧ w'.cell? ⟨f0, 3, none⟩ = some (.int .i64 p0.size))
        (first | exact ⟨hfc.cell0 q0, hfc.cell0 q1, hfc.cell0 q2, hfc.cell0 q3⟩ | exact ⟨(hfc.alloc _).cell0 q0, (hfc.alloc _).cell0 q1, (hfc.alloc _).cell0 q2, (hfc.alloc _).cell0 q3⟩ | exact hkept)
        (first
          | (go_at_call 28; (with_reducible refine (htyc.out _ hfc).mono ?_); rintro e1 w3 ⟨rfl, rfl⟩)
          | (go_at_call 29; (with_reducible refine (hidc.out _ hfc).mono ?_); rintro e1 w3 ⟨rfl, hf3⟩; replace hfc := hfc.trans0 hf3; have HR9 := Lib.hid (own_fr HR9.out hf3 (by simp)); clear hf3)
          | (go_at_call 30; (with_reducible refine (hstc.out _ hfc).mono ?_); rintro e1 w3 ⟨rfl, hf3⟩; replace hfc := hfc.trans0 hf3; have HR9 := Lib.hid (own_fr HR9.out hf3 (by simp)); clear hf3)
          | (go_at_call 31; (with_reducible refine (hcrc.out _ hfc).mono ?_); rintro e1 w3 ⟨rfl, rfl⟩)
          | (go_at_call 32; (with_reducible refine (hmdc.out _ hfc).mono ?_); rintro e1 w3 ⟨rfl, rfl⟩)
          | (refine step_append_own rfl (.const (.slice none 0 0)) (.tmp 36) 35 rfl w1.heap.size 9 i9 (.string ⟨#[]⟩) 1 16 Tryd.underlying35 HI9.out.1 HI9.out.2.1 HI9.out.2.2.1 HI9.out.2.2.2 rfl (by decide) (.slice none 0 0) 0 [] rfl (own_nil _ _ _ _) ⟨pb, 0, none⟩ pp.length pcap (pp.map Value.string) rfl HPPL.out HNEWS.out HONE.out (by unfold maxLen; omega) (by omega) hbase ?_; rintro v9 w3 hr9 hg9; rw [Nat.zero_add, List.nil_append] at hr9; obtain ⟨a9, c9, rfl⟩ := own_slice hr9; have hfc9 : Fr [] wr w3 := hfc.trans0 (Fr.of_grown hg9); clear hfc; have hfc := hfc9; have HR9 := Lib.hid hr9; clear hr9 hg9 hfc9)
          | (refine step_append_own rfl (.tmp 28) (.tmp 58) 28 rfl w1.heap.size 40 i0 z0 27 104 Tryd.underlying28 HI40.out.1 HI40.out.2.1 HI40.out.2.2.1 HI40.out.2.2.2.1 HI40.out.2.2.2.2 (by decide) u7 k _ rfl (own_fr0 HOWN.out (hfc.alloc _)) ⟨_, 0, none⟩ 1 1 (entCells p0 (.slice a9 pp.length c9) G) rfl ?_ (news_new _ _ _ rfl) (entCells_one _ _ _ _ _) ?_ ?_ (Nat.le_trans hbase (hfc.alloc _).size) ?_
             · exact entCells_length _ _ _
             · unfold maxLen; omega
             · omega
             rintro v31 w4 hr31 hg31
             have hel := ent_last hfc (Fr.of_grown hg31) HOWN.out HFL.out HR9.out
             have hk := hel.1
             have hkept : w4.cell? ⟨f0, 0, none⟩ = some (.string p0.name) ∧ w4.cell? ⟨f0, 1, none⟩ = some (.int .u16 p0.init) ∧ w4.cell? ⟨f0, 2, none⟩ = some (.slice (some ⟨pb, 0, none⟩) pp.length pcap) ∧ w4.cell? ⟨f0, 3, none⟩ = some (.int .i64 p0.size) := ⟨hk.cell 0, hk.cell 1, hk.cell 2, hk.cell 3⟩
             have HFIN := Lib.hid (And.intro hel.2.2 (And.intro hr31 hel.2.1))
             clear hel hk hr31 hg31 HR9))
      all_goals
        clear hwi
        go_wp2_with fail
        go_roundw
        case rel =>
          obtain ⟨hFW, hr31, hT⟩ := HFIN.out
          refine ⟨k + 1, fun i => if i = k then .slice a9 pp.length c9 else pth i, by omega, by go_num, ?_, ?_, ?_⟩
          · exact hf.own HOWN.out (Nat.le_refl _) hFW
          · rw [entRows_succ]
            simp only [if_pos]
            rw [HE.out, HP0.out, HG.out, entRows_congr (pth' := pth) (fun i hi => if_neg (by omega))]
            exact hr31
          · intro i hi
            by_cases hik : i = k
            · subst hik
              simp only [if_pos]
              rw [HPP.out]
              exact hT
            · simp only [if_neg hik]
              have := HTX.out i (by omega)
              exact own_fr this hFW (own_sep this HOWN.out (by decide))
        case measure => simp [intOf]; omega
    · obtain rfl : k = tl := by omega
      have hrow : wr.ownsRow w.heap.size 40 27 u7 k (entRows k (fun i => t.order.getD i 0) P pth (entB F ss cs)) := own_mono hown hf1.size
      have htx2 : ∀ i, i < k → TextsIs wr w.heap.size (pth i) (((t.paths (fun e => (P e).name) []).getD i (0, [])).2) := fun i hi => own_mono (htx i hi) hf1.size
      have hfw := hf1.trans0 hf
      have H := Lib.hid (And.intro hfw (And.intro hrow htx2))
      clear hrow htx2 hfw hown htx hown0
      go_wp2_with fail
      go_ret2
      exact ⟨H.out.1, u7, pth, rfl, by rw [hlen]; exact H.out.2.1, by rw [hlen]; exact H.out.2.2⟩
end Go.Proofs.YtokpomdfgbbhlaaDoor

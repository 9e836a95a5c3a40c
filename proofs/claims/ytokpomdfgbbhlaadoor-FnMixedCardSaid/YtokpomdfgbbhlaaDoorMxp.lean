/- FnMixed: a stream is read, sought and written by steps, what is told is what stands there then, the file behind all is that of the stream with these bytes (part 16 of 18). No condition but the statement's own. -/
import Derived.Test.YtokpomdfgbbhlaaDoorMxo
set_option linter.all false
set_option linter.unusedVariables false
set_option linter.unusedSimpArgs false
set_option linter.unnecessarySimpa false
/- The walk of FnWalk. -/
namespace Go.Proofs.YtokpomdfgbbhlaaDoor
open Go Go.RowKit Go.Maps

theorem walkRow_length (nm : Nat → ByteArray) (rv : Nat → Value) (n : Nat) : (walkRow nm rv n).length = n * 2 := by
  induction n with
  | zero => rfl
  | succ n ih => rw [walkRow_succ, List.length_append, ih]; simp; omega
theorem tellRow_length (dv : Nat → Value) (us : Nat → Nat) (len n : Nat) : (tellRow dv us len n).length = n * 3 := by
  induction n with
  | zero => rfl
  | succ n ih => rw [tellRow_succ, List.length_append, ih]; simp; omega

theorem walkRow_get (nm : Nat → ByteArray) (rv : Nat → Value) (n k : Nat) (hk : k < n) : (walkRow nm rv n)[k * 2]? = some (.string (nm k)) ∧ (walkRow nm rv n)[k * 2 + 1]? = some (rv k) := by
  induction n with
  | zero => omega
  | succ n ih =>
    have hl := walkRow_length nm rv n
    rw [walkRow_succ]
    by_cases h : k < n
    · rw [List.getElem?_append_left (by omega), List.getElem?_append_left (by omega)]
      exact ih h
    · obtain rfl : k = n := by omega
      rw [List.getElem?_append_right (by omega), List.getElem?_append_right (by omega), hl]
      constructor
      · rw [Nat.sub_self]; rfl
      · rw [show k * 2 + 1 - k * 2 = 1 by omega]; rfl

theorem tellRow_get (dv : Nat → Value) (us : Nat → Nat) (len n k : Nat) (hk : k < n) : (tellRow dv us len n)[k * 3]? = some (dv k) ∧ (tellRow dv us len n)[k * 3 + 1]? = some (I64 (cntAt len (rdTo us len k) (us k))) ∧ (tellRow dv us len n)[k * 3 + 2]? = some (I64 (if cntAt len (rdTo us len k) (us k) = us k then 0 else 6)) := by
  induction n with
  | zero => omega
  | succ n ih =>
    have hl := tellRow_length dv us len n
    rw [tellRow_succ]
    by_cases h : k < n
    · rw [List.getElem?_append_left (by omega), List.getElem?_append_left (by omega), List.getElem?_append_left (by omega)]
      exact ih h
    · obtain rfl : k = n := by omega
      rw [List.getElem?_append_right (by omega), List.getElem?_append_right (by omega), List.getElem?_append_right (by omega), hl]
      refine ⟨?_, ?_, ?_⟩
      · rw [Nat.sub_self]; rfl
      · rw [show k * 3 + 1 - k * 3 = 1 by omega]; rfl
      · rw [show k * 3 + 2 - k * 3 = 2 by omega]; rfl

theorem take2 {l : List Value} {i : Nat} {a b : Value} (h0 : l[i]? = some a) (h1 : l[i + 1]? = some b) : (l.drop i).take 2 = [a, b] := by
  apply List.ext_getElem?
  intro j
  rw [List.getElem?_take]
  rcases j with _ | _ | j
  · rw [if_pos (by omega), List.getElem?_drop]; exact h0
  · rw [if_pos (by omega), List.getElem?_drop]; exact h1
  · rw [if_neg (by omega)]; rfl
theorem take3 {l : List Value} {i : Nat} {a b c : Value} (h0 : l[i]? = some a) (h1 : l[i + 1]? = some b) (h2 : l[i + 2]? = some c) : (l.drop i).take 3 = [a, b, c] := by
  apply List.ext_getElem?
  intro j
  rw [List.getElem?_take]
  rcases j with _ | _ | _ | j
  · rw [if_pos (by omega), List.getElem?_drop]; exact h0
  · rw [if_pos (by omega), List.getElem?_drop]; exact h1
  · rw [if_pos (by omega), List.getElem?_drop]; exact h2
  · rw [if_neg (by omega)]; rfl

theorem info42_ex : ∃ a, Tryd.prog.info? 42 = some a ∧ a.size = 28 := by
  have h : (Tryd.prog.info? 42).map (·.size) = some 28 := by kernel_rfl
  simpa using h
theorem nd_one {w : World} {x : Nd} {dv : Value} (h : DatIs w x dv) : (ndCells x dv).toArray.all (·.oneCell') = true := by
  refine all_oneCell_toArray (fun v hv => ?_)
  obtain ⟨ad, ac, hdv, _⟩ := h
  rw [hdv] at hv
  unfold ndCells at hv
  simp only [tab, List.mem_append, List.mem_cons, List.not_mem_nil, or_false, List.mem_map] at hv
  rcases hv with ((h | ⟨i, _, rfl⟩) | ⟨i, _, rfl⟩) | h
  · rcases h with rfl | rfl | rfl | rfl | rfl | rfl <;> rfl
  · rfl
  · rfl
  · rcases h with rfl | rfl <;> rfl

set_option maxRecDepth 100000 in
set_option maxHeartbeats 8000000 in
theorem fnwalk_any (nb no nn ncap cb co cn ccap zb zo zn zcap eb eo : Nat) (num : Nat → Nat) (cl sz : Nat → UInt8) (na ca za : Option Addr) (four : Bool) (step : Nat) (w : World) (hstep : step < 256)
    (hnc : nn ≤ ncap ∧ ncap ≤ 9223372036854775807) (hcc : cn ≤ ccap ∧ ccap ≤ 9223372036854775807) (hzc : zn ≤ zcap ∧ zcap ≤ 9223372036854775807)
    (hnum : ∀ i, num i < 4294967296) (hna : 0 < nn → na = some ⟨nb, no, none⟩) (hca : 0 < cn → ca = some ⟨cb, co, none⟩) (hza : 0 < zn → za = some ⟨zb, zo, none⟩)
    (hnums : ∀ i, i < nn → w.cell? ⟨nb, no + i, none⟩ = some (.int .u32 (num i : Nat))) (hcls : ∀ i, i < cn → w.cell? ⟨cb, co + i, none⟩ = some (U8 (cl i))) (hszs : ∀ i, i < zn → w.cell? ⟨zb, zo + i, none⟩ = some (U8 (sz i)))
    (hev : w.cell? ⟨0, 0, none⟩ = some (.iface 187 (.pointer (some ⟨eb, eo, none⟩))))
    (hp : ∀ i, 65 ≤ i → i ≤ 90 → w.cell? ⟨2, i, none⟩ = some (.int .u8 160)) (h2w : 2 < w.heap.size) :
    Calls Tryd.prog 5 #[.slice na nn ncap, .slice ca cn ccap, .bool four, .int .u8 (step : Int), .slice za zn zcap] w fun e w' => e = .returned (.bool true) ∧ Fr [] w w' := by
  have HNUM := Lib.hid hnum
  have HNA := Lib.hid hna
  have HCA := Lib.hid hca
  have HZA := Lib.hid hza
  have HNUMS := Lib.hid hnums
  have HCLS := Lib.hid hcls
  have HSZS := Lib.hid hszs
  have HP := Lib.hid hp
  have HEV := Lib.hid hev
  clear hnum hna hca hza hnums hcls hszs hp hev
  by_cases h1 : 2147483647 < nn
  · have hd : decide ((2147483647 : Int) < (nn : Int)) = true := by simp; omega
    go_enter Tryd.func5, Tryd.ntmps5
    go_wp2_with fail
    go_ret
    exact ⟨rfl, Fr.refl _ _⟩
  have hd1 : decide ((2147483647 : Int) < (nn : Int)) = false := by simp; omega
  by_cases h2 : 2147483647 < cn
  · have hd : decide ((2147483647 : Int) < (cn : Int)) = true := by simp; omega
    go_enter Tryd.func5, Tryd.ntmps5
    go_wp2_with fail
    go_ret
    exact ⟨rfl, Fr.refl _ _⟩
  have hd2 : decide ((2147483647 : Int) < (cn : Int)) = false := by simp; omega
  by_cases h2z : 2147483647 < zn
  · have hd : decide ((2147483647 : Int) < (zn : Int)) = true := by simp; omega
    go_enter Tryd.func5, Tryd.ntmps5
    go_wp2_with fail
    go_ret
    exact ⟨rfl, Fr.refl _ _⟩
  have hd2z : decide ((2147483647 : Int) < (zn : Int)) = false := by simp; omega
  by_cases h3 : 100 < nn
  · go_enter Tryd.func5, Tryd.ntmps5
    go_wp2_with fail
    refine (few_no1 _ _ nn cn _ _ _ h3).mono ?_
    rintro e w1 ⟨rfl, rfl⟩
    go_wp2_with fail
    go_ret
    exact ⟨rfl, Fr.refl _ _⟩
  by_cases h4 : 1000 < cn
  · go_enter Tryd.func5, Tryd.ntmps5
    go_wp2_with fail
    refine (few_no2 _ _ nn cn _ _ _ (by omega) h4).mono ?_
    rintro e w1 ⟨rfl, rfl⟩
    go_wp2_with fail
    go_ret
    exact ⟨rfl, Fr.refl _ _⟩
  by_cases h5 : 100 < zn
  · have hd : decide ((100 : Int) < (zn : Int)) = true := by simp; omega
    go_enter Tryd.func5, Tryd.ntmps5
    go_wp2_with fail
    refine (few_yes _ _ nn cn _ _ _ (by omega) (by omega)).mono ?_
    rintro e w1 ⟨rfl, rfl⟩
    go_wp2_with fail
    go_ret
    exact ⟨rfl, Fr.refl _ _⟩
  have hd5 : decide ((100 : Int) < (zn : Int)) = false := by simp; omega
  go_enter Tryd.func5, Tryd.ntmps5
  go_wp2_with fail
  refine (few_yes _ _ nn cn _ _ _ (by omega) (by omega)).mono ?_
  rintro e w1 ⟨rfl, rfl⟩
  go_wp2_with fail
  refine (nodes_any nb no nn ncap cb co cn ccap num cl na ca w hnc (by omega) HNUM.out HNA.out HCA.out HNUMS.out HCLS.out).mono ?_
  rintro e w1 ⟨lb, N, cap, nd, dv, t, rfl, hcap1, hcap2, hf1, hN⟩
  have hn1 := hN.n1
  have hn2 := hN.n2
  have HN := Lib.hid hN
  have HF1 := Lib.hid hf1
  clear hN hf1
  go_wp2_with fail
  have hwr := write_a lb cap ⟨N, nd, four, step⟩ dv w1 (HN.out.ok _ _) (HN.out.nds _ _) ⟨hcap1, hcap2⟩ (by show step ≤ 300; omega)
  have hver : (Lay.mk N nd four step).ver = if four = true then 4 else 3 := rfl
  have hLN : (Lay.mk N nd four step).N = N := rfl
  have hLS : (Lay.mk N nd four step).step = step := rfl
  have hLnd : (Lay.mk N nd four step).nd = nd := rfl
  rw [hver, hLN, hLS] at hwr
  generalize (Lay.mk N nd four step) = L at *
  generalize hv : (if four = true then 4 else 3) = ver at *
  have HV := Lib.hid hv
  have HWR := Lib.hid hwr
  have HL := Lib.hid (And.intro hLnd hLN)
  clear hwr hver hLN hLS hLnd hv
  refine (version_is four ver HV.out _).mono ?_
  rintro e w3 ⟨rfl, rfl⟩
  go_wp2_with fail
  refine HWR.out.mono ?_
  rintro e w3 ⟨ob, F, fat, mfat, W, rfl, hf3, hob, hB, hW⟩
  have HW := Lib.hid hW
  have HF3 := Lib.hid (HF1.out.trans0 hf3)
  have HN3 := Lib.hid (HN.out.fr hf3)
  have HB := Lib.hid hB
  clear hW hf3 HN hB HWR
  by_cases hbig : 131072 < L.bytes
  · have hd : (131072 : Int) < (L.bytes : Int) := by omega
    go_wp2_with fail
    go_ret
    exact ⟨rfl, HF3.out⟩
  have hdI : ¬ (131072 : Int) < (L.bytes : Int) := by omega
  obtain ⟨nu, hnu⟩ : ∃ nu, nu = min zn 12 := ⟨_, rfl⟩
  have hnI : min (zn : Int) 12 = (nu : Int) := by omega
  have hnu12 : nu ≤ 12 := by omega
  have hnuz : nu ≤ zn := by omega
  have HNU := Lib.hid hnu
  clear hnu
  go_upto_region 10 with (fail)
  have hf4 : Fr [] w3 (w3.alloc (Obj.cells #[] 3)) := (Fr.refl _ _).alloc _
  have ho4 : (w3.alloc (Obj.cells #[] 3)).ownsRow w3.heap.size 3 1 (.slice (some ⟨w3.heap.size, 0, none⟩) 0 0) 0 [] := World.ownsRow_made w3 #[] 0 (Nat.le_refl _) (by unfold maxLen; omega) rfl
  have HF4 := Lib.hid hf4
  have hs4 : w3.heap.size ≤ (w3.alloc (Obj.cells #[] 3)).heap.size := hf4.size
  clear hf4
  generalize w3.alloc (Obj.cells #[] 3) = w4 at *
  generalize hb4 : w3.heap.size = b4 at *
  have HB4 := Lib.hid hb4
  clear hb4
  go_cut [66, 67, 68] from 62 to 68 (fun s66 s67 s68 w5 => ∃ c', s66 = .slice za nu c' ∧ s67 = .int .i64 nu ∧ s68 = .int .i64 0 ∧ w4 = w5)
  case first =>
    have hnu := HNU.out
    have hnI' := hnI
    clear hnI hnI'
    by_cases h12 : zn ≤ 12
    · obtain rfl : nu = zn := by omega
      have h12I : (nu : Int) ≤ 12 := by omega
      have hnz : (nu : Int) ≤ (zcap : Int) := by omega
      clear hnu
      rcases za with _ | ad
      · go_wp2_with fail
        go_meet
        case rel => exact ⟨_, rfl, by first | rfl | simp, rfl, rfl⟩
      · go_wp2_with fail
        go_meet
        case rel => exact ⟨_, rfl, by first | rfl | simp, rfl, rfl⟩
    · obtain rfl : nu = 12 := by omega
      have h12I : (12 : Int) < (zn : Int) := by omega
      have hnz : (12 : Int) ≤ (zcap : Int) := by omega
      obtain rfl := HZA.out (by omega)
      clear hnu
      go_wp2_with fail
      go_meet
      case rel => exact ⟨_, rfl, by first | rfl | simp, rfl, rfl⟩
  case rest =>
  obtain ⟨c', rfl, rfl, rfl, rfl⟩ := hcut
  obtain ⟨us, hus⟩ : ∃ us : Nat → Nat, us = fun j => 1 + (sz j).toNat % 80 := ⟨_, rfl⟩
  have HUS := Lib.hid hus
  have HO4 := Lib.hid ho4
  clear hus ho4
  go_wp2_with fail
  go_loopw [13, 68] (fun s13 s68 wr => ∃ i : Nat, i ≤ nu ∧ s68 = .int .i64 i ∧ Fr [] w3 wr ∧ wr.ownsRow b4 3 1 s13 i (tab i (fun j => I64 (us j))) ∧ ∃ ua uc, s13 = .slice ua i uc ∧ (i = 0 → ua = some ⟨b4, 0, none⟩ ∧ uc = 0)) (fun _ s68 _ => nu - (intOf s68).toNat)
  case atStart => exact ⟨0, by omega, rfl, HF4.out, HO4.out, _, _, rfl, fun _ => ⟨rfl, rfl⟩⟩
  case round =>
    obtain ⟨i, hi, rfl, hf, hown, ua, uc, rfl, hua0⟩ := hrel
    by_cases hin : i < nu
    · have hinI : (i : Int) < (nu : Int) := by omega
      obtain rfl := HZA.out (by omega)
      have hc := hf.cell0 (HF3.out.cell0 (HSZS.out i (by omega)))
      have hbase : b4 ≤ wr.heap.size := by have := HB4.out; have := hf.size; omega
      have hsz := (sz i).toNat_lt
      have husi : us i = 1 + (sz i).toNat % 80 := by rw [HUS.out]
      have HUI := Lib.hid husi
      clear husi hua0
      go_wp2_with (at_builtin; refine wpList_app1 rfl (.tmp 72) (.tmp 77) 31 rfl 3 (.int .i64 0) 8 Tryd.underlying31 info3 rfl (by decide) b4 _ i _ rfl _ hown rfl rfl (by omega) hbase ?_)
      intro v' w1 hown1 hg1
      have hf1 := hf.own hown (by rw [HB4.out]; exact Nat.le_refl _) hg1
      have hown2 := own_tab hown1 (by rw [HUI.out]; show Value.int .i64 _ = Value.int .i64 _; push_cast; rfl)
      obtain ⟨ua', uc', rfl⟩ := own_slice hown2
      clear hown1 hg1 hown hf
      go_wp2_with fail
      go_roundw
      case rel => exact ⟨i + 1, by omega, by go_num, hf1, hown2, _, _, rfl, fun h => by omega⟩
      case measure => simp [intOf]; omega
    obtain rfl : i = nu := by omega
    have hinI : ¬ (i : Int) < (i : Int) := by omega
    have hN4 := HN3.out.fr hf
    have hord := order_any lb N cap hn2 ⟨hcap1, hcap2⟩ nd dv t wr hN4.row hN4.tree.fits hN4.tree.lt (by rw [hN4.tree.len]; omega)
    rw [hN4.tree.len] at hord
    have HO := Lib.hid hord
    have HN5 := Lib.hid hN4
    have HQ := Lib.hid (And.intro hf hown)
    have HUA := Lib.hid hua0
    clear hord hN4 hf hown hua0
    go_wp2_with fail
    refine HO.out.mono ?_
    rintro e w6 ⟨v1, v2, vs, rfl, hf6, ho1, ho2, hpa⟩
    obtain ⟨hf3, hown⟩ := HQ.out
    have hown6 := own_fr0 hown hf6
    have huse : ∃ ub', ua = some ⟨ub', 0, none⟩ ∧ (∀ j, j < i → w6.cell? ⟨ub', j, none⟩ = some (I64 (us j))) ∧ i ≤ uc ∧ uc ≤ 9223372036854775807 := by
      rcases Nat.eq_zero_or_pos i with h0 | h0
      · obtain ⟨e1, e2⟩ := HUA.out h0
        exact ⟨b4, e1, fun j hj => by omega, by omega, by omega⟩
      · obtain ⟨b, c, l, h1, _, h2, h3, h4, h5⟩ := own_blk2 hown6 h0
        injection h1 with h1a h1b h1c
        subst h1a h1c
        exact ⟨b, rfl, fun j hj => (h2.cell j).trans (h3 j hj), h4, h5⟩
    obtain ⟨ub', rfl, hucs, huc1, huc2⟩ := huse
    have hF36 := HF3.out.trans0 (hf3.trans0 hf6)
    have hF63 := hf3.trans0 hf6
    have hub : ∀ j, j < i → 1 ≤ us j ∧ us j ≤ 80 := fun j _ => by rw [HUS.out]; dsimp only; omega
    have hN6 := HN5.out.fr hf6
    have hww := walk_wrote hN6 L HL.out HW.out (by omega) ob (HB.out.fr0 hF63) (fun i a b => hF36.cell0 (HP.out i a b)) (Nat.lt_of_lt_of_le h2w hF36.size) ub' i uc eb eo (some ⟨ub', 0, none⟩) us (fun _ => rfl) hucs hnu12 hub ⟨huc1, huc2⟩ (hF36.cell0 HEV.out)
    obtain ⟨b1, c1, l1, rfl, _, hl1, hg1, hb1a, hb1b, _⟩ := own_blkS ho1 hn1
    have hlen : t.order.length = N := hN6.tree.len
    have hord6 : ∀ k, k < N → w6.cell? ⟨b1, k, none⟩ = some (I64 (t.order.getD k 0)) ∧ t.order.getD k 0 < N := by
      intro k hk
      have e1 : t.order.getD k 0 = t.order[k] := by rw [List.getD_eq_getElem?_getD, List.getElem?_eq_getElem (by omega)]; rfl
      rw [hl1.cell, hg1 k (by omega), List.getElem?_map, List.getElem?_eq_getElem (by omega), e1]
      exact ⟨rfl, hN6.tree.lt _ (List.getElem_mem (by omega))⟩
    have HWW := Lib.hid hww
    have HORD := Lib.hid hord6
    have HN6 := Lib.hid hN6
    have HF6 := Lib.hid hF36
    have HUC := Lib.hid hucs
    have HUB := Lib.hid hub
    obtain ⟨M, hM⟩ : ∃ M, N = M + 1 := ⟨N - 1, by omega⟩
    have hMN : N - 1 = M := by omega
    rw [hMN] at hww
    have HWW := Lib.hid hww
    have hMI : (N : Int) - 1 = (M : Int) := by omega
    have HM := Lib.hid hM
    clear hww hord6 hN6 hF36 hucs hub hown6 hown hf3 hf6 ho1 ho2 hpa hl1 hg1 hF63 HO HN5 HQ HUA hMN hM hlen
    go_wp2_with fail
    refine HWW.out.mono ?_
    rintro e w7 ⟨hf7, v7, rfl, rv, hwo, hrds⟩
    obtain ⟨wa, wc, rfl⟩ := own_slice hwo
    have HWO := Lib.hid (And.intro hwo (And.intro hrds hf7))
    clear hwo hrds hf7
    go_wp2_with fail
    go_loopw [103] (fun s103 wr => ∃ k : Nat, k ≤ M ∧ s103 = .int .i64 k ∧ Fr [] w7 wr) (fun s103 _ => M - (intOf s103).toNat)
    case atStart => exact ⟨0, by omega, rfl, Fr.refl _ _⟩
    case round =>
      obtain ⟨k, hk, rfl, hf⟩ := hrel
      by_cases hkM : k < M
      case neg =>
        obtain rfl : k = M := by omega
        have hkI : ¬ (k : Int) < (k : Int) := by omega
        have HFN := Lib.hid (HF6.out.trans0 (HWO.out.2.2.trans0 hf))
        clear hf
        go_wp2_with fail
        go_ret
        exact ⟨rfl, HFN.out⟩
      have hkI : (k : Int) < (M : Int) := by omega
      obtain ⟨q1, he⟩ := HORD.out (k + 1) (by have := HM.out; omega)
      have hf67 := HWO.out.2.2.trans0 hf
      replace q1 := hf67.cell0 q1
      obtain ⟨gb, gc, gl, hgv, _, hgB, hgl, _, _, hgL⟩ := own_blkS HWO.out.1 (by omega : 1 ≤ M)
      injection hgv with hg1 hg2 hg3
      subst hg1 hg3
      obtain ⟨w1g, w2g⟩ := walkRow_get (fun k => (nd (t.order.getD (k + 1) 0)).name) rv M k hkM
      have hrd := HWO.out.2.1 k hkM
      have hN8 := HN6.out.fr hf67
      have hrow := hN8.row
      have hdat := hN8.dat _ he
      have hgB8 := hgB.fr0 hf
      have hgl1 := (hgl (k * 2) (by omega)).trans w1g
      have hgl2 := (hgl (k * 2 + 1) (by omega)).trans w2g
      have hglen : k * 2 + 2 ≤ gl.length := by rw [hgL]; have := (List.getElem?_eq_some_iff.1 hgl2).1; omega
      generalize t.order.getD (k + 1) 0 = e at *
      generalize rv k = rvk at *
      obtain ⟨dvk, hro, hrb⟩ := hrd
      obtain ⟨ra, rc, rfl⟩ := own_slice hro
      have hgt := take2 hgl1 hgl2
      have heI : (e : Int) < (N : Int) := by omega
      have hkNI : (k : Int) + 1 < (N : Int) := by omega
      have HRO := Lib.hid (And.intro (own_fr0 hro hf) (fun j (hj : j < i) => own_fr0 (hrb j hj) hf))
      have HF := Lib.hid (And.intro hf hf67)
      have HROW := Lib.hid hrow
      have HDAT := Lib.hid hdat
      clear hf hf67 hro hrb hN8 hgl hgB hgl1 hgl2 w1g w2g hrow hdat hgL
      go_upto_region 21 with (fail)
      go_cut [20, 21] from 105 to 107 (fun s20 s21 w8 => ∃ g1 : Nat, s20 = .int .i64 k ∧ s21 = .pointer (some ⟨g1, 0, none⟩) ∧ Fr [] wr w8 ∧ Blk w8 g1 53 [.string (nd e).name, .slice ra i rc])
      case first =>
        go_wp2_with (first
          | (refine wpList_load_blk rfl 53 (.tmp 106) rfl gb (k * 2) rfl 53 gl hgB8 _ Tryd.underlying53 rfl 2 (by kernel_rfl) hglen #[.string (nd e).name, .slice ra i rc] hgt ?_)
          | (refine wpList_store_blk rfl 53 (.tmp 21) (.tmp 107) rfl wr.heap.size 0 #[.string (nd e).name, .slice ra i rc] rfl rfl 53 _ (Blk.new' wr 53 _) ?c1 ?c2 rfl ?_))
        go_meet
        case rel => exact ⟨wr.heap.size, rfl, rfl, (Fr.refl _ _).alloc _, Blk.new' _ _ _⟩
      case rest =>
      obtain ⟨g1, rfl, rfl, hf8, hg1B⟩ := hcut
      obtain ⟨ll, hll, hlc⟩ := HROW.out.fr hf8 (by simp)
      have hcs : (ll.drop (e * 28)).take 28 = ndCells (nd e) (dv e) := by
        apply List.ext_getElem?
        intro j
        rw [List.getElem?_take]
        by_cases hj : j < 28
        · rw [if_pos hj, List.getElem?_drop]; exact hlc e he j hj
        · rw [if_neg hj, List.getElem?_eq_none (by rw [ndCells_length]; omega)]
      have hle : e * 28 + 28 ≤ ll.length := by
        have h0 := hlc e he 27 (by omega)
        rw [List.getElem?_eq_getElem (show 27 < (ndCells (nd e) (dv e)).length by rw [ndCells_length]; omega)] at h0
        have := (List.getElem?_eq_some_iff.1 h0).1
        omega
      obtain ⟨xl, hxl⟩ : ∃ x : Array Value, x = (ndCells (nd e) (dv e)).toArray := ⟨_, rfl⟩
      have hcs2 : (ll.drop (e * 28)).take 28 = xl.toList := by rw [hxl]; exact hcs
      have hxsz : xl.size = 28 := by rw [hxl]; simp [ndCells_length]
      have hxone : xl.all (·.oneCell') = true := by rw [hxl]; exact nd_one HDAT.out
      have q1' := hf8.cell0 q1
      have HXL := Lib.hid hxl
      have HXS := Lib.hid hxsz
      have HCS2 := Lib.hid hcs2
      have HG1 := Lib.hid hg1B
      have HF8 := Lib.hid hf8
      clear hlc hcs hxl hxsz hcs2 hg1B hf8 hgB8 hgt
      go_upto_region 22 with (fail)
      go_cut [22] from 108 to 115 (fun s22 w9 => ∃ g3 : Nat, s22 = .pointer (some ⟨g3, 0, none⟩) ∧ Fr [] wc w9 ∧ Blk w9 g3 42 (ndCells (nd e) (dv e)))
      case first =>
        go_wp2_with (first | (refine wpList_load_blk rfl 42 (.tmp 114) rfl lb (e * 28) rfl 42 ll hll _ Tryd.underlying42 rfl 28 (by kernel_rfl) hle xl HCS2.out ?_) | (refine wpList_store_blk rfl 42 (.tmp 22) (.tmp 115) rfl wc.heap.size 0 xl rfl rfl 42 _ (Blk.new' wc 42 _) ?_ ?_ hxone ?_))
        · rw [HXS.out]; show 0 + 28 ≤ 28; omega
        · rw [HXS.out]; first | kernel_rfl | exact info42_ex
        · intro w5 hf5 hb5
          rw [splice_whole _ _ (by show (28 : Nat) = xl.toList.length; rw [Array.length_toList, HXS.out]), HXL.out] at hb5
          have HR := Lib.hid (And.intro (((Fr.refl [] wc).alloc _).trans hf5 (by simp)) hb5)
          clear hf5 hb5
          go_wp2_with fail
          go_meet
          case rel => exact ⟨_, rfl, HR.out.1, HR.out.2⟩
      case rest =>
      obtain ⟨g3, rfl, hf9, hg3B⟩ := hcut
      have hg1C := HG1.out.fr0 hf9
      have hfr9 := HF8.out.trans0 hf9
      have e10 : wc.cell? ⟨g1, 0, none⟩ = some (.string (nd e).name) := hg1C.cell 0
      have e11 : wc.cell? ⟨g1, 1, none⟩ = some (.slice ra i rc) := hg1C.cell 1
      have e30 : wc.cell? ⟨g3, 0, none⟩ = some (.string (nd e).name) := hg3B.cell 0
      have HG1 := Lib.hid hg1C
      have HG3 := Lib.hid hg3B
      have HF9 := Lib.hid hfr9
      have HF79 := Lib.hid (HF.out.2.trans0 hfr9)
      clear hg1C hg3B hfr9 hf9 hll hle hxone q1' q1
      go_wp2_with fail
      go_loopw [23, 132] (fun s23 s132 w10 => ∃ j : Nat, j ≤ i ∧ s132 = .int .i64 j ∧ s23 = .int .i64 (rdTo us (nd e).len j) ∧ Fr [] wc w10) (fun _ s132 _ => i - (intOf s132).toNat)
      case atStart => exact ⟨0, by omega, rfl, by rw [rdTo_zero]; rfl, Fr.refl _ _⟩
      case round =>
        obtain ⟨j, hj, rfl, rfl, hfj⟩ := hrel
        by_cases hji : j < i
        case neg =>
          obtain rfl : j = i := by omega
          have hjI : ¬ (j : Int) < (j : Int) := by omega
          have HFJ := Lib.hid (HF.out.1.trans0 (HF9.out.trans0 hfj))
          clear hfj
          go_wp2_with fail
          go_roundw
          case rel => exact ⟨k + 1, by omega, by go_num, HFJ.out⟩
          case measure => simp [intOf]; omega
        have hjI : (j : Int) < (i : Int) := by omega
        have hro := own_fr0 HRO.out.1 (HF9.out.trans0 hfj)
        have hby := BytesV.of_own (own_fr0 (HRO.out.2 j hji) (HF9.out.trans0 hfj))
        obtain ⟨da, dc, hdv⟩ := own_slice (HRO.out.2 j hji)
        obtain ⟨tb, tc, tl, htv, _, htB, htl, _, _, htL⟩ := own_blkS hro (by omega : 1 ≤ i)
        injection htv with ht1 ht2 ht3
        subst ht1 ht3
        obtain ⟨u1, u2, u3⟩ := tellRow_get dvk us (nd e).len i j hji
        have hl1 := (htl (j * 3) (by omega)).trans u1
        have hl2 := (htl (j * 3 + 1) (by omega)).trans u2
        have hl3 := (htl (j * 3 + 2) (by omega)).trans u3
        have htlen : j * 3 + 3 ≤ tl.length := by have := (List.getElem?_eq_some_iff.1 hl3).1; omega
        have hgt3 := take3 hl1 hl2 hl3
        rw [hdv] at hby hgt3
        obtain ⟨a0, dcap, hdve, hdc1, hdc2, hdb⟩ := HDAT.out
        have hatle := rdTo_le us (nd e).len j
        have hsucc := rdTo_succ us (nd e).len j
        have hcdef : cntAt (nd e).len (rdTo us (nd e).len j) (us j) = min (us j) ((nd e).len - rdTo us (nd e).len j) := rfl
        obtain ⟨hu1, hu2⟩ := HUB.out j hji
        have hln9 : (nd e).len ≤ 9000 := (HN6.out.ok false 0).len e he
        generalize hatq : rdTo us (nd e).len j = at_ at *
        generalize hcq : cntAt (nd e).len at_ (us j) = cnt at *
        generalize hkq : (if cnt = us j then 0 else 6) = kc at *
        generalize hlq : (nd e).len = len at *
        generalize huq : us j = u at *
        have hucell : wr.cell? ⟨ub', j, none⟩ = some (I64 u) := by rw [← huq]; exact hfj.cell0 (HF79.out.cell0 (HUC.out j hji))
        have hg3r := HG3.out.fr0 hfj
        have e32 : wr.cell? ⟨g3, 2, none⟩ = some (.slice a0 len dcap) := by rw [← hdve]; exact hg3r.cell 2
        have HSU := Lib.hid hsucc
        have HAT := Lib.hid hatq
        have HCQ := Lib.hid hcq
        have HKQ := Lib.hid hkq
        have HBY := Lib.hid hby
        have HCD := Lib.hid hcdef
        have HDB := Lib.hid hdb
        have HFJ := Lib.hid hfj
        clear hsucc hatq hcq hkq hlq huq hby hcdef hdb hfj hro htl u1 u2 u3 hl1 hl2 hl3 hdv hdve hg3r htL
        go_upto_region 28 with (fail)
        go_cut [24, 25] from 134 to 136 (fun s24 s25 w11 => ∃ g5 : Nat, s24 = .int .i64 j ∧ s25 = .pointer (some ⟨g5, 0, none⟩) ∧ Fr [] wr w11 ∧ Blk w11 g5 55 [.slice da cnt dc, I64 cnt, I64 kc])
        case first =>
          go_wp2_with (first
            | (refine wpList_load_blk rfl 55 (.tmp 135) rfl tb (j * 3) rfl 55 tl htB _ Tryd.underlying55 rfl 3 (by kernel_rfl) htlen #[.slice da cnt dc, I64 cnt, I64 kc] hgt3 ?_)
            | (refine wpList_store_blk rfl 55 (.tmp 25) (.tmp 136) rfl wr.heap.size 0 #[.slice da cnt dc, I64 cnt, I64 kc] rfl rfl 55 _ (Blk.new' wr 55 _) ?c1 ?c2 rfl ?_))
          go_meet
          case rel => exact ⟨wr.heap.size, rfl, rfl, (Fr.refl _ _).alloc _, Blk.new' _ _ _⟩
        case rest =>
        obtain ⟨g5, rfl, rfl, hf11, hg5B⟩ := hcut
        have e32' := hf11.cell0 e32
        have hu' := hf11.cell0 hucell
        have HF11 := Lib.hid hf11
        have HG5 := Lib.hid hg5B
        clear hf11 hg5B hgt3 htB htlen e32 hucell
        obtain ⟨hi_, hhi⟩ : ∃ h, h = at_ + cnt := ⟨_, rfl⟩
        have hcd := HCD.out
        have hcl : at_ + cnt ≤ len := by omega
        have hi1 : (at_ : Int) ≤ (hi_ : Int) := by omega
        have hi2 : (hi_ : Int) ≤ (dcap : Int) := by omega
        have hmin : ((at_ : Int) + (u : Int) ≤ (len : Int) ∧ hi_ = at_ + u) ∨ ((len : Int) < (at_ : Int) + (u : Int) ∧ hi_ = len) := by omega
        have hwat : IntKind.i64.wrap ((at_ : Int) + (u : Int)) = (at_ : Int) + (u : Int) := IntWalk.i64_in _ (by omega)
        have HHI := Lib.hid hhi
        have HCL := Lib.hid hcl
        clear hhi hcd hcl
        go_upto_region 29 with (fail)
        go_cut [26] from 137 to 150 (fun s26 w12 => Fr [] wc w12 ∧ ∃ pa pc, s26 = .slice pa cnt pc ∧ BytesV w12 (.slice pa cnt pc) cnt (fun z => (nd e).dat (at_ + z)))
        case first =>
          have hbv : ∀ w', Fr [] wc w' → BytesV w' (.slice (Option.map (fun x => x.add at_) a0) cnt (dcap - at_)) cnt (fun z => (nd e).dat (at_ + z)) := by
            intro w' hfx
            rcases Nat.eq_zero_or_pos len with h0 | h0
            · have hc0 : cnt = 0 := by have := HCL.out; omega
              rw [hc0]
              exact .inl ⟨⟨_, _, rfl⟩, rfl⟩
            · obtain ⟨b, o, rfl, l, hl, hlx⟩ := HDB.out h0
              refine .inr ⟨b, o + at_, dcap - at_, by rw [Option.map_some, Addr.add_mid], fun z hz => ?_⟩
              have hlb := (((hl.fr0 HF9.out).fr0 HFJ.out).fr0 HF11.out).fr0 hfx
              rw [hlb.cell, Nat.add_assoc]
              exact hlx (at_ + z) (by have := HCL.out; omega)
          have HBV := Lib.hid hbv
          clear hbv
          by_cases hdd : dcap = at_
          · have hla : len = at_ := by have := HCL.out; omega
            have hc0 : cnt = 0 := by have := HCL.out; omega
            have hmI : ¬ (at_ : Int) + (u : Int) < (len : Int) := by omega
            have hlq : len - at_ = cnt := by omega
            have HC0 := Lib.hid (And.intro hc0 (And.intro hla hlq))
            clear hmin hc0 hla hlq
            go_quiet (fail)
            go_wp2_with fail
            go_meet
            case rel =>
              refine ⟨(Fr.refl _ _).drewN _, _, _, by first | rw [HC0.out.2.2] | rfl, ?_⟩
              rw [HC0.out.1]
              exact .inl ⟨⟨_, _, rfl⟩, rfl⟩
          · by_cases hmI : (at_ : Int) + (u : Int) < (len : Int)
            · have hlq : at_ + u - at_ = cnt := by have := HHI.out; omega
              have HLQ := Lib.hid hlq
              clear hlq hmin
              go_quiet (fail)
              go_wp2_with fail
              go_meet
              case rel =>
                refine ⟨(Fr.refl _ _).drewN _, _, _, ?_, HBV.out _ ((Fr.refl _ _).drewN _)⟩
                have := HLQ.out
                first
                  | rw [show ((at_ : Int) + (u : Int)).toNat - at_ = cnt by omega]
                  | rw [show u = cnt by omega]
                  | rw [HLQ.out]
            · have hlq : len - at_ = cnt := by have := HHI.out; omega
              have HLQ := Lib.hid hlq
              clear hlq hmin
              go_quiet (fail)
              go_wp2_with fail
              go_meet
              case rel =>
                refine ⟨(Fr.refl _ _).drewN _, _, _, ?_, HBV.out _ ((Fr.refl _ _).drewN _)⟩
                rw [HLQ.out]
        case rest =>
        obtain ⟨hf12, pa, pc, rfl, hbv⟩ := hcut
        have hg5C := HG5.out.fr0 hf12
        have t0 : wc.cell? ⟨g5, 0, none⟩ = some (.slice da cnt dc) := hg5C.cell 0
        have t1 : wc.cell? ⟨g5, 1, none⟩ = some (I64 cnt) := hg5C.cell 1
        have t2 : wc.cell? ⟨g5, 2, none⟩ = some (I64 kc) := hg5C.cell 2
        have hu12 := hf12.cell0 hu'
        have hby12 := (HBY.out.fr0 HF11.out).fr0 hf12
        have hsame : ∀ n, Calls Tryd.prog 16 #[.slice da cnt dc, .slice pa cnt pc] (wc.drewN n) fun e w'' => e = .returned (.bool true) ∧ w'' = wc.drewN n := by
          intro n
          refine (same_any _ _ cnt _ (wc.drewN n) (hby12.fr0 ((Fr.refl _ _).drewN _)) (hbv.fr0 ((Fr.refl _ _).drewN _))).mono ?_
          rintro e w'' ⟨h1, h2⟩
          exact ⟨h1, h2.symm⟩
        have HSM := Lib.hid hsame
        have hfr12 := (HFJ.out.trans0 HF11.out).trans0 hf12
        have HFR := Lib.hid hfr12
        clear hf12 hbv hg5C e32' hu' hby12 hsame hfr12 hi1 hi2 hmin
        have hkc := HKQ.out
        have hcd := HCD.out
        have hcu : cnt ≤ u := by omega
        have hat9 : at_ ≤ 9000 := by omega
        have hcn9 : cnt ≤ 9000 := by omega
        have hwac : IntKind.i64.wrap ((at_ : Int) + (cnt : Int)) = (at_ : Int) + (cnt : Int) := IntWalk.i64_in _ (by omega)
        have hneB : ((cnt : Int) != (cnt : Int)) = false := by simp
        by_cases hfull : cnt = u
        · have hk0 : kc = 0 := by rw [if_pos hfull] at hkc; exact hkc.symm
          have hcuB : ((cnt : Int) == (u : Int)) = true := by simp [hfull]
          subst hk0
          clear hkc hfull hcd hcu
          go_upto_region 31 with (fail)
          go_quiet ((go_at_call 16; exact Calls.quiet_of_same (HSM.out _)))
          go_wp2_with fail
          go_roundw
          case rel => exact ⟨j + 1, by omega, by go_num, by rw [HSU.out]; go_num, HFR.out.drewN _⟩
          case measure => simp [intOf]; omega
        · have hk6 : kc = 6 := by rw [if_neg hfull] at hkc; exact hkc.symm
          have hcuB : ((cnt : Int) == (u : Int)) = false := by simp; omega
          subst hk6
          clear hkc hcd hcu
          go_upto_region 31 with (fail)
          go_quiet ((go_at_call 16; exact Calls.quiet_of_same (HSM.out _)))
          go_wp2_with fail
          go_roundw
          case rel => exact ⟨j + 1, by omega, by go_num, by rw [HSU.out]; go_num, HFR.out.drewN _⟩
          case measure => simp [intOf]; omega
end Go.Proofs.YtokpomdfgbbhlaaDoor

/- The contract of streamOf: a stream among a file's nodes. -/
namespace Go.Proofs.YtokpomdfgbbhlaaDoor
open Go Go.RowKit Go.Maps

set_option maxRecDepth 100000 in
set_option maxHeartbeats 4000000 in
theorem streamOf_any (base lb N lcap turn : Nat) (nd : Nat → Nd) (dv : Nat → Value) (t : NT) (w : World) (h : NodesOK base lb N w nd dv t) (hcap : N ≤ lcap ∧ lcap ≤ 9223372036854775807) (hturn : turn < 256) :
    Calls Tryd.prog 17 #[.slice (some ⟨lb, 0, none⟩) N lcap, .int .u8 (turn : Nat)] w fun e w' => Fr [] w w' ∧
      ((∃ k, k < N ∧ e = .returned (.tuple #[.int .i64 (k : Nat), .int .i64 (t.order.getD k 0 : Nat), .bool true]) ∧ (nd (t.order.getD k 0)).stream = true ∧ t.order.getD k 0 < N) ∨ e = .returned (.tuple #[.int .i64 0, .int .i64 0, .bool false])) := by
  have hn1 := h.n1
  have hn2 := h.n2
  have hord := order_any lb N lcap hn2 hcap nd dv t w h.row h.tree.fits h.tree.lt (by rw [h.tree.len]; omega)
  rw [h.tree.len] at hord
  have HH := Lib.hid h
  have HO := Lib.hid hord
  clear h hord
  go_enter Tryd.func17, Tryd.ntmps17
  go_wp2_with fail
  refine HO.out.mono ?_
  rintro e w6 ⟨v1, v2, vs, rfl, hf6, ho1, ho2, hpa⟩
  obtain ⟨b1, c1, l1, rfl, _, hl1, hg1, hb1a, hb1b, _⟩ := own_blkS ho1 hn1
  have hlen : t.order.length = N := HH.out.tree.len
  have hord6 : ∀ k, k < N → w6.cell? ⟨b1, k, none⟩ = some (I64 (t.order.getD k 0)) ∧ t.order.getD k 0 < N := by
    intro k hk
    have e1 : t.order.getD k 0 = t.order[k] := by rw [List.getD_eq_getElem?_getD, List.getElem?_eq_getElem (by omega)]; rfl
    rw [hl1.cell, hg1 k (by omega), List.getElem?_map, List.getElem?_eq_getElem (by omega), e1]
    exact ⟨rfl, HH.out.tree.lt _ (List.getElem_mem (by omega))⟩
  have HORD := Lib.hid hord6
  have HF6 := Lib.hid hf6
  clear hord6 hf6 ho1 ho2 hpa hl1 hg1 hlen HO
  go_wp2_with fail
  go_loopw [18] (fun s18 wr => ∃ j : Nat, j ≤ N ∧ s18 = .int .i64 j ∧ Fr [] w6 wr) (fun s18 _ => N - (intOf s18).toNat)
  case atStart => exact ⟨0, by omega, rfl, Fr.refl _ _⟩
  case round =>
    obtain ⟨j, hj, rfl, hf⟩ := hrel
    by_cases hjN : j < N
    case neg =>
      obtain rfl : j = N := by omega
      have hjI : ¬ (j : Int) < (j : Int) := by omega
      have HFN := Lib.hid (HF6.out.trans0 hf)
      clear hf
      go_wp2_with fail
      go_ret3
      exact ⟨HFN.out, .inr rfl⟩
    have hjI : (j : Int) < (N : Int) := by omega
    obtain ⟨k, hk⟩ : ∃ k, k = (turn + j) % N := ⟨_, rfl⟩
    have hkN : k < N := by rw [hk]; exact Nat.mod_lt _ hn1
    have hN0 : ¬ N = 0 := by omega
    have hkI : (((turn : Int) + (j : Int)) % (N : Int)) = (k : Int) := by rw [hk]; push_cast; rfl
    have hkI2 : (((turn : Int) + (j : Int)).tmod (N : Int)) = (k : Int) := by rw [Int.tmod_eq_emod_of_nonneg (by omega)]; exact hkI
    obtain ⟨q1, he⟩ := HORD.out k hkN
    replace q1 := hf.cell0 q1
    generalize hee : t.order.getD k 0 = e at *
    have hN8 := HH.out.fr (HF6.out.trans0 hf)
    have q2 := hN8.row.cell (k := e) (j := 1) he (by omega)
    have q2' : wr.cell? ⟨lb, e * 28 + 1, none⟩ = some (.bool (nd e).stream) := q2
    have heI : (e : Int) < (N : Int) := by omega
    have HFN := Lib.hid (And.intro (HF6.out.trans0 hf) (And.intro hf hee))
    have hkI3 : (k : Int) < (N : Int) := by omega
    have HKD := Lib.hid hk
    clear hf hN8 q2 hee hk
    cases hs : (nd e).stream
    · rw [hs] at q2'
      have HS := Lib.hid hs
      clear hs
      go_wp2_with fail
      exact ⟨⟨j + 1, by omega, by go_num, HFN.out.2.1⟩, by simp [intOf]; omega⟩
    · rw [hs] at q2'
      have HS := Lib.hid hs
      clear hs
      go_wp2_with fail
      go_quiet (fail)
      go_wp2_with fail
      go_ret3
      have hfin := (HFN.out.1).drewN nq
      exact ⟨hfin, .inl ⟨k, hkN, by rw [HFN.out.2.2]; rfl, by rw [HFN.out.2.2]; exact HS.out, by rw [HFN.out.2.2]; exact he⟩⟩
end Go.Proofs.YtokpomdfgbbhlaaDoor

/- Two layouts that differ in the bytes of one stream lay all at the same places. No program here. -/
namespace Go.Proofs.YtokpomdfgbbhlaaDoor

/-- All but the bytes of nodes is the same. -/
structure SameL (L L' : Lay) : Prop where
  N : L'.N = L.N
  four : L'.four = L.four
  step : L'.step = L.step
  name : ∀ x, (L'.nd x).name = (L.nd x).name
  stream : ∀ x, (L'.nd x).stream = (L.nd x).stream
  len : ∀ x, (L'.nd x).len = (L.nd x).len
  left : ∀ x, (L'.nd x).left = (L.nd x).left
  right : ∀ x, (L'.nd x).right = (L.nd x).right
  child : ∀ x, (L'.nd x).child = (L.nd x).child
  cls : ∀ x, (L'.nd x).cls = (L.nd x).cls
  sts : ∀ x, (L'.nd x).sts = (L.nd x).sts
  cr : ∀ x, (L'.nd x).cr = (L.nd x).cr
  md : ∀ x, (L'.nd x).md = (L.nd x).md

section
variable {L L' : Lay} (h : SameL L L')
include h
theorem SameL.sz : L'.sz = L.sz := by unfold Lay.sz; rw [h.four]
theorem SameL.per : L'.per = L.per := by unfold Lay.per; rw [h.sz]
theorem SameL.small : L'.small = L.small := by funext k; unfold Lay.small; rw [h.stream, h.len]
theorem SameL.big : L'.big = L.big := by funext k; unfold Lay.big; rw [h.stream, h.len, h.sz]
theorem SameL.minis : L'.minis = L.minis := by unfold Lay.minis; rw [h.small, h.N]
theorem SameL.cnt : L'.cnt = L.cnt := by funext c; unfold Lay.cnt; rw [h.N, h.sz, h.minis, h.per, h.big]
theorem SameL.sum : L'.sum = L.sum := by unfold Lay.sum; rw [h.cnt, h.N]
theorem SameL.fats : L'.fats = L.fats := by unfold Lay.fats; rw [h.sum, h.per]
theorem SameL.tot : L'.tot = L.tot := by unfold Lay.tot; rw [h.sum, h.fats]
theorem SameL.pl : L'.pl = L.pl := by funext k; unfold Lay.pl; rw [h.tot, h.step]
theorem SameL.base : L'.base = L.base := by funext c; unfold Lay.base; rw [h.fats, h.cnt]
theorem SameL.start : L'.start = L.start := by funext c; unfold Lay.start; rw [h.cnt, h.pl, h.base]
theorem SameL.mpl : L'.mpl = L.mpl := by funext k; unfold Lay.mpl; rw [h.minis, h.step]
theorem SameL.mbase : L'.mbase = L.mbase := by funext k; unfold Lay.mbase; rw [h.small]
theorem SameL.mstart : L'.mstart = L.mstart := by funext k; unfold Lay.mstart; rw [h.small, h.mpl, h.mbase]
theorem SameL.sec : L'.sec = L.sec := by funext k; unfold Lay.sec; rw [h.sz, h.pl]
theorem SameL.bytes : L'.bytes = L.bytes := by unfold Lay.bytes; rw [h.sz, h.tot]
theorem SameL.ver : L'.ver = L.ver := by unfold Lay.ver; rw [h.four]
theorem SameL.hdrB : hdrB L' = hdrB L := by unfold YtokpomdfgbbhlaaDoor.hdrB YtokpomdfgbbhlaaDoor.hdrA; rw [h.ver, h.four, h.cnt, h.fats, h.start, h.pl]
theorem SameL.entF : L'.entF = L.entF := by
  funext k
  unfold Lay.entF Lay.nmLen Lay.kindOf Lay.startOf Lay.lenOf
  have e : L'.nmOf k = L.nmOf k := by funext j; unfold Lay.nmOf; rw [h.name]
  rw [e, h.name, h.stream, h.left, h.right, h.child, h.cls, h.sts, h.cr, h.md, h.start, h.len, h.mstart, h.minis]
theorem SameL.dirF : L'.dirF = L.dirF := by funext y; unfold Lay.dirF; rw [h.N, h.entF]
theorem SameL.mn : L'.mn = L.mn := by unfold Lay.mn; rw [h.minis, h.cnt]
theorem SameL.chn : L'.chn = L.chn := by funext c i; unfold Lay.chn; rw [h.cnt, h.pl, h.base]

/-- The tables are the same. -/
theorem SameL.fat (hL : LayOK L) {fat fat' : Nat → Nat} (a : FatOK L fat) (b : FatOK L' fat') (p : Nat) (hp : p < L.fats * L.per) : fat' p = fat p := by
  by_cases ht : p < L.tot
  · obtain ⟨i, hi, rfl⟩ := mixP_onto L.tot L.step p ht
    change fat' (L.pl i) = fat (L.pl i)
    by_cases hf : i < L.fats
    · have h1 := b.tabs i (by rw [h.fats]; exact hf)
      rw [h.pl] at h1
      rw [h1, a.tabs i hf]
    · obtain ⟨c, j, hc, hj, e⟩ := sumN_part L.cnt (3 + L.N) (i - L.fats) (by have : L.tot = L.sum + L.fats := rfl; have : L.sum = sumN L.cnt (3 + L.N) := rfl; omega)
      have e2 : i = L.base c + j := by unfold Lay.base; omega
      have h1 := b.chain c j (by rw [h.N]; exact hc) (by rw [h.cnt]; exact hj)
      rw [h.pl, h.base, h.cnt] at h1
      rw [e2, h1, a.chain c j hc hj]
  · have h1 := b.free p (by rw [h.tot]; omega) (by rw [h.fats, h.per]; exact hp)
    rw [h1, a.free p (by omega) hp]

theorem SameL.mfat {fat fat' : Nat → Nat} (a : MfatOK L fat) (b : MfatOK L' fat') (p : Nat) (hp : p < L.cnt 1 * L.per) : fat' p = fat p := by
  by_cases ht : p < L.minis
  · obtain ⟨i, hi, rfl⟩ := mixP_onto L.minis (L.step + 3) p ht
    change fat' (L.mpl i) = fat (L.mpl i)
    obtain ⟨c, j, hc, hj, e⟩ := sumN_part L.small L.N i hi
    have e2 : i = L.mbase c + j := e
    have h1 := b.chain c j (by rw [h.N]; exact hc) (by rw [h.small]; exact hj)
    rw [h.mpl, h.mbase, h.small] at h1
    rw [e2, h1, a.chain c j hc hj]
  · have h1 := b.free p (by rw [h.minis]; omega) (by rw [h.cnt, h.per]; exact hp)
    rw [h1, a.free p (by omega) hp]
end

/-- Which sector and where in it a place of the file is. -/
theorem LayOK.sec_inj {L : Lay} (hL : LayOK L) {a b x x' : Nat} (ha : a < L.tot) (hb : b < L.tot) (hx : x < L.sz) (hx' : x' < L.sz) (e : L.sec a + x = L.sec b + x') : a = b ∧ x = x' := by
  unfold Lay.sec at e
  have hz : 0 < L.sz := by omega
  have h1 : (L.sz * (1 + L.pl a) + x) / L.sz = 1 + L.pl a := by rw [Nat.mul_add_div hz, Nat.div_eq_of_lt hx]; omega
  have h2 : (L.sz * (1 + L.pl b) + x') / L.sz = 1 + L.pl b := by rw [Nat.mul_add_div hz, Nat.div_eq_of_lt hx']; omega
  rw [e, h2] at h1
  have h3 : L.pl a = L.pl b := by omega
  have h4 := mixP_inj L.tot L.step ha hb h3
  subst h4
  exact ⟨rfl, by omega⟩

/-- A place of the file is in the header or in a sector. -/
theorem Lay.place (L : Lay) (hz : 0 < L.sz) (y : Nat) (hy : y < L.bytes) : y < L.sz ∨ ∃ k x, k < L.tot ∧ x < L.sz ∧ y = L.sec k + x := by
  by_cases h : y < L.sz
  · exact .inl h
  · right
    have h1 : y / L.sz < 1 + L.tot := by rw [Nat.div_lt_iff_lt_mul hz, Nat.mul_comm]; exact hy
    have h2 : 1 ≤ y / L.sz := (Nat.one_le_div_iff hz).2 (by omega)
    obtain ⟨k, hk, e⟩ := mixP_onto L.tot L.step (y / L.sz - 1) (by omega)
    refine ⟨k, y % L.sz, hk, Nat.mod_lt _ hz, ?_⟩
    unfold Lay.sec Lay.pl
    rw [e, show 1 + (y / L.sz - 1) = y / L.sz by omega]
    exact (Nat.div_add_mod y L.sz).symm

theorem LayOK.base_inj {L : Lay} {c c' i i' : Nat} (hi : i < L.cnt c) (hi' : i' < L.cnt c') (e : L.base c + i = L.base c' + i') : c = c' ∧ i = i' := by
  unfold Lay.base at e
  exact sumN_uniq L.cnt c c' i i' hi hi' (by omega)
end Go.Proofs.YtokpomdfgbbhlaaDoor

/- Where a stream of a written file lies: apart from all else; two files whose nodes differ in this stream's bytes alone differ there alone. No program here. -/
namespace Go.Proofs.YtokpomdfgbbhlaaDoor

/-- Where the parts of stream k lie: in the ministream, or in sectors of their own. -/
def Lies (L : Lay) (k : Nat) (mini : Bool) (q K : Nat) (ch off : Nat → Nat) : Prop :=
  (mini = true ∧ q = 64 ∧ (L.nd k).len < 4096 ∧ K = L.small k ∧ ∀ j, j < K → ch j = L.mpl (L.mbase k + j) ∧ L.mbase k + j < L.minis ∧ ch j < L.minis ∧ ch j / (L.sz / 64) < L.cnt 2 ∧ off j = L.sec (L.base 2 + ch j / (L.sz / 64)) + ch j % (L.sz / 64) * 64) ∨
  (mini = false ∧ q = L.sz ∧ 4096 ≤ (L.nd k).len ∧ K = L.big k ∧ ∀ j, j < K → ch j = L.pl (L.base (3 + k) + j) ∧ off j = L.sec (L.base (3 + k) + j))

/-- Where byte p of the stream lies: in which sector, and where in it. -/
theorem Lies.place {L : Lay} {k : Nat} {mini : Bool} {q K : Nat} {ch off : Nat → Nat} (h : Lies L k mini q K ch off) (hz : L.sz = 512 ∨ L.sz = 4096) (p : Nat) (hp : p / q < K) :
    (mini = true ∧ gOf q off p = L.sec (L.base 2 + ch (p / 64) / (L.sz / 64)) + (ch (p / 64) % (L.sz / 64) * 64 + p % 64) ∧ ch (p / 64) / (L.sz / 64) < L.cnt 2 ∧ ch (p / 64) % (L.sz / 64) * 64 + p % 64 < L.sz) ∨
    (mini = false ∧ gOf q off p = L.sec (L.base (3 + k) + p / L.sz) + p % L.sz ∧ p / L.sz < L.big k ∧ p % L.sz < L.sz) := by
  rcases h with ⟨h1, rfl, h3, rfl, h5⟩ | ⟨h1, rfl, h3, rfl, h5⟩
  · left
    obtain ⟨a, b, c, d, e⟩ := h5 (p / 64) hp
    have hm := Nat.mod_lt (ch (p / 64)) (show 0 < L.sz / 64 by rcases hz with h | h <;> rw [h] <;> omega)
    have h6 := Nat.mod_lt p (show 0 < 64 by omega)
    refine ⟨h1, ?_, d, ?_⟩
    · unfold gOf
      rw [e, Nat.add_assoc]
    · have : L.sz = 64 * (L.sz / 64) := by rcases hz with h | h <;> rw [h]
      omega
  · right
    obtain ⟨a, b⟩ := h5 (p / L.sz) hp
    refine ⟨h1, ?_, hp, Nat.mod_lt _ (by rcases hz with h | h <;> rw [h] <;> omega)⟩
    unfold gOf
    rw [b]

section
variable {L : Lay} {F : Nat → UInt8} {fat mfat : Nat → Nat} {W : Nat → UInt8} (hL : LayOK L) (hW : Wrote L F fat mfat W) (hB : L.bytes ≤ 131072)
include hL hW hB

theorem Wrote.str2 (k : Nat) (hk : k < L.N) (hs : (L.nd k).stream = true) :
    ∃ mini q K ch off, StrOK F L.bytes L.sz L.mn (L.cnt 2) (L.chn 1) (L.chn 2) mini q K (L.nd k).len ch off (L.nd k).dat ∧ L.startOf k = ch 0 ∧ Lies L k mini q K ch off := by
  have hk0 : k ≠ 0 := by rintro rfl; rw [hL.root] at hs; cases hs
  have hso : L.startOf k = if (L.nd k).len < 4096 then L.mstart k else L.start (3 + k) := by unfold Lay.startOf; rw [if_neg hk0, if_pos hs]
  by_cases hlen : (L.nd k).len < 4096
  · obtain ⟨ch, off, h1, h2, h3⟩ := hW.str_small hL hB k hk hs hlen
    refine ⟨true, 64, _, ch, off, h1, by rw [hso, if_pos hlen, h2], .inl ⟨rfl, rfl, hlen, rfl, fun j hj => ?_⟩⟩
    obtain ⟨_, _, _, _, a, b, c⟩ := h1.small rfl j hj
    have hlt : L.mbase k + j < L.minis := by
      have h := sumN_mono L.small (show k + 1 ≤ L.N by omega)
      simp only [sumN] at h
      unfold Lay.mbase Lay.minis
      omega
    refine ⟨h3 j hj, hlt, by rw [h3 j hj]; exact mixP_lt _ _ _ (by omega), a, ?_⟩
    rw [← c]
    have e : L.chn 2 (ch j / (L.sz / 64)) = L.pl (L.base 2 + ch j / (L.sz / 64)) := by unfold Lay.chn; rw [if_pos a]
    rw [e]
    unfold Lay.sec
    rw [Nat.mul_comm, Nat.add_comm (L.pl _) 1]
  · obtain ⟨ch, off, h1, h2, h3⟩ := hW.str_big hL hB k hk hs hlen
    refine ⟨false, _, _, ch, off, h1, by rw [hso, if_neg hlen, h2], .inr ⟨rfl, rfl, by omega, rfl, fun j hj => ?_⟩⟩
    obtain ⟨_, _, c⟩ := h1.big rfl j hj
    refine ⟨h3 j hj, ?_⟩
    rw [← c, h3 j hj]
    unfold Lay.sec
    rw [Nat.mul_comm, Nat.add_comm (L.pl _) 1]

theorem Wrote.strAp {k : Nat} (hk : k < L.N) {mini : Bool} {q K : Nat} {ch off : Nat → Nat} (hst : StrOK F L.bytes L.sz L.mn (L.cnt 2) (L.chn 1) (L.chn 2) mini q K (L.nd k).len ch off (L.nd k).dat) (hl : Lies L k mini q K ch off) :
    StrAp F L.sz (L.chn 1) mini q K (L.nd k).len ch off := by
  have hz : L.sz = 512 ∨ L.sz = 4096 := by rcases L.sz_or with ⟨h, _⟩ | ⟨h, _⟩ <;> simp [h]
  have hq : 0 < q := by rcases hl with ⟨_, h, _⟩ | ⟨_, h, _⟩ <;> omega
  have hper : L.sz / 4 = L.per := rfl
  have hpz : L.sz = 4 * L.per := by rcases L.per_or with ⟨a, h⟩ | ⟨a, h⟩ <;> rw [a, h]
  have hpK : ∀ p, p < (L.nd k).len → p / q < K := fun p hp => by
    rw [Nat.div_lt_iff_lt_mul hq]
    have := hst.cover
    omega
  have hct : L.cnt (3 + k) = L.big k := by unfold Lay.cnt; rw [if_neg (by omega), if_neg (by omega), if_neg (by omega)]; congr 1; omega
  have hsec : ∀ i, (L.pl i + 1) * L.sz = L.sec i := fun i => by unfold Lay.sec; rw [Nat.mul_comm, Nat.add_comm]
  have hsz : ∀ i, L.sz ≤ L.sec i := fun i => by unfold Lay.sec; exact Nat.le_mul_of_pos_right _ (by omega)
  refine ⟨fun p hp => ?_, fun hm j p b hj hp hb he => ?_, fun hm j p b hj hp hb he => ?_, fun p p' hp hp' he => ?_⟩
  · rcases hl.place hz p (hpK p hp) with ⟨_, e, _⟩ | ⟨_, e, _⟩
    · rw [e]
      have := hsz (L.base 2 + ch (p / 64) / (L.sz / 64))
      omega
    · rw [e]
      have := hsz (L.base (3 + k) + p / L.sz)
      omega
  · rcases hl.place hz p (hpK p hp) with ⟨_, e, e2, e3⟩ | ⟨e, _⟩
    · obtain ⟨a1, a2, _⟩ := hst.small hm j hj
      have hmn : L.mn = L.cnt 1 := by
        unfold Lay.mn at a1 ⊢
        split at a1
        · exact absurd a1 (Nat.not_lt_zero _)
        · rename_i h; rw [if_neg h]
      rw [hmn, hper] at a1
      have hch1 : L.chn 1 (ch j / L.per) = L.pl (L.base 1 + ch j / L.per) := by unfold Lay.chn; rw [if_pos a1]
      have hmod := Nat.mod_lt (ch j) (show 0 < L.per by omega)
      rw [hper, hch1, hsec, e, Nat.add_assoc] at he
      obtain ⟨h1, _⟩ := hL.sec_inj (hL.base_lt (by omega) a1).1 (hL.base_lt (by omega) e2).1 (by omega) e3 he
      exact absurd (LayOK.base_inj a1 e2 h1).1 (by omega)
    · rw [hm] at e; cases e
  · rcases hl.place hz p (hpK p hp) with ⟨e, _⟩ | ⟨_, e, e2, e3⟩
    · rw [hm] at e; cases e
    · have hcl : ch j < L.tot := by
        rcases hl with ⟨h1, _⟩ | ⟨_, _, _, _, h5⟩
        · rw [hm] at h1; cases h1
        · rw [(h5 j hj).1]; exact hL.pl_lt _
      have hif : ch j / L.per < L.fats := by
        rw [Nat.div_lt_iff_lt_mul (by omega)]
        have := hL.fats_ok.1
        omega
      have hmod := Nat.mod_lt (ch j) (show 0 < L.per by omega)
      rw [hper, hW.fld_difat hL hB _ hif, hsec, e, Nat.add_assoc] at he
      have hb2 := hL.base_lt (c := 3 + k) (i := p / L.sz) (by omega) (by rw [hct]; exact e2)
      obtain ⟨h1, _⟩ := hL.sec_inj (by have := hL.fats_ok.1; unfold Lay.tot; omega) hb2.1 (by omega) e3 he
      omega
  · rcases hl.place hz p (hpK p hp) with ⟨m, e, e2, e3⟩ | ⟨m, e, e2, e3⟩
    · rcases hl.place hz p' (hpK p' hp') with ⟨m', f, f2, f3⟩ | ⟨m', f, f2, f3⟩
      · rw [e, f] at he
        obtain ⟨h1, h2⟩ := hL.sec_inj (hL.base_lt (by omega) e2).1 (hL.base_lt (by omega) f2).1 e3 f3 he
        have hp1 := hpK p hp
        have hp2 := hpK p' hp'
        rcases hl with ⟨_, rfl, _, rfl, h5⟩ | ⟨h, _⟩
        · have g1 := h5 _ hp1
          have g2 := h5 _ hp2
          have hmm1 := Nat.div_add_mod (ch (p / 64)) (L.sz / 64)
          have hmm2 := Nat.div_add_mod (ch (p' / 64)) (L.sz / 64)
          have hd : ch (p / 64) / (L.sz / 64) = ch (p' / 64) / (L.sz / 64) := by omega
          have hr : ch (p / 64) % (L.sz / 64) = ch (p' / 64) % (L.sz / 64) := by omega
          have hc : ch (p / 64) = ch (p' / 64) := by rw [← hmm1, ← hmm2, hd, hr]
          rw [g1.1, g2.1] at hc
          have := mixP_inj L.minis (L.step + 3) g1.2.1 g2.2.1 hc
          omega
        · rw [m] at h; cases h
      · rw [m] at m'; cases m'
    · rcases hl.place hz p' (hpK p' hp') with ⟨m', f, f2, f3⟩ | ⟨m', f, f2, f3⟩
      · rw [m] at m'; cases m'
      · rw [e, f] at he
        obtain ⟨h1, h2⟩ := hL.sec_inj (hL.base_lt (c := 3 + k) (by omega) (by rw [hct]; exact e2)).1 (hL.base_lt (c := 3 + k) (by omega) (by rw [hct]; exact f2)).1 e3 f3 he
        have hmm1 := Nat.div_add_mod p L.sz
        have hmm2 := Nat.div_add_mod p' L.sz
        have hd : p / L.sz = p' / L.sz := by omega
        rw [← hmm1, ← hmm2, hd, h2]

/-- Two files whose nodes differ in one stream's bytes. -/
theorem Wrote.turned {L' : Lay} (hS : SameL L L') {k : Nat} (hk : k < L.N) (hs : (L.nd k).stream = true) (hd : ∀ x, x ≠ k → (L'.nd x).dat = (L.nd x).dat) {mini : Bool} {q K : Nat} {ch off : Nat → Nat} (hst : StrOK F L.bytes L.sz L.mn (L.cnt 2) (L.chn 1) (L.chn 2) mini q K (L.nd k).len ch off (L.nd k).dat) (hl : Lies L k mini q K ch off)
    {F' : Nat → UInt8} {fat' mfat' : Nat → Nat} {W' : Nat → UInt8} (hW' : Wrote L' F' fat' mfat' W') :
    (∀ y, y < L.bytes → (∀ p, p < (L.nd k).len → y ≠ gOf q off p) → F' y = F y) ∧ ∀ p, p < (L.nd k).len → F' (gOf q off p) = (L'.nd k).dat p := by
  have _ := hB
  have hz : L.sz = 512 ∨ L.sz = 4096 := by rcases L.sz_or with ⟨h, _⟩ | ⟨h, _⟩ <;> simp [h]
  have hq : 0 < q := by rcases hl with ⟨_, h, _⟩ | ⟨_, h, _⟩ <;> omega
  have hpz : L.sz = 4 * L.per := by rcases L.per_or with ⟨a, h⟩ | ⟨a, h⟩ <;> rw [a, h]
  have hpK : ∀ p, p < (L.nd k).len → p / q < K := fun p hp => by
    rw [Nat.div_lt_iff_lt_mul hq]
    have := hst.cover
    omega
  have hct : ∀ k, L.cnt (3 + k) = L.big k := fun k => by unfold Lay.cnt; rw [if_neg (by omega), if_neg (by omega), if_neg (by omega)]; congr 1; omega
  have hc2 : L.cnt 2 = partsN (L.minis * 64) L.sz := by unfold Lay.cnt; rw [if_neg (by omega), if_neg (by omega), if_pos rfl]
  constructor
  · intro y hy hyp
    rcases L.place (by omega) y hy with h0 | ⟨i, x, hi, hx, rfl⟩
    · rw [hW.hdr y h0, hW'.hdr y (by rw [hS.sz]; exact h0), hS.hdrB]
    by_cases hif : i < L.fats
    · have h1 := hW'.fatS i x (by rw [hS.fats]; exact hif) (by rw [hS.sz]; exact hx)
      rw [hS.sec, hS.per] at h1
      have h2 : (i + 1) * L.per ≤ L.fats * L.per := Nat.mul_le_mul_right _ hif
      rw [Nat.add_mul] at h2
      rw [h1, hW.fatS i x hif hx, hS.fat hL hW.fatOK hW'.fatOK _ (by omega)]
    obtain ⟨c, j, hc, hj, e⟩ := sumN_part L.cnt (3 + L.N) (i - L.fats) (by have : L.tot = L.sum + L.fats := rfl; have : L.sum = sumN L.cnt (3 + L.N) := rfl; omega)
    obtain rfl : i = L.base c + j := by unfold Lay.base; omega
    clear e hif
    rcases c with _ | _ | _ | c
    · have h1 := hW'.dirS j x (by rw [hS.cnt]; exact hj) (by rw [hS.sz]; exact hx)
      rw [hS.sec, hS.base, hS.dirF, hS.sz] at h1
      rw [h1, hW.dirS j x hj hx]
    · have h1 := hW'.mfS j x (by rw [hS.cnt]; exact hj) (by rw [hS.sz]; exact hx)
      rw [hS.sec, hS.base, hS.sz] at h1
      have h2 : (j + 1) * L.per ≤ L.cnt 1 * L.per := Nat.mul_le_mul_right _ hj
      rw [Nat.add_mul] at h2
      have h3 : j * L.sz = 4 * (j * L.per) := by rw [hpz, Nat.mul_left_comm]
      have h4 := hS.mfat hW.mfatOK hW'.mfatOK ((j * L.sz + x) / 4) (by show _ < L.cnt 1 * L.per; omega)
      have h5 := hW.mfS j x hj hx
      simp only [Nat.zero_add] at h1 h5 ⊢
      rw [h1, h5, h4]
    · have h1 := hW'.miniS j x (by rw [hS.cnt]; exact hj) (by rw [hS.sz]; exact hx)
      have h5 := hW.miniS j x hj hx
      rw [hS.sec, hS.base, hS.sz, hS.minis] at h1
      simp only [Nat.zero_add] at h1 h5 hyp ⊢
      rw [show (1 + 1 : Nat) = 2 from rfl] at hyp ⊢
      rw [h1, h5]
      by_cases hzz : j * L.sz + x < 64 * L.minis
      · rw [if_pos hzz, if_pos hzz]
        have hm : (j * L.sz + x) / 64 < L.minis := by omega
        obtain ⟨i', hi', e'⟩ := mixP_onto L.minis (L.step + 3) _ hm
        obtain ⟨c, i, hc, hic, rfl⟩ := sumN_part L.small L.N i' hi'
        have e2 : L.mpl (L.mbase c + i) = (j * L.sz + x) / 64 := e'
        have hx6 := Nat.mod_lt (j * L.sz + x) (show 0 < 64 by omega)
        have w1 := hW.whole c i ((j * L.sz + x) % 64) hc hic hx6
        have w2 := hW'.whole c i ((j * L.sz + x) % 64) (by rw [hS.N]; exact hc) (by rw [hS.small]; exact hic) hx6
        rw [hS.mpl, hS.mbase, hS.len] at w2
        rw [e2, Nat.div_add_mod] at w1 w2
        rw [w1, w2]
        by_cases hck : c = k
        · subst hck
          by_cases hl2 : 64 * i + (j * L.sz + x) % 64 < (L.nd c).len
          · exfalso
            refine hyp _ hl2 ?_
            rcases hl with ⟨m, rfl, _, rfl, h5⟩ | ⟨_, _, h5, _⟩
            · obtain ⟨g1, _, _, _, g5⟩ := h5 i hic
              have hpi : (64 * i + (j * L.sz + x) % 64) / 64 = i := by omega
              have hpm : (64 * i + (j * L.sz + x) % 64) % 64 = (j * L.sz + x) % 64 := by omega
              unfold gOf
              rw [hpi, hpm, g5, g1, e2]
              have ez : L.sz = 64 * (L.sz / 64) := by rcases hz with h | h <;> rw [h]
              have ej : j * L.sz = 64 * (j * (L.sz / 64)) := by
                have e0 : j * L.sz = j * (64 * (L.sz / 64)) := congrArg (j * ·) ez
                rw [e0, Nat.mul_left_comm]
              have hz0 : 0 < L.sz / 64 := by omega
              have ed : (j * L.sz + x) / 64 = x / 64 + j * (L.sz / 64) := by rw [ej]; omega
              have hx64 : x / 64 < L.sz / 64 := by omega
              rw [ed, Nat.add_mul_div_right _ _ hz0, Nat.add_mul_mod_self_right, Nat.div_eq_of_lt hx64, Nat.mod_eq_of_lt hx64, Nat.zero_add]
              have : (j * L.sz + x) % 64 = x % 64 := by rw [ej]; omega
              omega
            · have : L.small c = 0 := by unfold Lay.small; rw [if_neg (by omega)]
              omega
          · rw [if_neg hl2, if_neg hl2]
        · rw [hd c hck]
      · rw [if_neg hzz, if_neg hzz]
    · have hcN : c < L.N := by omega
      have e3 : c + 1 + 1 + 1 = 3 + c := by omega
      rw [e3] at hj hyp ⊢
      rw [hct] at hj
      have h1 := hW'.bigS c j x (by rw [hS.N]; exact hcN) (by rw [hS.big]; exact hj) (by rw [hS.sz]; exact hx)
      rw [hS.sec, hS.base, hS.sz, hS.len] at h1
      rw [h1, hW.bigS c j x hcN hj hx]
      by_cases hck : c = k
      · subst hck
        by_cases hl2 : j * L.sz + x < (L.nd c).len
        · exfalso
          refine hyp _ hl2 ?_
          rcases hl with ⟨_, _, h5, _⟩ | ⟨m, rfl, _, rfl, h5⟩
          · have : L.big c = 0 := by unfold Lay.big; rw [if_neg (by omega)]
            omega
          · obtain ⟨_, g2⟩ := h5 j hj
            have hz0 : 0 < L.sz := by omega
            unfold gOf
            rw [Nat.add_comm (j * L.sz) x, Nat.add_mul_div_right _ _ hz0, Nat.add_mul_mod_self_right, Nat.div_eq_of_lt hx, Nat.mod_eq_of_lt hx, Nat.zero_add, g2]
        · rw [if_neg hl2, if_neg hl2]
      · rw [hd c hck]
  · intro p hp
    have hpk := hpK p hp
    rcases hl.place hz p hpk with ⟨m, e, e2, e3⟩ | ⟨m, e, e2, e3⟩
    · rcases hl with ⟨_, rfl, _, rfl, h5⟩ | ⟨h, _⟩
      · obtain ⟨g1, g2, g3, _, _⟩ := h5 (p / 64) hpk
        have h1 := hW'.miniS _ _ (by rw [hS.cnt]; exact e2) (by rw [hS.sz]; exact e3)
        rw [hS.sec, hS.base, hS.sz, hS.minis] at h1
        have ez : L.sz = 64 * (L.sz / 64) := by rcases hz with h | h <;> rw [h]
        have hdm := Nat.div_add_mod (ch (p / 64)) (L.sz / 64)
        have ea : ch (p / 64) / (L.sz / 64) * L.sz = 64 * (L.sz / 64 * (ch (p / 64) / (L.sz / 64))) := by
          have e0 : ch (p / 64) / (L.sz / 64) * L.sz = ch (p / 64) / (L.sz / 64) * (64 * (L.sz / 64)) := congrArg (ch (p / 64) / (L.sz / 64) * ·) ez
          rw [e0, Nat.mul_left_comm, Nat.mul_comm (ch (p / 64) / (L.sz / 64)) (L.sz / 64)]
        have hp6 := Nat.mod_lt p (show 0 < 64 by omega)
        have eb : ch (p / 64) / (L.sz / 64) * L.sz + (ch (p / 64) % (L.sz / 64) * 64 + p % 64) = 64 * ch (p / 64) + p % 64 := by rw [ea]; omega
        rw [eb, if_pos (by omega)] at h1
        have w2 := hW'.whole k (p / 64) (p % 64) (by rw [hS.N]; exact hk) (by rw [hS.small]; exact hpk) hp6
        rw [hS.mpl, hS.mbase, hS.len, ← g1, Nat.div_add_mod, if_pos hp] at w2
        rw [e, h1, w2]
      · rw [m] at h; cases h
    · have h1 := hW'.bigS k (p / L.sz) (p % L.sz) (by rw [hS.N]; exact hk) (by rw [hS.big]; exact e2) (by rw [hS.sz]; exact e3)
      have hdm : p / L.sz * L.sz + p % L.sz = p := by rw [Nat.mul_comm]; exact Nat.div_add_mod _ _
      rw [hS.sec, hS.base, hS.sz, hS.len, hdm, if_pos hp] at h1
      rw [e, h1]
end
end Go.Proofs.YtokpomdfgbbhlaaDoor

/- What FnMixed's steps are, laid one behind the other; nodes with one stream's bytes turned; what lies in memory over the steps that are laid. -/
namespace Go.Proofs.YtokpomdfgbbhlaaDoor
open Go Go.RowKit Go.Maps

/-- A row of steps. -/
def stepsRow (sv : Nat → Value) (st : Nat → Stp) (n : Nat) : List Value := (List.range n).flatMap (fun j => (stpV (st j) (sv j)).toList)
theorem stepsRow_succ (sv : Nat → Value) (st : Nat → Stp) (n : Nat) : stepsRow sv st (n + 1) = stepsRow sv st n ++ (stpV (st n) (sv n)).toList := by
  simp [stepsRow, List.range_succ]
theorem stepsRow_congr {sv sv' : Nat → Value} {st st' : Nat → Stp} (n : Nat) (h : ∀ j, j < n → sv j = sv' j ∧ st j = st' j) : stepsRow sv st n = stepsRow sv' st' n := by
  induction n with
  | zero => rfl
  | succ n ih => rw [stepsRow_succ, stepsRow_succ, ih (fun j hj => h j (by omega)), (h n (by omega)).1, (h n (by omega)).2]
theorem stepsRow_length (sv : Nat → Value) (st : Nat → Stp) (n : Nat) : (stepsRow sv st n).length = n * 5 := by
  induction n with
  | zero => rfl
  | succ n ih => rw [stepsRow_succ, List.length_append, ih]; simp [stpV]; omega
theorem stepsRow_get (sv : Nat → Value) (st : Nat → Stp) (n k j : Nat) (hk : k < n) (hj : j < 5) : (stepsRow sv st n)[k * 5 + j]? = (stpV (st k) (sv k))[j]? := by
  induction n with
  | zero => omega
  | succ n ih =>
    have hl := stepsRow_length sv st n
    rw [stepsRow_succ]
    by_cases h : k < n
    · rw [List.getElem?_append_left (by omega)]
      exact ih h
    · obtain rfl : k = n := by omega
      rw [List.getElem?_append_right (by omega), hl, show k * 5 + j - k * 5 = j by omega]
      simp

theorem toldRow_congr2 {dv dv' : Nat → Value} {td td' : Nat → Tld} (n : Nat) (h : ∀ j, j < n → dv j = dv' j ∧ td j = td' j) : toldRow dv td n = toldRow dv' td' n := by
  induction n with
  | zero => rfl
  | succ n ih => rw [toldRow_succ, toldRow_succ, ih (fun j hj => h j (by omega)), (h n (by omega)).1, (h n (by omega)).2]
theorem toldRow_length (dv : Nat → Value) (td : Nat → Tld) (n : Nat) : (toldRow dv td n).length = n * 3 := by
  induction n with
  | zero => rfl
  | succ n ih => rw [toldRow_succ, List.length_append, ih]; simp; omega
theorem toldRow_get (dv : Nat → Value) (td : Nat → Tld) (n k : Nat) (hk : k < n) : (toldRow dv td n)[k * 3]? = some (dv k) ∧ (toldRow dv td n)[k * 3 + 1]? = some (.int .i64 ((td k).num : Nat)) ∧ (toldRow dv td n)[k * 3 + 2]? = some (.int .i64 0) := by
  induction n with
  | zero => omega
  | succ n ih =>
    have hl := toldRow_length dv td n
    rw [toldRow_succ]
    by_cases h : k < n
    · rw [List.getElem?_append_left (by omega), List.getElem?_append_left (by omega), List.getElem?_append_left (by omega)]
      exact ih h
    · obtain rfl : k = n := by omega
      rw [List.getElem?_append_right (by omega), List.getElem?_append_right (by omega), List.getElem?_append_right (by omega), hl]
      refine ⟨?_, ?_, ?_⟩
      · rw [Nat.sub_self]; rfl
      · rw [show k * 3 + 1 - k * 3 = 1 by omega]; rfl
      · rw [show k * 3 + 2 - k * 3 = 2 by omega]; rfl

/-- k steps, what each does. -/
structure HI (len k : Nat) (dat : Nat → UInt8) (at_ : Nat → Nat) (da : Nat → Nat → UInt8) (st : Nat → Stp) (td : Nat → Tld) : Prop where
  z : at_ 0 = 0
  d : da 0 = dat
  s : ∀ i, i < k → Does len (st i) (at_ i) (da i) (at_ (i + 1)) (da (i + 1)) (td i)
  le : at_ k ≤ len

theorem HI.snoc {len k : Nat} {dat : Nat → UInt8} {at_ : Nat → Nat} {da : Nat → Nat → UInt8} {st : Nat → Stp} {td : Nat → Tld} (h : HI len k dat at_ da st td) {s : Stp} {i' : Nat} {d' : Nat → UInt8} {t : Tld} (hd : Does len s (at_ k) (da k) i' d' t) (hl : i' ≤ len) :
    HI len (k + 1) dat (insI (k + 1) at_ i') (insI (k + 1) da d') (insI k st s) (insI k td t) := by
  refine ⟨?_, ?_, fun i hi => ?_, ?_⟩
  · rw [insI_ne _ _ _ _ (by omega)]; exact h.z
  · rw [insI_ne _ _ _ _ (by omega)]; exact h.d
  · by_cases hik : i = k
    · subst hik
      rw [insI_self, insI_self, insI_self, insI_self, insI_ne _ _ _ _ (by omega), insI_ne _ _ _ _ (by omega)]
      exact hd
    · rw [insI_ne _ _ _ _ (by omega), insI_ne _ _ _ _ (by omega), insI_ne _ _ _ _ (by omega), insI_ne _ _ _ _ (by omega), insI_ne _ _ _ _ (by omega), insI_ne _ _ _ _ (by omega)]
      exact h.s i (by omega)
  · rw [insI_self]; exact hl

/-- A step's bytes: none, or a row of their own. -/
def SvIs (w : World) (base : Nat) (dv : Value) (s : Stp) : Prop := (s.m = 0 ∧ dv = .slice none 0 0) ∨ (1 ≤ s.m ∧ w.ownsRow base 5 1 dv s.m (tab s.m (fun y => U8 (s.x y))))

theorem SvIs.dv {w : World} {base : Nat} {dv : Value} {s : Stp} (h : SvIs w base dv s) : DvIs w dv s := by
  rcases h with h | ⟨h1, h2⟩
  · exact .inl h
  · obtain ⟨b, cap, l, e, _, hb, hg, hc, _⟩ := own_blk2 h2 h1
    exact .inr ⟨b, cap, h1, e, hc, fun y hy => (hb.cell y).trans (hg y hy)⟩

theorem SvIs.fr {w w' : World} {base : Nat} {dv : Value} {s : Stp} {ms : List Nat} (h : SvIs w base dv s) (f : Fr ms w w') (hm : ∀ {v : Value} {n : Nat} {xs : List Value}, w.ownsRow base 5 1 v n xs → ∀ g, v.ownBlock = some g → g ∉ ms) : SvIs w' base dv s := by
  rcases h with h | ⟨h1, h2⟩
  · exact .inl h
  · exact .inr ⟨h1, own_fr h2 f (hm h2)⟩

/-- k steps are laid: the place is i, the stream's bytes are d (in block nb); the steps stand in v9, what they tell in v10. -/
def MxAt (b4 nb len : Nat) (dat : Nat → UInt8) (w3 : World) (k i : Nat) (d : Nat → UInt8) (v9 v10 : Value) (w : World) : Prop :=
  ∃ (at_ : Nat → Nat) (da : Nat → Nat → UInt8) (st : Nat → Stp) (td : Nat → Tld) (sv wv : Nat → Value), HI len k dat at_ da st td ∧ at_ k = i ∧ da k = d ∧ Fr [nb] w3 w ∧ nb < b4 ∧ w3.heap.size ≤ b4 ∧
    (∃ l, Blk w nb 5 l ∧ ∀ y, y < len → l[y]? = some (U8 (d y))) ∧ w.ownsRow b4 66 5 v9 k (stepsRow sv st k) ∧ w.ownsRow b4 55 3 v10 k (toldRow wv td k) ∧
    ∀ j, j < k → SvIs w b4 (sv j) (st j) ∧ w.ownsRow b4 5 1 (wv j) (td j).cnt (tab (td j).cnt (fun y => U8 ((td j).x y)))

/-- The rows alone. -/
theorem MxAt.rows {b4 nb len k i : Nat} {dat d : Nat → UInt8} {w3 w : World} {v9 v10 : Value} (h : MxAt b4 nb len dat w3 k i d v9 v10 w) :
    i ≤ len ∧ Fr [nb] w3 w ∧ (∃ l, Blk w nb 5 l ∧ ∀ y, y < len → l[y]? = some (U8 (d y))) ∧ (∃ x9, w.ownsRow b4 66 5 v9 k x9) ∧ ∃ x10, w.ownsRow b4 55 3 v10 k x10 := by
  obtain ⟨at_, da, st, td, sv, wv, h1, h2, h3, h4, _, _, h5, h6, h7, _⟩ := h
  exact ⟨h2 ▸ h1.le, h4, h5, ⟨_, h6⟩, ⟨_, h7⟩⟩

theorem MxAt.fr {b4 nb len k i : Nat} {dat d : Nat → UInt8} {w3 w w' : World} {v9 v10 : Value} (h : MxAt b4 nb len dat w3 k i d v9 v10 w) (f : Fr [] w w') : MxAt b4 nb len dat w3 k i d v9 v10 w' := by
  obtain ⟨at_, da, st, td, sv, wv, h1, h2, h3, h4, h5, h6, ⟨l, h7, h7'⟩, h8, h9, h10⟩ := h
  exact ⟨at_, da, st, td, sv, wv, h1, h2, h3, h4.trans0 f, h5, h6, ⟨l, h7.fr0 f, h7'⟩, own_fr0 h8 f, own_fr0 h9 f, fun j hj => ⟨(h10 j hj).1.fr f (fun _ _ _ => by simp), own_fr0 (h10 j hj).2 f⟩⟩

/-- One step more. -/
theorem MxAt.step {b4 nb len k i : Nat} {dat d : Nat → UInt8} {w3 w w' : World} {v9 v10 : Value} (h : MxAt b4 nb len dat w3 k i d v9 v10 w) {s : Stp} {i' : Nat} {d' : Nat → UInt8} {t : Tld} (hd : Does len s i d i' d' t) (hl : i' ≤ len) {ms : List Nat} (f : Fr ms w w')
    (hm : ∀ y ∈ ms, y = nb ∨ y ∈ v9.ownBlock.toList ∨ y ∈ v10.ownBlock.toList) (hb : ∃ l, Blk w' nb 5 l ∧ ∀ y, y < len → l[y]? = some (U8 (d' y))) {v9' v10' dv uv : Value}
    (h9 : ∀ x9, w.ownsRow b4 66 5 v9 k x9 → w'.ownsRow b4 66 5 v9' (k + 1) (x9 ++ (stpV s dv).toList)) (h10 : ∀ x10, w.ownsRow b4 55 3 v10 k x10 → w'.ownsRow b4 55 3 v10' (k + 1) (x10 ++ [uv, .int .i64 (t.num : Nat), .int .i64 0]))
    (hs : SvIs w' b4 dv s) (ho : w'.ownsRow b4 5 1 uv t.cnt (tab t.cnt (fun y => U8 (t.x y)))) : MxAt b4 nb len dat w3 (k + 1) i' d' v9' v10' w' := by
  obtain ⟨at_, da, st, td, sv, wv, h1, rfl, rfl, h4, h5, h6, _, h8, h8', h11⟩ := h
  have hno : ∀ {v : Value} {n : Nat} {xs : List Value}, w.ownsRow b4 5 1 v n xs → ∀ g, v.ownBlock = some g → g ∉ ms := by
    intro v n xs hv g hg hgm
    rcases hm g hgm with e | e | e
    · have := (hv.lt g hg).1
      omega
    · exact own_sep hv h8 (by decide) g hg e
    · exact own_sep hv h8' (by decide) g hg e
  refine ⟨_, _, _, _, insI k sv dv, insI k wv uv, h1.snoc hd hl, insI_self _ _ _, insI_self _ _ _, ?_, h5, h6, hb, ?_, ?_, fun j hj => ?_⟩
  · refine h4.trans f (fun y hy => ?_)
    rcases hm y hy with e | e | e
    · exact .inl (by simp [e])
    · exact .inr (Nat.le_trans h6 (h8.lt y (by simpa using e)).1)
    · exact .inr (Nat.le_trans h6 (h8'.lt y (by simpa using e)).1)
  · rw [stepsRow_succ, insI_self, insI_self, stepsRow_congr (sv' := sv) (st' := st) k (fun j hj => ⟨insI_ne _ _ _ _ (by omega), insI_ne _ _ _ _ (by omega)⟩)]
    exact h9 _ h8
  · rw [toldRow_succ, insI_self, insI_self, toldRow_congr2 (dv' := wv) (td' := td) k (fun j hj => ⟨insI_ne _ _ _ _ (by omega), insI_ne _ _ _ _ (by omega)⟩)]
    exact h10 _ h8'
  · by_cases hjk : j = k
    · subst hjk
      rw [insI_self, insI_self, insI_self, insI_self]
      exact ⟨hs, ho⟩
    · rw [insI_ne _ _ _ _ hjk, insI_ne _ _ _ _ hjk, insI_ne _ _ _ _ hjk, insI_ne _ _ _ _ hjk]
      obtain ⟨g1, g2⟩ := h11 j (by omega)
      exact ⟨g1.fr f hno, own_fr g2 f (hno g2)⟩

/-- Other bytes of one node. -/
def datSet (nd : Nat → Nd) (e : Nat) (d : Nat → UInt8) : Nat → Nd := fun x => if x = e then { nd e with dat := d } else nd x
theorem datSet_same (nd : Nat → Nd) (e : Nat) (d : Nat → UInt8) (x : Nat) : (datSet nd e d x).name = (nd x).name ∧ (datSet nd e d x).stream = (nd x).stream ∧ (datSet nd e d x).len = (nd x).len ∧
    (datSet nd e d x).left = (nd x).left ∧ (datSet nd e d x).right = (nd x).right ∧ (datSet nd e d x).child = (nd x).child ∧ (datSet nd e d x).cls = (nd x).cls ∧ (datSet nd e d x).sts = (nd x).sts ∧ (datSet nd e d x).cr = (nd x).cr ∧ (datSet nd e d x).md = (nd x).md := by
  unfold datSet
  split
  · rename_i h; subst h; exact ⟨rfl, rfl, rfl, rfl, rfl, rfl, rfl, rfl, rfl, rfl⟩
  · exact ⟨rfl, rfl, rfl, rfl, rfl, rfl, rfl, rfl, rfl, rfl⟩
theorem datSet_self (nd : Nat → Nd) (e : Nat) (d : Nat → UInt8) : (datSet nd e d e).dat = d := by unfold datSet; rw [if_pos rfl]
theorem datSet_ne (nd : Nat → Nd) (e : Nat) (d : Nat → UInt8) (x : Nat) (h : x ≠ e) : datSet nd e d x = nd x := by unfold datSet; rw [if_neg h]

theorem datSet_sameL (N : Nat) (nd : Nat → Nd) (four : Bool) (step e : Nat) (d : Nat → UInt8) : SameL ⟨N, nd, four, step⟩ ⟨N, datSet nd e d, four, step⟩ :=
  ⟨rfl, rfl, rfl, fun x => (datSet_same nd e d x).1, fun x => (datSet_same nd e d x).2.1, fun x => (datSet_same nd e d x).2.2.1, fun x => (datSet_same nd e d x).2.2.2.1, fun x => (datSet_same nd e d x).2.2.2.2.1, fun x => (datSet_same nd e d x).2.2.2.2.2.1,
    fun x => (datSet_same nd e d x).2.2.2.2.2.2.1, fun x => (datSet_same nd e d x).2.2.2.2.2.2.2.1, fun x => (datSet_same nd e d x).2.2.2.2.2.2.2.2.1, fun x => (datSet_same nd e d x).2.2.2.2.2.2.2.2.2⟩

theorem SameL.ok {L L' : Lay} (h : SameL L L') (hL : LayOK L) : LayOK L' := by
  have e : ∀ k j, L'.nmOf k j = L.nmOf k j := fun k j => by unfold Lay.nmOf; rw [h.name]
  exact {
    n1 := by rw [h.N]; exact hL.n1
    n2 := by rw [h.N]; exact hL.n2
    root := by rw [h.stream]; exact hL.root
    len := fun k hk => by rw [h.len]; rw [h.N] at hk; exact hL.len k hk
    nm1 := fun k hk => by rw [h.name]; rw [h.N] at hk; exact hL.nm1 k hk
    nm2 := fun k hk => by rw [h.name]; rw [h.N] at hk; exact hL.nm2 k hk
    nmc := fun k j hk => by rw [e]; rw [h.N] at hk; exact hL.nmc k j hk
    nm0 := fun k hk => by rw [e]; rw [h.N] at hk; exact hL.nm0 k hk
    lks := fun k hk => by rw [h.left, h.right, h.child]; rw [h.N] at hk; exact hL.lks k hk
    cr := fun k hk => by rw [h.cr]; rw [h.N] at hk; exact hL.cr k hk
    md := fun k hk => by rw [h.md]; rw [h.N] at hk; exact hL.md k hk }

/-- A node's bytes set, in memory. -/
theorem NodesOK.datSet {base lb N : Nat} {w : World} {nd : Nat → Nd} {dv : Nat → Value} {t : NT} (h : NodesOK base lb N w nd dv t) (four : Bool) (step e : Nat) (he : e < N) (d : Nat → UInt8) (v : Value)
    (hv : DatIs w (datSet nd e d e) v) : LayOK ⟨N, datSet nd e d, four, step⟩ ∧ NdsIs (w.setCell ⟨lb, e * 28 + 2, none⟩ v) lb ⟨N, datSet nd e d, four, step⟩ (insI e dv v) := by
  have hf : Fr [lb] w (w.setCell ⟨lb, e * 28 + 2, none⟩ v) := (Fr.refl _ _).setCell (.inl (by simp)) _
  obtain ⟨ll, hll⟩ := h.row.lbk
  have hnb : ∀ b l, Blk w b 5 l → b ∉ [lb] := fun b l hb hb2 => by
    have : b = lb := by simpa using hb2
    subst this
    exact absurd (hb.unique hll).1 (by decide)
  refine ⟨(datSet_sameL N nd four step e d).ok (h.ok four step), h.row.put e 2 v _ _ (fun x hx => ⟨datSet_ne nd e d x hx, insI_ne _ _ _ _ hx⟩) ?_ (by omega), fun k hk => ?_⟩
  · rw [insI_self]
    have e1 : Go.Proofs.YtokpomdfgbbhlaaDoor.datSet nd e d e = { nd e with dat := d } := by unfold Go.Proofs.YtokpomdfgbbhlaaDoor.datSet; rw [if_pos rfl]
    show ndCells (Go.Proofs.YtokpomdfgbbhlaaDoor.datSet nd e d e) v = _
    rw [e1]
    rfl
  · show DatIs _ (Go.Proofs.YtokpomdfgbbhlaaDoor.datSet nd e d k) _
    by_cases hke : k = e
    · subst hke
      rw [insI_self]
      exact hv.fr hf hnb
    · rw [insI_ne _ _ _ _ hke, datSet_ne _ _ _ _ hke]
      exact (h.dat k hk).fr hf hnb

/-- The bytes behind the steps are those of the file that is written of the nodes as they are then. -/
theorem turned_same {L L' : Lay} {k : Nat} {F F' F2 : Nat → UInt8} {q len : Nat} {off : Nat → Nat} {d : Nat → UInt8} (hT : Turned F F' q len off d)
    (h2 : (∀ y, y < L.bytes → (∀ p, p < len → y ≠ gOf q off p) → F2 y = F y) ∧ ∀ p, p < len → F2 (gOf q off p) = (L'.nd k).dat p) (hd : (L'.nd k).dat = d) : ∀ y, y < L.bytes → F2 y = F' y := by
  intro y hy
  by_cases hp : ∃ p, p < len ∧ y = gOf q off p
  · obtain ⟨p, hp, rfl⟩ := hp
    rw [h2.2 p hp, hT.ins p hp, hd]
  · rw [hT.out y (fun p hp' e => hp ⟨p, hp', e⟩), h2.1 y hy (fun p hp' e => hp ⟨p, hp', e⟩)]

theorem BytesV.of_bts {w : World} {b n cap : Nat} {f : Nat → UInt8} (h : Bts w b n f) : BytesV w (.slice (some ⟨b, 0, none⟩) n cap) n f :=
  .inr ⟨b, 0, cap, rfl, fun i hi => by rw [Nat.zero_add]; exact (Blk.cell h i).trans (tab_get _ _ _ hi)⟩
theorem BytesV.congr {w : World} {v : Value} {n : Nat} {f g : Nat → UInt8} (h : BytesV w v n f) (hg : ∀ i, i < n → f i = g i) : BytesV w v n g := by
  rcases h with h | ⟨b, o, c, h1, h2⟩
  · exact .inl h
  · exact .inr ⟨b, o, c, h1, fun i hi => by rw [h2 i hi, hg i hi]⟩
end Go.Proofs.YtokpomdfgbbhlaaDoor

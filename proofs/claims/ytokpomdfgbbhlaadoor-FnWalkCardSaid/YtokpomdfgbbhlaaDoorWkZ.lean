/- FnWalk: a file is gone through entry by entry, each read by pieces from its beginning, and behind the last one is the end (part 15 of 15). No condition but the statement's own. -/
import Derived.Clock
import Derived.LaidMore
import Derived.LaidOnce
import Derived.OpenVars
import Derived.SevenTiedAt
import Derived.Test.YtokpomdfgbbhlaaDoorWkn
set_option linter.all false
set_option linter.unusedVariables false
set_option linter.unusedSimpArgs false
set_option linter.unnecessarySimpa false
/- The walk of FnWalk. -/
namespace Go.Proofs.YtokpomdfgbbhlaaDoor
open Go Go.RowKit Go.Maps

theorem walkRow_length (nm : Nat → ByteArray) (rv : Nat → Value) (n : Nat) : (walkRow nm rv n).length = n * 2 := by
  induction n with
  | zero => rfl
  | succ n ih => rw [walkRow_succ, List.length_append, ih]; simp; omega
theorem tellRow_length (dv : Nat → Value) (us : Nat → Nat) (len n : Nat) : (tellRow dv us len n).length = n * 3 := by
  induction n with
  | zero => rfl
  | succ n ih => rw [tellRow_succ, List.length_append, ih]; simp; omega

theorem walkRow_get (nm : Nat → ByteArray) (rv : Nat → Value) (n k : Nat) (hk : k < n) : (walkRow nm rv n)[k * 2]? = some (.string (nm k)) ∧ (walkRow nm rv n)[k * 2 + 1]? = some (rv k) := by
  induction n with
  | zero => omega
  | succ n ih =>
    have hl := walkRow_length nm rv n
    rw [walkRow_succ]
    by_cases h : k < n
    · rw [List.getElem?_append_left (by omega), List.getElem?_append_left (by omega)]
      exact ih h
    · obtain rfl : k = n := by omega
      rw [List.getElem?_append_right (by omega), List.getElem?_append_right (by omega), hl]
      constructor
      · rw [Nat.sub_self]; rfl
      · rw [show k * 2 + 1 - k * 2 = 1 by omega]; rfl

theorem tellRow_get (dv : Nat → Value) (us : Nat → Nat) (len n k : Nat) (hk : k < n) : (tellRow dv us len n)[k * 3]? = some (dv k) ∧ (tellRow dv us len n)[k * 3 + 1]? = some (I64 (cntAt len (rdTo us len k) (us k))) ∧ (tellRow dv us len n)[k * 3 + 2]? = some (I64 (if cntAt len (rdTo us len k) (us k) = us k then 0 else 6)) := by
  induction n with
  | zero => omega
  | succ n ih =>
    have hl := tellRow_length dv us len n
    rw [tellRow_succ]
    by_cases h : k < n
    · rw [List.getElem?_append_left (by omega), List.getElem?_append_left (by omega), List.getElem?_append_left (by omega)]
      exact ih h
    · obtain rfl : k = n := by omega
      rw [List.getElem?_append_right (by omega), List.getElem?_append_right (by omega), List.getElem?_append_right (by omega), hl]
      refine ⟨?_, ?_, ?_⟩
      · rw [Nat.sub_self]; rfl
      · rw [show k * 3 + 1 - k * 3 = 1 by omega]; rfl
      · rw [show k * 3 + 2 - k * 3 = 2 by omega]; rfl

theorem take2 {l : List Value} {i : Nat} {a b : Value} (h0 : l[i]? = some a) (h1 : l[i + 1]? = some b) : (l.drop i).take 2 = [a, b] := by
  apply List.ext_getElem?
  intro j
  rw [List.getElem?_take]
  rcases j with _ | _ | j
  · rw [if_pos (by omega), List.getElem?_drop]; exact h0
  · rw [if_pos (by omega), List.getElem?_drop]; exact h1
  · rw [if_neg (by omega)]; rfl
theorem take3 {l : List Value} {i : Nat} {a b c : Value} (h0 : l[i]? = some a) (h1 : l[i + 1]? = some b) (h2 : l[i + 2]? = some c) : (l.drop i).take 3 = [a, b, c] := by
  apply List.ext_getElem?
  intro j
  rw [List.getElem?_take]
  rcases j with _ | _ | _ | j
  · rw [if_pos (by omega), List.getElem?_drop]; exact h0
  · rw [if_pos (by omega), List.getElem?_drop]; exact h1
  · rw [if_pos (by omega), List.getElem?_drop]; exact h2
  · rw [if_neg (by omega)]; rfl

theorem info42_ex : ∃ a, Tryd.prog.info? 42 = some a ∧ a.size = 28 := by
  have h : (Tryd.prog.info? 42).map (·.size) = some 28 := by kernel_rfl
  simpa using h
theorem nd_one {w : World} {x : Nd} {dv : Value} (h : DatIs w x dv) : (ndCells x dv).toArray.all (·.oneCell') = true := by
  refine all_oneCell_toArray (fun v hv => ?_)
  obtain ⟨ad, ac, hdv, _⟩ := h
  rw [hdv] at hv
  unfold ndCells at hv
  simp only [tab, List.mem_append, List.mem_cons, List.not_mem_nil, or_false, List.mem_map] at hv
  rcases hv with ((h | ⟨i, _, rfl⟩) | ⟨i, _, rfl⟩) | h
  · rcases h with rfl | rfl | rfl | rfl | rfl | rfl <;> rfl
  · rfl
  · rfl
  · rcases h with rfl | rfl <;> rfl

set_option maxRecDepth 100000 in
set_option maxHeartbeats 8000000 in
theorem fnwalk_any (nb no nn ncap cb co cn ccap zb zo zn zcap eb eo : Nat) (num : Nat → Nat) (cl sz : Nat → UInt8) (na ca za : Option Addr) (four : Bool) (step : Nat) (w : World) (hstep : step < 256)
    (hnc : nn ≤ ncap ∧ ncap ≤ 9223372036854775807) (hcc : cn ≤ ccap ∧ ccap ≤ 9223372036854775807) (hzc : zn ≤ zcap ∧ zcap ≤ 9223372036854775807)
    (hnum : ∀ i, num i < 4294967296) (hna : 0 < nn → na = some ⟨nb, no, none⟩) (hca : 0 < cn → ca = some ⟨cb, co, none⟩) (hza : 0 < zn → za = some ⟨zb, zo, none⟩)
    (hnums : ∀ i, i < nn → w.cell? ⟨nb, no + i, none⟩ = some (.int .u32 (num i : Nat))) (hcls : ∀ i, i < cn → w.cell? ⟨cb, co + i, none⟩ = some (U8 (cl i))) (hszs : ∀ i, i < zn → w.cell? ⟨zb, zo + i, none⟩ = some (U8 (sz i)))
    (hev : w.cell? ⟨0, 0, none⟩ = some (.iface 187 (.pointer (some ⟨eb, eo, none⟩))))
    (hp : ∀ i, 65 ≤ i → i ≤ 90 → w.cell? ⟨2, i, none⟩ = some (.int .u8 160)) (h2w : 2 < w.heap.size) :
    Calls Tryd.prog 5 #[.slice na nn ncap, .slice ca cn ccap, .bool four, .int .u8 (step : Int), .slice za zn zcap] w fun e w' => e = .returned (.bool true) ∧ Fr [] w w' := by
  have HNUM := Lib.hid hnum
  have HNA := Lib.hid hna
  have HCA := Lib.hid hca
  have HZA := Lib.hid hza
  have HNUMS := Lib.hid hnums
  have HCLS := Lib.hid hcls
  have HSZS := Lib.hid hszs
  have HP := Lib.hid hp
  have HEV := Lib.hid hev
  clear hnum hna hca hza hnums hcls hszs hp hev
  by_cases h1 : 2147483647 < nn
  · have hd : decide ((2147483647 : Int) < (nn : Int)) = true := by simp; omega
    go_enter Tryd.func5, Tryd.ntmps5
    go_wp2_with fail
    go_ret
    exact ⟨rfl, Fr.refl _ _⟩
  have hd1 : decide ((2147483647 : Int) < (nn : Int)) = false := by simp; omega
  by_cases h2 : 2147483647 < cn
  · have hd : decide ((2147483647 : Int) < (cn : Int)) = true := by simp; omega
    go_enter Tryd.func5, Tryd.ntmps5
    go_wp2_with fail
    go_ret
    exact ⟨rfl, Fr.refl _ _⟩
  have hd2 : decide ((2147483647 : Int) < (cn : Int)) = false := by simp; omega
  by_cases h2z : 2147483647 < zn
  · have hd : decide ((2147483647 : Int) < (zn : Int)) = true := by simp; omega
    go_enter Tryd.func5, Tryd.ntmps5
    go_wp2_with fail
    go_ret
    exact ⟨rfl, Fr.refl _ _⟩
  have hd2z : decide ((2147483647 : Int) < (zn : Int)) = false := by simp; omega
  by_cases h3 : 100 < nn
  · go_enter Tryd.func5, Tryd.ntmps5
    go_wp2_with fail
    refine (few_no1 _ _ nn cn _ _ _ h3).mono ?_
    rintro e w1 ⟨rfl, rfl⟩
    go_wp2_with fail
    go_ret
    exact ⟨rfl, Fr.refl _ _⟩
  by_cases h4 : 1000 < cn
  · go_enter Tryd.func5, Tryd.ntmps5
    go_wp2_with fail
    refine (few_no2 _ _ nn cn _ _ _ (by omega) h4).mono ?_
    rintro e w1 ⟨rfl, rfl⟩
    go_wp2_with fail
    go_ret
    exact ⟨rfl, Fr.refl _ _⟩
  by_cases h5 : 100 < zn
  · have hd : decide ((100 : Int) < (zn : Int)) = true := by simp; omega
    go_enter Tryd.func5, Tryd.ntmps5
    go_wp2_with fail
    refine (few_yes _ _ nn cn _ _ _ (by omega) (by omega)).mono ?_
    rintro e w1 ⟨rfl, rfl⟩
    go_wp2_with fail
    go_ret
    exact ⟨rfl, Fr.refl _ _⟩
  have hd5 : decide ((100 : Int) < (zn : Int)) = false := by simp; omega
  go_enter Tryd.func5, Tryd.ntmps5
  go_wp2_with fail
  refine (few_yes _ _ nn cn _ _ _ (by omega) (by omega)).mono ?_
  rintro e w1 ⟨rfl, rfl⟩
  go_wp2_with fail
  refine (nodes_any nb no nn ncap cb co cn ccap num cl na ca w hnc (by omega) HNUM.out HNA.out HCA.out HNUMS.out HCLS.out).mono ?_
  rintro e w1 ⟨lb, N, cap, nd, dv, t, rfl, hcap1, hcap2, hf1, hN⟩
  have hn1 := hN.n1
  have hn2 := hN.n2
  have HN := Lib.hid hN
  have HF1 := Lib.hid hf1
  clear hN hf1
  go_wp2_with fail
  have hwr := write_a lb cap ⟨N, nd, four, step⟩ dv w1 (HN.out.ok _ _) (HN.out.nds _ _) ⟨hcap1, hcap2⟩ (by show step ≤ 300; omega)
  have hver : (Lay.mk N nd four step).ver = if four = true then 4 else 3 := rfl
  have hLN : (Lay.mk N nd four step).N = N := rfl
  have hLS : (Lay.mk N nd four step).step = step := rfl
  have hLnd : (Lay.mk N nd four step).nd = nd := rfl
  rw [hver, hLN, hLS] at hwr
  generalize (Lay.mk N nd four step) = L at *
  generalize hv : (if four = true then 4 else 3) = ver at *
  have HV := Lib.hid hv
  have HWR := Lib.hid hwr
  have HL := Lib.hid (And.intro hLnd hLN)
  clear hwr hver hLN hLS hLnd hv
  refine (version_is four ver HV.out _).mono ?_
  rintro e w3 ⟨rfl, rfl⟩
  go_wp2_with fail
  refine HWR.out.mono ?_
  rintro e w3 ⟨ob, F, fat, mfat, W, rfl, hf3, hob, hB, hW⟩
  have HW := Lib.hid hW
  have HF3 := Lib.hid (HF1.out.trans0 hf3)
  have HN3 := Lib.hid (HN.out.fr hf3)
  have HB := Lib.hid hB
  clear hW hf3 HN hB HWR
  by_cases hbig : 131072 < L.bytes
  · have hd : (131072 : Int) < (L.bytes : Int) := by omega
    go_wp2_with fail
    go_ret
    exact ⟨rfl, HF3.out⟩
  have hdI : ¬ (131072 : Int) < (L.bytes : Int) := by omega
  obtain ⟨nu, hnu⟩ : ∃ nu, nu = min zn 12 := ⟨_, rfl⟩
  have hnI : min (zn : Int) 12 = (nu : Int) := by omega
  have hnu12 : nu ≤ 12 := by omega
  have hnuz : nu ≤ zn := by omega
  have HNU := Lib.hid hnu
  clear hnu
  go_upto_region 10 with (fail)
  have hf4 : Fr [] w3 (w3.alloc (Obj.cells #[] 3)) := (Fr.refl _ _).alloc _
  have ho4 : (w3.alloc (Obj.cells #[] 3)).ownsRow w3.heap.size 3 1 (.slice (some ⟨w3.heap.size, 0, none⟩) 0 0) 0 [] := World.ownsRow_made w3 #[] 0 (Nat.le_refl _) (by unfold maxLen; omega) rfl
  have HF4 := Lib.hid hf4
  have hs4 : w3.heap.size ≤ (w3.alloc (Obj.cells #[] 3)).heap.size := hf4.size
  clear hf4
  generalize w3.alloc (Obj.cells #[] 3) = w4 at *
  generalize hb4 : w3.heap.size = b4 at *
  have HB4 := Lib.hid hb4
  clear hb4
  go_cut [66, 67, 68] from 62 to 68 (fun s66 s67 s68 w5 => ∃ c', s66 = .slice za nu c' ∧ s67 = .int .i64 nu ∧ s68 = .int .i64 0 ∧ w4 = w5)
  case first =>
    have hnu := HNU.out
    have hnI' := hnI
    clear hnI hnI'
    by_cases h12 : zn ≤ 12
    · obtain rfl : nu = zn := by omega
      have h12I : (nu : Int) ≤ 12 := by omega
      have hnz : (nu : Int) ≤ (zcap : Int) := by omega
      clear hnu
      rcases za with _ | ad
      · go_wp2_with fail
        go_meet
        case rel => exact ⟨_, rfl, by first | rfl | simp, rfl, rfl⟩
      · go_wp2_with fail
        go_meet
        case rel => exact ⟨_, rfl, by first | rfl | simp, rfl, rfl⟩
    · obtain rfl : nu = 12 := by omega
      have h12I : (12 : Int) < (zn : Int) := by omega
      have hnz : (12 : Int) ≤ (zcap : Int) := by omega
      obtain rfl := HZA.out (by omega)
      clear hnu
      go_wp2_with fail
      go_meet
      case rel => exact ⟨_, rfl, by first | rfl | simp, rfl, rfl⟩
  case rest =>
  obtain ⟨c', rfl, rfl, rfl, rfl⟩ := hcut
  obtain ⟨us, hus⟩ : ∃ us : Nat → Nat, us = fun j => 1 + (sz j).toNat % 80 := ⟨_, rfl⟩
  have HUS := Lib.hid hus
  have HO4 := Lib.hid ho4
  clear hus ho4
  go_wp2_with fail
  go_loopw [13, 68] (fun s13 s68 wr => ∃ i : Nat, i ≤ nu ∧ s68 = .int .i64 i ∧ Fr [] w3 wr ∧ wr.ownsRow b4 3 1 s13 i (tab i (fun j => I64 (us j))) ∧ ∃ ua uc, s13 = .slice ua i uc ∧ (i = 0 → ua = some ⟨b4, 0, none⟩ ∧ uc = 0)) (fun _ s68 _ => nu - (intOf s68).toNat)
  case atStart => exact ⟨0, by omega, rfl, HF4.out, HO4.out, _, _, rfl, fun _ => ⟨rfl, rfl⟩⟩
  case round =>
    obtain ⟨i, hi, rfl, hf, hown, ua, uc, rfl, hua0⟩ := hrel
    by_cases hin : i < nu
    · have hinI : (i : Int) < (nu : Int) := by omega
      obtain rfl := HZA.out (by omega)
      have hc := hf.cell0 (HF3.out.cell0 (HSZS.out i (by omega)))
      have hbase : b4 ≤ wr.heap.size := by have := HB4.out; have := hf.size; omega
      have hsz := (sz i).toNat_lt
      have husi : us i = 1 + (sz i).toNat % 80 := by rw [HUS.out]
      have HUI := Lib.hid husi
      clear husi hua0
      go_wp2_with (at_builtin; refine wpList_app1 rfl (.tmp 72) (.tmp 77) 31 rfl 3 (.int .i64 0) 8 Tryd.underlying31 info3 rfl (by decide) b4 _ i _ rfl _ hown rfl rfl (by omega) hbase ?_)
      intro v' w1 hown1 hg1
      have hf1 := hf.own hown (by rw [HB4.out]; exact Nat.le_refl _) hg1
      have hown2 := own_tab hown1 (by rw [HUI.out]; show Value.int .i64 _ = Value.int .i64 _; push_cast; rfl)
      obtain ⟨ua', uc', rfl⟩ := own_slice hown2
      clear hown1 hg1 hown hf
      go_wp2_with fail
      go_roundw
      case rel => exact ⟨i + 1, by omega, by go_num, hf1, hown2, _, _, rfl, fun h => by omega⟩
      case measure => simp [intOf]; omega
    obtain rfl : i = nu := by omega
    have hinI : ¬ (i : Int) < (i : Int) := by omega
    have hN4 := HN3.out.fr hf
    have hord := order_any lb N cap hn2 ⟨hcap1, hcap2⟩ nd dv t wr hN4.row hN4.tree.fits hN4.tree.lt (by rw [hN4.tree.len]; omega)
    rw [hN4.tree.len] at hord
    have HO := Lib.hid hord
    have HN5 := Lib.hid hN4
    have HQ := Lib.hid (And.intro hf hown)
    have HUA := Lib.hid hua0
    clear hord hN4 hf hown hua0
    go_wp2_with fail
    refine HO.out.mono ?_
    rintro e w6 ⟨v1, v2, vs, rfl, hf6, ho1, ho2, hpa⟩
    obtain ⟨hf3, hown⟩ := HQ.out
    have hown6 := own_fr0 hown hf6
    have huse : ∃ ub', ua = some ⟨ub', 0, none⟩ ∧ (∀ j, j < i → w6.cell? ⟨ub', j, none⟩ = some (I64 (us j))) ∧ i ≤ uc ∧ uc ≤ 9223372036854775807 := by
      rcases Nat.eq_zero_or_pos i with h0 | h0
      · obtain ⟨e1, e2⟩ := HUA.out h0
        exact ⟨b4, e1, fun j hj => by omega, by omega, by omega⟩
      · obtain ⟨b, c, l, h1, _, h2, h3, h4, h5⟩ := own_blk2 hown6 h0
        injection h1 with h1a h1b h1c
        subst h1a h1c
        exact ⟨b, rfl, fun j hj => (h2.cell j).trans (h3 j hj), h4, h5⟩
    obtain ⟨ub', rfl, hucs, huc1, huc2⟩ := huse
    have hF36 := HF3.out.trans0 (hf3.trans0 hf6)
    have hF63 := hf3.trans0 hf6
    have hub : ∀ j, j < i → 1 ≤ us j ∧ us j ≤ 80 := fun j _ => by rw [HUS.out]; dsimp only; omega
    have hN6 := HN5.out.fr hf6
    have hww := walk_wrote hN6 L HL.out HW.out (by omega) ob (HB.out.fr0 hF63) (fun i a b => hF36.cell0 (HP.out i a b)) (Nat.lt_of_lt_of_le h2w hF36.size) ub' i uc eb eo (some ⟨ub', 0, none⟩) us (fun _ => rfl) hucs hnu12 hub ⟨huc1, huc2⟩ (hF36.cell0 HEV.out)
    obtain ⟨b1, c1, l1, rfl, _, hl1, hg1, hb1a, hb1b, _⟩ := own_blkS ho1 hn1
    have hlen : t.order.length = N := hN6.tree.len
    have hord6 : ∀ k, k < N → w6.cell? ⟨b1, k, none⟩ = some (I64 (t.order.getD k 0)) ∧ t.order.getD k 0 < N := by
      intro k hk
      have e1 : t.order.getD k 0 = t.order[k] := by rw [List.getD_eq_getElem?_getD, List.getElem?_eq_getElem (by omega)]; rfl
      rw [hl1.cell, hg1 k (by omega), List.getElem?_map, List.getElem?_eq_getElem (by omega), e1]
      exact ⟨rfl, hN6.tree.lt _ (List.getElem_mem (by omega))⟩
    have HWW := Lib.hid hww
    have HORD := Lib.hid hord6
    have HN6 := Lib.hid hN6
    have HF6 := Lib.hid hF36
    have HUC := Lib.hid hucs
    have HUB := Lib.hid hub
    obtain ⟨M, hM⟩ : ∃ M, N = M + 1 := ⟨N - 1, by omega⟩
    have hMN : N - 1 = M := by omega
    rw [hMN] at hww
    have HWW := Lib.hid hww
    have hMI : (N : Int) - 1 = (M : Int) := by omega
    have HM := Lib.hid hM
    clear hww hord6 hN6 hF36 hucs hub hown6 hown hf3 hf6 ho1 ho2 hpa hl1 hg1 hF63 HO HN5 HQ HUA hMN hM hlen
    go_wp2_with fail
    refine HWW.out.mono ?_
    rintro e w7 ⟨hf7, v7, rfl, rv, hwo, hrds⟩
    obtain ⟨wa, wc, rfl⟩ := own_slice hwo
    have HWO := Lib.hid (And.intro hwo (And.intro hrds hf7))
    clear hwo hrds hf7
    go_wp2_with fail
    go_loopw [103] (fun s103 wr => ∃ k : Nat, k ≤ M ∧ s103 = .int .i64 k ∧ Fr [] w7 wr) (fun s103 _ => M - (intOf s103).toNat)
    case atStart => exact ⟨0, by omega, rfl, Fr.refl _ _⟩
    case round =>
      obtain ⟨k, hk, rfl, hf⟩ := hrel
      by_cases hkM : k < M
      case neg =>
        obtain rfl : k = M := by omega
        have hkI : ¬ (k : Int) < (k : Int) := by omega
        have HFN := Lib.hid (HF6.out.trans0 (HWO.out.2.2.trans0 hf))
        clear hf
        go_wp2_with fail
        go_ret
        exact ⟨rfl, HFN.out⟩
      have hkI : (k : Int) < (M : Int) := by omega
      obtain ⟨q1, he⟩ := HORD.out (k + 1) (by have := HM.out; omega)
      have hf67 := HWO.out.2.2.trans0 hf
      replace q1 := hf67.cell0 q1
      obtain ⟨gb, gc, gl, hgv, _, hgB, hgl, _, _, hgL⟩ := own_blkS HWO.out.1 (by omega : 1 ≤ M)
      injection hgv with hg1 hg2 hg3
      subst hg1 hg3
      obtain ⟨w1g, w2g⟩ := walkRow_get (fun k => (nd (t.order.getD (k + 1) 0)).name) rv M k hkM
      have hrd := HWO.out.2.1 k hkM
      have hN8 := HN6.out.fr hf67
      have hrow := hN8.row
      have hdat := hN8.dat _ he
      have hgB8 := hgB.fr0 hf
      have hgl1 := (hgl (k * 2) (by omega)).trans w1g
      have hgl2 := (hgl (k * 2 + 1) (by omega)).trans w2g
      have hglen : k * 2 + 2 ≤ gl.length := by rw [hgL]; have := (List.getElem?_eq_some_iff.1 hgl2).1; omega
      generalize t.order.getD (k + 1) 0 = e at *
      generalize rv k = rvk at *
      obtain ⟨dvk, hro, hrb⟩ := hrd
      obtain ⟨ra, rc, rfl⟩ := own_slice hro
      have hgt := take2 hgl1 hgl2
      have heI : (e : Int) < (N : Int) := by omega
      have hkNI : (k : Int) + 1 < (N : Int) := by omega
      have HRO := Lib.hid (And.intro (own_fr0 hro hf) (fun j (hj : j < i) => own_fr0 (hrb j hj) hf))
      have HF := Lib.hid (And.intro hf hf67)
      have HROW := Lib.hid hrow
      have HDAT := Lib.hid hdat
      clear hf hf67 hro hrb hN8 hgl hgB hgl1 hgl2 w1g w2g hrow hdat hgL
      go_upto_region 21 with (fail)
      go_cut [20, 21] from 105 to 107 (fun s20 s21 w8 => ∃ g1 : Nat, s20 = .int .i64 k ∧ s21 = .pointer (some ⟨g1, 0, none⟩) ∧ Fr [] wr w8 ∧ Blk w8 g1 53 [.string (nd e).name, .slice ra i rc])
      case first =>
        go_wp2_with (first
          | (refine wpList_load_blk rfl 53 (.tmp 106) rfl gb (k * 2) rfl 53 gl hgB8 _ Tryd.underlying53 rfl 2 (by kernel_rfl) hglen #[.string (nd e).name, .slice ra i rc] hgt ?_)
          | (refine wpList_store_blk rfl 53 (.tmp 21) (.tmp 107) rfl wr.heap.size 0 #[.string (nd e).name, .slice ra i rc] rfl rfl 53 _ (Blk.new' wr 53 _) ?c1 ?c2 rfl ?_))
        go_meet
        case rel => exact ⟨wr.heap.size, rfl, rfl, (Fr.refl _ _).alloc _, Blk.new' _ _ _⟩
      case rest =>
      obtain ⟨g1, rfl, rfl, hf8, hg1B⟩ := hcut
      obtain ⟨ll, hll, hlc⟩ := HROW.out.fr hf8 (by simp)
      have hcs : (ll.drop (e * 28)).take 28 = ndCells (nd e) (dv e) := by
        apply List.ext_getElem?
        intro j
        rw [List.getElem?_take]
        by_cases hj : j < 28
        · rw [if_pos hj, List.getElem?_drop]; exact hlc e he j hj
        · rw [if_neg hj, List.getElem?_eq_none (by rw [ndCells_length]; omega)]
      have hle : e * 28 + 28 ≤ ll.length := by
        have h0 := hlc e he 27 (by omega)
        rw [List.getElem?_eq_getElem (show 27 < (ndCells (nd e) (dv e)).length by rw [ndCells_length]; omega)] at h0
        have := (List.getElem?_eq_some_iff.1 h0).1
        omega
      obtain ⟨xl, hxl⟩ : ∃ x : Array Value, x = (ndCells (nd e) (dv e)).toArray := ⟨_, rfl⟩
      have hcs2 : (ll.drop (e * 28)).take 28 = xl.toList := by rw [hxl]; exact hcs
      have hxsz : xl.size = 28 := by rw [hxl]; simp [ndCells_length]
      have hxone : xl.all (·.oneCell') = true := by rw [hxl]; exact nd_one HDAT.out
      have q1' := hf8.cell0 q1
      have HXL := Lib.hid hxl
      have HXS := Lib.hid hxsz
      have HCS2 := Lib.hid hcs2
      have HG1 := Lib.hid hg1B
      have HF8 := Lib.hid hf8
      clear hlc hcs hxl hxsz hcs2 hg1B hf8 hgB8 hgt
      go_upto_region 22 with (fail)
      go_cut [22] from 108 to 115 (fun s22 w9 => ∃ g3 : Nat, s22 = .pointer (some ⟨g3, 0, none⟩) ∧ Fr [] wc w9 ∧ Blk w9 g3 42 (ndCells (nd e) (dv e)))
      case first =>
        go_wp2_with (first | (refine wpList_load_blk rfl 42 (.tmp 114) rfl lb (e * 28) rfl 42 ll hll _ Tryd.underlying42 rfl 28 (by kernel_rfl) hle xl HCS2.out ?_) | (refine wpList_store_blk rfl 42 (.tmp 22) (.tmp 115) rfl wc.heap.size 0 xl rfl rfl 42 _ (Blk.new' wc 42 _) ?_ ?_ hxone ?_))
        · rw [HXS.out]; show 0 + 28 ≤ 28; omega
        · rw [HXS.out]; first | kernel_rfl | exact info42_ex
        · intro w5 hf5 hb5
          rw [splice_whole _ _ (by show (28 : Nat) = xl.toList.length; rw [Array.length_toList, HXS.out]), HXL.out] at hb5
          have HR := Lib.hid (And.intro (((Fr.refl [] wc).alloc _).trans hf5 (by simp)) hb5)
          clear hf5 hb5
          go_wp2_with fail
          go_meet
          case rel => exact ⟨_, rfl, HR.out.1, HR.out.2⟩
      case rest =>
      obtain ⟨g3, rfl, hf9, hg3B⟩ := hcut
      have hg1C := HG1.out.fr0 hf9
      have hfr9 := HF8.out.trans0 hf9
      have e10 : wc.cell? ⟨g1, 0, none⟩ = some (.string (nd e).name) := hg1C.cell 0
      have e11 : wc.cell? ⟨g1, 1, none⟩ = some (.slice ra i rc) := hg1C.cell 1
      have e30 : wc.cell? ⟨g3, 0, none⟩ = some (.string (nd e).name) := hg3B.cell 0
      have HG1 := Lib.hid hg1C
      have HG3 := Lib.hid hg3B
      have HF9 := Lib.hid hfr9
      have HF79 := Lib.hid (HF.out.2.trans0 hfr9)
      clear hg1C hg3B hfr9 hf9 hll hle hxone q1' q1
      go_wp2_with fail
      go_loopw [23, 132] (fun s23 s132 w10 => ∃ j : Nat, j ≤ i ∧ s132 = .int .i64 j ∧ s23 = .int .i64 (rdTo us (nd e).len j) ∧ Fr [] wc w10) (fun _ s132 _ => i - (intOf s132).toNat)
      case atStart => exact ⟨0, by omega, rfl, by rw [rdTo_zero]; rfl, Fr.refl _ _⟩
      case round =>
        obtain ⟨j, hj, rfl, rfl, hfj⟩ := hrel
        by_cases hji : j < i
        case neg =>
          obtain rfl : j = i := by omega
          have hjI : ¬ (j : Int) < (j : Int) := by omega
          have HFJ := Lib.hid (HF.out.1.trans0 (HF9.out.trans0 hfj))
          clear hfj
          go_wp2_with fail
          go_roundw
          case rel => exact ⟨k + 1, by omega, by go_num, HFJ.out⟩
          case measure => simp [intOf]; omega
        have hjI : (j : Int) < (i : Int) := by omega
        have hro := own_fr0 HRO.out.1 (HF9.out.trans0 hfj)
        have hby := BytesV.of_own (own_fr0 (HRO.out.2 j hji) (HF9.out.trans0 hfj))
        obtain ⟨da, dc, hdv⟩ := own_slice (HRO.out.2 j hji)
        obtain ⟨tb, tc, tl, htv, _, htB, htl, _, _, htL⟩ := own_blkS hro (by omega : 1 ≤ i)
        injection htv with ht1 ht2 ht3
        subst ht1 ht3
        obtain ⟨u1, u2, u3⟩ := tellRow_get dvk us (nd e).len i j hji
        have hl1 := (htl (j * 3) (by omega)).trans u1
        have hl2 := (htl (j * 3 + 1) (by omega)).trans u2
        have hl3 := (htl (j * 3 + 2) (by omega)).trans u3
        have htlen : j * 3 + 3 ≤ tl.length := by have := (List.getElem?_eq_some_iff.1 hl3).1; omega
        have hgt3 := take3 hl1 hl2 hl3
        rw [hdv] at hby hgt3
        obtain ⟨a0, dcap, hdve, hdc1, hdc2, hdb⟩ := HDAT.out
        have hatle := rdTo_le us (nd e).len j
        have hsucc := rdTo_succ us (nd e).len j
        have hcdef : cntAt (nd e).len (rdTo us (nd e).len j) (us j) = min (us j) ((nd e).len - rdTo us (nd e).len j) := rfl
        obtain ⟨hu1, hu2⟩ := HUB.out j hji
        have hln9 : (nd e).len ≤ 9000 := (HN6.out.ok false 0).len e he
        generalize hatq : rdTo us (nd e).len j = at_ at *
        generalize hcq : cntAt (nd e).len at_ (us j) = cnt at *
        generalize hkq : (if cnt = us j then 0 else 6) = kc at *
        generalize hlq : (nd e).len = len at *
        generalize huq : us j = u at *
        have hucell : wr.cell? ⟨ub', j, none⟩ = some (I64 u) := by rw [← huq]; exact hfj.cell0 (HF79.out.cell0 (HUC.out j hji))
        have hg3r := HG3.out.fr0 hfj
        have e32 : wr.cell? ⟨g3, 2, none⟩ = some (.slice a0 len dcap) := by rw [← hdve]; exact hg3r.cell 2
        have HSU := Lib.hid hsucc
        have HAT := Lib.hid hatq
        have HCQ := Lib.hid hcq
        have HKQ := Lib.hid hkq
        have HBY := Lib.hid hby
        have HCD := Lib.hid hcdef
        have HDB := Lib.hid hdb
        have HFJ := Lib.hid hfj
        clear hsucc hatq hcq hkq hlq huq hby hcdef hdb hfj hro htl u1 u2 u3 hl1 hl2 hl3 hdv hdve hg3r htL
        go_upto_region 28 with (fail)
        go_cut [24, 25] from 134 to 136 (fun s24 s25 w11 => ∃ g5 : Nat, s24 = .int .i64 j ∧ s25 = .pointer (some ⟨g5, 0, none⟩) ∧ Fr [] wr w11 ∧ Blk w11 g5 55 [.slice da cnt dc, I64 cnt, I64 kc])
        case first =>
          go_wp2_with (first
            | (refine wpList_load_blk rfl 55 (.tmp 135) rfl tb (j * 3) rfl 55 tl htB _ Tryd.underlying55 rfl 3 (by kernel_rfl) htlen #[.slice da cnt dc, I64 cnt, I64 kc] hgt3 ?_)
            | (refine wpList_store_blk rfl 55 (.tmp 25) (.tmp 136) rfl wr.heap.size 0 #[.slice da cnt dc, I64 cnt, I64 kc] rfl rfl 55 _ (Blk.new' wr 55 _) ?c1 ?c2 rfl ?_))
          go_meet
          case rel => exact ⟨wr.heap.size, rfl, rfl, (Fr.refl _ _).alloc _, Blk.new' _ _ _⟩
        case rest =>
        obtain ⟨g5, rfl, rfl, hf11, hg5B⟩ := hcut
        have e32' := hf11.cell0 e32
        have hu' := hf11.cell0 hucell
        have HF11 := Lib.hid hf11
        have HG5 := Lib.hid hg5B
        clear hf11 hg5B hgt3 htB htlen e32 hucell
        obtain ⟨hi_, hhi⟩ : ∃ h, h = at_ + cnt := ⟨_, rfl⟩
        have hcd := HCD.out
        have hcl : at_ + cnt ≤ len := by omega
        have hi1 : (at_ : Int) ≤ (hi_ : Int) := by omega
        have hi2 : (hi_ : Int) ≤ (dcap : Int) := by omega
        have hmin : ((at_ : Int) + (u : Int) ≤ (len : Int) ∧ hi_ = at_ + u) ∨ ((len : Int) < (at_ : Int) + (u : Int) ∧ hi_ = len) := by omega
        have hwat : IntKind.i64.wrap ((at_ : Int) + (u : Int)) = (at_ : Int) + (u : Int) := IntWalk.i64_in _ (by omega)
        have HHI := Lib.hid hhi
        have HCL := Lib.hid hcl
        clear hhi hcd hcl
        go_upto_region 29 with (fail)
        go_cut [26] from 137 to 150 (fun s26 w12 => Fr [] wc w12 ∧ ∃ pa pc, s26 = .slice pa cnt pc ∧ BytesV w12 (.slice pa cnt pc) cnt (fun z => (nd e).dat (at_ + z)))
        case first =>
          have hbv : ∀ w', Fr [] wc w' → BytesV w' (.slice (Option.map (fun x => x.add at_) a0) cnt (dcap - at_)) cnt (fun z => (nd e).dat (at_ + z)) := by
            intro w' hfx
            rcases Nat.eq_zero_or_pos len with h0 | h0
            · have hc0 : cnt = 0 := by have := HCL.out; omega
              rw [hc0]
              exact .inl ⟨⟨_, _, rfl⟩, rfl⟩
            · obtain ⟨b, o, rfl, l, hl, hlx⟩ := HDB.out h0
              refine .inr ⟨b, o + at_, dcap - at_, by rw [Option.map_some, Addr.add_mid], fun z hz => ?_⟩
              have hlb := (((hl.fr0 HF9.out).fr0 HFJ.out).fr0 HF11.out).fr0 hfx
              rw [hlb.cell, Nat.add_assoc]
              exact hlx (at_ + z) (by have := HCL.out; omega)
          have HBV := Lib.hid hbv
          clear hbv
          by_cases hdd : dcap = at_
          · have hla : len = at_ := by have := HCL.out; omega
            have hc0 : cnt = 0 := by have := HCL.out; omega
            have hmI : ¬ (at_ : Int) + (u : Int) < (len : Int) := by omega
            have hlq : len - at_ = cnt := by omega
            have HC0 := Lib.hid (And.intro hc0 (And.intro hla hlq))
            clear hmin hc0 hla hlq
            go_quiet (fail)
            go_wp2_with fail
            go_meet
            case rel =>
              refine ⟨(Fr.refl _ _).drewN _, _, _, by first | rw [HC0.out.2.2] | rfl, ?_⟩
              rw [HC0.out.1]
              exact .inl ⟨⟨_, _, rfl⟩, rfl⟩
          · by_cases hmI : (at_ : Int) + (u : Int) < (len : Int)
            · have hlq : at_ + u - at_ = cnt := by have := HHI.out; omega
              have HLQ := Lib.hid hlq
              clear hlq hmin
              go_quiet (fail)
              go_wp2_with fail
              go_meet
              case rel =>
                refine ⟨(Fr.refl _ _).drewN _, _, _, ?_, HBV.out _ ((Fr.refl _ _).drewN _)⟩
                have := HLQ.out
                first
                  | rw [show ((at_ : Int) + (u : Int)).toNat - at_ = cnt by omega]
                  | rw [show u = cnt by omega]
                  | rw [HLQ.out]
            · have hlq : len - at_ = cnt := by have := HHI.out; omega
              have HLQ := Lib.hid hlq
              clear hlq hmin
              go_quiet (fail)
              go_wp2_with fail
              go_meet
              case rel =>
                refine ⟨(Fr.refl _ _).drewN _, _, _, ?_, HBV.out _ ((Fr.refl _ _).drewN _)⟩
                rw [HLQ.out]
        case rest =>
        obtain ⟨hf12, pa, pc, rfl, hbv⟩ := hcut
        have hg5C := HG5.out.fr0 hf12
        have t0 : wc.cell? ⟨g5, 0, none⟩ = some (.slice da cnt dc) := hg5C.cell 0
        have t1 : wc.cell? ⟨g5, 1, none⟩ = some (I64 cnt) := hg5C.cell 1
        have t2 : wc.cell? ⟨g5, 2, none⟩ = some (I64 kc) := hg5C.cell 2
        have hu12 := hf12.cell0 hu'
        have hby12 := (HBY.out.fr0 HF11.out).fr0 hf12
        have hsame : ∀ n, Calls Tryd.prog 16 #[.slice da cnt dc, .slice pa cnt pc] (wc.drewN n) fun e w'' => e = .returned (.bool true) ∧ w'' = wc.drewN n := by
          intro n
          refine (same_any _ _ cnt _ (wc.drewN n) (hby12.fr0 ((Fr.refl _ _).drewN _)) (hbv.fr0 ((Fr.refl _ _).drewN _))).mono ?_
          rintro e w'' ⟨h1, h2⟩
          exact ⟨h1, h2.symm⟩
        have HSM := Lib.hid hsame
        have hfr12 := (HFJ.out.trans0 HF11.out).trans0 hf12
        have HFR := Lib.hid hfr12
        clear hf12 hbv hg5C e32' hu' hby12 hsame hfr12 hi1 hi2 hmin
        have hkc := HKQ.out
        have hcd := HCD.out
        have hcu : cnt ≤ u := by omega
        have hat9 : at_ ≤ 9000 := by omega
        have hcn9 : cnt ≤ 9000 := by omega
        have hwac : IntKind.i64.wrap ((at_ : Int) + (cnt : Int)) = (at_ : Int) + (cnt : Int) := IntWalk.i64_in _ (by omega)
        have hneB : ((cnt : Int) != (cnt : Int)) = false := by simp
        by_cases hfull : cnt = u
        · have hk0 : kc = 0 := by rw [if_pos hfull] at hkc; exact hkc.symm
          have hcuB : ((cnt : Int) == (u : Int)) = true := by simp [hfull]
          subst hk0
          clear hkc hfull hcd hcu
          go_upto_region 31 with (fail)
          go_quiet ((go_at_call 16; exact Calls.quiet_of_same (HSM.out _)))
          go_wp2_with fail
          go_roundw
          case rel => exact ⟨j + 1, by omega, by go_num, by rw [HSU.out]; go_num, HFR.out.drewN _⟩
          case measure => simp [intOf]; omega
        · have hk6 : kc = 6 := by rw [if_neg hfull] at hkc; exact hkc.symm
          have hcuB : ((cnt : Int) == (u : Int)) = false := by simp; omega
          subst hk6
          clear hkc hcd hcu
          go_upto_region 31 with (fail)
          go_quiet ((go_at_call 16; exact Calls.quiet_of_same (HSM.out _)))
          go_wp2_with fail
          go_roundw
          case rel => exact ⟨j + 1, by omega, by go_num, by rw [HSU.out]; go_num, HFR.out.drewN _⟩
          case measure => simp [intOf]; omega
end Go.Proofs.YtokpomdfgbbhlaaDoor

/- FnWalk: a file is gone through entry by entry, each read by pieces from its beginning, behind the last one is the end, for every numbers, bytes, version, step and sizes. -/
namespace Go.Proofs.YtokpomdfgbbhlaaDoor
open Go Go.ChangeShapes Go.WideShapes Go.ChangeAt Go.RowKit Go.Clock

theorem wf_u32w {n : Int} (h : (Lit.int .u32 n).wf = true) : 0 ≤ n ∧ n ≤ 4294967295 := by simpa [Lit.wf, IntKind.min, IntKind.max, IntKind.signed, IntKind.bits] using h
theorem wf_u16w {n : Int} (h : (Lit.int .u16 n).wf = true) : 0 ≤ n ∧ n ≤ 65535 := by simpa [Lit.wf, IntKind.min, IntKind.max, IntKind.signed, IntKind.bits] using h
theorem wf_u8w {n : Int} (h : (Lit.int .u8 n).wf = true) : 0 ≤ n ∧ n ≤ 255 := by simpa [Lit.wf, IntKind.min, IntKind.max, IntKind.signed, IntKind.bits] using h

theorem u8_cellw {n : Int} (h : (Lit.int .u8 n).wf = true) : Value.int .u8 n = U8 (UInt8.ofNat n.toNat) := by
  have := wf_u8w h
  unfold U8
  congr 1
  simp
  omega

theorem walkTs : ∀ t ∈ Tryd.f5.params.toList, Tryd.prog.readableRec t = true ∧ t < Tryd.prog.types.size := by
  have h : (Tryd.f5.params.toList.all fun t => Tryd.prog.readableRec t && decide (t < Tryd.prog.types.size)) = true := by kernel_rfl
  intro t ht
  have := List.all_eq_true.1 h t ht
  simpa using this


set_option maxRecDepth 100000 in
theorem walk_contract (H : Type) (enc : TypeId × Value → H) (W : World) (base : Nat) (args : Array Value) (ds gs : List (DataW H)) (before : List MemPlace)
    (hval : ∀ (j : Nat) t v, Tryd.f5.params[j]? = some t → args[j]? = some v → Value.okWide Tryd.prog W .any base t v)
    (hW : DataW.Whole enc Tryd.prog Tryd.f5.params.toList Rows.fnWalkSpec.vars false W args.toList ds gs before) (hL : laidMet Tryd.prog Rows.fnWalkRow.laid W) :
    Calls Tryd.prog 5 args W fun e W' => ∃ v, e = .returned v ∧ Rows.fnWalkSpec.post enc Tryd.prog Tryd.f5 false true false false W args v W' ∧ W'.os = W.os := by
  have hp := props_head hL.tail
  obtain ⟨eb, eo, s, hev, hes⟩ := eof_head hL
  have h2w : 2 < W.heap.size := World.block_lt_of_cell? _ _ (hp 65 (by omega) (by omega))
  have hW' := hW
  obtain ⟨p, q, hA0, hV, rfl, hfz, hnd⟩ := hW
  have hA : DataW.TrodAll enc Tryd.prog W 0 (fun _ => true) true Tryd.f5.params.toList args.toList ds p := hA0
  rw [Tryd.params5] at hA hval
  obtain ⟨v0, vs0, d0, ds0, p0, q0, hargs, rfl, rfl, h0, r0⟩ := trodAll_cons hA
  obtain ⟨v1, vs1, d1, ds1, p1, q1, rfl, rfl, rfl, h1, r1⟩ := trodAll_cons r0
  obtain ⟨v2, vs2, d2, ds2, p2, q2, rfl, rfl, rfl, h2, r2⟩ := trodAll_cons r1
  obtain ⟨v3, vs3, d3, ds3, p3, q3, rfl, rfl, rfl, h3, r3⟩ := trodAll_cons r2
  obtain ⟨v4, vs4, d4, ds4, p4, q4, rfl, rfl, rfl, h4, r4⟩ := trodAll_cons r3
  obtain ⟨rfl, rfl, rfl⟩ := trodAll_nil r4
  obtain rfl : args = #[v0, v1, v2, v3, v4] := by cases args; simp_all
  obtain ⟨rfl, rfl⟩ := trodVars_none hV
  obtain ⟨na, nn, ncap, nb, no, num, rfl, hnc, hna, hnums, hnw⟩ := open_sl Tryd.underlying22 Tryd.underlying63 rcells63 (hval 0 22 v0 rfl rfl) h0
  obtain ⟨ca, cn, ccap, cb, co, cl, rfl, hcc, hca, hcls, hcw⟩ := open_sl Tryd.underlying23 Tryd.underlying5 rcells5 (hval 1 23 v1 rfl rfl) h1
  obtain ⟨four, rfl, rfl, rfl⟩ := open_bool Tryd.underlying4 (hval 2 4 v2 rfl rfl) h2
  obtain ⟨st, rfl, rfl, rfl, wst⟩ := open_int Tryd.underlying5 (hval 3 5 v3 rfl rfl) h3
  obtain ⟨za, zn, zcap, zb, zo, zl, rfl, hzc, hza, hzls, hzw⟩ := open_sl Tryd.underlying23 Tryd.underlying5 rcells5 (hval 4 23 v4 rfl rfl) h4
  clear hA0 hval
  simp only [List.append_nil] at hW'
  obtain ⟨stN, rfl⟩ := Int.eq_ofNat_of_zero_le (wf_u8w wst).1
  have hst := (wf_u8w wst).2
  refine (fnwalk_any nb no nn ncap cb co cn ccap zb zo zn zcap eb eo (fun i => (num i).toNat) (fun i => UInt8.ofNat (cl i).toNat) (fun i => UInt8.ofNat (zl i).toNat) na ca za four stN W (by omega) hnc hcc hzc
    (fun i => by have := wf_u32w (hnw i); omega) hna hca hza (fun i hi => by rw [hnums i hi]; have := wf_u32w (hnw i); congr 2; omega) (fun i hi => by rw [hcls i hi, u8_cellw (hcw i)]) (fun i hi => by rw [hzls i hi, u8_cellw (hzw i)]) hev hp h2w).mono ?_
  rintro e W' ⟨rfl, hf⟩
  exact ⟨_, rfl, post_law rfl (by kernel_rfl) walkTs rfl hW' hf.below, hf.os⟩

noncomputable def walkWorld (os : Os) : World := World.laidAll Tryd.prog os Rows.fnWalkRow.laid
def walkArgs : Array Value := #[.slice none 0 0, .slice none 0 0, .bool false, .int .u8 0, .slice none 0 0]
theorem walk_met (os : Os) : laidMet Tryd.prog Rows.fnWalkRow.laid ((walkWorld os).forCall (fun _ _ => 0) ⟨#[], walkArgs, []⟩).memory :=
  laidMet_laidAll _ (by kernel_rfl) (by kernel_rfl)
theorem walk_reads (os : Os) {H : Type} (enc : TypeId × Value → H) : ∃ places, DataW.whole enc Tryd.prog ((walkWorld os).forCall (fun _ _ => 0) ⟨#[], walkArgs, []⟩).memory Tryd.f5.params.toList Rows.fnWalkSpec.vars false walkArgs.toList 8 =
    some ([.nil, .nil, .lit (.bool false), .lit (.int .u8 0), .nil], [], places) :=
  ⟨[], by kernel_rfl⟩

set_option maxRecDepth 100000 in
theorem walk_lifted (os : Os) (started : os.Started) (H : Type) (enc : TypeId × Value → H) (F : Stop.Interp) :
    ReturnsInHanded {} Tryd.checked os 5 .any ((OpenSpec.ofChange Rows.fnWalkSpec).preRow enc Tryd.prog Tryd.f5 Rows.fnWalkRow.domain false Rows.fnWalkRow.laid) (((OpenSpec.ofChange Rows.fnWalkSpec).at F).post enc Tryd.prog Tryd.f5 false true false false) := by
  obtain ⟨places, hx⟩ := walk_reads os enc
  refine returnsInHanded_of_row (C := Tryd.checked) (s := OpenSpec.ofChange Rows.fnWalkSpec) own started (by kernel_rfl) Tryd.func5
    (witness_row_at (enc := enc) (C := Tryd.checked) false (walkWorld os) walkArgs rfl (by kernel_rfl) (by kernel_rfl) (by kernel_rfl)
      (OpenSpec.preRow_of_cond 8 hx (by kernel_rfl) (fun k hk => by cases hk) (by kernel_rfl) (walk_met os))) ?_
  intro W base args ds gs before hval hW _ _ _ hL _ _
  refine (walk_contract H enc W base args ds gs before hval hW hL).mono ?_
  rintro e W' ⟨v, he, hpost, _⟩
  exact ⟨v, he, hpost⟩

set_option maxRecDepth 100000 in
theorem walk_lifted2 (os : Os) (started : os.Started) (H : Type) (enc : TypeId × Value → H) (F : Stop.Interp) :
    ReturnsInHanded { calm := true } Tryd.checked os 5 .any (fun w args => (Rows.fnWalkSpec.pre enc Tryd.prog Tryd.f5 [] false w args ∧ laidMetH Tryd.prog Rows.fnWalkRow.laid w) ∧ sizedMet enc Tryd.prog Tryd.f5 (OpenSpec.ofChange Rows.fnWalkSpec) false w args)
      ((OpenSpec.ofChange Rows.fnWalkSpec).postWith enc Tryd.prog Tryd.f5 F (outsideKept [.timePasses]) false true false) := by
  refine returns_of_change (C := Tryd.checked) (X := fun w _ => laidMetH Tryd.prog Rows.fnWalkRow.laid w) (fun _ _ _ hh h => h.of_heap hh) own started (by kernel_rfl) Tryd.func5
    (witness_at (enc := enc) (C := Tryd.checked) (X := fun w _ => laidMetH Tryd.prog Rows.fnWalkRow.laid w) (World.laidAll Tryd.prog os Rows.fnWalkRow.laid) walkArgs 8 (World.laidAll_os _ _ _) (World.shaped_of_ZipB (by kernel_rfl) (by kernel_rfl)) (by kernel_rfl) (by kernel_rfl) (by kernel_rfl)
      (by rw [MakeChecks.laidMetH_plain _ _ _ (by kernel_rfl)]; exact laidMet_laidAll _ (by kernel_rfl) (by kernel_rfl))) ?_
  intro W base args ds gs before hval hW _ _ hL _
  rw [MakeChecks.laidMetH_plain _ _ _ (by kernel_rfl)] at hL
  refine (walk_contract H enc W base args ds gs before hval hW hL).mono ?_
  rintro e W' ⟨v, he, hpost, ho⟩
  have hos : { W' with os := W.os } = W' := by rw [← ho]
  refine ⟨v, he, ?_, by rw [ho]; exact Later.refl _⟩
  rw [hos]
  exact hpost

theorem walk_said : Rows.FnWalkSaid := by
  first
    | exact OpenClaim.holds_of_cond 5 Tryd.f5 rfl rfl rfl rfl rfl rfl rfl ⟨rfl, rfl, rfl, rfl, rfl⟩ rfl rfl rfl rfl rfl (by kernel_rfl) Tryd.func5 (by kernel_rfl)
        (of_decide_eq_true (by kernel_rfl)) (by unfold Func.isWrapper; first | (rw [if_pos (by decide +kernel)]; kernel_rfl) | (rw [if_neg (by decide +kernel)]; exact ⟨rfl, rfl⟩))
        (fun os started H enc _ F => by rw [OpenClaim.pre_eq_preRow]; exact walk_lifted os started H enc F)
    | exact holds_of_wide_time 5 Tryd.f5 rfl rfl rfl rfl rfl rfl rfl ⟨rfl, rfl, rfl, rfl, rfl⟩ rfl rfl rfl rfl rfl (by kernel_rfl) Tryd.func5 (by kernel_rfl)
        (of_decide_eq_true (by kernel_rfl)) (by unfold Func.isWrapper; first | (rw [if_pos (by decide +kernel)]; kernel_rfl) | (rw [if_neg (by decide +kernel)]; exact ⟨rfl, rfl⟩))
        (fun os started H enc _ F => walk_lifted2 os started H enc F)

theorem walk_plain (f : FuncId) (fn : Func) (hf : Tryd.pinned.checked.prog.funcNamed "loop.example/pub-g03458/laws.FnWalk" = some f) (hfn : Tryd.pinned.checked.prog.funcs[f]? = some fn) :
    true = Tryd.pinned.checked.prog.looks [] ∧ ∀ (j : Nat) t, fn.params[j]? = some t → Tryd.pinned.checked.prog.wantsStandIn t = false := by
  obtain rfl : f = 5 := Option.some.inj ((show Tryd.prog.funcNamed "loop.example/pub-g03458/laws.FnWalk" = some 5 by kernel_rfl).symm.trans hf) |>.symm
  obtain rfl : fn = Tryd.f5 := (Option.some.inj (Tryd.func5.symm.trans hfn)).symm
  refine ⟨by kernel_rfl, fun j t ht => ?_⟩
  have h : (Tryd.f5.params.toList.all fun t => !Tryd.prog.wantsStandIn t) = true := by kernel_rfl
  have := List.all_eq_true.1 h t (by simpa using Array.mem_of_getElem? ht)
  exact (show Tryd.prog.wantsStandIn t = false by simpa using this)

theorem walk_card : Rows.FnWalkCardSaid :=
  Claim7.holds_tied_plain_at .later [] _ _ _ _ walk_said (fun _ h => by cases h) (by kernel_rfl) (fun _ h => by cases h) fnWalk_row_tie rfl ⟨rfl, rfl⟩ (by kernel_rfl) rfl walk_plain (by kernel_rfl)
end Go.Proofs.YtokpomdfgbbhlaaDoor
#print axioms Go.Proofs.YtokpomdfgbbhlaaDoor.walk_card

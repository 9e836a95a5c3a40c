/- FnMixed: a stream is read, sought and written by steps, what is told is what stands there then, the file behind all is that of the stream with these bytes (part 15 of 18). No condition but the statement's own. -/
import Derived.Laws.AppendOwnNone
import Derived.BigQuiet
import Derived.Test.YtokpomdfgbbhlaaDoorMxn
set_option linter.all false
set_option linter.unusedVariables false
set_option linter.unusedSimpArgs false
set_option linter.unnecessarySimpa false
/- The contract of spec.Order's closure, by induction on the tree. -/
namespace Go.Proofs.YtokpomdfgbbhlaaDoor
open Go Go.RowKit

theorem info35 : (Tryd.prog.info? 35).map (fun i => (i.zero, i.size, i.bytes)) = some (some (.slice none 0 0), 1, 24) := by kernel_rfl

theorem own_lit0 (w : World) (e : TypeId) (base : Nat) (hb : base ≤ w.heap.size) : (w.alloc (.cells #[] e)).ownsRow base e 1 (.slice (some ⟨w.heap.size, 0, none⟩) 0 0) 0 [] := World.ownsRow_made w #[] 0 hb (by unfold maxLen; omega) rfl

/-- A path's texts appended onto an empty row of the call's own; the path may be nil. -/
theorem step_append_txt {ops : Array Oper} {o : Oper} {a : Act} {w : World} {K : Act → World → Prop} {Q : Exit → Act → World → Prop} {E : Prop} (hgd : o.guard = none) (s x : Operand) (ho : o.op = .call { callee := .builtin .append, args := #[s, x], argTypes := #[35, 35] })
    (base base0 : Nat) (v u : Value) (p : List ByteArray) (hs : a.eval s = v) (hown : w.ownsRow base 9 1 v 0 []) (hx : a.eval x = u) (hu : TextsIs w base0 u p) (hlen : p.length ≤ 100000) (hb : base ≤ w.heap.size)
    (h : ∀ v' w', w'.ownsRow base 9 1 v' p.length (p.map Value.string) → Fr v.ownBlock.toList w w' → K (a.put o.dst v') w') : if Region.wanted o (yielded ops a.tmps) = true then Oper.wp Tryd.prog o a w K Q else E := by
  have hw : Region.wanted o (yielded ops a.tmps) = true := by simp [Region.wanted, hgd]
  rw [if_pos hw]
  obtain ⟨i9, hi9, hz9, hs9, hb9⟩ := info_parts info9
  rcases hu.2 with ⟨rfl, hn⟩ | ⟨g, cap, cur, rfl, _, _, _, _, _, _⟩
  · obtain rfl : p = [] := List.eq_nil_of_length_eq_zero hn
    have hrun := run_append_owned_none (P := Tryd.prog) (w := w) base 35 o.type 9 i9 1 Tryd.underlying35 hi9 v 0 [] hown
    unfold Oper.wp
    simp only [execOp, ho, resolve, invoke, builtin, Sem.run_bind, Sem.run_pure, Result.andThen_ok, List.map_toArray, List.map_cons, List.map_nil, hs, hx, hrun]
    exact h v w hown (Fr.refl _ _)
  · have hnews : ∀ j y, (p.map Value.string)[j]? = some y → w.cell? ((⟨g, 0, none⟩ : Addr).add j) = some y := hu.cells rfl
    obtain ⟨v', w', hr, h2, h3, _⟩ := run_append_own (P := Tryd.prog) w base 35 o.type 9 i9 (.string { data := #[] }) 1 16 Tryd.underlying35 hi9 hz9 hs9 hb9 rfl (by decide) v 0 [] hown ⟨g, 0, none⟩ p.length cap (p.map Value.string) (by simp) hnews
      (fun y hy => by obtain ⟨b, _, rfl⟩ := List.mem_map.1 hy; rfl) (by unfold maxLen; omega) (by omega) hb
    rw [Nat.zero_add, List.nil_append] at h2
    unfold Oper.wp
    simp only [execOp, ho, resolve, invoke, builtin, Sem.run_bind, Sem.run_pure, Result.andThen_ok, List.map_toArray, List.map_cons, List.map_nil, hs, hx, hr]
    exact h v' w' h2 (Fr.of_grown h3)

theorem step_txt {ops : Array Oper} {o : Oper} {a : Act} {wc w : World} {K : Act → World → Prop} {Q : Exit → Act → World → Prop} {E : Prop} (hgd : o.guard = none) (s x : Operand) (ho : o.op = .call { callee := .builtin .append, args := #[s, x], argTypes := #[35, 35] })
    (base0 : Nat) (v u : Value) (p : List ByteArray) (hs : a.eval s = v) (hk : Fr [] wc w ∧ w.ownsRow wc.heap.size 9 1 v 0 []) (hx : a.eval x = u) (hu : TextsIs wc base0 u p) (hlen : p.length ≤ 100000)
    (h : ∀ v' w', w'.ownsRow wc.heap.size 9 1 v' p.length (p.map Value.string) → Fr [] wc w' → (∀ g l, Blk w g 9 l → v.ownBlock ≠ some g → Blk w' g 9 l) → K (a.put o.dst v') w') : if Region.wanted o (yielded ops a.tmps) = true then Oper.wp Tryd.prog o a w K Q else E :=
  step_append_txt hgd s x ho wc.heap.size base0 v u p hs hk.2 hx (own_fr0 hu hk.1) hlen hk.1.size (fun v' w' h1 h2 => h v' w' h1 (hk.1.own hk.2 (Nat.le_refl _) h2) (fun g l hb hn => hb.fr h2 (by simpa using hn)))

set_option maxRecDepth 100000 in
set_option maxHeartbeats 4000000 in
theorem order1_any (O : OEnv) (hN : O.N ≤ 20) (hcap : O.N ≤ O.lcap ∧ O.lcap ≤ 9223372036854775807) (t : NT) : ∀ (x : Int) (v : Value) (p : List ByteArray) (w : World) (os : List Nat) (ps : List (List ByteArray)), t.Fits O.nd x → (∀ e, e ∈ t.order → e < O.N) → OSt O w os ps → TextsIs w O.base v p →
    os.length + t.order.length ≤ 1000 → p.length + t.order.length ≤ 1000 →
    Calls Tryd.prog 33 #[.int .i64 x, v, .pointer (some ⟨O.fb, 0, none⟩), .pointer (some ⟨O.lx, 0, none⟩), .pointer (some ⟨O.yb, 0, none⟩), .pointer (some ⟨O.zb, 0, none⟩)] w fun e w' => e = .returned (.tuple #[]) ∧ OSt O w' (os ++ t.order) (ps ++ t.pths O.nm p) ∧ TxtKeep O.base w w' := by
  induction t with
  | nil =>
    intro x v p w os ps hfit _ hst hv _ _
    obtain rfl : x = -1 := hfit
    have HST := Lib.hid hst
    clear hst hv
    go_enter Tryd.func33, Tryd.ntmps33
    go_wp2_with fail
    exact bodyPost_ret (v := .tuple #[]) (by simp [results, Tryd.results33, go_sem]) rfl ⟨rfl, by simpa [NT.order, NT.pths] using HST.out, TxtKeep.refl _ _⟩
  | node e l c r ihl ihc ihr =>
    intro x v p w os ps hfit hlt hst hv hos hps
    obtain ⟨rfl, hfl, hfc, hfr⟩ := hfit
    have he : e < O.N := hlt e (by simp [NT.order])
    simp only [NT.order, List.length_append, List.length_cons] at hos hps
    obtain ⟨va, vc, rfl⟩ := own_slice hv
    have c0 : w.cell? ⟨O.fb, 0, none⟩ = some (.func (.func 33) #[] O.caps) := hst.rec_.cell 0
    have b0 : w.cell? ⟨O.lx, 0, none⟩ = some (.slice (some ⟨O.lb, 0, none⟩) O.N O.lcap) := hst.box.cell 0
    have n3 : w.cell? ⟨O.lb, e * 28 + 3, none⟩ = some (.int .i64 (O.nd e).left) := (hst.row.cell he (by omega)).trans rfl
    have heI : (e : Int) < (O.N : Int) := by omega
    have he0 : ¬ (e : Int) < 0 := by omega
    have ihl' := ihl (O.nd e).left _ p w.drew os ps hfl (fun y hy => hlt y (by simp [NT.order, hy])) ⟨hst.rec_, hst.box, hst.row, hst.fr.drew, hst.yb, hst.zb, hst.pl, hst.pa⟩ hv (by omega) (by omega)
    have HIL := Lib.hid ihl'
    have HV := Lib.hid hv
    have HST := Lib.hid hst
    have HLT := Lib.hid hlt
    have HFC := Lib.hid hfc
    have HFR := Lib.hid hfr
    have HIC := Lib.hid ihc
    have HIR := Lib.hid ihr
    clear ihl ihl' ihc ihr hv hst hlt hfl hfc hfr
    go_enter Tryd.func33, Tryd.ntmps33
    go_upto_region 1 with (fail)
    go_cut [] from 11 to 18 (fun w1 => OSt O w1 (os ++ l.order) (ps ++ l.pths O.nm p) ∧ TxtKeep O.base w w1)
    case first =>
      go_still_tail 7, (by kernel_rfl)
      change wpList _ _ _ _ _ w.drew
      go_wp2_with fail
      refine HIL.out.mono ?_
      rintro e1 w3 ⟨rfl, hs3, hk3⟩
      have H := Lib.hid (And.intro hs3 hk3)
      clear hs3 hk3
      go_wp2_with fail
      go_meet
      case rel => exact H.out
    case rest =>
    clear c0 b0 n3
    obtain ⟨hst, hk1⟩ := hcut
    have hv := hk1 _ _ HV.out
    obtain ⟨v3, hy, hyo⟩ := hst.pl
    obtain ⟨v35, vs, hz, hzo, hpa⟩ := hst.pa
    obtain ⟨a3, c3, rfl⟩ := own_slice hyo
    obtain ⟨a35, c35, rfl⟩ := own_slice hzo
    have hlen1 : (os ++ l.order).length ≤ 1000 := by rw [List.length_append]; omega
    generalize hos1 : os ++ l.order = os1 at *
    generalize hps1 : ps ++ l.pths O.nm p = ps1 at *
    have HOS1 := Lib.hid hos1
    have HPS1 := Lib.hid hps1
    clear hos1 hps1
    go_upto_region 2 with (fail)
    go_cut [] from 19 to 26 (fun w1 => OSt O w1 (os1 ++ [e]) (ps1 ++ [p]) ∧ TxtKeep O.base wc w1)
    case first =>
      obtain ⟨R, hR⟩ : ∃ R : RE, R = ⟨O, wc, .slice a3 os1.length c3, .slice a35 os1.length c35, .slice va p.length vc, e, os1.length, os1.map (fun e => I64 e), vs⟩ := ⟨_, rfl⟩
      have r1 : R.O = O := by rw [hR]
      refine wp_region_loose (J := R.J) (Sp := R.Sp) (by kernel_rfl) (by kernel_rfl) ?_ ?_ ?_
      · subst hR
        exact ⟨(Fr.refl _ _).drew, fun _ => hy, fun _ => hz, fun _ => hyo, fun _ => hzo, fun h => (by cases h), fun h => (by cases h)⟩
      · intro L a w1 i o hI hi hL hw
        have hj := hI.j
        have hbase : R.O.base ≤ w1.heap.size := Nat.le_trans (by rw [hR]; exact hst.fr.size) hj.fr.size
        have hnl : R.n ≤ 1000 := by rw [hR]; exact hlen1
        have same : ∀ i, i ≠ 3 ∧ i ≠ 7 ∧ i ≠ 8 ∧ i ≠ 9 → R.J (lSet L i) w1 := fun i hi => hj.alloc (Fr.refl _ _) i hi
        have nop : ∀ j u, L j = true → R.Sp j w1 u → R.Sp j w1 u := fun _ _ _ h => h
        rcases i with _ | _ | _ | _ | _ | _ | _ | _ | _ | _ | i
        · obtain rfl := Option.some.inj hi
          have h8 : L 8 = false := hI.before (j := 8) hL rfl (by kernel_rfl)
          have e4 := hI.outer 4 (by kernel_rfl) (.pointer (some ⟨O.yb, 0, none⟩)) rfl
          have hc : w1.cell? ⟨O.yb, 0, none⟩ = some R.v3 := by have := (hj.y0 h8).cell 0; rw [r1] at this; exact this
          rw [Array.getD_eq_getD_getElem?] at e4
          exact lw R.v3 (by simp [go_sem, e4, hc]) ⟨_, rfl, same 0 (by decide), nop, rfl⟩
        · obtain rfl := Option.some.inj hi
          have e0 := hI.outer 0 (by kernel_rfl) (.int .i64 e) rfl
          exact ow_move (.tmp 0) rfl (I64 R.e) (by rw [hR]; exact e0) ⟨_, rfl, same 1 (by decide), nop, rfl⟩
        · obtain rfl := Option.some.inj hi
          have l1 := waits_of hw 1 (by kernel_rfl)
          have v1 : a.tmps.getD 20 undef = I64 R.e := hI.val 1 _ 20 l1 rfl rfl
          have f := (Fr.refl [] w1).alloc (.cells #[I64 R.e] 3)
          exact ow_build1 trivial 31 3 (.tmp 20) rfl (I64 R.e) v1 rfl Tryd.underlying31 (by kernel_rfl) ⟨_, rfl, hj.alloc f 2 (by decide), fun j u _ => RE.Sp_alloc f j u, w1.heap.size, rfl, Blk.new' _ _ _, hj.fr.size⟩
        · obtain rfl := Option.some.inj hi
          have l0 := waits_of hw 0 (by kernel_rfl)
          have l2 := waits_of hw 2 (by kernel_rfl)
          have h8 : L 8 = false := hI.before (j := 8) hL rfl (by kernel_rfl)
          have h7 : L 7 = false := hI.before (j := 7) hL rfl (by kernel_rfl)
          have h9 : L 9 = false := hI.before (j := 9) h7 rfl (by kernel_rfl)
          have v0 : a.tmps.getD 19 undef = R.v3 := hI.val 0 _ 19 l0 rfl rfl
          obtain ⟨g, v2, hg, hge⟩ : ∃ g, a.tmps.getD 21 undef = .slice (some ⟨g, 0, none⟩) 1 1 ∧ Blk w1 g 3 [I64 R.e] ∧ R.wc.heap.size ≤ g := hI.val 2 _ 21 l2 rfl rfl
          obtain ⟨i3, hi3, hz3, hs3, hb3⟩ := info_parts info3
          have hw3 : R.wc.ownsRow R.O.base 3 1 R.v3 R.n R.pls := by rw [hR]; exact hyo
          refine ow_app (.tmp 19) (.tmp 21) 31 rfl 3 i3 (.int .i64 0) 1 8 Tryd.underlying31 hi3 hz3 hs3 hb3 rfl (by decide) R.O.base R.v3 R.n R.pls v0 (hj.p0 hL) ⟨g, 0, none⟩ 1 1 [I64 R.e] v2 rfl (fun j u hju => by rw [add_zero']; exact (hg.cell j).trans hju) (by simp [Value.oneCell']) (by unfold maxLen; omega) (by omega) ?_ ?_
          · exact hbase
          · intro v' w' ho hf
            obtain ⟨hJ, hS⟩ := hj.app3 hL h8 h9 hw3 hf
            exact ⟨_, rfl, hJ, hS, ho⟩
        · obtain rfl := Option.some.inj hi
          have h9 : L 9 = false := hI.before (j := 9) hL rfl (by kernel_rfl)
          have e5 := hI.outer 5 (by kernel_rfl) (.pointer (some ⟨O.zb, 0, none⟩)) rfl
          have hc : w1.cell? ⟨O.zb, 0, none⟩ = some R.v35 := by have := (hj.z0 h9).cell 0; rw [r1] at this; exact this
          rw [Array.getD_eq_getD_getElem?] at e5
          exact lw R.v35 (by simp [go_sem, e5, hc]) ⟨_, rfl, same 4 (by decide), nop, rfl⟩
        · obtain rfl := Option.some.inj hi
          have e1 := hI.outer 1 (by kernel_rfl) R.pv (by rw [hR]; rfl)
          exact ow_move (.tmp 1) rfl R.pv e1 ⟨_, rfl, same 5 (by decide), nop, rfl⟩
        · obtain rfl := Option.some.inj hi
          have l5 := waits_of hw 5 (by kernel_rfl)
          have v5 : a.tmps.getD 24 undef = R.pv := hI.val 5 _ 24 l5 rfl rfl
          have f := (Fr.refl [] w1).alloc (.cells #[R.pv] 35)
          exact ow_build1 trivial 32 35 (.tmp 24) rfl R.pv v5 (by rw [hR]; rfl) Tryd.underlying32 (by kernel_rfl) ⟨_, rfl, hj.alloc f 6 (by decide), fun j u _ => RE.Sp_alloc f j u, w1.heap.size, rfl, Blk.new' _ _ _, hj.fr.size⟩
        · obtain rfl := Option.some.inj hi
          have l4 := waits_of hw 4 (by kernel_rfl)
          have l6 := waits_of hw 6 (by kernel_rfl)
          have l3 := waits_of hw 3 (by kernel_rfl)
          have h8 : L 8 = false := hI.before (j := 8) hL rfl (by kernel_rfl)
          have h9 : L 9 = false := hI.before (j := 9) hL rfl (by kernel_rfl)
          have v4 : a.tmps.getD 23 undef = R.v35 := hI.val 4 _ 23 l4 rfl rfl
          obtain ⟨g, v6, hg, hge⟩ : ∃ g, a.tmps.getD 25 undef = .slice (some ⟨g, 0, none⟩) 1 1 ∧ Blk w1 g 35 [R.pv] ∧ R.wc.heap.size ≤ g := hI.val 6 _ 25 l6 rfl rfl
          obtain ⟨i35, hi35, hz35, hs35, hb35⟩ := info_parts info35
          have hw35 : R.wc.ownsRow R.O.base 35 1 R.v35 R.n R.vs := by rw [hR]; exact hzo
          have hone : R.pv.oneCell' = true := by rw [hR]; rfl
          refine ow_app (.tmp 23) (.tmp 25) 32 rfl 35 i35 (.slice none 0 0) 1 24 Tryd.underlying32 hi35 hz35 hs35 hb35 rfl (by decide) R.O.base R.v35 R.n R.vs v4 (hj.q0 hL) ⟨g, 0, none⟩ 1 1 [R.pv] v6 rfl (fun j u hju => by rw [add_zero']; exact (hg.cell j).trans hju) (by simpa using hone) (by unfold maxLen; omega) (by omega) hbase ?_
          intro v' w' ho hf
          obtain ⟨hJ, hS⟩ := hj.app7 hL h8 h9 l3 hw35 hf
          exact ⟨_, rfl, hJ, hS, ho⟩
        · obtain rfl := Option.some.inj hi
          have l3 := waits_of hw 3 (by kernel_rfl)
          have l7 := waits_of hw 7 (by kernel_rfl)
          have h9 : L 9 = false := hI.before (j := 9) hL rfl (by kernel_rfl)
          have e4 := hI.outer 4 (by kernel_rfl) (.pointer (some ⟨O.yb, 0, none⟩)) rfl
          have v3' : R.Sp 3 w1 (a.tmps.getD 22 undef) := hI.val 3 _ 22 l3 rfl rfl
          have v3o : w1.ownsRow R.O.base 3 1 (a.tmps.getD 22 undef) (R.n + 1) (R.pls ++ [I64 R.e]) := v3'
          obtain ⟨sa, sc, hsl⟩ := own_slice v3o
          obtain ⟨hJ, hS⟩ := hj.st8 hL h9 l3 l7 _ v3o
          rw [hsl] at hJ hS
          exact ow_store 31 (.tmp 4) (.tmp 22) rfl R.O.yb _ (by rw [r1]; exact e4) hsl rfl rfl 31 R.v3 (hj.y0 hL) (by kernel_rfl) ⟨_, rfl, hJ, hS, trivial⟩
        · obtain rfl := Option.some.inj hi
          have l7 := waits_of hw 7 (by kernel_rfl)
          have l8 := waits_of hw 8 (by kernel_rfl)
          have l3 := waits_of hw 3 (by kernel_rfl)
          have e5 := hI.outer 5 (by kernel_rfl) (.pointer (some ⟨O.zb, 0, none⟩)) rfl
          have v7' : R.Sp 7 w1 (a.tmps.getD 26 undef) := hI.val 7 _ 26 l7 rfl rfl
          have v7o : w1.ownsRow R.O.base 35 1 (a.tmps.getD 26 undef) (R.n + 1) (R.vs ++ [R.pv]) := v7'
          obtain ⟨sa, sc, hsl⟩ := own_slice v7o
          obtain ⟨hJ, hS⟩ := hj.st9 hL l8 l3 l7 _ v7o
          rw [hsl] at hJ hS
          exact ow_store 32 (.tmp 5) (.tmp 26) rfl R.O.zb _ (by rw [r1]; exact e5) hsl rfl rfl 32 R.v35 (hj.z0 hL) (by kernel_rfl) ⟨_, rfl, hJ, hS, trivial⟩
        · cases hi
      · intro L a w1 hI hall
        have hdone := RE.done hI.j (hall 8 (by decide)) (hall 9 (by decide)) (os := os1) (ps := ps1) (p := p) (by rw [hR]; exact hst) (by rw [hR]) (by rw [hR]) (by rw [hR]; exact hy) (by rw [hR]; exact hyo) (by rw [hR]; exact hz) (by rw [hR]; exact hzo) (by rw [hR]; exact hpa) (by rw [hR]; exact hv)
        have hlit := hI.lit [19, 20, 21, 22, 23, 24, 25, 26] (by kernel_rfl)
        rw [hR] at hdone
        have HD := Lib.hid hdone
        clear hdone
        rw [hlit]
        simp only [List.foldl, List.setIfInBounds_toArray, List.set_cons_succ, List.set_cons_zero]
        rename (∀ (a : Act) (w : World), Met _ a w → _) => hK
        refine hK _ _ ?_
        go_meet
        case rel => exact HD.out
    case rest =>
    obtain ⟨hst2, hk2⟩ := hcut
    have hv2 := hk2 _ _ hv
    have hkA : TxtKeep O.base w wc := hk1.trans hk2
    clear hy hyo hz hzo hpa hst hv hk1 hk2
    go_upto_if 29 with (fail)
    go_cut [8] from 28 to 39 (fun s8 w1 => OSt O w1 (os1 ++ [e]) (ps1 ++ [p]) ∧ TxtKeep O.base wc w1 ∧ TextsIs w1 O.base s8 (if e = 0 then p else p ++ [O.nm e]))
    case first =>
      have HST2 := Lib.hid hst2
      have HV2 := Lib.hid hv2
      by_cases h0 : e = 0
      · have hpI : ¬ (0 : Int) < (e : Int) := by omega
        clear hst2 hv2
        have H0 := Lib.hid h0
        clear h0
        go_wp2_with fail
        go_meet
        case rel => exact ⟨HST2.out, TxtKeep.refl _ _, by rw [if_pos H0.out]; exact HV2.out⟩
      · have hpI : (0 : Int) < (e : Int) := by omega
        have q0 : wc.cell? ⟨O.lx, 0, none⟩ = some (.slice (some ⟨O.lb, 0, none⟩) O.N O.lcap) := hst2.box.cell 0
        have q1 : wc.cell? ⟨O.lb, e * 28, none⟩ = some (.string (O.nm e)) := (hst2.row.cell (j := 0) he (by omega)).trans rfl
        have hplen2 : p.length ≤ 100000 := by omega
        clear hst2 hv2
        have hfc : Fr [] wc wc.drew := (Fr.refl _ _).drew
        go_upto_region 5 with (fail)
        have hsz : wc.heap.size ≤ wc.drew.heap.size := Nat.le_refl _
        have KA : Fr [] wc (wc.alloc (.cells #[] 9)).drew ∧ (wc.alloc (.cells #[] 9)).drew.ownsRow wc.heap.size 9 1 (.slice (some ⟨wc.heap.size, 0, none⟩) 0 0) 0 [] := ⟨((Fr.refl [] wc).alloc _).drew, own_fr0 (own_lit0 wc 9 _ (Nat.le_refl _)) (Fr.refl [] _).drew⟩
        have KB : Fr [] wc ((wc.alloc (.cells #[] 9)).alloc (.cells #[.string (O.nm e)] 9)).drew ∧ (((wc.alloc (.cells #[] 9)).alloc (.cells #[.string (O.nm e)] 9)).drew).ownsRow wc.heap.size 9 1 (.slice (some ⟨wc.heap.size, 0, none⟩) 0 0) 0 [] :=
          ⟨(((Fr.refl [] wc).alloc _).alloc _).drew, own_fr0 (own_lit0 wc 9 _ (Nat.le_refl _)) ((Fr.refl [] _).alloc _).drew⟩
        have KC : Fr [] wc ((wc.alloc (.cells #[.string (O.nm e)] 9)).alloc (.cells #[] 9)).drew ∧ (((wc.alloc (.cells #[.string (O.nm e)] 9)).alloc (.cells #[] 9)).drew).ownsRow wc.heap.size 9 1 (.slice (some ⟨wc.heap.size + 1, 0, none⟩) 0 0) 0 [] :=
          ⟨(((Fr.refl [] wc).alloc _).alloc _).drew, own_fr0 (by have := own_lit0 (wc.alloc (.cells #[.string (O.nm e)] 9)) 9 wc.heap.size (by rw [World.size_alloc]; exact Nat.le_succ _); rw [World.size_alloc] at this; exact this) (Fr.refl [] _).drew⟩
        have BB : Blk (((wc.alloc (.cells #[] 9)).alloc (.cells #[.string (O.nm e)] 9)).drew) (wc.heap.size + 1) 9 [.string (O.nm e)] := by have := Blk.new' (wc.alloc (.cells #[] 9)) 9 #[.string (O.nm e)]; rw [World.size_alloc] at this; exact this
        have BC : Blk (((wc.alloc (.cells #[.string (O.nm e)] 9)).alloc (.cells #[] 9)).drew) wc.heap.size 9 [.string (O.nm e)] := ((Blk.new' wc 9 #[.string (O.nm e)]).alloc _).drew
        have HKA := Lib.hid KA
        have HKB := Lib.hid KB
        have HKC := Lib.hid KC
        have HBB := Lib.hid BB
        have HBC := Lib.hid BC
        obtain ⟨i9, hi9, hz9, hs9, hb9⟩ := info_parts info9
        have HI9 := Lib.hid (And.intro hi9 (And.intro hz9 (And.intro hs9 hb9)))
        clear KA KB KC BB BC hi9 hz9 hs9 hb9 hsz
        go_region_held3 (fun w' => w'.cell? ⟨O.lx, 0, none⟩ = some (.slice (some ⟨O.lb, 0, none⟩) O.N O.lcap) ∧ w'.cell? ⟨O.lb, e * 28, none⟩ = some (.string (O.nm e)))
          (first | exact ⟨hfc.cell0 q0, hfc.cell0 q1⟩ | exact ⟨(hfc.alloc _).cell0 q0, (hfc.alloc _).cell0 q1⟩ | exact ⟨((hfc.alloc _).alloc _).cell0 q0, ((hfc.alloc _).alloc _).cell0 q1⟩)
          (first
            | (refine step_append_own rfl (.tmp 32) (.tmp 38) 35 rfl wc.heap.size 9 i9 (.string { data := #[] }) 1 16 Tryd.underlying35 HI9.out.1 HI9.out.2.1 HI9.out.2.2.1 HI9.out.2.2.2 rfl (by decide) v32 p.length (p.map Value.string) rfl ?_ ⟨_, 0, none⟩ 1 1 [.string (O.nm e)] rfl rfl ?_ ?_ ?_ ?_ ?_ ?_
               · first | with_reducible exact HR32.out | with_reducible exact HRA.out
               · first | (intro j u hj; rw [add_zero']; exact (hB38.out.cell j).trans hj) | exact news_new _ _ _ rfl
               · intro u hu; obtain rfl := List.mem_singleton.1 hu; rfl
               · unfold maxLen; omega
               · omega
               · first | exact hfc.size | exact (hfc.alloc _).size
               rintro v39 w4 hr39 hg39
               have hfc4 : Fr [] wc w4 := by first | exact hfc.own HR32.out (Nat.le_refl _) (Fr.of_grown hg39) | exact (hfc.alloc _).own HRA.out (Nat.le_refl _) (Fr.of_grown hg39)
               have HR39 := Lib.hid hr39
               clear hfc hr39 hg39
               have hfc := hfc4
               clear hfc4)
            | (refine step_txt (wc := wc) rfl (.tmp 30) (.tmp 31) rfl O.base (.slice (some ⟨wc.heap.size, 0, none⟩) 0 0) _ p rfl (by with_reducible exact HKA.out) rfl HV2.out hplen2 ?_
               rintro v32 w3 hr32 hfc3 hkeep
               have HRA := Lib.hid (own_fr0 hr32 ((Fr.refl [] w3).alloc (.cells #[.string (O.nm e)] 9)))
               have HR32 := Lib.hid hr32
               clear hfc hkeep hr32
               have hfc := hfc3
               clear hfc3)
            | (refine step_txt (wc := wc) rfl (.tmp 30) (.tmp 31) rfl O.base (.slice (some ⟨wc.heap.size, 0, none⟩) 0 0) _ p rfl (by with_reducible exact HKB.out) rfl HV2.out hplen2 ?_
               rintro v32 w3 hr32 hfc3 hkeep
               have hB38 := Lib.hid (hkeep (wc.heap.size + 1) [.string (O.nm e)] HBB.out (by simp [Value.ownBlock]))
               have HRA := Lib.hid (own_fr0 hr32 ((Fr.refl [] w3).alloc (.cells #[.string (O.nm e)] 9)))
               have HR32 := Lib.hid hr32
               clear hfc hkeep hr32
               have hfc := hfc3
               clear hfc3)
            | (refine step_txt (wc := wc) rfl (.tmp 30) (.tmp 31) rfl O.base (.slice (some ⟨wc.heap.size + 1, 0, none⟩) 0 0) _ p rfl (by with_reducible exact HKC.out) rfl HV2.out hplen2 ?_
               rintro v32 w3 hr32 hfc3 hkeep
               have hB38 := Lib.hid (hkeep wc.heap.size [.string (O.nm e)] HBC.out (by simp [Value.ownBlock]))
               have HRA := Lib.hid (own_fr0 hr32 ((Fr.refl [] w3).alloc (.cells #[.string (O.nm e)] 9)))
               have HR32 := Lib.hid hr32
               clear hfc hkeep hr32
               have hfc := hfc3
               clear hfc3))
        all_goals
          have hres : TextsIs w4 O.base v39 (p ++ [O.nm e]) := by
            have := own_mono HR39.out (show O.base ≤ wc.heap.size from HST2.out.fr.size)
            simpa [TextsIs] using this
          have hst4 : OSt O w4 (os1 ++ [e]) (ps1 ++ [p]) := HST2.out.fr0 hfc
          have hkp : TxtKeep O.base wc w4 := TxtKeep.of_fr hfc (fun _ _ _ => by simp)
          obtain ⟨ra, rc, rfl⟩ := own_slice hres
          have HF := Lib.hid (And.intro hst4 (And.intro hkp hres))
          clear hres hst4 hkp
          go_wp2_with fail
          go_meet
          case rel => exact ⟨HF.out.1, HF.out.2.1, by rw [if_neg h0]; have h := HF.out.2.2; rw [List.length_append, List.length_singleton] at h; exact h⟩
    case rest =>
    obtain ⟨hst3, hk3, hv3⟩ := hcut
    have hp3 := hk3 _ _ hv2
    have hkB : TxtKeep O.base w wc := hkA.trans hk3
    clear hst2 hv2 hkA hk3
    obtain ⟨ba, bc, rfl⟩ := own_slice hv3
    have hbl : (if e = 0 then p else p ++ [O.nm e]).length ≤ p.length + 1 := by split <;> simp
    generalize hpc : (if e = 0 then p else p ++ [O.nm e]) = pc at *
    have HPC := Lib.hid hpc
    clear hpc
    have hfc := HFC.out
    have hlt := HLT.out
    have hos1l : os1.length = os.length + l.order.length := by rw [← HOS1.out, List.length_append]
    have c0 : wc.cell? ⟨O.fb, 0, none⟩ = some (.func (.func 33) #[] O.caps) := hst3.rec_.cell 0
    have b0 : wc.cell? ⟨O.lx, 0, none⟩ = some (.slice (some ⟨O.lb, 0, none⟩) O.N O.lcap) := hst3.box.cell 0
    have n5 : wc.cell? ⟨O.lb, e * 28 + 5, none⟩ = some (.int .i64 (O.nd e).child) := (hst3.row.cell he (by omega)).trans rfl
    have ihc' := HIC.out (O.nd e).child _ pc wc.drew (os1 ++ [e]) (ps1 ++ [p]) hfc (fun y hy => hlt y (by simp [NT.order, hy])) (hst3.fr0 (Fr.refl _ _).drew) hv3 (by simp; omega) (by omega)
    have HI := Lib.hid ihc'
    have HV3 := Lib.hid hp3
    have HKB := Lib.hid hkB
    have HOSL := Lib.hid hos1l
    clear ihc' hst3 hfc hlt hv3 hp3 hkB hos1l
    go_upto_region 6 with (fail)
    go_cut [] from 40 to 47 (fun w1 => OSt O w1 (os1 ++ [e] ++ c.order) (ps1 ++ [p] ++ c.pths O.nm pc) ∧ TxtKeep O.base wc w1)
    case first =>
      go_still_tail 7, (by kernel_rfl)
      change wpList _ _ _ _ _ wc.drew
      go_wp2_with fail
      refine HI.out.mono ?_
      rintro e1 w3 ⟨rfl, hs3, hk3⟩
      have H := Lib.hid (And.intro hs3 hk3)
      clear hs3 hk3
      go_wp2_with fail
      go_meet
      case rel => exact H.out
    case rest =>
    clear c0 b0 n5
    obtain ⟨hst4, hk4⟩ := hcut
    have hp4 := hk4 _ _ HV3.out
    have hk5 : TxtKeep O.base w wc := HKB.out.trans hk4
    have c0 : wc.cell? ⟨O.fb, 0, none⟩ = some (.func (.func 33) #[] O.caps) := hst4.rec_.cell 0
    have b0 : wc.cell? ⟨O.lx, 0, none⟩ = some (.slice (some ⟨O.lb, 0, none⟩) O.N O.lcap) := hst4.box.cell 0
    have n4 : wc.cell? ⟨O.lb, e * 28 + 4, none⟩ = some (.int .i64 (O.nd e).right) := (hst4.row.cell he (by omega)).trans rfl
    have hlen := HOSL.out
    have ihr' := HIR.out (O.nd e).right _ p wc.drew (os1 ++ [e] ++ c.order) (ps1 ++ [p] ++ c.pths O.nm pc) HFR.out (fun y hy => HLT.out y (by simp [NT.order, hy])) (hst4.fr0 (Fr.refl _ _).drew) hp4 (by simp; omega) (by omega)
    have e1 : os1 ++ [e] ++ c.order ++ r.order = os ++ (NT.node e l c r).order := by rw [← HOS1.out]; simp [NT.order]
    have e2 : ps1 ++ [p] ++ c.pths O.nm pc ++ r.pths O.nm p = ps ++ (NT.node e l c r).pths O.nm p := by rw [← HPS1.out, ← HPC.out]; simp [NT.pths]
    rw [e1, e2] at ihr'
    have HI2 := Lib.hid ihr'
    have HK5 := Lib.hid hk5
    clear ihr' hst4 hp4 hk5 hk4 hlen e1 e2
    go_upto_region 7 with (fail)
    go_still_tail 7, (by kernel_rfl)
    change wpList _ _ _ _ _ wc.drew
    go_wp2_with fail
    refine HI2.out.mono ?_
    rintro e1 w3 ⟨rfl, hs3, hk3⟩
    have H := Lib.hid (And.intro hs3 (HK5.out.trans (show TxtKeep O.base wc w3 from hk3)))
    clear hs3 hk3
    go_wp2_with fail
    go_end0
    exact ⟨rfl, H.out⟩
end Go.Proofs.YtokpomdfgbbhlaaDoor

/- The contract of spec.Order. -/
namespace Go.Proofs.YtokpomdfgbbhlaaDoor
open Go Go.RowKit

theorem run_store_func' (w : World) (a : Addr) (fn : Fn) (first cap : Array Value) (m : Mode) : (store a (.func fn first cap) m).run Tryd.prog w = stored Tryd.prog w a (.func fn first cap) m := run_store Tryd.prog w a _ m rfl
attribute [local go_sem] run_store_func'

set_option maxRecDepth 100000 in
set_option maxHeartbeats 1000000 in
theorem order_any (lb N lcap : Nat) (hN : N ≤ 20) (hcap : N ≤ lcap ∧ lcap ≤ 9223372036854775807) (nd : Nat → Nd) (dv : Nat → Value) (t : NT) (w : World) (hrow : NdRow w lb N nd dv) (hfit : t.Fits nd 0) (hlt : ∀ e, e ∈ t.order → e < N) (hlen : t.order.length ≤ 900) :
    Calls Tryd.prog 12 #[.slice (some ⟨lb, 0, none⟩) N lcap] w fun e w' => ∃ v1 v2 vs, e = .returned (.tuple #[v1, v2]) ∧ Fr [] w w' ∧ w'.ownsRow w.heap.size 3 1 v1 t.order.length (t.order.map (fun e => I64 e)) ∧ w'.ownsRow w.heap.size 35 1 v2 t.order.length vs ∧ PathsAre w' w.heap.size vs (t.pths (fun k => (nd k).name) []) := by
  have hmf : ∀ (fn : Fn) (first cap : Array Value) (w : World), (Instr.makeFunc fn first cap).run Tryd.prog w = .ok (.func fn first cap) w := fun _ _ _ _ => rfl
  go_enter Tryd.func12, Tryd.ntmps12
  go_upto_region 3 with (fail)
  generalize hn : w.heap.size = n at *
  replace hn := hn.symm
  generalize hq1 : w.alloc (Obj.cells #[Value.slice (some { block := lb, off := 0 }) N lcap] 25) = q1
  generalize hq2 : q1.alloc (Obj.cells #[] 3) = q2
  generalize hq3 : q2.alloc (Obj.cells #[] 35) = q3
  generalize hq4 : q3.alloc (Obj.cells #[Value.slice (some { block := n + 1, off := 0 }) 0 0] 31) = q4
  generalize hq5 : q4.alloc (Obj.cells #[Value.slice (some { block := n + 1 + 1, off := 0 }) 0 0] 32) = q5
  generalize hq6 : q5.alloc (Obj.cells #[Value.nilFunc] 102) = q6
  replace hq1 := hq1.symm
  replace hq2 := hq2.symm
  replace hq3 := hq3.symm
  replace hq4 := hq4.symm
  replace hq5 := hq5.symm
  replace hq6 := hq6.symm
  have z1 : q1.heap.size = n + 1 := by rw [hq1, hn]; simp
  have z2 : q2.heap.size = n + 1 + 1 := by rw [hq2]; simp [z1]
  have z3 : q3.heap.size = n + 1 + 1 + 1 := by rw [hq3]; simp [z2]
  have z4 : q4.heap.size = n + 1 + 1 + 1 + 1 := by rw [hq4]; simp [z3]
  have z5 : q5.heap.size = n + 1 + 1 + 1 + 1 + 1 := by rw [hq5]; simp [z4]
  have z6 : q6.heap.size = n + 1 + 1 + 1 + 1 + 1 + 1 := by rw [hq6]; simp [z5]
  have e1 : Fr [] w q1 := by rw [hq1]; exact (Fr.refl _ _).alloc _
  have e2 : Fr [] q1 q2 := by rw [hq2]; exact (Fr.refl _ _).alloc _
  have e3 : Fr [] q2 q3 := by rw [hq3]; exact (Fr.refl _ _).alloc _
  have e4 : Fr [] q3 q4 := by rw [hq4]; exact (Fr.refl _ _).alloc _
  have e5 : Fr [] q4 q5 := by rw [hq5]; exact (Fr.refl _ _).alloc _
  have e6 : Fr [] q5 q6 := by rw [hq6]; exact (Fr.refl _ _).alloc _
  have b1 : Blk q1 n 25 [Value.slice (some { block := lb, off := 0 }) N lcap] := by rw [hq1, hn]; exact Blk.new' _ _ _
  have o2 : q2.ownsRow n 3 1 (.slice (some ⟨n + 1, 0, none⟩) 0 0) 0 [] := by rw [hq2, ← z1]; exact own_lit0 q1 3 n (by omega)
  have o3 : q3.ownsRow n 35 1 (.slice (some ⟨n + 1 + 1, 0, none⟩) 0 0) 0 [] := by rw [hq3, ← z2]; exact own_lit0 q2 35 n (by omega)
  have b4 : Blk q4 (n + 1 + 1 + 1) 31 [Value.slice (some { block := n + 1, off := 0 }) 0 0] := by rw [hq4, ← z3]; exact Blk.new' _ _ _
  have b5 : Blk q5 (n + 1 + 1 + 1 + 1) 32 [Value.slice (some { block := n + 1 + 1, off := 0 }) 0 0] := by rw [hq5, ← z4]; exact Blk.new' _ _ _
  have b6 : Blk q6 (n + 1 + 1 + 1 + 1 + 1) 102 [Value.nilFunc] := by rw [hq6, ← z5]; exact Blk.new' _ _ _
  have B1 := (((((b1.fr0 e2).fr0 e3).fr0 e4).fr0 e5).fr0 e6)
  have O2 := own_fr0 (own_fr0 (own_fr0 (own_fr0 o2 e3) e4) e5) e6
  have O3 := own_fr0 (own_fr0 (own_fr0 o3 e4) e5) e6
  have B4 := (b4.fr0 e5).fr0 e6
  have B5 := b5.fr0 e6
  have F6 := ((((e1.trans0 e2).trans0 e3).trans0 e4).trans0 e5).trans0 e6
  clear hq1 hq2 hq3 hq4 hq5 hq6 e1 e2 e3 e4 e5 e6 b1 o2 o3 b4 b5 z1 z2 z3 z4 z5
  have c0 : q6.cell? ⟨n + 1 + 1 + 1 + 1 + 1, 0, none⟩ = some .nilFunc := b6.cell 0
  have cz := b6.frozen 0
  have HN := Lib.hid hn
  have Z6 := Lib.hid z6
  clear hn z6
  go_upto_region 4 with (fail)
  have hn := HN.out
  have z6 := Z6.out
  obtain ⟨O, hO⟩ : ∃ O : OEnv, O = { fb := n + 1 + 1 + 1 + 1 + 1, lx := n, yb := n + 1 + 1 + 1, zb := n + 1 + 1 + 1 + 1, lb := lb, N := N, lcap := lcap, nd := nd, dv := dv, w0 := w } := ⟨_, rfl⟩
  obtain ⟨fv, hfv⟩ : ∃ v, v = Value.func (.func 33) #[] #[.pointer (some ⟨n + 1 + 1 + 1 + 1 + 1, 0, none⟩), .pointer (some ⟨n, 0, none⟩), .pointer (some ⟨n + 1 + 1 + 1, 0, none⟩), .pointer (some ⟨n + 1 + 1 + 1 + 1, 0, none⟩)] := ⟨_, rfl⟩
  have hlbn : lb < n := by obtain ⟨l, hl, _⟩ := hrow; rw [hn]; exact hl.lt
  have F7 : Fr [n + 1 + 1 + 1 + 1 + 1] q6 (q6.setCell ⟨n + 1 + 1 + 1 + 1 + 1, 0, none⟩ fv) := (Fr.refl _ _).setCell (.inl (by simp)) _
  have hst : OSt O (q6.setCell ⟨n + 1 + 1 + 1 + 1 + 1, 0, none⟩ fv) [] [] := by
    subst hO
    exact {
      rec_ := by have := b6.set 0 fv; rw [hfv] at this ⊢; exact this
      box := B1.fr F7 (by simp; omega)
      row := (hrow.fr F6 (by simp)).fr F7 (by simp; omega)
      fr := F6.trans F7 (fun x hx => .inr (by simp at hx; omega))
      yb := by show w.heap.size ≤ n + 1 + 1 + 1; omega
      zb := by show w.heap.size ≤ n + 1 + 1 + 1 + 1; omega
      pl := ⟨_, B4.fr F7 (by simp), by
        show World.ownsRow _ w.heap.size _ _ _ _ _
        rw [← hn]
        exact own_fr O2 F7 (by simp [Value.ownBlock])⟩
      pa := ⟨_, [], B5.fr F7 (by simp), by
        show World.ownsRow _ w.heap.size _ _ _ _ _
        rw [← hn]
        exact own_fr O3 F7 (by simp [Value.ownBlock]), rfl, fun i hi => by simp at hi⟩ }
  clear B1 O2 O3 B4 B5 F6 F7 b6 c0 cz
  rw [hfv] at hst
  clear hfv
  generalize q6.setCell ⟨n + 1 + 1 + 1 + 1 + 1, 0, none⟩ (.func (.func 33) #[] #[.pointer (some ⟨n + 1 + 1 + 1 + 1 + 1, 0, none⟩), .pointer (some ⟨n, 0, none⟩), .pointer (some ⟨n + 1 + 1 + 1, 0, none⟩), .pointer (some ⟨n + 1 + 1 + 1 + 1, 0, none⟩)]) = w4 at *
  have c0 : w4.cell? ⟨n + 1 + 1 + 1 + 1 + 1, 0, none⟩ = some (.func (.func 33) #[] #[.pointer (some ⟨n + 1 + 1 + 1 + 1 + 1, 0, none⟩), .pointer (some ⟨n, 0, none⟩), .pointer (some ⟨n + 1 + 1 + 1, 0, none⟩), .pointer (some ⟨n + 1 + 1 + 1 + 1, 0, none⟩)]) := by
    have := hst.rec_.cell 0
    subst hO
    exact this
  have hcon := Lib.hid (order1_any O (by subst hO; exact hN) (by subst hO; exact hcap) t 0 (.slice none 0 0) [] w4 [] [] (by subst hO; exact hfit) (by subst hO; exact hlt) hst ⟨rfl, .inl ⟨rfl, rfl⟩⟩ (by simp; omega) (by simp; omega))
  rw [hO] at hcon
  clear hn
  clear hst
  go_wp2_with fail
  refine hcon.out.mono ?_
  rintro e w6 ⟨rfl, hP, _⟩
  rw [List.nil_append, List.nil_append] at hP
  obtain ⟨v1, hv1, ho1⟩ := hP.pl
  obtain ⟨v2, vs, hv2, ho2, hpa⟩ := hP.pa
  have hfr := hP.fr
  have c1 : w6.cell? ⟨n + 1 + 1 + 1, 0, none⟩ = some v1 := hv1.cell 0
  have c2 : w6.cell? ⟨n + 1 + 1 + 1 + 1, 0, none⟩ = some v2 := hv2.cell 0
  have HPs := Lib.hid (And.intro hfr (And.intro ho1 (And.intro ho2 hpa)))
  clear hP hv1 hv2 ho1 ho2 hpa hfr
  go_upto_region 5 with (fail)
  go_quiet (fail)
  go_wp2_with fail
  obtain ⟨hfr, ho1, ho2, hpa⟩ := HPs.out
  exact bodyPost_ret (v := .tuple #[v1, v2]) (by simp [results, Tryd.results12, go_sem]) rfl ⟨_, _, vs, rfl, hfr.drewN _, own_fr0 ho1 ((Fr.refl _ _).drewN _), own_fr0 ho2 ((Fr.refl _ _).drewN _), hpa.1, fun i hi => own_fr0 (hpa.2 i hi) ((Fr.refl _ _).drewN _)⟩
end Go.Proofs.YtokpomdfgbbhlaaDoor

/- What entries of a written file are, whichever size its sectors have. -/
namespace Go.Proofs.YtokpomdfgbbhlaaDoor
open Go Go.RowKit Go.Maps

def kindN (x : Nd) (e : Nat) : Nat := if e = 0 then 5 else if x.stream = true then 2 else 1
/-- The cells of the entry of node e. -/
def eCells (x : Nd) (e : Nat) (pv : Value) : List Value :=
  [.string x.name, pv, .int .i64 (kindN x e : Nat), .int .i64 (if x.stream = true then (x.len : Int) else 0), .int .i64 ((x.name.data.toList.getD 0 0).toNat : Nat)] ++ (guidA x.cls).toList ++ (stateA x.sts).toList ++ [.int .u64 x.cr, .int .u64 x.md]
theorem eCells_length (x : Nd) (e : Nat) (pv : Value) : (eCells x e pv).length = 27 := by simp [eCells, guidA, stateA]
theorem eCells_one (x : Nd) (e : Nat) (a : Option Addr) (n c : Nat) : ∀ u ∈ eCells x e (.slice a n c), u.oneCell' = true := by
  intro u hu
  simp only [eCells, guidA, stateA, List.mem_append, List.mem_cons, List.not_mem_nil, or_false, tab, List.toList_toArray, List.mem_map] at hu
  rcases hu with ((h | ⟨i, _, rfl⟩) | ⟨i, _, rfl⟩) | h
  · rcases h with rfl | rfl | rfl | rfl | rfl <;> rfl
  · rfl
  · rfl
  · rcases h with rfl | rfl <;> rfl
theorem ent_eq {L : Lay} {F : Nat → UInt8} {fat mfat : Nat → Nat} {W : Nat → UInt8} (hW : Wrote L F fat mfat W) (hL : LayOK L) (hB : L.bytes ≤ 131072) (e : Nat) (he : e < L.N) (pv : Value) :
    entCells (L.EP e) pv (entB F L.sz (L.chn 0) e) = eCells (L.nd e) e pv := by
  have hE := Nat.lt_of_lt_of_le he (hW.N_le hL hB)
  have hf := hW.ent_flds hL hB e hE he
  have h1 : ((entB F L.sz (L.chn 0) e 66).toNat : Nat) = kindN (L.nd e) e := by
    rw [hf.kind]
    unfold Lay.kindOf kindN byteN
    split
    · rfl
    · split <;> rfl
  have h2 : (guidA fun j => entB F L.sz (L.chn 0) e (80 + j)) = guidA (L.nd e).cls := by
    unfold guidA
    congr 1
    exact tab_congr (fun i hi => congrArg U8 (hf.cls i hi))
  have h3 : (stateA fun j => entB F L.sz (L.chn 0) e (96 + j)) = stateA (L.nd e).sts := by
    unfold stateA
    congr 1
    exact tab_congr (fun i hi => congrArg U8 (hf.sts i hi))
  unfold entCells eCells Lay.EP
  rw [if_pos he, h1, h2, h3, hf.cr, hf.md]
  rfl

/-- The entries' cells. -/
def eRows (k : Nat) (o : Nat → Nat) (nd : Nat → Nd) (pth : Nat → Value) : List Value := (List.range k).flatMap (fun i => eCells (nd (o i)) (o i) (pth i))
theorem eRows_get (n : Nat) (o : Nat → Nat) (nd : Nat → Nd) (pth : Nat → Value) (k j : Nat) (hk : k < n) (hj : j < 27) : (eRows n o nd pth)[k * 27 + j]? = (eCells (nd (o k)) (o k) (pth k))[j]? := by
  induction n with
  | zero => omega
  | succ n ih =>
    have hl : ∀ m, (eRows m o nd pth).length = m * 27 := by
      intro m
      induction m with
      | zero => rfl
      | succ m ih2 =>
        have : eRows (m + 1) o nd pth = eRows m o nd pth ++ eCells (nd (o m)) (o m) (pth m) := by unfold eRows; rw [List.range_succ, List.flatMap_append]; simp
        rw [this, List.length_append, ih2, eCells_length]; omega
    have : eRows (n + 1) o nd pth = eRows n o nd pth ++ eCells (nd (o n)) (o n) (pth n) := by unfold eRows; rw [List.range_succ, List.flatMap_append]; simp
    rw [this]
    by_cases hkn : k < n
    · rw [List.getElem?_append_left (by rw [hl]; omega)]
      exact ih hkn
    · obtain rfl : k = n := by omega
      rw [List.getElem?_append_right (by rw [hl]; omega), hl]
      congr 1
      omega

/-- A slice of entries. -/
def EntsAre (w : World) (base : Nat) (v : Value) (n : Nat) (o : Nat → Nat) (nd : Nat → Nd) (ps : Nat → List ByteArray) : Prop :=
  ∃ (b cap : Nat) (pth : Nat → Value), v = .slice (some ⟨b, 0, none⟩) n cap ∧ n ≤ cap ∧ cap ≤ 9223372036854775807 ∧ (∀ k j u, k < n → j < 27 → (eCells (nd (o k)) (o k) (pth k))[j]? = some u → w.cell? ⟨b, k * 27 + j, none⟩ = some u) ∧ ∀ i, i < n → TextsIs w base (pth i) (ps i)
theorem EntsAre.fr {w w' : World} {base n : Nat} {v : Value} {o : Nat → Nat} {nd : Nat → Nd} {ps : Nat → List ByteArray} (h : EntsAre w base v n o nd ps) (f : Fr [] w w') : EntsAre w' base v n o nd ps := by
  obtain ⟨b, cap, pth, h1, h2, h3, h4, h5⟩ := h
  exact ⟨b, cap, pth, h1, h2, h3, fun k j u hk hj hu => f.cell0 (h4 k j u hk hj hu), fun i hi => own_fr0 (h5 i hi) f⟩
theorem EntsAre.of {w : World} {base n : Nat} {v : Value} {o : Nat → Nat} {nd : Nat → Nd} {ps : Nat → List ByteArray} {pth : Nat → Value} (hn : 1 ≤ n) (h : w.ownsRow base 40 27 v n (eRows n o nd pth)) (ht : ∀ i, i < n → TextsIs w base (pth i) (ps i)) : EntsAre w base v n o nd ps := by
  obtain ⟨b, cap, l, rfl, h1, h2, h3, h4, h5, _⟩ := own_blkS h hn
  refine ⟨b, cap, pth, rfl, h4, h5, fun k j u hk hj hu => ?_, ht⟩
  rw [h2.cell, h3 _ (by omega), eRows_get _ _ _ _ _ _ hk hj]
  exact hu

theorem NT.pths_congr {nm nm' : Nat → ByteArray} : ∀ (t : NT) (p : List ByteArray), (∀ e, e ∈ t.order → nm e = nm' e) → t.pths nm p = t.pths nm' p
  | .nil, _, _ => rfl
  | .node e l c r, p, h => by
    simp only [NT.pths]
    rw [NT.pths_congr l p (fun x hx => h x (by simp [NT.order, hx])), NT.pths_congr c _ (fun x hx => h x (by simp [NT.order, hx])), NT.pths_congr r p (fun x hx => h x (by simp [NT.order, hx])), h e (by simp [NT.order])]
/-- Entries of a written file. -/
theorem entries_wrote {base lb N : Nat} {w : World} {nd : Nat → Nd} {dv : Nat → Value} {t : NT} (h : NodesOK base lb N w nd dv t) (L : Lay) (hL : L.nd = nd ∧ L.N = N) {F : Nat → UInt8} {fat mfat : Nat → Nat} {W : Nat → UInt8} (hW : Wrote L F fat mfat W) (hb : L.bytes ≤ 131072) (ob : Nat) (hB : Bts w ob L.bytes F)
    (hp : ∀ i, 65 ≤ i → i ≤ 90 → w.cell? ⟨2, i, none⟩ = some (.int .u8 160)) (h2w : 2 < w.heap.size) :
    Calls Tryd.prog 11 #[.slice (some ⟨ob, 0, none⟩) L.bytes L.bytes] w fun e w' => Fr [] w w' ∧ ∃ v, e = .returned (.tuple #[v, .int .i64 0]) ∧ EntsAre w' w.heap.size v N (fun i => t.order.getD i 0) nd (fun i => (t.pths (fun k => (nd k).name) []).getD i []) := by
  obtain ⟨hLO, hFO⟩ := h.file hL hW hb
  have hlen := h.tree.len
  have hlt : ∀ i, i < N → t.order.getD i 0 < N := fun i hi => by
    refine h.tree.lt _ ?_
    rw [List.getD_eq_getElem?_getD, List.getElem?_eq_getElem (by omega)]
    simp
  refine (entries_ok ob 0 L.bytes L.bytes L.sz (L.cnt 0) L.mn (L.cnt 2) F (L.chn 0) (L.chn 1) (L.chn 2) L.EP t.toTr w (fun i hi => by rw [Nat.zero_add]; exact (Blk.cell hB i).trans (tab_get _ _ _ hi)) hFO (by omega) hp h2w).mono ?_
  rintro e w' ⟨hf, v, pth, rfl, ho, ht⟩
  rw [NT.toTr_order, hlen] at ho ht
  refine ⟨hf, v, rfl, EntsAre.of (pth := pth) h.n1 ?_ ?_⟩
  · have e1 : entRows N (fun i => t.order.getD i 0) L.EP pth (entB F L.sz (L.chn 0)) = eRows N (fun i => t.order.getD i 0) nd pth := by
      unfold entRows eRows
      rw [List.flatMap_def, List.flatMap_def]
      congr 1
      apply List.map_congr_left
      intro i hi
      rw [ent_eq hW hLO hb _ (by rw [hL.2]; exact hlt i (by simpa using hi)), hL.1]
    rw [← e1]
    exact ho
  · intro i hi
    have h1 := ht i hi
    have h2 : ∀ q, ((t.toTr.paths (fun e => (L.EP e).name) []).map Prod.snd).getD i q = ((t.pths (fun k => (nd k).name) [])).getD i q := by
      intro q
      rw [NT.pths_snd]
      congr 1
      refine NT.pths_congr t _ (fun e he => ?_)
      unfold Lay.EP
      rw [if_pos (by rw [hL.2]; exact h.tree.lt e he), hL.1]
    have h3 := h2 []
    rw [List.getD_eq_getElem?_getD, List.getElem?_map] at h3
    rw [List.getD_eq_getElem?_getD] at h1
    cases hq : (t.toTr.paths (fun e => (L.EP e).name) [])[i]? with
    | none =>
      rw [hq] at h1 h3
      simp only [Option.getD_none, Option.map_none] at h1 h3
      rw [← h3]
      exact h1
    | some y =>
      rw [hq] at h1 h3
      simp only [Option.getD_some, Option.map_some] at h1 h3
      rw [← h3]
      exact h1
end Go.Proofs.YtokpomdfgbbhlaaDoor

/- Walk over a written file of nodes. -/
namespace Go.Proofs.YtokpomdfgbbhlaaDoor
open Go Go.RowKit Go.Maps

theorem WalkIs.congr {w : World} {base n nu : Nat} {v : Value} {nm nm' : Nat → ByteArray} {len len' : Nat → Nat} {dat dat' : Nat → Nat → UInt8} {us : Nat → Nat} (h : WalkIs w base v n nm len dat us nu) (h1 : ∀ k, k < n → nm k = nm' k) (h2 : ∀ k, k < n → len k = len' k ∧ dat k = dat' k) : WalkIs w base v n nm' len' dat' us nu := by
  obtain ⟨rv, a, b⟩ := h
  refine ⟨rv, ?_, fun k hk => ?_⟩
  · have e : walkRow nm rv n = walkRow nm' rv n := by
      unfold walkRow
      rw [List.flatMap_def, List.flatMap_def]
      congr 1
      apply List.map_congr_left
      intro k hk
      rw [h1 k (by simpa using hk)]
    rw [← e]
    exact a
  · obtain ⟨e1, e2⟩ := h2 k hk
    rw [← e1, ← e2]
    exact b k hk

theorem walk_wrote {base lb N : Nat} {w : World} {nd : Nat → Nd} {dv : Nat → Value} {t : NT} (h : NodesOK base lb N w nd dv t) (L : Lay) (hL : L.nd = nd ∧ L.N = N) {F : Nat → UInt8} {fat mfat : Nat → Nat} {W : Nat → UInt8} (hW : Wrote L F fat mfat W) (hb : L.bytes ≤ 131072) (ob : Nat) (hB : Bts w ob L.bytes F)
    (hp : ∀ i, 65 ≤ i → i ≤ 90 → w.cell? ⟨2, i, none⟩ = some (.int .u8 160)) (h2w : 2 < w.heap.size)
    (ub nu ucap eb eo : Nat) (ua : Option Addr) (us : Nat → Nat) (hua : 0 < nu → ua = some ⟨ub, 0, none⟩) (hus : ∀ j, j < nu → w.cell? ⟨ub, j, none⟩ = some (I64 (us j))) (hnu : nu ≤ 12) (hub : ∀ j, j < nu → 1 ≤ us j ∧ us j ≤ 80) (huc : nu ≤ ucap ∧ ucap ≤ 9223372036854775807)
    (hev : w.cell? ⟨0, 0, none⟩ = some (.iface 187 (.pointer (some ⟨eb, eo, none⟩)))) :
    Calls Tryd.prog 15 #[.slice (some ⟨ob, 0, none⟩) L.bytes L.bytes, .slice ua nu ucap] w fun e w' => Fr [] w w' ∧ ∃ v, e = .returned (.tuple #[v, .int .i64 6]) ∧
      WalkIs w' w.heap.size v (N - 1) (fun k => (nd (t.order.getD (k + 1) 0)).name) (fun k => (nd (t.order.getD (k + 1) 0)).len) (fun k => (nd (t.order.getD (k + 1) 0)).dat) us nu := by
  obtain ⟨hLO, hFO⟩ := h.file hL hW hb
  have hlen := h.tree.len
  have hlt : ∀ i, i < N → t.order.getD i 0 < N := fun i hi => by
    refine h.tree.lt _ ?_
    rw [List.getD_eq_getElem?_getD, List.getElem?_eq_getElem (by omega)]
    simp
  have hN := hW.N_le hLO hb
  have hst : StrsOK F L.bytes L.sz (L.cnt 0) L.mn (L.cnt 2) (L.chn 1) (L.chn 2) (L.chn 0) L.EP t.toTr (fun k => (nd (t.order.getD k 0)).len) (fun k => (nd (t.order.getD k 0)).dat) := by
    intro k hk
    rw [NT.toTr_order] at hk ⊢
    have he := hlt k (by omega)
    have heL : t.order.getD k 0 < L.N := by rw [hL.2]; exact he
    have h9 := hLO.len _ heL
    rw [hL.1] at h9
    refine ⟨?_, by show (nd (t.order.getD k 0)).len ≤ 100000; omega, ?_⟩
    · unfold Lay.EP
      rw [if_pos heL, hL.1]
      show (if (nd (t.order.getD k 0)).stream = true then (((nd (t.order.getD k 0)).len : Nat) : Int) else 0) = _
      by_cases hs : (nd (t.order.getD k 0)).stream = true
      · rw [if_pos hs]
      · rw [if_neg hs]
        show (0 : Int) = (((nd (t.order.getD k 0)).len : Nat) : Int)
        rw [h.emp _ he (by simpa using hs)]
        rfl
    · by_cases hs : (nd (t.order.getD k 0)).stream = true
      · right
        obtain ⟨mini, q, K, ch, off, g1, g2⟩ := hW.str hLO hb (t.order.getD k 0) heL (by rw [hL.1]; exact hs)
        rw [hL.1] at g1
        refine ⟨mini, q, K, ch, off, g1, ?_⟩
        rw [(hW.ent_flds hLO hb (t.order.getD k 0) (by omega) heL).start, g2]
      · left
        exact h.emp _ he (by simpa using hs)
  refine (walk_any ob 0 L.bytes L.bytes L.sz (L.cnt 0) L.mn (L.cnt 2) F (L.chn 0) (L.chn 1) (L.chn 2) L.EP t.toTr w (fun i hi => by rw [Nat.zero_add]; exact (Blk.cell hB i).trans (tab_get _ _ _ hi)) hFO (by omega) hp h2w ub nu ucap eb eo ua us ⟨#[]⟩ hua hus hnu hub huc hev _ _ hst).mono ?_
  rintro e w' ⟨hf, v, rfl, hw⟩
  rw [NT.toTr_order, hlen] at hw
  refine ⟨hf, v, rfl, hw.congr (fun k hk => ?_) (fun k hk => ⟨rfl, rfl⟩)⟩
  unfold Lay.EP
  rw [if_pos (by rw [hL.2]; exact hlt (k + 1) (by omega)), hL.1]
end Go.Proofs.YtokpomdfgbbhlaaDoor

/- As Loose, for what stands of the frame and the memory together. -/
namespace Go.Proofs.YtokpomdfgbbhlaaDoor
open Go Go.RowKit

section
variable {ops : Array Oper} {Q : Exit → Act → World → Prop}

/-- What stands at each moment: L tells which have come up. -/
structure LInvA (J : (Nat → Bool) → Act → World → Prop) (Sp : Nat → World → Value → Prop) (ops : Array Oper) (a0 : Act) (L : Nat → Bool) (a : Act) (w : World) : Prop where
  j : J L a w
  size : a.tmps.size = a0.tmps.size
  defers : a.defers = a0.defers
  closed : ∀ i o, L i = true → ops[i]? = some o → ∀ e ∈ o.after, Region.binds .any e = true → L e.on = true
  free : ∀ d, (∀ i o, L i = true → ops[i]? = some o → o.dst ≠ some d) → a.tmps[d]? = a0.tmps[d]?
  val : ∀ i o d, L i = true → ops[i]? = some o → o.dst = some d → Sp i w (a.tmps.getD d undef)

/-- No two write one slot; nobody waits, in every order, for one behind him. -/
def looseC (ops : Array Oper) (n : Nat) : Bool :=
  (List.range ops.size).all fun i => match ops[i]? with
    | some o => o.after.all (fun e => !Region.binds .any e || decide (e.on < i)) && o.guard.isNone && (match o.dst with | some d => decide (d < n) && (List.range ops.size).all (fun j => decide (j = i) || (match ops[j]? with | some o' => o'.dst != some d | none => true)) | none => true)
    | none => true

theorem LInvA.put {J : (Nat → Bool) → Act → World → Prop} {Sp : Nat → World → Value → Prop} {a0 a : Act} {L : Nat → Bool} {w w' : World} {i : Nat} {o : Oper} {v : Value} (hB : looseC ops a0.tmps.size = true) (h : LInvA J Sp ops a0 L a w) (hi : ops[i]? = some o) (hL : L i = false)
    (hw : ∀ e ∈ o.after, Region.binds .any e = true → L e.on = true) (hJ : J (lSet L i) (a.put o.dst v) w') (hS : ∀ j u, L j = true → Sp j w u → Sp j w' u) (hv : Sp i w' v) : LInvA J Sp ops a0 (lSet L i) (a.put o.dst v) w' := by
  have hib : i < ops.size := (Array.getElem?_eq_some_iff.1 hi).1
  have hb := List.all_eq_true.1 hB i (List.mem_range.2 hib)
  simp only [hi, Bool.and_eq_true] at hb
  refine { j := hJ, size := ?_, defers := ?_, closed := ?_, free := ?_, val := ?_ }
  · unfold Act.put
    split
    · simpa using h.size
    · exact h.size
  · unfold Act.put
    split <;> exact h.defers
  · intro k ok hk hok e he hbd
    by_cases hki : k = i
    · subst hki
      rw [hi] at hok
      cases hok
      have := hw e he hbd
      unfold lSet
      split
      · rfl
      · exact this
    · rw [lSet_ne _ _ _ hki] at hk
      have := h.closed k ok hk hok e he hbd
      unfold lSet
      split
      · rfl
      · exact this
  · intro d hd
    have hdi : o.dst ≠ some d := hd i o (lSet_self _ _) hi
    have h1 := h.free d (fun k ok hk hok => hd k ok (by unfold lSet; split <;> simp_all) hok)
    rw [← h1]
    unfold Act.put
    cases hdst : o.dst with
    | none => rfl
    | some d' =>
      have hne : d' ≠ d := fun hh => hdi (by rw [hdst, hh])
      show (a.tmps.setIfInBounds d' v)[d]? = _
      exact Array.getElem?_setIfInBounds_ne hne
  · intro k ok d hk hok hd
    by_cases hki : k = i
    · subst hki
      rw [hi] at hok
      cases hok
      rw [hd] at hb ⊢
      simp only [Bool.and_eq_true, decide_eq_true_eq] at hb
      have hdl : d < a.tmps.size := by rw [h.size]; exact hb.2.1
      have : (a.put (some d) v).tmps.getD d undef = v := by
        show (a.tmps.setIfInBounds d v).getD d undef = v
        simp [Array.getD, hdl]
      rw [this]
      exact hv
    · rw [lSet_ne _ _ _ hki] at hk
      have h1 := hS k _ hk (h.val k ok d hk hok hd)
      have : (a.put o.dst v).tmps.getD d undef = a.tmps.getD d undef := by
        unfold Act.put
        cases hdst : o.dst with
        | none => rfl
        | some d' =>
          rw [hdst] at hb
          simp only [Bool.and_eq_true, decide_eq_true_eq] at hb
          have hkb : k < ops.size := (Array.getElem?_eq_some_iff.1 hok).1
          have h2 := List.all_eq_true.1 hb.2.2 k (List.mem_range.2 hkb)
          rw [hok] at h2
          simp only [Bool.or_eq_true, decide_eq_true_eq, hki, false_or] at h2
          have hne : d' ≠ d := fun hh => by rw [hd, hh] at h2; simp at h2
          show (a.tmps.setIfInBounds d' v).getD d undef = a.tmps.getD d undef
          rw [Array.getD_eq_getD_getElem?, Array.getD_eq_getD_getElem?, Array.getElem?_setIfInBounds_ne hne]
      rw [this]
      exact h1

theorem loose_goA {J : (Nat → Bool) → Act → World → Prop} {Sp : Nat → World → Value → Prop} {a0 : Act} (hB : looseC ops a0.tmps.size = true)
    (hstep : ∀ L a w i o, LInvA J Sp ops a0 L a w → ops[i]? = some o → L i = false → (∀ e ∈ o.after, Region.binds .any e = true → L e.on = true) →
      o.wp Tryd.prog a w (fun a' w' => ∃ v, a' = a.put o.dst v ∧ J (lSet L i) a' w' ∧ (∀ j u, L j = true → Sp j w u → Sp j w' u) ∧ Sp i w' v) Q)
    (hend : ∀ L a w, LInvA J Sp ops a0 L a w → (∀ i, i < ops.size → L i = true) → Q .normal a w) :
    ∀ (fuel : Nat) (l : Array Bool) (a : Act) (w : World), l.size = ops.size → unl l ≤ fuel → LInvA J Sp ops a0 (fun i => l.getD i false) a w → wpAny Tryd.prog .any ops Q fuel l a w := by
  have hall : ∀ (l : Array Bool), l.size = ops.size → Region.ready .any ops l = [] → ∀ i, i < ops.size → l.getD i false = true := by
    intro l hl hr i
    induction i using Nat.strongRecOn with
    | _ i ih =>
      intro hi
      rcases hb : l.getD i false with _ | _
      · exfalso
        have hm : i ∈ Region.ready .any ops l := by
          rw [mem_ready]
          have hb' : l.getD i true = false := by
            have hil : i < l.size := by omega
            simp [Array.getD, hil] at hb ⊢
            exact hb
          refine ⟨hb', ops[i], Array.getElem?_eq_getElem hi, fun e he hbd => ?_⟩
          have h1 := List.all_eq_true.1 hB i (List.mem_range.2 hi)
          rw [Array.getElem?_eq_getElem hi] at h1
          simp only [Bool.and_eq_true] at h1
          have h2 := Array.all_eq_true'.1 h1.1.1 e he
          have h3 : e.on < i := by rw [hbd] at h2; simpa using h2
          exact ih e.on h3 (by omega)
        rw [hr] at hm
        cases hm
      · rfl
  intro fuel
  induction fuel with
  | zero =>
    intro l a w hl hu hI
    have hz : ∀ i, i < ops.size → l.getD i false = true := fun i hi => unl_zero l (by omega) i (by omega)
    refine ⟨?_, hend _ a w hI hz⟩
    apply List.eq_nil_iff_forall_not_mem.2
    intro i hm
    rw [mem_ready] at hm
    obtain ⟨h1, o, h2, _⟩ := hm
    have h3 := hz i (Array.getElem?_eq_some_iff.1 h2).1
    have hil : i < l.size := by rw [hl]; exact (Array.getElem?_eq_some_iff.1 h2).1
    simp [Array.getD, hil] at h1 h3
    rw [h1] at h3
    cases h3
  | succ fuel ih =>
    intro l a w hl hu hI
    refine ⟨fun hr => hend _ a w hI (hall l hl hr), fun i hm => ?_⟩
    rw [mem_ready] at hm
    obtain ⟨h1, o, h2, h3⟩ := hm
    have hib : i < ops.size := (Array.getElem?_eq_some_iff.1 h2).1
    have hil : i < l.size := by omega
    have hLi : (fun i => l.getD i false) i = false := by
      simp [Array.getD, hil] at h1 ⊢
      exact h1
    have hs := hstep _ a w i o hI h2 hLi h3
    have hg : o.guard = none := by
      have h4 := List.all_eq_true.1 hB i (List.mem_range.2 hib)
      rw [h2] at h4
      simp only [Bool.and_eq_true] at h4
      exact Option.isNone_iff_eq_none.1 h4.1.2
    unfold wpOp
    simp only [h2]
    have hw : Region.wanted o (yielded ops a.tmps) = true := by simp [Region.wanted, hg]
    rw [if_pos hw]
    refine .inl (Oper.wp_mono ?_ hs)
    rintro a' w' ⟨v, rfl, e2, e3, e4⟩
    have hp := hI.put hB h2 hLi h3 e2 e3 e4
    refine ih _ _ _ (by simpa using hl) (by have := unl_set l i h1; omega) ?_
    have e5 : (fun j => (l.setIfInBounds i true).getD j false) = lSet (fun i => l.getD i false) i := by
      funext j
      unfold lSet
      by_cases hji : j = i
      · subst hji
        simp [Array.getD, hil]
      · rw [if_neg hji]
        show (l.setIfInBounds i true).getD j false = l.getD j false
        rw [Array.getD_eq_getD_getElem?, Array.getD_eq_getD_getElem?, Array.getElem?_setIfInBounds_ne (Ne.symm hji)]
    rw [e5]
    exact hp

/-- The region: any order. -/
theorem wp_region_looseA {id : Nat} {J : (Nat → Bool) → Act → World → Prop} {Sp : Nat → World → Value → Prop} {a0 : Act} {w : World} (hm : Tryd.prog.follows .mixedOrders = true) (hB : looseC ops a0.tmps.size = true) (h0 : J (fun _ => false) a0 w.drew)
    (hstep : ∀ L a w i o, LInvA J Sp ops a0 L a w → ops[i]? = some o → L i = false → (∀ e ∈ o.after, Region.binds .any e = true → L e.on = true) →
      o.wp Tryd.prog a w (fun a' w' => ∃ v, a' = a.put o.dst v ∧ J (lSet L i) a' w' ∧ (∀ j u, L j = true → Sp j w u → Sp j w' u) ∧ Sp i w' v) Q)
    (hend : ∀ L a w, LInvA J Sp ops a0 L a w → (∀ i, i < ops.size → L i = true) → Q .normal a w) : (Code.region id ops true).wp Tryd.prog Q a0 w := by
  refine wp_region_any hm (loose_goA hB hstep hend ops.size (Array.replicate ops.size false) a0 _ (by simp) ?_ ?_)
  · unfold unl
    exact Nat.le_trans (List.length_filter_le _ _) (by simp)
  · have e : (fun i => (Array.replicate ops.size false).getD i false) = fun _ => false := by
      funext i
      rw [Array.getD_eq_getD_getElem?, Array.getElem?_replicate]
      split <;> rfl
    rw [e]
    exact { j := h0, size := rfl, defers := rfl, closed := fun i o h => (by cases h), free := fun d _ => rfl, val := fun i o d h => (by cases h) }
end
theorem LInvA.outer {J : (Nat → Bool) → Act → World → Prop} {Sp : Nat → World → Value → Prop} {ops : Array Oper} {a0 a : Act} {L : Nat → Bool} {w : World} (h : LInvA J Sp ops a0 L a w) (d : Nat) (hb : noDstB ops d = true) (v : Value) (hv : a0.tmps[d]? = some v) : a.tmps.getD d undef = v := by
  have h1 := h.free d (fun i o _ hi hd => by
    unfold noDstB at hb
    rw [← Array.all_toList, List.all_eq_true] at hb
    have := hb o (Array.mem_toList_iff.2 (Array.mem_of_getElem? hi))
    rw [hd] at this
    simp at this)
  rw [Array.getD_eq_getD_getElem?, h1, hv]
  rfl
theorem LInvA.before {J : (Nat → Bool) → Act → World → Prop} {Sp : Nat → World → Value → Prop} {ops : Array Oper} {a0 a : Act} {L : Nat → Bool} {w : World} (h : LInvA J Sp ops a0 L a w) {i j : Nat} {o : Oper} (hi : L i = false) (hj : ops[j]? = some o) (hb : (o.after.any fun e => Region.binds .any e && e.on == i) = true) : L j = false := by
  rcases hl : L j with _ | _
  · rfl
  · exfalso
    rw [← Array.any_toList, List.any_eq_true] at hb
    obtain ⟨e, he, h2⟩ := hb
    simp only [Bool.and_eq_true, beq_iff_eq] at h2
    have := h.closed j o hl hj e (Array.mem_toList_iff.1 he) h2.1
    rw [h2.2, hi] at this
    cases this
theorem LInvA.then {J : (Nat → Bool) → Act → World → Prop} {Sp : Nat → World → Value → Prop} {ops : Array Oper} {a0 a : Act} {L : Nat → Bool} {w : World} (h : LInvA J Sp ops a0 L a w) {i j : Nat} {o : Oper} (hi : L i = true) (hj : ops[i]? = some o) (hb : (o.after.any fun e => Region.binds .any e && e.on == j) = true) : L j = true :=
  waits_of (h.closed i o hi hj) j hb
/-- The frame behind the region, written out. -/
theorem LInvA.lit {J : (Nat → Bool) → Act → World → Prop} {Sp : Nat → World → Value → Prop} {ops : Array Oper} {a0 a : Act} {L : Nat → Bool} {w : World} (h : LInvA J Sp ops a0 L a w) (ds : List Nat)
    (hb : (ops.all fun o => match o.dst with | some d => ds.contains d | none => true) = true) : a = ⟨ds.foldl (fun t d => t.setIfInBounds d (a.tmps.getD d undef)) a0.tmps, a0.defers⟩ := by
  obtain ⟨t, df⟩ := a
  have hd : df = a0.defers := h.defers
  subst hd
  congr 1
  apply Array.ext_getElem?
  intro k
  rw [fold_set_get]
  have hs : t.size = a0.tmps.size := h.size
  by_cases h1 : k < a0.tmps.size
  · by_cases h2 : k ∈ ds
    · rw [if_pos ⟨h2, h1⟩]
      have : k < t.size := by omega
      simp [Array.getD, this]
    · rw [if_neg (fun h => h2 h.1)]
      refine h.free k (fun i o _ hi hdst => ?_)
      rw [← Array.all_toList, List.all_eq_true] at hb
      have := hb o (Array.mem_toList_iff.2 (Array.mem_of_getElem? hi))
      rw [hdst] at this
      simp only [List.contains_iff_mem] at this
      exact h2 this
  · rw [if_neg (fun h => h1 h.2), Array.getElem?_eq_none (by omega), Array.getElem?_eq_none (by omega)]
end Go.Proofs.YtokpomdfgbbhlaaDoor

/- Loads and stores of whole structs as steps of a region that draws its order. -/
namespace Go.Proofs.YtokpomdfgbbhlaaDoor
open Go Go.RowKit

theorem step_load_row {ops : Array Oper} {o : Oper} {a : Act} {w : World} {K : Act → World → Prop} {Q : Exit → Act → World → Prop} {E : Prop} (hgd : o.guard = none) (ty : TypeId) (x : Operand) (ho : o.op = .load ty x)
    (b off : Nat) (hx : a.eval x = .pointer (some ⟨b, off, none⟩)) (cs : Array Value) (d : TypeDesc) (hu : Tryd.prog.underlying ty = some d) (hd : d.isRow = true) (n : Nat) (hi : (Tryd.prog.info? ty).map (·.size) = some n) (hn : cs.size = n)
    (hc : ∀ (j : Nat) (v : Value), cs.toList[j]? = some v → w.cell? ⟨b, off + j, none⟩ = some v) (h : K (a.put o.dst (.agg cs)) w) : if Region.wanted o (yielded ops a.tmps) = true then Oper.wp Tryd.prog o a w K Q else E := by
  have hw : Region.wanted o (yielded ops a.tmps) = true := by simp [Region.wanted, hgd]
  rw [if_pos hw]
  have hl := run_loadVar_mid (P := Tryd.prog) w b off ty cs.toList d hc hu hd (by rw [hi]; simp [hn])
  refine lw (.agg cs) ?_ h
  unfold execOp
  simp only [ho, hx, Instr.loadAt, Instr.sureAddr, Sem.run_bind, Sem.run_pure, Result.andThen_ok, hl]

theorem step_store_row {ops : Array Oper} {o : Oper} {a : Act} {w : World} {K : Act → World → Prop} {Q : Exit → Act → World → Prop} {E : Prop} (hgd : o.guard = none) (ty : TypeId) (x y : Operand) (ho : o.op = .store ty x y)
    (b : Nat) (cells : Array Value) (hx : a.eval x = .pointer (some ⟨b, 0, none⟩)) (hy : a.eval y = .agg cells) (T : TypeId) (l : List Value) (hb : Blk w b T l) (hn : l.length = cells.size) (hi : (Tryd.prog.info? ty).map (·.size) = some cells.size) (h1 : cells.all (·.oneCell') = true)
    (h : ∀ w', Fr [b] w w' → Blk w' b T cells.toList → K (a.put o.dst undef) w') : if Region.wanted o (yielded ops a.tmps) = true then Oper.wp Tryd.prog o a w K Q else E := by
  have hw : Region.wanted o (yielded ops a.tmps) = true := by simp [Region.wanted, hgd]
  rw [if_pos hw]
  obtain ⟨h2, h3⟩ := setCells_blk (b := b) (T := T) cells.toList 0 w l hb (by simp [hn])
  rw [splice_whole _ _ (by simpa using hn)] at h2
  refine wp_store_mid ty x y ho b 0 cells hx hy ?_ hi h1 (h _ h3 h2)
  intro j hj
  exact ⟨by obtain ⟨v, hv⟩ := hb.some (0 + j) (by omega); rw [hv]; rfl, hb.frozen _⟩

theorem ow_load_row {o : Oper} {a : Act} {w : World} {K : Act → World → Prop} {Q : Exit → Act → World → Prop} (ty : TypeId) (x : Operand) (ho : o.op = .load ty x)
    (b off : Nat) (hx : a.eval x = .pointer (some ⟨b, off, none⟩)) (cs : Array Value) (d : TypeDesc) (hu : Tryd.prog.underlying ty = some d) (hd : d.isRow = true) (n : Nat) (hi : (Tryd.prog.info? ty).map (·.size) = some n) (hn : cs.size = n)
    (hc : ∀ (j : Nat) (v : Value), cs.toList[j]? = some v → w.cell? ⟨b, off + j, none⟩ = some v) (h : K (a.put o.dst (.agg cs)) w) : Oper.wp Tryd.prog o a w K Q := by
  have hl := run_loadVar_mid (P := Tryd.prog) w b off ty cs.toList d hc hu hd (by rw [hi]; simp [hn])
  refine lw (.agg cs) ?_ h
  unfold execOp
  simp only [ho, hx, Instr.loadAt, Instr.sureAddr, Sem.run_bind, Sem.run_pure, Result.andThen_ok, hl]

theorem wpList_load_g {ops : Array Oper} {rest : List Oper} {op : Oper} {a : Act} {w : World} {Q : Exit → Act → World → Prop} (ty : TypeId) (x : Operand) (ho : op.op = .load ty x)
    (b off : Nat) (hx : a.eval x = .pointer (some ⟨b, off, none⟩)) (cs : Array Value) (hl : (loadVar ty ⟨b, off, none⟩).run Tryd.prog w = .ok (.agg cs) w) (hw : Region.wanted op (yielded ops a.tmps) = true) (h : wpList Tryd.prog ops Q rest (a.put op.dst (.agg cs)) w) : wpList Tryd.prog ops Q (op :: rest) a w := by
  unfold wpList
  rw [if_pos hw]
  left
  refine lw (.agg cs) ?_ h
  unfold execOp
  simp only [ho, hx, Instr.loadAt, Instr.sureAddr, Sem.run_bind, Sem.run_pure, Result.andThen_ok, hl]

theorem ow_store_row {o : Oper} {a : Act} {w : World} {K : Act → World → Prop} {Q : Exit → Act → World → Prop} (ty : TypeId) (x y : Operand) (ho : o.op = .store ty x y)
    (b : Nat) (cells : Array Value) (hx : a.eval x = .pointer (some ⟨b, 0, none⟩)) (hy : a.eval y = .agg cells) (T : TypeId) (l : List Value) (hb : Blk w b T l) (hn : l.length = cells.size) (hi : (Tryd.prog.info? ty).map (·.size) = some cells.size) (h1 : cells.all (·.oneCell') = true)
    (h : ∀ w', Fr [b] w w' → Blk w' b T cells.toList → K (a.put o.dst undef) w') : Oper.wp Tryd.prog o a w K Q := by
  obtain ⟨h2, h3⟩ := setCells_blk (b := b) (T := T) cells.toList 0 w l hb (by simp [hn])
  rw [splice_whole _ _ (by simpa using hn)] at h2
  refine wp_store_mid ty x y ho b 0 cells hx hy ?_ hi h1 (h _ h3 h2)
  intro j hj
  exact ⟨by obtain ⟨v, hv⟩ := hb.some (0 + j) (by omega); rw [hv]; rfl, hb.frozen _⟩

/-- Two rows laid anew and filled: what stands meanwhile. -/
structure TwoJ (T d1 d2 i1 i2 s1 s2 n : Nat) (wr : World) (e1 e2 : List Value) (L : Nat → Bool) (a : Act) (w : World) : Prop where
  fr : Fr [] wr w
  p1 : L i1 = true → ∃ g, a.tmps.getD d1 undef = .pointer (some ⟨g, 0, none⟩) ∧ wr.heap.size ≤ g ∧ ∃ l, l.length = n ∧ Blk w g T l ∧ (L s1 = true → l = e1)
  p2 : L i2 = true → ∃ g, a.tmps.getD d2 undef = .pointer (some ⟨g, 0, none⟩) ∧ wr.heap.size ≤ g ∧ ∃ l, l.length = n ∧ Blk w g T l ∧ (L s2 = true → l = e2)
  ne : L i1 = true → L i2 = true → a.tmps.getD d1 undef ≠ a.tmps.getD d2 undef
theorem put_getD_ne (a : Act) (d k : Nat) (v : Value) (h : d ≠ k) : (a.put (some d) v).tmps.getD k undef = a.tmps.getD k undef := by
  show (a.tmps.setIfInBounds d v).getD k undef = a.tmps.getD k undef
  rw [Array.getD_eq_getD_getElem?, Array.getD_eq_getD_getElem?, Array.getElem?_setIfInBounds_ne h]
theorem put_getD_self (a : Act) (d : Nat) (v : Value) (h : d < a.tmps.size) : (a.put (some d) v).tmps.getD d undef = v := by
  show (a.tmps.setIfInBounds d v).getD d undef = v
  simp [Array.getD, h]
section
variable {T d1 d2 i1 i2 s1 s2 n : Nat} {wr w : World} {e1 e2 : List Value} {L : Nat → Bool} {a : Act}
theorem TwoJ.keep (h : TwoJ T d1 d2 i1 i2 s1 s2 n wr e1 e2 L a w) (i d : Nat) (v : Value) (hi : i ≠ i1 ∧ i ≠ i2 ∧ i ≠ s1 ∧ i ≠ s2) (hd : d ≠ d1 ∧ d ≠ d2) : TwoJ T d1 d2 i1 i2 s1 s2 n wr e1 e2 (lSet L i) (a.put (some d) v) w where
  fr := h.fr
  p1 := by rw [lSet_ne _ _ _ (Ne.symm hi.1), lSet_ne _ _ _ (Ne.symm hi.2.2.1), put_getD_ne _ _ _ _ hd.1]; exact h.p1
  p2 := by rw [lSet_ne _ _ _ (Ne.symm hi.2.1), lSet_ne _ _ _ (Ne.symm hi.2.2.2), put_getD_ne _ _ _ _ hd.2]; exact h.p2
  ne := by rw [lSet_ne _ _ _ (Ne.symm hi.1), lSet_ne _ _ _ (Ne.symm hi.2.1), put_getD_ne _ _ _ _ hd.1, put_getD_ne _ _ _ _ hd.2]; exact h.ne
theorem TwoJ.al1 (h : TwoJ T d1 d2 i1 i2 s1 s2 n wr e1 e2 L a w) (z : Array Value) (hz : z.size = n) (hs : L s1 = false) (hd : d1 ≠ d2) (hdl : d1 < a.tmps.size) (hi : i1 ≠ i2 ∧ s1 ≠ i1 ∧ s2 ≠ i1) :
    TwoJ T d1 d2 i1 i2 s1 s2 n wr e1 e2 (lSet L i1) (a.put (some d1) (.pointer (some ⟨w.heap.size, 0, none⟩))) (w.alloc (.cells z T)) where
  fr := h.fr.alloc _
  p1 := fun _ => ⟨w.heap.size, put_getD_self _ _ _ hdl, h.fr.size, z.toList, by simpa using hz, Blk.new' _ _ _, fun hh => by rw [lSet_ne _ _ _ hi.2.1, hs] at hh; cases hh⟩
  p2 := by
    rw [lSet_ne _ _ _ (Ne.symm hi.1), lSet_ne _ _ _ hi.2.2, put_getD_ne _ _ _ _ hd]
    intro hl
    obtain ⟨g, a1, a2, l, a3, a4, a5⟩ := h.p2 hl
    exact ⟨g, a1, a2, l, a3, a4.alloc _, a5⟩
  ne := by
    rw [lSet_ne _ _ _ (Ne.symm hi.1), put_getD_ne _ _ _ _ hd, put_getD_self _ _ _ hdl]
    intro _ hl heq
    obtain ⟨g, a1, a2, l, a3, a4, a5⟩ := h.p2 hl
    rw [a1] at heq
    have := a4.lt
    injection heq with e
    injection e with e
    injection e with e
    omega
theorem TwoJ.al2 (h : TwoJ T d1 d2 i1 i2 s1 s2 n wr e1 e2 L a w) (z : Array Value) (hz : z.size = n) (hs : L s2 = false) (hd : d1 ≠ d2) (hdl : d2 < a.tmps.size) (hi : i1 ≠ i2 ∧ s1 ≠ i2 ∧ s2 ≠ i2) :
    TwoJ T d1 d2 i1 i2 s1 s2 n wr e1 e2 (lSet L i2) (a.put (some d2) (.pointer (some ⟨w.heap.size, 0, none⟩))) (w.alloc (.cells z T)) where
  fr := h.fr.alloc _
  p2 := fun _ => ⟨w.heap.size, put_getD_self _ _ _ hdl, h.fr.size, z.toList, by simpa using hz, Blk.new' _ _ _, fun hh => by rw [lSet_ne _ _ _ hi.2.2, hs] at hh; cases hh⟩
  p1 := by
    rw [lSet_ne _ _ _ hi.1, lSet_ne _ _ _ hi.2.1, put_getD_ne _ _ _ _ (Ne.symm hd)]
    intro hl
    obtain ⟨g, a1, a2, l, a3, a4, a5⟩ := h.p1 hl
    exact ⟨g, a1, a2, l, a3, a4.alloc _, a5⟩
  ne := by
    rw [lSet_ne _ _ _ hi.1, put_getD_ne _ _ _ _ (Ne.symm hd), put_getD_self _ _ _ hdl]
    intro hl _ heq
    obtain ⟨g, a1, a2, l, a3, a4, a5⟩ := h.p1 hl
    rw [a1] at heq
    have := a4.lt
    injection heq with e
    injection e with e
    injection e with e
    omega
theorem TwoJ.st1 (h : TwoJ T d1 d2 i1 i2 s1 s2 n wr e1 e2 L a w) (l1 : L i1 = true) (l2 : L i2 = true) {g : Nat} (hg : a.tmps.getD d1 undef = .pointer (some ⟨g, 0, none⟩)) {w' : World} (hf : Fr [g] w w') (hb : Blk w' g T e1) (hn : e1.length = n) (hi : i1 ≠ s1 ∧ i2 ≠ s1 ∧ s2 ≠ s1) :
    TwoJ T d1 d2 i1 i2 s1 s2 n wr e1 e2 (lSet L s1) (a.put none undef) w' := by
  obtain ⟨g1, a1, a2, _⟩ := h.p1 l1
  obtain ⟨g2, b1, b2, l, b3, b4, b5⟩ := h.p2 l2
  obtain rfl : g1 = g := by
    rw [a1] at hg
    injection hg with e
    injection e with e
    injection e
  have hne : g2 ≠ g1 := fun e => h.ne l1 l2 (by rw [a1, b1, e])
  exact {
    fr := h.fr.trans hf (fun x hx => .inr (by simp at hx; omega))
    p1 := fun _ => ⟨g1, a1, a2, e1, hn, hb, fun _ => rfl⟩
    p2 := by
      rw [lSet_ne _ _ _ hi.2.1, lSet_ne _ _ _ hi.2.2]
      exact fun _ => ⟨g2, b1, b2, l, b3, b4.fr hf (by simpa using hne), b5⟩
    ne := fun _ _ => h.ne l1 l2 }
theorem TwoJ.st2 (h : TwoJ T d1 d2 i1 i2 s1 s2 n wr e1 e2 L a w) (l1 : L i1 = true) (l2 : L i2 = true) {g : Nat} (hg : a.tmps.getD d2 undef = .pointer (some ⟨g, 0, none⟩)) {w' : World} (hf : Fr [g] w w') (hb : Blk w' g T e2) (hn : e2.length = n) (hi : i1 ≠ s2 ∧ i2 ≠ s2 ∧ s1 ≠ s2) :
    TwoJ T d1 d2 i1 i2 s1 s2 n wr e1 e2 (lSet L s2) (a.put none undef) w' := by
  obtain ⟨g1, a1, a2, _⟩ := h.p2 l2
  obtain ⟨g2, b1, b2, l, b3, b4, b5⟩ := h.p1 l1
  obtain rfl : g1 = g := by
    rw [a1] at hg
    injection hg with e
    injection e with e
    injection e
  have hne : g2 ≠ g1 := fun e => h.ne l1 l2 (by rw [a1, b1, e])
  exact {
    fr := h.fr.trans hf (fun x hx => .inr (by simp at hx; omega))
    p2 := fun _ => ⟨g1, a1, a2, e2, hn, hb, fun _ => rfl⟩
    p1 := by
      rw [lSet_ne _ _ _ hi.1, lSet_ne _ _ _ hi.2.2]
      exact fun _ => ⟨g2, b1, b2, l, b3, b4.fr hf (by simpa using hne), b5⟩
    ne := fun _ _ => h.ne l1 l2 }
end
theorem ow_alloc {o : Oper} {a : Act} {w : World} {K : Act → World → Prop} {Q : Exit → Act → World → Prop} (ty : TypeId) (ho : o.op = .alloc ty) (i : TypeInfo) (z : Value) (hi : Tryd.prog.info? ty = some i) (hz : i.zero = some z)
    (h : K (a.put o.dst (.pointer (some ⟨w.heap.size, 0, none⟩))) (w.alloc (.cells z.cells ty))) : Oper.wp Tryd.prog o a w K Q := by
  have ht : (typeInfo ty).run Tryd.prog w = .ok i w := by simp [typeInfo, hi]
  refine lw _ ?_ h
  unfold execOp
  simp [ho, Instr.alloc, zeroValue, newVar, go_sem, ht, hz]
end Go.Proofs.YtokpomdfgbbhlaaDoor

/- FnWalk: a file is gone through entry by entry, each read by pieces from its beginning, and behind the last one is the end (part 9 of 15). No condition but the statement's own. -/
import Derived.Deep.RegionLaw
import Derived.Laws.BytesArg
import Derived.BigQuiet
import Derived.Deep.QuietTactic
import Derived.Test.YtokpomdfgbbhlaaDoorWkh
set_option linter.all false
set_option linter.unusedVariables false
set_option linter.unusedSimpArgs false
set_option linter.unnecessarySimpa false
/- The contract of Walk over a sound file: the entries behind the first one, each read by pieces; behind the last one the end. -/
namespace Go.Proofs.YtokpomdfgbbhlaaDoor
open Go Go.RowKit Go.Maps

/-- What a walk asks of the file's streams. -/
def StrsOK (F : Nat → UInt8) (n ss m mn mm : Nat) (mf ms cs : Nat → Nat) (P : Nat → EntP) (t : Tr) (len : Nat → Nat) (dat : Nat → Nat → UInt8) : Prop :=
  ∀ k, k < t.order.length → (P (t.order.getD k 0)).size = ((len k : Nat) : Int) ∧ len k ≤ 100000 ∧
    (len k = 0 ∨ ∃ (mini : Bool) (q K : Nat) (ch off : Nat → Nat), StrOK F n ss mn mm mf ms mini q K (len k) ch off (dat k) ∧ fld (entB F ss cs (t.order.getD k 0)) 116 4 = ch 0)

/-- A reader that was opened, as streams' reading sees it. -/
theorem RdOK.rdS {w : World} {base rb sb : Nat} {F : Nat → UInt8} {ss m : Nat} {cs : Nat → Nat} {P : Nat → EntP} {t : Tr} {mn mm : Nat} {mf ms : Nat → Nat} {hb fb gb dg dcap ub ul uc : Nat} {fk dk : Nat → Nat} {pv : Nat → Value} {mfv msv : Value}
    (h : RdOK w base rb sb F ss m cs P t mn mm mf ms hb fb gb dg dcap ub ul uc fk dk pv mfv msv) {n bb cap : Nat} (hS : Src w sb bb n cap F) (hF : FileOK F n ss m cs P t mn mm mf ms) (hn : n ≤ 131072) :
    ∃ R : RB, R.rb = rb ∧ R.sb = sb ∧ R.bb = bb ∧ R.n = n ∧ R.ss = ss ∧ R.mn = mn ∧ R.mm = mm ∧ R.mf = mf ∧ R.ms = ms ∧ RdS w R F ∧ ∀ x ∈ R.bl, x < w.heap.size ∧ (x = rb ∨ x = sb ∨ x = bb ∨ (x = hb ∨ x = fb) ∨ ∃ v, w.cell? ⟨x, 0, none⟩ = some (.int .u32 v)) := by
  have hss : ss = 512 ∨ ss = 4096 := by rcases hF.hdr.shift with e | e <;> simp [e.2]
  have l1 := h.rd.lt
  have l2 := h.hd.lt
  have l3 := h.fd.lt
  have l4 := World.block_lt_of_cell? _ _ hS.sc
  have l5 := World.block_lt_of_cell? _ _ (hS.bytes 0 (by have := hF.n0; omega))
  dsimp only at l4 l5
  have hdif : ∀ i, i < 109 → w.cell? ⟨fb, 45 + i, none⟩ = some (.int .u32 (fld F (76 + 4 * i) 4 : Nat)) := fun i hi => (h.fd.cell _).trans (hdrN_tab F 109 i (Nat.le_refl _) hi)
  have hmnL : mn = 0 ∨ (1 ≤ mn ∧ mn ≤ 65535 ∧ 1 ≤ mm ∧ mm ≤ 65535) := by
    rcases hF.mini with ⟨h0, _⟩ | ⟨h1, _, _, h2, h3, h4, _⟩
    · exact .inl h0
    · refine .inr ⟨h1, ?_, h2, by omega⟩
      have h5 : 128 ≤ ss / 4 := by rcases hss with e | e <;> omega
      have h6 := Nat.mul_le_mul_right mn h5
      omega
  rcases h.mini with h0 | ⟨fb', sb', k, e1, e2, b1, b2, hk, hc1, hc2⟩
  · refine ⟨⟨rb, hb, fb, rb, rb, sb, bb, n, cap, ss, mn, mm, 0, mf, ms⟩, rfl, rfl, rfl, rfl, rfl, rfl, rfl, rfl, rfl, ⟨hS, h.rd.cell 1, h.rd.cell 3, h.rd.cell 7, hss, h.hd.cell 1, hdif, by show n ≤ 1000000; omega, .inl h0⟩, ?_⟩
    intro x hx
    simp only [RB.bl, List.mem_cons, List.not_mem_nil, or_false] at hx
    rcases hx with rfl | rfl | rfl | rfl | rfl | rfl | rfl <;> simp [*]
  · rcases hmnL with h0 | ⟨m1, m2, m3, m4⟩
    · refine ⟨⟨rb, hb, fb, rb, rb, sb, bb, n, cap, ss, mn, mm, 0, mf, ms⟩, rfl, rfl, rfl, rfl, rfl, rfl, rfl, rfl, rfl, ⟨hS, h.rd.cell 1, h.rd.cell 3, h.rd.cell 7, hss, h.hd.cell 1, hdif, by show n ≤ 1000000; omega, .inl h0⟩, ?_⟩
      intro x hx
      simp only [RB.bl, List.mem_cons, List.not_mem_nil, or_false] at hx
      rcases hx with rfl | rfl | rfl | rfl | rfl | rfl | rfl <;> simp [*]
    · have l6 := World.block_lt_of_cell? _ _ (hc1 0 m1)
      have l7 := World.block_lt_of_cell? _ _ (hc2 0 m3)
      dsimp only at l6 l7
      refine ⟨⟨rb, hb, fb, fb', sb', sb, bb, n, cap, ss, mn, mm, k, mf, ms⟩, rfl, rfl, rfl, rfl, rfl, rfl, rfl, rfl, rfl, ⟨hS, h.rd.cell 1, h.rd.cell 3, h.rd.cell 7, hss, h.hd.cell 1, hdif, by show n ≤ 1000000; omega,
        .inr ⟨by rw [← e1]; exact h.hd.cell 2, by rw [← e2]; exact h.hd.cell 3, hk, m2, m4, hc1, hc2⟩⟩, ?_⟩
      intro x hx
      simp only [RB.bl, List.mem_cons, List.not_mem_nil, or_false] at hx
      have c1 := hc1 0 m1
      have c2 := hc2 0 m3
      rcases hx with rfl | rfl | rfl | rfl | rfl | rfl | rfl
      · exact ⟨l1, .inl rfl⟩
      · exact ⟨l2, .inr (.inr (.inr (.inl (.inl rfl))))⟩
      · exact ⟨l3, .inr (.inr (.inr (.inl (.inr rfl))))⟩
      · exact ⟨l6, .inr (.inr (.inr (.inr ⟨_, c1⟩)))⟩
      · exact ⟨l7, .inr (.inr (.inr (.inr ⟨_, c2⟩)))⟩
      · exact ⟨l4, .inr (.inl rfl)⟩
      · exact ⟨l5, .inr (.inr (.inl rfl))⟩
/-- What lies in memory stays where a Reader's place alone turns. -/
theorem keep6 {w w' : World} {rb ss sb : Nat} {buf hdr file dir wa : Value} {k k' : Int} (hb : Blk w rb 91 (rdCells ss buf hdr file dir k sb wa)) (hb' : Blk w' rb 91 (rdCells ss buf hdr file dir k' sb wa)) (f : Fr [rb] w w') {b i : Nat} {v : Value}
    (h : w.cell? ⟨b, i, none⟩ = some v) (hv : ∀ z, v ≠ .int .i64 z) : w'.cell? ⟨b, i, none⟩ = some v := by
  by_cases hbr : b = rb
  · subst hbr
    rw [hb.cell] at h
    rw [hb'.cell]
    rcases i with _ | _ | _ | _ | _ | _ | _ | i
    · exact h
    · exact h
    · exact h
    · exact h
    · exact h
    · exact h
    · exact absurd (Option.some.inj h).symm (hv k)
    · exact h
  · exact f.cell (by simpa using hbr) h

theorem RdS.step6 {w w' : World} {R : RB} {F : Nat → UInt8} {ss sb : Nat} {buf hdr file dir wa : Value} {k k' : Int} (h : RdS w R F) (hb : Blk w R.rb 91 (rdCells ss buf hdr file dir k sb wa)) (hb' : Blk w' R.rb 91 (rdCells ss buf hdr file dir k' sb wa)) (f : Fr [R.rb] w w') : RdS w' R F := by
  have kp : ∀ {b i : Nat} {v : Value}, w.cell? ⟨b, i, none⟩ = some v → (∀ z, v ≠ .int .i64 z) → w'.cell? ⟨b, i, none⟩ = some v := fun h hv => keep6 hb hb' f h hv
  refine ⟨⟨kp h.src.sc (fun z e => by cases e), fun i hi => kp (h.src.bytes i hi) (fun z e => by cases e), h.src.ncap, h.src.capm⟩, kp h.c1 (fun z e => by cases e), kp h.c3 (fun z e => by cases e), kp h.c7 (fun z e => by cases e), h.ss_, kp h.d1 (fun z e => by cases e), fun i hi => kp (h.dif i hi) (fun z e => by cases e), h.n1, ?_⟩
  rcases h.mini with h0 | ⟨a, b, c, d, e, g, i⟩
  · exact .inl h0
  · exact .inr ⟨kp a (fun z e => by cases e), kp b (fun z e => by cases e), c, d, e, fun j hj => kp (g j hj) (fun z e => by cases e), fun j hj => kp (i j hj) (fun z e => by cases e)⟩

theorem tell_one (a : Option Addr) (n c k m : Nat) : ∀ u ∈ [Value.slice a n c, I64 k, I64 m], u.oneCell' = true := by
  intro u hu
  simp only [List.mem_cons, List.not_mem_nil, or_false] at hu
  rcases hu with rfl | rfl | rfl <;> rfl

theorem tell_last {w5 w7 w8 : World} {rvv : Value} {base wb x : Nat} {rows l : List Value} (hf7 : Fr [] w5 w7) (hg : Fr rvv.ownBlock.toList w7 w8) (hown : w5.ownsRow base 55 3 rvv x rows) (hB : Blk w5 wb 53 l) :
    Blk w8 wb 53 l ∧ Fr rvv.ownBlock.toList w5 w8 :=
  ⟨(hB.fr0 hf7).fr hg (own_ne (own_fr0 hown hf7) (hB.fr0 hf7) (by decide)), (hf7.mono (by simp)).trans hg (fun _ hx => .inl hx)⟩

theorem own_has {w : World} {base e size n x : Nat} {v : Value} {xs : List Value} (h : w.ownsRow base e size v n xs) (hx : v.ownBlock = some x) : ∃ l, Blk w x e l := by
  obtain ⟨_, ⟨rfl, _⟩ | ⟨g, cap, cur, rfl, _, hg, _⟩⟩ := h
  · cases hx
  · injection hx with hx
    subst hx
    exact ⟨cur.toList, hg⟩

/-- A row stays where a Walked turns. -/
theorem own_set53 {w : World} {base e size n wb i : Nat} {v u : Value} {xs l : List Value} (h : w.ownsRow base e size v n xs) (hB : Blk w wb 53 l) (he : e ≠ 53) : (w.setCell ⟨wb, i, none⟩ u).ownsRow base e size v n xs := by
  refine own_fr h ((Fr.refl [wb] w).setCell (.inl (by simp)) u) (fun k hk hm => ?_)
  simp at hm
  subst hm
  exact own_ne h hB (fun e => he e.symm) (by rw [hk]; simp)

theorem sumN_le_mul (f : Nat → Nat) (n b : Nat) (h : ∀ i, i < n → f i ≤ b) : sumN f n ≤ n * b := by
  induction n with
  | zero => simp [sumN]
  | succ n ih =>
    have h1 := ih (fun i hi => h i (by omega))
    have h2 := h n (by omega)
    rw [sumN, Nat.succ_mul]
    omega

set_option maxRecDepth 100000 in
set_option maxHeartbeats 4000000 in
theorem walk_any (ab ao n ncap ss m mn mm : Nat) (F : Nat → UInt8) (cs mf ms : Nat → Nat) (P : Nat → EntP) (t : Tr) (w : World) (hB : ∀ i, i < n → w.cell? ⟨ab, ao + i, none⟩ = some (U8 (F i)))
    (hF : FileOK F n ss m cs P t mn mm mf ms) (hn : n ≤ 131072)
    (hp : ∀ i, 65 ≤ i → i ≤ 90 → w.cell? ⟨2, i, none⟩ = some (.int .u8 160)) (h2w : 2 < w.heap.size)
    (ub nu ucap eb eo : Nat) (ua : Option Addr) (us : Nat → Nat) (s : ByteArray) (hua : 0 < nu → ua = some ⟨ub, 0, none⟩) (hus : ∀ j, j < nu → w.cell? ⟨ub, j, none⟩ = some (I64 (us j))) (hnu : nu ≤ 12) (hub : ∀ j, j < nu → 1 ≤ us j ∧ us j ≤ 80) (huc : nu ≤ ucap ∧ ucap ≤ 9223372036854775807)
    (hev : w.cell? ⟨0, 0, none⟩ = some (.iface 187 (.pointer (some ⟨eb, eo, none⟩)))) (len : Nat → Nat) (dat : Nat → Nat → UInt8) (hst : StrsOK F n ss m mn mm mf ms cs P t len dat) :
    Calls Tryd.prog 15 #[.slice (some ⟨ab, ao, none⟩) n ncap, .slice ua nu ucap] w fun e w' => Fr [] w w' ∧ ∃ v, e = .returned (.tuple #[v, .int .i64 6]) ∧
      WalkIs w' w.heap.size v (t.order.length - 1) (fun k => (P (t.order.getD (k + 1) 0)).name) (fun k => len (k + 1)) (fun k => dat (k + 1)) us nu := by
  have HUS := Lib.hid hus
  have HUA := Lib.hid hua
  have HUB := Lib.hid hub
  have HEV := Lib.hid hev
  have HST := Lib.hid hst
  have hop := Lib.hid (fun (w1 : World) (f : Fr [] w w1) => opened_ok ab ao n ncap ss m mn mm F cs mf ms P t w1 (fun i hi => f.cell0 (hB i hi)) hF hn (fun i a b => f.cell0 (hp i a b)) (by have := f.size; omega))
  clear hus hua hub hev hst hB hp
  go_enter Tryd.func15, Tryd.ntmps15
  go_wp2_with fail
  go_loopw [6, 8, 23] (fun s6 s8 s23 wr => ∃ j : Nat, j ≤ nu ∧ s6 = .int .i64 (sumN us j : Nat) ∧ s23 = .int .i64 j ∧ Fr [] w wr) (fun _ _ s23 _ => nu - (intOf s23).toNat)
  case atStart => exact ⟨0, by omega, rfl, rfl, Fr.refl _ _⟩
  case round =>
    obtain ⟨j, hj, rfl, rfl, hf0⟩ := hrel
    have hsum := sumN_le_mul us j 80 (fun i hi => (HUB.out i (by omega)).2)
    by_cases hjn : j < nu
    · have hjI : (j : Int) < (nu : Int) := by omega
      obtain rfl := HUA.out (by omega)
      have hu := hf0.cell0 (HUS.out j hjn)
      obtain ⟨hu1, hu2⟩ := HUB.out j hjn
      have hss : sumN us (j + 1) = sumN us j + us j := rfl
      have HS := Lib.hid hss
      clear hss
      go_wp2_with fail
      go_roundw
      case rel => exact ⟨j + 1, by omega, by rw [HS.out]; go_num, by go_num, hf0⟩
      case measure => simp [intOf]; omega
    obtain rfl : j = nu := by omega
    have hjI : ¬ (j : Int) < (j : Int) := by omega
    have h20 : decide ((20 : Int) < (j : Int)) = false := by simp; omega
    have hs24 : decide ((1024 : Int) < ((sumN us j : Nat) : Int)) = false := by simp; omega
    have hop2 := hop.out _ hf0
    have HOP := Lib.hid hop2
    clear hop2
    go_wp2_with fail
    refine HOP.out.mono ?_
    rintro e w1 ⟨base, sb, bb, cap, rb, hb, fb, gb, dg, dcap, ub', ul, uc, fk, dk, pv, mfv, msv, rfl, hf1, hbb, hsb, hbb2, hsb2, hbs, hS, hR⟩
    have hE : ∀ i, i < t.order.length → t.order.getD i 0 < m * (ss / 128) := by
      intro i hi
      refine hF.t1.lt _ ?_
      rw [List.getD_eq_getElem?_getD, List.getElem?_eq_getElem hi]
      simp
    have htl : 1 ≤ t.order.length := by
      rcases ht : t with _ | ⟨a, b, c, d⟩
      · exact absurd ht hF.t0
      · simp [Tr.order]; omega
    have htl2 : t.order.length ≤ 100000 := by
      have h1 := hF.t3
      have h2 := hF.m2
      have h3 : ss / 128 ≤ 32 := by rcases hF.hdr.shift with ⟨_, h⟩ | ⟨_, h⟩ <;> omega
      have h4 := Nat.mul_le_mul h2 h3
      omega
    obtain ⟨R, e1, e2, e3, e4, e5, e6, e7, e8, e9, hRS, hbl⟩ := hR.rdS hS hF hn
    have hfl : ∀ i, i < t.order.length → FAt w1 R F (fk (t.order.getD i 0)) (P (t.order.getD i 0)).name (P (t.order.getD i 0)).init (pv (t.order.getD i 0)) (dk (t.order.getD i 0)) (len i) (dat i) 0 := by
      intro i hi
      obtain ⟨g1, g2, g3⟩ := HST.out i hi
      have hfi := hR.file _ (hE i hi)
      rw [g1] at hfi
      refine ⟨_, 0, by rw [e1]; exact hfi, ?_⟩
      rcases g3 with g3 | ⟨mini, q, K, ch, off, g4, g5⟩
      · exact .inl g3
      · exact .inr ⟨mini, q, K, ch, off, 0, by rw [StrR, e4, e5, e6, e7, e8, e9]; exact g4, g5, by omega, by
          rcases g4.kind with ⟨_, g, _⟩ | ⟨_, g, _⟩
          · omega
          · have := hRS.ss_; omega⟩
    have hfb : ∀ i, i < t.order.length → fk (t.order.getD i 0) ∉ R.bl ∧ fk (t.order.getD i 0) < w1.heap.size ∧ fk (t.order.getD i 0) ≠ rb ∧ fk (t.order.getD i 0) ≠ gb ∧ fk (t.order.getD i 0) ≠ 0 ∧ w.heap.size ≤ fk (t.order.getD i 0) := by
      intro i hi
      have hfi := hR.file _ (hE i hi)
      have hc0 : w1.cell? ⟨fk (t.order.getD i 0), 0, none⟩ = some (.string (P (t.order.getD i 0)).name) := hfi.cell 0
      have hb0 := hR.fileb _ (hE i hi)
      refine ⟨fun hm => ?_, hfi.lt, Blk.ne hfi hR.rd (by decide), fun h => ?_, by omega, by have := hf0.size; omega⟩
      · rcases (hbl _ hm).2 with h | h | h | h | ⟨v, h⟩
        · exact Blk.ne hfi hR.rd (by decide) h
        · rw [h, hS.sc] at hc0; cases hc0
        · rw [h, hS.bytes 0 (by have := hF.n0; omega)] at hc0; cases hc0
        · rcases h with h | h
          · exact Blk.ne hfi hR.hd (by decide) h
          · exact Blk.ne hfi hR.fd (by decide) h
        · rw [h] at hc0; cases hc0
      · rw [h] at hc0
        have := hR.files 0 (by omega)
        rw [this] at hc0; cases hc0
    have hgr : gb ≠ rb := by
      intro h
      have h1 := hR.files 0 (by omega)
      rw [h] at h1
      have h2 : w1.cell? ⟨rb, 0, none⟩ = some (.bool false) := hR.rd.cell 0
      rw [h2] at h1; cases h1
    have hgl : gb < w1.heap.size := World.block_lt_of_cell? _ _ (hR.files 0 (by omega))
    have hgs := hR.files
    have hrd := hR.rd
    have hf01 := hf0.trans0 hf1
    have hw1 := hf01.size
    have hinj : ∀ i j, i < j → j < t.order.length → fk (t.order.getD i 0) ≠ fk (t.order.getD j 0) := by
      intro i j hij hj he
      have hne : t.order.getD i 0 ≠ t.order.getD j 0 := by
        intro h
        rw [List.getD_eq_getElem?_getD, List.getD_eq_getElem?_getD, List.getElem?_eq_getElem hj, List.getElem?_eq_getElem (by omega)] at h
        exact (List.pairwise_iff_getElem.1 hF.t2) i j (by omega) hj hij (by simpa using h)
      rcases Nat.lt_or_ge (t.order.getD i 0) (t.order.getD j 0) with h | h
      · have := hR.filei _ _ h (hE j hj); omega
      · have := hR.filei (t.order.getD j 0) (t.order.getD i 0) (by omega) (hE i (by omega)); omega
    have hrb0 : rb ≠ 0 := by have := hR.rb_; omega
    have hrbw : w.heap.size ≤ rb := by have := hR.rb_; have := hf0.size; omega
    have hl100 : ∀ i, i < t.order.length → len i ≤ 100000 := fun i hi => (HST.out i hi).2.1
    clear hR hE hS hop HST HOP hF
    subst e1 e2
    have HFL := Lib.hid hfl
    have HFB := Lib.hid hfb
    have HGS := Lib.hid hgs
    have HINJ := Lib.hid hinj
    have HRD := Lib.hid hrd
    have HRS := Lib.hid hRS
    have HBL := Lib.hid hbl
    have HF01 := Lib.hid hf01
    have HL1 := Lib.hid hl100
    clear hfl hfb hgs hinj hrd hRS hbl hf01 hl100 hf0 hf1 hsum
    have hjz : decide ((0 : Int) < 0) = false := rfl
    go_wp2_with fail
    go_loopw [12] (fun s12 wr => ∃ (k : Nat) (rv : Nat → Value), k + 1 ≤ t.order.length ∧ Fr [] w wr ∧ w1.heap.size ≤ wr.heap.size ∧ Blk wr R.rb 91 (rdCells ss (.slice (some ⟨ub', 0, none⟩) ul uc) (.pointer (some ⟨hb, 0, none⟩)) (.slice (some ⟨gb, 0, none⟩) t.order.length (m * (ss / 128))) (.slice (some ⟨dg, 0, none⟩) (m * (ss / 128)) dcap) (k : Nat) R.sb .nilIface) ∧
      RdS wr R F ∧ (∀ i, i < t.order.length → wr.cell? ⟨gb, i, none⟩ = some (.pointer (some ⟨fk (t.order.getD i 0), 0, none⟩))) ∧
      (∀ i, k < i → i < t.order.length → FAt wr R F (fk (t.order.getD i 0)) (P (t.order.getD i 0)).name (P (t.order.getD i 0)).init (pv (t.order.getD i 0)) (dk (t.order.getD i 0)) (len i) (dat i) 0) ∧
      (∀ i, i < t.order.length → ∃ l, Blk wr (fk (t.order.getD i 0)) 95 l) ∧
      wr.ownsRow w1.heap.size 53 2 s12 k (walkRow (fun i => (P (t.order.getD (i + 1) 0)).name) rv k) ∧ ∀ i, i < k → ReadsIs wr w1.heap.size (rv i) us (len (i + 1)) (dat (i + 1)) j) (fun _ wr => t.order.length - (intOf ((wr.cell? ⟨R.rb, 6, none⟩).getD undef)).toNat)
    case atStart =>
      refine ⟨0, fun _ => .nilIface, by omega, HF01.out, Nat.le_refl _, HRD.out, HRS.out, HGS.out, fun i _ hi => HFL.out i hi, fun i hi => ?_, World.ownsRow_nil _ _ _ _, fun i hi => absurd hi (Nat.not_lt_zero _)⟩
      obtain ⟨c, r, h, _⟩ := HFL.out i hi
      exact ⟨_, h⟩
    case round =>
      obtain ⟨k, rv, hk, hf, hws, hrb, hRr, hgs, hfa, hfbk, hown, hrds⟩ := hrel
      by_cases hkt : k + 1 < t.order.length
      case neg =>
        have hevr := hf.cell0 HEV.out
        have hnx := next_end R.rb gb t.order.length (m * (ss / 128)) k ss (.slice (some ⟨ub', 0, none⟩) ul uc) (.pointer (some ⟨hb, 0, none⟩)) (.slice (some ⟨dg, 0, none⟩) (m * (ss / 128)) dcap) .nilIface _ R.sb wr hrb (by omega) (by omega) hevr hrb0
        have HNX := Lib.hid hnx
        have hrl := Blk.lt hrb
        have hk1 : k = t.order.length - 1 := by omega
        have hnr : R.rb ∉ u12.ownBlock.toList := own_ne hown hrb (by decide)
        have HH := Lib.hid (And.intro hf (And.intro hown (And.intro hrds hrb)))
        clear hnx hf hown hrds hrb hRr hgs hfa hfbk
        go_wp2_with fail
        refine HNX.out.mono ?_
        rintro e w2 ⟨rfl, hf2⟩
        have HF2 := Lib.hid hf2
        clear hf2
        go_wp2_with fail
        refine (code_eof _ _).mono ?_
        rintro e w3 ⟨rfl, hf3⟩
        have HF3 := Lib.hid hf3
        clear hf3
        go_wp2_with fail
        go_ret2
        obtain ⟨a1, a2, a3, a4⟩ := HH.out
        have hfr := HF2.out.trans0 HF3.out
        refine ⟨a1.trans hfr (by simp; omega), u12, rfl, rv, ?_, ?_⟩
        · rw [← hk1]
          exact own_mono (own_fr a2 hfr (fun x hx hm => hnr (by simp at hm; rw [hx]; simp [hm]))) hw1
        · intro i hi
          refine ((a3 i (by omega)).fr hfr (fun x hx => ?_)).mono hw1
          simp at hx
          subst hx
          exact .inr (.inr ⟨_, _, a4, by decide, by decide⟩)
      have hgk := hgs (k + 1) hkt
      obtain ⟨b1, b2, b3, b4, b5, b6⟩ := HFB.out (k + 1) hkt
      have hfk := hfa (k + 1) (by omega) hkt
      have hlk := HL1.out (k + 1) hkt
      generalize he0 : t.order.getD (k + 1) 0 = e0 at *
      have hnx := next_any R.rb gb t.order.length (m * (ss / 128)) k ss (fk e0) (.slice (some ⟨ub', 0, none⟩) ul uc) (.pointer (some ⟨hb, 0, none⟩)) (.slice (some ⟨dg, 0, none⟩) (m * (ss / 128)) dcap) .nilIface R.sb wr hrb hkt (by omega) hgk hgr
      have HNX := Lib.hid hnx
      have hrl := Blk.lt hrb
      have hnr : R.rb ∉ u12.ownBlock.toList := own_ne hown hrb (by decide)
      have HH := Lib.hid (And.intro hf (And.intro hown (And.intro hrds (And.intro hRr (And.intro hgs (And.intro hfa hfbk))))))
      have HFK := Lib.hid hfk
      have HRB := Lib.hid hrb
      have HE0 := Lib.hid he0
      clear hnx hf hown hrds hRr hgs hfa hfbk hgk hfk he0 hrb
      go_wp2_with fail
      refine HNX.out.mono ?_
      rintro e w2 ⟨rfl, hf2, hrb2⟩
      obtain ⟨a1, a2, a3, a4, a5, a6, a7⟩ := HH.out
      have hR2 := a4.step6 HRB.out hrb2 hf2
      have HR2 := Lib.hid hR2
      clear hR2
      have hfk2 := HFK.out.fr hf2 (by simpa using b3)
      obtain ⟨cc, rr, hF2, hA2⟩ := hfk2
      have f0 : w2.cell? ⟨fk e0, 0, none⟩ = some (.string (P e0).name) := hF2.cell 0
      have HF2 := Lib.hid hf2
      have HRB2 := Lib.hid hrb2
      have HA2 := Lib.hid hA2
      have HFF2 := Lib.hid hF2
      have hs2 := hf2.size
      clear a1 a2 a3 a4 a5 a6 a7 hf2 hrb2 hA2 hF2
      go_wp2_with fail
      have hf3 : Fr [] w2 (w2.alloc (Obj.cells #[.string (P e0).name, .slice none 0 0] 53)) := (Fr.refl _ _).alloc _
      have hwb : Blk (w2.alloc (Obj.cells #[.string (P e0).name, .slice none 0 0] 53)) w2.heap.size 53 [.string (P e0).name, .slice none 0 0] := Blk.new' _ _ _
      have hs3 : w2.heap.size < (w2.alloc (Obj.cells #[.string (P e0).name, .slice none 0 0] 53)).heap.size := by simp
      clear f0
      generalize w2.alloc (Obj.cells #[.string (P e0).name, .slice none 0 0] 53) = w3 at *
      generalize hwbn : w2.heap.size = wb at *
      have HF3 := Lib.hid hf3
      have HWB := Lib.hid hwb
      have HWBN := Lib.hid hwbn
      have hfw3 : Fr [] w w3 := (HH.out.1.trans (ms := []) HF2.out (by simp; omega)).trans0 hf3
      have HFW3 := Lib.hid hfw3
      have hwbw : w.heap.size ≤ wb := by have := HWBN.out; have := HH.out.1.size; omega
      have hwb1 : w1.heap.size ≤ wb := by have := HWBN.out; omega
      have hwbR : wb ∉ R.bl := fun h => by have := (HBL.out wb h).1; omega
      have hgwb : gb ≠ wb := by omega
      have hrbwb : R.rb ≠ wb := by have := HWBN.out; omega
      have hfwb : fk e0 ≠ wb := by omega
      clear hf3 hwb hwbn hfw3
      go_loopw [70] (fun s70 wq => ∃ (x : Nat) (dv : Nat → Value) (rv1 : Value), x ≤ j ∧ s70 = .int .i64 x ∧ Fr [fk e0, wb] w3 wq ∧ FAt wq R F (fk e0) (P e0).name (P e0).init (pv e0) (dk e0) (len (k + 1)) (dat (k + 1)) (rdTo us (len (k + 1)) x) ∧
        Blk wq wb 53 [.string (P e0).name, rv1] ∧ wq.ownsRow w3.heap.size 55 3 rv1 x (tellRow dv us (len (k + 1)) x) ∧
        ∀ y, y < x → wq.ownsRow w3.heap.size 5 1 (dv y) (cntAt (len (k + 1)) (rdTo us (len (k + 1)) y) (us y)) (tab (cntAt (len (k + 1)) (rdTo us (len (k + 1)) y) (us y)) (fun z => U8 (dat (k + 1) (rdTo us (len (k + 1)) y + z))))) (fun s70 _ => j - (intOf s70).toNat)
      case atStart =>
        refine ⟨0, fun _ => .nilIface, .slice none 0 0, by omega, rfl, Fr.refl _ _, ?_, HWB.out, World.ownsRow_nil _ _ _ _, fun y hy => absurd hy (Nat.not_lt_zero _)⟩
        rw [rdTo_zero]
        exact ⟨cc, rr, Blk.fr0 HFF2.out HF3.out, HA2.out⟩
      case round =>
        obtain ⟨x, dv, rv1, hx, rfl, hfq, hAq, hwq, hown1, hdv⟩ := hrel
        by_cases hxj : x < j
        case neg =>
          obtain rfl : x = j := by omega
          have hxI : ¬ (x : Int) < (x : Int) := by omega
          obtain ⟨ra, rc, rfl⟩ := own_slice hown1
          obtain ⟨i53, z53, hi53, hz530, hz531, hz532, hz533⟩ := info_parts3 info53
          obtain ⟨a1, a2, a3, a4, a5, a6, a7⟩ := HH.out
          obtain ⟨lk, hlkb⟩ := a7 (k + 1) hkt
          rw [HE0.out] at hlkb
          have hnk : fk e0 ∉ u12.ownBlock.toList := own_ne a2 hlkb (by decide)
          have hlt12 : ∀ y, y ∈ u12.ownBlock.toList → w1.heap.size ≤ y ∧ y < wb := fun y hy => by
            have h1 := a2.lt y (by simpa using hy)
            exact ⟨h1.1, by omega⟩
          have hnw : wb ∉ u12.ownBlock.toList := fun h => by have := (hlt12 _ h).2; omega
          have hq0 : Fr [R.rb, fk e0] _ wr := ((HF2.out.mono (ms' := [R.rb, fk e0]) (by simp)).trans0 HF3.out).trans (ms' := [fk e0, wb]) hfq (by intro y hy; simp at hy; rcases hy with rfl | rfl; exact .inl (by simp); exact .inr (by have := HWBN.out; omega))
          have ho1 : wr.ownsRow w1.heap.size 53 2 u12 k _ := own_fr a2 hq0 (fun y hy hm => by
            simp at hm
            rcases hm with rfl | rfl
            · exact hnr (by rw [hy]; simp)
            · exact hnk (by rw [hy]; simp))
          have ho2 := own_fr0 ho1 ((Fr.refl [] wr).alloc (Obj.cells #[.string (P e0).name, .slice ra x rc] 53))
          have hqs := hfq.size
          have hbs2 : w1.heap.size ≤ (wr.alloc (Obj.cells #[.string (P e0).name, .slice ra x rc] 53)).heap.size := by simp; omega
          have HX := Lib.hid (And.intro hq0 (And.intro hfq (And.intro hAq (And.intro hown1 (And.intro hdv ho1)))))
          have h63 : k + 1 ≤ maxLen := by unfold maxLen; omega
          clear a1 a2 a3 a4 a5 a6 a7 hq0 hfq hAq hown1 hdv ho1 hlkb
          go_wp2_with (first
            | (refine wpList_load_blk rfl 53 (.tmp 15) rfl wb 0 rfl 53 _ hwq _ Tryd.underlying53 rfl 2 (by kernel_rfl) (by simp) #[.string (P e0).name, .slice ra x rc] rfl ?_)
            | (refine wpList_build_one rfl 48 53 (.tmp 97) rfl #[.string (P e0).name, .slice ra x rc] rfl Tryd.underlying48 i53 z53 hi53 hz530 2 hz531 rfl (by decide) (by decide) ?_)
            | (at_builtin; refine wpList_append_own _ rfl (.tmp 96) (.tmp 98) 48 rfl w1.heap.size 53 i53 z53 2 40 Tryd.underlying48 hi53 hz530 hz531 hz532 hz533 (by decide) u12 k _ rfl ho2 ⟨wr.heap.size, 0, none⟩ 1 1 [.string (P e0).name, .slice ra x rc] rfl rfl (news2 _ _ _ rfl) ?c2 h63 ?c4 hbs2 ?c6))
          case c2 => exact ⟨rfl, rfl⟩
          case c4 => omega
          intro v9 w9 hown9 hg9 _
          obtain ⟨hq0, hfq, hAq, hown1, hdv, ho1⟩ := HX.out
          obtain ⟨a1, a2, a3, a4, a5, a6, a7⟩ := HH.out
          have hal : Fr [] wr (wr.alloc (Obj.cells #[.string (P e0).name, .slice ra x rc] 53)) := (Fr.refl _ _).alloc _
          have hT : Fr (R.rb :: fk e0 :: u12.ownBlock.toList) _ w9 := ((hq0.trans0 hal).mono (ms' := R.rb :: fk e0 :: u12.ownBlock.toList) (by intro y hy; simp at hy; rcases hy with rfl | rfl <;> simp)).trans_same ((Fr.of_grown hg9).mono (fun y hy => .inl (by simp [hy])))
          have hT3 : Fr (fk e0 :: wb :: u12.ownBlock.toList) w3 w9 := ((hfq.trans0 hal).mono (ms' := fk e0 :: wb :: u12.ownBlock.toList) (by intro y hy; simp at hy; rcases hy with rfl | rfl <;> simp)).trans_same ((Fr.of_grown hg9).mono (fun y hy => .inl (by simp [hy])))
          have hTw : Fr u12.ownBlock.toList wr w9 := (hal.mono (by simp)).trans (Fr.of_grown hg9) (fun y hy => .inl hy)
          have hrd9 := (HRB2.out.fr0 HF3.out).fr hT3 (by simp; exact ⟨fun h => b3 h.symm, hrbwb, fun h => hnr (by simpa using h)⟩)
          have hR9 := (HR2.out.fr0 HF3.out).fr hT3 (fun y hy => by
            simp
            exact ⟨fun h => b1 (h ▸ hy), fun h => hwbR (h ▸ hy), fun h => by have := (hlt12 y (by simpa using h)).1; have := (HBL.out y hy).1; omega⟩)
          have hfin : Fr [] w w9 := a1.trans (ms := []) hT (by intro y hy; simp at hy; rcases hy with rfl | rfl | hy; exact .inr hrbw; exact .inr b6; exact .inr (by have := (hlt12 y (by simpa using hy)).1; omega))
          have hs9 := hT.size
          have hgs9 : ∀ i, i < t.order.length → w9.cell? ⟨gb, i, none⟩ = some (.pointer (some ⟨fk (t.order.getD i 0), 0, none⟩)) := fun i hi => hT.cell (by
            simp
            exact ⟨hgr, fun h => b4 h.symm, fun h => by have := (hlt12 gb (by simpa using h)).1; omega⟩) (a5 i hi)
          have hnot : ∀ i, i < t.order.length → i ≠ k + 1 → fk (t.order.getD i 0) ∉ (R.rb :: fk e0 :: u12.ownBlock.toList) := by
            intro i hi hik
            obtain ⟨c1, c2, c3, c4, c5, c6⟩ := HFB.out i hi
            simp
            refine ⟨c3, fun h => ?_, fun h => by have := (hlt12 _ (by simpa using h)).1; have := c2; simp at *; omega⟩
            rw [← HE0.out] at h
            rcases Nat.lt_or_ge i (k + 1) with hlt | hge
            · exact HINJ.out i (k + 1) hlt hkt (by simpa using h)
            · exact HINJ.out (k + 1) i (by omega) hi (by simpa using h.symm)
          have hfa9 : ∀ i, k + 1 < i → i < t.order.length → FAt w9 R F (fk (t.order.getD i 0)) (P (t.order.getD i 0)).name (P (t.order.getD i 0)).init (pv (t.order.getD i 0)) (dk (t.order.getD i 0)) (len i) (dat i) 0 := fun i h1 h2 => (a6 i (by omega) h2).fr hT (hnot i h2 (by omega))
          have hfb9 : ∀ i, i < t.order.length → ∃ l, Blk w9 (fk (t.order.getD i 0)) 95 l := by
            intro i hi
            by_cases hik : i = k + 1
            · subst hik
              obtain ⟨c1, c2, c3, _⟩ := hAq
              rw [HE0.out]
              exact ⟨_, Blk.fr c3 hTw hnk⟩
            · obtain ⟨l, hl⟩ := a7 i hi
              exact ⟨l, hl.fr hT (hnot i hi hik)⟩
          have hrds9 : ∀ i, i < k → ReadsIs w9 w1.heap.size (rv i) us (len (i + 1)) (dat (i + 1)) x := by
            intro i hi
            refine (a3 i hi).fr hT (fun y hy => ?_)
            simp at hy
            rcases hy with rfl | rfl | hy
            · exact .inr (.inr ⟨_, _, HRB.out, by decide, by decide⟩)
            · obtain ⟨l, hl⟩ := a7 (k + 1) hkt
              rw [HE0.out] at hl
              exact .inr (.inr ⟨_, _, hl, by decide, by decide⟩)
            · obtain ⟨l, hl⟩ := own_has a2 (by simpa using hy)
              exact .inr (.inr ⟨_, _, hl, by decide, by decide⟩)
          have hnew : ReadsIs w9 w1.heap.size (.slice ra x rc) us (len (k + 1)) (dat (k + 1)) x := by
            have h1 : ReadsIs wr w3.heap.size (.slice ra x rc) us (len (k + 1)) (dat (k + 1)) x := ⟨dv, hown1, hdv⟩
            refine (h1.fr hTw (fun y hy => .inl ?_)).mono (by omega)
            have := (hlt12 y hy).2
            omega
          have hrow : w9.ownsRow w1.heap.size 53 2 v9 (k + 1) (walkRow (fun i => (P (t.order.getD (i + 1) 0)).name) (fun i => if i = k then .slice ra x rc else rv i) (k + 1)) := by
            rw [walkRow_succ, walkRow_congr (rv' := rv) _ k (fun i hi => if_neg (by omega)), if_pos rfl, HE0.out]
            exact hown9
          have HFIN := Lib.hid (And.intro hfin (And.intro hrd9 (And.intro hR9 (And.intro hgs9 (And.intro hfa9 (And.intro hfb9 (And.intro hrow (And.intro hrds9 hnew))))))))
          have hwk : w1.heap.size ≤ w9.heap.size := by omega
          have hm6 : intOf ((w9.cell? ⟨R.rb, 6, none⟩).getD undef) = ((k + 1 : Nat) : Int) := by rw [show w9.cell? ⟨R.rb, 6, none⟩ = some (.int .i64 ((k + 1 : Nat) : Int)) from hrd9.cell 6]; rfl
          have hm60 := HRB.out.cell 6
          have HM := Lib.hid (And.intro hm6 hm60)
          clear hfin hrd9 hR9 hgs9 hfa9 hfb9 hrow hrds9 hnew hm6 hm60 hnot hT hT3 hTw hal hq0 hfq hAq hown1 hdv ho1 a1 a2 a3 a4 a5 a6 a7 hown9 hg9
          go_wp2_with fail
          obtain ⟨f1, f2, f3, f4, f5, f6, f7, f8, f9⟩ := HFIN.out
          refine ⟨⟨k + 1, fun i => if i = k then .slice ra x rc else rv i, by omega, f1, hwk, f2, f3, f4, f5, f6, f7, fun i hi => ?_⟩, ?_⟩
          · dsimp only
            by_cases hik : i = k
            · subst hik
              rw [if_pos rfl]
              exact f9
            · rw [if_neg hik]
              exact f8 i (by omega)
          · have hm1 := HM.out.1
            have hm2 := HM.out.2
            rw [hm1, hm2]
            simp [rdCells, intOf]
            omega
        have hxI : (x : Int) < (j : Int) := by omega
        have hfwq : Fr [] w wr := HFW3.out.trans (ms := []) hfq (by simp; omega)
        obtain rfl := HUA.out (by omega)
        have hu := hfwq.cell0 (HUS.out x hxj)
        obtain ⟨hu1, hu2⟩ := HUB.out x hxj
        have hmk := make_buf (us x) (by omega)
        obtain ⟨cnt, hcnt⟩ : ∃ c, c = cntAt (len (k + 1)) (rdTo us (len (k + 1)) x) (us x) := ⟨_, rfl⟩
        have hcu : cnt ≤ us x := by rw [hcnt]; exact Nat.min_le_left _ _
        have hqs := hfq.size
        have hal : Fr [] wr (wr.alloc (.cells (tab (us x) (fun _ => .int .u8 0)).toArray 5)) := (Fr.refl _ _).alloc _
        have hpB : Blk (wr.alloc (.cells (tab (us x) (fun _ => .int .u8 0)).toArray 5)) wr.heap.size 5 (tab (us x) (fun _ => .int .u8 0)) := Blk.new wr 5 _
        have h3q : Fr [fk e0, wb] w3 (wr.alloc (.cells (tab (us x) (fun _ => .int .u8 0)).toArray 5)) := hfq.trans0 hal
        have hrd := rread_any gb t.order.length (m * (ss / 128)) (k + 1) ss (.slice (some ⟨ub', 0, none⟩) ul uc) (.pointer (some ⟨hb, 0, none⟩)) (.slice (some ⟨dg, 0, none⟩) (m * (ss / 128)) dcap) .nilIface R F (fk e0) wr.heap.size (us x) (rdTo us (len (k + 1)) x) (dk e0) (P e0).init (len (k + 1)) (P e0).name (pv e0) (.iface 187 (.pointer (some ⟨eb, eo, none⟩))) (dat (k + 1)) (tab (us x) (fun _ => .int .u8 0)) _
          ((HRB2.out.fr0 HF3.out).fr h3q (by simp; omega)) hkt (by omega) (h3q.cell (by simp; omega) (HF3.out.cell0 (HF2.out.cell (by simp; omega) (by have := HH.out.2.2.2.2.1 (k + 1) hkt; rw [HE0.out] at this; exact this))))
          ((HR2.out.fr0 HF3.out).fr h3q (fun x hx => by simp; exact ⟨fun h => b1 (h ▸ hx), fun h => hwbR (h ▸ hx)⟩)) (hAq.fr hal (by simp)) b1 (fun h => by have := (HBL.out _ h).1; omega) (fun x hx => by have := (HBL.out x hx).1; have := hal.size; omega) hu1 (rdTo_le _ _ _) hlk hpB (by simp) (by omega)
          (hal.cell0 (hfwq.cell0 HEV.out)) ⟨b5, by omega⟩ ⟨fun h => b4 h.symm, by omega⟩ ⟨fun h => b3 h.symm, by omega⟩
        rw [← hcnt] at hrd
        have HCN := Lib.hid hcnt
        have HRDQ := Lib.hid hrd
        have HQ := Lib.hid (And.intro hfwq (And.intro h3q (And.intro hwq (And.intro hown1 hdv))))
        have HAL := Lib.hid hal
        clear hrd hcnt hfwq h3q hwq hown1 hdv hal hpB hAq hfq
        go_wp2_with fail
        refine HRDQ.out.mono ?_
        rintro e w5 ⟨ex, rfl, hex, hf5, hA5, l5, hl5, hl5n, hl5b⟩
        obtain ⟨ra, rc, rfl⟩ := own_slice HQ.out.2.2.2.1
        have hBw : Blk w5 wb 53 [.string (P e0).name, .slice ra x rc] := (HQ.out.2.2.1.fr0 HAL.out).fr hf5 (by simp; omega)
        have hown5 : w5.ownsRow w3.heap.size 55 3 (.slice ra x rc) x (tellRow dv us (len (k + 1)) x) := by
          refine own_fr (own_fr0 HQ.out.2.2.2.1 HAL.out) hf5 (fun y hy hm => ?_)
          have h1 := HQ.out.2.2.2.1.lt y hy
          simp at hm
          omega
        have hdv5 : ∀ y, y < x → w5.ownsRow w3.heap.size 5 1 (dv y) (cntAt (len (k + 1)) (rdTo us (len (k + 1)) y) (us y)) (tab (cntAt (len (k + 1)) (rdTo us (len (k + 1)) y) (us y)) (fun z => U8 (dat (k + 1) (rdTo us (len (k + 1)) y + z)))) := by
          intro y hy
          refine own_fr (own_fr0 (HQ.out.2.2.2.2 y hy) HAL.out) hf5 (fun v hv hm => ?_)
          have h1 := (HQ.out.2.2.2.2 y hy).lt v hv
          simp at hm
          omega
        have hq5 : Fr [fk e0, wb] w3 w5 := HQ.out.2.1.trans (ms' := [fk e0, wr.heap.size]) hf5 (by simp; omega)
        have hs5 := hq5.size
        obtain ⟨kc, hkc⟩ : ∃ kc : Nat, kc = if cnt = us x then 0 else 6 := ⟨_, rfl⟩
        have hcode : ∀ w', Calls Tryd.prog 38 #[ex] w' fun e w'' => e = .returned (.int .i64 (kc : Nat)) ∧ Fr [] w' w'' := fun w' => by rw [hkc]; exact code_ex cnt (us x) _ ex ⟨eb, eo, none⟩ rfl hex w'
        have hnews : ∀ y u, (tab cnt (fun z => U8 (dat (k + 1) (rdTo us (len (k + 1)) x + z))))[y]? = some u → w5.drew.cell? ((⟨wr.heap.size, 0, none⟩ : Addr).add y) = some u := by
          intro y u hy
          rw [tab_get?] at hy
          split at hy
          · rename_i hyc
            simp at hy; subst hy
            rw [Addr.add_mid, Nat.zero_add]
            exact (hl5.cell y).trans (hl5b y hyc)
          · cases hy
        have hone : ∀ u ∈ tab cnt (fun z => U8 (dat (k + 1) (rdTo us (len (k + 1)) x + z))), u.oneCell' = true := by
          intro u hu
          obtain ⟨y, hy⟩ := List.getElem?_of_mem hu
          rw [tab_get?] at hy
          split at hy
          · simp at hy; subst hy; rfl
          · cases hy
        have hlen1 : (tab cnt (fun z => U8 (dat (k + 1) (rdTo us (len (k + 1)) x + z)))).length = cnt * 1 := by simp
        obtain ⟨i5, hi5, hz50, hz51, hz52⟩ := info_parts info5
        obtain ⟨i55, z55, hi55, hz550, hz551, hz552, hz553⟩ := info_parts3 info55
        have HI5 := Lib.hid (And.intro hi5 (And.intro hz50 (And.intro hz51 hz52)))
        have HI55 := Lib.hid (And.intro hi55 (And.intro hz550 (And.intro hz551 (And.intro hz552 hz553))))
        have HNEWS := Lib.hid hnews
        have HONE := Lib.hid hone
        have HLEN := Lib.hid hlen1
        have HCODE := Lib.hid hcode
        have HKC := Lib.hid hkc
        have HW5 := Lib.hid hBw
        have HO5 := Lib.hid (And.intro hown5 hdv5)
        have HQ5 := Lib.hid hq5
        have HA5 := Lib.hid hA5
        have hx12 : x ≤ 12 := by omega
        have h63 : 0 + cnt ≤ maxLen := by unfold maxLen; omega
        have hby1 : (0 + cnt) * 1 ≤ 140737488355328 := by omega
        have h63b : x + 1 ≤ maxLen := by unfold maxLen; omega
        have hby2 : (x + 1) * 40 ≤ 140737488355328 := by omega
        have hcv : (cnt : Int) ≤ (us x : Int) := by omega
        have k5 : w5.drew.cell? ⟨wb, 1, none⟩ = some (.slice ra x rc) := hBw.drew.cell 1
        have hcnt9 : cnt ≤ 1000000 := by omega
        clear hi5 hz50 hz51 hz52 hi55 hz550 hz551 hz552 hz553 hnews hone hlen1 hcode hkc hown5 hdv5 hq5 hA5 hex hf5 hl5 hl5n hl5b hBw HQ HAL
        go_upto_region 24 with (fail)
        go_region_law (first
          | (refine step_append_own rfl (.const (.slice none 0 0)) (.tmp 86) 23 rfl w3.heap.size 5 i5 (.int .u8 0) 1 1 Tryd.underlying23 HI5.out.1 HI5.out.2.1 HI5.out.2.2.1 HI5.out.2.2.2 rfl (by decide) (.slice none 0 0) 0 [] rfl (own_nil _ _ _ _) ⟨wr.heap.size, 0, none⟩ cnt (us x) (tab cnt (fun z => U8 (dat (k + 1) (rdTo us (len (k + 1)) x + z)))) rfl HLEN.out HNEWS.out HONE.out h63 hby1 hs5 ?_
             rintro v6 w6 hr6 hg6
             rw [Nat.zero_add, List.nil_append] at hr6
             obtain ⟨a6, c6, rfl⟩ := own_slice hr6
             have hf6 : Fr [] w5.drew w6 := Fr.of_grown hg6
             have k6 : w6.cell? ⟨wb, 1, none⟩ = some (.slice ra x rc) := hf6.cell0 k5
             have H6 := Lib.hid (And.intro hr6 ((Fr.refl [] w5).drew.trans0 hf6))
             clear hr6 hg6 hf6)
          | (refine step_code rfl (.tmp 89) 104 rfl ex kc rfl (HCODE.out _) ?_
             rintro w7 hf7
             have k7 : w7.cell? ⟨wb, 1, none⟩ = some (.slice ra x rc) := hf7.cell0 k6
             have k7a : (w7.alloc (Obj.cells #[.slice a6 cnt c6, .int .i64 ((cnt : Nat) : Int), .int .i64 ((kc : Nat) : Int)] 55)).cell? ⟨wb, 1, none⟩ = some (.slice ra x rc) := ((Fr.refl [] w7).alloc _).cell0 k7
             have hf57 : Fr [] w5 (w7.alloc (Obj.cells #[.slice a6 cnt c6, .int .i64 ((cnt : Nat) : Int), .int .i64 ((kc : Nat) : Int)] 55)) := (H6.out.2.trans0 hf7).alloc _
             have HO7 := Lib.hid (own_fr0 HO5.out.1 hf57)
             have hb7 : w3.heap.size ≤ (w7.alloc (Obj.cells #[.slice a6 cnt c6, .int .i64 ((cnt : Nat) : Int), .int .i64 ((kc : Nat) : Int)] 55)).heap.size := Nat.le_trans hs5 hf57.size
             have H7 := Lib.hid (And.intro hf7 hf57)
             clear hf7 hf57)
          | (refine step_append_own rfl (.tmp 83) (.tmp 92) 51 rfl w3.heap.size 55 i55 z55 3 40 Tryd.underlying51 HI55.out.1 HI55.out.2.1 HI55.out.2.2.1 HI55.out.2.2.2.1 HI55.out.2.2.2.2 (by decide) (.slice ra x rc) x _ rfl HO7.out ⟨w7.heap.size, 0, none⟩ 1 1 [.slice a6 cnt c6, I64 cnt, I64 kc] rfl rfl (news2 _ _ _ rfl) (tell_one _ _ _ _ _) h63b hby2 hb7 ?_
             rintro v8 w8 hr8 hg8
             obtain ⟨a8, c8, rfl⟩ := own_slice hr8
             have hl8 := tell_last H7.out.2 (Fr.of_grown hg8) HO5.out.1 HW5.out
             have k8 : w8.cell? ⟨wb, 1, none⟩ = some (.slice ra x rc) := hl8.1.cell 1
             have z8 : w8.frozen? ⟨wb, 1, none⟩ = false := hl8.1.frozen 1
             have H8 := Lib.hid (And.intro hr8 (And.intro (Fr.of_grown hg8) hl8))
             clear hr8 hg8 hl8))
        all_goals
          go_wp2_with fail
          go_roundw
          case rel =>
            obtain ⟨hr8, hg8, hB8, hf58⟩ := H8.out
            have hB9 : Blk (w8.setCell ⟨wb, 1, none⟩ (.slice a8 (x + 1) c8)) wb 53 [.string (P e0).name, .slice a8 (x + 1) c8] := hB8.set 1 _
            have hcn := HCN.out
            have hkc := HKC.out
            refine ⟨x + 1, fun y => if y = x then .slice a6 cnt c6 else dv y, .slice a8 (x + 1) c8, by omega, by go_num, ?_, ?_, hB9, ?_, ?_⟩
            · exact (HQ5.out.trans (ms := [fk e0, wb]) hf58 (fun y hy => .inr (HO5.out.1.lt y (by simpa using hy)).1)).setCell (.inl (by simp)) _
            · rw [rdTo_succ, ← hcn]
              exact (HA5.out.fr hf58 (fun hy => by have := (HO5.out.1.lt _ (by simpa using hy)).1; omega)).fr ((Fr.refl [wb] w8).setCell (.inl (by simp)) _) (by simpa using hfwb)
            · have e1 : tellRow (fun y => if y = x then Value.slice a6 cnt c6 else dv y) us (len (k + 1)) (x + 1) = tellRow dv us (len (k + 1)) x ++ [.slice a6 cnt c6, I64 cnt, I64 kc] := by
                rw [tellRow_succ, tellRow_congr us (len (k + 1)) x (dv' := dv) (fun y hy => if_neg (by omega)), if_pos rfl, ← hcn, hkc]
              rw [e1]
              exact own_set53 hr8 hB8 (by decide)
            · intro y hy
              dsimp only
              by_cases hyx : y = x
              · subst hyx
                rw [if_pos rfl, ← hcn]
                have h1 := own_fr0 H6.out.1 (H7.out.1.alloc (Obj.cells #[.slice a6 cnt c6, .int .i64 ((cnt : Nat) : Int), .int .i64 ((kc : Nat) : Int)] 55))
                exact own_set53 (own_fr h1 hg8 (own_sep h1 HO7.out (by decide))) hB8 (by decide)
              · rw [if_neg hyx]
                have h1 := HO5.out.2 y (by omega)
                exact own_set53 (own_fr h1 hf58 (own_sep h1 HO5.out.1 (by decide))) hB8 (by decide)
          case measure => simp [intOf]; omega
end Go.Proofs.YtokpomdfgbbhlaaDoor

/- The contract of same: rows of the same bytes. -/
namespace Go.Proofs.YtokpomdfgbbhlaaDoor
open Go Go.RowKit Go.Maps

/-- A slice of n bytes. -/
def BytesV (w : World) (v : Value) (n : Nat) (f : Nat → UInt8) : Prop :=
  ((∃ a c, v = .slice a 0 c) ∧ n = 0) ∨ ∃ b o c : Nat, v = .slice (some ⟨b, o, none⟩) n c ∧ ∀ i, i < n → w.cell? ⟨b, o + i, none⟩ = some (U8 (f i))

theorem BytesV.fr0 {w w' : World} {v : Value} {n : Nat} {f : Nat → UInt8} (h : BytesV w v n f) (g : Fr [] w w') : BytesV w' v n f := by
  rcases h with h | ⟨b, o, c, h1, h2⟩
  · exact .inl h
  · exact .inr ⟨b, o, c, h1, fun i hi => g.cell0 (h2 i hi)⟩

theorem BytesV.of_own {w : World} {base n : Nat} {v : Value} {f : Nat → UInt8} (h : w.ownsRow base 5 1 v n (tab n (fun i => U8 (f i)))) : BytesV w v n f := by
  rcases Nat.eq_zero_or_pos n with h0 | h0
  · subst h0
    obtain ⟨_, ⟨h1, h2⟩ | ⟨g, cap, cur, h1, h2⟩⟩ := h
    · exact .inl ⟨⟨none, 0, h1⟩, rfl⟩
    · exact .inr ⟨g, 0, cap, h1, fun i hi => absurd hi (Nat.not_lt_zero _)⟩
  · obtain ⟨b, cap, l, h1, h2, h3, h4, _⟩ := own_blk2 h h0
    exact .inr ⟨b, 0, cap, h1, fun i hi => by rw [Nat.zero_add]; exact (h3.cell i).trans (h4 i hi)⟩

/-- n bytes as a string. -/
def strN (n : Nat) (f : Nat → UInt8) : ByteArray := strOfNums ((List.range n).map (fun i => ((f i).toNat : Int)))

theorem conv_nil (c : Nat) (w : World) : (convert 23 9 (.slice none 0 c)).run Tryd.prog w = .ok (.string (strN 0 (fun _ => 0))) w := by kernel_rfl
theorem conv_zero (a : Option Addr) (c : Nat) (w : World) : (convert 23 9 (.slice a 0 c)).run Tryd.prog w = .ok (.string (strN 0 (fun _ => 0))) w := by
  cases a with
  | none => exact conv_nil c w
  | some ad =>
    rw [run_convert_bytes_string w 23 9 5 _ 0 c Tryd.underlying23 Tryd.underlying5 Tryd.underlying9, run_bytesToString w ad 0 c [] rfl]
    rfl

theorem conv_str {w : World} {v : Value} {n : Nat} {f : Nat → UInt8} (h : BytesV w v n f) : (convert 23 9 v).run Tryd.prog w = .ok (.string (strN n f)) w := by
  rcases h with ⟨⟨a, c, rfl⟩, rfl⟩ | ⟨b, o, c, rfl, h⟩
  · exact conv_zero a c w
  · refine run_convert_bytes_arg w 23 5 Tryd.underlying23 Tryd.underlying5 b o n c _ (by simp) (fun i hi => ?_) 9 Tryd.underlying9
    rw [h i hi]
    simp [U8, hi]

set_option maxRecDepth 100000 in
theorem same_any (a b : Value) (n : Nat) (f : Nat → UInt8) (w : World) (ha : BytesV w a n f) (hb : BytesV w b n f) : Calls Tryd.prog 16 #[a, b] w fun e w' => e = .returned (.bool true) ∧ w = w' := by
  have h1 := conv_str ha
  have h2 := conv_str hb
  generalize strN n f = s at *
  clear ha hb
  go_enter Tryd.func16, Tryd.ntmps16
  go_wp2_with fail
  go_ret
  exact ⟨rfl, rfl⟩
end Go.Proofs.YtokpomdfgbbhlaaDoor

/- What nodesOf holds while it sorts the places below each node and links them. -/
namespace Go.Proofs.YtokpomdfgbbhlaaDoor
open Go Go.RowKit

theorem Fr.trans1 {a b c : World} {g : Nat} (h : Fr [] a b) (k : Fr [g] b c) (hg : a.heap.size ≤ g) : Fr [] a c :=
  h.trans k (fun x hx => .inr (by have e : x = g := List.mem_singleton.1 hx; omega))

/-- The same node but for its links. -/
structure SameF (a b : Nd) : Prop where
  name : a.name = b.name
  stream : a.stream = b.stream
  len : a.len = b.len
  dat : a.dat = b.dat
  cls : a.cls = b.cls
  sts : a.sts = b.sts
  cr : a.cr = b.cr
  md : a.md = b.md
theorem SameF.trans {a b c : Nd} (h : SameF a b) (k : SameF b c) : SameF a c :=
  ⟨h.name.trans k.name, h.stream.trans k.stream, h.len.trans k.len, h.dat.trans k.dat, h.cls.trans k.cls, h.sts.trans k.sts, h.cr.trans k.cr, h.md.trans k.md⟩
theorem SameF.refl (a : Nd) : SameF a a := ⟨rfl, rfl, rfl, rfl, rfl, rfl, rfl, rfl⟩
theorem SameF.datIs {a b : Nd} (h : SameF a b) {w : World} {d : Value} (hd : DatIs w b d) : DatIs w a d := by
  unfold DatIs at hd ⊢
  rw [h.len, h.dat]
  exact hd

def Bnd (N : Nat) (v : Int) : Prop := -1 ≤ v ∧ v < (N : Int)

theorem Sh.Fits.congr2 {nd nd' : Nat → Nd} : ∀ {t : Sh}, t.Fits nd → (∀ e, e ∈ t.order → (nd' e).left = (nd e).left ∧ (nd' e).right = (nd e).right) → t.Fits nd'
  | .nil, _, _ => trivial
  | .node e l r, h, hx => by
    obtain ⟨h1, h2, h3, h4⟩ := h
    have he := hx e (by simp [order])
    exact ⟨he.1.trans h1, he.2.trans h2, h3.congr2 (fun y hy => hx y (by simp [order, hy])), h4.congr2 (fun y hy => hx y (by simp [order, hy]))⟩
theorem Sh.Fits.bnd {nd : Nat → Nd} {N : Nat} : ∀ {t : Sh}, t.Fits nd → (∀ e, e ∈ t.order → e < N) → ∀ e, e ∈ t.order → Bnd N (nd e).left ∧ Bnd N (nd e).right
  | .nil, _, _, e, he => by simp [order] at he
  | .node a l r, h, hx, e, he => by
    obtain ⟨h1, h2, h3, h4⟩ := h
    have hl : ∀ y, y ∈ l.order → y < N := fun y hy => hx y (by simp [order, hy])
    have hr : ∀ y, y ∈ r.order → y < N := fun y hy => hx y (by simp [order, hy])
    simp only [order, List.mem_append, List.mem_cons] at he
    rcases he with he | rfl | he
    · exact h3.bnd hl e he
    · exact ⟨by rw [h1]; exact top_lt hl, by rw [h2]; exact top_lt hr⟩
    · exact h4.bnd hr e he

/-- Who stands below whom. -/
structure Par (N : Nat) (B : Nat → List Nat) (par : Nat → Nat) : Prop where
  mem : ∀ i, i < N → ∀ e, e ∈ B i → i < e ∧ e < N ∧ par e = i
  nodup : ∀ i, i < N → (B i).Nodup
  le : ∀ x, par x ≤ x
  all : ∀ x, 1 ≤ x → x < N → par x < x ∧ x ∈ B (par x)

structure SInv (base lb N k : Nat) (w : World) (v6 : Value) (nd nd' : Nat → Nd) (dv bv : Nat → Value) (B B' : Nat → List Nat) (sh : Nat → Sh) : Prop where
  row : NdRow w lb N nd' dv
  bel : w.ownsRow base 31 1 v6 N (tab N bv)
  bs : ∀ i, i < N → w.ownsRow base 3 1 (bv i) (B i).length ((B' i).map (fun e => I64 e))
  dis : ∀ i j, i < N → j < N → i ≠ j → ∀ g, (bv i).ownBlock = some g → (bv j).ownBlock ≠ some g
  perm : ∀ i, i < N → (B' i).Perm (B i)
  dat : ∀ i, i < N → DatIs w (nd i) (dv i)
  same : ∀ x, SameF (nd' x) (nd x)
  root : (nd' 0).left = -1 ∧ (nd' 0).right = -1
  lk : ∀ x, x < N → Bnd N (nd' x).left ∧ Bnd N (nd' x).right ∧ Bnd N (nd' x).child
  ord : ∀ i, i < k → (sh i).order = B' i
  fits : ∀ i, i < k → (sh i).Fits nd'
  child : ∀ i, i < k → (nd' i).child = (sh i).top

theorem SInv.init {base n lb : Nat} {w : World} {v5 v6 : Value} {nd : Nat → Nd} {dv bv : Nat → Value} {B : Nat → List Nat} {par : Nat → Nat} (h : NInv base w n v5 v6 nd dv bv B par) (hn : 1 ≤ n) (hr : NdRow w lb n nd dv) :
    SInv base lb n 0 w v6 nd nd dv bv B B (fun _ => .nil) where
  row := hr
  bel := h.bel
  bs := h.bs
  dis := h.dis
  perm := fun i hi => List.Perm.refl _
  dat := h.dat
  same := fun x => SameF.refl _
  root := ⟨(h.ok 0 (by omega)).left, (h.ok 0 (by omega)).right⟩
  lk := fun x hx => by
    have := h.ok x hx
    unfold Bnd
    rw [this.left, this.right, this.child]
    omega
  ord := fun i hi => by omega
  fits := fun i hi => by omega
  child := fun i hi => by omega

theorem NdRow.lbk {w : World} {lb N : Nat} {nd : Nat → Nd} {dv : Nat → Value} (h : NdRow w lb N nd dv) : ∃ l, Blk w lb 42 l := ⟨h.choose, h.choose_spec.1⟩

/-- The places below k, sorted. -/
theorem SInv.sorted {base lb N k : Nat} {w w1 : World} {v6 : Value} {nd nd' : Nat → Nd} {dv bv : Nat → Value} {B B' : Nat → List Nat} {sh : Nat → Sh} (h : SInv base lb N k w v6 nd nd' dv bv B B' sh) (hk : k < N)
    (C : List Nat) (hC : C.Perm (B k)) (ho : w1.ownsRow base 3 1 (bv k) (B k).length (C.map (fun e => I64 e))) (hf : Fr (bv k).ownBlock.toList w w1) :
    SInv base lb N k w1 v6 nd nd' dv bv B (fun i => if i = k then C else B' i) sh where
  row := by
    obtain ⟨l, hl, hc⟩ := h.row
    exact ⟨l, hl.fr hf (own_ne (h.bs k hk) hl (by decide)), hc⟩
  bel := own_fr h.bel hf (own_sep h.bel (h.bs k hk) (by decide))
  bs := fun i hi => by
    by_cases hik : i = k
    · subst hik; simpa using ho
    · simp only [if_neg hik]
      exact own_fr (h.bs i hi) hf (fun g hg hg2 => h.dis i k hi hk hik g hg (by simpa using hg2))
  dis := h.dis
  perm := fun i hi => by
    by_cases hik : i = k
    · subst hik; simpa using hC
    · simp only [if_neg hik]; exact h.perm i hi
  dat := fun i hi => (h.dat i hi).fr hf (fun b l hb => own_ne (h.bs k hk) hb (by decide))
  same := h.same
  root := h.root
  lk := h.lk
  ord := fun i hi => by simp only [if_neg (show i ≠ k by omega)]; exact h.ord i hi
  fits := h.fits
  child := h.child

/-- The places below k, linked. -/
theorem SInv.shape {base lb N k : Nat} {w w2 : World} {v6 : Value} {nd nd' nd2 : Nat → Nd} {dv bv : Nat → Value} {B B' : Nat → List Nat} {par : Nat → Nat} {sh : Nat → Sh} {s : Sh} (h : SInv base lb N k w v6 nd nd' dv bv B B' sh) (hP : Par N B par) (hk : k < N)
    (hord : s.order = B' k) (hf : Fr [lb] w w2) (hrow : NdRow w2 lb N nd2 dv) (hout : ∀ e, e ∉ B' k → nd2 e = nd' e) (hsame : ∀ e, nd2 e = { nd' e with left := (nd2 e).left, right := (nd2 e).right }) (hfit : s.Fits nd2) :
    SInv base lb N (k + 1) (w2.setCell ⟨lb, k * 28 + 5, none⟩ (.int .i64 s.top)) v6 nd (setC nd2 k s.top) dv bv B B' (fun i => if i = k then s else sh i) := by
  have hf' : Fr [lb] w (w2.setCell ⟨lb, k * 28 + 5, none⟩ (.int .i64 s.top)) := hf.setCell (.inl (by simp)) _
  obtain ⟨ll, hll⟩ := h.row.lbk
  have memB : ∀ i, i < N → ∀ e, e ∈ B' i → i < e ∧ e < N ∧ par e = i := fun i hi e he => hP.mem i hi e ((h.perm i hi).mem_iff.1 he)
  have hsl : ∀ e, (setC nd2 k s.top e).left = (nd2 e).left ∧ (setC nd2 k s.top e).right = (nd2 e).right := fun e => by
    unfold setC; split <;> exact ⟨rfl, rfl⟩
  have hsf : ∀ e, SameF (nd2 e) (nd' e) := fun e => by rw [hsame e]; exact ⟨rfl, rfl, rfl, rfl, rfl, rfl, rfl, rfl⟩
  have hsc : ∀ e, (nd2 e).child = (nd' e).child := fun e => by rw [hsame e]
  have hstop : Bnd N s.top := Sh.top_lt (fun e he => by rw [hord] at he; exact (memB k hk e he).2.1)
  exact {
    row := hrow.set k 5 s.top _ (fun x hx => by unfold setC; rw [if_neg hx]) (.inr (.inr ⟨rfl, by unfold setC; rw [if_pos rfl]⟩)) hk
    bel := own_fr h.bel hf' (fun g hg hg2 => by
      have : g = lb := by simpa using hg2
      subst this
      exact own_ne h.bel hll (by decide) (by simpa using hg))
    bs := fun i hi => own_fr (h.bs i hi) hf' (fun g hg hg2 => by
      have : g = lb := by simpa using hg2
      subst this
      exact own_ne (h.bs i hi) hll (by decide) (by simpa using hg))
    dis := h.dis
    perm := h.perm
    dat := fun i hi => (h.dat i hi).fr hf' (fun b l hb hb2 => by
      have : b = lb := by simpa using hb2
      subst this
      exact absurd (hb.unique hll).1 (by decide))
    same := fun x => by
      refine SameF.trans ?_ ((hsf x).trans (h.same x))
      unfold setC
      split <;> exact ⟨rfl, rfl, rfl, rfl, rfl, rfl, rfl, rfl⟩
    root := by
      have h0 : 0 ∉ B' k := fun h0 => by have := (memB k hk 0 h0).1; omega
      rw [(hsl 0).1, (hsl 0).2, hout 0 h0]
      exact h.root
    lk := fun x hx => by
      rw [(hsl x).1, (hsl x).2]
      have hc : Bnd N (setC nd2 k s.top x).child := by
        unfold setC
        split
        · exact hstop
        · rw [hsc x]; exact (h.lk x hx).2.2
      by_cases hm : x ∈ B' k
      · have := hfit.bnd (N := N) (fun e he => by rw [hord] at he; exact (memB k hk e he).2.1) x (by rw [hord]; exact hm)
        exact ⟨this.1, this.2, hc⟩
      · have := h.lk x hx
        rw [← hout x hm] at this
        exact ⟨this.1, this.2.1, hc⟩
    ord := fun i hi => by
      by_cases hik : i = k
      · subst hik; simpa using hord
      · simp only [if_neg hik]; exact h.ord i (by omega)
    fits := fun i hi => by
      by_cases hik : i = k
      · subst hik
        simp only [if_pos rfl]
        exact hfit.congr2 (fun e he => hsl e)
      · simp only [if_neg hik]
        refine (h.fits i (by omega)).congr2 (fun e he => ?_)
        rw [h.ord i (by omega)] at he
        have hne : e ∉ B' k := fun h2 => by
          have a := (memB i (by omega) e he).2.2
          have b := (memB k hk e h2).2.2
          omega
        rw [(hsl e).1, (hsl e).2, hout e hne]
        exact ⟨rfl, rfl⟩
    child := fun i hi => by
      by_cases hik : i = k
      · subst hik; simp [setC]
      · simp only [if_neg hik]
        have : (setC nd2 k s.top i).child = (nd2 i).child := by unfold setC; rw [if_neg hik]
        rw [this, hsc i]
        exact h.child i (by omega) }

/-- What nodesOf answers: a row of nodes that hang as one tree. -/
structure NodesOK (base lb N : Nat) (w : World) (nd : Nat → Nd) (dv : Nat → Value) (t : NT) : Prop where
  n1 : 1 ≤ N
  n2 : N ≤ 20
  lbb : base ≤ lb
  row : NdRow w lb N nd dv
  dat : ∀ k, k < N → DatIs w (nd k) (dv k)
  ok : ∀ four step, LayOK ⟨N, nd, four, step⟩
  tree : TreeOK N nd t
  emp : ∀ k, k < N → (nd k).stream = false → (nd k).len = 0
def NodesPost (w : World) (e : Ending) (w' : World) : Prop :=
  ∃ (lb N cap : Nat) (nd : Nat → Nd) (dv : Nat → Value) (t : NT), e = .returned (.slice (some ⟨lb, 0, none⟩) N cap) ∧ N ≤ cap ∧ cap ≤ 9223372036854775807 ∧ Fr [] w w' ∧ NodesOK w.heap.size lb N w' nd dv t

theorem SInv.done {base lb N : Nat} {w : World} {v6 : Value} {nd nd' : Nat → Nd} {dv bv : Nat → Value} {B B' : Nat → List Nat} {par : Nat → Nat} {sh : Nat → Sh} (h : SInv base lb N N w v6 nd nd' dv bv B B' sh) (hP : Par N B par) (hn : 1 ≤ N) (hn2 : N ≤ 20)
    (hok : ∀ i, i < N → NdOK (nd i)) (hroot : (nd 0).stream = false) (hb : base ≤ lb) : NodesOK base lb N w nd' dv (wholeT sh N) where
  n1 := hn
  n2 := hn2
  lbb := hb
  row := h.row
  dat := fun k hk => (h.same k).datIs (h.dat k hk)
  ok := fun four step => {
    n1 := hn
    n2 := hn2
    root := by show (nd' 0).stream = false; rw [(h.same 0).stream]; exact hroot
    len := fun k hk => by show (nd' k).len ≤ 9000; rw [(h.same k).len]; exact (hok k hk).len
    nm1 := fun k hk => by show 1 ≤ (nd' k).name.size; rw [(h.same k).name]; exact (hok k hk).nm1
    nm2 := fun k hk => by show (nd' k).name.size ≤ 10; rw [(h.same k).name]; exact (hok k hk).nm2
    nmc := fun k j hk => by show ((nd' k).name.data.toList.getD j 0).toNat < 128; rw [(h.same k).name]; exact (hok k hk).nmc j
    nm0 := fun k hk => by show 65 ≤ ((nd' k).name.data.toList.getD 0 0).toNat ∧ ((nd' k).name.data.toList.getD 0 0).toNat ≤ 90; rw [(h.same k).name]; exact (hok k hk).nm0
    lks := fun k hk => by
      obtain ⟨a, b, c⟩ := h.lk k hk
      unfold Bnd at a b c
      show (-1 ≤ (nd' k).left ∧ (nd' k).left < 20) ∧ (-1 ≤ (nd' k).right ∧ (nd' k).right < 20) ∧ (-1 ≤ (nd' k).child ∧ (nd' k).child < 20)
      have : N ≤ 20 := hn2
      omega
    cr := fun k hk => by show (nd' k).cr < _; rw [(h.same k).cr]; exact (hok k hk).cr
    md := fun k hk => by show (nd' k).md < _; rw [(h.same k).md]; exact (hok k hk).md }
  tree := by
    have hF : Forest N sh par := {
      mem := fun i hi e he => by rw [h.ord i hi] at he; exact hP.mem i hi e ((h.perm i hi).mem_iff.1 he)
      nodup := fun i hi => by rw [h.ord i hi]; exact (h.perm i hi).nodup_iff.2 (hP.nodup i hi)
      le := hP.le
      all := fun x h1 h2 => by
        obtain ⟨a, b⟩ := hP.all x h1 h2
        refine ⟨a, ?_⟩
        rw [h.ord _ (by omega)]
        exact (h.perm _ (by omega)).mem_iff.2 b }
    exact hF.tree nd' h.fits h.child hn h.root.1 h.root.2
  emp := fun k hk hs => by rw [(h.same k).stream] at hs; rw [(h.same k).len]; exact (hok k hk).emp hs

def lessB (a b : ByteArray) : Bool := if a.size = b.size then Op.bytesLess a.toList b.toList else decide (a.size < b.size)
theorem less_is (a b : ByteArray) (w : World) (ha : a.size ≤ 1000) (hb : b.size ≤ 1000) : Calls Tryd.prog 19 #[.string a, .string b] w fun e w' => e = .returned (.bool (lessB a b)) ∧ w' = w := by
  by_cases h : a.size = b.size
  · have hI : ((a.size : Int) == (b.size : Int)) = true := by simp [h]
    have hI2 : ((a.size : Int) != (b.size : Int)) = false := by simp [h]
    have H := Lib.hid h
    clear h
    go_enter Tryd.func19, Tryd.ntmps19
    go_wp2_with fail
    go_ret
    exact ⟨by unfold lessB; rw [if_pos H.out]; rfl, rfl⟩
  · have hI : ((a.size : Int) == (b.size : Int)) = false := by simp; omega
    have hI2 : ((a.size : Int) != (b.size : Int)) = true := by simp; omega
    have H := Lib.hid h
    clear h
    go_enter Tryd.func19, Tryd.ntmps19
    go_wp2_with fail
    go_ret
    exact ⟨by unfold lessB; rw [if_neg H.out]; rfl, rfl⟩

theorem own_any {w : World} {base : Nat} {e : TypeId} {size n : Nat} {v : Value} {xs : List Value} (h : w.ownsRow base e size v n xs) :
    ∃ pa cap pb, v = .slice pa n cap ∧ n ≤ cap ∧ cap ≤ 9223372036854775807 ∧ (0 < n → pa = some ⟨pb, 0, none⟩) := by
  rcases h.2 with ⟨rfl, rfl⟩ | ⟨b, cap, cur, rfl, hb, hg, h4, h5, h6, ht⟩
  · exact ⟨none, 0, 0, rfl, Nat.le_refl _, by omega, fun h => by omega⟩
  · exact ⟨_, cap, b, rfl, h4, by simpa [maxLen] using h5, fun _ => rfl⟩

theorem swap_perm (C : List Nat) (i : Nat) (hi : i + 1 < C.length) : ((C.set (i + 1) (C.getD i 0)).set i (C.getD (i + 1) 0)).Perm C := by
  have h1 : C.getD i 0 = C[i] := by rw [List.getD_eq_getElem?_getD, List.getElem?_eq_getElem (by omega)]; rfl
  have h2 : C.getD (i + 1) 0 = C[i + 1] := by rw [List.getD_eq_getElem?_getD, List.getElem?_eq_getElem hi]; rfl
  rw [h1, h2]
  have e1 : C = C.take i ++ C[i] :: C[i + 1] :: C.drop (i + 2) := by
    rw [List.getElem_cons_drop, List.getElem_cons_drop, List.take_append_drop]
  have e2 : (C.set (i + 1) C[i]).set i C[i + 1] = C.take i ++ C[i + 1] :: C[i] :: C.drop (i + 2) := by
    apply List.ext_getElem?
    intro j
    rw [List.getElem?_set, List.getElem?_set]
    have hl : (C.take i).length = i := by rw [List.length_take]; omega
    by_cases a : i = j
    · subst a
      rw [if_pos rfl, if_pos (by simp; omega), List.getElem?_append_right (by omega), hl, Nat.sub_self]
      rfl
    · rw [if_neg a]
      by_cases b : i + 1 = j
      · subst b
        rw [if_pos rfl, if_pos hi, List.getElem?_append_right (by omega), hl, show i + 1 - i = 1 by omega]
        rfl
      · rw [if_neg b]
        by_cases c : j < i
        · rw [List.getElem?_append_left (by omega), List.getElem?_take, if_pos c]
        · rw [List.getElem?_append_right (by omega), hl]
          obtain ⟨d, rfl⟩ : ∃ d, j = i + 2 + d := ⟨j - (i + 2), by omega⟩
          rw [show i + 2 + d - i = d + 2 by omega, List.getElem?_cons_succ, List.getElem?_cons_succ, List.getElem?_drop]
  rw [e2]
  conv => rhs; rw [e1]
  exact (List.Perm.swap _ _ _).append_left _

/-- Two cells of a row of places stored. -/
theorem own_map_set {w : World} {base pb cap n : Nat} {C : List Nat} (h : w.ownsRow base 3 1 (.slice (some ⟨pb, 0, none⟩) n cap) n (C.map (fun e => I64 e))) (i x : Nat) (v : Value) (hv : v = I64 x) :
    (w.setCell ⟨pb, i, none⟩ v).ownsRow base 3 1 (.slice (some ⟨pb, 0, none⟩) n cap) n ((C.set i x).map (fun e => I64 e)) := by
  subst hv
  refine ⟨by simpa using h.1, ?_⟩
  rcases h.2 with ⟨h0, _⟩ | ⟨b', cap', cur, hv, hb, hg, h4, h5, h6, ht⟩
  · cases h0
  · injection hv with e1 e2 e3
    cases e1
    subst e3
    have hB : Blk w pb 3 cur.toList := by simpa [Blk] using hg
    have hB2 := hB.set i (I64 x)
    refine .inr ⟨pb, cap, (cur.toList.set i (I64 x)).toArray, rfl, hb, by simpa [Blk] using hB2, h4, h5, by simpa using h6, ?_⟩
    rw [List.take_set, ht, List.map_set]
theorem own_map_cell {w : World} {base pb cap n : Nat} {C : List Nat} (h : w.ownsRow base 3 1 (.slice (some ⟨pb, 0, none⟩) n cap) n (C.map (fun e => I64 e))) (i : Nat) (hi : i < n) : w.cell? ⟨pb, i, none⟩ = some (I64 (C.getD i 0)) := by
  have hl := h.1
  rw [List.length_map, Nat.mul_one] at hl
  have := h.cells rfl i (I64 (C.getD i 0)) (by rw [List.getElem?_map, List.getD_eq_getElem?_getD, List.getElem?_eq_getElem (by omega)]; rfl)
  rwa [add_zero'] at this
theorem own_frz {w : World} {base pb cap n : Nat} {e : TypeId} {size : Nat} {xs : List Value} (h : w.ownsRow base e size (.slice (some ⟨pb, 0, none⟩) n cap) n xs) (i : Nat) : w.frozen? ⟨pb, i, none⟩ = false := by
  rcases h.2 with ⟨h0, _⟩ | ⟨b', cap', cur, hv, hb, hg, h4, h5, h6, ht⟩
  · cases h0
  · injection hv with e1 e2 e3
    cases e1
    have hB : Blk w pb e cur.toList := by simpa [Blk] using hg
    exact hB.frozen i
end Go.Proofs.YtokpomdfgbbhlaaDoor

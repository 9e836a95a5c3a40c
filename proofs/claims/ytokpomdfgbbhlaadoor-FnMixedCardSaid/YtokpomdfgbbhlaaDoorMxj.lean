/- FnMixed: a stream is read, sought and written by steps, what is told is what stands there then, the file behind all is that of the stream with these bytes (part 10 of 18). No condition but the statement's own. -/
import Derived.Deep.RegionLaw
import Derived.Test.YtokpomdfgbbhlaaDoorMxi
set_option linter.all false
set_option linter.unusedVariables false
set_option linter.unusedSimpArgs false
set_option linter.unnecessarySimpa false
/- The contract of Walk over a sound file: the entries behind the first one, each read by pieces; behind the last one the end. -/
namespace Go.Proofs.YtokpomdfgbbhlaaDoor
open Go Go.RowKit Go.Maps

/-- What a walk asks of the file's streams. -/
def StrsOK (F : Nat → UInt8) (n ss m mn mm : Nat) (mf ms cs : Nat → Nat) (P : Nat → EntP) (t : Tr) (len : Nat → Nat) (dat : Nat → Nat → UInt8) : Prop :=
  ∀ k, k < t.order.length → (P (t.order.getD k 0)).size = ((len k : Nat) : Int) ∧ len k ≤ 100000 ∧
    (len k = 0 ∨ ∃ (mini : Bool) (q K : Nat) (ch off : Nat → Nat), StrOK F n ss mn mm mf ms mini q K (len k) ch off (dat k) ∧ fld (entB F ss cs (t.order.getD k 0)) 116 4 = ch 0)

/-- A reader that was opened, as streams' reading sees it. -/
theorem RdOK.rdS {w : World} {base rb sb : Nat} {F : Nat → UInt8} {ss m : Nat} {cs : Nat → Nat} {P : Nat → EntP} {t : Tr} {mn mm : Nat} {mf ms : Nat → Nat} {hb fb gb dg dcap ub ul uc : Nat} {fk dk : Nat → Nat} {pv : Nat → Value} {mfv msv : Value}
    (h : RdOK w base rb sb F ss m cs P t mn mm mf ms hb fb gb dg dcap ub ul uc fk dk pv mfv msv) {n bb cap : Nat} (hS : Src w sb bb n cap F) (hF : FileOK F n ss m cs P t mn mm mf ms) (hn : n ≤ 131072) :
    ∃ R : RB, R.rb = rb ∧ R.sb = sb ∧ R.bb = bb ∧ R.n = n ∧ R.ss = ss ∧ R.mn = mn ∧ R.mm = mm ∧ R.mf = mf ∧ R.ms = ms ∧ RdS w R F ∧ ∀ x ∈ R.bl, x < w.heap.size ∧ (x = rb ∨ x = sb ∨ x = bb ∨ (x = hb ∨ x = fb) ∨ ∃ v, w.cell? ⟨x, 0, none⟩ = some (.int .u32 v)) := by
  have hss : ss = 512 ∨ ss = 4096 := by rcases hF.hdr.shift with e | e <;> simp [e.2]
  have l1 := h.rd.lt
  have l2 := h.hd.lt
  have l3 := h.fd.lt
  have l4 := World.block_lt_of_cell? _ _ hS.sc
  have l5 := World.block_lt_of_cell? _ _ (hS.bytes 0 (by have := hF.n0; omega))
  dsimp only at l4 l5
  have hdif : ∀ i, i < 109 → w.cell? ⟨fb, 45 + i, none⟩ = some (.int .u32 (fld F (76 + 4 * i) 4 : Nat)) := fun i hi => (h.fd.cell _).trans (hdrN_tab F 109 i (Nat.le_refl _) hi)
  have hmnL : mn = 0 ∨ (1 ≤ mn ∧ mn ≤ 65535 ∧ 1 ≤ mm ∧ mm ≤ 65535) := by
    rcases hF.mini with ⟨h0, _⟩ | ⟨h1, _, _, h2, h3, h4, _⟩
    · exact .inl h0
    · refine .inr ⟨h1, ?_, h2, by omega⟩
      have h5 : 128 ≤ ss / 4 := by rcases hss with e | e <;> omega
      have h6 := Nat.mul_le_mul_right mn h5
      omega
  rcases h.mini with h0 | ⟨fb', sb', k, e1, e2, b1, b2, hk, hc1, hc2⟩
  · refine ⟨⟨rb, hb, fb, rb, rb, sb, bb, n, cap, ss, mn, mm, 0, mf, ms⟩, rfl, rfl, rfl, rfl, rfl, rfl, rfl, rfl, rfl, ⟨hS, h.rd.cell 1, h.rd.cell 3, h.rd.cell 7, hss, h.hd.cell 1, hdif, by show n ≤ 1000000; omega, .inl h0⟩, ?_⟩
    intro x hx
    simp only [RB.bl, List.mem_cons, List.not_mem_nil, or_false] at hx
    rcases hx with rfl | rfl | rfl | rfl | rfl | rfl | rfl <;> simp [*]
  · rcases hmnL with h0 | ⟨m1, m2, m3, m4⟩
    · refine ⟨⟨rb, hb, fb, rb, rb, sb, bb, n, cap, ss, mn, mm, 0, mf, ms⟩, rfl, rfl, rfl, rfl, rfl, rfl, rfl, rfl, rfl, ⟨hS, h.rd.cell 1, h.rd.cell 3, h.rd.cell 7, hss, h.hd.cell 1, hdif, by show n ≤ 1000000; omega, .inl h0⟩, ?_⟩
      intro x hx
      simp only [RB.bl, List.mem_cons, List.not_mem_nil, or_false] at hx
      rcases hx with rfl | rfl | rfl | rfl | rfl | rfl | rfl <;> simp [*]
    · have l6 := World.block_lt_of_cell? _ _ (hc1 0 m1)
      have l7 := World.block_lt_of_cell? _ _ (hc2 0 m3)
      dsimp only at l6 l7
      refine ⟨⟨rb, hb, fb, fb', sb', sb, bb, n, cap, ss, mn, mm, k, mf, ms⟩, rfl, rfl, rfl, rfl, rfl, rfl, rfl, rfl, rfl, ⟨hS, h.rd.cell 1, h.rd.cell 3, h.rd.cell 7, hss, h.hd.cell 1, hdif, by show n ≤ 1000000; omega,
        .inr ⟨by rw [← e1]; exact h.hd.cell 2, by rw [← e2]; exact h.hd.cell 3, hk, m2, m4, hc1, hc2⟩⟩, ?_⟩
      intro x hx
      simp only [RB.bl, List.mem_cons, List.not_mem_nil, or_false] at hx
      have c1 := hc1 0 m1
      have c2 := hc2 0 m3
      rcases hx with rfl | rfl | rfl | rfl | rfl | rfl | rfl
      · exact ⟨l1, .inl rfl⟩
      · exact ⟨l2, .inr (.inr (.inr (.inl (.inl rfl))))⟩
      · exact ⟨l3, .inr (.inr (.inr (.inl (.inr rfl))))⟩
      · exact ⟨l6, .inr (.inr (.inr (.inr ⟨_, c1⟩)))⟩
      · exact ⟨l7, .inr (.inr (.inr (.inr ⟨_, c2⟩)))⟩
      · exact ⟨l4, .inr (.inl rfl)⟩
      · exact ⟨l5, .inr (.inr (.inl rfl))⟩
/-- What lies in memory stays where a Reader's place alone turns. -/
theorem keep6 {w w' : World} {rb ss sb : Nat} {buf hdr file dir wa : Value} {k k' : Int} (hb : Blk w rb 91 (rdCells ss buf hdr file dir k sb wa)) (hb' : Blk w' rb 91 (rdCells ss buf hdr file dir k' sb wa)) (f : Fr [rb] w w') {b i : Nat} {v : Value}
    (h : w.cell? ⟨b, i, none⟩ = some v) (hv : ∀ z, v ≠ .int .i64 z) : w'.cell? ⟨b, i, none⟩ = some v := by
  by_cases hbr : b = rb
  · subst hbr
    rw [hb.cell] at h
    rw [hb'.cell]
    rcases i with _ | _ | _ | _ | _ | _ | _ | i
    · exact h
    · exact h
    · exact h
    · exact h
    · exact h
    · exact h
    · exact absurd (Option.some.inj h).symm (hv k)
    · exact h
  · exact f.cell (by simpa using hbr) h

theorem RdS.step6 {w w' : World} {R : RB} {F : Nat → UInt8} {ss sb : Nat} {buf hdr file dir wa : Value} {k k' : Int} (h : RdS w R F) (hb : Blk w R.rb 91 (rdCells ss buf hdr file dir k sb wa)) (hb' : Blk w' R.rb 91 (rdCells ss buf hdr file dir k' sb wa)) (f : Fr [R.rb] w w') : RdS w' R F := by
  have kp : ∀ {b i : Nat} {v : Value}, w.cell? ⟨b, i, none⟩ = some v → (∀ z, v ≠ .int .i64 z) → w'.cell? ⟨b, i, none⟩ = some v := fun h hv => keep6 hb hb' f h hv
  refine ⟨⟨kp h.src.sc (fun z e => by cases e), fun i hi => kp (h.src.bytes i hi) (fun z e => by cases e), h.src.ncap, h.src.capm⟩, kp h.c1 (fun z e => by cases e), kp h.c3 (fun z e => by cases e), kp h.c7 (fun z e => by cases e), h.ss_, kp h.d1 (fun z e => by cases e), fun i hi => kp (h.dif i hi) (fun z e => by cases e), h.n1, ?_⟩
  rcases h.mini with h0 | ⟨a, b, c, d, e, g, i⟩
  · exact .inl h0
  · exact .inr ⟨kp a (fun z e => by cases e), kp b (fun z e => by cases e), c, d, e, fun j hj => kp (g j hj) (fun z e => by cases e), fun j hj => kp (i j hj) (fun z e => by cases e)⟩

theorem tell_one (a : Option Addr) (n c k m : Nat) : ∀ u ∈ [Value.slice a n c, I64 k, I64 m], u.oneCell' = true := by
  intro u hu
  simp only [List.mem_cons, List.not_mem_nil, or_false] at hu
  rcases hu with rfl | rfl | rfl <;> rfl

theorem tell_last {w5 w7 w8 : World} {rvv : Value} {base wb x : Nat} {rows l : List Value} (hf7 : Fr [] w5 w7) (hg : Fr rvv.ownBlock.toList w7 w8) (hown : w5.ownsRow base 55 3 rvv x rows) (hB : Blk w5 wb 53 l) :
    Blk w8 wb 53 l ∧ Fr rvv.ownBlock.toList w5 w8 :=
  ⟨(hB.fr0 hf7).fr hg (own_ne (own_fr0 hown hf7) (hB.fr0 hf7) (by decide)), (hf7.mono (by simp)).trans hg (fun _ hx => .inl hx)⟩

theorem own_has {w : World} {base e size n x : Nat} {v : Value} {xs : List Value} (h : w.ownsRow base e size v n xs) (hx : v.ownBlock = some x) : ∃ l, Blk w x e l := by
  obtain ⟨_, ⟨rfl, _⟩ | ⟨g, cap, cur, rfl, _, hg, _⟩⟩ := h
  · cases hx
  · injection hx with hx
    subst hx
    exact ⟨cur.toList, hg⟩

/-- A row stays where a Walked turns. -/
theorem own_set53 {w : World} {base e size n wb i : Nat} {v u : Value} {xs l : List Value} (h : w.ownsRow base e size v n xs) (hB : Blk w wb 53 l) (he : e ≠ 53) : (w.setCell ⟨wb, i, none⟩ u).ownsRow base e size v n xs := by
  refine own_fr h ((Fr.refl [wb] w).setCell (.inl (by simp)) u) (fun k hk hm => ?_)
  simp at hm
  subst hm
  exact own_ne h hB (fun e => he e.symm) (by rw [hk]; simp)

theorem sumN_le_mul (f : Nat → Nat) (n b : Nat) (h : ∀ i, i < n → f i ≤ b) : sumN f n ≤ n * b := by
  induction n with
  | zero => simp [sumN]
  | succ n ih =>
    have h1 := ih (fun i hi => h i (by omega))
    have h2 := h n (by omega)
    rw [sumN, Nat.succ_mul]
    omega

set_option maxRecDepth 100000 in
set_option maxHeartbeats 4000000 in
theorem walk_any (ab ao n ncap ss m mn mm : Nat) (F : Nat → UInt8) (cs mf ms : Nat → Nat) (P : Nat → EntP) (t : Tr) (w : World) (hB : ∀ i, i < n → w.cell? ⟨ab, ao + i, none⟩ = some (U8 (F i)))
    (hF : FileOK F n ss m cs P t mn mm mf ms) (hn : n ≤ 131072)
    (hp : ∀ i, 65 ≤ i → i ≤ 90 → w.cell? ⟨2, i, none⟩ = some (.int .u8 160)) (h2w : 2 < w.heap.size)
    (ub nu ucap eb eo : Nat) (ua : Option Addr) (us : Nat → Nat) (s : ByteArray) (hua : 0 < nu → ua = some ⟨ub, 0, none⟩) (hus : ∀ j, j < nu → w.cell? ⟨ub, j, none⟩ = some (I64 (us j))) (hnu : nu ≤ 12) (hub : ∀ j, j < nu → 1 ≤ us j ∧ us j ≤ 80) (huc : nu ≤ ucap ∧ ucap ≤ 9223372036854775807)
    (hev : w.cell? ⟨0, 0, none⟩ = some (.iface 187 (.pointer (some ⟨eb, eo, none⟩)))) (len : Nat → Nat) (dat : Nat → Nat → UInt8) (hst : StrsOK F n ss m mn mm mf ms cs P t len dat) :
    Calls Tryd.prog 15 #[.slice (some ⟨ab, ao, none⟩) n ncap, .slice ua nu ucap] w fun e w' => Fr [] w w' ∧ ∃ v, e = .returned (.tuple #[v, .int .i64 6]) ∧
      WalkIs w' w.heap.size v (t.order.length - 1) (fun k => (P (t.order.getD (k + 1) 0)).name) (fun k => len (k + 1)) (fun k => dat (k + 1)) us nu := by
  have HUS := Lib.hid hus
  have HUA := Lib.hid hua
  have HUB := Lib.hid hub
  have HEV := Lib.hid hev
  have HST := Lib.hid hst
  have hop := Lib.hid (fun (w1 : World) (f : Fr [] w w1) => opened_ok ab ao n ncap ss m mn mm F cs mf ms P t w1 (fun i hi => f.cell0 (hB i hi)) hF hn (fun i a b => f.cell0 (hp i a b)) (by have := f.size; omega))
  clear hus hua hub hev hst hB hp
  go_enter Tryd.func15, Tryd.ntmps15
  go_wp2_with fail
  go_loopw [6, 8, 23] (fun s6 s8 s23 wr => ∃ j : Nat, j ≤ nu ∧ s6 = .int .i64 (sumN us j : Nat) ∧ s23 = .int .i64 j ∧ Fr [] w wr) (fun _ _ s23 _ => nu - (intOf s23).toNat)
  case atStart => exact ⟨0, by omega, rfl, rfl, Fr.refl _ _⟩
  case round =>
    obtain ⟨j, hj, rfl, rfl, hf0⟩ := hrel
    have hsum := sumN_le_mul us j 80 (fun i hi => (HUB.out i (by omega)).2)
    by_cases hjn : j < nu
    · have hjI : (j : Int) < (nu : Int) := by omega
      obtain rfl := HUA.out (by omega)
      have hu := hf0.cell0 (HUS.out j hjn)
      obtain ⟨hu1, hu2⟩ := HUB.out j hjn
      have hss : sumN us (j + 1) = sumN us j + us j := rfl
      have HS := Lib.hid hss
      clear hss
      go_wp2_with fail
      go_roundw
      case rel => exact ⟨j + 1, by omega, by rw [HS.out]; go_num, by go_num, hf0⟩
      case measure => simp [intOf]; omega
    obtain rfl : j = nu := by omega
    have hjI : ¬ (j : Int) < (j : Int) := by omega
    have h20 : decide ((20 : Int) < (j : Int)) = false := by simp; omega
    have hs24 : decide ((1024 : Int) < ((sumN us j : Nat) : Int)) = false := by simp; omega
    have hop2 := hop.out _ hf0
    have HOP := Lib.hid hop2
    clear hop2
    go_wp2_with fail
    refine HOP.out.mono ?_
    rintro e w1 ⟨base, sb, bb, cap, rb, hb, fb, gb, dg, dcap, ub', ul, uc, fk, dk, pv, mfv, msv, rfl, hf1, hbb, hsb, hbb2, hsb2, hbs, hS, hR⟩
    have hE : ∀ i, i < t.order.length → t.order.getD i 0 < m * (ss / 128) := by
      intro i hi
      refine hF.t1.lt _ ?_
      rw [List.getD_eq_getElem?_getD, List.getElem?_eq_getElem hi]
      simp
    have htl : 1 ≤ t.order.length := by
      rcases ht : t with _ | ⟨a, b, c, d⟩
      · exact absurd ht hF.t0
      · simp [Tr.order]; omega
    have htl2 : t.order.length ≤ 100000 := by
      have h1 := hF.t3
      have h2 := hF.m2
      have h3 : ss / 128 ≤ 32 := by rcases hF.hdr.shift with ⟨_, h⟩ | ⟨_, h⟩ <;> omega
      have h4 := Nat.mul_le_mul h2 h3
      omega
    obtain ⟨R, e1, e2, e3, e4, e5, e6, e7, e8, e9, hRS, hbl⟩ := hR.rdS hS hF hn
    have hfl : ∀ i, i < t.order.length → FAt w1 R F (fk (t.order.getD i 0)) (P (t.order.getD i 0)).name (P (t.order.getD i 0)).init (pv (t.order.getD i 0)) (dk (t.order.getD i 0)) (len i) (dat i) 0 := by
      intro i hi
      obtain ⟨g1, g2, g3⟩ := HST.out i hi
      have hfi := hR.file _ (hE i hi)
      rw [g1] at hfi
      refine ⟨_, 0, by rw [e1]; exact hfi, ?_⟩
      rcases g3 with g3 | ⟨mini, q, K, ch, off, g4, g5⟩
      · exact .inl g3
      · exact .inr ⟨mini, q, K, ch, off, 0, by rw [StrR, e4, e5, e6, e7, e8, e9]; exact g4, g5, by omega, by
          rcases g4.kind with ⟨_, g, _⟩ | ⟨_, g, _⟩
          · omega
          · have := hRS.ss_; omega⟩
    have hfb : ∀ i, i < t.order.length → fk (t.order.getD i 0) ∉ R.bl ∧ fk (t.order.getD i 0) < w1.heap.size ∧ fk (t.order.getD i 0) ≠ rb ∧ fk (t.order.getD i 0) ≠ gb ∧ fk (t.order.getD i 0) ≠ 0 ∧ w.heap.size ≤ fk (t.order.getD i 0) := by
      intro i hi
      have hfi := hR.file _ (hE i hi)
      have hc0 : w1.cell? ⟨fk (t.order.getD i 0), 0, none⟩ = some (.string (P (t.order.getD i 0)).name) := hfi.cell 0
      have hb0 := hR.fileb _ (hE i hi)
      refine ⟨fun hm => ?_, hfi.lt, Blk.ne hfi hR.rd (by decide), fun h => ?_, by omega, by have := hf0.size; omega⟩
      · rcases (hbl _ hm).2 with h | h | h | h | ⟨v, h⟩
        · exact Blk.ne hfi hR.rd (by decide) h
        · rw [h, hS.sc] at hc0; cases hc0
        · rw [h, hS.bytes 0 (by have := hF.n0; omega)] at hc0; cases hc0
        · rcases h with h | h
          · exact Blk.ne hfi hR.hd (by decide) h
          · exact Blk.ne hfi hR.fd (by decide) h
        · rw [h] at hc0; cases hc0
      · rw [h] at hc0
        have := hR.files 0 (by omega)
        rw [this] at hc0; cases hc0
    have hgr : gb ≠ rb := by
      intro h
      have h1 := hR.files 0 (by omega)
      rw [h] at h1
      have h2 : w1.cell? ⟨rb, 0, none⟩ = some (.bool false) := hR.rd.cell 0
      rw [h2] at h1; cases h1
    have hgl : gb < w1.heap.size := World.block_lt_of_cell? _ _ (hR.files 0 (by omega))
    have hgs := hR.files
    have hrd := hR.rd
    have hf01 := hf0.trans0 hf1
    have hw1 := hf01.size
    have hinj : ∀ i j, i < j → j < t.order.length → fk (t.order.getD i 0) ≠ fk (t.order.getD j 0) := by
      intro i j hij hj he
      have hne : t.order.getD i 0 ≠ t.order.getD j 0 := by
        intro h
        rw [List.getD_eq_getElem?_getD, List.getD_eq_getElem?_getD, List.getElem?_eq_getElem hj, List.getElem?_eq_getElem (by omega)] at h
        exact (List.pairwise_iff_getElem.1 hF.t2) i j (by omega) hj hij (by simpa using h)
      rcases Nat.lt_or_ge (t.order.getD i 0) (t.order.getD j 0) with h | h
      · have := hR.filei _ _ h (hE j hj); omega
      · have := hR.filei (t.order.getD j 0) (t.order.getD i 0) (by omega) (hE i (by omega)); omega
    have hrb0 : rb ≠ 0 := by have := hR.rb_; omega
    have hrbw : w.heap.size ≤ rb := by have := hR.rb_; have := hf0.size; omega
    have hl100 : ∀ i, i < t.order.length → len i ≤ 100000 := fun i hi => (HST.out i hi).2.1
    clear hR hE hS hop HST HOP hF
    subst e1 e2
    have HFL := Lib.hid hfl
    have HFB := Lib.hid hfb
    have HGS := Lib.hid hgs
    have HINJ := Lib.hid hinj
    have HRD := Lib.hid hrd
    have HRS := Lib.hid hRS
    have HBL := Lib.hid hbl
    have HF01 := Lib.hid hf01
    have HL1 := Lib.hid hl100
    clear hfl hfb hgs hinj hrd hRS hbl hf01 hl100 hf0 hf1 hsum
    have hjz : decide ((0 : Int) < 0) = false := rfl
    go_wp2_with fail
    go_loopw [12] (fun s12 wr => ∃ (k : Nat) (rv : Nat → Value), k + 1 ≤ t.order.length ∧ Fr [] w wr ∧ w1.heap.size ≤ wr.heap.size ∧ Blk wr R.rb 91 (rdCells ss (.slice (some ⟨ub', 0, none⟩) ul uc) (.pointer (some ⟨hb, 0, none⟩)) (.slice (some ⟨gb, 0, none⟩) t.order.length (m * (ss / 128))) (.slice (some ⟨dg, 0, none⟩) (m * (ss / 128)) dcap) (k : Nat) R.sb .nilIface) ∧
      RdS wr R F ∧ (∀ i, i < t.order.length → wr.cell? ⟨gb, i, none⟩ = some (.pointer (some ⟨fk (t.order.getD i 0), 0, none⟩))) ∧
      (∀ i, k < i → i < t.order.length → FAt wr R F (fk (t.order.getD i 0)) (P (t.order.getD i 0)).name (P (t.order.getD i 0)).init (pv (t.order.getD i 0)) (dk (t.order.getD i 0)) (len i) (dat i) 0) ∧
      (∀ i, i < t.order.length → ∃ l, Blk wr (fk (t.order.getD i 0)) 95 l) ∧
      wr.ownsRow w1.heap.size 53 2 s12 k (walkRow (fun i => (P (t.order.getD (i + 1) 0)).name) rv k) ∧ ∀ i, i < k → ReadsIs wr w1.heap.size (rv i) us (len (i + 1)) (dat (i + 1)) j) (fun _ wr => t.order.length - (intOf ((wr.cell? ⟨R.rb, 6, none⟩).getD undef)).toNat)
    case atStart =>
      refine ⟨0, fun _ => .nilIface, by omega, HF01.out, Nat.le_refl _, HRD.out, HRS.out, HGS.out, fun i _ hi => HFL.out i hi, fun i hi => ?_, World.ownsRow_nil _ _ _ _, fun i hi => absurd hi (Nat.not_lt_zero _)⟩
      obtain ⟨c, r, h, _⟩ := HFL.out i hi
      exact ⟨_, h⟩
    case round =>
      obtain ⟨k, rv, hk, hf, hws, hrb, hRr, hgs, hfa, hfbk, hown, hrds⟩ := hrel
      by_cases hkt : k + 1 < t.order.length
      case neg =>
        have hevr := hf.cell0 HEV.out
        have hnx := next_end R.rb gb t.order.length (m * (ss / 128)) k ss (.slice (some ⟨ub', 0, none⟩) ul uc) (.pointer (some ⟨hb, 0, none⟩)) (.slice (some ⟨dg, 0, none⟩) (m * (ss / 128)) dcap) .nilIface _ R.sb wr hrb (by omega) (by omega) hevr hrb0
        have HNX := Lib.hid hnx
        have hrl := Blk.lt hrb
        have hk1 : k = t.order.length - 1 := by omega
        have hnr : R.rb ∉ u12.ownBlock.toList := own_ne hown hrb (by decide)
        have HH := Lib.hid (And.intro hf (And.intro hown (And.intro hrds hrb)))
        clear hnx hf hown hrds hrb hRr hgs hfa hfbk
        go_wp2_with fail
        refine HNX.out.mono ?_
        rintro e w2 ⟨rfl, hf2⟩
        have HF2 := Lib.hid hf2
        clear hf2
        go_wp2_with fail
        refine (code_eof _ _).mono ?_
        rintro e w3 ⟨rfl, hf3⟩
        have HF3 := Lib.hid hf3
        clear hf3
        go_wp2_with fail
        go_ret2
        obtain ⟨a1, a2, a3, a4⟩ := HH.out
        have hfr := HF2.out.trans0 HF3.out
        refine ⟨a1.trans hfr (by simp; omega), u12, rfl, rv, ?_, ?_⟩
        · rw [← hk1]
          exact own_mono (own_fr a2 hfr (fun x hx hm => hnr (by simp at hm; rw [hx]; simp [hm]))) hw1
        · intro i hi
          refine ((a3 i (by omega)).fr hfr (fun x hx => ?_)).mono hw1
          simp at hx
          subst hx
          exact .inr (.inr ⟨_, _, a4, by decide, by decide⟩)
      have hgk := hgs (k + 1) hkt
      obtain ⟨b1, b2, b3, b4, b5, b6⟩ := HFB.out (k + 1) hkt
      have hfk := hfa (k + 1) (by omega) hkt
      have hlk := HL1.out (k + 1) hkt
      generalize he0 : t.order.getD (k + 1) 0 = e0 at *
      have hnx := next_any R.rb gb t.order.length (m * (ss / 128)) k ss (fk e0) (.slice (some ⟨ub', 0, none⟩) ul uc) (.pointer (some ⟨hb, 0, none⟩)) (.slice (some ⟨dg, 0, none⟩) (m * (ss / 128)) dcap) .nilIface R.sb wr hrb hkt (by omega) hgk hgr
      have HNX := Lib.hid hnx
      have hrl := Blk.lt hrb
      have hnr : R.rb ∉ u12.ownBlock.toList := own_ne hown hrb (by decide)
      have HH := Lib.hid (And.intro hf (And.intro hown (And.intro hrds (And.intro hRr (And.intro hgs (And.intro hfa hfbk))))))
      have HFK := Lib.hid hfk
      have HRB := Lib.hid hrb
      have HE0 := Lib.hid he0
      clear hnx hf hown hrds hRr hgs hfa hfbk hgk hfk he0 hrb
      go_wp2_with fail
      refine HNX.out.mono ?_
      rintro e w2 ⟨rfl, hf2, hrb2⟩
      obtain ⟨a1, a2, a3, a4, a5, a6, a7⟩ := HH.out
      have hR2 := a4.step6 HRB.out hrb2 hf2
      have HR2 := Lib.hid hR2
      clear hR2
      have hfk2 := HFK.out.fr hf2 (by simpa using b3)
      obtain ⟨cc, rr, hF2, hA2⟩ := hfk2
      have f0 : w2.cell? ⟨fk e0, 0, none⟩ = some (.string (P e0).name) := hF2.cell 0
      have HF2 := Lib.hid hf2
      have HRB2 := Lib.hid hrb2
      have HA2 := Lib.hid hA2
      have HFF2 := Lib.hid hF2
      have hs2 := hf2.size
      clear a1 a2 a3 a4 a5 a6 a7 hf2 hrb2 hA2 hF2
      go_wp2_with fail
      have hf3 : Fr [] w2 (w2.alloc (Obj.cells #[.string (P e0).name, .slice none 0 0] 53)) := (Fr.refl _ _).alloc _
      have hwb : Blk (w2.alloc (Obj.cells #[.string (P e0).name, .slice none 0 0] 53)) w2.heap.size 53 [.string (P e0).name, .slice none 0 0] := Blk.new' _ _ _
      have hs3 : w2.heap.size < (w2.alloc (Obj.cells #[.string (P e0).name, .slice none 0 0] 53)).heap.size := by simp
      clear f0
      generalize w2.alloc (Obj.cells #[.string (P e0).name, .slice none 0 0] 53) = w3 at *
      generalize hwbn : w2.heap.size = wb at *
      have HF3 := Lib.hid hf3
      have HWB := Lib.hid hwb
      have HWBN := Lib.hid hwbn
      have hfw3 : Fr [] w w3 := (HH.out.1.trans (ms := []) HF2.out (by simp; omega)).trans0 hf3
      have HFW3 := Lib.hid hfw3
      have hwbw : w.heap.size ≤ wb := by have := HWBN.out; have := HH.out.1.size; omega
      have hwb1 : w1.heap.size ≤ wb := by have := HWBN.out; omega
      have hwbR : wb ∉ R.bl := fun h => by have := (HBL.out wb h).1; omega
      have hgwb : gb ≠ wb := by omega
      have hrbwb : R.rb ≠ wb := by have := HWBN.out; omega
      have hfwb : fk e0 ≠ wb := by omega
      clear hf3 hwb hwbn hfw3
      go_loopw [70] (fun s70 wq => ∃ (x : Nat) (dv : Nat → Value) (rv1 : Value), x ≤ j ∧ s70 = .int .i64 x ∧ Fr [fk e0, wb] w3 wq ∧ FAt wq R F (fk e0) (P e0).name (P e0).init (pv e0) (dk e0) (len (k + 1)) (dat (k + 1)) (rdTo us (len (k + 1)) x) ∧
        Blk wq wb 53 [.string (P e0).name, rv1] ∧ wq.ownsRow w3.heap.size 55 3 rv1 x (tellRow dv us (len (k + 1)) x) ∧
        ∀ y, y < x → wq.ownsRow w3.heap.size 5 1 (dv y) (cntAt (len (k + 1)) (rdTo us (len (k + 1)) y) (us y)) (tab (cntAt (len (k + 1)) (rdTo us (len (k + 1)) y) (us y)) (fun z => U8 (dat (k + 1) (rdTo us (len (k + 1)) y + z))))) (fun s70 _ => j - (intOf s70).toNat)
      case atStart =>
        refine ⟨0, fun _ => .nilIface, .slice none 0 0, by omega, rfl, Fr.refl _ _, ?_, HWB.out, World.ownsRow_nil _ _ _ _, fun y hy => absurd hy (Nat.not_lt_zero _)⟩
        rw [rdTo_zero]
        exact ⟨cc, rr, Blk.fr0 HFF2.out HF3.out, HA2.out⟩
      case round =>
        obtain ⟨x, dv, rv1, hx, rfl, hfq, hAq, hwq, hown1, hdv⟩ := hrel
        by_cases hxj : x < j
        case neg =>
          obtain rfl : x = j := by omega
          have hxI : ¬ (x : Int) < (x : Int) := by omega
          obtain ⟨ra, rc, rfl⟩ := own_slice hown1
          obtain ⟨i53, z53, hi53, hz530, hz531, hz532, hz533⟩ := info_parts3 info53
          obtain ⟨a1, a2, a3, a4, a5, a6, a7⟩ := HH.out
          obtain ⟨lk, hlkb⟩ := a7 (k + 1) hkt
          rw [HE0.out] at hlkb
          have hnk : fk e0 ∉ u12.ownBlock.toList := own_ne a2 hlkb (by decide)
          have hlt12 : ∀ y, y ∈ u12.ownBlock.toList → w1.heap.size ≤ y ∧ y < wb := fun y hy => by
            have h1 := a2.lt y (by simpa using hy)
            exact ⟨h1.1, by omega⟩
          have hnw : wb ∉ u12.ownBlock.toList := fun h => by have := (hlt12 _ h).2; omega
          have hq0 : Fr [R.rb, fk e0] _ wr := ((HF2.out.mono (ms' := [R.rb, fk e0]) (by simp)).trans0 HF3.out).trans (ms' := [fk e0, wb]) hfq (by intro y hy; simp at hy; rcases hy with rfl | rfl; exact .inl (by simp); exact .inr (by have := HWBN.out; omega))
          have ho1 : wr.ownsRow w1.heap.size 53 2 u12 k _ := own_fr a2 hq0 (fun y hy hm => by
            simp at hm
            rcases hm with rfl | rfl
            · exact hnr (by rw [hy]; simp)
            · exact hnk (by rw [hy]; simp))
          have ho2 := own_fr0 ho1 ((Fr.refl [] wr).alloc (Obj.cells #[.string (P e0).name, .slice ra x rc] 53))
          have hqs := hfq.size
          have hbs2 : w1.heap.size ≤ (wr.alloc (Obj.cells #[.string (P e0).name, .slice ra x rc] 53)).heap.size := by simp; omega
          have HX := Lib.hid (And.intro hq0 (And.intro hfq (And.intro hAq (And.intro hown1 (And.intro hdv ho1)))))
          have h63 : k + 1 ≤ maxLen := by unfold maxLen; omega
          clear a1 a2 a3 a4 a5 a6 a7 hq0 hfq hAq hown1 hdv ho1 hlkb
          go_wp2_with (first
            | (refine wpList_load_blk rfl 53 (.tmp 15) rfl wb 0 rfl 53 _ hwq _ Tryd.underlying53 rfl 2 (by kernel_rfl) (by simp) #[.string (P e0).name, .slice ra x rc] rfl ?_)
            | (refine wpList_build_one rfl 48 53 (.tmp 97) rfl #[.string (P e0).name, .slice ra x rc] rfl Tryd.underlying48 i53 z53 hi53 hz530 2 hz531 rfl (by decide) (by decide) ?_)
            | (at_builtin; refine wpList_append_own _ rfl (.tmp 96) (.tmp 98) 48 rfl w1.heap.size 53 i53 z53 2 40 Tryd.underlying48 hi53 hz530 hz531 hz532 hz533 (by decide) u12 k _ rfl ho2 ⟨wr.heap.size, 0, none⟩ 1 1 [.string (P e0).name, .slice ra x rc] rfl rfl (news2 _ _ _ rfl) ?c2 h63 ?c4 hbs2 ?c6))
          case c2 => exact ⟨rfl, rfl⟩
          case c4 => omega
          intro v9 w9 hown9 hg9 _
          obtain ⟨hq0, hfq, hAq, hown1, hdv, ho1⟩ := HX.out
          obtain ⟨a1, a2, a3, a4, a5, a6, a7⟩ := HH.out
          have hal : Fr [] wr (wr.alloc (Obj.cells #[.string (P e0).name, .slice ra x rc] 53)) := (Fr.refl _ _).alloc _
          have hT : Fr (R.rb :: fk e0 :: u12.ownBlock.toList) _ w9 := ((hq0.trans0 hal).mono (ms' := R.rb :: fk e0 :: u12.ownBlock.toList) (by intro y hy; simp at hy; rcases hy with rfl | rfl <;> simp)).trans_same ((Fr.of_grown hg9).mono (fun y hy => .inl (by simp [hy])))
          have hT3 : Fr (fk e0 :: wb :: u12.ownBlock.toList) w3 w9 := ((hfq.trans0 hal).mono (ms' := fk e0 :: wb :: u12.ownBlock.toList) (by intro y hy; simp at hy; rcases hy with rfl | rfl <;> simp)).trans_same ((Fr.of_grown hg9).mono (fun y hy => .inl (by simp [hy])))
          have hTw : Fr u12.ownBlock.toList wr w9 := (hal.mono (by simp)).trans (Fr.of_grown hg9) (fun y hy => .inl hy)
          have hrd9 := (HRB2.out.fr0 HF3.out).fr hT3 (by simp; exact ⟨fun h => b3 h.symm, hrbwb, fun h => hnr (by simpa using h)⟩)
          have hR9 := (HR2.out.fr0 HF3.out).fr hT3 (fun y hy => by
            simp
            exact ⟨fun h => b1 (h ▸ hy), fun h => hwbR (h ▸ hy), fun h => by have := (hlt12 y (by simpa using h)).1; have := (HBL.out y hy).1; omega⟩)
          have hfin : Fr [] w w9 := a1.trans (ms := []) hT (by intro y hy; simp at hy; rcases hy with rfl | rfl | hy; exact .inr hrbw; exact .inr b6; exact .inr (by have := (hlt12 y (by simpa using hy)).1; omega))
          have hs9 := hT.size
          have hgs9 : ∀ i, i < t.order.length → w9.cell? ⟨gb, i, none⟩ = some (.pointer (some ⟨fk (t.order.getD i 0), 0, none⟩)) := fun i hi => hT.cell (by
            simp
            exact ⟨hgr, fun h => b4 h.symm, fun h => by have := (hlt12 gb (by simpa using h)).1; omega⟩) (a5 i hi)
          have hnot : ∀ i, i < t.order.length → i ≠ k + 1 → fk (t.order.getD i 0) ∉ (R.rb :: fk e0 :: u12.ownBlock.toList) := by
            intro i hi hik
            obtain ⟨c1, c2, c3, c4, c5, c6⟩ := HFB.out i hi
            simp
            refine ⟨c3, fun h => ?_, fun h => by have := (hlt12 _ (by simpa using h)).1; have := c2; simp at *; omega⟩
            rw [← HE0.out] at h
            rcases Nat.lt_or_ge i (k + 1) with hlt | hge
            · exact HINJ.out i (k + 1) hlt hkt (by simpa using h)
            · exact HINJ.out (k + 1) i (by omega) hi (by simpa using h.symm)
          have hfa9 : ∀ i, k + 1 < i → i < t.order.length → FAt w9 R F (fk (t.order.getD i 0)) (P (t.order.getD i 0)).name (P (t.order.getD i 0)).init (pv (t.order.getD i 0)) (dk (t.order.getD i 0)) (len i) (dat i) 0 := fun i h1 h2 => (a6 i (by omega) h2).fr hT (hnot i h2 (by omega))
          have hfb9 : ∀ i, i < t.order.length → ∃ l, Blk w9 (fk (t.order.getD i 0)) 95 l := by
            intro i hi
            by_cases hik : i = k + 1
            · subst hik
              obtain ⟨c1, c2, c3, _⟩ := hAq
              rw [HE0.out]
              exact ⟨_, Blk.fr c3 hTw hnk⟩
            · obtain ⟨l, hl⟩ := a7 i hi
              exact ⟨l, hl.fr hT (hnot i hi hik)⟩
          have hrds9 : ∀ i, i < k → ReadsIs w9 w1.heap.size (rv i) us (len (i + 1)) (dat (i + 1)) x := by
            intro i hi
            refine (a3 i hi).fr hT (fun y hy => ?_)
            simp at hy
            rcases hy with rfl | rfl | hy
            · exact .inr (.inr ⟨_, _, HRB.out, by decide, by decide⟩)
            · obtain ⟨l, hl⟩ := a7 (k + 1) hkt
              rw [HE0.out] at hl
              exact .inr (.inr ⟨_, _, hl, by decide, by decide⟩)
            · obtain ⟨l, hl⟩ := own_has a2 (by simpa using hy)
              exact .inr (.inr ⟨_, _, hl, by decide, by decide⟩)
          have hnew : ReadsIs w9 w1.heap.size (.slice ra x rc) us (len (k + 1)) (dat (k + 1)) x := by
            have h1 : ReadsIs wr w3.heap.size (.slice ra x rc) us (len (k + 1)) (dat (k + 1)) x := ⟨dv, hown1, hdv⟩
            refine (h1.fr hTw (fun y hy => .inl ?_)).mono (by omega)
            have := (hlt12 y hy).2
            omega
          have hrow : w9.ownsRow w1.heap.size 53 2 v9 (k + 1) (walkRow (fun i => (P (t.order.getD (i + 1) 0)).name) (fun i => if i = k then .slice ra x rc else rv i) (k + 1)) := by
            rw [walkRow_succ, walkRow_congr (rv' := rv) _ k (fun i hi => if_neg (by omega)), if_pos rfl, HE0.out]
            exact hown9
          have HFIN := Lib.hid (And.intro hfin (And.intro hrd9 (And.intro hR9 (And.intro hgs9 (And.intro hfa9 (And.intro hfb9 (And.intro hrow (And.intro hrds9 hnew))))))))
          have hwk : w1.heap.size ≤ w9.heap.size := by omega
          have hm6 : intOf ((w9.cell? ⟨R.rb, 6, none⟩).getD undef) = ((k + 1 : Nat) : Int) := by rw [show w9.cell? ⟨R.rb, 6, none⟩ = some (.int .i64 ((k + 1 : Nat) : Int)) from hrd9.cell 6]; rfl
          have hm60 := HRB.out.cell 6
          have HM := Lib.hid (And.intro hm6 hm60)
          clear hfin hrd9 hR9 hgs9 hfa9 hfb9 hrow hrds9 hnew hm6 hm60 hnot hT hT3 hTw hal hq0 hfq hAq hown1 hdv ho1 a1 a2 a3 a4 a5 a6 a7 hown9 hg9
          go_wp2_with fail
          obtain ⟨f1, f2, f3, f4, f5, f6, f7, f8, f9⟩ := HFIN.out
          refine ⟨⟨k + 1, fun i => if i = k then .slice ra x rc else rv i, by omega, f1, hwk, f2, f3, f4, f5, f6, f7, fun i hi => ?_⟩, ?_⟩
          · dsimp only
            by_cases hik : i = k
            · subst hik
              rw [if_pos rfl]
              exact f9
            · rw [if_neg hik]
              exact f8 i (by omega)
          · have hm1 := HM.out.1
            have hm2 := HM.out.2
            rw [hm1, hm2]
            simp [rdCells, intOf]
            omega
        have hxI : (x : Int) < (j : Int) := by omega
        have hfwq : Fr [] w wr := HFW3.out.trans (ms := []) hfq (by simp; omega)
        obtain rfl := HUA.out (by omega)
        have hu := hfwq.cell0 (HUS.out x hxj)
        obtain ⟨hu1, hu2⟩ := HUB.out x hxj
        have hmk := make_buf (us x) (by omega)
        obtain ⟨cnt, hcnt⟩ : ∃ c, c = cntAt (len (k + 1)) (rdTo us (len (k + 1)) x) (us x) := ⟨_, rfl⟩
        have hcu : cnt ≤ us x := by rw [hcnt]; exact Nat.min_le_left _ _
        have hqs := hfq.size
        have hal : Fr [] wr (wr.alloc (.cells (tab (us x) (fun _ => .int .u8 0)).toArray 5)) := (Fr.refl _ _).alloc _
        have hpB : Blk (wr.alloc (.cells (tab (us x) (fun _ => .int .u8 0)).toArray 5)) wr.heap.size 5 (tab (us x) (fun _ => .int .u8 0)) := Blk.new wr 5 _
        have h3q : Fr [fk e0, wb] w3 (wr.alloc (.cells (tab (us x) (fun _ => .int .u8 0)).toArray 5)) := hfq.trans0 hal
        have hrd := rread_any gb t.order.length (m * (ss / 128)) (k + 1) ss (.slice (some ⟨ub', 0, none⟩) ul uc) (.pointer (some ⟨hb, 0, none⟩)) (.slice (some ⟨dg, 0, none⟩) (m * (ss / 128)) dcap) .nilIface R F (fk e0) wr.heap.size (us x) (rdTo us (len (k + 1)) x) (dk e0) (P e0).init (len (k + 1)) (P e0).name (pv e0) (.iface 187 (.pointer (some ⟨eb, eo, none⟩))) (dat (k + 1)) (tab (us x) (fun _ => .int .u8 0)) _
          ((HRB2.out.fr0 HF3.out).fr h3q (by simp; omega)) hkt (by omega) (h3q.cell (by simp; omega) (HF3.out.cell0 (HF2.out.cell (by simp; omega) (by have := HH.out.2.2.2.2.1 (k + 1) hkt; rw [HE0.out] at this; exact this))))
          ((HR2.out.fr0 HF3.out).fr h3q (fun x hx => by simp; exact ⟨fun h => b1 (h ▸ hx), fun h => hwbR (h ▸ hx)⟩)) (hAq.fr hal (by simp)) b1 (fun h => by have := (HBL.out _ h).1; omega) (fun x hx => by have := (HBL.out x hx).1; have := hal.size; omega) hu1 (rdTo_le _ _ _) hlk hpB (by simp) (by omega)
          (hal.cell0 (hfwq.cell0 HEV.out)) ⟨b5, by omega⟩ ⟨fun h => b4 h.symm, by omega⟩ ⟨fun h => b3 h.symm, by omega⟩
        rw [← hcnt] at hrd
        have HCN := Lib.hid hcnt
        have HRDQ := Lib.hid hrd
        have HQ := Lib.hid (And.intro hfwq (And.intro h3q (And.intro hwq (And.intro hown1 hdv))))
        have HAL := Lib.hid hal
        clear hrd hcnt hfwq h3q hwq hown1 hdv hal hpB hAq hfq
        go_wp2_with fail
        refine HRDQ.out.mono ?_
        rintro e w5 ⟨ex, rfl, hex, hf5, hA5, l5, hl5, hl5n, hl5b⟩
        obtain ⟨ra, rc, rfl⟩ := own_slice HQ.out.2.2.2.1
        have hBw : Blk w5 wb 53 [.string (P e0).name, .slice ra x rc] := (HQ.out.2.2.1.fr0 HAL.out).fr hf5 (by simp; omega)
        have hown5 : w5.ownsRow w3.heap.size 55 3 (.slice ra x rc) x (tellRow dv us (len (k + 1)) x) := by
          refine own_fr (own_fr0 HQ.out.2.2.2.1 HAL.out) hf5 (fun y hy hm => ?_)
          have h1 := HQ.out.2.2.2.1.lt y hy
          simp at hm
          omega
        have hdv5 : ∀ y, y < x → w5.ownsRow w3.heap.size 5 1 (dv y) (cntAt (len (k + 1)) (rdTo us (len (k + 1)) y) (us y)) (tab (cntAt (len (k + 1)) (rdTo us (len (k + 1)) y) (us y)) (fun z => U8 (dat (k + 1) (rdTo us (len (k + 1)) y + z)))) := by
          intro y hy
          refine own_fr (own_fr0 (HQ.out.2.2.2.2 y hy) HAL.out) hf5 (fun v hv hm => ?_)
          have h1 := (HQ.out.2.2.2.2 y hy).lt v hv
          simp at hm
          omega
        have hq5 : Fr [fk e0, wb] w3 w5 := HQ.out.2.1.trans (ms' := [fk e0, wr.heap.size]) hf5 (by simp; omega)
        have hs5 := hq5.size
        obtain ⟨kc, hkc⟩ : ∃ kc : Nat, kc = if cnt = us x then 0 else 6 := ⟨_, rfl⟩
        have hcode : ∀ w', Calls Tryd.prog 38 #[ex] w' fun e w'' => e = .returned (.int .i64 (kc : Nat)) ∧ Fr [] w' w'' := fun w' => by rw [hkc]; exact code_ex cnt (us x) _ ex ⟨eb, eo, none⟩ rfl hex w'
        have hnews : ∀ y u, (tab cnt (fun z => U8 (dat (k + 1) (rdTo us (len (k + 1)) x + z))))[y]? = some u → w5.drew.cell? ((⟨wr.heap.size, 0, none⟩ : Addr).add y) = some u := by
          intro y u hy
          rw [tab_get?] at hy
          split at hy
          · rename_i hyc
            simp at hy; subst hy
            rw [Addr.add_mid, Nat.zero_add]
            exact (hl5.cell y).trans (hl5b y hyc)
          · cases hy
        have hone : ∀ u ∈ tab cnt (fun z => U8 (dat (k + 1) (rdTo us (len (k + 1)) x + z))), u.oneCell' = true := by
          intro u hu
          obtain ⟨y, hy⟩ := List.getElem?_of_mem hu
          rw [tab_get?] at hy
          split at hy
          · simp at hy; subst hy; rfl
          · cases hy
        have hlen1 : (tab cnt (fun z => U8 (dat (k + 1) (rdTo us (len (k + 1)) x + z)))).length = cnt * 1 := by simp
        obtain ⟨i5, hi5, hz50, hz51, hz52⟩ := info_parts info5
        obtain ⟨i55, z55, hi55, hz550, hz551, hz552, hz553⟩ := info_parts3 info55
        have HI5 := Lib.hid (And.intro hi5 (And.intro hz50 (And.intro hz51 hz52)))
        have HI55 := Lib.hid (And.intro hi55 (And.intro hz550 (And.intro hz551 (And.intro hz552 hz553))))
        have HNEWS := Lib.hid hnews
        have HONE := Lib.hid hone
        have HLEN := Lib.hid hlen1
        have HCODE := Lib.hid hcode
        have HKC := Lib.hid hkc
        have HW5 := Lib.hid hBw
        have HO5 := Lib.hid (And.intro hown5 hdv5)
        have HQ5 := Lib.hid hq5
        have HA5 := Lib.hid hA5
        have hx12 : x ≤ 12 := by omega
        have h63 : 0 + cnt ≤ maxLen := by unfold maxLen; omega
        have hby1 : (0 + cnt) * 1 ≤ 140737488355328 := by omega
        have h63b : x + 1 ≤ maxLen := by unfold maxLen; omega
        have hby2 : (x + 1) * 40 ≤ 140737488355328 := by omega
        have hcv : (cnt : Int) ≤ (us x : Int) := by omega
        have k5 : w5.drew.cell? ⟨wb, 1, none⟩ = some (.slice ra x rc) := hBw.drew.cell 1
        have hcnt9 : cnt ≤ 1000000 := by omega
        clear hi5 hz50 hz51 hz52 hi55 hz550 hz551 hz552 hz553 hnews hone hlen1 hcode hkc hown5 hdv5 hq5 hA5 hex hf5 hl5 hl5n hl5b hBw HQ HAL
        go_upto_region 24 with (fail)
        go_region_law (first
          | (refine step_append_own rfl (.const (.slice none 0 0)) (.tmp 86) 23 rfl w3.heap.size 5 i5 (.int .u8 0) 1 1 Tryd.underlying23 HI5.out.1 HI5.out.2.1 HI5.out.2.2.1 HI5.out.2.2.2 rfl (by decide) (.slice none 0 0) 0 [] rfl (own_nil _ _ _ _) ⟨wr.heap.size, 0, none⟩ cnt (us x) (tab cnt (fun z => U8 (dat (k + 1) (rdTo us (len (k + 1)) x + z)))) rfl HLEN.out HNEWS.out HONE.out h63 hby1 hs5 ?_
             rintro v6 w6 hr6 hg6
             rw [Nat.zero_add, List.nil_append] at hr6
             obtain ⟨a6, c6, rfl⟩ := own_slice hr6
             have hf6 : Fr [] w5.drew w6 := Fr.of_grown hg6
             have k6 : w6.cell? ⟨wb, 1, none⟩ = some (.slice ra x rc) := hf6.cell0 k5
             have H6 := Lib.hid (And.intro hr6 ((Fr.refl [] w5).drew.trans0 hf6))
             clear hr6 hg6 hf6)
          | (refine step_code rfl (.tmp 89) 104 rfl ex kc rfl (HCODE.out _) ?_
             rintro w7 hf7
             have k7 : w7.cell? ⟨wb, 1, none⟩ = some (.slice ra x rc) := hf7.cell0 k6
             have k7a : (w7.alloc (Obj.cells #[.slice a6 cnt c6, .int .i64 ((cnt : Nat) : Int), .int .i64 ((kc : Nat) : Int)] 55)).cell? ⟨wb, 1, none⟩ = some (.slice ra x rc) := ((Fr.refl [] w7).alloc _).cell0 k7
             have hf57 : Fr [] w5 (w7.alloc (Obj.cells #[.slice a6 cnt c6, .int .i64 ((cnt : Nat) : Int), .int .i64 ((kc : Nat) : Int)] 55)) := (H6.out.2.trans0 hf7).alloc _
             have HO7 := Lib.hid (own_fr0 HO5.out.1 hf57)
             have hb7 : w3.heap.size ≤ (w7.alloc (Obj.cells #[.slice a6 cnt c6, .int .i64 ((cnt : Nat) : Int), .int .i64 ((kc : Nat) : Int)] 55)).heap.size := Nat.le_trans hs5 hf57.size
             have H7 := Lib.hid (And.intro hf7 hf57)
             clear hf7 hf57)
          | (refine step_append_own rfl (.tmp 83) (.tmp 92) 51 rfl w3.heap.size 55 i55 z55 3 40 Tryd.underlying51 HI55.out.1 HI55.out.2.1 HI55.out.2.2.1 HI55.out.2.2.2.1 HI55.out.2.2.2.2 (by decide) (.slice ra x rc) x _ rfl HO7.out ⟨w7.heap.size, 0, none⟩ 1 1 [.slice a6 cnt c6, I64 cnt, I64 kc] rfl rfl (news2 _ _ _ rfl) (tell_one _ _ _ _ _) h63b hby2 hb7 ?_
             rintro v8 w8 hr8 hg8
             obtain ⟨a8, c8, rfl⟩ := own_slice hr8
             have hl8 := tell_last H7.out.2 (Fr.of_grown hg8) HO5.out.1 HW5.out
             have k8 : w8.cell? ⟨wb, 1, none⟩ = some (.slice ra x rc) := hl8.1.cell 1
             have z8 : w8.frozen? ⟨wb, 1, none⟩ = false := hl8.1.frozen 1
             have H8 := Lib.hid (And.intro hr8 (And.intro (Fr.of_grown hg8) hl8))
             clear hr8 hg8 hl8))
        all_goals
          go_wp2_with fail
          go_roundw
          case rel =>
            obtain ⟨hr8, hg8, hB8, hf58⟩ := H8.out
            have hB9 : Blk (w8.setCell ⟨wb, 1, none⟩ (.slice a8 (x + 1) c8)) wb 53 [.string (P e0).name, .slice a8 (x + 1) c8] := hB8.set 1 _
            have hcn := HCN.out
            have hkc := HKC.out
            refine ⟨x + 1, fun y => if y = x then .slice a6 cnt c6 else dv y, .slice a8 (x + 1) c8, by omega, by go_num, ?_, ?_, hB9, ?_, ?_⟩
            · exact (HQ5.out.trans (ms := [fk e0, wb]) hf58 (fun y hy => .inr (HO5.out.1.lt y (by simpa using hy)).1)).setCell (.inl (by simp)) _
            · rw [rdTo_succ, ← hcn]
              exact (HA5.out.fr hf58 (fun hy => by have := (HO5.out.1.lt _ (by simpa using hy)).1; omega)).fr ((Fr.refl [wb] w8).setCell (.inl (by simp)) _) (by simpa using hfwb)
            · have e1 : tellRow (fun y => if y = x then Value.slice a6 cnt c6 else dv y) us (len (k + 1)) (x + 1) = tellRow dv us (len (k + 1)) x ++ [.slice a6 cnt c6, I64 cnt, I64 kc] := by
                rw [tellRow_succ, tellRow_congr us (len (k + 1)) x (dv' := dv) (fun y hy => if_neg (by omega)), if_pos rfl, ← hcn, hkc]
              rw [e1]
              exact own_set53 hr8 hB8 (by decide)
            · intro y hy
              dsimp only
              by_cases hyx : y = x
              · subst hyx
                rw [if_pos rfl, ← hcn]
                have h1 := own_fr0 H6.out.1 (H7.out.1.alloc (Obj.cells #[.slice a6 cnt c6, .int .i64 ((cnt : Nat) : Int), .int .i64 ((kc : Nat) : Int)] 55))
                exact own_set53 (own_fr h1 hg8 (own_sep h1 HO7.out (by decide))) hB8 (by decide)
              · rw [if_neg hyx]
                have h1 := HO5.out.2 y (by omega)
                exact own_set53 (own_fr h1 hf58 (own_sep h1 HO5.out.1 (by decide))) hB8 (by decide)
          case measure => simp [intOf]; omega
end Go.Proofs.YtokpomdfgbbhlaaDoor

/- The contract of opened over a sound file, with the row that holds its copy. -/
namespace Go.Proofs.YtokpomdfgbbhlaaDoor
open Go Go.RowKit Go.Maps

set_option maxRecDepth 100000 in
set_option maxHeartbeats 1000000 in
theorem opened_blk (ab ao n ncap ss m mn mm : Nat) (F : Nat → UInt8) (cs mf ms : Nat → Nat) (P : Nat → EntP) (t : Tr) (w : World) (hB : ∀ i, i < n → w.cell? ⟨ab, ao + i, none⟩ = some (U8 (F i)))
    (hF : FileOK F n ss m cs P t mn mm mf ms) (hn : n ≤ 131072)
    (hp : ∀ i, 65 ≤ i → i ≤ 90 → w.cell? ⟨2, i, none⟩ = some (.int .u8 160)) (h2w : 2 < w.heap.size) :
    Calls Tryd.prog 27 #[.slice (some ⟨ab, ao, none⟩) n ncap] w fun e w' =>
      ∃ (base sb bb cap rb hb fb gb dg dcap ub ul uc : Nat) (fk dk : Nat → Nat) (pv : Nat → Value) (mfv msv : Value), e = .returned (.tuple #[.pointer (some ⟨rb, 0, none⟩), .pointer (some ⟨sb, 0, none⟩), .int .i64 0]) ∧ Fr [] w w' ∧
        w.heap.size ≤ bb ∧ w.heap.size ≤ sb ∧ bb < base ∧ sb < base ∧ bb ≠ sb ∧ Src w' sb bb n cap F ∧ (∃ l, Blk w' bb 5 l ∧ n ≤ l.length) ∧ Blk w' sb 113 [.slice (some ⟨bb, 0, none⟩) n cap] ∧ RdOK w' base rb sb F ss m cs P t mn mm mf ms hb fb gb dg dcap ub ul uc fk dk pv mfv msv := by
  obtain ⟨i0, hi, hz0, hz1, hz2⟩ := info_parts info5
  have hn0 := hF.n0
  have hnI : decide ((131072 : Int) < n) = false := by simp; omega
  have hnN : decide (131072 < n) = false := by simp; omega
  go_enter Tryd.func27, Tryd.ntmps27
  go_wp2_with (at_builtin; refine wpList_append_own _ rfl _ (.tmp 11) 23 rfl w.heap.size 5 i0 (.int .u8 0) 1 1 Tryd.underlying23 hi hz0 hz1 hz2 rfl (by decide) (.slice none 0 0) 0 [] rfl (World.ownsRow_nil _ _ _ _) ⟨ab, ao, none⟩ n ncap (tab n (fun i => U8 (F i))) rfl ?c1 ?c2 ?c3 ?c4 ?c5 (Nat.le_refl _) ?c6)
  case c1 => simp
  case c2 =>
    intro j u hj
    rw [tab_get?] at hj
    split at hj
    · rename_i hjn
      simp at hj; subst hj
      rw [Addr.add_mid]
      exact hB j hjn
    · cases hj
  case c3 =>
    intro u hu
    obtain ⟨i, hi⟩ := List.getElem?_of_mem hu
    rw [tab_get?] at hi
    split at hi
    · simp at hi; subst hi; rfl
    · cases hi
  case c4 => unfold maxLen; omega
  case c5 => omega
  intro v' w1 hown hg _
  obtain ⟨bb, cap, l, rfl, hbb0, hbb, hbl, hc1, hc2⟩ := own_blk2 hown (by omega)
  have hf1 : Fr [] w w1 := Fr.of_grown hg
  have hbbl := hbb.lt
  have hw1 := hf1.size
  clear hown hg
  have hf2 : Fr [] w1 (w1.alloc (Obj.cells #[.slice (some ⟨bb, 0, none⟩) n cap] 113)) := (Fr.refl _ _).alloc _
  have hsb := Blk.new' w1 113 #[.slice (some ⟨bb, 0, none⟩) n cap]
  have hS2 : Src (w1.alloc (Obj.cells #[.slice (some ⟨bb, 0, none⟩) n cap] 113)) w1.heap.size bb n cap F :=
    ⟨hsb.cell 0, fun i hi => hf2.cell0 ((hbb.cell i).trans (hbl i hi)), hc1, hc2⟩
  have hcon := Lib.hid (new_ok w1.heap.size bb n cap ss m mn mm F cs mf ms P t _ hS2 hF (fun i a b => hf2.cell0 (hf1.cell0 (hp i a b))) (by have := hf2.size; omega))
  have hsz2 : (w1.alloc (Obj.cells #[.slice (some ⟨bb, 0, none⟩) n cap] 113)).heap.size = w1.heap.size + 1 := by simp
  clear hB hp
  go_wp2_with fail
  refine hcon.out.mono ?_
  rintro e w3 ⟨rb, hb, fb, gb, dg, dcap, ub, ul, uc, fk, dk, pv, mfv, msv, rfl, hf3, hR⟩
  go_wp2_with fail
  refine (code_nil _).mono ?_
  rintro e w4 ⟨rfl, rfl⟩
  go_wp2_with fail
  go_ret3
  exact ⟨_, w1.heap.size, bb, cap, rb, hb, fb, gb, dg, dcap, ub, ul, uc, fk, dk, pv, mfv, msv, rfl, (hf1.trans0 hf2).trans0 hf3, hbb0, hw1, by rw [hsz2]; omega, by rw [hsz2]; omega, by omega, hS2.fr0 hf3, ⟨l, hbb.fr0 (hf2.trans0 hf3), by have := (List.getElem?_eq_some_iff.1 (hbl (n - 1) (by omega))).1; omega⟩, hsb.fr0 hf3, hR⟩
end Go.Proofs.YtokpomdfgbbhlaaDoor

/- What steps with a File do, one behind the other; what they tell, in memory. -/
namespace Go.Proofs.YtokpomdfgbbhlaaDoor
open Go Go.RowKit Go.Maps

/-- A step. -/
structure Stp where
  kind : Nat
  n : Nat
  ofs : Int
  wh : Int
  m : Nat
  x : Nat → UInt8

/-- What a step told: a number, and bytes. -/
structure Tld where
  num : Nat
  cnt : Nat
  x : Nat → UInt8

/-- What a step does at place i of a stream of len bytes dat. -/
inductive Does (len : Nat) : Stp → Nat → (Nat → UInt8) → Nat → (Nat → UInt8) → Tld → Prop
  | read (i n : Nat) (dat : Nat → UInt8) : 1 ≤ n → n ≤ 200 → i + n ≤ len → Does len ⟨0, n, 0, 0, 0, fun _ => 0⟩ i dat (i + n) dat ⟨n, n, fun y => dat (i + y)⟩
  | seek (i abs : Nat) (ofs wh : Int) (dat : Nat → UInt8) : (wh = 0 ∧ ofs = (abs : Int)) ∨ (wh = 1 ∧ (i : Int) + ofs = (abs : Int)) → abs < len → -100000 ≤ ofs ∧ ofs ≤ 100000 → Does len ⟨1, 0, ofs, wh, 0, fun _ => 0⟩ i dat abs dat ⟨abs, 0, fun _ => 0⟩
  | readat (i abs n : Nat) (dat : Nat → UInt8) : 1 ≤ n → n ≤ 200 → abs + n ≤ len → Does len ⟨2, n, (abs : Int), 0, 0, fun _ => 0⟩ i dat i dat ⟨n, n, fun y => dat (abs + y)⟩
  | write (i m : Nat) (x dat : Nat → UInt8) : 1 ≤ m → m ≤ 200 → i + m ≤ len → Does len ⟨3, 0, 0, 0, m, x⟩ i dat (i + m) (turnD dat i m x) ⟨m, 0, fun _ => 0⟩
  | writeat (i abs m : Nat) (x dat : Nat → UInt8) : 1 ≤ m → m ≤ 200 → abs + m ≤ len → Does len ⟨4, 0, (abs : Int), 0, m, x⟩ i dat i (turnD dat abs m x) ⟨m, 0, fun _ => 0⟩

/-- A step's value; its bytes are the value dv. -/
def stpV (s : Stp) (dv : Value) : Array Value := #[.int .i64 (s.kind : Nat), .int .i64 (s.n : Nat), .int .i64 s.ofs, .int .i64 s.wh, dv]

def DvIs (w : World) (dv : Value) (s : Stp) : Prop := (s.m = 0 ∧ dv = .slice none 0 0) ∨ ∃ pb pc, 1 ≤ s.m ∧ dv = .slice (some ⟨pb, 0, none⟩) s.m pc ∧ s.m ≤ pc ∧ ∀ y, y < s.m → w.cell? ⟨pb, y, none⟩ = some (U8 (s.x y))

theorem DvIs.fr0 {w w' : World} {dv : Value} {s : Stp} (h : DvIs w dv s) (f : Fr [] w w') : DvIs w' dv s := by
  rcases h with h | ⟨pb, pc, h0, h1, h2, h3⟩
  · exact .inl h
  · exact .inr ⟨pb, pc, h0, h1, h2, fun y hy => f.cell0 (h3 y hy)⟩

theorem one_does {X : MX} {F dat dat' : Nat → UInt8} {i i' : Nat} {s : Stp} {t : Tld} {dv : Value} {w : World} (h : X.At F dat i w) (hd : Does X.len s i dat i' dat' t) (hv : DvIs w dv s) : OneIs X F dat i w (.agg (stpV s dv)) i' dat' t.num t.cnt t.x := by
  cases hd with
  | read _ n _ h1 h2 h3 =>
    rcases hv with ⟨_, rfl⟩ | ⟨pb, pc, h0, _⟩
    · exact one_read X F dat i n w h h1 h2 h3
    · exact absurd h0 (Nat.not_succ_le_zero 0)
  | seek _ abs ofs wh _ h1 h2 h3 =>
    rcases hv with ⟨_, rfl⟩ | ⟨pb, pc, h0, _⟩
    · exact one_seek X F dat i i' ofs wh w h h1 h2 h3
    · exact absurd h0 (Nat.not_succ_le_zero 0)
  | readat _ abs n _ h1 h2 h3 =>
    rcases hv with ⟨_, rfl⟩ | ⟨pb, pc, h0, _⟩
    · exact one_readat X F dat i n abs w h h1 h2 h3
    · exact absurd h0 (Nat.not_succ_le_zero 0)
  | write _ m x _ h1 h2 h3 =>
    rcases hv with ⟨h0, _⟩ | ⟨pb, pc, _, rfl, h4, h5⟩
    · exact absurd h1 (by dsimp only at h0; omega)
    · exact one_write X F dat x i m pb pc w h h1 h2 h3 h4 h5
  | writeat _ abs m x _ h1 h2 h3 =>
    rcases hv with ⟨h0, _⟩ | ⟨pb, pc, _, rfl, h4, h5⟩
    · exact absurd h1 (by dsimp only at h0; omega)
    · exact one_writeat X F dat x i abs m pb pc w h h1 h2 h3 h4 h5

/-- The cells of what steps told. -/
def toldRow (dv : Nat → Value) (td : Nat → Tld) (n : Nat) : List Value := (List.range n).flatMap (fun j => [dv j, .int .i64 ((td j).num : Nat), .int .i64 0])
theorem toldRow_succ (dv : Nat → Value) (td : Nat → Tld) (n : Nat) : toldRow dv td (n + 1) = toldRow dv td n ++ [dv n, .int .i64 ((td n).num : Nat), .int .i64 0] := by
  simp [toldRow, List.range_succ]
theorem toldRow_congr {dv dv' : Nat → Value} (td : Nat → Tld) (n : Nat) (h : ∀ j, j < n → dv j = dv' j) : toldRow dv td n = toldRow dv' td n := by
  induction n with
  | zero => rfl
  | succ n ih => rw [toldRow_succ, toldRow_succ, ih (fun j hj => h j (by omega)), h n (by omega)]

/-- What steps told, in memory. -/
def ToldIs (w : World) (base : Nat) (v : Value) (td : Nat → Tld) (n : Nat) : Prop :=
  ∃ dv : Nat → Value, w.ownsRow base 55 3 v n (toldRow dv td n) ∧ ∀ j, j < n → w.ownsRow base 5 1 (dv j) (td j).cnt (tab (td j).cnt (fun y => U8 ((td j).x y)))

/-- A reader that was opened, as streams' reading and writing see it. -/
theorem RdOK.rdB {w : World} {base rb sb : Nat} {F : Nat → UInt8} {ss m : Nat} {cs : Nat → Nat} {P : Nat → EntP} {t : Tr} {mn mm : Nat} {mf ms : Nat → Nat} {hb fb gb dg dcap ub ul uc : Nat} {fk dk : Nat → Nat} {pv : Nat → Value} {mfv msv : Value}
    (h : RdOK w base rb sb F ss m cs P t mn mm mf ms hb fb gb dg dcap ub ul uc fk dk pv mfv msv) {n bb cap : Nat} (hS : Src w sb bb n cap F) (hF : FileOK F n ss m cs P t mn mm mf ms) (hn : n ≤ 131072) (hbb : bb < base) (hsb : sb ≠ bb) :
    ∃ R : RB, R.rb = rb ∧ R.sb = sb ∧ R.bb = bb ∧ R.n = n ∧ R.ss = ss ∧ R.mn = mn ∧ R.mm = mm ∧ R.mf = mf ∧ R.ms = ms ∧ RdS w R F ∧ (R.rb ≠ R.bb ∧ R.hb ≠ R.bb ∧ R.fb ≠ R.bb ∧ R.fb2 ≠ R.bb ∧ R.sb2 ≠ R.bb ∧ R.sb ≠ R.bb) ∧ ∀ x ∈ R.bl, x < w.heap.size ∧ (x = rb ∨ x = sb ∨ x = bb ∨ (x = hb ∨ x = fb) ∨ ∃ v, w.cell? ⟨x, 0, none⟩ = some (.int .u32 v)) := by
  have hss : ss = 512 ∨ ss = 4096 := by rcases hF.hdr.shift with e | e <;> simp [e.2]
  have l1 := h.rd.lt
  have l2 := h.hd.lt
  have l3 := h.fd.lt
  have l4 := World.block_lt_of_cell? _ _ hS.sc
  have l5 := World.block_lt_of_cell? _ _ (hS.bytes 0 (by have := hF.n0; omega))
  dsimp only at l4 l5
  have b1 : rb ≠ bb := by have := h.rb_; omega
  have b2 : hb ≠ bb := by have := h.hdb; omega
  have b3 : fb ≠ bb := fun e => by
    have h1 := hS.bytes (45 + 0) (by have := hF.n0; omega)
    rw [← e, (h.fd.cell _).trans (hdrN_tab F 109 0 (by omega) (by omega))] at h1
    cases h1
  have hdif : ∀ i, i < 109 → w.cell? ⟨fb, 45 + i, none⟩ = some (.int .u32 (fld F (76 + 4 * i) 4 : Nat)) := fun i hi => (h.fd.cell _).trans (hdrN_tab F 109 i (Nat.le_refl _) hi)
  have hmnL : mn = 0 ∨ (1 ≤ mn ∧ mn ≤ 65535 ∧ 1 ≤ mm ∧ mm ≤ 65535) := by
    rcases hF.mini with ⟨h0, _⟩ | ⟨h1, _, _, h2, h3, h4, _⟩
    · exact .inl h0
    · refine .inr ⟨h1, ?_, h2, by omega⟩
      have h5 : 128 ≤ ss / 4 := by rcases hss with e | e <;> omega
      have h6 := Nat.mul_le_mul_right mn h5
      omega
  rcases h.mini with h0 | ⟨fb', sb', k, e1, e2, b5, b6, hk, hc1, hc2⟩
  · refine ⟨⟨rb, hb, fb, rb, rb, sb, bb, n, cap, ss, mn, mm, 0, mf, ms⟩, rfl, rfl, rfl, rfl, rfl, rfl, rfl, rfl, rfl, ⟨hS, h.rd.cell 1, h.rd.cell 3, h.rd.cell 7, hss, h.hd.cell 1, hdif, by show n ≤ 1000000; omega, .inl h0⟩, ⟨b1, b2, b3, b1, b1, hsb⟩, ?_⟩
    intro x hx
    simp only [RB.bl, List.mem_cons, List.not_mem_nil, or_false] at hx
    rcases hx with rfl | rfl | rfl | rfl | rfl | rfl | rfl <;> simp [*]
  · rcases hmnL with h0 | ⟨m1, m2, m3, m4⟩
    · refine ⟨⟨rb, hb, fb, rb, rb, sb, bb, n, cap, ss, mn, mm, 0, mf, ms⟩, rfl, rfl, rfl, rfl, rfl, rfl, rfl, rfl, rfl, ⟨hS, h.rd.cell 1, h.rd.cell 3, h.rd.cell 7, hss, h.hd.cell 1, hdif, by show n ≤ 1000000; omega, .inl h0⟩, ⟨b1, b2, b3, b1, b1, hsb⟩, ?_⟩
      intro x hx
      simp only [RB.bl, List.mem_cons, List.not_mem_nil, or_false] at hx
      rcases hx with rfl | rfl | rfl | rfl | rfl | rfl | rfl <;> simp [*]
    · have l6 := World.block_lt_of_cell? _ _ (hc1 0 m1)
      have l7 := World.block_lt_of_cell? _ _ (hc2 0 m3)
      dsimp only at l6 l7
      refine ⟨⟨rb, hb, fb, fb', sb', sb, bb, n, cap, ss, mn, mm, k, mf, ms⟩, rfl, rfl, rfl, rfl, rfl, rfl, rfl, rfl, rfl, ⟨hS, h.rd.cell 1, h.rd.cell 3, h.rd.cell 7, hss, h.hd.cell 1, hdif, by show n ≤ 1000000; omega,
        .inr ⟨by rw [← e1]; exact h.hd.cell 2, by rw [← e2]; exact h.hd.cell 3, hk, m2, m4, hc1, hc2⟩⟩, ⟨b1, b2, b3, by show fb' ≠ bb; omega, by show sb' ≠ bb; omega, hsb⟩, ?_⟩
      intro x hx
      simp only [RB.bl, List.mem_cons, List.not_mem_nil, or_false] at hx
      have c1 := hc1 0 m1
      have c2 := hc2 0 m3
      rcases hx with rfl | rfl | rfl | rfl | rfl | rfl | rfl
      · exact ⟨l1, .inl rfl⟩
      · exact ⟨l2, .inr (.inr (.inr (.inl (.inl rfl))))⟩
      · exact ⟨l3, .inr (.inr (.inr (.inl (.inr rfl))))⟩
      · exact ⟨l6, .inr (.inr (.inr (.inr ⟨_, c1⟩)))⟩
      · exact ⟨l7, .inr (.inr (.inr (.inr ⟨_, c2⟩)))⟩
      · exact ⟨l4, .inr (.inl rfl)⟩
      · exact ⟨l5, .inr (.inr (.inl rfl))⟩
end Go.Proofs.YtokpomdfgbbhlaaDoor

/- The contract of Steps over a sound file: steps with one of its streams, one behind the other. -/
namespace Go.Proofs.YtokpomdfgbbhlaaDoor
open Go Go.RowKit Go.Maps

theorem dir_60 (G : Nat → UInt8) : dirL12 G 60 = .int .u32 (fld G 116 4 : Nat) := by
  unfold dirL12 dirL11
  rw [if_neg (by omega), if_pos rfl]

/-- Memory before the first step. -/
theorem mx_first {w : World} {base rb sb : Nat} {F : Nat → UInt8} {ss m : Nat} {cs : Nat → Nat} {P : Nat → EntP} {t : Tr} {mn mm : Nat} {mf ms : Nat → Nat} {hb fb gb dg dcap ub ul uc : Nat} {fk dk : Nat → Nat} {pv : Nat → Value} {mfv msv ev : Value}
    (h : RdOK w base rb sb F ss m cs P t mn mm mf ms hb fb gb dg dcap ub ul uc fk dk pv mfv msv) {n bb cap : Nat} (hS : Src w sb bb n cap F) (hF : FileOK F n ss m cs P t mn mm mf ms) (hn : n ≤ 131072) (hbb : bb < base) (hsb : sb ≠ bb)
    (hlb : ∃ l, Blk w bb 5 l ∧ n ≤ l.length) (h0 : 0 < bb) (e len : Nat) (he : e < m * (ss / 128)) (hlen : (P e).size = (len : Nat)) (hl5 : len ≤ 100000) {mini : Bool} {q K : Nat} {ch off : Nat → Nat} {dat : Nat → UInt8} (hst : StrOK F n ss mn mm mf ms mini q K len ch off dat) (hq : 0 < q)
    (hch : fld (entB F ss cs e) 116 4 = ch 0) (hA : StrAp F ss mf mini q K len ch off) (hev : w.cell? ⟨0, 0, none⟩ = some ev) :
    ∃ R : RB, R.rb = rb ∧ R.sb = sb ∧ R.bb = bb ∧ R.n = n ∧ MX.At ⟨R, mini, q, K, len, fk e, dk e, (P e).init, (P e).name, pv e, ss, .slice (some ⟨ub, 0, none⟩) ul uc, .pointer (some ⟨hb, 0, none⟩), .slice (some ⟨gb, 0, none⟩) t.order.length (m * (ss / 128)), .slice (some ⟨dg, 0, none⟩) (m * (ss / 128)) dcap, 0, ch, off, ev⟩ F dat 0 w := by
  obtain ⟨R, e1, e2, e3, e4, e5, e6, e7, e8, e9, hRS, hbbs, hbl⟩ := h.rdB hS hF hn hbb hsb
  have hfi := h.file e he
  rw [hlen, hch] at hfi
  have hen := h.ent e he
  have hb0 := h.fileb e he
  have hc0 : w.cell? ⟨fk e, 0, none⟩ = some (.string (P e).name) := hfi.cell 0
  have hrb := h.rb_
  obtain ⟨l, hl1, hl2⟩ := hlb
  refine ⟨R, e1, e2, e3, e4, ⟨hRS, ?_, ?_, ⟨0, 0, by omega, hq, ?_⟩, ⟨.nilIface, .inl rfl, ?_⟩, ⟨l, ?_, ?_⟩, ?_, hev, by omega, fun y hy => (hbl y hy).1, fun hm => ?_, ?_, ?_, hbbs, hl5, hq⟩⟩
  · show StrR R F mini q K len ch off dat
    rw [StrR, e4, e5, e6, e7, e8, e9]; exact hst
  · show StrAp F R.ss R.mf mini q K len ch off
    rw [e5, e8]; exact hA
  · show FlS w (fk e) (P e).name (P e).init (pv e) len 0 (ch 0) 0 (dk e) R.rb
    rw [e1]; exact hfi
  · show Blk w R.rb 91 (rdCells _ _ _ _ _ _ R.sb _)
    rw [e1, e2]; exact h.rd
  · show Blk w R.bb 5 l
    rw [e3]; exact hl1
  · show R.n ≤ l.length
    rw [e4]; exact hl2
  · show w.cell? ⟨dk e, 60, none⟩ = some (.int .u32 (ch 0 : Nat))
    rw [hen.cell, tab_get _ _ _ (by omega), dir_60, hch]
  · rcases (hbl _ hm).2 with g | g | g | g | ⟨v, g⟩
    · exact Blk.ne hfi h.rd (by decide) g
    · rw [show (MX.fb ⟨R, mini, q, K, len, fk e, dk e, _, _, _, _, _, _, _, _, _, _, _, _⟩ : Nat) = fk e from rfl] at g
      rw [g, hS.sc] at hc0; cases hc0
    · rw [show (MX.fb ⟨R, mini, q, K, len, fk e, dk e, _, _, _, _, _, _, _, _, _, _, _, _⟩ : Nat) = fk e from rfl] at g
      rw [g, hS.bytes 0 (by have := hF.n0; omega)] at hc0; cases hc0
    · rcases g with g | g
      · exact Blk.ne hfi h.hd (by decide) g
      · exact Blk.ne hfi h.fd (by decide) g
    · have g' : w.cell? ⟨fk e, 0, none⟩ = some (.int .u32 v) := g
      rw [g'] at hc0; cases hc0
  · refine ⟨Blk.ne hen hfi (by decide), ?_, ?_⟩
    · show dk e ≠ R.rb
      rw [e1]; exact Blk.ne hen h.rd (by decide)
    · show dk e ≠ R.bb
      rw [e3]; exact Blk.ne hen hl1 (by decide)
  · refine ⟨?_, ?_, ?_⟩
    · show fk e ≠ 0
      omega
    · show R.rb ≠ 0
      omega
    · show R.bb ≠ 0
      omega

theorem MX.At.ap {X : MX} {F dat : Nat → UInt8} {i : Nat} {w w' : World} {ms : List Nat} (h : X.At F dat i w) (f : Fr ms w w') (hm : ∀ x ∈ ms, x ∉ X.R.bl ∧ x ≠ X.fb ∧ x ≠ X.dk ∧ x ≠ 0) : X.At F dat i w' := by
  have hno : ∀ x ∈ X.R.bl, x ∉ ms := fun x hx hi => (hm x hi).1 hx
  obtain ⟨t, r, h1, h2, h3⟩ := h.fl
  obtain ⟨wa, h4, h5⟩ := h.rb
  obtain ⟨l, h6, h7⟩ := h.bb
  exact ⟨h.R.fr f hno, h.S, h.A, ⟨t, r, h1, h2, h3.fr f (fun hx => (hm _ hx).2.1 rfl)⟩, ⟨wa, h4, h5.fr f (hno _ (by simp [RB.bl]))⟩, ⟨l, h6.fr f (hno _ (by simp [RB.bl])), h7⟩, f.cell (fun hx => (hm _ hx).2.2.1 rfl) h.st, f.cell (fun hx => (hm _ hx).2.2.2 rfl) h.ev, h.il,
    fun y hy => by have := h.lt y hy; have := f.size; omega, h.fbl, h.df, h.z0, h.bbs, h.l5, h.q0⟩

theorem seven_fr {w w' : World} {ms : List Nat} {a b c i j : Nat} {v1 v2 u0 u1 u2 u3 u4 : Value}
    (h : w.cell? ⟨a, i, none⟩ = some v1 ∧ w.cell? ⟨b, j, none⟩ = some v2 ∧ w.cell? ⟨c, 0, none⟩ = some u0 ∧ w.cell? ⟨c, 1, none⟩ = some u1 ∧ w.cell? ⟨c, 2, none⟩ = some u2 ∧ w.cell? ⟨c, 3, none⟩ = some u3 ∧ w.cell? ⟨c, 4, none⟩ = some u4)
    (f : Fr ms w w') (ha : a ∉ ms) (hb : b ∉ ms) (hc : c ∉ ms) :
    w'.cell? ⟨a, i, none⟩ = some v1 ∧ w'.cell? ⟨b, j, none⟩ = some v2 ∧ w'.cell? ⟨c, 0, none⟩ = some u0 ∧ w'.cell? ⟨c, 1, none⟩ = some u1 ∧ w'.cell? ⟨c, 2, none⟩ = some u2 ∧ w'.cell? ⟨c, 3, none⟩ = some u3 ∧ w'.cell? ⟨c, 4, none⟩ = some u4 := by
  obtain ⟨h1, h2, h3, h4, h5, h6, h7⟩ := h
  exact ⟨f.cell ha h1, f.cell hb h2, f.cell hc h3, f.cell hc h4, f.cell hc h5, f.cell hc h6, f.cell hc h7⟩

set_option maxRecDepth 100000 in
set_option maxHeartbeats 4000000 in
theorem steps_any (ab ao n ncap ss m mn mm : Nat) (F : Nat → UInt8) (cs mf ms : Nat → Nat) (P : Nat → EntP) (t : Tr) (w : World) (hB : ∀ i, i < n → w.cell? ⟨ab, ao + i, none⟩ = some (U8 (F i)))
    (hF : FileOK F n ss m cs P t mn mm mf ms) (hn : n ≤ 131072)
    (hp : ∀ i, 65 ≤ i → i ≤ 90 → w.cell? ⟨2, i, none⟩ = some (.int .u8 160)) (h2w : 2 < w.heap.size) (ev : Value) (hev : w.cell? ⟨0, 0, none⟩ = some ev)
    (e len : Nat) (he : e < t.order.length) (hlen : (P (t.order.getD e 0)).size = (len : Nat)) (hl5 : len ≤ 100000) (mini : Bool) (q K : Nat) (ch off : Nat → Nat) (dat : Nat → UInt8) (hst : StrOK F n ss mn mm mf ms mini q K len ch off dat) (hq : 0 < q)
    (hch : fld (entB F ss cs (t.order.getD e 0)) 116 4 = ch 0) (hA : StrAp F ss mf mini q K len ch off)
    (lb N lcap : Nat) (la : Option Addr) (st : Nat → Stp) (sv : Nat → Value) (hla : 0 < N → la = some ⟨lb, 0, none⟩) (hN : N ≤ 50) (hlc : N ≤ lcap ∧ lcap ≤ 9223372036854775807)
    (hsl : ∀ k, k < N → ∀ j, j < 5 → w.cell? ⟨lb, k * 5 + j, none⟩ = (stpV (st k) (sv k))[j]?) (hsv : ∀ k, k < N → DvIs w (sv k) (st k))
    (at_ : Nat → Nat) (da : Nat → Nat → UInt8) (td : Nat → Tld) (hat : at_ 0 = 0) (hda : da 0 = dat) (hdo : ∀ k, k < N → Does len (st k) (at_ k) (da k) (at_ (k + 1)) (da (k + 1)) (td k)) :
    Calls Tryd.prog 18 #[.slice (some ⟨ab, ao, none⟩) n ncap, .int .i64 (e : Nat), .slice la N lcap] w fun en w' => Fr [] w w' ∧ ∃ (v v2 : Value) (F' : Nat → UInt8), en = .returned (.tuple #[v, v2, .bool true]) ∧
      ToldIs w' w.heap.size v td N ∧ w'.ownsRow w.heap.size 5 1 v2 n (tab n (fun i => U8 (F' i))) ∧ Turned F F' q len off (da N) := by
  have hop := Lib.hid (fun (w1 : World) (f : Fr [] w w1) => opened_blk ab ao n ncap ss m mn mm F cs mf ms P t w1 (fun i hi => f.cell0 (hB i hi)) hF hn (fun i a b => f.cell0 (hp i a b)) (by have := f.size; omega))
  have hE : t.order.getD e 0 < m * (ss / 128) := by
    refine hF.t1.lt _ ?_
    rw [List.getD_eq_getElem?_getD, List.getElem?_eq_getElem he]
    simp
  have htl2 : t.order.length ≤ 100000 := by
    have h1 := hF.t3
    have h2 := hF.m2
    have h3 : ss / 128 ≤ 32 := by rcases hF.hdr.shift with ⟨_, h⟩ | ⟨_, h⟩ <;> omega
    have h4 := Nat.mul_le_mul h2 h3
    omega
  have HFO := Lib.hid hF
  have HEV := Lib.hid hev
  have HST := Lib.hid (And.intro hst (And.intro hch (And.intro hA hlen)))
  have HLA := Lib.hid hla
  have HSL := Lib.hid (And.intro hsl hsv)
  have HDO := Lib.hid (And.intro hat (And.intro hda hdo))
  clear hB hF hp hev hst hch hA hla hsl hsv hat hda hdo hlen
  go_enter Tryd.func18, Tryd.ntmps18
  go_wp2_with fail
  refine (hop.out _ (Fr.refl _ _)).mono ?_
  rintro en w1 ⟨base, sb, bb, cap, rb, hb, fb, gb, dg, dcap, ub, ul, uc, fk, dk, pv, mfv, msv, rfl, hf1, hbb, hsb, hbb2, hsb2, hbs, hS, hlb, hsB, hR⟩
  obtain ⟨R, e1, e2, e3, e4, hX⟩ := mx_first hR hS HFO.out hn hbb2 (Ne.symm hbs) hlb (by omega) (t.order.getD e 0) len hE HST.out.2.2.2 hl5 HST.out.1 hq HST.out.2.1 HST.out.2.2.1 (hf1.cell0 HEV.out)
  have hgs := hR.files e he
  have k4 : w1.cell? ⟨rb, 4, none⟩ = some (.slice (some ⟨gb, 0, none⟩) t.order.length (m * (ss / 128))) := hR.rd.cell 4
  have heI : (e : Int) < (t.order.length : Int) := by omega
  have heN : decide ((t.order.length : Int) ≤ (e : Int)) = false := by simp; omega
  have heN2 : decide (t.order.length ≤ e) = false := by simp; omega
  have hgbf : ∀ x, x = fk (t.order.getD e 0) ∨ x = rb ∨ x = bb → x ≠ gb := by
    intro x hx hxg
    have h0 := hR.files 0 (by omega)
    rw [← hxg] at h0
    rcases hx with h | h | h
    · rw [h, (show w1.cell? ⟨fk (t.order.getD e 0), 0, none⟩ = some (.string (P (t.order.getD e 0)).name) from (hR.file _ hE).cell 0)] at h0
      cases h0
    · rw [h, (show w1.cell? ⟨rb, 0, none⟩ = some (.bool false) from hR.rd.cell 0)] at h0
      cases h0
    · rw [h, hS.bytes 0 (by have := HFO.out.n0; omega)] at h0
      cases h0
  have hfk : w.heap.size ≤ fk (t.order.getD e 0) ∧ fk (t.order.getD e 0) < w1.heap.size := ⟨by have := hR.fileb _ hE; omega, (hR.file _ hE).lt⟩
  have hrbw : w.heap.size ≤ rb ∧ rb < w1.heap.size := ⟨by have := hR.rb_; omega, hR.rd.lt⟩
  have hbbw : bb < w1.heap.size := World.block_lt_of_cell? _ _ (hS.bytes 0 (by have := HFO.out.n0; omega))
  have hgbw : gb < w1.heap.size := World.block_lt_of_cell? _ _ hgs
  have hsc := hS.sc
  generalize hf0 : fk (t.order.getD e 0) = f0 at *
  generalize hXd : (MX.mk R mini q K len f0 _ _ _ _ ss _ _ _ _ _ ch off ev) = X at hX
  have x1 : X.fb = f0 := by rw [← hXd]
  have x2 : X.R = R := by rw [← hXd]
  have x3 : X.len = len ∧ X.q = q ∧ X.off = off := by rw [← hXd]; exact ⟨rfl, rfl, rfl⟩
  have x4 : X.ss = ss ∧ X.file = .slice (some ⟨gb, 0, none⟩) t.order.length (m * (ss / 128)) := by rw [← hXd]; exact ⟨rfl, rfl⟩
  have HX := Lib.hid hX
  have HXD := Lib.hid (And.intro x3 x4)
  have HGB := Lib.hid hgbf
  have HBB := Lib.hid (And.intro hbb hbbw)
  clear hR hS hlb hsB hop hXd hX hgbf x3 x4 hbb hsb hbb2 hsb2 hbs hbbw
  go_wp2_with fail
  go_loopw [12, 40] (fun s12 s40 wr => ∃ (k : Nat) (F' : Nat → UInt8) (dv : Nat → Value), k ≤ N ∧ s40 = .int .i64 k ∧ Fr [] w wr ∧ w1.heap.size ≤ wr.heap.size ∧ X.At F' (da k) (at_ k) wr ∧ Turned F F' q len off (da k) ∧ wr.cell? ⟨gb, e, none⟩ = some (.pointer (some ⟨f0, 0, none⟩)) ∧
      wr.ownsRow w1.heap.size 55 3 s12 k (toldRow dv td k) ∧ ∀ j, j < k → wr.ownsRow w1.heap.size 5 1 (dv j) (td j).cnt (tab (td j).cnt (fun y => U8 ((td j).x y)))) (fun _ s40 _ => N - (intOf s40).toNat)
  case atStart => exact ⟨0, F, fun _ => .nilIface, by omega, rfl, hf1, Nat.le_refl _, by rw [HDO.out.1, HDO.out.2.1]; exact HX.out, by rw [HDO.out.2.1]; exact Turned.refl HST.out.1 hq, hgs, own_nil _ _ _ _, fun j hj => absurd hj (Nat.not_lt_zero _)⟩
  case round =>
    obtain ⟨k, F', dv, hk, rfl, hf, hws, hA, hT, hg, hown, hdv⟩ := hrel
    by_cases hkN : k < N
    case neg =>
      obtain rfl : k = N := by omega
      have hkI : ¬ (k : Int) < (k : Int) := by omega
      have hsc2 : wr.cell? ⟨sb, 0, none⟩ = some (.slice (some ⟨bb, 0, none⟩) n R.cap) := by
        have := hA.R.src.sc
        rw [x2, e2, e3, e4] at this
        exact this
      have hby := hA.R.src.bytes
      rw [x2, e3, e4] at hby
      obtain ⟨i0, hi, hz0, hz1, hz2⟩ := info_parts info5
      have hn0 : 512 ≤ n := HFO.out.n0
      have hnews : ∀ y u, (tab n (fun y => U8 (F' y)))[y]? = some u → wr.cell? ((⟨bb, 0, none⟩ : Addr).add y) = some u := by
        intro y u hy
        rw [tab_get?] at hy
        split at hy
        · rename_i hyn
          simp at hy; subst hy
          rw [Addr.add_mid, Nat.zero_add]
          exact hby y hyn
        · cases hy
      have hone : ∀ u ∈ tab n (fun y => U8 (F' y)), u.oneCell' = true := by
        intro u hu
        obtain ⟨y, hy⟩ := List.getElem?_of_mem hu
        rw [tab_get?] at hy
        split at hy
        · simp at hy; subst hy; rfl
        · cases hy
      have hcap : (0 + n) * 1 ≤ 140737488355328 := by omega
      have h63 : 0 + n ≤ maxLen := by unfold maxLen; omega
      have hlen1 : (tab n (fun y => U8 (F' y))).length = n * 1 := by simp
      have hsz : w.heap.size ≤ wr.heap.size := hf.size
      have HN := Lib.hid (And.intro hnews (And.intro hone hlen1))
      have HH := Lib.hid (And.intro hf (And.intro hT (And.intro hown hdv)))
      clear hnews hone hlen1 hby hf hT hown hdv hA hgs hsc hg
      go_wp2_with (at_builtin; refine wpList_append_own _ rfl _ (.tmp 67) 23 rfl w.heap.size 5 i0 (.int .u8 0) 1 1 Tryd.underlying23 hi hz0 hz1 hz2 rfl (by decide) (.slice none 0 0) 0 [] rfl (own_nil _ _ _ _) ⟨bb, 0, none⟩ n R.cap (tab n (fun y => U8 (F' y))) rfl HN.out.2.2 HN.out.1 HN.out.2.1 h63 hcap hsz ?_)
      intro v5 w5 hown5 hg5 _
      have HO5 := Lib.hid (And.intro hown5 hg5)
      clear hown5 hg5
      go_wp2_with fail
      go_ret3
      obtain ⟨hf, hT, hown, hdv⟩ := HH.out
      obtain ⟨hown5, hg5⟩ := HO5.out
      have hf5 : Fr [] wr w5 := Fr.of_grown hg5
      have hw1 := hf1.size
      exact ⟨hf.trans0 hf5, _, _, F', rfl, ⟨dv, own_mono (own_fr0 hown hf5) hw1, fun j hj => own_mono (own_fr0 (hdv j hj) hf5) hw1⟩, hown5, hT⟩
    have hkI : (k : Int) < (N : Int) := by omega
    obtain ⟨ra, rc, rfl⟩ := own_slice hown
    obtain rfl := HLA.out (by omega)
    obtain ⟨hsl, hsv⟩ := HSL.out
    have c0 : wr.cell? ⟨lb, k * 5, none⟩ = some (.int .i64 ((st k).kind : Nat)) := hf.cell0 (hsl k hkN 0 (by omega))
    have c1 : wr.cell? ⟨lb, k * 5 + 1, none⟩ = some (.int .i64 ((st k).n : Nat)) := hf.cell0 (hsl k hkN 1 (by omega))
    have c2 : wr.cell? ⟨lb, k * 5 + 2, none⟩ = some (.int .i64 (st k).ofs) := hf.cell0 (hsl k hkN 2 (by omega))
    have c3 : wr.cell? ⟨lb, k * 5 + 3, none⟩ = some (.int .i64 (st k).wh) := hf.cell0 (hsl k hkN 3 (by omega))
    have c4 : wr.cell? ⟨lb, k * 5 + 4, none⟩ = some (sv k) := hf.cell0 (hsl k hkN 4 (by omega))
    have hrb4 : ∀ (F2 d2 : Nat → UInt8) (i2 : Nat) (w' : World), X.At F2 d2 i2 w' → w'.cell? ⟨rb, 4, none⟩ = some (.slice (some ⟨gb, 0, none⟩) t.order.length (m * (ss / 128))) := by
      intro F2 d2 i2 w' hA
      obtain ⟨wa, _, hb⟩ := hA.rb
      have := hb.cell 4
      rw [x2, e1] at this
      rw [this, ← HXD.out.2.2]
      rfl
    have k4 := hrb4 _ _ _ wr hA
    have HRB4 := Lib.hid hrb4
    clear hrb4
    have hone : ∀ w', Fr [] wr w' → OneIs X F' (da k) (at_ k) w' (.agg (stpV (st k) (sv k))) (at_ (k + 1)) (da (k + 1)) (td k).num (td k).cnt (td k).x := fun w' f => one_does (hA.fr0 f) (by rw [HXD.out.1.1]; exact HDO.out.2.2 k hkN) ((hsv k hkN).fr0 (hf.trans0 f))
    obtain ⟨sa, sm, sc, hsvk⟩ : ∃ sa sm sc, sv k = .slice sa sm sc := by
      rcases hsv k hkN with ⟨_, h⟩ | ⟨pb, pc, _, h, _⟩
      · exact ⟨_, _, _, h⟩
      · exact ⟨_, _, _, h⟩
    rw [hsvk] at hone c4
    have HONE := Lib.hid hone
    have HDV := Lib.hid (And.intro hdv hT)
    have HH := Lib.hid (And.intro hf (And.intro hA hown))
    have HC := Lib.hid (And.intro c0 (And.intro c1 (And.intro c2 (And.intro c3 c4))))
    clear hsl hsv hdv hT hown hA hf hone hsvk
    go_upto_region 8 with (fail)
    have hf2 : Fr [] wr (wr.alloc (Obj.cells #[.int .i64 ((st k).kind : Nat), .int .i64 ((st k).n : Nat), .int .i64 (st k).ofs, .int .i64 (st k).wh, .slice sa sm sc] 66)) := (Fr.refl _ _).alloc _
    have hxb : Blk (wr.alloc (Obj.cells #[.int .i64 ((st k).kind : Nat), .int .i64 ((st k).n : Nat), .int .i64 (st k).ofs, .int .i64 (st k).wh, .slice sa sm sc] 66)) wr.heap.size 66 [.int .i64 ((st k).kind : Nat), .int .i64 ((st k).n : Nat), .int .i64 (st k).ofs, .int .i64 (st k).wh, .slice sa sm sc] := Blk.new' _ _ _
    have hzz : wr.heap.size < (wr.alloc (Obj.cells #[.int .i64 ((st k).kind : Nat), .int .i64 ((st k).n : Nat), .int .i64 (st k).ofs, .int .i64 (st k).wh, .slice sa sm sc] 66)).heap.size := by simp
    clear c0 c1 c2 c3 c4
    replace k4 := hf2.cell0 k4
    replace hg := hf2.cell0 hg
    generalize wr.alloc (Obj.cells #[.int .i64 ((st k).kind : Nat), .int .i64 ((st k).n : Nat), .int .i64 (st k).ofs, .int .i64 (st k).wh, .slice sa sm sc] 66) = w2 at *
    generalize hxbn : wr.heap.size = xb at *
    have d0 := hxb.cell 0
    have d1 := hxb.cell 1
    have d2 := hxb.cell 2
    have d3 := hxb.cell 3
    have d4 := hxb.cell 4
    have HF2 := Lib.hid (And.intro hf2 (And.intro hxbn hzz))
    have hon2 : ∀ w', Fr [] w2 w' → Calls Tryd.prog 40 #[.pointer (some ⟨f0, 0, none⟩), .agg #[.int .i64 ((st k).kind : Nat), .int .i64 ((st k).n : Nat), .int .i64 (st k).ofs, .int .i64 (st k).wh, .slice sa sm sc]] w' fun e w'' => ∃ (dv4 : Value) (F4 : Nat → UInt8), e = .returned (.tuple #[.agg #[dv4, .int .i64 ((td k).num : Nat), .int .i64 0], .bool true]) ∧
        Fr [f0, rb, bb] w' w'' ∧ X.At F4 (da (k + 1)) (at_ (k + 1)) w'' ∧ Turned F' F4 q len off (da (k + 1)) ∧ w''.ownsRow w'.heap.size 5 1 dv4 (td k).cnt (tab (td k).cnt (fun y => U8 ((td k).x y))) := by
      intro w' f
      have h := HONE.out w' (hf2.trans0 f)
      unfold OneIs at h
      rw [x1, x2, e1, e3, HXD.out.1.1, HXD.out.1.2.1, HXD.out.1.2.2] at h
      exact h
    have HON2 := Lib.hid hon2
    have hnb : w2.heap.size ∉ [f0, rb, bb] := by
      have h1 := HF2.out.2.1
      have h2 := HF2.out.2.2
      have := HBB.out
      have := hfk.2
      have := hrbw.2
      simp
      refine ⟨?_, ?_, ?_⟩ <;> omega
    have HNB := Lib.hid hnb
    have hne : rb ∉ [w2.heap.size] ∧ gb ∉ [w2.heap.size] ∧ xb ∉ [w2.heap.size] := by
      have h1 := HF2.out.2.1
      have h2 := HF2.out.2.2
      have := hrbw.2
      simp
      refine ⟨?_, ?_, ?_⟩ <;> omega
    have HNE := Lib.hid hne
    have hnx : gb ∉ [f0, rb, bb] ∧ xb ∉ [f0, rb, bb] := by
      have h1 := HGB.out f0 (by simp)
      have h2 := HGB.out rb (by simp)
      have h3 := HGB.out bb (by simp)
      have := HBB.out
      have := hfk.2
      have := hrbw.2
      have := HF2.out.2.1
      simp
      refine ⟨⟨?_, ?_, ?_⟩, ?_, ?_, ?_⟩ <;> omega
    have HNX := Lib.hid hnx
    clear hnb hne hnx
    clear hf2 hxb hxbn hzz hgs hon2
    go_region_held3 (fun w' => w'.cell? ⟨rb, 4, none⟩ = some (.slice (some ⟨gb, 0, none⟩) t.order.length (m * (ss / 128))) ∧ w'.cell? ⟨gb, e, none⟩ = some (.pointer (some ⟨f0, 0, none⟩)) ∧ w'.cell? ⟨xb, 0, none⟩ = some (.int .i64 ((st k).kind : Nat)) ∧ w'.cell? ⟨xb, 1, none⟩ = some (.int .i64 ((st k).n : Nat)) ∧ w'.cell? ⟨xb, 2, none⟩ = some (.int .i64 (st k).ofs) ∧ w'.cell? ⟨xb, 3, none⟩ = some (.int .i64 (st k).wh) ∧ w'.cell? ⟨xb, 4, none⟩ = some (.slice sa sm sc))
      (first | go_keep | exact HK4.out | exact seven_fr HK4.out ((Fr.refl [] _).alloc _) (by simp) (by simp) (by simp) | exact seven_fr HK4.out ((((Fr.refl [w2.heap.size] w4).setCell (.inl (by simp)) _).setCell (.inl (by simp)) _).setCell (.inl (by simp)) _) HNE.out.1 HNE.out.2.1 HNE.out.2.2)
      (first | (go_at_call 40; (refine Calls.mono (HON2.out _ (by first | exact (Fr.refl _ _).drew | exact ((Fr.refl _ _).drew).alloc _ | exact ((Fr.refl _ _).alloc _).drew)) ?_); (rintro en w4 ⟨dv4, F4, rfl, hf4, hA4, hT4, hown4⟩); obtain ⟨a4, c4, rfl⟩ := own_slice hown4
                have hf24 : Fr [f0, rb, bb] w2 w4 := by
                  first
                    | exact (Fr.refl [f0, rb, bb] w2).drew.trans_same hf4
                    | exact ((Fr.refl [f0, rb, bb] w2).alloc _).drew.trans_same hf4
                have hk4 : w4.cell? ⟨rb, 4, none⟩ = some (.slice (some ⟨gb, 0, none⟩) t.order.length (m * (ss / 128))) ∧ w4.cell? ⟨gb, e, none⟩ = some (.pointer (some ⟨f0, 0, none⟩)) ∧ w4.cell? ⟨xb, 0, none⟩ = some (.int .i64 ((st k).kind : Nat)) ∧ w4.cell? ⟨xb, 1, none⟩ = some (.int .i64 ((st k).n : Nat)) ∧ w4.cell? ⟨xb, 2, none⟩ = some (.int .i64 (st k).ofs) ∧ w4.cell? ⟨xb, 3, none⟩ = some (.int .i64 (st k).wh) ∧ w4.cell? ⟨xb, 4, none⟩ = some (.slice sa sm sc) := by
                  exact ⟨HRB4.out _ _ _ w4 hA4, hf24.cell HNX.out.1 hg, hf24.cell HNX.out.2 d0, hf24.cell HNX.out.2 d1, hf24.cell HNX.out.2 d2, hf24.cell HNX.out.2 d3, hf24.cell HNX.out.2 d4⟩
                have HK4 := Lib.hid hk4
                clear hk4
                (first
      | (have hB4 : Blk w4 w2.heap.size 55 [.slice none 0 0, .int .i64 0, .int .i64 0] := (Blk.new' w2.drew 55 #[.slice none 0 0, .int .i64 0, .int .i64 0]).fr hf4 HNB.out
         have y0 := hB4.cell 0
         have y1 := hB4.cell 1
         have y2 := hB4.cell 2
         have z0 := hB4.frozen 0
         have z1 := hB4.frozen 1
         have z2 := hB4.frozen 2)
      | skip)))
    all_goals first
      | (have hf45 : Fr [w2.heap.size] w4 (w4.alloc (Obj.cells #[.slice a4 (td k).cnt c4, .int .i64 ((td k).num : Nat), .int .i64 0] 55)) := (Fr.refl _ _).alloc _
         have hB5 : Blk (w4.alloc (Obj.cells #[.slice a4 (td k).cnt c4, .int .i64 ((td k).num : Nat), .int .i64 0] 55)) w4.heap.size 55 [.slice a4 (td k).cnt c4, .int .i64 ((td k).num : Nat), .int .i64 0] := Blk.new' _ _ _
         have hown5 := own_mono (base' := w1.heap.size) (own_fr0 hown4 ((Fr.refl [] w4).alloc (Obj.cells #[.slice a4 (td k).cnt c4, .int .i64 ((td k).num : Nat), .int .i64 0] 55))) (by have h1 := HF2.out.2.1; have h2 := HF2.out.2.2; show w1.heap.size ≤ w2.heap.size; omega)
         clear hown4
         generalize w4.alloc (Obj.cells #[.slice a4 (td k).cnt c4, .int .i64 ((td k).num : Nat), .int .i64 0] 55) = w5 at *
         generalize w4.heap.size = yb at *)
      | (have hf45 : Fr [w2.heap.size] w4 (((w4.setCell ⟨w2.heap.size, 0, none⟩ (.slice a4 (td k).cnt c4)).setCell ⟨w2.heap.size, 1, none⟩ (.int .i64 ((td k).num : Nat))).setCell ⟨w2.heap.size, 2, none⟩ (.int .i64 0)) := one_set _ (Fr.refl _ _) (.inl (by simp)) _ _ _
         have hB5 := ((hB4.set 0 (.slice a4 (td k).cnt c4)).set 1 (.int .i64 ((td k).num : Nat))).set 2 (.int .i64 0)
         have hown5 := own_mono (base' := w1.heap.size) (own_fr hown4 hf45 (fun y hy hm => by simp at hm; subst hm; exact own_ne hown4 hB4 (by decide) (by rw [hy]; simp))) (by have h1 := HF2.out.2.1; have h2 := HF2.out.2.2; show w1.heap.size ≤ (w2.alloc _).heap.size; simp; omega)
         clear hown4 hB4
         generalize (((w4.setCell ⟨w2.heap.size, 0, none⟩ (.slice a4 (td k).cnt c4)).setCell ⟨w2.heap.size, 1, none⟩ (.int .i64 ((td k).num : Nat))).setCell ⟨w2.heap.size, 2, none⟩ (.int .i64 0)) = w5 at *
         obtain ⟨yb, hyb⟩ : ∃ yb, w2.heap.size = yb := ⟨_, rfl⟩
         rw [hyb] at hB5 ⊢
         clear hyb)
    all_goals
      have hB5' : Blk w5 yb 55 [.slice a4 (td k).cnt c4, .int .i64 ((td k).num : Nat), .int .i64 0] := hB5
      obtain ⟨hf, _, hown⟩ := HH.out
      have hxw := HF2.out.2.1
      have hxw2 := HF2.out.2.2
      have hbbw := HBB.out
      have hf25 : Fr [f0, rb, bb] wr w5 := (HF2.out.1.mono (ms' := [f0, rb, bb]) (by simp)).trans (hf24.trans (ms := [f0, rb, bb]) hf45 (by simp)) (fun y hy => .inl hy)
      have hno : ∀ y, w1.heap.size ≤ y → y ∉ [f0, rb, bb] := by
        intro y hy
        have := hfk.2
        have := hrbw.2
        simp
        refine ⟨?_, ?_, ?_⟩ <;> omega
      have hA5 := hA4.ap hf45 (fun y hy => by
        simp at hy
        subst hy
        have h1 := World.block_lt_of_cell? _ _ HX.out.st
        have h2 := HX.out.lt
        dsimp only at h1
        rw [x1]
        have := hfk.2
        exact ⟨fun h => by have := h2 _ h; omega, by omega, by omega, by omega⟩)
      have hg5 : w5.cell? ⟨gb, e, none⟩ = some (.pointer (some ⟨f0, 0, none⟩)) := hf45.cell HNE.out.2.1 (HK4.out.2.1)
      have hT5 : Turned F F4 q len off (da (k + 1)) := HDV.out.2.trans hT4
      have hrow5 : w5.ownsRow w1.heap.size 55 3 (.slice ra k rc) k (toldRow dv td k) := own_fr hown hf25 (fun y hy => hno y (hown.lt y hy).1)
      have hdv5 : ∀ j, j < k → w5.ownsRow w1.heap.size 5 1 (dv j) (td j).cnt (tab (td j).cnt (fun y => U8 ((td j).x y))) := fun j hj => own_fr (HDV.out.1 j hj) hf25 (fun y hy => hno y ((HDV.out.1 j hj).lt y hy).1)
      have hf5 : Fr [] w w5 := hf.trans (ms := []) hf25 (by
        intro y hy
        have := hfk.1
        have := hrbw.1
        simp at hy
        rcases hy with rfl | rfl | rfl <;> right <;> omega)
      have hs5 : w1.heap.size ≤ w5.heap.size := by have := hf25.size; omega
      have y0 : w5.cell? ⟨yb, 0, none⟩ = some (.slice a4 (td k).cnt c4) := hB5'.cell 0
      have y1 : w5.cell? ⟨yb, 1, none⟩ = some (.int .i64 ((td k).num : Nat)) := hB5'.cell 1
      have y2 : w5.cell? ⟨yb, 2, none⟩ = some (.int .i64 0) := hB5'.cell 2
      obtain ⟨i55, z55, hi55, hz550, hz551, hz552, hz553⟩ := info_parts3 info55
      have h63b : k + 1 ≤ maxLen := by unfold maxLen; omega
      have hby2 : (k + 1) * 40 ≤ 140737488355328 := by omega
      have hfa : Fr [] w5 (w5.alloc (Obj.cells #[.slice a4 (td k).cnt c4, .int .i64 ((td k).num : Nat), .int .i64 0] 55)) := (Fr.refl _ _).alloc _
      have hrow6 := Lib.hid (own_fr0 hrow5 hfa)
      have H5 := Lib.hid (And.intro hf5 (And.intro hA5 (And.intro hT5 (And.intro hdv5 hown5))))
      have hs6 : w1.heap.size ≤ (w5.alloc (Obj.cells #[.slice a4 (td k).cnt c4, .int .i64 ((td k).num : Nat), .int .i64 0] 55)).heap.size := by simp; omega
      clear hB5 hB5' hf hown hf25 hno hA5 hT5 hrow5 hdv5 hown5 hf5 hf45 hf4 hf24 hA4 hT4 hg k4 d0 d1 d2 d3 d4 hxw hxw2
      go_wp2_with (at_builtin; refine wpList_append_own _ rfl (.tmp 58) (.tmp 60) 51 rfl w1.heap.size 55 i55 z55 3 40 Tryd.underlying51 hi55 hz550 hz551 hz552 hz553 (by decide) (.slice ra k rc) k _ rfl hrow6.out ⟨w5.heap.size, 0, none⟩ 1 1 [.slice a4 (td k).cnt c4, .int .i64 ((td k).num : Nat), .int .i64 0] rfl rfl (news2 _ _ _ rfl) (tell_one _ _ _ _ 0) h63b hby2 hs6 ?_)
      intro v6 w6 hr6 hg6 _
      have hf6 : Fr (Value.slice ra k rc).ownBlock.toList w5 w6 := (hfa.mono (by simp)).trans (ms := (Value.slice ra k rc).ownBlock.toList) (Fr.of_grown hg6) (fun y hy => .inl hy)
      have hbl6 : ∀ y ∈ (Value.slice ra k rc).ownBlock.toList, w1.heap.size ≤ y := fun y hy => (hrow6.out.lt y (by simpa using hy)).1
      have hg6' : w6.cell? ⟨gb, e, none⟩ = some (.pointer (some ⟨f0, 0, none⟩)) := hf6.cell (fun hm => by have := hbl6 _ hm; omega) hg5
      have hsep : ∀ {v : Value} {c : Nat} {xs : List Value}, w5.ownsRow w1.heap.size 5 1 v c xs → w6.ownsRow w1.heap.size 5 1 v c xs := fun h => by
        have h1 := own_fr0 h hfa
        exact own_fr h1 (Fr.of_grown hg6) (own_sep h1 hrow6.out (by decide))
      have hA6 := H5.out.2.1.ap hf6 (fun y hy => by
        have h0 := hbl6 y hy
        have h1 := World.block_lt_of_cell? _ _ HX.out.st
        have h2 := HX.out.lt
        dsimp only at h1
        rw [x1]
        have := hfk.2
        exact ⟨fun h => by have := h2 _ h; omega, by omega, by omega, by omega⟩)
      have hfw6 : Fr [] w w6 := H5.out.1.trans (ms := []) hf6 (fun y hy => .inr (by have := hbl6 y hy; have := hf1.size; omega))
      have H6 := Lib.hid (And.intro hr6 (And.intro hg6' (And.intro hA6 hfw6)))
      have HSEP := Lib.hid (And.intro (fun j (hj : j < k) => hsep (H5.out.2.2.2.1 j hj)) (hsep H5.out.2.2.2.2))
      have hs7 : w1.heap.size ≤ w6.heap.size := by have := hf6.size; omega
      obtain ⟨r6, q6, rfl⟩ := own_slice hr6
      clear hr6 hg6 hf6 hg6' hsep hA6 hfw6
      go_wp2_with fail
      go_roundw
      case rel =>
        refine ⟨k + 1, F4, fun y => if y = k then Value.slice a4 (td k).cnt c4 else dv y, by omega, by go_num, H6.out.2.2.2, hs7, H6.out.2.2.1, H5.out.2.2.1, H6.out.2.1, ?_, ?_⟩
        · rw [toldRow_succ, toldRow_congr (dv' := dv) td k (fun y hy => if_neg (by omega)), if_pos rfl]
          exact H6.out.1
        · intro j hj
          dsimp only
          by_cases hjk : j = k
          · subst hjk
            rw [if_pos rfl]
            exact HSEP.out.2
          · rw [if_neg hjk]
            exact HSEP.out.1 j (by omega)
      case measure => simp [intOf]; omega

end Go.Proofs.YtokpomdfgbbhlaaDoor

/- FnMixed: a stream is read, sought and written by steps, what is told is what stands there then, the file behind all is that of the stream with these bytes (part 8 of 18). No condition but the statement's own. -/
import Derived.Stop.Asserts
import Derived.Test.YtokpomdfgbbhlaaDoorMxg
set_option linter.all false
set_option linter.unusedVariables false
set_option linter.unusedSimpArgs false
set_option linter.unnecessarySimpa false
/- The contract of (*File).Write, where all lies within the stream: its bytes are turned, and nothing else of the file. -/
namespace Go.Proofs.YtokpomdfgbbhlaaDoor
open Go Go.RowKit Go.Maps

theorem as81_89 (a : Addr) (w : World) : (Instr.typeAssert (.iface 81 (.pointer (some a))) 87 89 true).run Tryd.prog w = .ok (.tuple #[.iface 81 (.pointer (some a)), .bool true]) w := by kernel_rfl
theorem nil_ahead_wa (a : Addr) (w : World) : (nilAhead 324 81 (.pointer (some a)) "WriteAt").run Tryd.prog w = .ok (some false) w := by kernel_rfl
theorem method_wa (a : Addr) (w : World) : (method 324 81 (.pointer (some a)) "WriteAt").run Tryd.prog w = .ok (95, .pointer (some a)) w := by kernel_rfl

/-- What lies in memory stays where a Reader's writer alone turns. -/
theorem keep8 {w : World} {rb ss sb : Nat} {buf hdr file dir wa : Value} {k : Int} (hb : Blk w rb 91 (rdCells ss buf hdr file dir k sb wa)) (u : Value) {b i : Nat} {v : Value}
    (h : w.cell? ⟨b, i, none⟩ = some v) (hv : v ≠ wa) : (w.setCell ⟨rb, 8, none⟩ u).cell? ⟨b, i, none⟩ = some v := by
  by_cases hbr : b = rb ∧ i = 8
  · obtain ⟨rfl, rfl⟩ := hbr
    rw [hb.cell] at h
    exact absurd (Option.some.inj h).symm hv
  · rw [World.cell?_setCell_other _ _ _ _ (by intro e; injection e with e1 e2; exact hbr ⟨e1.symm, e2.symm⟩)]
    exact h

theorem RdS.set8 {w : World} {R : RB} {F : Nat → UInt8} {ss sb : Nat} {buf hdr file dir wa : Value} {k : Int} (h : RdS w R F) (hb : Blk w R.rb 91 (rdCells ss buf hdr file dir k sb wa)) (hwa : wa = .nilIface) (u : Value) : RdS (w.setCell ⟨R.rb, 8, none⟩ u) R F := by
  subst hwa
  have kp : ∀ {b i : Nat} {v : Value}, w.cell? ⟨b, i, none⟩ = some v → v ≠ .nilIface → (w.setCell ⟨R.rb, 8, none⟩ u).cell? ⟨b, i, none⟩ = some v := fun h hv => keep8 hb u h hv
  refine ⟨⟨kp h.src.sc (fun e => by cases e), fun i hi => kp (h.src.bytes i hi) (fun e => by cases e), h.src.ncap, h.src.capm⟩, kp h.c1 (fun e => by cases e), kp h.c3 (fun e => by cases e), kp h.c7 (fun e => by cases e), h.ss_, kp h.d1 (fun e => by cases e), fun i hi => kp (h.dif i hi) (fun e => by cases e), h.n1, ?_⟩
  rcases h.mini with h0 | ⟨a, b, c, d, e, g, i⟩
  · exact .inl h0
  · exact .inr ⟨kp a (fun e => by cases e), kp b (fun e => by cases e), c, d, e, fun j hj => kp (g j hj) (fun e => by cases e), fun j hj => kp (i j hj) (fun e => by cases e)⟩

/-- The reader over turned bytes. -/
theorem RdS.turn {w w' : World} {R : RB} {F F' : Nat → UInt8} {ms : List Nat} (h : RdS w R F) (f : Fr ms w w') (hm : ∀ x ∈ R.bl, x = R.bb ∨ x ∉ ms) (hbb : R.rb ≠ R.bb ∧ R.hb ≠ R.bb ∧ R.fb ≠ R.bb ∧ R.fb2 ≠ R.bb ∧ R.sb2 ≠ R.bb ∧ R.sb ≠ R.bb)
    (hb : ∀ i, i < R.n → w'.cell? ⟨R.bb, i, none⟩ = some (U8 (F' i))) (hd : ∀ i, i < 109 → fld F' (76 + 4 * i) 4 = fld F (76 + 4 * i) 4) : RdS w' R F' := by
  have nm : ∀ x ∈ R.bl, x ≠ R.bb → x ∉ ms := fun x hx hne => (hm x hx).resolve_left hne
  have m1 := nm R.rb (by simp [RB.bl]) hbb.1
  have m2 := nm R.hb (by simp [RB.bl]) hbb.2.1
  have m3 := nm R.fb (by simp [RB.bl]) hbb.2.2.1
  have m4 := nm R.fb2 (by simp [RB.bl]) hbb.2.2.2.1
  have m5 := nm R.sb2 (by simp [RB.bl]) hbb.2.2.2.2.1
  have m6 := nm R.sb (by simp [RB.bl]) hbb.2.2.2.2.2
  refine ⟨⟨f.cell m6 h.src.sc, hb, h.src.ncap, h.src.capm⟩, f.cell m1 h.c1, f.cell m1 h.c3, f.cell m1 h.c7, h.ss_, f.cell m2 h.d1, fun i hi => by rw [hd i hi]; exact f.cell m3 (h.dif i hi), h.n1, ?_⟩
  rcases h.mini with h0 | ⟨a, b, c, d, e, g, i⟩
  · exact .inl h0
  · exact .inr ⟨f.cell m2 a, f.cell m2 b, c, d, e, fun j hj => f.cell m4 (g j hj), fun j hj => f.cell m5 (i j hj)⟩

theorem eqg_nil (w : World) : (eqGuard .eql 89 (.tmp 41) (.const .nilIface) .nilIface .nilIface).run Tryd.prog w = .ok () w := by kernel_rfl
theorem eqg_if (a : Addr) (w : World) : (eqGuard .eql 89 (.tmp 41) (.const .nilIface) (.iface 81 (.pointer (some a))) .nilIface).run Tryd.prog w = .ok () w := by kernel_rfl
theorem eqb_nil (w : World) : (binOp .eql 89 .nilIface .nilIface).run Tryd.prog w = .ok (.bool true) w := by kernel_rfl
theorem eqb_if (a : Addr) (w : World) : (binOp .eql 89 (.iface 81 (.pointer (some a))) .nilIface).run Tryd.prog w = .ok (.bool false) w := by kernel_rfl

/-- Bytes of a stream from place i on, m of them, turned to x. -/
def turnD (dat : Nat → UInt8) (i m : Nat) (x : Nat → UInt8) : Nat → UInt8 := fun p => if i ≤ p ∧ p < i + m then x (p - i) else dat p

/-- What Write yields. -/
def WrPost (R : RB) (F : Nat → UInt8) (mini : Bool) (q K fb : Nat) (nm : ByteArray) (ini : Nat) (pv : Value) (len i m dk : Nat) (ch off : Nat → Nat) (dat x : Nat → UInt8) (cells : List Value) (w : World) (e : Ending) (w' : World) : Prop :=
  e = .returned (.tuple #[.int .i64 (m : Nat), .nilIface]) ∧ Fr [fb, R.rb, R.bb] w w' ∧ Blk w' R.rb 91 cells ∧ (∃ t r, t * q + r = i + m ∧ r < q ∧ FlS w' fb nm ini pv len (i + m) (ch t) r dk R.rb) ∧
    ∃ F' : Nat → UInt8, RdS w' R F' ∧ Turned F F' q len off (turnD dat i m x) ∧ StrR R F' mini q K len ch off (turnD dat i m x) ∧ StrAp F' R.ss R.mf mini q K len ch off ∧ ∃ l, Blk w' R.bb 5 l ∧ R.n ≤ l.length

set_option maxRecDepth 100000 in
set_option maxHeartbeats 4000000 in
theorem fwrite_any (R : RB) (F : Nat → UInt8) (mini : Bool) (q K len fb pb cap i m dk ini t0 r ss : Nat) (nm : ByteArray) (pv : Value) (buf hdr file dir wa : Value) (k : Int) (ch off : Nat → Nat) (dat x : Nat → UInt8) (w : World) (hR : RdS w R F) (hS : StrR R F mini q K len ch off dat) (hA : StrAp F R.ss R.mf mini q K len ch off)
    (hF : FlS w fb nm ini pv len i (ch t0) r dk R.rb) (hqt : t0 * q + r = i) (hrq : r < q) (hfb : fb ∉ R.bl) (hpbl : pb ∉ R.bl) (hpf : pb ≠ fb) (hbl : ∀ y ∈ R.bl, y < w.heap.size) (h1 : 1 ≤ m) (him : i + m ≤ len) (hlen : len ≤ 100000)
    (hx : ∀ y, y < m → w.cell? ⟨pb, y, none⟩ = some (U8 (x y))) (hmc : m ≤ cap) (hrb : Blk w R.rb 91 (rdCells ss buf hdr file dir k R.sb wa)) (hwa : wa = .nilIface ∨ wa = .iface 81 (.pointer (some ⟨R.sb, 0, none⟩)))
    (hbb : R.rb ≠ R.bb ∧ R.hb ≠ R.bb ∧ R.fb ≠ R.bb ∧ R.fb2 ≠ R.bb ∧ R.sb2 ≠ R.bb ∧ R.sb ≠ R.bb) (hlb : ∃ l, Blk w R.bb 5 l ∧ R.n ≤ l.length) :
    Calls Tryd.prog 47 #[.pointer (some ⟨fb, 0, none⟩), .slice (some ⟨pb, 0, none⟩) m cap] w (WrPost R F mini q K fb nm ini pv len i m dk ch off dat x (rdCells ss buf hdr file dir k R.sb (.iface 81 (.pointer (some ⟨R.sb, 0, none⟩)))) w) := by
  have hq64 : 64 ≤ q ∧ q ≤ 4096 := by
    have := hR.ss_
    rcases hS.kind with ⟨_, e, _⟩ | ⟨_, e, _⟩ <;> omega
  have f3 : w.cell? ⟨fb, 3, none⟩ = some (.int .i64 (len : Nat)) := hF.cell 3
  have f4 : w.cell? ⟨fb, 4, none⟩ = some (.int .i64 (i : Nat)) := hF.cell 4
  have h1B : decide ((len : Int) < 1) = false := by simp; omega
  have h2B : decide ((len : Int) ≤ (i : Int)) = false := by simp; omega
  obtain ⟨v, hv⟩ : ∃ v, len = i + v := ⟨len - i, by omega⟩
  have hvI : (len : Int) - (i : Int) = (v : Int) := by omega
  have hwv : IntKind.i64.wrap (v : Int) = (v : Int) := IntWalk.i64_in _ (by omega)
  have hvm : decide ((v : Int) < (m : Int)) = false := by simp; omega
  have hrbf : R.rb ≠ fb := fun h => hfb (h ▸ (by simp [RB.bl]))
  have hbbf : R.bb ≠ fb := fun h => hfb (h ▸ (by simp [RB.bl]))
  have hpr : pb ≠ R.rb := fun h => hpbl (h ▸ (by simp [RB.bl]))
  have hpb2 : pb ≠ R.bb := fun h => hpbl (h ▸ (by simp [RB.bl]))
  have HV := Lib.hid hv
  have HR := Lib.hid hR
  have HS := Lib.hid hS
  have HA := Lib.hid hA
  have HF := Lib.hid hF
  have HX := Lib.hid hx
  have HBL := Lib.hid hbl
  have HLB := Lib.hid hlb
  have HRB := Lib.hid hrb
  have HQT := Lib.hid hqt
  clear hv hR hS hA hF hx hbl hlb hrb hqt
  go_enter Tryd.func47, Tryd.ntmps47
  go_upto_region 1 with (fail)
  go_quiet (fail)
  have hf1 : Fr [] w (w.drewN nq) := (Fr.refl _ _).drewN _
  clear f3 f4
  generalize w.drewN nq = w1 at *
  have e8 : w1.cell? ⟨fb, 8, none⟩ = some (.pointer (some ⟨R.rb, 0, none⟩)) := (HF.out.fr0 hf1).cell 8
  have hrb1 := HRB.out.fr0 hf1
  have hR1 := HR.out.fr0 hf1
  have c8 : w1.cell? ⟨R.rb, 8, none⟩ = some wa := hrb1.cell 8
  have c7 := hR1.c7
  have z8 := hrb1.frozen 8
  obtain ⟨isn, hisn⟩ : ∃ b : Bool, (b = true ∧ wa = .nilIface) ∨ (b = false ∧ wa = .iface 81 (.pointer (some ⟨R.sb, 0, none⟩))) := by
    rcases hwa with h | h
    · exact ⟨true, .inl ⟨rfl, h⟩⟩
    · exact ⟨false, .inr ⟨rfl, h⟩⟩
  have hg1 : ∀ w : World, (eqGuard .eql 89 (.tmp 41) (.const .nilIface) wa .nilIface).run Tryd.prog w = .ok () w := by
    rcases hwa with rfl | rfl
    · exact eqg_nil
    · exact eqg_if _
  have hg2 : ∀ w : World, (binOp .eql 89 wa .nilIface).run Tryd.prog w = .ok (.bool isn) w := by
    rcases hisn with ⟨rfl, rfl⟩ | ⟨rfl, rfl⟩
    · exact eqb_nil
    · exact eqb_if _
  have HISN := Lib.hid hisn
  clear hisn
  go_upto_if 42 with (fail)
  go_cut [] from 18 to 64 (fun w3 => Fr [R.rb] w w3 ∧ Blk w3 R.rb 91 (rdCells ss buf hdr file dir k R.sb (.iface 81 (.pointer (some ⟨R.sb, 0, none⟩)))) ∧ RdS w3 R F)
  case first =>
    have hta := as81_89
    rcases HISN.out with ⟨rfl, rfl⟩ | ⟨rfl, rfl⟩
    · have hset := hrb1.set 8 (.iface 81 (.pointer (some ⟨R.sb, 0, none⟩)))
      have hR2 := hR1.set8 hrb1 rfl (.iface 81 (.pointer (some ⟨R.sb, 0, none⟩)))
      have HH := Lib.hid (And.intro ((hf1.mono (ms' := [R.rb]) (by simp)).setCell (p := ⟨R.rb, 8, none⟩) (.inl (by simp)) (.iface 81 (.pointer (some ⟨R.sb, 0, none⟩)))) (And.intro hset hR2))
      clear hset hR2 hrb1 hR1 hf1
      go_wp2_with fail
      go_meet
      case rel => exact HH.out
    · have HH := Lib.hid (And.intro (hf1.mono (ms' := [R.rb]) (by simp)) (And.intro hrb1 hR1))
      clear hrb1 hR1 hf1
      go_wp2_with fail
      go_meet
      case rel => exact HH.out
  case rest =>
  obtain ⟨hf2, hrb2, hR2⟩ := hcut
  clear hrb1 hR1 e8 c8 c7 z8 hf1 hwa hg1 hg2
  have hF2 : FlS _ _ _ _ _ _ _ _ _ _ _ := HF.out.fr hf2 (by simp; exact fun h => hrbf h.symm)
  have g3 : wc.cell? ⟨fb, 3, none⟩ = some (.int .i64 (len : Nat)) := hF2.cell 3
  have g4 : wc.cell? ⟨fb, 4, none⟩ = some (.int .i64 (i : Nat)) := hF2.cell 4
  go_upto_region 9 with (fail)
  go_quiet (fail)
  have hf3 : Fr [R.rb] w (wc.drewN nq) := hf2.drewN _
  have hF3 : FlS _ _ _ _ _ _ _ _ _ _ _ := Blk.fr0 hF2 ((Fr.refl _ _).drewN nq)
  have hR3 := hR2.fr0 ((Fr.refl _ _).drewN nq)
  have hrb3 := hrb2.fr0 ((Fr.refl _ _).drewN nq)
  clear hf2 hF2 hR2 hrb2 g3 g4
  generalize wc.drewN nq = w3 at *
  have hs3 := hf3.size
  have hst := stream_any R F mini q K len fb i m dk ini t0 r nm pv ch off dat w3 hR3 HS.out hF3 HQT.out hrq hfb (fun y hy => by have := HBL.out y hy; omega) h1 him hlen
  have HST := Lib.hid hst
  have HRB3 := Lib.hid hrb3
  have HR3 := Lib.hid hR3
  have HF3 := Lib.hid hf3
  clear hst hrb3 hR3 hf3 hF3
  go_wp2_with fail
  refine HST.out.mono ?_
  rintro e w4 ⟨qb, kp, c, o, l, rfl, hf4, hqb, hP4, hk1, hkc, hc1, hcov4, hb4, t', r', ht', hr', hF4⟩
  obtain ⟨P, hP0, hPk, hPle, hPs⟩ := hcov4.rel
  have hw4 : Fr [fb, R.rb] w w4 := (HF3.out.mono (ms' := [fb, R.rb]) (by simp)).trans_same (hf4.mono (by simp))
  obtain ⟨lb0, hlb0, hln0⟩ := HLB.out
  have hB4 := hlb0.fr hw4 (by simp; exact ⟨hbbf, hbb.1.symm⟩)
  have hpw : R.bb < w.heap.size := Blk.lt hlb0
  have hfw := Blk.lt HF.out
  have hqbb : qb ≠ R.bb := by omega
  have hqf : qb ≠ fb := by omega
  have hR4 := HR3.out.fr hf4 (fun y hy => by simp; rintro rfl; exact hfb hy)
  have hrb4 := HRB3.out.fr hf4 (by simpa using hrbf)
  have hlF : ∀ y, y < R.n → lb0[y]? = some (U8 (F y)) := fun y hy => by
    have := hR4.src.bytes y hy
    rw [hB4.cell] at this
    exact this
  have hx4 : ∀ y, y < m → w4.cell? ⟨pb, y, none⟩ = some (U8 (x y)) := fun y hy => hw4.cell (by simp; exact ⟨hpf, hpr⟩) (HX.out y hy)
  have HB4 := Lib.hid (And.intro hB4 hlF)
  have HP4 := Lib.hid hP4
  have HF4 := Lib.hid hF4
  have HPS := Lib.hid hPs
  have HP0 := Lib.hid hP0
  have HPK := Lib.hid hPk
  have HPL := Lib.hid hPle
  have HW4 := Lib.hid hw4
  have HR4 := Lib.hid hR4
  have HRB4 := Lib.hid hrb4
  have HX4 := Lib.hid hx4
  have HB4' := Lib.hid hb4
  have HTR := Lib.hid (And.intro ht' hr')
  have hgl : ∀ xx, xx < kp → ∀ d, d < l xx → gOf q off (i + P xx + d) = o xx + d := fun xx hxx d hd => (hPs xx hxx).2.2 d hd
  have HGL := Lib.hid hgl
  have hqw := hf4.size
  clear hB4 hlF hP4 hF4 hPs hP0 hPk hPle hw4 hR4 hrb4 hx4 hb4 hcov4 hf4 ht' hr' hgl HST
  go_wp2_with fail
  go_loopw [11, 12, 98] (fun s11 s12 s98 wr => ∃ (xx : Nat) (lx : List Value) (F1 : Nat → UInt8), s98 = .int .i64 xx ∧ xx ≤ kp ∧ s11 = .int .i64 (P xx) ∧ s12 = .int .i64 (P xx) ∧ Fr [R.bb] w4 wr ∧ Blk wr R.bb 5 lx ∧ R.n ≤ lx.length ∧ (∀ y, y < R.n → lx[y]? = some (U8 (F1 y))) ∧
    (∀ p, p < P xx → F1 (gOf q off (i + p)) = x p) ∧ ∀ y, (∀ p, p < P xx → y ≠ gOf q off (i + p)) → F1 y = F y) (fun _ _ s98 _ => kp - (intOf s98).toNat)
  case atStart => exact ⟨0, lb0, F, rfl, by omega, by rw [HP0.out]; rfl, by rw [HP0.out]; rfl, Fr.refl _ _, HB4.out.1, hln0, HB4.out.2, fun p hp => by rw [HP0.out] at hp; omega, fun _ _ => rfl⟩
  case round =>
    obtain ⟨xx, lx, F1, rfl, hxk, rfl, rfl, hfr, hBx, hlx, hlF, hF1, hF2⟩ := hrel
    by_cases hxc : xx < kp
    case neg =>
      obtain rfl : xx = kp := by omega
      have hxI : ¬ (xx : Int) < (xx : Int) := by omega
      have hPx := HPK.out
      rw [hPx] at hF1 hF2
      have htn : Turned F F1 q len off (turnD dat i m x) := by
        refine ⟨fun y hy => hF2 y (fun p hp => hy (i + p) (by omega)), fun p hp => ?_⟩
        unfold turnD
        by_cases h : i ≤ p ∧ p < i + m
        · rw [if_pos h]
          have := hF1 (p - i) (by omega)
          rw [show i + (p - i) = p by omega] at this
          exact this
        · rw [if_neg h, hF2 _ (fun p' hp' he => by have := HA.out.inj p (i + p') hp (by omega) he; omega)]
          exact HS.out.byte (by omega) p hp
      obtain ⟨hS', hA'⟩ := HS.out.turn HA.out (by omega) htn
      have hRf : RdS wr R F1 := HR4.out.turn hfr (fun y _ => by
          by_cases hyb : y = R.bb
          · exact .inl hyb
          · exact .inr (by simpa using hyb)) hbb (fun y hy => (hBx.cell y).trans (hlF y hy)) (fun ii hii => htn.fld HA.out.hd _ _ (by omega))
      have hFr : FlS _ _ _ _ _ _ _ _ _ _ _ := HF4.out.fr hfr (by simpa using hbbf.symm)
      have hrbr := HRB4.out.fr hfr (by simpa using hbb.1)
      have g4 : wr.cell? ⟨fb, 4, none⟩ = some (.int .i64 (i : Nat)) := hFr.cell 4
      have y4 := hFr.frozen 4
      have hset : Fr [fb] wr (wr.setCell ⟨fb, 4, none⟩ (.int .i64 ((i : Int) + (P xx : Int)))) := (Fr.refl _ _).setCell (.inl (by simp)) _
      have hPI : ((i : Int) + (P xx : Int)) = ((i + m : Nat) : Int) := by rw [hPx]; push_cast; rfl
      have hfin : WrPost R F mini q K fb nm ini pv len i m dk ch off dat x (rdCells ss buf hdr file dir k R.sb (.iface 81 (.pointer (some ⟨R.sb, 0, none⟩)))) w (.returned (.tuple #[.int .i64 (m : Nat), .nilIface])) (wr.setCell ⟨fb, 4, none⟩ (.int .i64 ((i : Int) + (P xx : Int)))) := by
        refine ⟨rfl, ((HW4.out.mono (ms' := [fb, R.rb, R.bb]) (by simp)).trans_same (hfr.mono (by simp))).setCell (.inl (by simp)) _, hrbr.setOther (by simpa using hrbf.symm) _, ?_, F1, hRf.fr hset (fun y hy => by simp; rintro rfl; exact hfb hy), htn, hS', hA', lx, hBx.setOther (by simpa using hbbf.symm) _, hlx⟩
        obtain ⟨b1, b2⟩ := HTR.out
        refine ⟨t', r', b1.symm, b2, ?_⟩
        rw [hPI]
        exact hFr.set 4 _
      have HFIN := Lib.hid hfin
      have hPb : P xx ≤ 100000 := by omega
      have hnB : (((P xx : Nat) : Int) != (m : Int)) = false := by simp; omega
      have hlN : ¬ P xx < m := by omega
      have hlB : decide (((P xx : Nat) : Int) < (m : Int)) = false := by simp; omega
      have HPX := Lib.hid hPx
      clear hFr hfr hBx hlx hlF hF1 hF2 hPI hfin htn hS' hA' hRf hrbr hset hPx
      go_wp2_with fail
      go_ret2
      refine ⟨?_, HFIN.out.2⟩
      rw [HPX.out]
      first | done | rfl
    have hxI : (xx : Int) < (kp : Int) := by omega
    obtain ⟨p1, p2, p3⟩ := HPS.out xx hxc
    have p4 := HPL.out (xx + 1) (by omega)
    rw [p1] at p4
    have hPr : Pcs wr qb c o l := Blk.fr HP4.out hfr (by simpa using hqbb)
    have hgt := hPr.get xx (by omega)
    have hroom := HB4'.out xx hxc
    have HXX := Lib.hid (And.intro hfr (And.intro hBx (And.intro hlx (And.intro hlF (And.intro hF1 hF2)))))
    have HP3 := Lib.hid (And.intro p1 p3)
    clear hfr hBx hlx hlF hF1 hF2 p1 p3
    go_wp2_with (first
      | (refine wpList_load_blk rfl 133 (.tmp 100) rfl qb (xx * 2) rfl 133 _ hPr _ Tryd.underlying133 rfl 2 (by kernel_rfl) ?c1 #[I64 (o xx), I64 (l xx)] hgt ?_)
      | (refine wpList_store_blk rfl 133 (.tmp 14) (.tmp 101) rfl wr.heap.size 0 #[I64 (o xx), I64 (l xx)] rfl rfl 133 _ (Blk.new' wr 133 _) ?c3 ?c4 rfl ?_))
    case c1 => simp; omega
    obtain ⟨hfr, hBx, hlx, hlF, hF1, hF2⟩ := HXX.out
    have hf5 : Fr [R.bb] w4 (wr.alloc (Obj.cells #[.int .i64 ((o xx : Nat) : Int), .int .i64 ((l xx : Nat) : Int)] 133)) := hfr.alloc _
    have hv5 : Blk (wr.alloc (Obj.cells #[.int .i64 ((o xx : Nat) : Int), .int .i64 ((l xx : Nat) : Int)] 133)) wr.heap.size 133 [I64 (o xx), I64 (l xx)] := Blk.new' _ _ _
    have hB5 := hBx.alloc (Obj.cells #[.int .i64 ((o xx : Nat) : Int), .int .i64 ((l xx : Nat) : Int)] 133)
    have hlt5 := Blk.lt hBx
    clear hfr hBx HXX hPr hgt
    generalize wr.alloc (Obj.cells #[.int .i64 ((o xx : Nat) : Int), .int .i64 ((l xx : Nat) : Int)] 133) = w5 at *
    generalize wr.heap.size = vb at *
    have hF5 : FlS _ _ _ _ _ _ _ _ _ _ _ := HF4.out.fr hf5 (by simpa using hbbf.symm)
    have hrb5 := HRB4.out.fr hf5 (by simpa using hbb.1)
    have hsc5 := hf5.cell (by simpa using hbb.2.2.2.2.2) HR4.out.src.sc
    have e8 : w5.cell? ⟨fb, 8, none⟩ = some (.pointer (some ⟨R.rb, 0, none⟩)) := hF5.cell 8
    have e7 : w5.cell? ⟨R.rb, 8, none⟩ = some (.iface 81 (.pointer (some ⟨R.sb, 0, none⟩))) := hrb5.cell 8
    have ev0 : w5.cell? ⟨vb, 0, none⟩ = some (I64 (o xx)) := hv5.cell 0
    have hvp : vb ≠ R.bb := by omega
    have hcon := Lib.hid (stWrite_any R.sb pb (P xx) (l xx) (cap - P xx) R.bb R.n R.cap (o xx) _ rfl (fun d => x (P xx + d)) lx w5.drew hroom HR4.out.src.ncap HR4.out.src.capm (by omega) hsc5 hB5 hlx (fun d hd => hf5.cell (by simpa using hpb2) (HX4.out (P xx + d) (by omega))) hpb2 hbb.2.2.2.2.2)
    have Hf5 := Lib.hid hf5
    have HL5 := Lib.hid (And.intro hlx (And.intro hlF (And.intro hF1 hF2)))
    have hna := nil_ahead_wa
    have hme := method_wa
    have q1 : (P xx : Int) ≤ (P xx : Int) + (l xx : Int) := by omega
    have q2 : (P xx : Int) + (l xx : Int) ≤ (cap : Int) := by omega
    have q3 : ((P xx : Int) + (l xx : Int)).toNat = P xx + l xx := by omega
    have q4 : ¬ cap = P xx := by omega
    clear hB5 hF5 hf5 hlx hlF hF1 hF2 hv5 hrb5 hsc5
    go_upto_region 21 with (fail)
    go_cut [16, 17] from 117 to 135 (fun s16 s17 w6 => s16 = .int .i64 (l xx) ∧ s17 = .nilIface ∧ Fr [R.bb] w5 w6 ∧ Blk w6 R.bb 5 (splice lx (o xx) (tab (l xx) (fun d => U8 (x (P xx + d))))))
    case first =>
      go_region_held3 (fun w' => w'.cell? ⟨fb, 8, none⟩ = some (.pointer (some ⟨R.rb, 0, none⟩)) ∧ w'.cell? ⟨R.rb, 8, none⟩ = some (.iface 81 (.pointer (some ⟨R.sb, 0, none⟩))) ∧ w'.cell? ⟨vb, 0, none⟩ = some (I64 (o xx)))
        (first | go_keep | exact ⟨hf6.cell (by simp; exact hbbf.symm) e8, hf6.cell (by simp; exact hbb.1) e7, hf6.cell (by simp; exact hvp) ev0⟩)
        (first | (go_at_call 95; refine hcon.out.mono ?_; rintro e w6 ⟨rfl, hf6, hb6⟩))
      all_goals
        go_wp2_with fail
        go_meet
        case rel => exact ⟨rfl, rfl, (Fr.refl _ _).drew.trans_same hf6, hb6⟩
    case rest =>
    obtain ⟨rfl, rfl, hf6, hb6⟩ := hcut
    obtain ⟨hlx, hlF, hF1, hF2⟩ := HL5.out
    obtain ⟨p1, p3⟩ := HP3.out
    have hlen6 : R.n ≤ (splice lx (o xx) (tab (l xx) (fun d => U8 (x (P xx + d))))).length := by simp [splice]; omega
    have hlF6 : ∀ y, y < R.n → (splice lx (o xx) (tab (l xx) (fun d => U8 (x (P xx + d)))))[y]? = some (U8 ((fun y => if o xx ≤ y ∧ y < o xx + l xx then x (P xx + (y - o xx)) else F1 y) y)) := by
      intro y hy
      rw [splice_get _ _ _ (by simp; omega), tab_length]
      dsimp only
      by_cases h1y : o xx ≤ y ∧ y < o xx + l xx
      · rw [if_pos h1y, if_pos h1y, tab_get _ _ _ (by omega)]
      · rw [if_neg h1y, if_neg h1y]
        exact hlF y hy
    have hgx := HGL.out xx hxc
    have hF16 : ∀ p, p < P xx + l xx → (fun y => if o xx ≤ y ∧ y < o xx + l xx then x (P xx + (y - o xx)) else F1 y) (gOf q off (i + p)) = x p := by
      intro p hp
      dsimp only
      by_cases hpx : p < P xx
      · rw [if_neg]
        · exact hF1 p hpx
        · intro h
          have hg := hgx (gOf q off (i + p) - o xx) (by omega)
          have := HA.out.inj (i + P xx + (gOf q off (i + p) - o xx)) (i + p) (by omega) (by omega) (by rw [hg]; omega)
          omega
      · have hg := hgx (p - P xx) (by omega)
        rw [show i + P xx + (p - P xx) = i + p by omega] at hg
        rw [if_pos (by omega), hg]
        congr 1
        omega
    have hF26 : ∀ y, (∀ p, p < P xx + l xx → y ≠ gOf q off (i + p)) → (fun y => if o xx ≤ y ∧ y < o xx + l xx then x (P xx + (y - o xx)) else F1 y) y = F y := by
      intro y hy
      dsimp only
      rw [if_neg]
      · exact hF2 y (fun p hp => hy p (by omega))
      · intro h
        have hg := hgx (y - o xx) (by omega)
        refine hy (P xx + (y - o xx)) (by omega) ?_
        rw [show i + (P xx + (y - o xx)) = i + P xx + (y - o xx) by omega, hg]
        omega
    have HF6 := Lib.hid (And.intro (Hf5.out.trans_same hf6) (And.intro hb6 (And.intro hlen6 (And.intro hlF6 (And.intro hF16 hF26)))))
    have HP1 := Lib.hid p1
    clear hf6 hb6 hlen6 hlF6 hF16 hF26 hgx hlx hlF hF1 hF2 p1 p3 hna hme hcon e7 e8 ev0
    go_wp2_with fail
    go_roundw
    case rel =>
      obtain ⟨a1, a2, a3, a4, a5, a6⟩ := HF6.out
      exact ⟨xx + 1, _, _, by go_num, by omega, by rw [HP1.out]; go_num, by rw [HP1.out]; go_num, a1, a2, a3, a4, fun p hp => a5 p (by rw [HP1.out] at hp; exact hp), fun y hy => a6 y (fun p hp => hy p (by rw [HP1.out]; exact hp))⟩
    case measure => simp [intOf]; omega
end Go.Proofs.YtokpomdfgbbhlaaDoor

/- The contracts of (*File).ReadAt and (*File).WriteAt, where all lies within the stream: the reading place stays. -/
namespace Go.Proofs.YtokpomdfgbbhlaaDoor
open Go Go.RowKit Go.Maps

set_option maxRecDepth 100000 in
set_option maxHeartbeats 4000000 in
theorem freadat_any (R : RB) (F : Nat → UInt8) (mini : Bool) (q K len fb pb n cap i abs dk ini t0 r : Nat) (nm : ByteArray) (pv ev : Value) (ch off : Nat → Nat) (dat : Nat → UInt8) (lb : List Value) (w : World) (hR : RdS w R F) (hS : StrR R F mini q K len ch off dat)
    (hF : FlS w fb nm ini pv len i (ch t0) r dk R.rb) (hqt : t0 * q + r = i) (hrq : r < q) (hil : i ≤ len) (hfb : fb ∉ R.bl) (hpbl : pb ∉ R.bl) (hbl : ∀ x ∈ R.bl, x < w.heap.size) (h1 : 1 ≤ n) (han : abs + n ≤ len) (hlen : len ≤ 100000)
    (hst : w.cell? ⟨dk, 60, none⟩ = some (.int .u32 (ch 0 : Nat))) (hdf : dk ≠ fb)
    (hB : Blk w pb 5 lb) (hn : n ≤ lb.length) (hnc : n ≤ cap) (hn9 : n ≤ 100000000) (hev : w.cell? ⟨0, 0, none⟩ = some ev) (h0b : fb ≠ 0 ∧ pb ≠ 0) :
    Calls Tryd.prog 46 #[.pointer (some ⟨fb, 0, none⟩), .slice (some ⟨pb, 0, none⟩) n cap, .int .i64 (abs : Int)] w fun e w' => e = .returned (.tuple #[.int .i64 (n : Nat), .nilIface]) ∧ Fr [fb, pb] w w' ∧
      FlS w' fb nm ini pv len i (ch t0) r dk R.rb ∧ ∃ l : List Value, Blk w' pb 5 l ∧ l.length = lb.length ∧ ∀ x, x < n → l[x]? = some (U8 (dat (abs + x))) := by
  have f4 : w.cell? ⟨fb, 4, none⟩ = some (.int .i64 (i : Nat)) := hF.cell 4
  have f5 : w.cell? ⟨fb, 5, none⟩ = some (.int .u32 (ch t0 : Nat)) := hF.cell 5
  have f6 : w.cell? ⟨fb, 6, none⟩ = some (.int .i64 (r : Nat)) := hF.cell 6
  have hpf : pb ≠ fb := (Blk.ne hF hB (by decide)).symm
  have hsk : ∀ w', Fr [] w w' → _ := fun w' f => seek_any R F mini q K len fb i abs dk ini t0 r (abs : Int) 0 nm pv ch off dat w' (hR.fr0 f) hS (Blk.fr0 hF f) hqt hrq hfb (f.cell0 hst) hdf (.inl ⟨rfl, rfl⟩) (by omega) hlen hil
  have HSK := Lib.hid hsk
  have HR := Lib.hid hR
  have HS := Lib.hid hS
  have HF := Lib.hid hF
  have HB := Lib.hid hB
  have HBL := Lib.hid hbl
  have HEV := Lib.hid hev
  clear hsk hR hS hF hB hbl hev hst hqt
  go_enter Tryd.func46, Tryd.ntmps46
  go_upto_region 1 with (fail)
  go_quiet (fail)
  have hf1 : Fr [] w (w.drewN nq) := (Fr.refl _ _).drewN _
  clear f4 f5 f6
  generalize w.drewN nq = w1 at *
  have hs1 := HSK.out w1 hf1
  have HS1 := Lib.hid hs1
  have HF1 := Lib.hid hf1
  clear hs1 hf1
  go_wp2_with fail
  refine HS1.out.mono ?_
  rintro e w2 ⟨rfl, hf2, t', r', h1', h2', hF2⟩
  have hw2 : Fr [fb] w w2 := (HF1.out.mono (by simp)).trans_same hf2
  have hR2 := HR.out.fr hw2 (fun x hx => by simp; rintro rfl; exact hfb hx)
  have hB2 := HB.out.fr hw2 (by simpa using hpf)
  have hs2 := hw2.size
  have hrd := read_any R F mini q K len fb pb n cap abs n dk ini t' r' nm pv ev .nilIface ch off dat lb w2 hR2 HS.out hF2 h1' h2' hfb hpbl (fun x hx => by have := HBL.out x hx; omega) h1 (by omega) hlen han (.inl ⟨rfl, rfl⟩) hB2 hn hnc hn9 (hw2.cell (by simp; exact fun h => h0b.1 h.symm) HEV.out) h0b
  have HRD := Lib.hid hrd
  have HW2 := Lib.hid hw2
  clear hrd hw2 hR2 hB2 hF2 hf2 h1' h2'
  go_wp2_with fail
  refine HRD.out.mono ?_
  rintro e w3 ⟨rfl, hf3, ⟨t'', r'', a1, a2, hF3⟩, l, hl1, hl2, hl3⟩
  have k4 : w3.cell? ⟨fb, 4, none⟩ = some (.int .i64 ((abs + n : Nat) : Int)) := hF3.cell 4
  have k5 : w3.cell? ⟨fb, 5, none⟩ = some (.int .u32 (ch t'' : Nat)) := hF3.cell 5
  have k6 : w3.cell? ⟨fb, 6, none⟩ = some (.int .i64 (r'' : Nat)) := hF3.cell 6
  have z4 := hF3.frozen 4
  have z5 := hF3.frozen 5
  have z6 := hF3.frozen 6
  have hfin : Fr [fb, pb] w (((w3.setCell ⟨fb, 4, none⟩ (.int .i64 (i : Nat))).setCell ⟨fb, 6, none⟩ (.int .i64 (r : Nat))).setCell ⟨fb, 5, none⟩ (.int .u32 (ch t0 : Nat))) ∧ FlS (((w3.setCell ⟨fb, 4, none⟩ (.int .i64 (i : Nat))).setCell ⟨fb, 6, none⟩ (.int .i64 (r : Nat))).setCell ⟨fb, 5, none⟩ (.int .u32 (ch t0 : Nat))) fb nm ini pv len i (ch t0) r dk R.rb ∧
      Blk (((w3.setCell ⟨fb, 4, none⟩ (.int .i64 (i : Nat))).setCell ⟨fb, 6, none⟩ (.int .i64 (r : Nat))).setCell ⟨fb, 5, none⟩ (.int .u32 (ch t0 : Nat))) pb 5 l :=
    ⟨((((HW2.out.mono (ms' := [fb, pb]) (by simp)).trans_same hf3).setCell (.inl (by simp)) _).setCell (.inl (by simp)) _).setCell (.inl (by simp)) _, ((hF3.idx i).rem r).cur (ch t0),
      ((hl1.setOther (by simpa using hpf.symm) _).setOther (by simpa using hpf.symm) _).setOther (by simpa using hpf.symm) _⟩
  have HFIN := Lib.hid hfin
  have HL := Lib.hid (And.intro hl2 hl3)
  clear hfin hl1 hl2 hl3 hF3 hf3 a1 a2
  go_wp2_with fail
  go_ret2
  exact ⟨rfl, HFIN.out.1, HFIN.out.2.1, l, HFIN.out.2.2, HL.out⟩

set_option maxRecDepth 100000 in
set_option maxHeartbeats 4000000 in
theorem fwriteat_any (R : RB) (F : Nat → UInt8) (mini : Bool) (q K len fb pb cap i abs m dk ini t0 r ss : Nat) (nm : ByteArray) (pv : Value) (buf hdr file dir wa : Value) (k : Int) (ch off : Nat → Nat) (dat x : Nat → UInt8) (w : World) (hR : RdS w R F) (hS : StrR R F mini q K len ch off dat) (hA : StrAp F R.ss R.mf mini q K len ch off)
    (hF : FlS w fb nm ini pv len i (ch t0) r dk R.rb) (hqt : t0 * q + r = i) (hrq : r < q) (hil : i ≤ len) (hfb : fb ∉ R.bl) (hpbl : pb ∉ R.bl) (hpf : pb ≠ fb) (hbl : ∀ y ∈ R.bl, y < w.heap.size) (h1 : 1 ≤ m) (him : abs + m ≤ len) (hlen : len ≤ 100000)
    (hst : w.cell? ⟨dk, 60, none⟩ = some (.int .u32 (ch 0 : Nat))) (hdf : dk ≠ fb)
    (hx : ∀ y, y < m → w.cell? ⟨pb, y, none⟩ = some (U8 (x y))) (hmc : m ≤ cap) (hrb : Blk w R.rb 91 (rdCells ss buf hdr file dir k R.sb wa)) (hwa : wa = .nilIface ∨ wa = .iface 81 (.pointer (some ⟨R.sb, 0, none⟩)))
    (hbb : R.rb ≠ R.bb ∧ R.hb ≠ R.bb ∧ R.fb ≠ R.bb ∧ R.fb2 ≠ R.bb ∧ R.sb2 ≠ R.bb ∧ R.sb ≠ R.bb) (hlb : ∃ l, Blk w R.bb 5 l ∧ R.n ≤ l.length) :
    Calls Tryd.prog 48 #[.pointer (some ⟨fb, 0, none⟩), .slice (some ⟨pb, 0, none⟩) m cap, .int .i64 (abs : Int)] w fun e w' => e = .returned (.tuple #[.int .i64 (m : Nat), .nilIface]) ∧ Fr [fb, R.rb, R.bb] w w' ∧ Blk w' R.rb 91 (rdCells ss buf hdr file dir k R.sb (.iface 81 (.pointer (some ⟨R.sb, 0, none⟩)))) ∧
      FlS w' fb nm ini pv len i (ch t0) r dk R.rb ∧
      ∃ F' : Nat → UInt8, RdS w' R F' ∧ Turned F F' q len off (turnD dat abs m x) ∧ StrR R F' mini q K len ch off (turnD dat abs m x) ∧ StrAp F' R.ss R.mf mini q K len ch off ∧ ∃ l, Blk w' R.bb 5 l ∧ R.n ≤ l.length := by
  have f4 : w.cell? ⟨fb, 4, none⟩ = some (.int .i64 (i : Nat)) := hF.cell 4
  have f5 : w.cell? ⟨fb, 5, none⟩ = some (.int .u32 (ch t0 : Nat)) := hF.cell 5
  have f6 : w.cell? ⟨fb, 6, none⟩ = some (.int .i64 (r : Nat)) := hF.cell 6
  have hrbf : R.rb ≠ fb := fun h => hfb (h ▸ (by simp [RB.bl]))
  have hbbf : R.bb ≠ fb := fun h => hfb (h ▸ (by simp [RB.bl]))
  have hsk : ∀ w', Fr [] w w' → _ := fun w' f => seek_any R F mini q K len fb i abs dk ini t0 r (abs : Int) 0 nm pv ch off dat w' (hR.fr0 f) hS (Blk.fr0 hF f) hqt hrq hfb (f.cell0 hst) hdf (.inl ⟨rfl, rfl⟩) (by omega) hlen hil
  have HSK := Lib.hid hsk
  have HR := Lib.hid hR
  have HS := Lib.hid hS
  have HA := Lib.hid hA
  have HX := Lib.hid hx
  have HRB := Lib.hid hrb
  have HBL := Lib.hid hbl
  have HLB := Lib.hid hlb
  have HWA := Lib.hid hwa
  clear hsk hR hS hA hF hx hbl hrb hst hqt hlb hwa
  go_enter Tryd.func48, Tryd.ntmps48
  go_upto_region 1 with (fail)
  go_quiet (fail)
  have hf1 : Fr [] w (w.drewN nq) := (Fr.refl _ _).drewN _
  clear f4 f5 f6
  generalize w.drewN nq = w1 at *
  have hs1 := HSK.out w1 hf1
  have HS1 := Lib.hid hs1
  have HF1 := Lib.hid hf1
  clear hs1 hf1
  go_wp2_with fail
  refine HS1.out.mono ?_
  rintro e w2 ⟨rfl, hf2, t', r', h1', h2', hF2⟩
  have hw2 : Fr [fb] w w2 := (HF1.out.mono (by simp)).trans_same hf2
  have hR2 := HR.out.fr hw2 (fun y hy => by simp; rintro rfl; exact hfb hy)
  have hs2 := hw2.size
  obtain ⟨lb0, hlb0, hln0⟩ := HLB.out
  have hwr := fwrite_any R F mini q K len fb pb cap abs m dk ini t' r' ss nm pv buf hdr file dir wa k ch off dat x w2 hR2 HS.out HA.out hF2 h1' h2' hfb hpbl hpf (fun y hy => by have := HBL.out y hy; omega) h1 him hlen
    (fun y hy => hw2.cell (by simpa using hpf) (HX.out y hy)) hmc (HRB.out.fr hw2 (by simpa using hrbf)) HWA.out hbb ⟨lb0, hlb0.fr hw2 (by simpa using hbbf), hln0⟩
  have HWR := Lib.hid hwr
  have HW2 := Lib.hid hw2
  clear hwr hw2 hR2 hF2 hf2 h1' h2' hlb0
  go_wp2_with fail
  refine HWR.out.mono ?_
  rintro e w3 ⟨rfl, hf3, hrb3, ⟨t'', r'', a1, a2, hF3⟩, F', hR3, hT3, hS3, hA3, l, hl1, hl2⟩
  have k4 : w3.cell? ⟨fb, 4, none⟩ = some (.int .i64 ((abs + m : Nat) : Int)) := hF3.cell 4
  have k5 : w3.cell? ⟨fb, 5, none⟩ = some (.int .u32 (ch t'' : Nat)) := hF3.cell 5
  have k6 : w3.cell? ⟨fb, 6, none⟩ = some (.int .i64 (r'' : Nat)) := hF3.cell 6
  have z4 := hF3.frozen 4
  have z5 := hF3.frozen 5
  have z6 := hF3.frozen 6
  have hf34 : Fr [fb] w3 (((w3.setCell ⟨fb, 4, none⟩ (.int .i64 (i : Nat))).setCell ⟨fb, 6, none⟩ (.int .i64 (r : Nat))).setCell ⟨fb, 5, none⟩ (.int .u32 (ch t0 : Nat))) := (((Fr.refl _ _).setCell (.inl (by simp)) _).setCell (.inl (by simp)) _).setCell (.inl (by simp)) _
  have hF4 : FlS (((w3.setCell ⟨fb, 4, none⟩ (.int .i64 (i : Nat))).setCell ⟨fb, 6, none⟩ (.int .i64 (r : Nat))).setCell ⟨fb, 5, none⟩ (.int .u32 (ch t0 : Nat))) fb nm ini pv len i (ch t0) r dk R.rb := ((hF3.idx i).rem r).cur (ch t0)
  have HFIN := Lib.hid (And.intro ((HW2.out.mono (ms' := [fb, R.rb, R.bb]) (by simp)).trans_same (hf3.trans (ms := [fb, R.rb, R.bb]) (hf34.mono (ms' := [fb, R.rb, R.bb]) (by simp)) (fun y hy => .inl hy))) (And.intro (hrb3.fr hf34 (by simpa using hrbf)) (And.intro hF4 (And.intro (hR3.fr hf34 (fun y hy => by simp; rintro rfl; exact hfb hy)) (And.intro hT3 (And.intro hS3 (And.intro hA3 (And.intro (hl1.fr hf34 (by simpa using hbbf)) hl2))))))))
  clear hf34 hF4 hl1 hl2 hF3 hf3 a1 a2 hrb3 hR3 hT3 hS3 hA3
  go_wp2_with fail
  go_ret2
  obtain ⟨b1, b2, b3, b4, b5, b6, b7, b8, b9⟩ := HFIN.out
  exact ⟨rfl, b1, b2, b3, F', b4, b5, b6, b7, l, b8, b9⟩
end Go.Proofs.YtokpomdfgbbhlaaDoor

/- The contracts of (*Reader).Next and (*Reader).Read: the entries one by one; what File.Read reads of them. -/
namespace Go.Proofs.YtokpomdfgbbhlaaDoor
open Go Go.RowKit Go.Maps

/-- A file of an entry, read up to place i: a stream's, or one that holds nothing. -/
def FAt (w : World) (R : RB) (F : Nat → UInt8) (f : Nat) (nm : ByteArray) (ini : Nat) (pv : Value) (dk len : Nat) (dat : Nat → UInt8) (i : Nat) : Prop :=
  ∃ c r : Nat, FlS w f nm ini pv len i c r dk R.rb ∧ (len = 0 ∨ ∃ (mini : Bool) (q K : Nat) (ch off : Nat → Nat) (t : Nat), StrR R F mini q K len ch off dat ∧ c = ch t ∧ t * q + r = i ∧ r < q)

theorem FAt.fr {w w' : World} {R : RB} {F : Nat → UInt8} {f : Nat} {nm : ByteArray} {ini : Nat} {pv : Value} {dk len : Nat} {dat : Nat → UInt8} {i : Nat} {ms : List Nat} (h : FAt w R F f nm ini pv dk len dat i) (g : Fr ms w w') (hf : f ∉ ms) : FAt w' R F f nm ini pv dk len dat i := by
  obtain ⟨c, r, h1, h2⟩ := h
  exact ⟨c, r, Blk.fr h1 g hf, h2⟩

/-- How many bytes a reading of n gets from place i of len. -/
def cntAt (len i n : Nat) : Nat := min n (len - i)

theorem file_read (R : RB) (F : Nat → UInt8) (f pb n i dk ini len : Nat) (nm : ByteArray) (pv ev : Value) (dat : Nat → UInt8) (lb : List Value) (w : World) (hR : RdS w R F) (hA : FAt w R F f nm ini pv dk len dat i)
    (hfb : f ∉ R.bl) (hpbl : pb ∉ R.bl) (hbl : ∀ x ∈ R.bl, x < w.heap.size) (h1 : 1 ≤ n) (hil : i ≤ len) (hlen : len ≤ 100000) (hB : Blk w pb 5 lb) (hn : lb.length = n) (hn9 : n ≤ 100000000) (hev : w.cell? ⟨0, 0, none⟩ = some ev) (h0b : f ≠ 0 ∧ pb ≠ 0) :
    Calls Tryd.prog 44 #[.pointer (some ⟨f, 0, none⟩), .slice (some ⟨pb, 0, none⟩) n n] w fun e w' => ∃ ex, e = .returned (.tuple #[.int .i64 (cntAt len i n : Nat), ex]) ∧ ex = (if cntAt len i n = n then .nilIface else ev) ∧ Fr [f, pb] w w' ∧
      FAt w' R F f nm ini pv dk len dat (i + cntAt len i n) ∧ ∃ l : List Value, Blk w' pb 5 l ∧ l.length = n ∧ ∀ x, x < cntAt len i n → l[x]? = some (U8 (dat (i + x))) := by
  obtain ⟨c, r, hF, hA2⟩ := hA
  by_cases he : len ≤ i
  · have hc : cntAt len i n = 0 := by unfold cntAt; omega
    refine (read_end f n n i c r dk R.rb ini nm pv ev len (some ⟨pb, 0, none⟩) w hF (.inr he) hev).mono ?_
    rintro e w' ⟨rfl, hf⟩
    rw [hc, if_neg (by omega)]
    exact ⟨ev, rfl, rfl, hf.mono (by simp), ⟨c, r, Blk.fr0 hF hf, hA2⟩, lb, hB.fr0 hf, hn, fun x hx => absurd hx (Nat.not_lt_zero _)⟩
  · rcases hA2 with h0 | ⟨mini, q, K, ch, off, t, hS, rfl, hqt, hrq⟩
    · omega
    have hcl : i + cntAt len i n ≤ len := by unfold cntAt; omega
    have hrd := read_any R F mini q K len f pb n n i (cntAt len i n) dk ini t r nm pv ev (if cntAt len i n = n then .nilIface else ev) ch off dat lb w hR hS hF hqt hrq hfb hpbl hbl h1 (by omega) hlen hcl
      (by
        by_cases hh : cntAt len i n = n
        · rw [if_pos hh]; exact .inl ⟨hh, rfl⟩
        · rw [if_neg hh]; exact .inr ⟨by unfold cntAt at hh ⊢; omega, by unfold cntAt at hh ⊢; omega, rfl⟩)
      hB (by omega) (Nat.le_refl _) hn9 hev h0b
    refine hrd.mono ?_
    rintro e w' ⟨rfl, hf, ⟨t', r', h5, h6, h7⟩, l, hl1, hl2, hl3⟩
    exact ⟨_, rfl, rfl, hf, ⟨ch t', r', h7, .inr ⟨mini, q, K, ch, off, t', hS, rfl, h5.symm, h6⟩⟩, l, hl1, by omega, hl3⟩

set_option maxRecDepth 100000 in
set_option maxHeartbeats 1000000 in
theorem next_any (rb gb n c k ss : Nat) (f : Nat) (buf hdr dir wa : Value) (sb : Nat) (w : World) (hrb : Blk w rb 91 (rdCells ss buf hdr (.slice (some ⟨gb, 0, none⟩) n c) dir (k : Nat) sb wa))
    (hk : k + 1 < n) (hn : n ≤ 1000000) (hg : w.cell? ⟨gb, k + 1, none⟩ = some (.pointer (some ⟨f, 0, none⟩))) (hgr : gb ≠ rb) :
    Calls Tryd.prog 37 #[.pointer (some ⟨rb, 0, none⟩)] w fun e w' => e = .returned (.tuple #[.pointer (some ⟨f, 0, none⟩), .nilIface]) ∧ Fr [rb] w w' ∧ Blk w' rb 91 (rdCells ss buf hdr (.slice (some ⟨gb, 0, none⟩) n c) dir ((k + 1 : Nat) : Int) sb wa) := by
  have r6 : w.cell? ⟨rb, 6, none⟩ = some (.int .i64 (k : Nat)) := hrb.cell 6
  have z6 := hrb.frozen 6
  have hb2 : Blk (w.setCell ⟨rb, 6, none⟩ (.int .i64 ((k : Int) + 1))) rb 91 (rdCells ss buf hdr (.slice (some ⟨gb, 0, none⟩) n c) dir ((k + 1 : Nat) : Int) sb wa) := by
    have := hrb.set 6 (.int .i64 ((k : Int) + 1))
    push_cast
    exact this
  have s6 : (w.setCell ⟨rb, 6, none⟩ (.int .i64 ((k : Int) + 1))).cell? ⟨rb, 6, none⟩ = some (.int .i64 ((k : Int) + 1)) := by have := hb2.cell 6; push_cast at this; exact this
  have s4 : (w.setCell ⟨rb, 6, none⟩ (.int .i64 ((k : Int) + 1))).cell? ⟨rb, 4, none⟩ = some (.slice (some ⟨gb, 0, none⟩) n c) := hb2.cell 4
  have sg : (w.setCell ⟨rb, 6, none⟩ (.int .i64 ((k : Int) + 1))).cell? ⟨gb, k + 1, none⟩ = some (.pointer (some ⟨f, 0, none⟩)) := by
    rw [World.cell?_setCell_other _ _ _ _ (by intro e; injection e with e1 e2; exact hgr e1.symm)]
    exact hg
  have hkB : decide ((n : Int) ≤ (k : Int) + 1) = false := by simp; omega
  have hkI : (k : Int) + 1 < (n : Int) := by omega
  have hwk : IntKind.i64.wrap ((k : Int) + 1) = (k : Int) + 1 := IntWalk.i64_in _ (by omega)
  have hfr : Fr [rb] w (w.setCell ⟨rb, 6, none⟩ (.int .i64 ((k : Int) + 1))) := (Fr.refl _ _).setCell (.inl (by simp)) _
  have HB := Lib.hid (And.intro hb2 hfr)
  clear hb2 hfr
  go_enter Tryd.func37, Tryd.ntmps37
  go_upto_region 2 with (fail)
  generalize w.setCell ⟨rb, 6, none⟩ (.int .i64 ((k : Int) + 1)) = w1 at *
  go_quiet (fail)
  have s6' : (w1.drewN nq).cell? ⟨rb, 6, none⟩ = some (.int .i64 ((k : Int) + 1)) := s6
  have s4' : (w1.drewN nq).cell? ⟨rb, 4, none⟩ = some (.slice (some ⟨gb, 0, none⟩) n c) := s4
  have sg' : (w1.drewN nq).cell? ⟨gb, k + 1, none⟩ = some (.pointer (some ⟨f, 0, none⟩)) := sg
  have hb3 := Lib.hid (And.intro (HB.out.1.drewN nq) (HB.out.2.drewN nq))
  clear s6 s4 sg HB
  generalize w1.drewN nq = w2 at *
  go_upto_region 4 with (fail)
  go_quiet (fail)
  go_wp2_with fail
  go_ret2
  exact ⟨rfl, hb3.out.2.drewN _, hb3.out.1.drewN _⟩

set_option maxRecDepth 100000 in
set_option maxHeartbeats 1000000 in
theorem next_end (rb gb n c k ss : Nat) (buf hdr dir wa ev : Value) (sb : Nat) (w : World) (hrb : Blk w rb 91 (rdCells ss buf hdr (.slice (some ⟨gb, 0, none⟩) n c) dir (k : Nat) sb wa))
    (hk : n ≤ k + 1) (hk2 : k ≤ 1000000) (hev : w.cell? ⟨0, 0, none⟩ = some ev) (h0 : rb ≠ 0) :
    Calls Tryd.prog 37 #[.pointer (some ⟨rb, 0, none⟩)] w fun e w' => e = .returned (.tuple #[.pointer none, ev]) ∧ Fr [rb] w w' := by
  have r6 : w.cell? ⟨rb, 6, none⟩ = some (.int .i64 (k : Nat)) := hrb.cell 6
  have z6 := hrb.frozen 6
  have hb2 := hrb.set 6 (.int .i64 ((k : Int) + 1))
  have s6 : (w.setCell ⟨rb, 6, none⟩ (.int .i64 ((k : Int) + 1))).cell? ⟨rb, 6, none⟩ = some (.int .i64 ((k : Int) + 1)) := hb2.cell 6
  have s4 : (w.setCell ⟨rb, 6, none⟩ (.int .i64 ((k : Int) + 1))).cell? ⟨rb, 4, none⟩ = some (.slice (some ⟨gb, 0, none⟩) n c) := hb2.cell 4
  have sg : (w.setCell ⟨rb, 6, none⟩ (.int .i64 ((k : Int) + 1))).cell? ⟨0, 0, none⟩ = some ev := by
    rw [World.cell?_setCell_other _ _ _ _ (by intro e; injection e with e1 e2; exact h0 e1)]
    exact hev
  have hkB : decide ((n : Int) ≤ (k : Int) + 1) = true := by simp; omega
  have hkI : (n : Int) ≤ (k : Int) + 1 := by omega
  have hwk : IntKind.i64.wrap ((k : Int) + 1) = (k : Int) + 1 := IntWalk.i64_in _ (by omega)
  have hfr : Fr [rb] w (w.setCell ⟨rb, 6, none⟩ (.int .i64 ((k : Int) + 1))) := (Fr.refl _ _).setCell (.inl (by simp)) _
  have HB := Lib.hid hfr
  clear hb2 hfr
  go_enter Tryd.func37, Tryd.ntmps37
  go_upto_region 2 with (fail)
  generalize w.setCell ⟨rb, 6, none⟩ (.int .i64 ((k : Int) + 1)) = w1 at *
  go_quiet (fail)
  have sg' : (w1.drewN nq).cell? ⟨0, 0, none⟩ = some ev := sg
  have hb3 := Lib.hid (HB.out.drewN nq)
  clear s6 s4 sg HB
  generalize w1.drewN nq = w2 at *
  go_upto_region 3 with (fail)
  go_quiet (fail)
  go_wp2_with fail
  go_ret2
  exact ⟨rfl, hb3.out.drewN _⟩
end Go.Proofs.YtokpomdfgbbhlaaDoor

/- The contract of (*Reader).traverse. -/
namespace Go.Proofs.YtokpomdfgbbhlaaDoor
open Go Go.RowKit Go.Maps

theorem make_files (n : Nat) (h : n ≤ 200000) (w : World) : (Instr.makeSlice 85 (.int .i64 0) (.int .i64 (n : Int))).run Tryd.prog w =
    .ok (.slice (some ⟨w.heap.size, 0, none⟩) 0 n) (w.alloc (.cells (tab n (fun _ => Value.pointer none)).toArray 92)) := by
  have := make_tab Tryd.underlying85 info92 rfl 0 n (Nat.zero_le _) (by omega) (by omega) w
  simpa using this

theorem run_store_func (w : World) (a : Addr) (fn : Fn) (first cap : Array Value) (m : Mode) : (store a (.func fn first cap) m).run Tryd.prog w = stored Tryd.prog w a (.func fn first cap) m := run_store Tryd.prog w a _ m rfl
attribute [local go_sem] run_store_func

set_option maxRecDepth 100000 in
set_option maxHeartbeats 1000000 in
theorem traverse_any (rb sb ub ul uc ss dg dcap E base : Nat) (hdr wa : Value) (G : Nat → Nat → UInt8) (P : Nat → EntP) (fk dk : Nat → Nat) (t : Tr) (dl : List Value) (w : World)
    (hrd : Blk w rb 91 (rdCells ss (.slice (some ⟨ub, 0, none⟩) ul uc) hdr (.slice none 0 0) (.slice (some ⟨dg, 0, none⟩) E dcap) 0 sb wa))
    (hda : Blk w dg 92 dl) (hdb : ∀ e, e < E → dl[e]? = some (.pointer (some ⟨fk e, 0, none⟩)))
    (hfile : ∀ e, e < E → Blk w (fk e) 95 (flCells (P e).name (P e).init (.slice none 0 0) (P e).size 0 (fld (G e) 116 4) 0 (dk e) rb))
    (hent : ∀ e, e < E → Blk w (dk e) 119 (tab 69 (dirL12 (G e)))) (hinj : ∀ a b, a < E → b < E → fk a = fk b → a = b)
    (ht : t ≠ .nil) (hfit : t.Fits E G 0) (hnd : t.order.Nodup) (hlen : t.order.length ≤ E) (hE : E ≤ 100000) :
    Calls Tryd.prog 53 #[.pointer (some ⟨rb, 0, none⟩)] w fun e w' => e = .returned .nilIface ∧ Fr (rb :: t.order.map fk) w w' ∧
      ∃ (gb : Nat) (pv : Nat → Value), w.heap.size ≤ gb ∧ Blk w' rb 91 (rdCells ss (.slice (some ⟨ub, 0, none⟩) ul uc) hdr (.slice (some ⟨gb, 0, none⟩) t.order.length E) (.slice (some ⟨dg, 0, none⟩) E dcap) 0 sb wa) ∧
        (∀ i, i < t.order.length → w'.cell? ⟨gb, i, none⟩ = some (.pointer (some ⟨fk (t.order.getD i 0), 0, none⟩))) ∧
        (∀ e, e < E → Blk w' (fk e) 95 (flCells (P e).name (P e).init (pv e) (P e).size 0 (fld (G e) 116 4) 0 (dk e) rb)) ∧ (∀ e, e < E → Blk w' (dk e) 119 (tab 69 (dirL12 (G e)))) ∧
        ∀ q ∈ t.paths (fun e => (P e).name) [], PathIs w' w.heap.size (pv q.1) q.2 := by
  have hmk := make_files E (by omega)
  have hmf : ∀ (fn : Fn) (first cap : Array Value) (w : World), (Instr.makeFunc fn first cap).run Tryd.prog w = .ok (.func fn first cap) w := fun _ _ _ _ => rfl
  have lr := hrd.lt
  go_enter Tryd.func53, Tryd.ntmps53
  go_upto_region 1 with (fail)
  have hf1 : Fr [] w (w.alloc (Obj.cells #[Value.pointer (some { block := rb, off := 0 })] 80)) := (Fr.refl _ _).alloc _
  have hx1 := Blk.new' w 80 #[Value.pointer (some { block := rb, off := 0 })]
  have hsz1 : w.heap.size < (w.alloc (Obj.cells #[Value.pointer (some { block := rb, off := 0 })] 80)).heap.size := by simp
  generalize w.alloc (Obj.cells #[Value.pointer (some { block := rb, off := 0 })] 80) = w1 at *
  generalize hxb : w.heap.size = xb at *
  obtain ⟨gb, hgb⟩ : ∃ gb, w1.heap.size = gb := ⟨_, rfl⟩
  have hrd1 := hrd.fr0 hf1
  have x0 : w1.cell? ⟨xb, 0, none⟩ = some (.pointer (some ⟨rb, 0, none⟩)) := hx1.cell 0
  have h4 : w1.cell? ⟨rb, 4, none⟩ = some (.slice none 0 0) := hrd1.cell 4
  have z4 := hrd1.frozen 4
  have h5 : w1.cell? ⟨rb, 5, none⟩ = some (.slice (some ⟨dg, 0, none⟩) E dcap) := hrd1.cell 5
  have hfa : Fr [] w1 (w1.alloc (Obj.cells (tab E (fun _ => Value.pointer none)).toArray 92)) := (Fr.refl _ _).alloc _
  have hrda := hrd1.fr0 hfa
  have x0a := hfa.cell0 x0
  have h4a := hfa.cell0 h4
  have h5a := hfa.cell0 h5
  have z4a := hrda.frozen 4
  go_cut [] from 6 to 14 (fun w2 => Fr [rb] w1 w2 ∧ Blk w2 rb 91 (rdCells ss (.slice (some ⟨ub, 0, none⟩) ul uc) hdr (.slice (some ⟨gb, 0, none⟩) 0 E) (.slice (some ⟨dg, 0, none⟩) E dcap) 0 sb wa) ∧ Blk w2 gb 92 (tab E (fun _ => Value.pointer none)))
  case first =>
    go_region
    all_goals
      go_wp2_with fail
      go_meet
      case rel =>
        exact ⟨((hfa.mono (by simp)).setCell (.inl (by simp)) _).drew, (hrda.set 4 _).drew, by
          subst hgb
          exact ((Blk.new _ _ _).setOther (by simp; omega) _).drew⟩
  case rest =>
  clear h4 z4 h5 h4a h5a z4a x0a x0 hrda hfa
  obtain ⟨hf2, hrd2, hg2⟩ := hcut
  have hx2 := hx1.fr hf2 (by simp; omega)
  go_upto_region 5 with (fail)
  have hf3 : Fr [] wc (((wc.alloc (Obj.cells #[Value.nilFunc] 102)).alloc (Obj.cells #[Value.nilIface] 104)).alloc (Obj.cells #[Value.int IntKind.i64 0] 3)) := (((Fr.refl _ _).alloc _).alloc _).alloc _
  have b1 := ((Blk.new' wc 102 #[Value.nilFunc]).alloc (Obj.cells #[Value.nilIface] 104)).alloc (Obj.cells #[Value.int IntKind.i64 0] 3)
  have b2 := (Blk.new' (wc.alloc (Obj.cells #[Value.nilFunc] 102)) 104 #[Value.nilIface]).alloc (Obj.cells #[Value.int IntKind.i64 0] 3)
  have b3 := Blk.new' ((wc.alloc (Obj.cells #[Value.nilFunc] 102)).alloc (Obj.cells #[Value.nilIface] 104)) 3 #[Value.int IntKind.i64 0]
  simp only [World.size_alloc] at b2 b3
  generalize ((wc.alloc (Obj.cells #[Value.nilFunc] 102)).alloc (Obj.cells #[Value.nilIface] 104)).alloc (Obj.cells #[Value.int IntKind.i64 0] 3) = w3 at *
  have hwc : gb < wc.heap.size := hg2.lt
  generalize wc.heap.size = fb at *
  have hrd3 := hrd2.fr0 hf3
  have hg3 := hg2.fr0 hf3
  have hx3 := hx2.fr0 hf3
  have hF3 : Fr [rb] w w3 := ((hf1.mono (by simp)).trans_same hf2).trans0 hf3
  have c0 : w3.cell? ⟨fb, 0, none⟩ = some .nilFunc := b1.cell 0
  have cz := b1.frozen 0
  go_upto_region 6 with (fail)
  obtain ⟨T, hT⟩ : ∃ T : TEnv, T = { cb := fb + 1 + 1, xb := xb, eb := fb + 1, fb := fb, rb := rb, hb := 0, sb := sb, ub := ub, ul := ul, uc := uc, ss := ss, gb := gb, dg := dg, dcap := dcap, E := E, base := xb, hdr := hdr, wa := wa, G := G, P := P, fk := fk, dk := dk } := ⟨_, rfl⟩
  have hdgb : dg < xb := by rw [← hxb]; exact hda.lt
  have hxg : xb < gb := by omega
  have n1 : ∀ e, e < E → fk e < xb := fun e he => by rw [← hxb]; exact (hfile e he).lt
  have n2 : ∀ e, e < E → dk e < xb := fun e he => by rw [← hxb]; exact (hent e he).lt
  have hst : TSt T (w3.setCell ⟨fb, 0, none⟩ (.func (.func 63) #[] #[.pointer (some ⟨fb + 1 + 1, 0, none⟩), .pointer (some ⟨xb, 0, none⟩), .pointer (some ⟨fb + 1, 0, none⟩), .pointer (some ⟨fb, 0, none⟩)])) 0 0 (tab E (fun _ => Value.pointer none)) (fun _ => .slice none 0 0) := by
    subst hT
    exact {
      cnt := b3.setOther (by simp; omega) _
      box := hx3.setOther (by simp; omega) _
      err := b2.setOther (by simp) _
      rec_ := b1.set 0 _
      rd := hrd3.setOther (by simp; omega) _
      row := hg3.setOther (by simp; omega) _
      len := by simp
      dir := ⟨dl, (hda.fr hF3 (by simpa using hda.ne hrd (by decide))).setOther (by simp; omega) _, hdb⟩
      file := fun e he => ((hfile e he).fr hF3 (by simpa using (hfile e he).ne hrd (by decide))).setOther (by have := n1 e he; simp; omega) _
      ent := fun e he => ((hent e he).fr hF3 (by simpa using (hent e he).ne hrd (by decide))).setOther (by have := n2 e he; simp; omega) _
      inj := hinj
      gdg := by simp; omega
      base := by have := hF3.size; simp; omega }
  have hF4 := hF3.setCell (p := ⟨fb, 0, none⟩) (.inr (by simp; omega)) (.func (.func 63) #[] #[.pointer (some ⟨fb + 1 + 1, 0, none⟩), .pointer (some ⟨xb, 0, none⟩), .pointer (some ⟨fb + 1, 0, none⟩), .pointer (some ⟨fb, 0, none⟩)])
  clear b1 b2 b3 c0 cz hrd3 hg3 hx3 hF3
  generalize w3.setCell ⟨fb, 0, none⟩ (.func (.func 63) #[] #[.pointer (some ⟨fb + 1 + 1, 0, none⟩), .pointer (some ⟨xb, 0, none⟩), .pointer (some ⟨fb + 1, 0, none⟩), .pointer (some ⟨fb, 0, none⟩)]) = w4 at *
  have c0 : w4.cell? ⟨fb, 0, none⟩ = some (.func (.func 63) #[] #[.pointer (some ⟨fb + 1 + 1, 0, none⟩), .pointer (some ⟨xb, 0, none⟩), .pointer (some ⟨fb + 1, 0, none⟩), .pointer (some ⟨fb, 0, none⟩)]) := by
    have := hst.rec_.cell 0
    subst hT
    exact this
  have hsz4 : xb ≤ w4.heap.size := by have := hF4.size; omega
  have hcon := Lib.hid (trav_any T t 0 0 0 (tab E (fun _ => Value.pointer none)) (fun _ => .slice none 0 0) (.slice (some ⟨w4.heap.size, 0, none⟩) 0 0) [] (w4.alloc (Obj.cells #[] 9)) ht (by subst hT; exact hfit) hnd (hst.fr0 ((Fr.refl [] w4).alloc _)) ⟨w4.heap.size, 0, rfl, by subst hT; exact hsz4, Blk.new' w4 9 #[]⟩ (by subst hT; simpa using hlen) (by subst hT; simpa using hlen) (by subst hT; exact hE) (by simp; omega))
  rw [hT] at hcon
  go_wp2_with fail
  refine hcon.out.mono ?_
  rintro e w6 ⟨rfl, hfP, pv', hsP, _, hpaP⟩
  have c1 : w6.cell? ⟨fb + 1, 0, none⟩ = some .nilIface := hsP.err.cell 0
  go_wp2_with fail
  go_ret
  refine ⟨rfl, ?_, gb, pv', by omega, ?_, ?_, hsP.file, hsP.ent, by rw [hxb]; exact hpaP⟩
  · refine (hF4.mono (ms' := rb :: t.order.map fk) (by simp)).trans (((Fr.refl ((fb + 1 + 1) :: rb :: gb :: t.order.map fk) w4).alloc (Obj.cells #[] 9)).trans_same hfP) ?_
    intro b hb
    simp only [List.mem_cons] at hb ⊢
    rcases hb with rfl | rfl | rfl | hb
    · exact .inr (by omega)
    · exact .inl (.inl rfl)
    · exact .inr (by omega)
    · exact .inl (.inr hb)
  · have := hsP.rd
    rw [Nat.zero_add] at this
    exact this
  · intro i hi
    have h0 := hsP.row.cell i
    rw [splice_get _ _ _ (by simp; omega), if_pos (by simp; omega), Nat.sub_zero, List.getElem?_map] at h0
    rw [h0, List.getD_eq_getElem?_getD]
    simp [hi]
end Go.Proofs.YtokpomdfgbbhlaaDoor

/- The contract of New over a sound file. -/
namespace Go.Proofs.YtokpomdfgbbhlaaDoor
open Go Go.RowKit Go.Maps

/-- A reader stands in memory. -/
structure RdOK (w : World) (base rb sb : Nat) (F : Nat → UInt8) (ss m : Nat) (cs : Nat → Nat) (P : Nat → EntP) (t : Tr) (mn mm : Nat) (mf ms : Nat → Nat)
    (hb fb gb dg dcap ub ul uc : Nat) (fk dk : Nat → Nat) (pv : Nat → Value) (mfv msv : Value) : Prop where
  rb_ : base ≤ rb
  rd : Blk w rb 91 (rdCells ss (.slice (some ⟨ub, 0, none⟩) ul uc) (.pointer (some ⟨hb, 0, none⟩)) (.slice (some ⟨gb, 0, none⟩) t.order.length (m * (ss / 128))) (.slice (some ⟨dg, 0, none⟩) (m * (ss / 128)) dcap) 0 sb .nilIface)
  hd : Blk w hb 142 (hdCells fb (.slice (some ⟨fb, 45, none⟩) 109 109) mfv msv)
  hdb : base ≤ hb
  fd : Blk w fb 147 (hdrN F 109)
  files : ∀ i, i < t.order.length → w.cell? ⟨gb, i, none⟩ = some (.pointer (some ⟨fk (t.order.getD i 0), 0, none⟩))
  file : ∀ e, e < m * (ss / 128) → Blk w (fk e) 95 (flCells (P e).name (P e).init (pv e) (P e).size 0 (fld (entB F ss cs e) 116 4) 0 (dk e) rb)
  fileb : ∀ e, e < m * (ss / 128) → base ≤ fk e
  filei : ∀ a b, a < b → b < m * (ss / 128) → fk a < fk b
  ent : ∀ e, e < m * (ss / 128) → Blk w (dk e) 119 (tab 69 (dirL12 (entB F ss cs e)))
  path : ∀ q ∈ t.paths (fun e => (P e).name) [], PathIs w base (pv q.1) q.2
  mini : mn = 0 ∨ ∃ fb' sb' k, mfv = .slice (some ⟨fb', 0, none⟩) mn mn ∧ msv = .slice (some ⟨sb', 0, none⟩) mm k ∧ base ≤ fb' ∧ base ≤ sb' ∧ mm ≤ k ∧
    (∀ i, i < mn → w.cell? ⟨fb', i, none⟩ = some (.int .u32 (mf i : Nat))) ∧ (∀ i, i < mm → w.cell? ⟨sb', i, none⟩ = some (.int .u32 (ms i : Nat)))

theorem info5 : (Tryd.prog.info? 5).map (fun i => (i.zero, i.size, i.bytes)) = some (some (.int .u8 0), 1, 1) := by kernel_rfl
theorem make_buf (c : Nat) (h : c ≤ 1000000) (w : World) : (Instr.makeSlice 23 (.int .i64 c) (.int .i64 c)).run Tryd.prog w = .ok (.slice (some ⟨w.heap.size, 0, none⟩) c c) (w.alloc (.cells (tab c (fun _ => .int .u8 0)).toArray 5)) :=
  make_tab Tryd.underlying23 info5 rfl c c (Nat.le_refl _) (by omega) (by omega) w

theorem make_buf32 (w : World) : (Instr.makeSlice 23 (.int .u32 4096) (.int .u32 4096)).run Tryd.prog w = .ok (.slice (some ⟨w.heap.size, 0, none⟩) 4096 4096) (w.alloc (.cells (tab 4096 (fun _ => .int .u8 0)).toArray 5)) := by
  obtain ⟨i, h1, h2, h3, h4⟩ := info_parts info5
  have := run_make (P := Tryd.prog) w 23 5 i (.int .u8 0) Tryd.underlying23 h1 h2 .u32 .u32 4096 4096 (by omega) (by omega) (by rw [h4]; omega) (by omega)
  rw [this, h3]
  have h := madeCells_tab (.int .u8 0) 4096 rfl
  rw [show (4096 : Int).toNat = 4096 from rfl, h]

theorem as81_127 (v : Value) (w : World) : (Instr.typeAssert (.iface 81 v) 87 127 true).run Tryd.prog w = .ok (.tuple #[.nilIface, .bool false]) w := run_typeAssert_lacksB Tryd.underlying127 (by kernel_rfl) (by kernel_rfl) v 87 w

set_option maxRecDepth 100000 in
set_option maxHeartbeats 1000000 in
theorem new_ok (sb bb n cap ss m mn mm : Nat) (F : Nat → UInt8) (cs mf ms : Nat → Nat) (P : Nat → EntP) (t : Tr) (w : World) (hS : Src w sb bb n cap F) (hF : FileOK F n ss m cs P t mn mm mf ms)
    (hp : ∀ i, 65 ≤ i → i ≤ 90 → w.cell? ⟨2, i, none⟩ = some (.int .u8 160)) (h2w : 2 < w.heap.size) :
    Calls Tryd.prog 42 #[.iface 81 (.pointer (some ⟨sb, 0, none⟩))] w fun e w' =>
      ∃ (rb hb fb gb dg dcap ub ul uc : Nat) (fk dk : Nat → Nat) (pv : Nat → Value) (mfv msv : Value), e = .returned (.tuple #[.pointer (some ⟨rb, 0, none⟩), .nilIface]) ∧ Fr [] w w' ∧
        RdOK w' w.heap.size rb sb F ss m cs P t mn mm mf ms hb fb gb dg dcap ub ul uc fk dk pv mfv msv := by
  have hmk : ∀ w : World, (Instr.makeSlice 23 (.int .i64 512) (.int .i64 512)).run Tryd.prog w = .ok (.slice (some ⟨w.heap.size, 0, none⟩) 512 512) (w.alloc (.cells (tab 512 (fun _ => .int .u8 0)).toArray 5)) := make_buf 512 (by omega)
  go_enter Tryd.func42, Tryd.ntmps42
  have hta := as81_127
  go_upto_region 2 with (fail)
  have hf1 : Fr [] w (w.alloc (Obj.cells #[.bool false, .int .u32 0, .slice none 0 0, .pointer none, .slice none 0 0, .slice none 0 0, .int .i64 0, .iface 81 (.pointer (some ⟨sb, 0, none⟩)), .nilIface] 91)) := (Fr.refl _ _).alloc _
  have hrb1 := Blk.new' w 91 #[.bool false, .int .u32 0, .slice none 0 0, .pointer none, .slice none 0 0, .slice none 0 0, .int .i64 0, .iface 81 (.pointer (some ⟨sb, 0, none⟩)), .nilIface]
  generalize w.alloc (Obj.cells #[.bool false, .int .u32 0, .slice none 0 0, .pointer none, .slice none 0 0, .slice none 0 0, .int .i64 0, .iface 81 (.pointer (some ⟨sb, 0, none⟩)), .nilIface] 91) = w1 at *
  generalize hrb : w.heap.size = rb at *
  have hr1 : rb < w1.heap.size := hrb1.lt
  have c2 : w1.cell? ⟨rb, 2, none⟩ = some (.slice none 0 0) := hrb1.cell 2
  have z2 := hrb1.frozen 2
  have hba := (hrb1.alloc (Obj.cells (tab 512 (fun _ => Value.int .u8 0)).toArray 5))
  have c2a : (w1.alloc (Obj.cells (tab 512 (fun _ => Value.int .u8 0)).toArray 5)).cell? ⟨rb, 2, none⟩ = some (.slice none 0 0) := hba.cell 2
  have z2a := hba.frozen 2
  go_upto_region 6 with (fail)
  have hrb2 : Blk ((w1.setCell ⟨rb, 2, none⟩ (.slice (some ⟨w1.heap.size, 0, none⟩) 512 512)).alloc (Obj.cells (tab 512 (fun _ => Value.int .u8 0)).toArray 5)) rb 91 (rdCells 0 (.slice (some ⟨w1.heap.size, 0, none⟩) 512 512) (.pointer none) (.slice none 0 0) (.slice none 0 0) 0 sb .nilIface) := (hrb1.set 2 _).alloc _
  have hub2 := Blk.new (w1.setCell ⟨rb, 2, none⟩ (.slice (some ⟨w1.heap.size, 0, none⟩) 512 512)) 5 (tab 512 (fun _ => Value.int .u8 0))
  rw [show (w1.setCell ⟨rb, 2, none⟩ (.slice (some ⟨w1.heap.size, 0, none⟩) 512 512)).heap.size = w1.heap.size by simp] at hub2
  have hF2 : Fr [] w ((w1.setCell ⟨rb, 2, none⟩ (.slice (some ⟨w1.heap.size, 0, none⟩) 512 512)).alloc (Obj.cells (tab 512 (fun _ => Value.int .u8 0)).toArray 5)) := (hf1.setCell (p := ⟨rb, 2, none⟩) (.inr (by simp; omega)) _).alloc _
  have hwu : w.heap.size < w1.heap.size := by omega
  clear c2 z2 c2a z2a hba hrb1 hf1
  generalize (w1.setCell ⟨rb, 2, none⟩ (.slice (some ⟨w1.heap.size, 0, none⟩) 512 512)).alloc (Obj.cells (tab 512 (fun _ => Value.int .u8 0)).toArray 5) = w2 at *
  generalize w1.heap.size = ub at *
  go_wp2_with fail
  refine (setHeader_any rb sb bb n cap ub 512 ss F _ w2 (hS.fr0 hF2) hF.n0 hrb2 (by omega) hub2 (by simp) hF.hdr).mono ?_
  rintro e w3 ⟨rfl, hf3, hb, fb, hhb0, hfb0, hrb3, hhb3, hfb3, L3, hub3, hl3⟩
  have hF3 : Fr [] w w3 := hF2.trans hf3 (by simp; omega)
  have hhb0' : rb < hb := by have := hrb2.lt; omega
  clear hrb2 hub2 hf3
  go_upto_region 9 with (fail)
  have hss : ss = 512 ∨ ss = 4096 := by rcases hF.hdr.shift with h | h <;> simp [h.2]
  have HSs := Lib.hid hss
  have r0 : w3.cell? ⟨rb, 0, none⟩ = some (.bool false) := hrb3.cell 0
  have r1 : w3.cell? ⟨rb, 1, none⟩ = some (.int .u32 ss) := hrb3.cell 1
  have r2 : w3.cell? ⟨rb, 2, none⟩ = some (.slice (some ⟨ub, 0, none⟩) 512 512) := hrb3.cell 2
  have z2 := hrb3.frozen 2
  go_cut [50] from 33 to 49 (fun s50 w4 => Fr [] w3 w4 ∧ s50 = .bool (decide (512 < ss)))
  case first =>
    rcases hss with rfl | rfl
    · go_quiet (fail)
      go_wp2_with fail
      go_meet
      case rel => exact ⟨(Fr.refl _ _).drewN _, rfl⟩
    · go_quiet (fail)
      go_wp2_with fail
      go_meet
      case rel => exact ⟨(Fr.refl _ _).drewN _, rfl⟩
  case rest =>
  obtain ⟨hf4, rfl⟩ := hcut
  have hF4 := hF3.trans0 hf4
  have hrb4 := hrb3.fr0 hf4
  have hhb4 := hhb3.fr0 hf4
  have hfb4 := hfb3.fr0 hf4
  have hub4 := hub3.fr0 hf4
  have hru : rb ≠ ub := hrb3.ne hub3 (by decide)
  clear r0 r1 r2 z2 hrb3 hhb3 hfb3 hub3 hF3
  go_upto_if 50 with (fail)
  go_cut [] from 51 to 58 (fun w5 => Fr [] w w5 ∧ ∃ (ub ul uc : Nat) (L : List Value), ss ≤ ul ∧ ul ≤ uc ∧ uc ≤ 9223372036854775807 ∧ w.heap.size < ub ∧
    Blk w5 rb 91 (rdCells ss (.slice (some ⟨ub, 0, none⟩) ul uc) (.pointer (some ⟨hb, 0, none⟩)) (.slice none 0 0) (.slice none 0 0) 0 sb .nilIface) ∧
    Blk w5 hb 142 (hdCells fb (.slice none 0 0) (.slice none 0 0) (.slice none 0 0)) ∧ Blk w5 fb 147 (hdrN F 109) ∧ Blk w5 ub 5 L ∧ ss ≤ L.length)
  case first =>
    have r1 : wc.cell? ⟨rb, 1, none⟩ = some (.int .u32 ss) := hrb4.cell 1
    have r2 : wc.cell? ⟨rb, 2, none⟩ = some (.slice (some ⟨ub, 0, none⟩) 512 512) := hrb4.cell 2
    have z2 := hrb4.frozen 2
    rcases hss with rfl | rfl
    · go_wp2_with fail
      go_meet
      case rel => exact ⟨hF4, ub, 512, 512, L3, by omega, by omega, by omega, hwu, hrb4, hhb4, hfb4, hub4, by rw [hl3]; simp⟩
    · have hmk2 : ∀ w : World, (Instr.makeSlice 23 (.int .u32 4096) (.int .u32 4096)).run Tryd.prog w = .ok (.slice (some ⟨w.heap.size, 0, none⟩) 4096 4096) (w.alloc (.cells (tab 4096 (fun _ => .int .u8 0)).toArray 5)) := make_buf32
      have hba := (hrb4.alloc (Obj.cells (tab 4096 (fun _ => Value.int .u8 0)).toArray 5))
      have c2a : (wc.alloc (Obj.cells (tab 4096 (fun _ => Value.int .u8 0)).toArray 5)).cell? ⟨rb, 2, none⟩ = some (.slice (some ⟨ub, 0, none⟩) 512 512) := hba.cell 2
      have z2a := hba.frozen 2
      go_wp2_with fail
      go_meet
      case rel =>
        refine ⟨(hF4.alloc _).setCell (.inr (by simp; omega)) _, wc.heap.size, 4096, 4096, _, by omega, by omega, by omega, ?_, hba.set 2 _, (hhb4.alloc _).setOther (by simp; omega) _, (hfb4.alloc _).setOther (by have := hrb4.ne hfb4 (by decide); simpa using this) _, (Blk.new wc 5 (tab 4096 (fun _ => Value.int .u8 0))).setOther ?_ _, by simp⟩
        · have := hF4.size; have := hub4.lt; omega
        · have := hrb4.lt; simp; omega
  case rest =>
  clear hrb4 hhb4 hfb4 hub4 hF4 hmk hta
  obtain ⟨hF5, ub2, ul, uc, L5, hul1, hul2, hul3, hub0, hrb5, hhb5, hfb5, hub5, hL5⟩ := hcut
  have hbbl : bb < w.heap.size := World.block_lt_of_cell? w _ (hS.bytes 0 (by have := hF.n0; omega))
  have hsbl : sb < w.heap.size := World.block_lt_of_cell? w _ hS.sc
  have hrh : rb ≠ hb := hrb5.ne hhb5 (by decide)
  have hru5 : rb ≠ ub2 := hrb5.ne hub5 (by decide)
  have hhu5 : hb ≠ ub2 := hhb5.ne hub5 (by decide)
  have hfr5 : fb ≠ rb := hfb5.ne hrb5 (by decide)
  have hfh5 : fb ≠ hb := hfb5.ne hhb5 (by decide)
  have hfu5 : fb ≠ ub2 := hfb5.ne hub5 (by decide)
  have HP := Lib.hid hp
  clear hp
  go_wp2_with fail
  refine (setDifats_any rb hb fb F _ (hrb5.cell 3) hhb5 hfb5 hF.hdr.ndf hrh).mono ?_
  rintro e w6 ⟨rfl, hf6, hhb6⟩
  have hF6 : Fr [] w w6 := hF5.trans hf6 (by simp; omega)
  have hrb6 := hrb5.fr hf6 (by simpa using hrh)
  have hfb6 := hfb5.fr hf6 (by simpa using hfh5)
  have hub6 := hub5.fr hf6 (by simpa using hhu5.symm)
  clear hrb5 hhb5 hfb5 hub5 hf6 hF5
  go_wp2_with fail
  refine (setDir_any rb hb fb sb bb n cap ub2 ul uc ss F _ m cs P w6 (hS.fr0 hF6) hF.n1 HSs.out hrb6 ⟨hul2, hul3⟩ hul1 hhb6 hfb6 hub6 hL5 (by omega) (by omega) (fun i a b => hF6.cell0 (HP.out i a b)) (by omega) (by have := hF6.size; omega) hF.maj hF.dir hF.m1 hF.m2 hF.ent).mono ?_
  rintro e w7 ⟨rfl, hf7, fk, dk, v, hfi7, hmo7, hown7, hrb7, L7, hub7, hl7⟩
  have hF7 : Fr [] w w7 := hF6.trans hf7 (by simp; omega)
  have hE1 : 1 ≤ m * (ss / 128) := by
    have := HSs.out
    have h4 : 1 ≤ ss / 128 := by omega
    exact Nat.mul_le_mul hF.m1 h4
  obtain ⟨dg, dcap, dl, rfl, hdg0, hdg7, hdl⟩ := own_blk hown7 hE1
  have hhb7 := hhb6.fr hf7 (by simp; exact ⟨hrh.symm, hhu5⟩)
  have hfb7 := hfb6.fr hf7 (by simp; exact ⟨hfr5, hfu5⟩)
  have hs6 := hF6.size
  clear hrb6 hhb6 hfb6 hub6 hf7
  have hS7 := hS.fr0 hF7
  have hg0 : w7.cell? ⟨dg, 0, none⟩ = some (.pointer (some ⟨fk 0, 0, none⟩)) := (hdg7.cell 0).trans (hdl 0 (by omega))
  have hfile0 := hfi7 0 (by omega)
  have hmini : Calls Tryd.prog 52 #[.pointer (some ⟨rb, 0, none⟩)] w7 fun e w' => e = .returned .nilIface ∧ Fr [hb] w7 w' ∧ ∃ mfv msv, Blk w' hb 142 (hdCells fb (.slice (some ⟨fb, 45, none⟩) 109 109) mfv msv) ∧
      (mn = 0 ∨ ∃ fb' sb' k, mfv = .slice (some ⟨fb', 0, none⟩) mn mn ∧ msv = .slice (some ⟨sb', 0, none⟩) mm k ∧ w7.heap.size ≤ fb' ∧ w7.heap.size ≤ sb' ∧ mm ≤ k ∧
        (∀ i, i < mn → w'.cell? ⟨fb', i, none⟩ = some (.int .u32 (mf i : Nat))) ∧ (∀ i, i < mm → w'.cell? ⟨sb', i, none⟩ = some (.int .u32 (ms i : Nat)))) := by
    rcases hF.mini with ⟨h0, h1⟩ | ⟨a1, a2, a3, a4, a5, a6, a7, a8, a9⟩
    · refine (setMini_none rb hb fb ss dg (fk 0) (dk 0) (m * (ss / 128)) dcap F (entB F ss cs 0) _ _ _ _ _ _ _ sb w7 hrb7 hE1 hhb7 hfb7 hg0 (hfile0.2.2.1.cell 7) hfile0.2.2.2 h1).mono ?_
      rintro e w' ⟨rfl, rfl⟩
      exact ⟨rfl, Fr.refl _ _, _, _, hhb7, .inl h0⟩
    · refine (setMini_some rb hb fb sb bb n cap ss dg (fk 0) (dk 0) (m * (ss / 128)) dcap mn mm F (entB F ss cs 0) mf ms _ _ _ _ w7 hS7 HSs.out hrb7 hE1 hhb7 hfb7 hg0 (hfile0.2.2.1.cell 7) hfile0.2.2.2 (hdg7.ne hhb7 (by decide)) (hfile0.2.2.1.ne hhb7 (by decide)) (by omega) (by omega) a3 a4 a1 a2 a5 a6 a7 a8 a9).mono ?_
      rintro e w' ⟨rfl, b1, mfb, msb, k, b2, b3, b4, b5, b6, b7⟩
      exact ⟨rfl, b1, _, _, b2, .inr ⟨mfb, msb, k, rfl, rfl, b3, b4, b5, b6, b7⟩⟩
  have HM := Lib.hid hmini
  clear hmini hg0 hfile0
  go_wp2_with fail
  refine HM.out.mono ?_
  rintro e w8 ⟨rfl, hf8, mfv, msv, hhb8, hmm8⟩
  have hF8 : Fr [] w w8 := hF7.trans hf8 (by simp; omega)
  have hrb8 := hrb7.fr hf8 (by simpa using hrh)
  have hfb8 := hfb7.fr hf8 (by simpa using hfh5)
  have hdg8 := hdg7.fr hf8 (by simpa using hdg7.ne hhb7 (by decide))
  have hfile8 : ∀ e, e < m * (ss / 128) → Blk w8 (fk e) 95 (flCells (P e).name (P e).init (.slice none 0 0) (P e).size 0 (fld (entB F ss cs e) 116 4) 0 (dk e) rb) := fun e he => (hfi7 e he).2.2.1.fr hf8 (by simpa using (hfi7 e he).2.2.1.ne hhb7 (by decide))
  have hent8 : ∀ e, e < m * (ss / 128) → Blk w8 (dk e) 119 (tab 69 (dirL12 (entB F ss cs e))) := fun e he => (hfi7 e he).2.2.2.fr hf8 (by simpa using (hfi7 e he).2.2.2.ne hhb7 (by decide))
  have hinj : ∀ a b, a < m * (ss / 128) → b < m * (ss / 128) → fk a = fk b → a = b := by
    intro a b ha hb h
    rcases Nat.lt_trichotomy a b with h1 | h1 | h1
    · have := (hmo7 a b h1 hb).1; omega
    · exact h1
    · have := (hmo7 b a h1 ha).1; omega
  have hEmax : m * (ss / 128) ≤ 100000 := by
    have := HSs.out
    have := Nat.mul_le_mul hF.m2 (show ss / 128 ≤ 32 by omega)
    omega
  have hfkb : ∀ e, e < m * (ss / 128) → w6.heap.size ≤ fk e := fun e he => (hfi7 e he).1
  have hfk7 : ∀ e, e < m * (ss / 128) → fk e < w7.heap.size := fun e he => (hfi7 e he).2.2.1.lt
  have hr7 : rb < w7.heap.size := hrb7.lt
  have hs7 := hF7.size
  have HT := Lib.hid (traverse_any rb sb ub2 ul uc ss dg dcap (m * (ss / 128)) 0 (.pointer (some ⟨hb, 0, none⟩)) .nilIface (entB F ss cs) P fk dk t dl w8 hrb8 hdg8 hdl hfile8 hent8 hinj hF.t0 hF.t1 hF.t2 hF.t3 hEmax)
  clear hrb7 hhb7 hfb7 hdg7 hfi7 hS7
  go_wp2_with fail
  refine HT.out.mono ?_
  rintro e w9 ⟨rfl, hf9, gb, pv, hgb, hrb9, hfs9, hfile9, hent9, hpath9⟩
  go_wp2_with fail
  go_ret2
  have hord : ∀ e, e ∈ t.order → e < m * (ss / 128) := hF.t1.lt
  have hF9 : Fr [] w w9 := by
    refine hF8.trans hf9 ?_
    intro x hx
    simp only [List.mem_cons, List.mem_map] at hx
    rcases hx with rfl | ⟨e, he, rfl⟩
    · exact .inr (by omega)
    · have := hfkb e (hord e he)
      exact .inr (by omega)
  have hnot : ∀ (b : Nat) (S : TypeId) (l : List Value), Blk w8 b S l → S ≠ 91 → S ≠ 95 → b ∉ rb :: t.order.map fk := by
    intro b S l hb h1 h2 hm
    simp only [List.mem_cons, List.mem_map] at hm
    rcases hm with rfl | ⟨e, he, rfl⟩
    · exact hb.ne hrb8 h1 rfl
    · exact hb.ne (hfile8 e (hord e he)) h2 rfl
  refine ⟨rb, hb, fb, gb, dg, dcap, ub2, ul, uc, fk, dk, pv, mfv, msv, rfl, hF9, ?_⟩
  exact {
    rb_ := by omega
    rd := hrb9
    hd := hhb8.fr hf9 (hnot _ _ _ hhb8 (by decide) (by decide))
    hdb := by omega
    fd := hfb8.fr hf9 (hnot _ _ _ hfb8 (by decide) (by decide))
    files := hfs9
    file := hfile9
    fileb := fun e he => by have := hfkb e he; omega
    filei := fun a b h1 h2 => (hmo7 a b h1 h2).1
    ent := hent9
    path := fun q hq => by
      obtain ⟨b, cap, h1, h2, h3⟩ := hpath9 q hq
      exact ⟨b, cap, h1, by have := hF8.size; omega, h3⟩
    mini := by
      rcases hmm8 with h | ⟨fb', sb', k, h1, h2, h3, h4, h5, h6, h7⟩
      · exact .inl h
      · refine .inr ⟨fb', sb', k, h1, h2, by omega, by omega, h5, ?_, ?_⟩
        · intro i hi
          refine hf9.cell ?_ (h6 i hi)
          simp only [List.mem_cons, List.mem_map]
          rintro (h | ⟨e, he, h⟩)
          · omega
          · have := hfk7 e (hord e he); omega
        · intro i hi
          refine hf9.cell ?_ (h7 i hi)
          simp only [List.mem_cons, List.mem_map]
          rintro (h | ⟨e, he, h⟩)
          · omega
          · have := hfk7 e (hord e he); omega }
end Go.Proofs.YtokpomdfgbbhlaaDoor

/- The contract of opened over a sound file. -/
namespace Go.Proofs.YtokpomdfgbbhlaaDoor
open Go Go.RowKit Go.Maps

theorem code_nil (w : World) : Calls Tryd.prog 38 #[.nilIface] w fun e w' => e = .returned (.int .i64 0) ∧ w = w' := by
  go_enter Tryd.func38, Tryd.ntmps38
  go_wp2_with fail
  go_ret
  exact ⟨rfl, rfl⟩

set_option maxRecDepth 100000 in
set_option maxHeartbeats 1000000 in
theorem opened_ok (ab ao n ncap ss m mn mm : Nat) (F : Nat → UInt8) (cs mf ms : Nat → Nat) (P : Nat → EntP) (t : Tr) (w : World) (hB : ∀ i, i < n → w.cell? ⟨ab, ao + i, none⟩ = some (U8 (F i)))
    (hF : FileOK F n ss m cs P t mn mm mf ms) (hn : n ≤ 131072)
    (hp : ∀ i, 65 ≤ i → i ≤ 90 → w.cell? ⟨2, i, none⟩ = some (.int .u8 160)) (h2w : 2 < w.heap.size) :
    Calls Tryd.prog 27 #[.slice (some ⟨ab, ao, none⟩) n ncap] w fun e w' =>
      ∃ (base sb bb cap rb hb fb gb dg dcap ub ul uc : Nat) (fk dk : Nat → Nat) (pv : Nat → Value) (mfv msv : Value), e = .returned (.tuple #[.pointer (some ⟨rb, 0, none⟩), .pointer (some ⟨sb, 0, none⟩), .int .i64 0]) ∧ Fr [] w w' ∧
        w.heap.size ≤ bb ∧ w.heap.size ≤ sb ∧ bb < base ∧ sb < base ∧ bb ≠ sb ∧ Src w' sb bb n cap F ∧ RdOK w' base rb sb F ss m cs P t mn mm mf ms hb fb gb dg dcap ub ul uc fk dk pv mfv msv := by
  obtain ⟨i0, hi, hz0, hz1, hz2⟩ := info_parts info5
  have hn0 := hF.n0
  have hnI : decide ((131072 : Int) < n) = false := by simp; omega
  have hnN : decide (131072 < n) = false := by simp; omega
  go_enter Tryd.func27, Tryd.ntmps27
  go_wp2_with (at_builtin; refine wpList_append_own _ rfl _ (.tmp 11) 23 rfl w.heap.size 5 i0 (.int .u8 0) 1 1 Tryd.underlying23 hi hz0 hz1 hz2 rfl (by decide) (.slice none 0 0) 0 [] rfl (World.ownsRow_nil _ _ _ _) ⟨ab, ao, none⟩ n ncap (tab n (fun i => U8 (F i))) rfl ?c1 ?c2 ?c3 ?c4 ?c5 (Nat.le_refl _) ?c6)
  case c1 => simp
  case c2 =>
    intro j u hj
    rw [tab_get?] at hj
    split at hj
    · rename_i hjn
      simp at hj; subst hj
      rw [Addr.add_mid]
      exact hB j hjn
    · cases hj
  case c3 =>
    intro u hu
    obtain ⟨i, hi⟩ := List.getElem?_of_mem hu
    rw [tab_get?] at hi
    split at hi
    · simp at hi; subst hi; rfl
    · cases hi
  case c4 => unfold maxLen; omega
  case c5 => omega
  intro v' w1 hown hg _
  obtain ⟨bb, cap, l, rfl, hbb0, hbb, hbl, hc1, hc2⟩ := own_blk2 hown (by omega)
  have hf1 : Fr [] w w1 := Fr.of_grown hg
  have hbbl := hbb.lt
  have hw1 := hf1.size
  clear hown hg
  have hf2 : Fr [] w1 (w1.alloc (Obj.cells #[.slice (some ⟨bb, 0, none⟩) n cap] 113)) := (Fr.refl _ _).alloc _
  have hsb := Blk.new' w1 113 #[.slice (some ⟨bb, 0, none⟩) n cap]
  have hS2 : Src (w1.alloc (Obj.cells #[.slice (some ⟨bb, 0, none⟩) n cap] 113)) w1.heap.size bb n cap F :=
    ⟨hsb.cell 0, fun i hi => hf2.cell0 ((hbb.cell i).trans (hbl i hi)), hc1, hc2⟩
  have hcon := Lib.hid (new_ok w1.heap.size bb n cap ss m mn mm F cs mf ms P t _ hS2 hF (fun i a b => hf2.cell0 (hf1.cell0 (hp i a b))) (by have := hf2.size; omega))
  have hsz2 : (w1.alloc (Obj.cells #[.slice (some ⟨bb, 0, none⟩) n cap] 113)).heap.size = w1.heap.size + 1 := by simp
  clear hB hp
  go_wp2_with fail
  refine hcon.out.mono ?_
  rintro e w3 ⟨rb, hb, fb, gb, dg, dcap, ub, ul, uc, fk, dk, pv, mfv, msv, rfl, hf3, hR⟩
  go_wp2_with fail
  refine (code_nil _).mono ?_
  rintro e w4 ⟨rfl, rfl⟩
  go_wp2_with fail
  go_ret3
  exact ⟨_, w1.heap.size, bb, cap, rb, hb, fb, gb, dg, dcap, ub, ul, uc, fk, dk, pv, mfv, msv, rfl, (hf1.trans0 hf2).trans0 hf3, hbb0, hw1, by rw [hsz2]; omega, by rw [hsz2]; omega, by omega, hS2.fr0 hf3, hR⟩
end Go.Proofs.YtokpomdfgbbhlaaDoor

/- The contract of (*Reader).Read; of the code of the end. -/
namespace Go.Proofs.YtokpomdfgbbhlaaDoor
open Go Go.RowKit Go.Maps

/-- The error of a reading: none where all came, else the end. -/
def EofIs (c m : Nat) (ev ex : Value) : Prop := ex = if c = m then .nilIface else ev

set_option maxRecDepth 100000 in
set_option maxHeartbeats 1000000 in
theorem rread_any (gb n c k ss : Nat) (buf hdr dir wa : Value) (R : RB) (F : Nat → UInt8) (f pb m i dk ini len : Nat) (nm : ByteArray) (pv ev : Value) (dat : Nat → UInt8) (lb : List Value) (w : World)
    (hrb : Blk w R.rb 91 (rdCells ss buf hdr (.slice (some ⟨gb, 0, none⟩) n c) dir (k : Nat) R.sb wa)) (hk : k < n) (hn6 : n ≤ 1000000) (hg : w.cell? ⟨gb, k, none⟩ = some (.pointer (some ⟨f, 0, none⟩)))
    (hR : RdS w R F) (hA : FAt w R F f nm ini pv dk len dat i)
    (hfb : f ∉ R.bl) (hpbl : pb ∉ R.bl) (hbl : ∀ x ∈ R.bl, x < w.heap.size) (h1 : 1 ≤ m) (hil : i ≤ len) (hlen : len ≤ 100000) (hB : Blk w pb 5 lb) (hm : lb.length = m) (hm9 : m ≤ 100000000) (hev : w.cell? ⟨0, 0, none⟩ = some ev) (h0b : f ≠ 0 ∧ pb ≠ 0)
    (hgb : gb ≠ f ∧ gb ≠ pb) (hrb2 : R.rb ≠ f ∧ R.rb ≠ pb) :
    Calls Tryd.prog 39 #[.pointer (some ⟨R.rb, 0, none⟩), .slice (some ⟨pb, 0, none⟩) m m] w fun e w' => ∃ ex, e = .returned (.tuple #[.int .i64 (cntAt len i m : Nat), ex]) ∧ EofIs (cntAt len i m) m ev ex ∧ Fr [f, pb] w w' ∧
      FAt w' R F f nm ini pv dk len dat (i + cntAt len i m) ∧ ∃ l : List Value, Blk w' pb 5 l ∧ l.length = m ∧ ∀ x, x < cntAt len i m → l[x]? = some (U8 (dat (i + x))) := by
  have r6 : w.cell? ⟨R.rb, 6, none⟩ = some (.int .i64 (k : Nat)) := hrb.cell 6
  have r4 : w.cell? ⟨R.rb, 4, none⟩ = some (.slice (some ⟨gb, 0, none⟩) n c) := hrb.cell 4
  have hcon := Lib.hid (fun (w' : World) (g : Fr [] w w') => file_read R F f pb m i dk ini len nm pv ev dat lb w' (hR.fr0 g) (hA.fr g (by simp)) hfb hpbl (fun x hx => by have := hbl x hx; have := g.size; omega) h1 hil hlen (hB.fr0 g) hm hm9 (g.cell0 hev) h0b)
  have hkB : decide ((n : Int) ≤ (k : Int)) = false := by simp; omega
  have hkI : (k : Int) < (n : Int) := by omega
  clear hR hA hev
  go_enter Tryd.func39, Tryd.ntmps39
  go_upto_region 1 with (fail)
  go_quiet (fail)
  have hf1 : Fr [] w (w.drewN nq) := (Fr.refl _ _).drewN _
  have s6 := hf1.cell0 r6
  have s4 := hf1.cell0 r4
  have sg := hf1.cell0 hg
  clear r6 r4 hg hrb
  generalize w.drewN nq = w1 at *
  go_upto_region 3 with (fail)
  go_region_held3 (fun w' => w'.cell? ⟨R.rb, 6, none⟩ = some (.int .i64 (k : Nat)) ∧ w'.cell? ⟨R.rb, 4, none⟩ = some (.slice (some ⟨gb, 0, none⟩) n c) ∧ w'.cell? ⟨gb, k, none⟩ = some (.pointer (some ⟨f, 0, none⟩)))
    (first | go_keep | exact ⟨hf3.cell (by simp; omega) s6, hf3.cell (by simp; omega) s4, hf3.cell (by simp; omega) sg⟩)
    (first | (go_at_call 44; refine (hcon.out _ hf1.drew).mono ?_; rintro e w3 ⟨ex, rfl, hex, hf3, hA3, hl3⟩; have H3 := Lib.hid (And.intro (show EofIs (cntAt len i m) m ev ex from hex) (And.intro hA3 hl3)); clear hex hA3 hl3))
  all_goals
    have H4 := Lib.hid ((hf1.drew.mono (ms' := [f, pb]) (by simp)).trans_same hf3)
    clear hf3
    go_wp2_with fail
    go_ret2
    exact ⟨ex, rfl, H3.out.1, H4.out, H3.out.2⟩

theorem as_eof (v : Value) (w : World) : (Instr.typeAssert (.iface 187 v) 104 121 true).run Tryd.prog w = .ok (.tuple #[.agg #[.int .i64 0, .string ⟨#[]⟩, .int .i64 0], .bool false]) w := by kernel_rfl

set_option maxRecDepth 100000 in
theorem code_eof (a : Addr) (w : World) : Calls Tryd.prog 38 #[.iface 187 (.pointer (some a))] w fun e w' => e = .returned (.int .i64 6) ∧ Fr [] w w' := by
  have hta := as_eof
  go_enter Tryd.func38, Tryd.ntmps38
  go_wp2_with fail
  go_ret
  exact ⟨rfl, (Fr.refl _ _).alloc _⟩
end Go.Proofs.YtokpomdfgbbhlaaDoor

/- The contracts of the small readers of a file's fields. -/
namespace Go.Proofs.YtokpomdfgbbhlaaDoor
open Go Go.RowKit Go.Maps

theorem created_any (fk d : Nat) (name : ByteArray) (initial : Nat) (path : Value) (size i : Int) (cur : Nat) (rem : Int) (r : Nat) (G : Nat → UInt8) (w : World)
    (hf : Blk w fk 95 (flCells name initial path size i cur rem d r)) (hd : Blk w d 119 (tab 69 (dirL12 G))) :
    Calls Tryd.prog 31 #[.pointer (some ⟨fk, 0, none⟩)] w fun e w' => e = .returned (.int .u64 (fld G 100 8)) ∧ w = w' := by
  have c7 : w.cell? ⟨fk, 7, none⟩ = some (.pointer (some ⟨d, 0, none⟩)) := hf.cell 7
  have d58 := (hd.cell 58).trans (dir_create G)
  go_enter Tryd.func31, Tryd.ntmps31
  go_wp2_with fail
  go_ret
  exact ⟨rfl, rfl⟩

theorem modified_any (fk d : Nat) (name : ByteArray) (initial : Nat) (path : Value) (size i : Int) (cur : Nat) (rem : Int) (r : Nat) (G : Nat → UInt8) (w : World)
    (hf : Blk w fk 95 (flCells name initial path size i cur rem d r)) (hd : Blk w d 119 (tab 69 (dirL12 G))) :
    Calls Tryd.prog 32 #[.pointer (some ⟨fk, 0, none⟩)] w fun e w' => e = .returned (.int .u64 (fld G 108 8)) ∧ w = w' := by
  have c7 : w.cell? ⟨fk, 7, none⟩ = some (.pointer (some ⟨d, 0, none⟩)) := hf.cell 7
  have d59 := (hd.cell 59).trans (dir_modify G)
  go_enter Tryd.func32, Tryd.ntmps32
  go_wp2_with fail
  go_ret
  exact ⟨rfl, rfl⟩

theorem type_any (fk d : Nat) (name : ByteArray) (initial : Nat) (path : Value) (size i : Int) (cur : Nat) (rem : Int) (r : Nat) (G : Nat → UInt8) (w : World)
    (hf : Blk w fk 95 (flCells name initial path size i cur rem d r)) (hd : Blk w d 119 (tab 69 (dirL12 G))) :
    Calls Tryd.prog 28 #[.pointer (some ⟨fk, 0, none⟩)] w fun e w' => e = .returned (.int .i64 ((G 66).toNat : Nat)) ∧ w = w' := by
  have c7 : w.cell? ⟨fk, 7, none⟩ = some (.pointer (some ⟨d, 0, none⟩)) := hf.cell 7
  have d33 : w.cell? ⟨d, 33, none⟩ = some (.int .u8 ((G 66).toNat : Nat)) := (hd.cell 33).trans (dir_type G)
  have hlt : (G 66).toNat < 256 := (G 66).toNat_lt
  generalize (G 66).toNat = g at *
  go_enter Tryd.func28, Tryd.ntmps28
  go_wp2_with fail
  go_ret
  exact ⟨by go_num, rfl⟩

theorem dir_class (G : Nat → UInt8) (j : Nat) (hj : j < 16) : (tab 69 (dirL12 G))[38 + j]? = some (U8 (G (80 + j))) := by
  rw [tab_get _ _ _ (by omega)]
  simp only [dirL12, dirL11, dirL10, dirL9, dirL8, dirL7]
  rw [if_neg (by omega), if_neg (by omega), if_neg (by omega), if_neg (by omega), if_neg (by omega), if_pos (by omega)]
  congr 2
  congr 2; omega

set_option maxRecDepth 100000 in
set_option maxHeartbeats 1000000 in
theorem id_any (fk d : Nat) (name : ByteArray) (initial : Nat) (path : Value) (size i : Int) (cur : Nat) (rem : Int) (r : Nat) (G : Nat → UInt8) (w : World)
    (hf : Blk w fk 95 (flCells name initial path size i cur rem d r)) (hd : Blk w d 119 (tab 69 (dirL12 G))) :
    Calls Tryd.prog 29 #[.pointer (some ⟨fk, 0, none⟩)] w fun e w' => e = .returned (.agg (guidA (fun j => G (80 + j)))) ∧ Fr [] w w' := by
  have hz : (zeroValue 97).run Tryd.prog w = .ok (.agg (List.replicate 16 (.int .u8 0)).toArray) w := by kernel_rfl
  have f1 : Fr [] w (w.alloc (.cells (List.replicate 16 (.int .u8 0)).toArray 97)) := (Fr.refl _ _).alloc _
  have hr1 := Blk.new w 97 (List.replicate 16 (Value.int .u8 0))
  have hd1 := hd.fr0 f1
  have c7 : w.cell? ⟨fk, 7, none⟩ = some (.pointer (some ⟨d, 0, none⟩)) := hf.cell 7
  have l1 := hf.lt
  have l2 := hd.lt
  have hlen : ((tab 69 (dirL12 G)).drop 38).take 16 = (guidA (fun j => G (80 + j))).toList := by
    rw [tab_drop_take _ _ _ _ (by omega)]
    simp only [guidA]
    refine (tab_congr (fun j hj => ?_))
    have := dir_class G j hj
    rw [tab_get _ _ _ (by omega)] at this
    exact Option.some.inj this
  go_enter Tryd.func29, Tryd.ntmps29
  go_wp2_with (first
      | (with_reducible refine wpList_load_blk rfl 97 (.tmp 8) rfl d 38 rfl 119 _ (hd.alloc _) _ Tryd.underlying97 rfl 16 (by kernel_rfl) (by simp) (guidA (fun j => G (80 + j))) ?_ ?_)
      | (with_reducible refine wpList_store_blk rfl 97 (.tmp 2) (.tmp 9) rfl w.heap.size 0 (guidA (fun j => G (80 + j))) rfl rfl 97 _ (Blk.new' w 97 _) ?_ ?_ (guidA_one _) ?_))
  · exact hlen
  · simp [guidA_size]
  · rw [guidA_size]; kernel_rfl
  · intro w2 hf2 hb3
    have hfr : Fr [] w w2 := ((Fr.refl [] w).alloc _).trans hf2 (by simp)
    have e3 := splice_whole (List.replicate 16 (Value.int .u8 0)) (guidA (fun j => G (80 + j))).toList (by simp [guidA])
    have hb4 : Blk w2 w.heap.size 97 (guidA (fun j => G (80 + j))).toList := by rw [← e3]; exact hb3
    have hld : (loadVar 97 ⟨w.heap.size, 0, none⟩).run Tryd.prog w2 = .ok (.agg (guidA (fun j => G (80 + j)))) w2 := by
      have := run_loadVar_mid (P := Tryd.prog) w2 w.heap.size 0 97 (guidA (fun j => G (80 + j))).toList _ (fun j v hj => by rw [hb4.cell]; simpa using hj) Tryd.underlying97 rfl (by rw [Array.length_toList, guidA_size]; kernel_rfl)
      simpa using this
    clear hb3 hb4 e3 hf2
    go_wp2_with fail
    refine bodyPost_ret (v := .agg (guidA (fun j => G (80 + j)))) ?_ rfl ⟨rfl, hfr⟩
    simp [results, Tryd.results29, asAddr, hld]
theorem dir_state (G : Nat → UInt8) (j : Nat) (hj : j < 4) : (tab 69 (dirL12 G))[54 + j]? = some (U8 (G (96 + j))) := by
  rw [tab_get _ _ _ (by omega)]
  simp only [dirL12, dirL11, dirL10, dirL9, dirL8]
  rw [if_neg (by omega), if_neg (by omega), if_neg (by omega), if_neg (by omega), if_pos (by omega)]
  congr 2
  congr 2; omega

/-- Four bytes as an array's value. -/
def stateA (f : Nat → UInt8) : Array Value := (tab 4 (fun i => U8 (f i))).toArray
theorem stateA_size (f : Nat → UInt8) : (stateA f).size = 4 := by simp [stateA]
theorem stateA_one (f : Nat → UInt8) : (stateA f).all (·.oneCell') = true := tab_oneCell (fun _ _ => rfl)

set_option maxRecDepth 100000 in
set_option maxHeartbeats 1000000 in
theorem state_any (fk d : Nat) (name : ByteArray) (initial : Nat) (path : Value) (size i : Int) (cur : Nat) (rem : Int) (r : Nat) (G : Nat → UInt8) (w : World)
    (hf : Blk w fk 95 (flCells name initial path size i cur rem d r)) (hd : Blk w d 119 (tab 69 (dirL12 G))) :
    Calls Tryd.prog 30 #[.pointer (some ⟨fk, 0, none⟩)] w fun e w' => e = .returned (.agg (stateA (fun j => G (96 + j)))) ∧ Fr [] w w' := by
  have hz : (zeroValue 37).run Tryd.prog w = .ok (.agg (List.replicate 4 (.int .u8 0)).toArray) w := by kernel_rfl
  have f1 : Fr [] w (w.alloc (.cells (List.replicate 4 (.int .u8 0)).toArray 37)) := (Fr.refl _ _).alloc _
  have hr1 := Blk.new w 37 (List.replicate 4 (Value.int .u8 0))
  have hd1 := hd.fr0 f1
  have c7 : w.cell? ⟨fk, 7, none⟩ = some (.pointer (some ⟨d, 0, none⟩)) := hf.cell 7
  have l1 := hf.lt
  have l2 := hd.lt
  have hlen : ((tab 69 (dirL12 G)).drop 54).take 4 = (stateA (fun j => G (96 + j))).toList := by
    rw [tab_drop_take _ _ _ _ (by omega)]
    simp only [stateA]
    refine (tab_congr (fun j hj => ?_))
    have := dir_state G j hj
    rw [tab_get _ _ _ (by omega)] at this
    exact Option.some.inj this
  go_enter Tryd.func30, Tryd.ntmps30
  go_wp2_with (first
      | (with_reducible refine wpList_load_blk rfl 37 (.tmp 8) rfl d 54 rfl 119 _ (hd.alloc _) _ Tryd.underlying37 rfl 4 (by kernel_rfl) (by simp) (stateA (fun j => G (96 + j))) ?_ ?_)
      | (with_reducible refine wpList_store_blk rfl 37 (.tmp 2) (.tmp 9) rfl w.heap.size 0 (stateA (fun j => G (96 + j))) rfl rfl 37 _ (Blk.new' w 37 _) ?_ ?_ (stateA_one _) ?_))
  · exact hlen
  · simp [stateA_size]
  · rw [stateA_size]; kernel_rfl
  · intro w2 hf2 hb3
    have hfr : Fr [] w w2 := ((Fr.refl [] w).alloc _).trans hf2 (by simp)
    have e3 := splice_whole (List.replicate 4 (Value.int .u8 0)) (stateA (fun j => G (96 + j))).toList (by simp [stateA])
    have hb4 : Blk w2 w.heap.size 37 (stateA (fun j => G (96 + j))).toList := by rw [← e3]; exact hb3
    have hld : (loadVar 37 ⟨w.heap.size, 0, none⟩).run Tryd.prog w2 = .ok (.agg (stateA (fun j => G (96 + j)))) w2 := by
      have := run_loadVar_mid (P := Tryd.prog) w2 w.heap.size 0 37 (stateA (fun j => G (96 + j))).toList _ (fun j v hj => by rw [hb4.cell]; simpa using hj) Tryd.underlying37 rfl (by rw [Array.length_toList, stateA_size]; kernel_rfl)
      simpa using this
    clear hb3 hb4 e3 hf2
    go_wp2_with fail
    refine bodyPost_ret (v := .agg (stateA (fun j => G (96 + j)))) ?_ rfl ⟨rfl, hfr⟩
    simp [results, Tryd.results30, asAddr, hld]
end Go.Proofs.YtokpomdfgbbhlaaDoor

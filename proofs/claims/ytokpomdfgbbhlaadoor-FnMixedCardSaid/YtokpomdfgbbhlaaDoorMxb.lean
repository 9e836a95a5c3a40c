/- FnMixed: a stream is read, sought and written by steps, what is told is what stands there then, the file behind all is that of the stream with these bytes (part 2 of 18). No condition but the statement's own. -/
import Derived.Deep.RegionLaw
import Derived.Outline
import Derived.Maps.Own
import Derived.Maps.OwnOps
import Derived.Deep.CutBlock
import Derived.StillTailTactics
import Derived.Test.YtokpomdfgbbhlaaDoorMxa
set_option linter.all false
set_option linter.unusedVariables false
set_option linter.unusedSimpArgs false
set_option linter.unnecessarySimpa false
/- A written file is a sound file: the header, the chains, the directory, the tree. No program here. -/
namespace Go.Proofs.YtokpomdfgbbhlaaDoor

theorem NT.Fits.lt {nd : Nat → Nd} : ∀ {t : NT} {x : Int}, t.Fits nd x → x = -1 ∨ ∃ e, e ∈ t.order ∧ x = (e : Int)
  | .nil, _, h => .inl h
  | .node e l c r, _, h => .inr ⟨e, by simp [NT.order], h.1⟩

def NT.toTr : NT → Tr
  | .nil => .nil
  | .node e l c r => .node e l.toTr c.toTr r.toTr
theorem NT.toTr_order : ∀ t : NT, t.toTr.order = t.order
  | .nil => rfl
  | .node e l c r => by rw [NT.toTr, Tr.order, NT.order, NT.toTr_order l, NT.toTr_order c, NT.toTr_order r]

namespace Lay
variable (L : Lay)
/-- The sectors of chain c. -/
def chn (c i : Nat) : Nat := if i < L.cnt c then L.pl (L.base c + i) else 4294967294
/-- What the reader makes of entry e. -/
def EP (e : Nat) : EntP := if e < L.N then ⟨(L.nd e).name, L.nmOf e 0, if (L.nd e).stream = true then ((L.nd e).len : Int) else 0⟩ else ⟨ByteArray.empty, 0, 0⟩
def mn : Nat := if L.minis = 0 then 0 else L.cnt 1
end Lay

section
variable {L : Lay} {F : Nat → UInt8} {fat mfat : Nat → Nat} {W : Nat → UInt8} (hL : LayOK L) (hW : Wrote L F fat mfat W) (hB : L.bytes ≤ 131072)
include hL hW hB

theorem Wrote.tot_le : L.tot < 256 ∧ 512 ≤ L.sz := by
  have _ := hW.hdr
  have _ := hL.n1
  have h := hB
  unfold Lay.bytes at h
  rcases L.per_or with ⟨h1, h2⟩ | ⟨h1, h2⟩ <;> rw [h1] at h ⊢ <;> omega
theorem Wrote.pl_small (k : Nat) : L.pl k < 256 := Nat.lt_trans (hL.pl_lt k) (hW.tot_le hL hB).1
theorem Wrote.sec_le {k : Nat} (x : Nat) (hx : x < L.sz) : L.sec k + x < L.bytes := by
  have _ := hW.hdr
  have _ := hB
  have h1 := hL.pl_lt k
  have h2 := Nat.mul_le_mul_left L.sz (show 1 + L.pl k + 1 ≤ 1 + L.tot by omega)
  unfold Lay.sec Lay.bytes
  rw [Nat.mul_add L.sz (1 + L.pl k) 1] at h2
  omega
theorem Wrote.fld_hdr (off n : Nat) (h : off + n ≤ 512) : fld F off n = fld (hdrB L) off n :=
  fld_congr (fun i hi => hW.hdr _ (by have := (hW.tot_le hL hB).2; omega))
theorem Wrote.fld_low (off n : Nat) (h : off + n ≤ 76) : fld F off n = fld (hdrA L) off n := by
  rw [hW.fld_hdr hL hB _ _ (by omega), hdrB_low _ _ _ h]
theorem Wrote.fld_difat (k : Nat) (h : k < L.fats) : fld F (76 + 4 * k) 4 = L.pl k := by
  have h6 := (hL.fats_ok).2.2
  rw [hW.fld_hdr hL hB _ _ (by omega), hdrB]
  exact difat1_fld _ _ (fun j => by have := hW.pl_small hL hB j; omega) _ _ h

/-- The table of sectors, as the reader reads it. -/
theorem Wrote.fat_at (p : Nat) (hp : p < L.tot) (hv : fat p < 4294967296) : FatAt F L.bytes L.sz p ∧ fatNext F L.sz p = fat p := by
  obtain ⟨h1, h2, h3⟩ := hL.fats_ok
  have hper : L.sz / 4 = L.per := rfl
  have hpp : 0 < L.per := by rcases L.per_or with ⟨_, h⟩ | ⟨_, h⟩ <;> omega
  have hi : p / L.per < L.fats := by rw [Nat.div_lt_iff_lt_mul hpp]; omega
  have hm := Nat.mod_lt p hpp
  have hd := hW.fld_difat hL hB _ hi
  have hs := hW.pl_small hL hB (p / L.per)
  have h4 : L.per * 4 = L.sz := by rcases L.per_or with ⟨a, h⟩ | ⟨a, h⟩ <;> rw [a, h]
  have e : (L.pl (p / L.per) + 1) * L.sz = L.sec (p / L.per) := by unfold Lay.sec; rw [Nat.mul_comm, Nat.add_comm]
  refine ⟨⟨by rw [hper]; omega, by rw [hper, hd]; omega, ?_⟩, ?_⟩
  · rw [hper, hd, e]
    have := hW.sec_le hL hB (k := p / L.per) (p % L.per * 4 + 3) (by omega)
    omega
  · unfold fatNext
    rw [hper, hd, e]
    have hq : p / L.per * L.per + p % L.per = p := by rw [Nat.mul_comm]; exact Nat.div_add_mod p L.per
    refine fld_byteN (F := F) (a := L.sec (p / L.per) + p % L.per * 4) (n := 4) (fun i hi4 => ?_) hv
    rw [Nat.add_assoc, hW.fatS _ _ hi (by omega)]
    have e1 : (p % L.per * 4 + i) / 4 = p % L.per := by omega
    have e2 : (p % L.per * 4 + i) % 4 = i := by omega
    rw [e1, e2, hq]

theorem Wrote.chain {c : Nat} (hc : c < 3 + L.N) (h1 : 1 ≤ L.cnt c) : Chain F L.bytes L.sz (L.start c) (L.cnt c) (L.chn c) := by
  have hlt : ∀ i, i < L.cnt c → L.chn c i = L.pl (L.base c + i) := fun i hi => by unfold Lay.chn; rw [if_pos hi]
  have hfat : ∀ i, i < L.cnt c → fat (L.chn c i) = L.chn c (i + 1) := by
    intro i hi
    rw [hlt i hi, hW.fatOK.chain c i hc hi]
    unfold Lay.chn
    by_cases he : i + 1 = L.cnt c
    · rw [if_pos he, if_neg (by omega)]
    · rw [if_neg he, if_pos (by omega)]; rfl
  have hb : ∀ i, L.chn c i < 4294967296 := by
    intro i
    unfold Lay.chn
    split
    · have := hW.pl_small hL hB (L.base c + i); omega
    · omega
  have hat : ∀ i, i < L.cnt c → FatAt F L.bytes L.sz (L.chn c i) ∧ fatNext F L.sz (L.chn c i) = L.chn c (i + 1) := by
    intro i hi
    have := hW.fat_at hL hB (L.chn c i) (by rw [hlt i hi]; exact hL.pl_lt _) (by rw [hfat i hi]; exact hb _)
    rw [hfat i hi] at this
    exact this
  constructor
  · unfold Lay.start
    rw [if_neg (by omega), hlt 0 (by omega)]; rfl
  · unfold Lay.chn
    rw [if_neg (by omega)]
  · exact fun i hi => (hat i hi).2
  · exact fun i hi => (hat i hi).1
  · intro i hi
    rw [hlt i hi]
    have := hW.pl_small hL hB (L.base c + i)
    have h2 := hW.sec_le hL hB (k := L.base c + i) (L.sz - 1) (by have := (hW.tot_le hL hB).2; omega)
    have e : (L.pl (L.base c + i) + 1) * L.sz = L.sec (L.base c + i) := by unfold Lay.sec; rw [Nat.mul_comm, Nat.add_comm]
    rw [e]
    have := (hW.tot_le hL hB).2
    omega
  · intro i j hij hj he
    rw [hlt i (by omega), hlt j hj] at he
    have b1 := (hL.base_lt hc (show i < L.cnt c by omega)).1
    have b2 := (hL.base_lt hc hj).1
    have := mixP_inj _ _ b1 b2 he
    omega

theorem Wrote.start_lt (c : Nat) : L.start c < 4294967296 := by
  unfold Lay.start
  split
  · omega
  · have := hW.pl_small hL hB (L.base c); omega
theorem Wrote.startOf_lt (k : Nat) (hk : k < L.N) : L.startOf k < 4294967296 ∧ L.lenOf k < 4294967296 := by
  have hm := hL.minis_le
  have hl := hL.len k hk
  refine ⟨?_, ?_⟩
  · unfold Lay.startOf
    split
    · exact hW.start_lt hL hB 2
    split
    · split
      · unfold Lay.mstart
        split
        · omega
        · by_cases h0 : L.minis = 0
          · have h1 := sumN_mono L.small (show k + 1 ≤ L.N by omega)
            rw [sumN] at h1
            unfold Lay.minis at h0
            omega
          · have := mixP_lt L.minis (L.step + 3) (L.mbase k) (by omega)
            unfold Lay.mpl
            omega
      · exact hW.start_lt hL hB _
    · omega
  · unfold Lay.lenOf
    split
    · omega
    split
    · omega
    · omega

/-- The directory's entries, as the reader finds them. -/
theorem Wrote.ent_bytes (e x : Nat) (he : e < L.cnt 0 * (L.sz / 128)) (hx : x < 128) : entB F L.sz (L.chn 0) e x = L.dirF (128 * e + x) := by
  have hs := (hW.tot_le hL hB).2
  have hq : 0 < L.sz / 128 := by omega
  have h128 : L.sz / 128 * 128 = L.sz := by rcases L.per_or with ⟨a, _⟩ | ⟨a, _⟩ <;> rw [a]
  have hi : e / (L.sz / 128) < L.cnt 0 := by rw [Nat.div_lt_iff_lt_mul hq]; exact he
  have hm := Nat.mod_lt e hq
  have hd := Nat.div_add_mod e (L.sz / 128)
  unfold entB
  have hc : L.chn 0 (e / (L.sz / 128)) = L.pl (L.base 0 + e / (L.sz / 128)) := by unfold Lay.chn; rw [if_pos hi]
  have es : (L.pl (L.base 0 + e / (L.sz / 128)) + 1) * L.sz = L.sec (L.base 0 + e / (L.sz / 128)) := by unfold Lay.sec; rw [Nat.mul_comm, Nat.add_comm]
  rw [hc, es, Nat.add_assoc, hW.dirS _ _ hi (by omega)]
  congr 1
  generalize e / (L.sz / 128) = q at *
  generalize e % (L.sz / 128) = r at *
  have : q * L.sz = L.sz / 128 * q * 128 := by
    rw [Nat.mul_comm (L.sz / 128) q, Nat.mul_assoc, h128]
  rw [this, ← hd]
  omega

theorem Wrote.ent_flds (e : Nat) (he : e < L.cnt 0 * (L.sz / 128)) (hN : e < L.N) : EntFlds L e (entB F L.sz (L.chn 0) e) := by
  obtain ⟨h1, h2⟩ := hW.startOf_lt hL hB e hN
  have h10 := hL.nm2 e hN
  refine (entF_flds L hL e hN h1 h2).congr (fun x hx => ?_) (by unfold Lay.nmLen; omega)
  rw [hW.ent_bytes hL hB e x he hx]
  unfold Lay.dirF
  have a1 : (128 * e + x) / 128 = e := by omega
  have a2 : (128 * e + x) % 128 = x := by omega
  rw [a1, a2, if_pos hN]

theorem Wrote.ent_free (e : Nat) (he : e < L.cnt 0 * (L.sz / 128)) (hN : ¬ e < L.N) : ∀ x, x < 128 → entB F L.sz (L.chn 0) e x = freeE x := by
  intro x hx
  rw [hW.ent_bytes hL hB e x he hx]
  unfold Lay.dirF
  have a1 : (128 * e + x) / 128 = e := by omega
  have a2 : (128 * e + x) % 128 = x := by omega
  rw [a1, a2, if_neg hN]

theorem Wrote.N_le : L.N ≤ L.cnt 0 * (L.sz / 128) := by
  have hs := (hW.tot_le hL hB).2
  have e : L.cnt 0 = partsN L.N (L.sz / 128) := by unfold Lay.cnt; rw [if_pos rfl]
  rw [e]
  exact le_partsN _ _ (by omega)

theorem Wrote.ent_ok (e : Nat) (he : e < L.cnt 0 * (L.sz / 128)) : EntOK (entB F L.sz (L.chn 0) e) (L.EP e) := by
  by_cases hN : e < L.N
  · have hf := hW.ent_flds hL hB e he hN
    have h1 := hL.nm1 e hN
    have h2 := hL.nm2 e hN
    have hc := hL.nmc e
    have h0 := hL.nm0 e hN
    have hl : (L.nd e).name.size = L.nmLen e := rfl
    have hz : fld (entB F L.sz (L.chn 0) e) 0 2 = L.nmOf e 0 := hf.nm 0 (by omega)
    refine .inr ⟨L.nmLen e, L.lenOf e, by omega, by omega, hf.len, ?_, by rw [hz]; exact h0.1, by rw [hz]; exact h0.2, hf.size8, hf.size4, ?_, ?_, ?_, ?_⟩
    · intro i hi
      by_cases hj : i < L.nmLen e
      · rw [hf.nm i hj]; exact hc i hN
      · rw [hf.nm0 i (by omega) hi]; omega
    · have := hL.len e hN
      have := hL.minis_le
      unfold Lay.lenOf
      split
      · omega
      split <;> omega
    · unfold Lay.EP
      rw [if_pos hN]
      show (L.nd e).name = _
      have : nameOf (fun i => fld (entB F L.sz (L.chn 0) e) (2 * i) 2) (L.nmLen e) = nameOf (fun i => L.nmOf e i) (L.nmLen e) := by
        unfold nameOf
        congr 2
        refine List.map_congr_left (fun j hj => ?_)
        show UInt8.ofNat (fld (entB F L.sz (L.chn 0) e) (2 * j) 2) = UInt8.ofNat (L.nmOf e j)
        rw [hf.nm j (List.mem_range.1 hj)]
      rw [this]
      unfold nameOf Lay.nmOf Lay.nmLen
      generalize (L.nd e).name = nm
      rcases nm with ⟨⟨l⟩⟩
      show ByteArray.mk _ = ByteArray.mk _
      congr 1
      apply Array.ext'
      apply List.ext_getElem?
      intro i
      simp only [List.getElem?_map, ByteArray.size, List.size_toArray]
      by_cases hi : i < l.length
      · rw [List.getElem?_range hi]; simp [hi]
      · rw [List.getElem?_eq_none (by omega), List.getElem?_eq_none (by simpa using hi)]; rfl
    · rw [hz]
      unfold Lay.EP
      rw [if_pos hN]
    · rw [hf.kind]
      unfold Lay.EP Lay.kindOf Lay.lenOf
      rw [if_pos hN]
      by_cases hz : e = 0
      · subst hz
        rw [if_pos rfl, if_pos rfl]
        refine .inr ⟨by decide, ?_⟩
        show (if (L.nd 0).stream = true then _ else (0 : Int)) = 0
        rw [hL.root]; rfl
      · rw [if_neg hz, if_neg hz]
        by_cases hs : (L.nd e).stream = true
        · rw [if_pos hs, if_pos hs]
          refine .inl ⟨by decide, ?_⟩
          simp [hs]
        · rw [if_neg hs, if_neg hs]
          exact .inr ⟨by decide, rfl⟩
  · have hx := hW.ent_free hL hB e he hN
    refine .inl ⟨?_, ?_, ?_⟩
    · have : fld (entB F L.sz (L.chn 0) e) 64 2 = fld freeE 64 2 := fld_congr (fun i hi => hx _ (by omega))
      rw [this, fld_free _ _ (by omega), fld_zero]
    · rw [hx _ (by omega)]
      unfold freeE
      rw [upd_out _ _ _ _ _ (by omega), upd_out _ _ _ _ _ (by omega), upd_out _ _ _ _ _ (by omega)]
    · unfold Lay.EP
      rw [if_neg hN]
      exact ⟨rfl, rfl, rfl⟩

theorem Wrote.tree_fits : ∀ (t : NT) (x : Int), t.Fits L.nd x → (∀ e, e ∈ t.order → e < L.N) → t.toTr.Fits (L.cnt 0 * (L.sz / 128)) (entB F L.sz (L.chn 0)) (if x = -1 then 4294967295 else x.toNat)
  | .nil, x, h, _ => by
    have : x = -1 := h
    rw [if_pos this]; rfl
  | .node e l c r, x, h, ho => by
    obtain ⟨h1, h2, h3, h4⟩ := h
    have he : e < L.N := ho e (by simp [NT.order])
    have hE := Nat.lt_of_lt_of_le he (hW.N_le hL hB)
    have hf := hW.ent_flds hL hB e hE he
    have a2 := Wrote.tree_fits l _ h2 (fun y hy => ho y (by simp [NT.order, hy]))
    have a3 := Wrote.tree_fits c _ h3 (fun y hy => ho y (by simp [NT.order, hy]))
    have a4 := Wrote.tree_fits r _ h4 (fun y hy => ho y (by simp [NT.order, hy]))
    rw [← hf.left] at a2
    rw [← hf.child] at a3
    rw [← hf.right] at a4
    refine ⟨?_, hE, a2, a3, a4⟩
    rw [if_neg (by omega)]
    omega

theorem Wrote.mini_pos (hm : L.minis ≠ 0) : 1 ≤ L.cnt 1 ∧ 1 ≤ L.cnt 2 ∧ L.per * L.cnt 1 ≤ 64000 ∧ L.cnt 2 ≤ L.per * L.cnt 1 ∧ L.cnt 1 ≤ L.fats * (L.sz / 64) := by
  have _ := hW.hdr
  have _ := hB
  have e1 : L.cnt 1 = partsN L.minis L.per := by unfold Lay.cnt; rw [if_neg (by omega), if_pos rfl]
  have e2 : L.cnt 2 = partsN (L.minis * 64) L.sz := by unfold Lay.cnt; rw [if_neg (by omega), if_neg (by omega), if_pos rfl]
  have hf := hL.fats_ok.2.1
  have hml := hL.minis_le
  have hpp : 128 ≤ L.per ∧ L.per ≤ 1024 ∧ L.sz = 4 * L.per := by rcases L.per_or with ⟨a, h⟩ | ⟨a, h⟩ <;> rw [a, h] <;> omega
  obtain ⟨p1, p2, p3⟩ := hpp
  have c1 := (hL.cnt_le 0 (by omega)).2.2
  have g1 := le_partsN L.minis L.per (by omega)
  have hc1 : L.cnt 1 ≤ (L.minis + 127) / 128 := by
    rw [e1]
    refine partsN_le (by omega) ?_
    have h := Nat.mul_le_mul_left ((L.minis + 127) / 128) p1
    omega
  have hc2 : L.minis * 64 ≤ L.cnt 2 * L.sz := by rw [e2]; exact le_partsN _ _ (by omega)
  have hc3 : L.cnt 2 ≤ L.minis := by
    rw [e2]
    refine partsN_le (by omega) ?_
    have := Nat.mul_le_mul_left L.minis (show 64 ≤ L.sz by omega)
    omega
  refine ⟨by rw [e1]; exact partsN_pos (by omega) (by omega), by rw [e2]; exact partsN_pos (by omega) (by omega), ?_, ?_, ?_⟩
  · have := Nat.mul_le_mul p2 c1
    omega
  · rw [← e1] at g1
    rw [Nat.mul_comm]
    omega
  · -- the sectors of the ministream alone want as many tables
    have hs : L.cnt 2 ≤ L.tot := by
      by_cases hz : 1 ≤ L.cnt 2
      · have := (hL.base_lt (c := 2) (i := L.cnt 2 - 1) (by omega) (by omega)).1
        omega
      · omega
    have ht := hL.fats_ok.1
    rcases L.per_or with ⟨a, b⟩ | ⟨a, b⟩
    · rw [a] at hc2 ⊢
      rw [b] at ht
      omega
    · rw [a]
      omega

/-- A written file is a sound file. -/
theorem Wrote.fileOK (t : NT) (hne : t ≠ .nil) (ht : t.Fits L.nd 0) (hnd : t.order.Nodup) (hlt : ∀ e, e ∈ t.order → e < L.N) (hle : t.order.length ≤ L.N) :
    FileOK F L.bytes L.sz (L.cnt 0) (L.chn 0) L.EP t.toTr L.mn (L.cnt 2) (L.chn 1) (L.chn 2) := by
  obtain ⟨htot, hs⟩ := hW.tot_le hL hB
  have hN := hW.N_le hL hB
  have hn1 := hL.n1
  have h0 : 1 ≤ L.cnt 0 := by
    have e : L.cnt 0 = partsN L.N (L.sz / 128) := by unfold Lay.cnt; rw [if_pos rfl]
    rw [e]
    exact partsN_pos (by omega) hn1
  have hc0 := (hL.cnt_le 0 (by omega)).2.1
  have hc1 := (hL.cnt_le 0 (by omega)).2.2
  obtain ⟨hf1, hf2, hf3⟩ := hL.fats_ok
  have hst0 := hW.start_lt hL hB 0
  have hst1 := hW.start_lt hL hB 1
  have hge : 512 ≤ L.bytes := by
    unfold Lay.bytes
    have := Nat.mul_le_mul_left L.sz (show 1 ≤ 1 + L.tot by omega)
    omega
  have hflds := hW.ent_flds hL hB 0 (by omega) hn1
  have hA : ∀ a n, a + n ≤ 76 → fld F a n = fld (hdrA L) a n := fun a n h => hW.fld_low hL hB a n h
  have f44 : fld F 44 4 = L.fats := by
    rw [hA _ _ (by omega)]
    unfold hdrA
    simp (disch := omega) only [fld_upd_other]
    exact fld_upd4 _ _ _ (by omega)
  have f64 : fld F 64 4 = L.cnt 1 := by
    rw [hA _ _ (by omega)]
    unfold hdrA
    simp (disch := omega) only [fld_upd_other]
    exact fld_upd4 _ _ _ (by omega)
  have f60 : fld F 60 4 = L.start 1 := by
    rw [hA _ _ (by omega)]
    unfold hdrA
    simp (disch := omega) only [fld_upd_other]
    exact fld_upd4 _ _ _ hst1
  have f48 : fld F 48 4 = L.start 0 := by
    rw [hA _ _ (by omega)]
    unfold hdrA
    simp (disch := omega) only [fld_upd_other]
    exact fld_upd4 _ _ _ hst0
  have f72 : fld F 72 4 = 0 := by
    rw [hA _ _ (by omega)]
    unfold hdrA
    simp (disch := omega) only [fld_upd_other]
    split
    · simp (disch := omega) only [fld_upd_other, fld_cpy_other]
      exact fld_zero _ _
    · simp (disch := omega) only [fld_upd_other, fld_cpy_other]
      exact fld_zero _ _
  have f0 : fld F 0 8 = 16220472316735377360 := by
    rw [hA _ _ (by omega)]
    unfold hdrA
    simp (disch := omega) only [fld_upd_other]
    have hc : ∀ f : Nat → UInt8, fld (cpy f 0 8 sigB) 0 8 = 16220472316735377360 := fun f => fld_byteN (fun i hi => cpy_in f 0 8 sigB i hi) (by decide)
    split
    · simp (disch := omega) only [fld_upd_other]
      exact hc _
    · simp (disch := omega) only [fld_upd_other]
      exact hc _
  have f26 : fld F 26 2 = L.ver := by
    rw [hA _ _ (by omega)]
    unfold hdrA
    simp (disch := omega) only [fld_upd_other]
    have hv : L.ver < 65536 := by unfold Lay.ver; split <;> omega
    split
    · simp (disch := omega) only [fld_upd_other]
      exact fld_upd2 _ _ _ hv
    · simp (disch := omega) only [fld_upd_other]
      exact fld_upd2 _ _ _ hv
  have f30 : fld F 30 2 = if L.four = true then 12 else 9 := by
    rw [hA _ _ (by omega)]
    unfold hdrA
    simp (disch := omega) only [fld_upd_other]
    have hv : (if L.four = true then 12 else 9) < 65536 := by split <;> omega
    split
    · rename_i h
      simp (disch := omega) only [fld_upd_other]
      exact fld_upd2 _ _ _ (by omega)
    · rename_i h
      simp (disch := omega) only [fld_upd_other]
      exact fld_upd2 _ _ _ (by omega)
  constructor
  · exact hge
  · omega
  · constructor
    · exact f0
    · rw [f30]
      rcases L.sz_or with ⟨a, b⟩ | ⟨a, b⟩
      · exact .inl ⟨by rw [b]; rfl, a⟩
      · exact .inr ⟨by rw [b]; rfl, a⟩
    · exact f72
    · omega
    · omega
    · rw [f64, f44]
      by_cases hm : L.minis = 0
      · have : L.cnt 1 = 0 := by
          unfold Lay.cnt
          rw [if_neg (by omega), if_pos rfl, hm]
          have := partsN_le (n := 0) (size := L.per) (a := 0) (by rcases L.per_or with ⟨_, h⟩ | ⟨_, h⟩ <;> omega) (by omega)
          omega
        omega
      · exact (hW.mini_pos hL hB hm).2.2.2.2
  · rw [f26]
    rcases L.sz_or with ⟨a, b⟩ | ⟨a, b⟩
    · exact .inl (by unfold Lay.ver; rw [b]; rfl)
    · refine .inr ⟨by unfold Lay.ver; rw [b]; rfl, ?_⟩
      have f40 : fld F 40 4 = L.cnt 0 := by
        rw [hA _ _ (by omega)]
        unfold hdrA
        simp (disch := omega) only [fld_upd_other]
        rw [if_pos b]
        exact fld_upd4 _ _ _ (by omega)
      omega
  · rw [f48]
    exact hW.chain hL hB (by omega) h0
  · exact h0
  · omega
  · exact fun e he => hW.ent_ok hL hB e he
  · have hst : fld (entB F L.sz (L.chn 0) 0) 116 4 = L.start 2 := by
      rw [hflds.start]
      unfold Lay.startOf
      rw [if_pos rfl]
    rw [hst]
    by_cases hm : L.minis = 0
    · refine .inl ⟨by unfold Lay.mn; rw [if_pos hm], ?_⟩
      unfold Lay.start
      have : L.cnt 2 = 0 := by
        unfold Lay.cnt
        rw [if_neg (by omega), if_neg (by omega), if_pos rfl, hm, Nat.zero_mul]
        have := partsN_le (n := 0) (size := L.sz) (a := 0) (by omega) (by omega)
        omega
      rw [if_pos this]
    · obtain ⟨m1, m2, m3, m4, m5⟩ := hW.mini_pos hL hB hm
      have e : L.mn = L.cnt 1 := by unfold Lay.mn; rw [if_neg hm]
      have hper : L.sz / 4 = L.per := rfl
      have hch := hW.chain hL hB (c := 1) (by omega) m1
      rw [e, hper]
      refine .inr ⟨m1, f64, hW.chain hL hB (by omega) m2, m2, m3, m4, ?_, ?_, ?_⟩
      · rw [f60]; exact hch.first
      · exact (hch.low 0 (by omega)).1
      · exact fun j hj => ⟨hch.at_ j (by omega), hch.next j (by omega)⟩
  · cases t
    · exact absurd rfl hne
    · intro h; cases h
  · exact hW.tree_fits hL hB t 0 ht hlt
  · rw [NT.toTr_order]; exact hnd
  · rw [NT.toTr_order]; omega
end
end Go.Proofs.YtokpomdfgbbhlaaDoor

/- A stream of a written file: its parts, where each lies, what each holds. No program here. -/
namespace Go.Proofs.YtokpomdfgbbhlaaDoor

/-- A stream of a file: its K parts of q bytes, in their order: which sector each is (ch), where it begins (off). -/
structure StrOK (F : Nat → UInt8) (n ss mn mm : Nat) (mf ms : Nat → Nat) (mini : Bool) (q K len : Nat) (ch off : Nat → Nat) (dat : Nat → UInt8) : Prop where
  kind : (mini = true ∧ q = 64 ∧ len < 4096) ∨ (mini = false ∧ q = ss ∧ 4096 ≤ len)
  cover : len ≤ K * q
  last : ch K = 4294967294
  low : ∀ j, j < K → ch j ≤ 65535
  small : mini = true → ∀ j, j < K → ch j / (ss / 4) < mn ∧ mf (ch j / (ss / 4)) ≤ 65535 ∧ (mf (ch j / (ss / 4)) + 1) * ss + ch j % (ss / 4) * 4 + 4 ≤ n ∧
    le (fun i => F ((mf (ch j / (ss / 4)) + 1) * ss + ch j % (ss / 4) * 4 + i)) 4 = ch (j + 1) ∧
    ch j / (ss / 64) < mm ∧ ms (ch j / (ss / 64)) ≤ 65535 ∧ (ms (ch j / (ss / 64)) + 1) * ss + ch j % (ss / 64) * 64 = off j
  big : mini = false → ∀ j, j < K → FatAt F n ss (ch j) ∧ fatNext F ss (ch j) = ch (j + 1) ∧ (ch j + 1) * ss = off j
  room : ∀ j, j < K → off j + q ≤ n
  dat : ∀ j x, j < K → x < q → j * q + x < len → F (off j + x) = dat (j * q + x)

section
variable {L : Lay} {F : Nat → UInt8} {fat mfat : Nat → Nat} {W : Nat → UInt8} (hL : LayOK L) (hW : Wrote L F fat mfat W) (hB : L.bytes ≤ 131072)
include hL hW hB

theorem Wrote.str_small (k : Nat) (hk : k < L.N) (hs : (L.nd k).stream = true) (hlen : (L.nd k).len < 4096) :
    ∃ ch off, StrOK F L.bytes L.sz L.mn (L.cnt 2) (L.chn 1) (L.chn 2) true 64 (L.small k) (L.nd k).len ch off (L.nd k).dat ∧ L.mstart k = ch 0 ∧ ∀ j, j < L.small k → ch j = L.mpl (L.mbase k + j) := by
  have hsm : L.small k = partsN (L.nd k).len 64 := by unfold Lay.small; rw [if_pos ⟨hs, hlen⟩]
  have e1 : L.cnt 1 = partsN L.minis L.per := by unfold Lay.cnt; rw [if_neg (by omega), if_pos rfl]
  have e2 : L.cnt 2 = partsN (L.minis * 64) L.sz := by unfold Lay.cnt; rw [if_neg (by omega), if_neg (by omega), if_pos rfl]
  have hpp : 128 ≤ L.per ∧ L.per ≤ 1024 ∧ L.sz = 4 * L.per ∧ L.sz = 64 * (L.sz / 64) ∧ 1 ≤ L.sz / 64 := by rcases L.per_or with ⟨a, h⟩ | ⟨a, h⟩ <;> rw [a, h] <;> omega
  obtain ⟨p1, p2, p3, p4, p5⟩ := hpp
  have hper : L.sz / 4 = L.per := rfl
  have hml := hL.minis_le
  have g1 := le_partsN L.minis L.per (by omega)
  have g2 := le_partsN (L.minis * 64) L.sz (by omega)
  rw [← e1] at g1
  rw [← e2] at g2
  have hlt : ∀ j, j < L.small k → L.mbase k + j < L.minis := by
    intro j hj
    have h := sumN_mono L.small (show k + 1 ≤ L.N by omega)
    simp only [sumN] at h
    unfold Lay.mbase Lay.minis
    omega
  have hm : ∀ j, j < L.small k → L.mpl (L.mbase k + j) < L.minis := fun j hj => mixP_lt _ _ _ (by have := hlt j hj; omega)
  have hsec : ∀ i, (L.pl i + 1) * L.sz = L.sec i := fun i => by unfold Lay.sec; rw [Nat.mul_comm, Nat.add_comm]
  refine ⟨fun j => if j < L.small k then L.mpl (L.mbase k + j) else 4294967294, fun j => L.sec (L.base 2 + L.mpl (L.mbase k + j) / (L.sz / 64)) + L.mpl (L.mbase k + j) % (L.sz / 64) * 64, ?_, ?_, fun j hj => if_pos hj⟩
  · have hi1 : ∀ j, j < L.small k → L.mpl (L.mbase k + j) / L.per < L.cnt 1 := by
      intro j hj
      rw [Nat.div_lt_iff_lt_mul (by omega)]
      have := hm j hj
      omega
    have hi2 : ∀ j, j < L.small k → L.mpl (L.mbase k + j) / (L.sz / 64) < L.cnt 2 := by
      intro j hj
      rw [Nat.div_lt_iff_lt_mul (by omega)]
      have h3 := hm j hj
      have h4 : L.cnt 2 * L.sz = 64 * (L.cnt 2 * (L.sz / 64)) := by
        rw [Nat.mul_left_comm, ← p4]
      omega
    constructor
    · exact .inl ⟨rfl, rfl, hlen⟩
    · rw [hsm]; exact le_partsN _ _ (by omega)
    · rw [if_neg (by omega)]
    · intro j hj
      rw [if_pos hj]
      have := hm j hj
      omega
    · intro _ j hj
      simp only [if_pos hj]
      have hmj := hm j hj
      have hi := hi1 j hj
      have hj2 := hi2 j hj
      have hch1 : L.chn 1 (L.mpl (L.mbase k + j) / (L.sz / 4)) = L.pl (L.base 1 + L.mpl (L.mbase k + j) / L.per) := by
        rw [hper]; unfold Lay.chn; rw [if_pos hi]
      have hch2 : L.chn 2 (L.mpl (L.mbase k + j) / (L.sz / 64)) = L.pl (L.base 2 + L.mpl (L.mbase k + j) / (L.sz / 64)) := by
        unfold Lay.chn; rw [if_pos hj2]
      have hq := Nat.mod_lt (L.mpl (L.mbase k + j)) (show 0 < L.per by omega)
      have hdm := Nat.div_add_mod (L.mpl (L.mbase k + j)) L.per
      have hdm' : L.mpl (L.mbase k + j) / L.per * L.per + L.mpl (L.mbase k + j) % L.per = L.mpl (L.mbase k + j) := by rw [Nat.mul_comm]; exact hdm
      have hmn : L.mn = L.cnt 1 := by unfold Lay.mn; rw [if_neg (by omega)]
      have hnx := hW.mfatOK.chain k j hk hj
      rw [hch1, hch2, hsec, hsec, hper, hmn]
      have s1 := hW.sec_le hL hB (k := L.base 1 + L.mpl (L.mbase k + j) / L.per) (L.mpl (L.mbase k + j) % L.per * 4 + 3) (by omega)
      refine ⟨hi, by have := hW.pl_small hL hB (L.base 1 + L.mpl (L.mbase k + j) / L.per); omega, by omega, ?_, hj2, by have := hW.pl_small hL hB (L.base 2 + L.mpl (L.mbase k + j) / (L.sz / 64)); omega, rfl⟩
      have hv : mfat (L.mpl (L.mbase k + j)) = if j + 1 < L.small k then L.mpl (L.mbase k + (j + 1)) else 4294967294 := by
        rw [hnx]
        by_cases he : j + 1 = L.small k
        · rw [if_pos he, if_neg (by omega)]
        · rw [if_neg he, if_pos (by omega)]; rfl
      rw [← hv]
      have hvl : mfat (L.mpl (L.mbase k + j)) < 4294967296 := by
        rw [hv]
        split
        · have := hm (j + 1) (by assumption); omega
        · omega
      refine fld_byteN (F := F) (a := L.sec (L.base 1 + L.mpl (L.mbase k + j) / L.per) + L.mpl (L.mbase k + j) % L.per * 4) (n := 4) (fun i h4 => ?_) hvl
      rw [Nat.add_assoc, hW.mfS _ _ hi (by omega)]
      have ea : L.mpl (L.mbase k + j) / L.per * L.sz = 4 * (L.mpl (L.mbase k + j) / L.per * L.per) := by rw [p3, Nat.mul_left_comm]
      have eb : (L.mpl (L.mbase k + j) / L.per * L.sz + (L.mpl (L.mbase k + j) % L.per * 4 + i)) / 4 = L.mpl (L.mbase k + j) := by rw [ea]; omega
      have ec : (L.mpl (L.mbase k + j) / L.per * L.sz + (L.mpl (L.mbase k + j) % L.per * 4 + i)) % 4 = i := by rw [ea]; omega
      rw [eb, ec]
    · intro h; cases h
    · intro j hj
      have hq := Nat.mod_lt (L.mpl (L.mbase k + j)) (show 0 < L.sz / 64 by omega)
      have := hW.sec_le hL hB (k := L.base 2 + L.mpl (L.mbase k + j) / (L.sz / 64)) (L.mpl (L.mbase k + j) % (L.sz / 64) * 64 + 63) (by omega)
      omega
    · intro j x hj hx hjx
      have hq := Nat.mod_lt (L.mpl (L.mbase k + j)) (show 0 < L.sz / 64 by omega)
      have hdm' : L.mpl (L.mbase k + j) / (L.sz / 64) * (L.sz / 64) + L.mpl (L.mbase k + j) % (L.sz / 64) = L.mpl (L.mbase k + j) := by rw [Nat.mul_comm]; exact Nat.div_add_mod _ _
      have hmj := hm j hj
      rw [Nat.add_assoc, hW.miniS _ _ (hi2 j hj) (by omega)]
      have ea : L.mpl (L.mbase k + j) / (L.sz / 64) * L.sz = 64 * (L.mpl (L.mbase k + j) / (L.sz / 64) * (L.sz / 64)) := by
        have e0 : L.mpl (L.mbase k + j) / (L.sz / 64) * L.sz = L.mpl (L.mbase k + j) / (L.sz / 64) * (64 * (L.sz / 64)) := congrArg (L.mpl (L.mbase k + j) / (L.sz / 64) * ·) p4
        rw [e0, Nat.mul_left_comm]
      have eb : L.mpl (L.mbase k + j) / (L.sz / 64) * L.sz + (L.mpl (L.mbase k + j) % (L.sz / 64) * 64 + x) = 64 * L.mpl (L.mbase k + j) + x := by rw [ea]; omega
      rw [eb, if_pos (by omega), hW.whole k j x hk hj hx]
      have : 64 * j + x = j * 64 + x := by omega
      rw [this, if_pos hjx]
  · unfold Lay.mstart
    dsimp only
    by_cases h0 : L.small k = 0
    · rw [if_pos h0, if_neg (by omega)]
    · rw [if_neg h0, if_pos (by omega)]; rfl

theorem Wrote.str_big (k : Nat) (hk : k < L.N) (hs : (L.nd k).stream = true) (hlen : ¬ (L.nd k).len < 4096) :
    ∃ ch off, StrOK F L.bytes L.sz L.mn (L.cnt 2) (L.chn 1) (L.chn 2) false L.sz (L.big k) (L.nd k).len ch off (L.nd k).dat ∧ L.start (3 + k) = ch 0 ∧ ∀ j, j < L.big k → ch j = L.pl (L.base (3 + k) + j) := by
  have hbg : L.big k = partsN (L.nd k).len L.sz := by unfold Lay.big; rw [if_pos ⟨hs, hlen⟩]
  have hct : L.cnt (3 + k) = L.big k := by unfold Lay.cnt; rw [if_neg (by omega), if_neg (by omega), if_neg (by omega)]; congr 1; omega
  have hsz : 0 < L.sz := by have := (hW.tot_le hL hB).2; omega
  have hb1 : 1 ≤ L.big k := by rw [hbg]; exact partsN_pos hsz (by omega)
  have hc := hW.chain hL hB (c := 3 + k) (by omega) (by omega)
  rw [hct] at hc
  have hsec : ∀ i, (L.pl i + 1) * L.sz = L.sec i := fun i => by unfold Lay.sec; rw [Nat.mul_comm, Nat.add_comm]
  have hch : ∀ j, j < L.big k → L.chn (3 + k) j = L.pl (L.base (3 + k) + j) := fun j hj => by unfold Lay.chn; rw [hct, if_pos hj]
  refine ⟨L.chn (3 + k), fun j => (L.chn (3 + k) j + 1) * L.sz, ⟨.inr ⟨rfl, rfl, by omega⟩, by rw [hbg]; exact le_partsN _ _ hsz, hc.last, fun j hj => (hc.low j hj).1, (fun h => by cases h), fun _ j hj => ⟨hc.at_ j hj, hc.next j hj, rfl⟩, fun j hj => (hc.low j hj).2, ?_⟩, hc.first, hch⟩
  intro j x hj hx hjx
  rw [hch j hj, hsec, hW.bigS k j x hk hj hx, if_pos hjx]

/-- A stream of a written file. -/
theorem Wrote.str (k : Nat) (hk : k < L.N) (hs : (L.nd k).stream = true) :
    ∃ mini q K ch off, StrOK F L.bytes L.sz L.mn (L.cnt 2) (L.chn 1) (L.chn 2) mini q K (L.nd k).len ch off (L.nd k).dat ∧ L.startOf k = ch 0 := by
  have hk0 : k ≠ 0 := by rintro rfl; rw [hL.root] at hs; cases hs
  have hso : L.startOf k = if (L.nd k).len < 4096 then L.mstart k else L.start (3 + k) := by unfold Lay.startOf; rw [if_neg hk0, if_pos hs]
  by_cases hlen : (L.nd k).len < 4096
  · obtain ⟨ch, off, h1, h2, _⟩ := hW.str_small hL hB k hk hs hlen
    exact ⟨true, 64, _, ch, off, h1, by rw [hso, if_pos hlen, h2]⟩
  · obtain ⟨ch, off, h1, h2, _⟩ := hW.str_big hL hB k hk hs hlen
    exact ⟨false, _, _, ch, off, h1, by rw [hso, if_neg hlen, h2]⟩
end

/-- n pieces of a file (o: where each begins, l: its length), one behind the other, hold what lies from place a to place b of a stream (g: where each of its bytes lies). -/
def Cov (g o l : Nat → Nat) (n a b : Nat) : Prop := ∃ s : Nat → Nat, s 0 = a ∧ s n = b ∧ ∀ i, i < n → s (i + 1) = s i + l i ∧ 1 ≤ l i ∧ ∀ d, d < l i → g (s i + d) = o i + d

theorem Cov.zero (g o l : Nat → Nat) (a : Nat) : Cov g o l 0 a a := ⟨fun _ => a, rfl, rfl, fun i hi => absurd hi (by omega)⟩

theorem Cov.congr {g o l o' l' : Nat → Nat} {n a b : Nat} (h : Cov g o l n a b) (ho : ∀ i, i < n → o' i = o i) (hl : ∀ i, i < n → l' i = l i) : Cov g o' l' n a b := by
  obtain ⟨s, h1, h2, h3⟩ := h
  refine ⟨s, h1, h2, fun i hi => ?_⟩
  rw [ho i hi, hl i hi]
  exact h3 i hi

theorem Cov.snoc {g o l o' l' : Nat → Nat} {n a b p q : Nat} (h : Cov g o l n a b) (hq : 1 ≤ q) (hg : ∀ d, d < q → g (b + d) = p + d) (ho : ∀ i, i < n → o' i = o i) (hl : ∀ i, i < n → l' i = l i) (hon : o' n = p) (hln : l' n = q) : Cov g o' l' (n + 1) a (b + q) := by
  obtain ⟨s, h1, h2, h3⟩ := h
  refine ⟨fun i => if i = n + 1 then b + q else s i, ?_, ?_, fun i hi => ?_⟩
  · dsimp only; rw [if_neg (by omega)]; exact h1
  · dsimp only; rw [if_pos rfl]
  · dsimp only
    rw [if_neg (show i ≠ n + 1 by omega)]
    by_cases hin : i = n
    · subst hin
      rw [if_pos rfl, hon, hln, h2]
      exact ⟨rfl, hq, hg⟩
    · rw [if_neg (by omega), ho i (by omega), hl i (by omega)]
      exact h3 i (by omega)

/-- Two pieces that meet become one. -/
theorem Cov.merge {g o l : Nat → Nat} {n a b x : Nat} (h : Cov g o l n a b) (hx : x + 1 < n) (hm : o x + l x = o (x + 1)) :
    Cov g (fun k => if k ≤ x then o k else o (k + 1)) (fun k => if k < x then l k else if k = x then l x + l (x + 1) else l (k + 1)) (n - 1) a b := by
  obtain ⟨s, h1, h2, h3⟩ := h
  refine ⟨fun k => if k ≤ x then s k else s (k + 1), ?_, ?_, fun i hi => ?_⟩
  · dsimp only; rw [if_pos (by omega)]; exact h1
  · dsimp only; rw [if_neg (by omega), show n - 1 + 1 = n by omega]; exact h2
  · dsimp only
    by_cases hix : i < x
    · rw [if_pos (show i + 1 ≤ x by omega), if_pos (show i ≤ x by omega), if_pos hix, if_pos (show i ≤ x by omega)]
      exact h3 i (by omega)
    · by_cases hie : i = x
      · subst hie
        rw [if_neg (show ¬ i + 1 ≤ i by omega), if_pos (Nat.le_refl i), if_neg hix, if_pos rfl, if_pos (Nat.le_refl i)]
        obtain ⟨a1, a2, a3⟩ := h3 i (by omega)
        obtain ⟨b1, b2, b3⟩ := h3 (i + 1) hx
        refine ⟨by omega, by omega, fun d hd => ?_⟩
        by_cases hdl : d < l i
        · exact a3 d hdl
        · have := b3 (d - l i) (by omega)
          rw [a1, show s i + l i + (d - l i) = s i + d by omega] at this
          omega
      · rw [if_neg (show ¬ i + 1 ≤ x by omega), if_neg (show ¬ i ≤ x by omega), if_neg hix, if_neg hie, if_neg (show ¬ i ≤ x by omega)]
        exact h3 (i + 1) (by omega)

theorem Cov.mono_ {s l : Nat → Nat} {n : Nat} (h : ∀ i, i < n → s (i + 1) = s i + l i) : ∀ i, i ≤ n → s i ≤ s n := by
  intro i hi
  have : ∀ k, i + k ≤ n → s i ≤ s (i + k) := by
    intro k
    induction k with
    | zero => intro _; exact Nat.le_refl _
    | succ k ih =>
      intro hk
      have h1 := ih (by omega)
      have h2 := h (i + k) (by omega)
      rw [show i + (k + 1) = i + k + 1 by omega]
      omega
  have h3 := this (n - i) (by omega)
  rwa [show i + (n - i) = n by omega] at h3
end Go.Proofs.YtokpomdfgbbhlaaDoor

/- A reader in memory, as a stream's reading sees it; the next part of a stream, and where a part lies. -/
namespace Go.Proofs.YtokpomdfgbbhlaaDoor
open Go Go.RowKit

/-- A reader's blocks and numbers. -/
structure RB where
  rb : Nat
  hb : Nat
  fb : Nat
  fb2 : Nat
  sb2 : Nat
  sb : Nat
  bb : Nat
  n : Nat
  cap : Nat
  ss : Nat
  mn : Nat
  mm : Nat
  k : Nat
  mf : Nat → Nat
  ms : Nat → Nat

def RB.bl (R : RB) : List Nat := [R.rb, R.hb, R.fb, R.fb2, R.sb2, R.sb, R.bb]

/-- A reader stands in memory over the bytes F. -/
structure RdS (w : World) (R : RB) (F : Nat → UInt8) : Prop where
  src : Src w R.sb R.bb R.n R.cap F
  c1 : w.cell? ⟨R.rb, 1, none⟩ = some (.int .u32 R.ss)
  c3 : w.cell? ⟨R.rb, 3, none⟩ = some (.pointer (some ⟨R.hb, 0, none⟩))
  c7 : w.cell? ⟨R.rb, 7, none⟩ = some (.iface 81 (.pointer (some ⟨R.sb, 0, none⟩)))
  ss_ : R.ss = 512 ∨ R.ss = 4096
  d1 : w.cell? ⟨R.hb, 1, none⟩ = some (.slice (some ⟨R.fb, 45, none⟩) 109 109)
  dif : ∀ i, i < 109 → w.cell? ⟨R.fb, 45 + i, none⟩ = some (.int .u32 (fld F (76 + 4 * i) 4 : Nat))
  n1 : R.n ≤ 1000000
  mini : R.mn = 0 ∨ (w.cell? ⟨R.hb, 2, none⟩ = some (.slice (some ⟨R.fb2, 0, none⟩) R.mn R.mn) ∧ w.cell? ⟨R.hb, 3, none⟩ = some (.slice (some ⟨R.sb2, 0, none⟩) R.mm R.k) ∧ R.mm ≤ R.k ∧ R.mn ≤ 65535 ∧ R.mm ≤ 65535 ∧
    (∀ i, i < R.mn → w.cell? ⟨R.fb2, i, none⟩ = some (.int .u32 (R.mf i : Nat))) ∧ ∀ i, i < R.mm → w.cell? ⟨R.sb2, i, none⟩ = some (.int .u32 (R.ms i : Nat)))

theorem RdS.fr {w w' : World} {R : RB} {F : Nat → UInt8} {ms : List Nat} (h : RdS w R F) (f : Fr ms w w') (hm : ∀ x ∈ R.bl, x ∉ ms) : RdS w' R F := by
  have m1 := hm R.rb (by simp [RB.bl])
  have m2 := hm R.hb (by simp [RB.bl])
  have m3 := hm R.fb (by simp [RB.bl])
  have m4 := hm R.fb2 (by simp [RB.bl])
  have m5 := hm R.sb2 (by simp [RB.bl])
  have m6 := hm R.sb (by simp [RB.bl])
  have m7 := hm R.bb (by simp [RB.bl])
  refine ⟨h.src.fr f m6 m7, f.cell m1 h.c1, f.cell m1 h.c3, f.cell m1 h.c7, h.ss_, f.cell m2 h.d1, fun i hi => f.cell m3 (h.dif i hi), h.n1, ?_⟩
  rcases h.mini with h0 | ⟨a, b, c, d, e, g, i⟩
  · exact .inl h0
  · exact .inr ⟨f.cell m2 a, f.cell m2 b, c, d, e, fun j hj => f.cell m4 (g j hj), fun j hj => f.cell m5 (i j hj)⟩

theorem RdS.fr0 {w w' : World} {R : RB} {F : Nat → UInt8} (h : RdS w R F) (f : Fr [] w w') : RdS w' R F := h.fr f (fun _ _ => by simp)

/-- What StrOK says over a reader's numbers. -/
abbrev StrR (R : RB) (F : Nat → UInt8) (mini : Bool) (q K len : Nat) (ch off : Nat → Nat) (dat : Nat → UInt8) : Prop := StrOK F R.n R.ss R.mn R.mm R.mf R.ms mini q K len ch off dat

theorem next_str {w : World} {R : RB} {F : Nat → UInt8} {mini : Bool} {q K len : Nat} {ch off : Nat → Nat} {dat : Nat → UInt8} (h : RdS w R F) (s : StrR R F mini q K len ch off dat) (j : Nat) (hj : j < K) :
    Calls Tryd.prog 62 #[.pointer (some ⟨R.rb, 0, none⟩), .int .u32 (ch j), .bool mini] w fun e w' => e = .returned (.tuple #[.int .u32 (ch (j + 1)), .nilIface]) ∧ Fr [] w w' := by
  cases mini
  · obtain ⟨ha, hn, _⟩ := s.big rfl j hj
    have hc := findNext_reg R.rb R.hb R.sb R.bb R.ss R.n R.cap (ch j) R.fb F _ w h.src h.c1 h.c3 h.c7 h.ss_ ha.idx ha.loc h.d1 (h.dif _ ha.idx) ha.here
    refine hc.mono ?_
    rintro e w' ⟨rfl, hf⟩
    unfold fatNext at hn
    rw [hn]
    exact ⟨rfl, hf⟩
  · obtain ⟨h1, h2, h3, h4, _⟩ := s.small rfl j hj
    rcases h.mini with h0 | ⟨a, b, c, d, e, g, i⟩
    · rw [h0] at h1; exact absurd h1 (Nat.not_lt_zero _)
    · have hc := findNext_mini R.rb R.hb R.sb R.bb R.ss R.n R.cap (ch j) R.fb2 R.mn F _ w h.src h.c1 h.c3 h.c7 h.ss_ h1 d h2 a (g _ h1) h3
      refine hc.mono ?_
      rintro e w' ⟨rfl, hf⟩
      rw [h4]
      exact ⟨rfl, hf⟩

theorem off_str {w : World} {R : RB} {F : Nat → UInt8} {mini : Bool} {q K len : Nat} {ch off : Nat → Nat} {dat : Nat → UInt8} (h : RdS w R F) (s : StrR R F mini q K len ch off dat) (j : Nat) (hj : j < K) :
    Calls Tryd.prog 64 #[.pointer (some ⟨R.rb, 0, none⟩), .int .u32 (ch j), .bool mini] w fun e w' => e = .returned (.tuple #[.int .i64 (off j), .nilIface]) ∧ Fr [] w w' := by
  have hss : R.ss ≤ 65536 := by rcases h.ss_ with e | e <;> omega
  cases mini
  · obtain ⟨_, _, ho⟩ := s.big rfl j hj
    refine (offset_reg R.rb R.ss (ch j) (off j) ho w h.c1 hss (by have := s.low j hj; omega)).mono ?_
    rintro e w' ⟨rfl, rfl⟩
    exact ⟨rfl, Fr.refl _ _⟩
  · obtain ⟨_, _, _, _, h1, h2, h3⟩ := s.small rfl j hj
    rcases h.mini with h0 | ⟨a, b, c, d, e, g, i⟩
    · have hx := (s.small rfl j hj).1; rw [h0] at hx; exact absurd hx (Nat.not_lt_zero _)
    · exact offset_mini R.rb R.hb R.ss (ch j) (off j) R.mm R.k R.sb2 _ w h.c1 h.c3 h.ss_ h1 e h2 b (i _ h1) h3
end Go.Proofs.YtokpomdfgbbhlaaDoor

/- The built-in copy as a step of a region that draws its order; rows and frames, more. -/
namespace Go.Proofs.YtokpomdfgbbhlaaDoor
open Go Go.RowKit

/-- The built-in copy as a step of a region that draws its order. -/
theorem step_copy_blk {P : Program} {ops : Array Oper} {o : Oper} {a : Act} {w : World} {K : Act → World → Prop} {Q : Exit → Act → World → Prop} {E : Prop} (hgd : o.guard = none) (d s : Operand) (dT sT : TypeId)
    (ho : o.op = .call { callee := .builtin .copy, args := #[d, s], argTypes := #[dT, sT] }) (elem : TypeId) (hu : P.underlying dT = some (.slice elem)) (hsz : (P.info? elem).map (·.size) = some 1)
    (dp sp : Option Addr) (dLen dCap sLen sCap : Nat) (hd : a.eval d = .slice dp dLen dCap) (hs : a.eval s = .slice sp sLen sCap)
    (g off : Nat) (cur : List Value) (t : TypeId) (hg : Blk w g t cur) (n : Nat) (f : Nat → Value) (hn1 : n ≤ sLen ∧ n ≤ dLen ∧ (n = sLen ∨ n = dLen))
    (hpos : 0 < n → dp = some ⟨g, off, none⟩ ∧ ∃ ad, sp = some ad ∧ ∀ j, j < n → w.cell? (ad.add j) = some (f j))
    (hfit : off + n ≤ cur.length) (h1 : ∀ j, j < n → (f j).oneCell' = true)
    (h : ∀ w', Fr [g] w w' → Blk w' g t (splice cur off (tab n f)) → K (a.put o.dst (goInt n)) w') :
    if Region.wanted o (yielded ops a.tmps) = true then Oper.wp P o a w K Q else E := by
  have hw : Region.wanted o (yielded ops a.tmps) = true := by simp [Region.wanted, hgd]
  rw [if_pos hw]
  have hn : n = Nat.min sLen dLen := by
    show n = min sLen dLen
    omega
  clear hn1
  have hl : (tab n f).length = n := tab_length _ _
  by_cases h0 : n = 0
  · subst h0
    have hrun := run_copy_none (P := P) w dT sT o.type elem dp sp dLen dCap sLen sCap hu hsz hn.symm
    unfold Oper.wp
    simp [execOp, ho, resolve, invoke, builtin, hd, hs, hrun, Result.andThen]
    exact h w (Fr.refl _ _) (by simpa [splice, tab] using hg)
  · obtain ⟨rfl, ad, rfl, hsrc⟩ := hpos (by omega)
    have h2 := h (w.setRow g (cur.toArray.toList.take off ++ (tab n f ++ cur.toArray.toList.drop (off + (tab n f).length))).toArray)
      ⟨rfl, rfl, rfl, by simp [World.setRow], fun k _ hk => setRow_other w g k _ (by simpa using hk)⟩
      (by
        have := setRow_heap w g _ (cur.toArray.toList.take off ++ (tab n f ++ cur.toArray.toList.drop (off + (tab n f).length))).toArray t _ hg
        simpa [Blk, splice] using this)
    have hrun := run_copy_row (P := P) w dT sT o.type elem g off dLen dCap ad sLen sCap cur.toArray t (tab n f) hu hsz hg (by rw [hl]; exact hn) (by
      intro j v hj
      rw [tab_get?] at hj
      split at hj
      · rename_i hjn
        rw [hsrc j hjn]; exact hj
      · cases hj) (by rw [hl]; simpa using hfit) (by
      intro v hv
      obtain ⟨i, hi⟩ := List.getElem?_of_mem hv
      rw [tab_get?] at hi
      split at hi
      · rename_i hin
        simp at hi; subst hi; exact h1 i hin
      · cases hi)
    unfold Oper.wp
    simp [execOp, ho, resolve, invoke, builtin, hd, hs, hrun, Result.andThen]
    rw [hl] at h2
    simp only [Oper.upon]
    simpa using h2

/-- A row that a copy has filled: its cells. -/
theorem blk_read' {w : World} {b : Nat} {T : TypeId} {l : List Value} {po m : Nat} {f : Nat → Value} (h : Blk w b T (splice l po (tab m f))) (hl : po + m ≤ l.length) (i : Nat) (hi : i < m) :
    w.cell? ⟨b, po + i, none⟩ = some (f i) := by
  rw [h.cell]
  unfold splice
  rw [List.getElem?_append_right (by simp; omega)]
  have : po + i - (List.take po l).length = i := by simp; omega
  rw [this, List.getElem?_append_left (by simp; omega), tab_get _ _ _ hi]

theorem splice_cons (l : List Value) (o : Nat) (v : Value) (r : List Value) (h : o + 1 + r.length ≤ l.length) : splice (l.set o v) (o + 1) r = splice l o (v :: r) := by
  unfold splice
  have h1 : (l.set o v).take (o + 1) = l.take o ++ [v] := by
    rw [List.take_set, List.take_succ_eq_append_getElem (by omega), List.set_append_right _ _ (by simp; omega)]
    have : o - (List.take o l).length = 0 := by simp; omega
    rw [this]; rfl
  have h2 : (l.set o v).drop (o + 1 + r.length) = l.drop (o + (v :: r).length) := by
    rw [List.drop_set_of_lt (by omega)]
    congr 1
    simp; omega
  rw [h1, h2]
  simp

theorem setCells_blk {b : Nat} {T : TypeId} (vs : List Value) : ∀ (o : Nat) (w : World) (l : List Value), Blk w b T l → o + vs.length ≤ l.length →
    Blk (w.setCells b o vs) b T (splice l o vs) ∧ Fr [b] w (w.setCells b o vs) := by
  induction vs with
  | nil =>
    intro o w l h _
    exact ⟨by simpa [World.setCells, splice] using h, Fr.refl _ _⟩
  | cons v r ih =>
    intro o w l h hl
    simp only [List.length_cons] at hl
    obtain ⟨h1, h2⟩ := ih (o + 1) (w.setCell ⟨b, o, none⟩ v) (l.set o v) (h.set o v) (by rw [List.length_set]; omega)
    rw [World.setCells]
    exact ⟨by rw [← splice_cons l o v r (by omega)]; exact h1, ((Fr.refl [b] w).setCell (.inl (by simp)) v).trans_same h2⟩

/-- The load of a whole array or struct out of a block. -/
theorem wpList_load_blk {P : Program} {ops : Array Oper} {rest : List Oper} {op : Oper} {a : Act} {w : World} {Q : Exit → Act → World → Prop} (hgd : op.guard = none) (ty : TypeId) (x : Operand) (ho : op.op = .load ty x)
    (b o : Nat) (hx : a.eval x = .pointer (some ⟨b, o, none⟩)) (T : TypeId) (l : List Value) (hb : Blk w b T l) (d : TypeDesc) (hu : P.underlying ty = some d) (hd : d.isRow = true)
    (n : Nat) (hi : (P.info? ty).map (·.size) = some n) (hn : o + n ≤ l.length) (cs : Array Value) (hcs : (l.drop o).take n = cs.toList)
    (h : wpList P ops Q rest (a.put op.dst (.agg cs)) w) : wpList P ops Q (op :: rest) a w := by
  have hcs' : ((l.drop o).take n).toArray = cs := by rw [hcs]
  subst hcs'
  refine wpList_load_mid hgd ty x ho b o hx ((l.drop o).take n) d ?_ hu hd (by rw [hi]; simp; omega) h
  intro j v hj
  rw [hb.cell]
  rw [List.getElem?_take] at hj
  split at hj
  · rw [List.getElem?_drop] at hj; exact hj
  · cases hj

/-- The store of a whole array or struct into a block. -/
theorem wpList_store_blk {P : Program} {ops : Array Oper} {rest : List Oper} {op : Oper} {a : Act} {w : World} {Q : Exit → Act → World → Prop} (hgd : op.guard = none) (ty : TypeId) (x y : Operand) (ho : op.op = .store ty x y)
    (b o : Nat) (cells : Array Value) (hx : a.eval x = .pointer (some ⟨b, o, none⟩)) (hy : a.eval y = .agg cells)
    (T : TypeId) (l : List Value) (hb : Blk w b T l) (hn : o + cells.size ≤ l.length) (hi : (P.info? ty).map (·.size) = some cells.size) (h1 : cells.all (·.oneCell') = true)
    (h : ∀ w', Fr [b] w w' → Blk w' b T (splice l o cells.toList) → wpList P ops Q rest (a.put op.dst undef) w') : wpList P ops Q (op :: rest) a w := by
  obtain ⟨h2, h3⟩ := setCells_blk (b := b) (T := T) cells.toList o w l hb (by simpa using hn)
  refine wpList_store_mid hgd ty x y ho b o cells hx hy ?_ hi h1 (h _ h3 h2)
  intro j hj
  exact ⟨by obtain ⟨v, hv⟩ := hb.some (o + j) (by omega); rw [hv]; rfl, hb.frozen _⟩

theorem tab_drop_take (n : Nat) (g : Nat → Value) (o m : Nat) (h : o + m ≤ n) : ((tab n g).drop o).take m = tab m (fun i => g (o + i)) := by
  apply List.ext_getElem?
  intro i
  rw [List.getElem?_take, tab_get?]
  by_cases hi : i < m
  · rw [if_pos hi, if_pos hi, List.getElem?_drop, tab_get _ _ _ (by omega)]
  · rw [if_neg hi, if_neg hi]

theorem splice_whole (l r : List Value) (h : l.length = r.length) : splice l 0 r = r := by
  unfold splice
  simp [h]

theorem tab_oneCell {n : Nat} {g : Nat → Value} (h : ∀ i, i < n → (g i).oneCell' = true) : (tab n g).toArray.all (·.oneCell') = true := by
  refine all_oneCell_toArray (fun v hv => ?_)
  obtain ⟨i, hi⟩ := List.getElem?_of_mem hv
  rw [tab_get?] at hi
  split at hi
  · rename_i hin
    simp at hi; subst hi; exact h i hin
  · cases hi

/-- append where there is room, onto a slice at a block's head. -/
theorem wpList_append_room_blk {P : Program} {w : World} {ops : Array Oper} {rest : List Oper} {o : Oper} {a : Act} {Q : Exit → Act → World → Prop}
    (hg : o.guard = none) (s x : Operand) (t : TypeId) (hop : o.op = Op.call { callee := Callee.builtin Builtin.append, args := #[s, x], argTypes := #[t, t] })
    (e : TypeId) (h1 : P.underlying t = some (.slice e)) (size : Nat) (h2 : (P.info? e).map (·.size) = some size)
    (g n cap : Nat) (l : List Value) (hs : a.eval s = .slice (some ⟨g, 0, none⟩) n cap) (hb : Blk w g e l) (ad : Addr) (m c : Nat) (news : List Value) (hx : a.eval x = .slice (some ad) m c) (hn : news.length = m * size)
    (hc : ∀ j u, news[j]? = some u → w.cell? (ad.add j) = some u) (h1c : ∀ u ∈ news, u.oneCell' = true) (hroom : n + m ≤ cap) (hfit : n * size + news.length ≤ l.length)
    (hK : ∀ w', Fr [g] w w' → Blk w' g e (splice l (n * size) news) → wpList P ops Q rest (a.put o.dst (.slice (some ⟨g, 0, none⟩) (n + m) cap)) w') :
    wpList P ops Q (o :: rest) a w := by
  refine wpList_plain hg fun K hK' => ?_
  cases hq : P.info? e with
  | none => simp [hq] at h2
  | some i =>
    have hsz : i.size = size := by simpa [hq] using h2
    subst hsz
    have hrun := run_append_room (P := P) w t o.type e i h1 hq g n cap l.toArray hb ad m c news hn hc h1c hroom (by simpa using hfit)
    have h3 := hK (w.setRow g (l.toArray.toList.take (n * i.size) ++ news ++ l.toArray.toList.drop (n * i.size + news.length)).toArray)
      ⟨rfl, rfl, rfl, by simp [World.setRow], fun k _ hk => setRow_other w g k _ (by simpa using hk)⟩
      (by
        have := setRow_heap w g _ (l.toArray.toList.take (n * i.size) ++ news ++ l.toArray.toList.drop (n * i.size + news.length)).toArray e _ hb
        simpa [Blk, splice] using this)
    unfold Oper.wp
    simp [execOp, hop, resolve, invoke, builtin, hs, hx, hrun, Result.andThen]
    exact hK' _ _ (by simpa using h3)

theorem splice_get (l : List Value) (o : Nat) (r : List Value) (h : o + r.length ≤ l.length) (i : Nat) :
    (splice l o r)[i]? = if o ≤ i ∧ i < o + r.length then r[i - o]? else l[i]? := by
  unfold splice
  by_cases h1 : i < o
  · rw [List.getElem?_append_left (by simp; omega), List.getElem?_take, if_pos h1, if_neg (by omega)]
  · rw [List.getElem?_append_right (by simp; omega)]
    have hl : (List.take o l).length = o := by simp; omega
    rw [hl]
    by_cases h2 : i < o + r.length
    · rw [List.getElem?_append_left (by omega), if_pos (by omega)]
    · rw [List.getElem?_append_right (by omega), if_neg (by omega), List.getElem?_drop]
      congr 1; omega

end Go.Proofs.YtokpomdfgbbhlaaDoor

/- The contracts of spec.put, parts, common. -/
namespace Go.Proofs.YtokpomdfgbbhlaaDoor
open Go Go.RowKit

set_option maxHeartbeats 400000 in
theorem parts_any (n size : Nat) (w : World) (hn : n ≤ 1000000) (h1 : 1 ≤ size) (h2 : size ≤ 1000000) :
    Calls Tryd.prog 21 #[.int .i64 n, .int .i64 size] w fun e w' => e = .returned (.int .i64 (partsN n size : Nat)) ∧ w = w' := by
  have e : ((partsN n size : Nat) : Int) = ((n : Int) + (size : Int) - 1) / (size : Int) := by
    unfold partsN
    have : ((n + size - 1 : Nat) : Int) = (n : Int) + size - 1 := by omega
    rw [Int.natCast_ediv, this]
  have E := Lib.hid e
  clear e
  have h3 : (0 : Int) ≤ (n : Int) + (size : Int) - 1 := by omega
  go_enter Tryd.func21, Tryd.ntmps21
  go_wp2_with fail
  go_ret
  exact ⟨by rw [E.out]; rfl, rfl⟩

/-- Bytes of a block, given by a function. -/
def Bts (w : World) (b n : Nat) (f : Nat → UInt8) : Prop := Blk w b 5 (tab n (fun i => U8 (f i)))

theorem Bts.congr {w : World} {b n : Nat} {f g : Nat → UInt8} (h : Bts w b n f) (hx : ∀ x, x < n → f x = g x) : Bts w b n g := by
  unfold Bts at h ⊢
  rw [tab_congr (g' := fun i => U8 (g i)) (fun i hi => by rw [hx i hi])] at h
  exact h

theorem upd_succ (f : Nat → UInt8) (a k v : Nat) (x : Nat) : upd f a (k + 1) v x = if x = a + k then byteN v k else upd f a k v x := by
  unfold upd
  by_cases h : x = a + k
  · subst h
    rw [if_pos (by omega), if_pos rfl]
    congr 1; omega
  · rw [if_neg h]
    by_cases h2 : a ≤ x ∧ x < a + k
    · rw [if_pos h2, if_pos (by omega)]
    · rw [if_neg h2, if_neg (by omega)]

theorem Bts.put {w : World} {b n : Nat} {f : Nat → UInt8} (a k v : Nat) (h0 : Bts w b n (upd f a k v)) (u : Value) (hu : u = U8 (byteN v k)) :
    Bts (w.setCell ⟨b, a + k, none⟩ u) b n (upd f a (k + 1) v) := by
  subst hu
  have := h0.set (a + k) (U8 (byteN v k))
  rw [tab_set] at this
  unfold Bts
  rw [tab_congr (g' := fun j => if j = a + k then U8 (byteN v k) else U8 (upd f a k v j)) (fun i _ => by rw [upd_succ]; split <;> rfl)]
  exact this

theorem byteN_shr (v i : Nat) : Value.int IntKind.u8 ((v : Int) / 2 ^ (8 * i) % 256) = U8 (byteN v i) := by
  have h1 : (2 : Nat) ^ (8 * i) = 256 ^ i := by rw [Nat.pow_mul]
  have h2 : (byteN v i).toNat = v / 256 ^ i % 256 := UInt8.toNat_ofNat'
  have h3 : (v : Int) / 2 ^ (8 * i) % 256 = ((v / 256 ^ i % 256 : Nat) : Int) := by
    rw [← h1, Int.natCast_emod, Int.natCast_ediv, Int.natCast_pow]
    rfl
  rw [h3]
  show _ = Value.int IntKind.u8 ((byteN v i).toNat : Int)
  rw [h2]

set_option maxHeartbeats 400000 in
theorem put_any (gb off len cap a v m N : Nat) (f : Nat → UInt8) (w : World) (h : Bts w gb N f) (hN : off + len ≤ N) (ham : a + m ≤ len) (hm : m ≤ 8) (hlen : len ≤ 9223372036854775807) :
    Calls Tryd.prog 26 #[.slice (some ⟨gb, off, none⟩) len cap, .int .i64 a, .int .u64 v, .int .i64 m] w fun e w' => e = .returned (.tuple #[]) ∧ Fr [gb] w w' ∧ Bts w' gb N (upd f (off + a) m v) := by
  go_enter Tryd.func26, Tryd.ntmps26
  go_wp2_with fail
  go_loopw [10] (fun s10 wr => ∃ k : Nat, k ≤ m ∧ s10 = .int .i64 k ∧ Fr [gb] w wr ∧ Bts wr gb N (upd f (off + a) k v)) (fun s10 _ => m - (intOf s10).toNat)
  case atStart => exact ⟨0, by omega, rfl, Fr.refl _ _, h.congr (fun x _ => by rw [upd_out _ _ _ _ _ (by omega)])⟩
  case round =>
    obtain ⟨k, hk, rfl, hf, hb⟩ := hrel
    by_cases hlt : k < m
    · have hc : wr.cell? ⟨gb, off + (a + k), none⟩ = some (U8 (upd f (off + a) k v (off + (a + k)))) := (hb.cell _).trans (tab_get _ _ _ (by omega))
      have hz := hb.frozen (off + (a + k))
      go_wp2_with fail
      go_roundw
      case rel => exact ⟨k + 1, by omega, by go_num, hf.setCell (.inl (by simp)) _, by rw [← Nat.add_assoc]; exact Bts.put _ _ _ hb _ (byteN_shr v k)⟩
      case measure => simp [intOf]; omega
    · obtain rfl : k = m := by omega
      go_wp2_with fail
      go_end0
      exact ⟨rfl, hf, hb⟩
end Go.Proofs.YtokpomdfgbbhlaaDoor

/- A map[uint32]bool of the call's own that is asked for keys that it has not: the two laws. -/
namespace Go.Proofs.YtokpomdfgbbhlaaDoor
open Go Go.RowKit Go.Maps

/-- Block b is a map of type map[uint32]bool, all whose keys are in S. -/
def MSet (w : World) (b : Nat) (S : Nat → Prop) : Prop := ∃ es cl, w.heap[b]? = some (.map es cl) ∧ ∀ e ∈ es, ∃ k : Nat, e.key = .int .u32 k ∧ k < 4294967296 ∧ S k

theorem MSet.fr {w w' : World} {b : Nat} {S : Nat → Prop} {ms : List Nat} (h : MSet w b S) (f : Fr ms w w') (hb : b ∉ ms) : MSet w' b S := by
  obtain ⟨es, cl, h1, h2⟩ := h
  exact ⟨es, cl, (f.block b (Array.getElem?_eq_some_iff.1 h1).1 hb).trans h1, h2⟩

theorem MSet.mono {w : World} {b : Nat} {S S' : Nat → Prop} (h : MSet w b S) (hs : ∀ k, S k → S' k) : MSet w b S' := by
  obtain ⟨es, cl, h1, h2⟩ := h
  exact ⟨es, cl, h1, fun e he => by obtain ⟨k, a, b, c⟩ := h2 e he; exact ⟨k, a, b, hs k c⟩⟩

theorem MSet.lt {w : World} {b : Nat} {S : Nat → Prop} (h : MSet w b S) : b < w.heap.size := by
  obtain ⟨es, cl, h1, h2⟩ := h
  exact (Array.getElem?_eq_some_iff.1 h1).1

theorem MSet.made (w : World) (S : Nat → Prop) : MSet (w.alloc (.map #[] 0)) w.heap.size S := ⟨#[], 0, heap_alloc_new w _, by simp⟩

theorem MSet.notBlk {w : World} {b b' : Nat} {S : Nat → Prop} {T : TypeId} {l : List Value} (h : MSet w b S) (h' : Blk w b' T l) : b ≠ b' := by
  obtain ⟨es, cl, h1, h2⟩ := h
  intro e
  subst e
  unfold Blk at h'
  rw [h1] at h'
  cases h'

theorem u32_keyed : Keyed Tryd.prog 63 := int_keyed Tryd.underlying63
theorem u32_key (k : Nat) (h : k < 4294967296) : keyOf Tryd.prog 63 (.int .u32 k) = some (.int .u32 k) := keyOf_int_mk Tryd.underlying63 (WalkArith.wf_u32 (by omega))

theorem MSet.find {w : World} {S : Nat → Prop} {es : Array MapEntry} (hes : ∀ e ∈ es, ∃ k : Nat, e.key = .int .u32 k ∧ k < 4294967296 ∧ S k) (k : Nat) (hk : k < 4294967296) (hS : ¬ S k) :
    (Instr.findKey 63 (.int .u32 k) es.toList).run Tryd.prog w = .ok none w := by
  rcases u32_keyed.find w (u32_key k hk) es.toList (fun e he => by
    obtain ⟨k', h1, h2, _⟩ := hes e (by simpa using he)
    exact ⟨_, by rw [h1]; exact u32_key k' h2⟩) with ⟨h, _⟩ | ⟨j, e, _, h1, h2⟩
  · exact h
  · exfalso
    have he := List.mem_of_getElem? h1
    obtain ⟨k', a, b', c⟩ := hes e (by simpa using he)
    rw [a] at h2
    simp at h2
    have : k' = k := by omega
    subst this
    exact hS c

theorem MSet.run_lookup {w : World} {b : Nat} {S : Nat → Prop} (h : MSet w b S) (k : Nat) (hk : k < 4294967296) (hS : ¬ S k) :
    (Instr.lookup 148 (.map (some b)) (.int .u32 k) false).run Tryd.prog w = .ok (.bool false) w := by
  obtain ⟨es, cl, h1, h2⟩ := h
  have hf := MSet.find (w := w) h2 k hk hS
  have hc := u32_keyed.check w es.isEmpty (u32_key k hk)
  have hz : (zeroValue 4).run Tryd.prog w = .ok (.bool false) w := by kernel_rfl
  simp [Instr.lookup, run_underlying Tryd.underlying148, getObj, Sem.run, h1, hc, hf, hz]

theorem MSet.run_update {w : World} {b : Nat} {S : Nat → Prop} (h : MSet w b S) (k : Nat) (hk : k < 4294967296) (hS : ¬ S k) (v : Value) :
    ∃ w', (Instr.mapUpdate 148 (.map (some b)) (.int .u32 k) v).run Tryd.prog w = .ok () w' ∧ Fr [b] w w' ∧ MSet w' b (fun j => S j ∨ j = k) := by
  obtain ⟨es, cl, h1, h2⟩ := h
  have hf := MSet.find (w := w) h2 k hk hS
  have hc := u32_keyed.check w false (u32_key k hk)
  refine ⟨{ w with heap := w.heap.setIfInBounds b (.map (es.push { key := .int .u32 k, val := v, born := cl }) (cl + 1)) }, ?_, ⟨rfl, rfl, rfl, by simp, fun j _ hj => ?_⟩, ?_⟩
  · simp [Instr.mapUpdate, run_underlying Tryd.underlying148, getObj, setObj, Sem.run, h1, hc, hf]
  · simp only [List.mem_singleton] at hj
    simp [Ne.symm hj]
  · have hlt := (Array.getElem?_eq_some_iff.1 h1).1
    refine ⟨es.push { key := .int .u32 k, val := v, born := cl }, cl + 1, by simp [hlt], ?_⟩
    intro e he
    rcases Array.mem_push.1 he with he | he
    · obtain ⟨k', a, b', c⟩ := h2 e he
      exact ⟨k', a, b', .inl c⟩
    · subst he
      exact ⟨k, rfl, hk, .inr rfl⟩

/-- 'm[k] = v' at the walk, k a key that the map has not. -/
theorem wpList_update_mset {w : World} {ops : Array Oper} {rest : List Oper} {o : Oper} {a : Act} {Q : Exit → Act → World → Prop} (hg : o.guard = none) (m x v : Operand) (hop : o.op = Op.mapUpdate 148 m x v)
    (b : Nat) (S : Nat → Prop) (hm : a.eval m = .map (some b)) (h : MSet w b S) (k : Nat) (hx : a.eval x = .int .u32 k) (hk : k < 4294967296) (hS : ¬ S k)
    (hK : ∀ w', Fr [b] w w' → MSet w' b (fun j => S j ∨ j = k) → wpList Tryd.prog ops Q rest (a.put o.dst undef) w') : wpList Tryd.prog ops Q (o :: rest) a w := by
  refine wpList_plain hg fun K' hK' => ?_
  obtain ⟨w', hrun, r1, r2⟩ := h.run_update k hk hS (a.eval v)
  unfold Oper.wp
  simp [execOp, hop, hm, hx, hrun, Result.andThen]
  exact hK' _ _ (hK w' r1 r2)
end Go.Proofs.YtokpomdfgbbhlaaDoor

/- Rows of the call's own: frames, blocks. -/
namespace Go.Proofs.YtokpomdfgbbhlaaDoor
open Go Go.RowKit Go.Maps

/-- An owned row's own block is of its type. -/
theorem own_ne {w : World} {base : Nat} {e T : TypeId} {size n : Nat} {v : Value} {xs l : List Value} {b : Nat} (h : w.ownsRow base e size v n xs) (hb : Blk w b T l) (hT : T ≠ e) : b ∉ v.ownBlock.toList := by
  rcases h.2 with ⟨rfl, _⟩ | ⟨g, cap, cur, rfl, _, hg, _⟩
  · simp [Value.ownBlock]
  · simp only [Value.ownBlock, Option.toList_some, List.mem_singleton]
    rintro rfl
    unfold Blk at hb
    rw [hg] at hb
    simp at hb
    exact hT hb.2.symm
theorem own_mset {w : World} {base : Nat} {e : TypeId} {size n : Nat} {v : Value} {xs : List Value} {b : Nat} {S : Nat → Prop} (h : w.ownsRow base e size v n xs) (hb : MSet w b S) : b ∉ v.ownBlock.toList := by
  rcases h.2 with ⟨rfl, _⟩ | ⟨g, cap, cur, rfl, _, hg, _⟩
  · simp [Value.ownBlock]
  · simp only [Value.ownBlock, Option.toList_some, List.mem_singleton]
    rintro rfl
    obtain ⟨es, cl, h1, _⟩ := hb
    rw [hg] at h1
    cases h1
theorem Fr.of_grown {w w' : World} {row : Option Nat} (h : w.grownBy w' row) : Fr row.toList w w' :=
  ⟨h.os, h.tape, h.output, h.size, fun k hk hm => h.block k hk (by intro e; subst e; simp at hm)⟩
theorem own_fr {w w' : World} {base : Nat} {e : TypeId} {size n : Nat} {v : Value} {xs : List Value} {ms : List Nat} (h : w.ownsRow base e size v n xs) (f : Fr ms w w') (hm : ∀ k, v.ownBlock = some k → k ∉ ms) : w'.ownsRow base e size v n xs := by
  refine ⟨h.1, ?_⟩
  rcases h.2 with hn | ⟨g, cap, cur, rfl, hb, hg, rest⟩
  · exact .inl hn
  · refine .inr ⟨g, cap, cur, rfl, hb, ?_, rest⟩
    rw [f.block g (Array.getElem?_eq_some_iff.1 hg).1 (hm g rfl)]
    exact hg
theorem own_slice {w : World} {base : Nat} {e : TypeId} {size n : Nat} {v : Value} {xs : List Value} (h : w.ownsRow base e size v n xs) : ∃ a c, v = .slice a n c := by
  rcases h.2 with ⟨rfl, rfl⟩ | ⟨g, cap, cur, rfl, _, hg, _⟩
  · exact ⟨_, _, rfl⟩
  · exact ⟨_, _, rfl⟩

/-- A slice's length. -/
def lenOf : Value → Nat
  | .slice _ n _ => n
  | _ => 0

theorem own_len {w : World} {base : Nat} {e : TypeId} {size n : Nat} {v : Value} {xs : List Value} (h : w.ownsRow base e size v n xs) : lenOf v = n := by
  obtain ⟨a, c, rfl⟩ := own_slice h
  rfl

theorem tab_snoc (n : Nat) (g : Nat → Value) : tab (n + 1) g = tab n g ++ [g n] := by simp [tab, List.range_succ]

/-- An owned row of one-celled elements that is not empty, as a block. -/
theorem own_blk {w : World} {base : Nat} {e : TypeId} {n : Nat} {v : Value} {g : Nat → Value} (h : w.ownsRow base e 1 v n (tab n g)) (hn : 1 ≤ n) :
    ∃ b cap l, v = .slice (some ⟨b, 0, none⟩) n cap ∧ base ≤ b ∧ Blk w b e l ∧ ∀ i, i < n → l[i]? = some (g i) := by
  rcases h.2 with ⟨_, h0⟩ | ⟨b, cap, cur, rfl, hb, hg, _, _, _, ht⟩
  · omega
  · refine ⟨b, cap, cur.toList, rfl, hb, by simpa [Blk] using hg, fun i hi => ?_⟩
    have h1 : (cur.toList.take (n * 1))[i]? = (tab n g)[i]? := by rw [ht]
    rw [List.getElem?_take, if_pos (by omega), tab_get _ _ _ hi] at h1
    exact h1

theorem own_blk2 {w : World} {base : Nat} {e : TypeId} {n : Nat} {v : Value} {g : Nat → Value} (h : w.ownsRow base e 1 v n (tab n g)) (hn : 1 ≤ n) :
    ∃ b cap l, v = .slice (some ⟨b, 0, none⟩) n cap ∧ base ≤ b ∧ Blk w b e l ∧ (∀ i, i < n → l[i]? = some (g i)) ∧ n ≤ cap ∧ cap ≤ 9223372036854775807 := by
  obtain ⟨b, cap, l, rfl, h1, h2, h3⟩ := own_blk h hn
  rcases h.2 with ⟨h0, _⟩ | ⟨b', cap', cur, h0, _, _, h4, h5, _⟩
  · cases h0
  · injection h0 with e1 e2 e3
    subst e3
    exact ⟨b, cap, l, rfl, h1, h2, h3, h4, by simpa [maxLen] using h5⟩

end Go.Proofs.YtokpomdfgbbhlaaDoor

/- The contracts of spec.common and spec.mixed. -/
namespace Go.Proofs.YtokpomdfgbbhlaaDoor
open Go Go.RowKit

set_option maxHeartbeats 400000 in
theorem common_any (a b : Nat) (w : World) (ha : a ≤ 1000000) (hb : b ≤ 1000000) :
    Calls Tryd.prog 41 #[.int .i64 a, .int .i64 b] w fun e w' => e = .returned (.int .i64 (Nat.gcd a b : Nat)) ∧ Fr [] w w' := by
  go_enter Tryd.func41, Tryd.ntmps41
  go_wp2_with fail
  go_loopw [0, 1] (fun s0 s1 wr => ∃ x y : Nat, x ≤ 1000000 ∧ y ≤ 1000000 ∧ s0 = .int .i64 x ∧ s1 = .int .i64 y ∧ Nat.gcd x y = Nat.gcd a b ∧ Fr [] w wr) (fun _ s1 _ => (intOf s1).toNat)
  case atStart => exact ⟨a, b, ha, hb, rfl, rfl, rfl, Fr.refl _ _⟩
  case round =>
    obtain ⟨x, y, hx, hy, rfl, rfl, hg, hf⟩ := hrel
    have HG := Lib.hid hg
    clear hg
    by_cases h0 : y = 0
    · subst h0
      go_wp2_with fail
      go_ret
      exact ⟨by rw [← HG.out, Nat.gcd_zero_right]; rfl, hf⟩
    · have hne : ((y : Int) == 0) = false := by simp; omega
      have hy1 : (1 : Int) ≤ y := by omega
      have hm := Nat.mod_lt x (show 0 < y by omega)
      have he : (x : Int) % (y : Int) = ((x % y : Nat) : Int) := rfl
      have HE := Lib.hid he
      clear he
      go_wp2_with fail
      go_quiet (fail)
      go_wp2_with fail
      go_roundw
      case rel => exact ⟨y, x % y, hy, by omega, rfl, by rw [HE.out], by rw [← HG.out, Nat.gcd_comm x y, Nat.gcd_rec y x, Nat.gcd_comm], hf.drewN _⟩
      case measure => simp [intOf]; omega

theorem info3 : (Tryd.prog.info? 3).map (fun i => (i.zero, i.size, i.bytes)) = some (some (.int .i64 0), 1, 8) := by kernel_rfl
abbrev I64 (n : Nat) : Value := .int .i64 (n : Int)

/-- append of one value of one cell onto a row of the call's own. -/
theorem wpList_app1 {ops : Array Oper} {rest : List Oper} {o : Oper} {a : Act} {Q : Exit → Act → World → Prop} {w : World} (hgd : o.guard = none) (s x : Operand) (t : TypeId)
    (ho : o.op = .call { callee := .builtin .append, args := #[s, x], argTypes := #[t, t] }) (e : TypeId) (z : Value) (bytes : Nat) (ht : Tryd.prog.underlying t = some (.slice e))
    (hinfo : (Tryd.prog.info? e).map (fun i => (i.zero, i.size, i.bytes)) = some (some z, 1, bytes)) (hz : z.cells.size = 1) (hby : bytes ≤ 64)
    (base : Nat) (v : Value) (n : Nat) (xs : List Value) (hs : a.eval s = v) (u : Value) (hown : w.ownsRow base e 1 v n xs) (hx : a.eval x = .slice (some ⟨w.heap.size, 0, none⟩) 1 1) (hu : u.oneCell' = true)
    (hn : n ≤ 100000000) (hb : base ≤ w.heap.size)
    (h : ∀ v' w', w'.ownsRow base e 1 v' (n + 1) (xs ++ [u]) → Fr v.ownBlock.toList w w' → wpList Tryd.prog ops Q rest (a.put o.dst v') w') :
    wpList Tryd.prog ops Q (o :: rest) a (w.alloc (.cells #[u] e)) := by
  obtain ⟨i0, hi, hz0, hz1, hz2⟩ := info_parts hinfo
  refine wpList_append_own _ hgd s x t ho base e i0 z 1 bytes ht hi hz0 hz1 hz2 hz (by decide) v n xs hs (hown.alloc _) ⟨w.heap.size, 0, none⟩ 1 1 [u] hx rfl ?_ ?_ ?_ ?_ ?_ ?_
  · exact cell_one_new _ _ _
  · simpa using hu
  · unfold maxLen; omega
  · have := Nat.mul_le_mul (show n + 1 ≤ 100000001 by omega) hby
    omega
  · simp; omega
  · intro v' w' h1 h2 _
    refine h v' w' h1 ?_
    have h3 := Fr.of_grown h2
    refine (((Fr.refl [] w).alloc _).mono (by simp)).trans h3 (fun k hk => .inl hk)

theorem own_tab {w : World} {base : Nat} {e : TypeId} {v : Value} {n : Nat} {g : Nat → Value} {u : Value} (h : w.ownsRow base e 1 v (n + 1) (tab n g ++ [u])) (hu : u = g n) : w.ownsRow base e 1 v (n + 1) (tab (n + 1) g) := by
  rw [tab_snoc]
  subst hu
  exact h

theorem Fr.own {a w w' : World} {ms : List Nat} {base : Nat} {e : TypeId} {size n : Nat} {v : Value} {xs : List Value} (h : Fr ms a w) (hown : w.ownsRow base e size v n xs) (hb : a.heap.size ≤ base) (hg : Fr v.ownBlock.toList w w') : Fr ms a w' :=
  h.trans hg (fun k hk => .inr (by have := (hown.lt k (by simpa using hk)).1; omega))

set_option maxRecDepth 100000 in
set_option maxHeartbeats 1000000 in
theorem mixed_zero (step : Nat) (w : World) (hs : step ≤ 1000) :
    Calls Tryd.prog 22 #[.int .i64 0, .int .i64 step] w fun e w' => e = .returned (.slice (some ⟨w.heap.size, 0, none⟩) 0 0) ∧ w' = w.alloc (.cells #[] 3) := by
  go_enter Tryd.func22, Tryd.ntmps22
  go_wp2_with fail
  go_loop [1] (fun s1 => s1 = .int .i64 1) (fun _ => 0)
  case atStart => rfl
  case round =>
    obtain rfl := hrel
    go_wp2_with fail
    go_loop [5, 24] (fun s5 s24 => s5 = .slice (some ⟨w.heap.size, 0, none⟩) 0 0 ∧ s24 = .int .i64 0) (fun _ _ => 0)
    case atStart => exact ⟨rfl, rfl⟩
    case round =>
      obtain ⟨rfl, rfl⟩ := hrel
      go_wp2_with fail
      go_ret
      exact ⟨rfl, rfl⟩

set_option maxRecDepth 100000 in
set_option maxHeartbeats 1000000 in
theorem mixed_pos (n step : Nat) (w : World) (h1 : 1 ≤ n) (hn : n ≤ 5000) (hs : step ≤ 1000) :
    Calls Tryd.prog 22 #[.int .i64 n, .int .i64 step] w fun e w' => ∃ v, e = .returned v ∧ Fr [] w w' ∧ w'.ownsRow w.heap.size 3 1 v n (tab n (fun k => I64 (mixP n step k))) := by
  have hm0 : (0 : Int) ≤ (step : Int) % (n : Int) := by omega
  have hm1 : (step : Int) % (n : Int) < n := Int.emod_lt_of_pos _ (by omega)
  have hmn := Nat.mod_lt step (show 0 < n by omega)
  have he : 1 + (step : Int) % (n : Int) = ((1 + step % n : Nat) : Int) := by push_cast; rfl
  have HE := Lib.hid he
  clear he
  obtain ⟨hk1, hk2, hk3⟩ := mixStep_ok n step (by omega)
  have HK1 := Lib.hid hk1
  clear hk1
  go_enter Tryd.func22, Tryd.ntmps22
  go_wp2_with fail
  go_loopw [1] (fun s1 wr => ∃ s fuel : Nat, stepGo n fuel s = mixStep n step ∧ s ≤ n + 1 ∧ n + 1 ≤ s + fuel ∧ 1 ≤ s ∧ s1 = .int .i64 s ∧ Fr [] w wr) (fun s1 _ => n + 2 - (intOf s1).toNat)
  case atStart =>
    refine ⟨1 + step % n, n + 1, ?_, by omega, by omega, by omega, by rw [HE.out], Fr.refl _ _⟩
    rw [mixStep, if_neg (by omega)]
    have : max n 1 = n := by omega
    rw [this]
  case round =>
    obtain ⟨s, fuel, hgo, hs1, hs2, hs3, rfl, hf⟩ := hrel
    have HGO := Lib.hid hgo
    clear hgo
    have hcon := Lib.hid (common_any s n wr (by omega) (by omega))
    by_cases hg : Nat.gcd s n = 1
    · have hS : s = mixStep n step := by
        have := HGO.out
        cases fuel with
        | zero => exact this
        | succ fuel => rw [stepGo, if_pos hg] at this; exact this
      have hbase := hf.size
      have HS := Lib.hid hS
      clear hS
      have hgI : ((Nat.gcd s n : Nat) : Int) = 1 := by omega
      go_wp2_with (go_at_call 41; refine hcon.out.mono ?_; rintro e w1 ⟨rfl, hf1⟩)
      have hf2 : Fr [] w (w1.alloc (Obj.cells #[] 3)) := (hf.trans0 hf1).alloc _
      have ho2 : (w1.alloc (Obj.cells #[] 3)).ownsRow w.heap.size 3 1 (.slice (some ⟨w1.heap.size, 0, none⟩) 0 0) 0 [] := World.ownsRow_made w1 #[] 0 (by have := hf1.size; omega) (by unfold maxLen; omega) rfl
      clear hf hcon hg hgI hf1
      go_loopw [5, 24] (fun s5 s24 wr => ∃ k : Nat, k ≤ n ∧ s24 = .int .i64 k ∧ Fr [] w wr ∧ wr.ownsRow w.heap.size 3 1 s5 k (tab k (fun k => I64 (mixP n step k)))) (fun _ s24 _ => n - (intOf s24).toNat)
      case atStart => exact ⟨0, by omega, rfl, hf2, ho2⟩
      case round =>
        clear hf2 ho2
        obtain ⟨k, hk, rfl, hf, hown⟩ := hrel
        by_cases hlt : k < n
        · have b0 : k * s ≤ 5000 * 5001 := Nat.mul_le_mul (by omega) (by omega)
          have b1 : (0 : Int) ≤ (k : Int) * (s : Int) := by rw [← Int.natCast_mul]; omega
          have b2 : (k : Int) * (s : Int) ≤ 25005000 := by rw [← Int.natCast_mul]; omega
          have hbase := hf.size
          go_wp2_with (at_builtin; refine wpList_app1 rfl (.tmp 27) (.tmp 33) 31 rfl 3 (.int .i64 0) 8 Tryd.underlying31 info3 rfl (by decide) w.heap.size _ k _ rfl _ hown rfl rfl (by omega) hbase ?_)
          intro v' w1 hown1 hg1
          have hf1 := hf.own hown (Nat.le_refl _) hg1
          have hown2 := own_tab hown1 (by rw [mixP, ← HS.out]; show Value.int .i64 _ = Value.int .i64 _; rw [Int.natCast_emod, Int.natCast_mul])
          clear hown1 hg1 hown hf
          go_wp2_with fail
          go_roundw
          case rel => exact ⟨k + 1, by omega, by go_num, hf1, hown2⟩
          case measure => simp [intOf]; omega
        · obtain rfl : k = n := by omega
          go_wp2_with fail
          go_ret
          exact ⟨_, rfl, hf, hown⟩
    · have hgI : ((Nat.gcd s n : Nat) : Int) ≠ 1 := by omega
      have hs4 : s ≠ n + 1 := by
        rintro rfl
        exact hg (by simp)
      have hg' : ∃ fuel', fuel = fuel' + 1 ∧ stepGo n fuel' (s + 1) = mixStep n step := by
        have := HGO.out
        cases fuel with
        | zero => omega
        | succ fuel => rw [stepGo, if_neg hg] at this; exact ⟨fuel, rfl, this⟩
      obtain ⟨fuel', hfu, hg''⟩ := hg'
      have HG := Lib.hid hg''
      clear hg''
      go_wp2_with (go_at_call 41; refine hcon.out.mono ?_; rintro e w1 ⟨rfl, hf1⟩)
      go_roundw
      case rel => exact ⟨s + 1, fuel', HG.out, by omega, by omega, by omega, by go_num, hf.trans0 hf1⟩
      case measure => simp [intOf]; omega

end Go.Proofs.YtokpomdfgbbhlaaDoor

/- The contract of compressChain: pieces that meet become one; what they cover stays. -/
namespace Go.Proofs.YtokpomdfgbbhlaaDoor
open Go Go.RowKit Go.Maps

/-- The cells of pieces. -/
def pf (o l : Nat → Nat) (k : Nat) : Value := if k % 2 = 0 then I64 (o (k / 2)) else I64 (l (k / 2))
theorem pf0 (o l : Nat → Nat) (k : Nat) : pf o l (k * 2) = I64 (o k) := by
  unfold pf; rw [if_pos (by omega)]; congr 3; omega
theorem pf1 (o l : Nat → Nat) (k : Nat) : pf o l (k * 2 + 1) = I64 (l k) := by
  unfold pf; rw [if_neg (by omega)]; congr 3; omega
theorem pf_ext {o l o' l' : Nat → Nat} (k : Nat) (ho : o (k / 2) = o' (k / 2)) (hl : l (k / 2) = l' (k / 2)) : pf o l k = pf o' l' k := by
  unfold pf; rw [ho, hl]

/-- n pieces in memory, with room for c. -/
def Pcs (w : World) (b c : Nat) (o l : Nat → Nat) : Prop := Blk w b 133 (tab (c * 2) (pf o l))
theorem Pcs.o {w : World} {b c : Nat} {o l : Nat → Nat} (h : Pcs w b c o l) (k : Nat) (hk : k < c) : w.cell? ⟨b, k * 2, none⟩ = some (I64 (o k)) := by
  rw [Blk.cell h, tab_get _ _ _ (by omega), pf0]
theorem Pcs.l {w : World} {b c : Nat} {o l : Nat → Nat} (h : Pcs w b c o l) (k : Nat) (hk : k < c) : w.cell? ⟨b, k * 2 + 1, none⟩ = some (I64 (l k)) := by
  rw [Blk.cell h, tab_get _ _ _ (by omega), pf1]
theorem Pcs.setl {w : World} {b c : Nat} {o l l' : Nat → Nat} (h : Pcs w b c o l) (k v : Nat) (hl : ∀ i, l' i = if i = k then v else l i) : Pcs (w.setCell ⟨b, k * 2 + 1, none⟩ (I64 v)) b c o l' := by
  have h1 := Blk.set h (k * 2 + 1) (I64 v)
  rw [tab_set] at h1
  unfold Pcs
  rw [tab_congr (g' := fun j => if j = k * 2 + 1 then I64 v else pf o l j)]
  · exact h1
  · intro i _
    by_cases hi : i = k * 2 + 1
    · rw [if_pos hi, hi, pf1, hl, if_pos rfl]
    · rw [if_neg hi]
      unfold pf
      by_cases h2 : i % 2 = 0
      · rw [if_pos h2, if_pos h2]
      · rw [if_neg h2, if_neg h2, hl, if_neg (by omega)]
theorem Pcs.seto {w : World} {b c : Nat} {o o' l : Nat → Nat} (h : Pcs w b c o l) (k v : Nat) (hl : ∀ i, o' i = if i = k then v else o i) : Pcs (w.setCell ⟨b, k * 2, none⟩ (I64 v)) b c o' l := by
  have h1 := Blk.set h (k * 2) (I64 v)
  rw [tab_set] at h1
  unfold Pcs
  rw [tab_congr (g' := fun j => if j = k * 2 then I64 v else pf o l j)]
  · exact h1
  · intro i _
    by_cases hi : i = k * 2
    · rw [if_pos hi, hi, pf0, hl, if_pos rfl]
    · rw [if_neg hi]
      unfold pf
      by_cases h2 : i % 2 = 0
      · rw [if_pos h2, if_pos h2, hl, if_neg (by omega)]
      · rw [if_neg h2, if_neg h2]
theorem Pcs.get {w : World} {b c : Nat} {o l : Nat → Nat} (_ : Pcs w b c o l) (k : Nat) (hk : k < c) : ((tab (c * 2) (pf o l)).drop (k * 2)).take 2 = [I64 (o k), I64 (l k)] := by
  rw [tab_drop_take _ _ _ _ (by omega)]
  show [pf o l (k * 2 + 0), pf o l (k * 2 + 1)] = _
  rw [Nat.add_zero, pf0, pf1]
theorem pcs_put {c : Nat} {o l o' l' : Nat → Nat} (k p q : Nat) (hk : k < c) (ho : ∀ i, o' i = if i = k then p else o i) (hl : ∀ i, l' i = if i = k then q else l i) :
    splice (tab (c * 2) (pf o l)) (k * 2) [I64 p, I64 q] = tab (c * 2) (pf o' l') := by
  have e : [I64 p, I64 q] = tab 2 (fun j => pf o' l' (k * 2 + j)) := by
    show _ = [pf o' l' (k * 2 + 0), pf o' l' (k * 2 + 1)]
    rw [Nat.add_zero, pf0, pf1, ho, hl, if_pos rfl, if_pos rfl]
  rw [e, tab_splice _ _ _ _ _ (by omega)]
  refine tab_congr (fun i hi => ?_)
  by_cases h1 : k * 2 ≤ i ∧ i < k * 2 + 2
  · rw [if_pos h1]
    congr 1
    omega
  · rw [if_neg h1]
    refine pf_ext _ ?_ ?_
    · rw [ho, if_neg (by omega)]
    · rw [hl, if_neg (by omega)]

set_option maxRecDepth 100000 in
set_option maxHeartbeats 2000000 in
set_option pp.deepTerms true in
set_option pp.maxSteps 200000 in
theorem compress_any (pb n c M a b : Nat) (g o l : Nat → Nat) (w : World) (hP : Pcs w pb c o l) (hn : 1 ≤ n) (hnc : n ≤ c) (hc : c ≤ 1000000) (hM : M ≤ 1000000000000) (hcov : Cov g o l n a b) (hb : ∀ i, i < n → o i + l i ≤ M) :
    Calls Tryd.prog 65 #[.slice (some ⟨pb, 0, none⟩) n c] w fun e w' => ∃ n' o' l', e = .returned (.slice (some ⟨pb, 0, none⟩) n' c) ∧ Fr [pb] w w' ∧ Pcs w' pb c o' l' ∧ 1 ≤ n' ∧ n' ≤ n ∧ Cov g o' l' n' a b ∧ ∀ i, i < n' → o' i + l' i ≤ M := by
  have HC := Lib.hid hcov
  have HB := Lib.hid hb
  clear hcov hb
  go_enter Tryd.func65, Tryd.ntmps65
  go_wp2_with fail
  go_loopw [0, 4, 5, 6] (fun s0 s4 s5 s6 wr => ∃ (m i x : Nat) (o1 l1 : Nat → Nat), s0 = .slice (some ⟨pb, 0, none⟩) m c ∧ s4 = .int .i64 i ∧ s5 = .int .i64 x ∧ i ≤ n ∧ 1 ≤ m ∧ m ≤ n ∧ x < m ∧ Fr [pb] w wr ∧ Pcs wr pb c o1 l1 ∧ Cov g o1 l1 m a b ∧ ∀ k, k < m → o1 k + l1 k ≤ M) (fun _ s4 _ _ _ => n - (intOf s4).toNat)
  case atStart => exact ⟨n, 0, 0, o, l, rfl, rfl, rfl, by omega, hn, by omega, by omega, Fr.refl _ _, hP, HC.out, HB.out⟩
  case round =>
    clear hP
    obtain ⟨m, i, x, o1, l1, rfl, rfl, rfl, hi, hm1, hmn, hx, hf1, hP1, hcov1, hb1⟩ := hrel
    by_cases hin : i < n
    case neg =>
      have hinI : decide ((i : Int) < (n : Int)) = false := by simp; omega
      have HH := Lib.hid (And.intro hf1 (And.intro hP1 (And.intro hcov1 hb1)))
      clear hf1 hP1 hcov1 hb1
      go_wp2_with fail
      go_ret
      exact ⟨m, o1, l1, rfl, HH.out.1, HH.out.2.1, hm1, hmn, HH.out.2.2.1, HH.out.2.2.2⟩
    have hinI : decide ((i : Int) < (n : Int)) = true := by simp; omega
    by_cases hxm : x + 1 < m
    case neg =>
      have hxI : decide ((x : Int) + 1 < (m : Int)) = false := by simp; omega
      have HH := Lib.hid (And.intro hf1 (And.intro hP1 (And.intro hcov1 hb1)))
      clear hf1 hP1 hcov1 hb1
      go_wp2_with fail
      go_ret
      exact ⟨m, o1, l1, rfl, HH.out.1, HH.out.2.1, hm1, hmn, HH.out.2.2.1, HH.out.2.2.2⟩
    have hxI : decide ((x : Int) + 1 < (m : Int)) = true := by simp; omega
    have c0 := hP1.o x (by omega)
    have c1 := hP1.l x (by omega)
    have d0 := hP1.o (x + 1) (by omega)
    have d1 := hP1.l (x + 1) (by omega)
    have bx := hb1 x (by omega)
    have by_ := hb1 (x + 1) hxm
    have z1 := Blk.frozen hP1 (x * 2 + 1)
    by_cases he : o1 x + l1 x = o1 (x + 1)
    case neg =>
      have heB : (((o1 x : Nat) : Int) + (l1 x : Nat) == ((o1 (x + 1) : Nat) : Int)) = false := by simp; omega
      have HH := Lib.hid (And.intro hf1 (And.intro hP1 (And.intro hcov1 hb1)))
      clear hf1 hP1 hcov1 hb1
      go_upto_region 5 with (fail)
      go_quiet (fail)
      go_wp2_with fail
      go_roundw
      case rel => exact ⟨m, i + 1, x + 1, o1, l1, rfl, by go_num, by go_num, by omega, hm1, hmn, hxm, HH.out.1.drewN _, HH.out.2.1.drewN _, HH.out.2.2.1, HH.out.2.2.2⟩
      case measure => simp [intOf]; omega
    have heB : (((o1 x : Nat) : Int) + (l1 x : Nat) == ((o1 (x + 1) : Nat) : Int)) = true := by simp; omega
    have HM := Lib.hid (hcov1.merge hxm he)
    have HE := Lib.hid he
    have HB1 := Lib.hid hb1
    clear hcov1 hb1 he
    go_upto_region 5 with (fail)
    go_quiet (fail)
    have hP2 : Pcs (wr.drewN nq) pb c o1 l1 := Blk.drewN hP1 _
    have hf2 : Fr [pb] w (wr.drewN nq) := hf1.drewN _
    clear c0 c1 d0 d1 z1 hP1 hf1
    generalize wr.drewN nq = w2 at *
    have c1 := hP2.l x (by omega)
    have d1 := hP2.l (x + 1) (by omega)
    have z1 := Blk.frozen hP2 (x * 2 + 1)
    go_upto_region 6 with (fail)
    go_cut [] from 39 to 54 (fun w3 => Fr [pb] w2 w3 ∧ Pcs w3 pb c o1 (fun k => if k = x then l1 x + l1 (x + 1) else l1 k))
    case first =>
      go_region
      all_goals
        go_wp2_with fail
        go_meet
        case rel => exact ⟨(Fr.refl _ _).drew.setCell (.inl (by simp)) _, Pcs.setl (Blk.drew hP2) _ _ (fun _ => rfl)⟩
    case rest =>
    obtain ⟨hf3, hP3⟩ := hcut
    have hf3 := hf2.trans_same hf3
    clear c1 d1 z1 hP2 hf2
    have hmI : (1 : Int) ≤ m := by omega
    obtain ⟨l2, hl2⟩ : ∃ l2 : Nat → Nat, l2 = fun k => if k = x then l1 x + l1 (x + 1) else l1 k := ⟨_, rfl⟩
    rw [← hl2] at hP3
    have HL2 := Lib.hid hl2
    have HP3 := Lib.hid hP3
    have HF3 := Lib.hid hf3
    clear hl2 hP3 hf3
    go_wp2_with fail
    generalize hr : m - 1 - (x + 1) = r at *
    have HR := Lib.hid hr
    clear hr
    go_loopw [6, 63] (fun s6 s63 wi => ∃ (j : Nat) (o3 l3 : Nat → Nat), s63 = .int .i64 j ∧ j ≤ r ∧ Fr [pb] w wi ∧ Pcs wi pb c o3 l3 ∧ (∀ k, o3 k = if x + 1 ≤ k ∧ k < x + 1 + j then o1 (k + 1) else o1 k) ∧ (∀ k, l3 k = if x + 1 ≤ k ∧ k < x + 1 + j then l2 (k + 1) else l2 k)) (fun _ s63 _ => r - (intOf s63).toNat)
    case atStart => exact ⟨0, o1, l2, rfl, by omega, HF3.out, HP3.out, fun k => by rw [if_neg (by omega)], fun k => by rw [if_neg (by omega)]⟩
    case round =>
      obtain ⟨j, o3, l3, rfl, hj, hf4, hP4, ho3, hl3⟩ := hrel
      have HO3 := Lib.hid ho3
      have HL3 := Lib.hid hl3
      clear ho3 hl3
      by_cases hjr : j < r
      case neg =>
        obtain rfl : j = r := by omega
        have hjI : ¬ (j : Int) < (j : Int) := by omega
        have HF4 := Lib.hid hf4
        have HP4 := Lib.hid hP4
        clear hf4 hP4
        have hmr : x + 2 + j = m := by have := HR.out; omega
        go_wp2_with fail
        case roundEnd =>
          refine ⟨⟨m - 1, i + 1, x, o3, l3, rfl, by go_num, rfl, by omega, by omega, by omega, by omega, HF4.out, HP4.out, HM.out.congr (fun k hk => ?_) (fun k hk => ?_), fun k hk => ?_⟩, by simp [intOf]; omega⟩
          · rw [HO3.out]
            by_cases hkx : k ≤ x
            · rw [if_neg (by omega), if_pos hkx]
            · rw [if_pos (by omega), if_neg hkx]
          · rw [HL3.out, HL2.out]; dsimp only
            by_cases hkx : k < x
            · rw [if_neg (by omega), if_pos hkx, if_neg (by omega)]
            · by_cases hke : k = x
              · rw [if_neg (by omega), if_neg hkx, if_pos hke, if_pos hke]
              · rw [if_pos (by omega), if_neg hkx, if_neg hke, if_neg (by omega)]
          · rw [HO3.out, HL3.out, HL2.out]; dsimp only
            by_cases hkx : x + 1 ≤ k
            · rw [if_pos (by omega), if_pos (by omega), if_neg (by omega)]
              exact HB1.out _ (by omega)
            · rw [if_neg (by omega), if_neg (by omega)]
              by_cases hke : k = x
              · rw [if_pos hke, hke]
                have := HE.out
                have := HB1.out (x + 1) hxm
                omega
              · rw [if_neg hke]
                exact HB1.out _ (by omega)
      have hjI : (j : Int) < (r : Int) := by omega
      have hr := HR.out
      have hxr : x + 2 + r = m := by omega
      clear hr
      have hgt := hP4.get (j + x + 2) (by omega)
      have e0 := hP4.o (x + 1 + j) (by omega)
      have e1 := hP4.l (x + 1 + j) (by omega)
      have z0 := Blk.frozen hP4 ((x + 1 + j) * 2)
      have z1 := Blk.frozen hP4 ((x + 1 + j) * 2 + 1)
      go_wp2_with (refine wpList_load_blk rfl 133 (.tmp 76) rfl pb ((j + x + 2) * 2) rfl 133 _ hP4 _ Tryd.underlying133 rfl 2 (by kernel_rfl) ?c1 #[I64 (o3 (j + x + 2)), I64 (l3 (j + x + 2))] ?c2 ?_)
      case c1 => simp; omega
      go_roundw
      case rel =>
        refine ⟨j + 1, fun k => if k = x + 1 + j then o3 (j + x + 2) else o3 k, fun k => if k = x + 1 + j then l3 (j + x + 2) else l3 k, by go_num, by omega, (hf4.setCell (.inl (by simp)) _).setCell (.inl (by simp)) _, (hP4.seto _ _ (fun _ => rfl)).setl _ _ (fun _ => rfl), fun k => ?_, fun k => ?_⟩
        · dsimp only; rw [HO3.out, HO3.out]
          by_cases hk : k = x + 1 + j
          · rw [if_pos hk, if_neg (by omega), if_pos (by omega)]; congr 1; omega
          · rw [if_neg hk]
            by_cases h1 : x + 1 ≤ k ∧ k < x + 1 + j
            · rw [if_pos h1, if_pos (by omega)]
            · rw [if_neg h1, if_neg (by omega)]
        · dsimp only; rw [HL3.out, HL3.out]
          by_cases hk : k = x + 1 + j
          · rw [if_pos hk, if_neg (by omega), if_pos (by omega)]; congr 1; omega
          · rw [if_neg hk]
            by_cases h1 : x + 1 ≤ k ∧ k < x + 1 + j
            · rw [if_pos h1, if_pos (by omega)]
            · rw [if_neg h1, if_neg (by omega)]
      case measure => simp [intOf]; omega
end Go.Proofs.YtokpomdfgbbhlaaDoor

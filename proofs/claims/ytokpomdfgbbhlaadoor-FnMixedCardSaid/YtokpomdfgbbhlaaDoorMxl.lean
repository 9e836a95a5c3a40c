/- FnMixed: a stream is read, sought and written by steps, what is told is what stands there then, the file behind all is that of the stream with these bytes (part 12 of 18). No condition but the statement's own. -/
import Derived.Deep.CutBlock
import Derived.StillTailTactics
import Derived.Test.YtokpomdfgbbhlaaDoorMxk
set_option linter.all false
set_option linter.unusedVariables false
set_option linter.unusedSimpArgs false
set_option linter.unnecessarySimpa false
/- An entry within the directory; the ministream and the image behind k nodes. No program here but the parts of Write. -/
namespace Go.Proofs.YtokpomdfgbbhlaaDoor
open Go Go.RowKit

/-- The directory D with entry k replaced. -/
def at128 (D : Nat → UInt8) (k : Nat) (e : Nat → UInt8) (y : Nat) : UInt8 := if 128 * k ≤ y ∧ y < 128 * k + 128 then e (y - 128 * k) else D y

theorem at128_upd (D : Nat → UInt8) (k : Nat) (e : Nat → UInt8) (a m v : Nat) (h : a + m ≤ 128) : upd (at128 D k e) (128 * k + a) m v = at128 D k (upd e a m v) := by
  funext y
  unfold at128 upd
  by_cases h1 : 128 * k + a ≤ y ∧ y < 128 * k + a + m
  · rw [if_pos h1, if_pos (by omega), if_pos (by omega)]
    congr 1; omega
  · rw [if_neg h1]
    dsimp only
    by_cases h2 : 128 * k ≤ y ∧ y < 128 * k + 128
    · rw [if_pos h2, if_pos h2, if_neg (by omega)]
    · rw [if_neg h2, if_neg h2]
theorem at128_cpy (D : Nat → UInt8) (k : Nat) (e : Nat → UInt8) (a m : Nat) (g : Nat → UInt8) (h : a + m ≤ 128) : cpy (at128 D k e) (128 * k + a) m g = at128 D k (cpy e a m g) := by
  funext y
  unfold at128 cpy
  by_cases h1 : 128 * k + a ≤ y ∧ y < 128 * k + a + m
  · rw [if_pos h1, if_pos (by omega), if_pos (by omega)]
    congr 1; omega
  · rw [if_neg h1]
    dsimp only
    by_cases h2 : 128 * k ≤ y ∧ y < 128 * k + 128
    · rw [if_pos h2, if_pos h2, if_neg (by omega)]
    · rw [if_neg h2, if_neg h2]

/-- The directory's bytes when k entries are laid. -/
def dirK (L : Lay) (k y : Nat) : UInt8 := if y / 128 < k then L.entF (y / 128) (y % 128) else freeE (y % 128)
theorem dirK_open (L : Lay) (k y : Nat) : dirK L k y = at128 (dirK L k) k freeE y := by
  unfold at128
  by_cases h : 128 * k ≤ y ∧ y < 128 * k + 128
  · rw [if_pos h]
    unfold dirK
    rw [if_neg (by omega)]
    congr 1; omega
  · rw [if_neg h]
theorem dirK_shut (L : Lay) (k y : Nat) : at128 (dirK L k) k (L.entF k) y = dirK L (k + 1) y := by
  unfold at128
  by_cases h : 128 * k ≤ y ∧ y < 128 * k + 128
  · rw [if_pos h]
    unfold dirK
    have e : y / 128 = k := by omega
    rw [if_pos (by omega), e]
    congr 1; omega
  · rw [if_neg h]
    unfold dirK
    by_cases h2 : y / 128 < k
    · rw [if_pos h2, if_pos (by omega)]
    · rw [if_neg h2, if_neg (by omega)]

/-- The sectors behind the tables and the ministream's table. -/
def C1 (L : Lay) (fat mfat : Nat → Nat) (mn : Nat) : Nat → Nat → UInt8 :=
  fillC (fun k x => if k < L.fats then byteN (fat (k * L.per + x / 4)) (x % 4) else 0) L.sz (L.base 1) (4 * mn) (sectF (fun _ => 0) 0 mfat 0 mn)
/-- And behind the first k nodes. -/
def C2 (L : Lay) (fat mfat : Nat → Nat) (mn : Nat) : Nat → Nat → Nat → UInt8
  | 0 => C1 L fat mfat mn
  | k + 1 => if (L.nd k).stream = true ∧ ¬ (L.nd k).len < 4096 then fillC (C2 L fat mfat mn k) L.sz (L.base (3 + k)) (L.nd k).len (L.nd k).dat else C2 L fat mfat mn k

/-- The ministream when the first k nodes are laid. -/
structure WholeK (L : Lay) (k : Nat) (W : Nat → UInt8) : Prop where
  done : ∀ j i x, j < k → j < L.N → i < L.small j → x < 64 → W (64 * L.mpl (L.mbase j + i) + x) = if 64 * i + x < (L.nd j).len then (L.nd j).dat (64 * i + x) else 0
  todo : ∀ j i x, k ≤ j → j < L.N → i < L.small j → x < 64 → W (64 * L.mpl (L.mbase j + i) + x) = 0

/-- The ministream when i parts of node k are laid. -/
def miniF (L : Lay) (k : Nat) (W : Nat → UInt8) : Nat → Nat → UInt8
  | 0 => W
  | i + 1 => cpy (miniF L k W i) (64 * L.mpl (L.mbase k + i)) (min ((L.nd k).len - 64 * i) 64) (fun x => (L.nd k).dat (64 * i + x))

theorem mbase_lt (L : Lay) {k i : Nat} (hk : k < L.N) (hi : i < L.small k) : L.mbase k + i < L.minis := by
  have := sumN_mono L.small (show k + 1 ≤ L.N by omega)
  rw [sumN] at this
  unfold Lay.mbase Lay.minis
  omega
theorem mpl_inj (L : Lay) {a b : Nat} (ha : a < L.minis) (hb : b < L.minis) (h : L.mpl a = L.mpl b) : a = b := mixP_inj _ _ ha hb h

theorem miniF_out (L : Lay) (k : Nat) (W : Nat → UInt8) (m y : Nat) (h : ∀ i, i < m → y < 64 * L.mpl (L.mbase k + i) ∨ 64 * L.mpl (L.mbase k + i) + 64 ≤ y) : miniF L k W m y = W y := by
  induction m with
  | zero => rfl
  | succ m ih =>
    rw [miniF, cpy_out _ _ _ _ _ (by have := h m (by omega); omega)]
    exact ih (fun i hi => h i (by omega))
theorem miniF_in (L : Lay) (k : Nat) (hk : k < L.N) (W : Nat → UInt8) (m : Nat) (hm : m ≤ L.small k) (hW : ∀ i x, i < L.small k → x < 64 → W (64 * L.mpl (L.mbase k + i) + x) = 0) (i x : Nat) (hi : i < m) (hx : x < 64) :
    miniF L k W m (64 * L.mpl (L.mbase k + i) + x) = if 64 * i + x < (L.nd k).len then (L.nd k).dat (64 * i + x) else 0 := by
  induction m with
  | zero => omega
  | succ m ih =>
    rw [miniF]
    have apart : ∀ a b, a < L.small k → b < L.small k → a ≠ b → L.mpl (L.mbase k + a) ≠ L.mpl (L.mbase k + b) := by
      intro a b ha hb hab e
      have := mpl_inj L (mbase_lt L hk ha) (mbase_lt L hk hb) e
      omega
    by_cases him : i = m
    · subst him
      by_cases hl : 64 * i + x < (L.nd k).len
      · rw [if_pos hl, cpy_in _ _ _ _ _ (by omega)]
      · rw [if_neg hl, cpy_out _ _ _ _ _ (by omega), miniF_out L k W i _ (fun a ha => by have := apart a i (by omega) (by omega) (by omega); omega)]
        exact hW i x (by omega) hx
    · have := apart i m (by omega) (by omega) him
      rw [cpy_out _ _ _ _ _ (by omega)]
      exact ih (by omega) (by omega)

theorem WholeK.next {L : Lay} {k : Nat} {W : Nat → UInt8} (h : WholeK L k W) (hk : k < L.N) : WholeK L (k + 1) (miniF L k W (L.small k)) := by
  have hin := miniF_in L k hk W (L.small k) (Nat.le_refl _) (fun i x hi hx => h.todo k i x (Nat.le_refl _) hk hi hx)
  have hout : ∀ j i x, j ≠ k → j < L.N → i < L.small j → x < 64 → miniF L k W (L.small k) (64 * L.mpl (L.mbase j + i) + x) = W (64 * L.mpl (L.mbase j + i) + x) := by
    intro j i x hj hjN hi hx
    refine miniF_out L k W _ _ (fun a ha => ?_)
    have h1 : L.mpl (L.mbase j + i) ≠ L.mpl (L.mbase k + a) := by
      intro e
      have h2 := mpl_inj L (mbase_lt L hjN hi) (mbase_lt L hk ha) e
      exact hj (sumN_uniq L.small j k i a hi ha h2).1
    omega
  constructor
  · intro j i x hj hjN hi hx
    by_cases hjk : j = k
    · subst hjk; exact hin i x hi hx
    · rw [hout j i x hjk hjN hi hx]
      exact h.done j i x (by omega) hjN hi hx
  · intro j i x hj hjN hi hx
    rw [hout j i x (by omega) hjN hi hx]
    exact h.todo j i x (by omega) hjN hi hx
theorem WholeK.skip {L : Lay} {k : Nat} {W : Nat → UInt8} (h : WholeK L k W) (h0 : L.small k = 0) : WholeK L (k + 1) W where
  done := fun j i x hj hjN hi hx => by
    by_cases hjk : j = k
    · subst hjk; omega
    · exact h.done j i x (by omega) hjN hi hx
  todo := fun j i x hj hjN hi hx => h.todo j i x (by omega) hjN hi hx
end Go.Proofs.YtokpomdfgbbhlaaDoor

/- The nodes' loop of spec.Write: its code's parts, what stands in it. -/
namespace Go.Proofs.YtokpomdfgbbhlaaDoor
open Go Go.RowKit

/-- The body of block n. -/
def findBlk (n : Nat) : Code → Option Code
  | .block id c => if id = n then some c else findBlk n c
  | .seq a b => match findBlk n a with
    | some c => some c
    | none => findBlk n b
  | .cond _ a b => match findBlk n a with
    | some c => some c
    | none => findBlk n b
  | .loop c => findBlk n c
  | .scope c => findBlk n c
  | _ => none
/-- The code behind region n. -/
def dropAft (n : Nat) : Code → Option Code
  | .seq a b => match dropAft n a with
    | some .skip => some b
    | some a' => some (.seq a' b)
    | none => dropAft n b
  | .region id _ _ => if id = n then some .skip else none
  | _ => none
noncomputable def c27 : Code := (Tryd.f10.body.bind (findBlk 27)).getD .skip
noncomputable def c27b : Code := (dropAft 114 c27).getD .skip
noncomputable def c27c : Code := (dropTo 129 c27).getD .skip

/-- What the nodes' loop keeps. -/
structure NLoop (L : Lay) (zb xb ob outb fnb wb db wn dn mn k : Nat) (fat mfat : Nat → Nat) (w wr : World) : Prop where
  fr : Fr [outb, wb, db] w wr
  out : ∃ F, WOut wr L zb xb ob outb fnb F ∧ Img L F (C2 L fat mfat mn k)
  whole : ∃ W, Bts wr wb wn W ∧ WholeK L k W
  dir : Bts wr db dn (dirK L k)

/-- What stands around it. -/
structure NStat (L : Lay) (lb lcap zb xb fb fn mb mn pb pc b19 c19 b29 c29 b33 c33 ob outb fnb wb db wn dn : Nat) (dv : Nat → Value) (fat mfat : Nat → Nat) (w0 wA : World) : Prop where
  E : WEnv L w0 lb lcap fn mn pc c19 c29 c33 outb dv fat mfat
  hT : WTab wA L zb xb fb fn mb mn pb b19 b29 b33 fat mfat
  hF0 : Fr [] w0 wA
  out : ∃ l, Blk wA outb 5 l
  wb_ : ∃ l, Blk wA wb 5 l
  db_ : ∃ l, Blk wA db 5 l
  ne1 : wb ≠ db
  ne2 : wb ≠ outb
  ne3 : db ≠ outb
  wn_ : wn = 64 * L.minis
  dn1 : 128 * L.N ≤ dn
  dn2 : dn ≤ 20480

section
variable {L : Lay} {lb lcap zb xb fb fn mb mn pb pc b19 c19 b29 c29 b33 c33 ob outb fnb wb db wn dn : Nat} {dv : Nat → Value} {fat mfat : Nat → Nat} {w0 wA w : World}
/-- Blocks that are no rows of bytes stay. -/
theorem NStat.keep (S : NStat L lb lcap zb xb fb fn mb mn pb pc b19 c19 b29 c29 b33 c33 ob outb fnb wb db wn dn dv fat mfat w0 wA) (hf : Fr [outb, wb, db] wA w) {b : Nat} {T : TypeId} {l : List Value} (hb : Blk wA b T l) (h5 : T ≠ 5) : Blk w b T l := by
  obtain ⟨l1, h1⟩ := S.out
  obtain ⟨l2, h2⟩ := S.wb_
  obtain ⟨l3, h3⟩ := S.db_
  refine hb.fr hf ?_
  simp only [List.mem_cons, List.not_mem_nil, or_false, not_or]
  exact ⟨blk_ne hb h1 h5, blk_ne hb h2 h5, blk_ne hb h3 h5⟩
theorem NStat.tab (S : NStat L lb lcap zb xb fb fn mb mn pb pc b19 c19 b29 c29 b33 c33 ob outb fnb wb db wn dn dv fat mfat w0 wA) (hf : Fr [outb, wb, db] wA w) : WTab w L zb xb fb fn mb mn pb b19 b29 b33 fat mfat :=
  S.hT.fr hf (fun b T l hb h5 _ => by
    obtain ⟨l1, h1⟩ := S.out
    obtain ⟨l2, h2⟩ := S.wb_
    obtain ⟨l3, h3⟩ := S.db_
    simp only [List.mem_cons, List.not_mem_nil, or_false, not_or]
    exact ⟨blk_ne hb h1 h5, blk_ne hb h2 h5, blk_ne hb h3 h5⟩)
/-- A node's bytes stand as they did (they are of the file's reader of the nodes, ahead of all that Write makes). -/
theorem NStat.dat (S : NStat L lb lcap zb xb fb fn mb mn pb pc b19 c19 b29 c29 b33 c33 ob outb fnb wb db wn dn dv fat mfat w0 wA) (hw : w0.heap.size ≤ wb) (hd : w0.heap.size ≤ db) (hf : Fr [outb, wb, db] wA w) {k : Nat} (hk : k < L.N) : DatIs w (L.nd k) (dv k) := by
  obtain ⟨a, cap, h1, h2, h3, h4⟩ := S.E.nd.dat k hk
  refine ⟨a, cap, h1, h2, h3, fun h0 => ?_⟩
  obtain ⟨b, o, rfl, l, hb, hl⟩ := h4 h0
  refine ⟨b, o, rfl, l, (hb.fr0 S.hF0).fr hf ?_, hl⟩
  have h5 := hb.lt
  have h6 := S.E.ob_
  simp only [List.mem_cons, List.not_mem_nil, or_false, not_or]
  omega
end
end Go.Proofs.YtokpomdfgbbhlaaDoor

/- spec.Write: a node's fields behind its kind, start and length. -/
namespace Go.Proofs.YtokpomdfgbbhlaaDoor
open Go Go.RowKit

/-- The entry's bytes ahead of its kind. -/
def entA (L : Lay) (k : Nat) : Nat → UInt8 := upd (nameE freeE (L.nmOf k) (L.nmLen k)) 64 2 (2 * L.nmLen k + 2)
/-- The links of a node. -/
def lkOf (x : Nd) (j : Nat) : Int := if j = 0 then x.left else if j = 1 then x.right else x.child
def linkK (x : Nd) (e : Nat → UInt8) : Nat → Nat → UInt8
  | 0 => e
  | j + 1 => linkE (linkK x e j) (68 + 4 * j) (lkOf x j)

theorem arr36 : Tryd.prog.arrayLen 36 = 16 := by kernel_rfl
theorem size36 (w : World) : (sizeOf (Tryd.prog.elem 36)).run Tryd.prog w = .ok 1 w := by kernel_rfl
theorem und36 : Tryd.prog.underlying 36 = some (.array (Tryd.prog.arrayLen 36) (Tryd.prog.elem 36)) := by kernel_rfl
theorem slice36_all (d o : Nat) (w : World) :
    (Instr.sliceAt 36 (.pointer (some ⟨d, o, none⟩)) none none none).run Tryd.prog w = .ok (.slice (some ⟨d, o, none⟩) 16 16) w := by
  rw [run_sliceAt_array_all (P := Tryd.prog) w 36 _ und36, size36]
  simp [slicedAt, arr36, Addr.add]
theorem arr37 : Tryd.prog.arrayLen 37 = 4 := by kernel_rfl
theorem size37 (w : World) : (sizeOf (Tryd.prog.elem 37)).run Tryd.prog w = .ok 1 w := by kernel_rfl
theorem und37 : Tryd.prog.underlying 37 = some (.array (Tryd.prog.arrayLen 37) (Tryd.prog.elem 37)) := by kernel_rfl
theorem slice37_all (d o : Nat) (w : World) :
    (Instr.sliceAt 37 (.pointer (some ⟨d, o, none⟩)) none none none).run Tryd.prog w = .ok (.slice (some ⟨d, o, none⟩) 4 4) w := by
  rw [run_sliceAt_array_all (P := Tryd.prog) w 37 _ und37, size37]
  simp [slicedAt, arr37, Addr.add]
theorem nd_cls (x : Nd) (dv : Value) (j : Nat) (hj : j < 16) : (ndCells x dv)[6 + j]? = some (U8 (x.cls j)) := by
  unfold ndCells
  rw [List.getElem?_append_left (by simp; omega), List.getElem?_append_left (by simp; omega), List.getElem?_append_right (by simp)]
  simp only [List.length_cons, List.length_nil, Nat.zero_add, Nat.reduceAdd, Nat.add_sub_cancel_left]
  exact tab_get _ _ _ hj
theorem nd_sts (x : Nd) (dv : Value) (j : Nat) (hj : j < 4) : (ndCells x dv)[22 + j]? = some (U8 (x.sts j)) := by
  unfold ndCells
  rw [List.getElem?_append_left (by simp; omega), List.getElem?_append_right (by simp)]
  simp only [List.length_append, List.length_cons, List.length_nil, Nat.zero_add, Nat.reduceAdd, tab_length]
  have : 22 + j - 22 = j := by omega
  rw [this]
  exact tab_get _ _ _ hj

set_option maxRecDepth 100000 in
set_option maxHeartbeats 8000000 in
theorem node_3 (x3 x4 x5 x6 x8 x9 x10 x11 x12 x13 x15 x16 x21 x22 x26 x27 x28 x31 x32 x37 x38 x39 x40 x41 x42 x43 x46 x47 x51 x55 x56 x57 x58 x59 x60 x61 x62 x63 x64 x65 x66 x67 x68 x69 x70 x71 x72 x73 x74 x75 x76 x77 x78 x79 x80 x81 x82 x83 x84 x85 x86 x87 x88 x89 x90 x91 x92 x93 x94 x95 x96 x97 x98 x99 x100 x101 x102 x103 x104 x105 x106 x107 x108 x109 x110 x111 x112 x113 x114 x115 x116 x117 x118 x119 x120 x121 x122 x123 x124 x125 x126 x127 x128 x129 x130 x131 x132 x133 x134 x135 x136 x137 x138 x139 x140 x141 x142 x143 x144 x145 x146 x147 x148 x149 x150 x151 x152 x153 x154 x155 x156 x157 x158 x159 x160 x161 x162 x163 x164 x165 x166 x167 x168 x169 x170 x171 x172 x173 x174 x175 x176 x177 x178 x179 x180 x181 x182 x183 x184 x185 x186 x187 x188 x189 x190 x191 x192 x193 x194 x195 x196 x197 x198 x199 x200 x201 x202 x203 x204 x205 x206 x207 x208 x209 x210 x211 x212 x213 x214 x215 x216 x217 x218 x219 x220 x221 x222 x223 x224 x225 x226 x227 x228 x229 x230 x231 x232 x233 x234 x235 x236 x237 x238 x239 x240 x241 x242 x243 x244 x245 x246 x247 x248 x249 x250 x251 x252 x253 x254 x255 x256 x257 x258 x259 x260 x261 x262 x263 x264 x265 x266 x267 x268 x269 x270 x271 x272 x273 x274 x275 x276 x277 x278 x279 x280 x281 x282 x283 x284 x285 x286 x287 x288 x289 x290 x291 x292 x293 x294 x295 x296 x297 x298 x299 x300 x301 x302 x303 x304 x305 x306 x307 x308 x309 x310 x311 x312 x313 x314 x315 x316 x317 x318 x319 x320 x321 x322 x323 x324 x325 x326 x327 x328 x329 x330 x331 x332 x333 x334 x335 x336 x337 x338 x339 x340 x341 x342 x343 x344 x345 x346 x347 x348 x349 x350 x351 x352 x353 x354 x355 x356 x357 x358 x362 x363 x364 x365 x366 x367 x368 x369 x370 x371 x372 x373 x374 x375 x376 x377 x378 x379 x380 x381 x382 x383 x384 x385 x386 x387 x388 x389 x390 x391 x392 x393 x394 x395 x396 x397 x398 x399 x400 x401 x402 x403 x404 x405 x406 x407 x408 x409 x410 x411 x412 x413 x414 x415 x416 x417 x418 x419 x420 x421 x422 x423 x424 x425 x426 x427 x428 x429 x430 x431 x432 x433 x434 x435 x436 x437 x438 x439 x440 x441 x442 x443 x444 x445 x446 x447 x448 x449 x450 x451 x452 x453 x454 x455 x456 x457 x458 x459 x460 x461 x462 x463 x464 x465 x466 x467 x468 x469 x470 x471 x472 x473 x474 x475 x476 x477 x478 x479 x480 x481 x482 x483 x484 x485 x486 x487 x488 x489 x490 x491 x492 x493 x494 x495 x496 x497 x498 x499 x500 x501 x502 x503 x504 x505 x506 x507 x508 x509 x510 x511 x512 x513 : Value) (L : Lay) (lb lcap zb xb fb fn mb mn pb pc b19 c19 b29 c29 b33 c33 ob outb fnb wb db wn dn : Nat) (dv : Nat → Value) (fat mfat : Nat → Nat) (w0 wA w : World) (k : Nat) (S : NStat L lb lcap zb xb fb fn mb mn pb pc b19 c19 b29 c29 b33 c33 ob outb fnb wb db wn dn dv fat mfat w0 wA) (hw0 : w0.heap.size ≤ wb) (hd0 : w0.heap.size ≤ db) (hk : k < L.N) (Q : Exit → Act → World → Prop) (hQ : ∀ (y48 y49 y50 y51 y52 y53 y54 y55 y56 y57 y58 y363 y364 y365 y366 y367 y368 y369 y370 y371 y372 y373 y374 y375 y376 y377 y378 y379 y380 y381 y382 y383 y384 y385 y386 y387 y388 y389 y390 y391 y392 y393 y394 y395 y396 y397 y398 y399 y400 y401 y402 y403 y404 y405 y406 y407 y408 y409 y410 y411 y412 y413 y414 y415 y416 y417 y418 y419 y420 y421 y422 y423 y424 y425 y426 y427 y428 y429 y430 y431 y432 y433 y434 y435 y436 y437 y438 y439 y440 y441 y442 y443 y444 y445 y446 y447 y448 y449 y450 y451 y452 y453 y454 y455 y456 y457 y458 y459 y460 y461 y462 y463 y464 y465 y466 y467 y468 y469 y470 y471 y472 y473 y474 y475 y476 y477 y478 y479 y480 y481 y482 y483 y484 y485 y486 y487 y488 y489 y490 y491 y492 y493 y494 y495 y496 y497 y498 y499 : Value) (w' : World), NLoop L zb xb ob outb fnb wb db wn dn mn (k + 1) fat mfat wA w' → Q Exit.normal ⟨#[(.slice (some ⟨lb, 0, none⟩) L.N lcap), (.int .i64 L.ver), (.int .i64 L.step), x3, x4, x5, x6, (.pointer (some ⟨zb, 0, none⟩)), x8, x9, x10, x11, x12, x13, (I64 L.minis), x15, x16, (.int .i64 L.per), (.int .i64 (L.cnt 0)), (.slice (some ⟨b19, 0, none⟩) (3 + L.N) c19), (I64 L.sum), x21, x22, (I64 L.fats), (.slice (some ⟨pb, 0, none⟩) L.tot pc), (.pointer (some ⟨xb, 0, none⟩)), x26, x27, x28, (.slice (some ⟨b29, 0, none⟩) (3 + L.N) c29), (.slice (some ⟨mb, 0, none⟩) mn mn), x31, x32, (.slice (some ⟨b33, 0, none⟩) L.N c33), (.pointer (some ⟨ob, 0, none⟩)), (.pointer (some ⟨fnb, 0, none⟩)), (.func (.func 25) #[] #[.pointer (some ⟨xb, 0, none⟩), .pointer (some ⟨fnb, 0, none⟩)]), x37, x38, x39, x40, x41, x42, x43, (.slice (some ⟨wb, 0, none⟩) wn wn), (.slice (some ⟨db, 0, none⟩) dn dn), x46, x47, y48, y49, y50, y51, y52, y53, y54, y55, y56, y57, y58, x59, x60, x61, x62, x63, x64, x65, x66, x67, x68, x69, x70, x71, x72, x73, x74, x75, x76, x77, x78, x79, x80, x81, x82, x83, x84, x85, x86, x87, x88, x89, x90, x91, x92, x93, x94, x95, x96, x97, x98, x99, x100, x101, x102, x103, x104, x105, x106, x107, x108, x109, x110, x111, x112, x113, x114, x115, x116, x117, x118, x119, x120, x121, x122, x123, x124, x125, x126, x127, x128, x129, x130, x131, x132, x133, x134, x135, x136, x137, x138, x139, x140, x141, x142, x143, x144, x145, x146, x147, x148, x149, x150, x151, x152, x153, x154, x155, x156, x157, x158, x159, x160, x161, x162, x163, x164, x165, x166, x167, x168, x169, x170, x171, x172, x173, x174, x175, x176, x177, x178, x179, x180, x181, x182, x183, x184, x185, x186, x187, x188, x189, x190, x191, x192, x193, x194, x195, x196, x197, x198, x199, x200, x201, x202, x203, x204, x205, x206, x207, x208, x209, x210, x211, x212, x213, x214, x215, x216, x217, x218, x219, x220, x221, x222, x223, x224, x225, x226, x227, x228, x229, x230, x231, x232, x233, x234, x235, x236, x237, x238, x239, x240, x241, x242, x243, x244, x245, x246, x247, x248, x249, x250, x251, x252, x253, x254, x255, x256, x257, x258, x259, x260, x261, x262, x263, x264, x265, x266, x267, x268, x269, x270, x271, x272, x273, x274, x275, x276, x277, x278, x279, x280, x281, x282, x283, x284, x285, x286, x287, x288, x289, x290, x291, x292, x293, x294, x295, x296, x297, x298, x299, x300, x301, x302, x303, x304, x305, x306, x307, x308, x309, x310, x311, x312, x313, x314, x315, x316, x317, x318, x319, x320, x321, x322, x323, x324, x325, x326, x327, x328, x329, x330, x331, x332, x333, x334, x335, x336, x337, x338, x339, x340, x341, x342, x343, x344, x345, x346, x347, x348, x349, x350, x351, x352, x353, x354, x355, x356, x357, x358, (.slice (some ⟨lb, 0, none⟩) L.N lcap), (.int .i64 L.N), (.int .i64 k), x362, y363, y364, y365, y366, y367, y368, y369, y370, y371, y372, y373, y374, y375, y376, y377, y378, y379, y380, y381, y382, y383, y384, y385, y386, y387, y388, y389, y390, y391, y392, y393, y394, y395, y396, y397, y398, y399, y400, y401, y402, y403, y404, y405, y406, y407, y408, y409, y410, y411, y412, y413, y414, y415, y416, y417, y418, y419, y420, y421, y422, y423, y424, y425, y426, y427, y428, y429, y430, y431, y432, y433, y434, y435, y436, y437, y438, y439, y440, y441, y442, y443, y444, y445, y446, y447, y448, y449, y450, y451, y452, y453, y454, y455, y456, y457, y458, y459, y460, y461, y462, y463, y464, y465, y466, y467, y468, y469, y470, y471, y472, y473, y474, y475, y476, y477, y478, y479, y480, y481, y482, y483, y484, y485, y486, y487, y488, y489, y490, y491, y492, y493, y494, y495, y496, y497, y498, y499, x500, x501, x502, x503, x504, x505, x506, x507, x508, x509, x510, x511, x512, x513], []⟩ w') (nb : Nat) (hfr : Fr [outb, wb, db] wA w) (hnbA : wA.heap.size ≤ nb) (hnb : Blk w nb 42 (ndCells (L.nd k) (dv k))) (F W : Nat → UInt8) (hO : WOut w L zb xb ob outb fnb F) (hI : Img L F (C2 L fat mfat mn (k + 1))) (hW : Bts w wb wn W) (hWK : WholeK L (k + 1) W) (hD : Bts w db dn (at128 (dirK L k) k (entA L k))) (hst : L.startOf k < 4294967296) (hln : L.lenOf k < 4294967296) :
    Code.wp Tryd.prog c27c Q ⟨#[(.slice (some ⟨lb, 0, none⟩) L.N lcap), (.int .i64 L.ver), (.int .i64 L.step), x3, x4, x5, x6, (.pointer (some ⟨zb, 0, none⟩)), x8, x9, x10, x11, x12, x13, (I64 L.minis), x15, x16, (.int .i64 L.per), (.int .i64 (L.cnt 0)), (.slice (some ⟨b19, 0, none⟩) (3 + L.N) c19), (I64 L.sum), x21, x22, (I64 L.fats), (.slice (some ⟨pb, 0, none⟩) L.tot pc), (.pointer (some ⟨xb, 0, none⟩)), x26, x27, x28, (.slice (some ⟨b29, 0, none⟩) (3 + L.N) c29), (.slice (some ⟨mb, 0, none⟩) mn mn), x31, x32, (.slice (some ⟨b33, 0, none⟩) L.N c33), (.pointer (some ⟨ob, 0, none⟩)), (.pointer (some ⟨fnb, 0, none⟩)), (.func (.func 25) #[] #[.pointer (some ⟨xb, 0, none⟩), .pointer (some ⟨fnb, 0, none⟩)]), x37, x38, x39, x40, x41, x42, x43, (.slice (some ⟨wb, 0, none⟩) wn wn), (.slice (some ⟨db, 0, none⟩) dn dn), x46, x47, (.int .i64 k), (.pointer (some ⟨nb, 0, none⟩)), (.slice (some ⟨db, 128 * k, none⟩) (dn - 128 * k) (dn - 128 * k)), x51, (.int .u8 (L.kindOf k : Nat)), (I64 (L.startOf k)), (I64 (L.lenOf k)), x55, x56, x57, x58, x59, x60, x61, x62, x63, x64, x65, x66, x67, x68, x69, x70, x71, x72, x73, x74, x75, x76, x77, x78, x79, x80, x81, x82, x83, x84, x85, x86, x87, x88, x89, x90, x91, x92, x93, x94, x95, x96, x97, x98, x99, x100, x101, x102, x103, x104, x105, x106, x107, x108, x109, x110, x111, x112, x113, x114, x115, x116, x117, x118, x119, x120, x121, x122, x123, x124, x125, x126, x127, x128, x129, x130, x131, x132, x133, x134, x135, x136, x137, x138, x139, x140, x141, x142, x143, x144, x145, x146, x147, x148, x149, x150, x151, x152, x153, x154, x155, x156, x157, x158, x159, x160, x161, x162, x163, x164, x165, x166, x167, x168, x169, x170, x171, x172, x173, x174, x175, x176, x177, x178, x179, x180, x181, x182, x183, x184, x185, x186, x187, x188, x189, x190, x191, x192, x193, x194, x195, x196, x197, x198, x199, x200, x201, x202, x203, x204, x205, x206, x207, x208, x209, x210, x211, x212, x213, x214, x215, x216, x217, x218, x219, x220, x221, x222, x223, x224, x225, x226, x227, x228, x229, x230, x231, x232, x233, x234, x235, x236, x237, x238, x239, x240, x241, x242, x243, x244, x245, x246, x247, x248, x249, x250, x251, x252, x253, x254, x255, x256, x257, x258, x259, x260, x261, x262, x263, x264, x265, x266, x267, x268, x269, x270, x271, x272, x273, x274, x275, x276, x277, x278, x279, x280, x281, x282, x283, x284, x285, x286, x287, x288, x289, x290, x291, x292, x293, x294, x295, x296, x297, x298, x299, x300, x301, x302, x303, x304, x305, x306, x307, x308, x309, x310, x311, x312, x313, x314, x315, x316, x317, x318, x319, x320, x321, x322, x323, x324, x325, x326, x327, x328, x329, x330, x331, x332, x333, x334, x335, x336, x337, x338, x339, x340, x341, x342, x343, x344, x345, x346, x347, x348, x349, x350, x351, x352, x353, x354, x355, x356, x357, x358, (.slice (some ⟨lb, 0, none⟩) L.N lcap), (.int .i64 L.N), (.int .i64 k), x362, x363, x364, x365, x366, x367, x368, x369, x370, x371, x372, x373, x374, x375, x376, x377, x378, x379, x380, x381, x382, x383, x384, x385, x386, x387, x388, x389, x390, x391, x392, x393, x394, x395, x396, x397, x398, x399, x400, x401, x402, x403, x404, x405, x406, x407, x408, x409, x410, x411, x412, x413, x414, x415, x416, x417, x418, x419, x420, x421, x422, x423, x424, x425, x426, x427, x428, x429, x430, x431, x432, x433, x434, x435, x436, x437, x438, x439, x440, x441, x442, x443, x444, x445, x446, x447, x448, x449, x450, x451, x452, x453, x454, x455, x456, x457, x458, x459, x460, x461, x462, x463, x464, x465, x466, x467, x468, x469, x470, x471, x472, x473, x474, x475, x476, x477, x478, x479, x480, x481, x482, x483, x484, x485, x486, x487, x488, x489, x490, x491, x492, x493, x494, x495, x496, x497, x498, x499, x500, x501, x502, x503, x504, x505, x506, x507, x508, x509, x510, x511, x512, x513], []⟩ w := by
  conv => arg 2; whnf
  conv => arg 4; dsimp only
  have hL := S.E.hL
  have hdq1 := S.dn1
  have hdq2 := S.dn2
  have hne3 := S.ne3
  have hne1 := S.ne1
  have hndb : nb ≠ db := blk_ne hnb hD (by decide)
  have hcr := hL.cr k hk
  have hmd := hL.md k hk
  obtain ⟨lk1, lk2, lk3⟩ := hL.lks k hk
  have HI := Lib.hid hI
  have HWK := Lib.hid hWK
  have HL := Lib.hid hL
  clear hI hWK hL
  obtain ⟨eA, heA⟩ : ∃ eA, eA = entA L k := ⟨_, rfl⟩
  rw [← heA] at hD
  have HEA := Lib.hid heA
  clear heA
  have hkd : ∃ kd : Nat, kd = L.kindOf k ∧ kd < 256 := ⟨_, rfl, by unfold Lay.kindOf; split <;> (try split) <;> omega⟩
  obtain ⟨kd, hkd1, hkd2⟩ := hkd
  go_upto_region 129 with (fail)
  go_cut [] from 446 to 450 (fun w1 => Fr [db] w w1 ∧ Bts w1 db dn (at128 (dirK L k) k (upd (upd eA 66 1 (L.kindOf k)) 67 1 1)))
  case first =>
    rw [← hkd1]
    have c66 : w.cell? ⟨db, 128 * k + 66, none⟩ = some (U8 (at128 (dirK L k) k eA (128 * k + 66))) := (Blk.cell hD _).trans (tab_get _ _ _ (by omega))
    have c67 : w.cell? ⟨db, 128 * k + 67, none⟩ = some (U8 (at128 (dirK L k) k eA (128 * k + 67))) := (Blk.cell hD _).trans (tab_get _ _ _ (by omega))
    have z66 := Blk.frozen hD (128 * k + 66)
    have z67 := Blk.frozen hD (128 * k + 67)
    have hB1 : Bts (w.setCell ⟨db, 128 * k + 66, none⟩ (.int .u8 (kd : Nat))) db dn (upd (at128 (dirK L k) k eA) (128 * k + 66) 1 kd) :=
      Bts.put (128 * k + 66) 0 kd (hD.congr (fun x _ => (upd_out _ _ _ _ _ (by omega)).symm)) _ (by
        show _ = U8 (UInt8.ofNat (kd / 256 ^ 0))
        rw [Nat.pow_zero, Nat.div_one]
        show Value.int .u8 (kd : Int) = Value.int .u8 ((UInt8.ofNat kd).toNat : Int)
        rw [UInt8.toNat_ofNat', Nat.mod_eq_of_lt hkd2])
    have hB2 : Bts ((w.setCell ⟨db, 128 * k + 66, none⟩ (.int .u8 (kd : Nat))).setCell ⟨db, 128 * k + 67, none⟩ (.int .u8 1)) db dn (upd (upd (at128 (dirK L k) k eA) (128 * k + 66) 1 kd) (128 * k + 67) 1 1) :=
      Bts.put (128 * k + 67) 0 1 (hB1.congr (fun x _ => (upd_out _ _ _ _ _ (by omega)).symm)) _ rfl
    rw [at128_upd _ _ _ _ _ _ (by omega), at128_upd _ _ _ _ _ _ (by omega)] at hB2
    have HB2 := Lib.hid hB2
    clear hB1 hB2
    go_wp2_with fail
    go_meet
    case rel =>
      have h9 := HB2.out
      rw [hkd1] at h9
      exact ⟨((Fr.refl _ _).setCell (.inl (by simp)) _).setCell (.inl (by simp)) _, h9⟩
  case rest =>
  clear hkd1
  obtain ⟨hf, hD1⟩ := hcut
  have hfr := hfr.trans hf (by simp)
  have hnb := hnb.fr hf (by simpa using hndb)
  have hO := hO.frB hf hD (by omega)
  have hW : Bts wc wb wn W := Blk.fr hW hf (by simpa using S.ne1)
  have hD := hD1
  clear hf hD1
  have k3 : wc.cell? ⟨nb, 3, none⟩ = some (.int .i64 (L.nd k).left) := hnb.cell 3
  have k4 : wc.cell? ⟨nb, 4, none⟩ = some (.int .i64 (L.nd k).right) := hnb.cell 4
  have k5 : wc.cell? ⟨nb, 5, none⟩ = some (.int .i64 (L.nd k).child) := hnb.cell 5
  go_upto_block 33 with (fail)
  go_cut [] from 451 to 459 (fun w1 => Fr [db] wc w1 ∧ Bts w1 db dn (at128 (dirK L k) k (linkK (L.nd k) (upd (upd eA 66 1 (L.kindOf k)) 67 1 1) 3)))
  case first =>
    have hsb := Blk.new' wc 3 #[.int .i64 (L.nd k).left, .int .i64 (L.nd k).right, .int .i64 (L.nd k).child]
    have hfa : Fr [] wc (wc.alloc (Obj.cells #[.int .i64 (L.nd k).left, .int .i64 (L.nd k).right, .int .i64 (L.nd k).child] 3)) := (Fr.refl _ _).alloc _
    have hDa : Bts (wc.alloc (Obj.cells #[.int .i64 (L.nd k).left, .int .i64 (L.nd k).right, .int .i64 (L.nd k).child] 3)) db dn (at128 (dirK L k) k (upd (upd eA 66 1 (L.kindOf k)) 67 1 1)) := Blk.fr0 hD hfa
    have hlks : ∀ j, j < 3 → (#[Value.int .i64 (L.nd k).left, .int .i64 (L.nd k).right, .int .i64 (L.nd k).child].toList)[j]? = some (.int .i64 (lkOf (L.nd k) j)) ∧ -1 ≤ lkOf (L.nd k) j ∧ lkOf (L.nd k) j < 20 := by
      intro j hj
      have : j = 0 ∨ j = 1 ∨ j = 2 := by omega
      rcases this with rfl | rfl | rfl
      · exact ⟨rfl, lk1⟩
      · exact ⟨rfl, lk2⟩
      · exact ⟨rfl, lk3⟩
    have HLK := Lib.hid hlks
    have HSB := Lib.hid hsb
    have HFA := Lib.hid hfa
    clear hlks k3 k4 k5 hsb hfa lk1 lk2 lk3
    generalize hX : L.nd k = X at *
    generalize hlb : wc.heap.size = sb at *
    have hsd : sb ≠ db := by have : db < wc.heap.size := hD.lt; omega
    go_wp2_with fail
    go_loopw [459] (fun s459 wr => ∃ j : Nat, j ≤ 3 ∧ s459 = .int .i64 j ∧ Fr [db] (wc.alloc (Obj.cells #[.int .i64 X.left, .int .i64 X.right, .int .i64 X.child] 3)) wr ∧ Bts wr db dn (at128 (dirK L k) k (linkK X (upd (upd eA 66 1 (L.kindOf k)) 67 1 1) j))) (fun s459 _ => 3 - (intOf s459).toNat)
    case atStart => exact ⟨0, by omega, rfl, Fr.refl _ _, hDa⟩
    case round =>
      obtain ⟨j, hj, rfl, hf, hB⟩ := hrel
      by_cases hlj : j < 3
      · have hljI : (j : Int) < 3 := by omega
        obtain ⟨hl1, hl2, hl3⟩ := HLK.out j hlj
        have cj : wr.cell? ⟨sb, j, none⟩ = some (.int .i64 (lkOf X j)) := hf.cell (by simpa using hsd) ((HSB.out.cell j).trans hl1)
        have hlkk : linkK X (upd (upd eA 66 1 (L.kindOf k)) 67 1 1) (j + 1) = linkE (linkK X (upd (upd eA 66 1 (L.kindOf k)) 67 1 1) j) (68 + 4 * j) (lkOf X j) := rfl
        have HLKK := Lib.hid hlkk
        clear hlkk hl1
        generalize lkOf X j = v at *
        by_cases h0 : 0 ≤ v
        · have hvn : v = ((v.toNat : Nat) : Int) := by omega
          have HVN := Lib.hid hvn
          clear hvn
          go_wp2_with fail
          refine (put_c db (128 * k) (dn - 128 * k) (dn - 128 * k) (68 + 4 * j) v.toNat 4 dn _ _ _ (by omega) (by omega) (by omega) _ _ hB (by omega) (by omega) (by omega) (by omega)).mono ?_
          rintro e w3 ⟨rfl, hf3, hB3⟩
          rw [at128_upd _ _ _ _ _ _ (by omega)] at hB3
          go_wp2_with fail
          go_roundw
          case rel => exact ⟨j + 1, by omega, by go_num, hf.trans_same hf3, by rw [HLKK.out]; unfold linkE; rw [if_pos h0]; exact hB3⟩
          case measure => simp [intOf]; omega
        · go_wp2_with fail
          go_roundw
          case rel => exact ⟨j + 1, by omega, by go_num, hf, by rw [HLKK.out]; unfold linkE; rw [if_neg h0]; exact hB⟩
          case measure => simp [intOf]; omega
      · obtain rfl : j = 3 := by omega
        go_wp2_with fail
        go_meet
        case rel => exact ⟨(HFA.out.mono (by simp)).trans_same hf, hB⟩
  case rest =>
  clear k3 k4 k5
  obtain ⟨hf, hD1⟩ := hcut
  have hfr := hfr.trans hf (by simp)
  have hnb := hnb.fr hf (by simpa using hndb)
  have hO := hO.frB hf hD (by omega)
  have hW : Bts wc wb wn W := Blk.fr hW hf (by simpa using S.ne1)
  have hD := hD1
  clear hf hD1
  have he3 : linkK (L.nd k) (upd (upd eA 66 1 (L.kindOf k)) 67 1 1) 3 = linkE (linkE (linkE (upd (upd eA 66 1 (L.kindOf k)) 67 1 1) 68 (L.nd k).left) 72 (L.nd k).right) 76 (L.nd k).child := rfl
  rw [he3] at hD
  clear he3
  generalize hG : linkE (linkE (linkE (upd (upd eA 66 1 (L.kindOf k)) 67 1 1) 68 (L.nd k).left) 72 (L.nd k).right) 76 (L.nd k).child = G at *
  have HG := Lib.hid hG
  clear hG
  go_upto_region 136 with (fail)
  have s36 := slice36_all nb 6
  have s37 := slice37_all nb 22
  go_cut [] from 460 to 478 (fun w1 => Fr [db] wc w1 ∧ Bts w1 db dn (at128 (dirK L k) k (cpy G 80 16 (L.nd k).cls)))
  case first =>
    have hbd : Blk wc.drew db 5 (tab dn (fun i => U8 (at128 (dirK L k) k G i))) := hD
    have G1 := Lib.hid (show ∀ i, i < 16 → wc.drew.cell? ⟨nb, 6 + i, none⟩ = some (U8 ((L.nd k).cls i)) from fun i hi => (hnb.drew.cell _).trans (nd_cls _ _ i hi))
    have q1 : (80 : Int) ≤ ((dn - 128 * k : Nat) : Int) := by omega
    have q2 : ¬ dn - 128 * k = 80 := by omega
    go_still_tail 4, (by kernel_rfl)
    change wpList _ _ _ _ _ wc.drew
    go_wp2_with (with_reducible refine wpList_copy_blk rfl (.tmp 475) (.tmp 477) 23 23 rfl 5 Tryd.underlying23 (by kernel_rfl) _ _ _ _ _ _ rfl rfl db (128 * k + 80) (tab dn (fun i => U8 (at128 (dirK L k) k G i))) 5 hbd 16 (fun i => U8 ((L.nd k).cls i)) ?_ ?_ ?_ ?_ ?_)
    · omega
    · intro j hj
      exact G1.out j hj
    · first | omega | (rw [tab_length]; omega)
    · intro j _; rfl
    intro w2 hf2 hb2
    have hb3 := Bts.splice (by omega) hb2
    rw [at128_cpy _ _ _ _ _ _ (by omega)] at hb3
    go_wp2_with fail
    go_meet
    case rel => exact ⟨(Fr.refl _ _).drew.trans_same hf2, hb3⟩
  case rest =>
  obtain ⟨hf, hD1⟩ := hcut
  have hfr := hfr.trans hf (by simp)
  have hnb := hnb.fr hf (by simpa using hndb)
  have hO := hO.frB hf hD (by omega)
  have hW : Bts wc wb wn W := Blk.fr hW hf (by simpa using S.ne1)
  have hD := hD1
  clear hf hD1
  go_upto_region 137 with (fail)
  go_cut [] from 460 to 483 (fun w1 => Fr [db] wc w1 ∧ Bts w1 db dn (at128 (dirK L k) k (cpy (cpy G 80 16 (L.nd k).cls) 96 4 (L.nd k).sts)))
  case first =>
    generalize hG2 : cpy G 80 16 (L.nd k).cls = G2 at *
    have hbd : Blk wc.drew db 5 (tab dn (fun i => U8 (at128 (dirK L k) k G2 i))) := hD
    have G1 := Lib.hid (show ∀ i, i < 4 → wc.drew.cell? ⟨nb, 22 + i, none⟩ = some (U8 ((L.nd k).sts i)) from fun i hi => (hnb.drew.cell _).trans (nd_sts _ _ i hi))
    have q1 : (96 : Int) ≤ ((dn - 128 * k : Nat) : Int) := by omega
    have q2 : ¬ dn - 128 * k = 96 := by omega
    go_still_tail 4, (by kernel_rfl)
    change wpList _ _ _ _ _ wc.drew
    go_wp2_with (with_reducible refine wpList_copy_blk rfl (.tmp 480) (.tmp 482) 23 23 rfl 5 Tryd.underlying23 (by kernel_rfl) _ _ _ _ _ _ rfl rfl db (128 * k + 96) (tab dn (fun i => U8 (at128 (dirK L k) k G2 i))) 5 hbd 4 (fun i => U8 ((L.nd k).sts i)) ?_ ?_ ?_ ?_ ?_)
    · omega
    · intro j hj
      exact G1.out j hj
    · first | omega | (rw [tab_length]; omega)
    · intro j _; rfl
    intro w2 hf2 hb2
    have hb3 := Bts.splice (by omega) hb2
    rw [at128_cpy _ _ _ _ _ _ (by omega)] at hb3
    go_wp2_with fail
    go_meet
    case rel => exact ⟨(Fr.refl _ _).drew.trans_same hf2, hb3⟩
  case rest =>
  clear s36 s37
  obtain ⟨hf, hD1⟩ := hcut
  have hfr := hfr.trans hf (by simp)
  have hnb := hnb.fr hf (by simpa using hndb)
  have hO := hO.frB hf hD (by omega)
  have hW : Bts wc wb wn W := Blk.fr hW hf (by simpa using S.ne1)
  have hD := hD1
  clear hf hD1
  have k8 : wc.cell? ⟨nb, 26, none⟩ = some (.int .u64 (L.nd k).cr) := hnb.cell 26
  have k9 : wc.cell? ⟨nb, 27, none⟩ = some (.int .u64 (L.nd k).md) := hnb.cell 27
  go_wp2_with fail
  refine (put_c db (128 * k) (dn - 128 * k) (dn - 128 * k) 100 (L.nd k).cr 8 dn _ _ _ (by omega) (by first | omega | exact u64w4 _ (by omega)) (by omega) _ _ hD (by omega) (by omega) (by omega) (by omega)).mono ?_
  rintro e w2 ⟨rfl, hf, hD1⟩
  rw [at128_upd _ _ _ _ _ _ (by omega)] at hD1
  have hfr := hfr.trans hf (by simp)
  have hnb := hnb.fr hf (by simpa using hndb)
  have hO := hO.frB hf hD (by omega)
  have hW : Bts w2 wb wn W := Blk.fr hW hf (by simpa using S.ne1)
  have hD := hD1
  have k8 : w2.cell? ⟨nb, 26, none⟩ = some (.int .u64 (L.nd k).cr) := hnb.cell 26
  have k9 : w2.cell? ⟨nb, 27, none⟩ = some (.int .u64 (L.nd k).md) := hnb.cell 27
  clear hf hD1
  go_wp2_with fail
  refine (put_c db (128 * k) (dn - 128 * k) (dn - 128 * k) 108 (L.nd k).md 8 dn _ _ _ (by omega) (by first | omega | exact u64w4 _ (by omega)) (by omega) _ _ hD (by omega) (by omega) (by omega) (by omega)).mono ?_
  rintro e w3 ⟨rfl, hf, hD1⟩
  rw [at128_upd _ _ _ _ _ _ (by omega)] at hD1
  have hfr := hfr.trans hf (by simp)
  have hnb := hnb.fr hf (by simpa using hndb)
  have hO := hO.frB hf hD (by omega)
  have hW : Bts w3 wb wn W := Blk.fr hW hf (by simpa using S.ne1)
  have hD := hD1
  have k8 : w3.cell? ⟨nb, 26, none⟩ = some (.int .u64 (L.nd k).cr) := hnb.cell 26
  have k9 : w3.cell? ⟨nb, 27, none⟩ = some (.int .u64 (L.nd k).md) := hnb.cell 27
  clear hf hD1
  go_wp2_with fail
  refine (put_c db (128 * k) (dn - 128 * k) (dn - 128 * k) 116 (L.startOf k) 4 dn _ _ _ (by omega) (by first | omega | exact u64w4 _ (by omega)) (by omega) _ _ hD (by omega) (by omega) (by omega) (by omega)).mono ?_
  rintro e w4 ⟨rfl, hf, hD1⟩
  rw [at128_upd _ _ _ _ _ _ (by omega)] at hD1
  have hfr := hfr.trans hf (by simp)
  have hnb := hnb.fr hf (by simpa using hndb)
  have hO := hO.frB hf hD (by omega)
  have hW : Bts w4 wb wn W := Blk.fr hW hf (by simpa using S.ne1)
  have hD := hD1
  have k8 : w4.cell? ⟨nb, 26, none⟩ = some (.int .u64 (L.nd k).cr) := hnb.cell 26
  have k9 : w4.cell? ⟨nb, 27, none⟩ = some (.int .u64 (L.nd k).md) := hnb.cell 27
  clear hf hD1
  go_wp2_with fail
  refine (put_c db (128 * k) (dn - 128 * k) (dn - 128 * k) 120 (L.lenOf k) 8 dn _ _ _ (by omega) (by first | omega | exact u64w4 _ (by omega)) (by omega) _ _ hD (by omega) (by omega) (by omega) (by omega)).mono ?_
  rintro e w5 ⟨rfl, hf, hD1⟩
  rw [at128_upd _ _ _ _ _ _ (by omega)] at hD1
  have hfr := hfr.trans hf (by simp)
  have hnb := hnb.fr hf (by simpa using hndb)
  have hO := hO.frB hf hD (by omega)
  have hW : Bts w5 wb wn W := Blk.fr hW hf (by simpa using S.ne1)
  have hD := hD1
  have k8 : w5.cell? ⟨nb, 26, none⟩ = some (.int .u64 (L.nd k).cr) := hnb.cell 26
  have k9 : w5.cell? ⟨nb, 27, none⟩ = some (.int .u64 (L.nd k).md) := hnb.cell 27
  clear hf hD1
  have hent : at128 (dirK L k) k (upd (upd (upd (upd (cpy (cpy G 80 16 (L.nd k).cls) 96 4 (L.nd k).sts) 100 8 (L.nd k).cr) 108 8 (L.nd k).md) 116 4 (L.startOf k)) 120 8 (L.lenOf k)) = at128 (dirK L k) k (L.entF k) := by
    rw [← HG.out, HEA.out]
    rfl
  rw [hent] at hD
  clear hent k8 k9
  have hD6 : Bts w5 db dn (dirK L (k + 1)) := hD.congr (fun y _ => dirK_shut L k y)
  have hfin : NLoop L zb xb ob outb fnb wb db wn dn mn (k + 1) fat mfat wA w5 := ⟨hfr, ⟨F, hO, HI.out⟩, ⟨W, hW, HWK.out⟩, hD6⟩
  have HFIN := Lib.hid hfin
  clear hfin hD6 hD hO hW
  go_wp2_with fail
  exact HFIN.out
end Go.Proofs.YtokpomdfgbbhlaaDoor

/- spec.Write: a node's kind, start and length; its bytes laid. -/
namespace Go.Proofs.YtokpomdfgbbhlaaDoor
open Go Go.RowKit

theorem startOf_lt (L : Lay) (hL : LayOK L) (k : Nat) (hk : k < L.N) : L.startOf k < 4294967296 ∧ L.lenOf k < 4294967296 := by
  have hm := hL.minis_le
  have hl := hL.len k hk
  refine ⟨?_, ?_⟩
  · unfold Lay.startOf
    split
    · exact start_lt L hL 2
    split
    · split
      · unfold Lay.mstart
        split
        · omega
        · by_cases h0 : L.minis = 0
          · have h1 := sumN_mono L.small (show k + 1 ≤ L.N by omega)
            rw [sumN] at h1
            unfold Lay.minis at h0
            omega
          · have := mixP_lt L.minis (L.step + 3) (L.mbase k) (by omega)
            unfold Lay.mpl
            omega
      · exact start_lt L hL _
    · omega
  · unfold Lay.lenOf
    split
    · omega
    split
    · omega
    · omega

/-- What the switch leaves. -/
def NSw (L : Lay) (zb xb ob outb fnb wb db wn mn k : Nat) (fat mfat : Nat → Nat) (w w1 : World) : Prop :=
  Fr [outb, wb] w w1 ∧ (∃ F, WOut w1 L zb xb ob outb fnb F ∧ Img L F (C2 L fat mfat mn (k + 1))) ∧ ∃ W, Bts w1 wb wn W ∧ WholeK L (k + 1) W

set_option maxRecDepth 100000 in
set_option maxHeartbeats 8000000 in
theorem node_2 (x3 x4 x5 x6 x8 x9 x10 x11 x12 x13 x15 x16 x21 x22 x26 x27 x28 x31 x32 x37 x38 x39 x40 x41 x42 x43 x46 x47 x51 x55 x56 x57 x58 x59 x60 x61 x62 x63 x64 x65 x66 x67 x68 x69 x70 x71 x72 x73 x74 x75 x76 x77 x78 x79 x80 x81 x82 x83 x84 x85 x86 x87 x88 x89 x90 x91 x92 x93 x94 x95 x96 x97 x98 x99 x100 x101 x102 x103 x104 x105 x106 x107 x108 x109 x110 x111 x112 x113 x114 x115 x116 x117 x118 x119 x120 x121 x122 x123 x124 x125 x126 x127 x128 x129 x130 x131 x132 x133 x134 x135 x136 x137 x138 x139 x140 x141 x142 x143 x144 x145 x146 x147 x148 x149 x150 x151 x152 x153 x154 x155 x156 x157 x158 x159 x160 x161 x162 x163 x164 x165 x166 x167 x168 x169 x170 x171 x172 x173 x174 x175 x176 x177 x178 x179 x180 x181 x182 x183 x184 x185 x186 x187 x188 x189 x190 x191 x192 x193 x194 x195 x196 x197 x198 x199 x200 x201 x202 x203 x204 x205 x206 x207 x208 x209 x210 x211 x212 x213 x214 x215 x216 x217 x218 x219 x220 x221 x222 x223 x224 x225 x226 x227 x228 x229 x230 x231 x232 x233 x234 x235 x236 x237 x238 x239 x240 x241 x242 x243 x244 x245 x246 x247 x248 x249 x250 x251 x252 x253 x254 x255 x256 x257 x258 x259 x260 x261 x262 x263 x264 x265 x266 x267 x268 x269 x270 x271 x272 x273 x274 x275 x276 x277 x278 x279 x280 x281 x282 x283 x284 x285 x286 x287 x288 x289 x290 x291 x292 x293 x294 x295 x296 x297 x298 x299 x300 x301 x302 x303 x304 x305 x306 x307 x308 x309 x310 x311 x312 x313 x314 x315 x316 x317 x318 x319 x320 x321 x322 x323 x324 x325 x326 x327 x328 x329 x330 x331 x332 x333 x334 x335 x336 x337 x338 x339 x340 x341 x342 x343 x344 x345 x346 x347 x348 x349 x350 x351 x352 x353 x354 x355 x356 x357 x358 x362 x363 x364 x365 x366 x367 x368 x369 x370 x371 x372 x373 x374 x375 x376 x377 x378 x379 x380 x381 x382 x383 x384 x385 x386 x387 x388 x389 x390 x391 x392 x393 x394 x395 x396 x397 x398 x399 x400 x401 x402 x403 x404 x405 x406 x407 x408 x409 x410 x411 x412 x413 x414 x415 x416 x417 x418 x419 x420 x421 x422 x423 x424 x425 x426 x427 x428 x429 x430 x431 x432 x433 x434 x435 x436 x437 x438 x439 x440 x441 x442 x443 x444 x445 x446 x447 x448 x449 x450 x451 x452 x453 x454 x455 x456 x457 x458 x459 x460 x461 x462 x463 x464 x465 x466 x467 x468 x469 x470 x471 x472 x473 x474 x475 x476 x477 x478 x479 x480 x481 x482 x483 x484 x485 x486 x487 x488 x489 x490 x491 x492 x493 x494 x495 x496 x497 x498 x499 x500 x501 x502 x503 x504 x505 x506 x507 x508 x509 x510 x511 x512 x513 : Value) (L : Lay) (lb lcap zb xb fb fn mb mn pb pc b19 c19 b29 c29 b33 c33 ob outb fnb wb db wn dn : Nat) (dv : Nat → Value) (fat mfat : Nat → Nat) (w0 wA w : World) (k : Nat) (S : NStat L lb lcap zb xb fb fn mb mn pb pc b19 c19 b29 c29 b33 c33 ob outb fnb wb db wn dn dv fat mfat w0 wA) (hw0 : w0.heap.size ≤ wb) (hd0 : w0.heap.size ≤ db) (hk : k < L.N) (Q : Exit → Act → World → Prop) (hQ : ∀ (y48 y49 y50 y51 y52 y53 y54 y55 y56 y57 y58 y363 y364 y365 y366 y367 y368 y369 y370 y371 y372 y373 y374 y375 y376 y377 y378 y379 y380 y381 y382 y383 y384 y385 y386 y387 y388 y389 y390 y391 y392 y393 y394 y395 y396 y397 y398 y399 y400 y401 y402 y403 y404 y405 y406 y407 y408 y409 y410 y411 y412 y413 y414 y415 y416 y417 y418 y419 y420 y421 y422 y423 y424 y425 y426 y427 y428 y429 y430 y431 y432 y433 y434 y435 y436 y437 y438 y439 y440 y441 y442 y443 y444 y445 y446 y447 y448 y449 y450 y451 y452 y453 y454 y455 y456 y457 y458 y459 y460 y461 y462 y463 y464 y465 y466 y467 y468 y469 y470 y471 y472 y473 y474 y475 y476 y477 y478 y479 y480 y481 y482 y483 y484 y485 y486 y487 y488 y489 y490 y491 y492 y493 y494 y495 y496 y497 y498 y499 : Value) (w' : World), NLoop L zb xb ob outb fnb wb db wn dn mn (k + 1) fat mfat wA w' → Q Exit.normal ⟨#[(.slice (some ⟨lb, 0, none⟩) L.N lcap), (.int .i64 L.ver), (.int .i64 L.step), x3, x4, x5, x6, (.pointer (some ⟨zb, 0, none⟩)), x8, x9, x10, x11, x12, x13, (I64 L.minis), x15, x16, (.int .i64 L.per), (.int .i64 (L.cnt 0)), (.slice (some ⟨b19, 0, none⟩) (3 + L.N) c19), (I64 L.sum), x21, x22, (I64 L.fats), (.slice (some ⟨pb, 0, none⟩) L.tot pc), (.pointer (some ⟨xb, 0, none⟩)), x26, x27, x28, (.slice (some ⟨b29, 0, none⟩) (3 + L.N) c29), (.slice (some ⟨mb, 0, none⟩) mn mn), x31, x32, (.slice (some ⟨b33, 0, none⟩) L.N c33), (.pointer (some ⟨ob, 0, none⟩)), (.pointer (some ⟨fnb, 0, none⟩)), (.func (.func 25) #[] #[.pointer (some ⟨xb, 0, none⟩), .pointer (some ⟨fnb, 0, none⟩)]), x37, x38, x39, x40, x41, x42, x43, (.slice (some ⟨wb, 0, none⟩) wn wn), (.slice (some ⟨db, 0, none⟩) dn dn), x46, x47, y48, y49, y50, y51, y52, y53, y54, y55, y56, y57, y58, x59, x60, x61, x62, x63, x64, x65, x66, x67, x68, x69, x70, x71, x72, x73, x74, x75, x76, x77, x78, x79, x80, x81, x82, x83, x84, x85, x86, x87, x88, x89, x90, x91, x92, x93, x94, x95, x96, x97, x98, x99, x100, x101, x102, x103, x104, x105, x106, x107, x108, x109, x110, x111, x112, x113, x114, x115, x116, x117, x118, x119, x120, x121, x122, x123, x124, x125, x126, x127, x128, x129, x130, x131, x132, x133, x134, x135, x136, x137, x138, x139, x140, x141, x142, x143, x144, x145, x146, x147, x148, x149, x150, x151, x152, x153, x154, x155, x156, x157, x158, x159, x160, x161, x162, x163, x164, x165, x166, x167, x168, x169, x170, x171, x172, x173, x174, x175, x176, x177, x178, x179, x180, x181, x182, x183, x184, x185, x186, x187, x188, x189, x190, x191, x192, x193, x194, x195, x196, x197, x198, x199, x200, x201, x202, x203, x204, x205, x206, x207, x208, x209, x210, x211, x212, x213, x214, x215, x216, x217, x218, x219, x220, x221, x222, x223, x224, x225, x226, x227, x228, x229, x230, x231, x232, x233, x234, x235, x236, x237, x238, x239, x240, x241, x242, x243, x244, x245, x246, x247, x248, x249, x250, x251, x252, x253, x254, x255, x256, x257, x258, x259, x260, x261, x262, x263, x264, x265, x266, x267, x268, x269, x270, x271, x272, x273, x274, x275, x276, x277, x278, x279, x280, x281, x282, x283, x284, x285, x286, x287, x288, x289, x290, x291, x292, x293, x294, x295, x296, x297, x298, x299, x300, x301, x302, x303, x304, x305, x306, x307, x308, x309, x310, x311, x312, x313, x314, x315, x316, x317, x318, x319, x320, x321, x322, x323, x324, x325, x326, x327, x328, x329, x330, x331, x332, x333, x334, x335, x336, x337, x338, x339, x340, x341, x342, x343, x344, x345, x346, x347, x348, x349, x350, x351, x352, x353, x354, x355, x356, x357, x358, (.slice (some ⟨lb, 0, none⟩) L.N lcap), (.int .i64 L.N), (.int .i64 k), x362, y363, y364, y365, y366, y367, y368, y369, y370, y371, y372, y373, y374, y375, y376, y377, y378, y379, y380, y381, y382, y383, y384, y385, y386, y387, y388, y389, y390, y391, y392, y393, y394, y395, y396, y397, y398, y399, y400, y401, y402, y403, y404, y405, y406, y407, y408, y409, y410, y411, y412, y413, y414, y415, y416, y417, y418, y419, y420, y421, y422, y423, y424, y425, y426, y427, y428, y429, y430, y431, y432, y433, y434, y435, y436, y437, y438, y439, y440, y441, y442, y443, y444, y445, y446, y447, y448, y449, y450, y451, y452, y453, y454, y455, y456, y457, y458, y459, y460, y461, y462, y463, y464, y465, y466, y467, y468, y469, y470, y471, y472, y473, y474, y475, y476, y477, y478, y479, y480, y481, y482, y483, y484, y485, y486, y487, y488, y489, y490, y491, y492, y493, y494, y495, y496, y497, y498, y499, x500, x501, x502, x503, x504, x505, x506, x507, x508, x509, x510, x511, x512, x513], []⟩ w') (nb : Nat) (hfr : Fr [outb, wb, db] wA w) (hnbA : wA.heap.size ≤ nb) (hnb : Blk w nb 42 (ndCells (L.nd k) (dv k))) (F W : Nat → UInt8) (hO : WOut w L zb xb ob outb fnb F) (hI : Img L F (C2 L fat mfat mn k)) (hW : Bts w wb wn W) (hWK : WholeK L k W) (hD : Bts w db dn (at128 (dirK L k) k (entA L k))) :
    Code.wp Tryd.prog c27b Q ⟨#[(.slice (some ⟨lb, 0, none⟩) L.N lcap), (.int .i64 L.ver), (.int .i64 L.step), x3, x4, x5, x6, (.pointer (some ⟨zb, 0, none⟩)), x8, x9, x10, x11, x12, x13, (I64 L.minis), x15, x16, (.int .i64 L.per), (.int .i64 (L.cnt 0)), (.slice (some ⟨b19, 0, none⟩) (3 + L.N) c19), (I64 L.sum), x21, x22, (I64 L.fats), (.slice (some ⟨pb, 0, none⟩) L.tot pc), (.pointer (some ⟨xb, 0, none⟩)), x26, x27, x28, (.slice (some ⟨b29, 0, none⟩) (3 + L.N) c29), (.slice (some ⟨mb, 0, none⟩) mn mn), x31, x32, (.slice (some ⟨b33, 0, none⟩) L.N c33), (.pointer (some ⟨ob, 0, none⟩)), (.pointer (some ⟨fnb, 0, none⟩)), (.func (.func 25) #[] #[.pointer (some ⟨xb, 0, none⟩), .pointer (some ⟨fnb, 0, none⟩)]), x37, x38, x39, x40, x41, x42, x43, (.slice (some ⟨wb, 0, none⟩) wn wn), (.slice (some ⟨db, 0, none⟩) dn dn), x46, x47, (.int .i64 k), (.pointer (some ⟨nb, 0, none⟩)), (.slice (some ⟨db, 128 * k, none⟩) (dn - 128 * k) (dn - 128 * k)), x51, (.int .u8 1), (.int .i64 0), (.int .i64 (L.nd k).len), x55, x56, x57, x58, x59, x60, x61, x62, x63, x64, x65, x66, x67, x68, x69, x70, x71, x72, x73, x74, x75, x76, x77, x78, x79, x80, x81, x82, x83, x84, x85, x86, x87, x88, x89, x90, x91, x92, x93, x94, x95, x96, x97, x98, x99, x100, x101, x102, x103, x104, x105, x106, x107, x108, x109, x110, x111, x112, x113, x114, x115, x116, x117, x118, x119, x120, x121, x122, x123, x124, x125, x126, x127, x128, x129, x130, x131, x132, x133, x134, x135, x136, x137, x138, x139, x140, x141, x142, x143, x144, x145, x146, x147, x148, x149, x150, x151, x152, x153, x154, x155, x156, x157, x158, x159, x160, x161, x162, x163, x164, x165, x166, x167, x168, x169, x170, x171, x172, x173, x174, x175, x176, x177, x178, x179, x180, x181, x182, x183, x184, x185, x186, x187, x188, x189, x190, x191, x192, x193, x194, x195, x196, x197, x198, x199, x200, x201, x202, x203, x204, x205, x206, x207, x208, x209, x210, x211, x212, x213, x214, x215, x216, x217, x218, x219, x220, x221, x222, x223, x224, x225, x226, x227, x228, x229, x230, x231, x232, x233, x234, x235, x236, x237, x238, x239, x240, x241, x242, x243, x244, x245, x246, x247, x248, x249, x250, x251, x252, x253, x254, x255, x256, x257, x258, x259, x260, x261, x262, x263, x264, x265, x266, x267, x268, x269, x270, x271, x272, x273, x274, x275, x276, x277, x278, x279, x280, x281, x282, x283, x284, x285, x286, x287, x288, x289, x290, x291, x292, x293, x294, x295, x296, x297, x298, x299, x300, x301, x302, x303, x304, x305, x306, x307, x308, x309, x310, x311, x312, x313, x314, x315, x316, x317, x318, x319, x320, x321, x322, x323, x324, x325, x326, x327, x328, x329, x330, x331, x332, x333, x334, x335, x336, x337, x338, x339, x340, x341, x342, x343, x344, x345, x346, x347, x348, x349, x350, x351, x352, x353, x354, x355, x356, x357, x358, (.slice (some ⟨lb, 0, none⟩) L.N lcap), (.int .i64 L.N), (.int .i64 k), x362, x363, x364, x365, x366, x367, x368, x369, x370, x371, x372, x373, x374, x375, x376, x377, x378, x379, x380, x381, x382, x383, x384, x385, x386, x387, x388, x389, x390, x391, x392, x393, x394, x395, x396, x397, x398, x399, x400, x401, x402, x403, x404, x405, x406, x407, x408, x409, x410, x411, x412, x413, x414, x415, x416, x417, x418, x419, x420, x421, x422, x423, x424, x425, x426, x427, x428, x429, x430, x431, x432, x433, x434, x435, x436, x437, x438, x439, x440, x441, x442, x443, x444, x445, x446, x447, x448, x449, x450, x451, x452, x453, x454, x455, x456, x457, x458, x459, x460, x461, x462, x463, x464, x465, x466, x467, x468, x469, x470, x471, x472, x473, x474, x475, x476, x477, x478, x479, x480, x481, x482, x483, x484, x485, x486, x487, x488, x489, x490, x491, x492, x493, x494, x495, x496, x497, x498, x499, x500, x501, x502, x503, x504, x505, x506, x507, x508, x509, x510, x511, x512, x513], []⟩ w := by
  conv => arg 2; whnf
  conv => arg 4; dsimp only
  have hL := S.E.hL
  have hn1 := hL.n1
  have hn2 := hL.n2
  have hne1 := S.ne1
  have hne2 := S.ne2
  have hne3 := S.ne3
  have hml := hL.minis_le
  have hlen := hL.len k hk
  have hT : WTab w L zb xb fb fn mb mn pb b19 b29 b33 fat mfat := S.tab hfr
  have HL := Lib.hid hL
  obtain ⟨da, dcap, hdv, hd1, hd2, hd3⟩ := S.E.nd.dat k hk
  have hob0 := S.E.ob_
  have hbb : ∃ bb bo, (0 < (L.nd k).len → da = some ⟨bb, bo, none⟩) ∧ (∀ i, i < (L.nd k).len → w.cell? ⟨bb, bo + i, none⟩ = some (U8 ((L.nd k).dat i))) ∧ bb ≠ outb ∧ bb ≠ wb ∧ bb ≠ db := by
    by_cases h0 : 0 < (L.nd k).len
    · obtain ⟨b, o, e, l, hb, hl⟩ := hd3 h0
      have hbl := hb.lt
      have hb' := (hb.fr0 S.hF0).fr hfr (by simp only [List.mem_cons, List.not_mem_nil, or_false, not_or]; omega)
      exact ⟨b, o, fun _ => e, fun i hi => (hb'.cell _).trans (hl i hi), by omega, by omega, by omega⟩
    · exact ⟨nb, 0, fun h => absurd h h0, fun i hi => by omega, blk_ne hnb hO.out (by decide), blk_ne hnb hW (by decide), blk_ne hnb hD (by decide)⟩
  obtain ⟨bb, bo, hba, hbc, bn1, bn2, bn3⟩ := hbb
  have HBA := Lib.hid hba
  have HBC := Lib.hid hbc
  have k1 : w.cell? ⟨nb, 1, none⟩ = some (.bool (L.nd k).stream) := hnb.cell 1
  have k2 : w.cell? ⟨nb, 2, none⟩ = some (.slice da (L.nd k).len dcap) := (hnb.cell 2).trans (by rw [hdv]; rfl)
  have HDV := Lib.hid hdv
  clear hL hba hbc hd3 hdv
  have HI := Lib.hid hI
  have HWK := Lib.hid hWK
  clear hI hWK
  have hn4 : (2 : Int) < 3 + (L.N : Int) := by omega
  go_upto_block 30 with (fail)
  go_cut [52, 53, 54] from 394 to 397 (fun s52 s53 s54 w1 => s52 = .int .u8 (L.kindOf k : Nat) ∧ s53 = I64 (L.startOf k) ∧ s54 = I64 (L.lenOf k) ∧ NSw L zb xb ob outb fnb wb db wn mn k fat mfat w w1)
  case first =>
    by_cases hk0 : k = 0
    · --BEGIN root
      have hkI : ((k : Int) == 0) = true := by simp [hk0]
      have hkind : L.kindOf k = 5 := by unfold Lay.kindOf; rw [if_pos hk0]
      have hsto : L.startOf k = L.start 2 := by unfold Lay.startOf; rw [if_pos hk0]
      have hleo : L.lenOf k = 64 * L.minis := by unfold Lay.lenOf; rw [if_pos hk0]
      have hns : (L.nd k).stream = false := by rw [hk0]; exact HL.out.root
      have hs0 : L.small k = 0 := by unfold Lay.small; rw [hns]; simp
      have hc2 : C2 L fat mfat mn (k + 1) = C2 L fat mfat mn k := by rw [C2, hns]; simp
      have hsw : NSw L zb xb ob outb fnb wb db wn mn k fat mfat w w := ⟨Fr.refl _ _, ⟨F, hO, by rw [hc2]; exact HI.out⟩, ⟨W, hW, HWK.out.skip hs0⟩⟩
      have HSW := Lib.hid hsw
      have HK := Lib.hid hkind
      have HS := Lib.hid hsto
      have HLE := Lib.hid hleo
      have cs2 := hT.stc 2 (by omega)
      have HK0 := Lib.hid hk0
      clear hsw hkind hsto hleo hns hs0 hc2 k1 k2 hk0
      go_upto_region 117 with (fail)
      go_quiet (fail)
      go_wp2_with fail
      go_meet
      case rel =>
        refine ⟨by rw [HK.out]; rfl, by rw [HS.out], by rw [HLE.out]; rfl, ?_⟩
        obtain ⟨a1, ⟨F2, a2, a3⟩, ⟨W2, a4, a5⟩⟩ := HSW.out
        exact ⟨a1.drewN _, ⟨F2, a2.fr0 ((Fr.refl [] w).drewN _), a3⟩, ⟨W2, a4, a5⟩⟩
    · have hkI : ((k : Int) == 0) = false := by simp; omega
      by_cases hst : (L.nd k).stream = true
      · by_cases hsm : (L.nd k).len < 4096
        · --BEGIN small
          have hkind : L.kindOf k = 2 := by unfold Lay.kindOf; rw [if_neg hk0, if_pos hst]
          have hsto : L.startOf k = L.mstart k := by unfold Lay.startOf; rw [if_neg hk0, if_pos hst, if_pos hsm]
          have hleo : L.lenOf k = (L.nd k).len := by unfold Lay.lenOf; rw [if_neg hk0, if_pos hst]
          have hs0 : L.small k = partsN (L.nd k).len 64 := by unfold Lay.small; rw [if_pos ⟨hst, hsm⟩]
          have hc2 : C2 L fat mfat mn (k + 1) = C2 L fat mfat mn k := by rw [C2, if_neg (fun h => h.2 hsm)]
          have hmp : ∀ i, i < L.small k → L.mpl (L.mbase k + i) < L.minis := fun i hi => mixP_lt _ _ _ (by have := mbase_lt L hk hi; omega)
          have hmf : ∀ i, i < L.small k → mfat (L.mpl (L.mbase k + i)) = if i + 1 = L.small k then 4294967294 else L.mpl (L.mbase k + i + 1) := fun i hi => S.E.mo.chain k i hk hi
          have hms : 0 < L.small k → L.mstart k = L.mpl (L.mbase k + 0) := fun h => by unfold Lay.mstart; rw [if_neg (by omega)]; rfl
          have hmmn : L.minis ≤ mn := by
            rw [S.E.mn_]
            have e : L.cnt 1 = partsN L.minis L.per := rfl
            rw [e]
            exact le_partsN _ _ (by rcases L.per_or with ⟨_, h⟩ | ⟨_, h⟩ <;> omega)
          have hmsl : L.mstart k < 4294967296 := by have := (startOf_lt L HL.out k hk).1; rw [hsto] at this; exact this
          rw [hst] at k1
          have HK := Lib.hid hkind
          have HS := Lib.hid hsto
          have HLE := Lib.hid hleo
          have HC2 := Lib.hid hc2
          have HS0 := Lib.hid hs0
          have HMP := Lib.hid hmp
          have HMF := Lib.hid hmf
          have HMS := Lib.hid hms
          have HML := Lib.hid (fun p (hp : p < mn) => S.E.ml p hp)
          have cs1 := hT.stc (3 + k) (by omega)
          have cs2 := hT.msc k hk
          have hkI3 : 3 + (k : Int) < 3 + (L.N : Int) := by omega
          have hkI4 : (k : Int) < (L.N : Int) := by omega
          have hlenI : ((L.nd k).len : Int) < 4096 := by omega
          have hwn : 64 * L.minis ≤ wn ∧ wn ≤ 64 * L.minis := by have := S.wn_; omega
          clear hkind hsto hleo hs0 hc2 hmp hmf hms hst
          generalize hlen2 : (L.nd k).len = len at *
          have HLEN := Lib.hid hlen2
          clear hlen2
          go_wp2_with fail
          go_loopw [55, 56] (fun s55 s56 wr => ∃ (i p : Nat) (a : Option Addr) (cp : Nat), i ≤ L.small k ∧ s56 = .int .i64 p ∧ p < 4294967296 ∧ (i < L.small k → p = L.mpl (L.mbase k + i)) ∧ s55 = .slice a (len - i * 64) cp ∧ len - i * 64 ≤ cp ∧ cp ≤ 9223372036854775807 ∧
            (i * 64 < len → a = some ⟨bb, bo + i * 64, none⟩) ∧ Fr [wb] w wr ∧ Bts wr wb wn (miniF L k W i)) (fun s55 _ _ => lenOf s55)
          case atStart =>
            refine ⟨0, L.mstart k, da, dcap, by omega, rfl, hmsl, fun h => HMS.out h, by simp, by omega, hd2, fun h => by rw [HBA.out (by omega)]; simp, Fr.refl _ _, hW⟩
          case round =>
            obtain ⟨i, p, a, cp, hi, rfl, hpb, hpi, rfl, hcp, hcp2, ha, hf, hB⟩ := hrel
            by_cases hlt : i * 64 < len
            · have his : i < L.small k := by
                rcases Nat.lt_or_ge i (L.small k) with h | h
                · exact h
                · exfalso
                  have h1 := le_partsN len 64 (by omega)
                  rw [HS0.out] at h
                  have h2 := Nat.mul_le_mul_right 64 h
                  omega
              have hp := hpi his
              subst hp
              obtain rfl := ha hlt
              clear hpi ha
              have hmpi := HMP.out i his
              have hmw : 64 * L.mpl (L.mbase k + i) + 64 ≤ wn := by omega
              have hmf1 : miniF L k W (i + 1) = cpy (miniF L k W i) (64 * L.mpl (L.mbase k + i)) (min (len - 64 * i) 64) (fun x => (L.nd k).dat (64 * i + x)) := by rw [miniF, HLEN.out]
              have HMF1 := Lib.hid hmf1
              clear hmf1
              have hT1 := hT.frB hf hW
              have c5 := hT1.mt.cell (L.mpl (L.mbase k + i)) (by omega)
              have hfl := HML.out (L.mpl (L.mbase k + i)) (by omega)
              obtain ⟨mq, hmq⟩ : ∃ mq, min (len - 64 * i) 64 = mq := ⟨_, rfl⟩
              rw [hmq] at HMF1
              have hmq1 : mq ≤ len - i * 64 ∧ mq ≤ 64 ∧ (mq = len - i * 64 ∨ mq = 64) := by omega
              clear hmq
              have hbk : Blk wr wb 5 (tab wn (fun y => U8 (miniF L k W i y))) := hB
              have hnext : i + 1 < L.small k → mfat (L.mpl (L.mbase k + i)) = L.mpl (L.mbase k + (i + 1)) := fun h => by rw [HMF.out i his, if_neg (by omega)]; rfl
              have HNX := Lib.hid hnext
              have hlI : (0 : Int) < ((len - i * 64 : Nat) : Int) := by omega
              clear hnext
              generalize hA : L.mpl (L.mbase k + i) = A at *
              have HA := Lib.hid hA
              clear hA
              have hq0 : ¬ wn = 64 * A := by omega
              go_wp2_with (with_reducible refine wpList_copy_blk rfl (.tmp 437) (.tmp 438) 23 23 rfl 5 Tryd.underlying23 (by kernel_rfl) _ _ _ _ _ _ rfl rfl wb (64 * A) _ 5 hbk mq (fun x => U8 ((L.nd k).dat (64 * i + x))) ?_ ?_ ?_ ?_ ?_)
              · omega
              · intro _ j hj
                have := hf.cell (by simpa using bn2) (HBC.out (64 * i + j) (by omega))
                have e : bo + i * 64 + j = bo + (64 * i + j) := by omega
                rw [e]
                exact this
              · rw [tab_length]; omega
              · intro j _; rfl
              intro w3 hf3 hb3
              have hB3 := Bts.splice (by omega) hb3
              rw [← HMF1.out] at hB3
              have t3 : w3.cell? ⟨mb, A, none⟩ = some (.int .u32 (mfat A : Nat)) := (hT1.frB hf3 hB).mt.cell A (by omega)
              have hf4 := hf.trans_same hf3
              have hle : len - i * 64 - mq = len - (i + 1) * 64 := by omega
              have HLE2 := Lib.hid hle
              clear hb3 hf3 hf hB hT1 c5 hle hbk
              by_cases hcm : cp = mq
              · go_wp2_with fail
                go_roundw
                case rel =>
                  refine ⟨i + 1, mfat A, some ⟨bb, bo + i * 64, none⟩, 0, by omega, rfl, hfl, fun h => HNX.out h, by rw [HLE2.out], by omega, by omega, fun h => by omega, hf4, hB3⟩
                case measure => simp only [lenOf]; omega
              · have hcm2 : ¬ cp = mq := hcm
                go_wp2_with fail
                go_roundw
                case rel =>
                  refine ⟨i + 1, mfat A, some ⟨bb, bo + i * 64 + mq, none⟩, cp - mq, by omega, rfl, hfl, fun h => HNX.out h, by rw [HLE2.out], by omega, by omega, fun h => ?_, hf4, hB3⟩
                  have e : mq = 64 := by omega
                  rw [e]
                  have e2 : bo + i * 64 + 64 = bo + (i + 1) * 64 := by omega
                  rw [e2]
                case measure => simp only [lenOf]; omega
            · have hz0 : len - i * 64 = 0 := by omega
              have hii : i = L.small k := by
                rcases Nat.lt_or_ge i (L.small k) with h | h
                · exfalso
                  rw [HS0.out] at h
                  have h3 : i * 64 < len := partsN_lt (by omega) h
                  omega
                · omega
              rw [hii] at hB
              have hsw : NSw L zb xb ob outb fnb wb db wn mn k fat mfat w wr := ⟨hf.mono (by simp), ⟨F, hO.frB hf hW (by omega), by rw [HC2.out]; exact HI.out⟩, ⟨_, hB, HWK.out.next hk⟩⟩
              have HSW := Lib.hid hsw
              clear hsw hii hB hf
              generalize len - i * 64 = z at *
              subst hz0
              go_wp2_with fail
              go_meet
              case rel => exact ⟨by rw [HK.out]; rfl, by rw [HS.out], by rw [HLE.out], HSW.out⟩
        · --BEGIN big
          have hkind : L.kindOf k = 2 := by unfold Lay.kindOf; rw [if_neg hk0, if_pos hst]
          have hsto : L.startOf k = L.start (3 + k) := by unfold Lay.startOf; rw [if_neg hk0, if_pos hst, if_neg hsm]
          have hleo : L.lenOf k = (L.nd k).len := by unfold Lay.lenOf; rw [if_neg hk0, if_pos hst]
          have hs0 : L.small k = 0 := by unfold Lay.small; rw [if_neg (fun h => hsm h.2)]
          have hc2 : C2 L fat mfat mn (k + 1) = fillC (C2 L fat mfat mn k) L.sz (L.base (3 + k)) (L.nd k).len (L.nd k).dat := by rw [C2, if_pos ⟨hst, hsm⟩]
          have hpb : partsN (L.nd k).len L.sz = L.cnt (3 + k) := by rw [cnt_big]; unfold Lay.big; rw [if_pos ⟨hst, hsm⟩]
          have hcon := Lib.hid (fill_chain S.E hT hO (3 + k) (L.nd k).len dcap bb bo da (L.nd k).dat (by omega) hpb ⟨hd1, hd2⟩ HBA.out HBC.out bn1)
          have himg := HI.out.fill (L.base (3 + k)) (L.nd k).len (L.nd k).dat (by rw [hpb]; exact base_cnt L (3 + k) (by omega))
          rw [hst] at k1
          have HIM := Lib.hid himg
          have HK := Lib.hid hkind
          have HS := Lib.hid hsto
          have HLE := Lib.hid hleo
          have HC2 := Lib.hid hc2
          have HS0 := Lib.hid hs0
          have cs1 := hT.stc (3 + k) (by omega)
          have hkI3 : 3 + (k : Int) < 3 + (L.N : Int) := by omega
          have hlenI : ¬ ((L.nd k).len : Int) < 4096 := by omega
          clear hkind hsto hleo hs0 hc2 hst himg hpb
          go_wp2_with (go_at_call 25; refine hcon.out.mono ?_; rintro e w3 ⟨rfl, hf3, hB3⟩)
          have hsw : NSw L zb xb ob outb fnb wb db wn mn k fat mfat w w3 := ⟨hf3.mono (by simp), ⟨_, hO.fr hf3 hB3, by rw [HC2.out]; exact HIM.out⟩, ⟨W, Blk.fr hW hf3 (by simpa using hne2), HWK.out.skip HS0.out⟩⟩
          have HSW := Lib.hid hsw
          clear hsw hf3 hB3
          go_meet
          case rel => exact ⟨by rw [HK.out]; rfl, by rw [HS.out], by rw [HLE.out], HSW.out⟩
      · --BEGIN storage
        have hsf : (L.nd k).stream = false := by simpa using hst
        have hkind : L.kindOf k = 1 := by unfold Lay.kindOf; rw [if_neg hk0, if_neg hst]
        have hsto : L.startOf k = 0 := by unfold Lay.startOf; rw [if_neg hk0, if_neg hst]
        have hleo : L.lenOf k = 0 := by unfold Lay.lenOf; rw [if_neg hk0, if_neg hst]
        have hs0 : L.small k = 0 := by unfold Lay.small; rw [hsf]; simp
        have hc2 : C2 L fat mfat mn (k + 1) = C2 L fat mfat mn k := by rw [C2, hsf]; simp
        have hsw : NSw L zb xb ob outb fnb wb db wn mn k fat mfat w w := ⟨Fr.refl _ _, ⟨F, hO, by rw [hc2]; exact HI.out⟩, ⟨W, hW, HWK.out.skip hs0⟩⟩
        rw [hsf] at k1
        have HSW := Lib.hid hsw
        have HK := Lib.hid hkind
        have HS := Lib.hid hsto
        have HLE := Lib.hid hleo
        clear hsw hkind hsto hleo hs0 hc2 hst hsf
        go_wp2_with fail
        go_meet
        case rel => exact ⟨by rw [HK.out]; rfl, by rw [HS.out]; rfl, by rw [HLE.out]; rfl, HSW.out⟩
  case rest =>
  obtain ⟨rfl, rfl, rfl, hf1, ⟨F1, hO1, hI1⟩, ⟨W1, hW1, hWK1⟩⟩ := hcut
  have hn12 : nb ∉ [outb, wb] := by
    simp only [List.mem_cons, List.not_mem_nil, or_false, not_or]
    exact ⟨blk_ne hnb hO.out (by decide), blk_ne hnb hW (by decide)⟩
  have hsl : L.startOf k < 4294967296 ∧ L.lenOf k < 4294967296 := startOf_lt L HL.out k hk
  have hD1 : Bts wc db dn (at128 (dirK L k) k (entA L k)) := Blk.fr hD hf1 (by simp only [List.mem_cons, List.not_mem_nil, or_false, not_or]; omega)
  rename (∀ (a : Act) (w : World), Code.wp Tryd.prog _ _ a w → _) => hK
  refine hK _ _ ?_
  exact node_3 _ _ _ _ _ _ _ _ _ _ _ _ _ _ _ _ _ _ _ _ _ _ _ _ _ _ _ _ _ _ _ _ _ _ _ _ _ _ _ _ _ _ _ _ _ _ _ _ _ _ _ _ _ _ _ _ _ _ _ _ _ _ _ _ _ _ _ _ _ _ _ _ _ _ _ _ _ _ _ _ _ _ _ _ _ _ _ _ _ _ _ _ _ _ _ _ _ _ _ _ _ _ _ _ _ _ _ _ _ _ _ _ _ _ _ _ _ _ _ _ _ _ _ _ _ _ _ _ _ _ _ _ _ _ _ _ _ _ _ _ _ _ _ _ _ _ _ _ _ _ _ _ _ _ _ _ _ _ _ _ _ _ _ _ _ _ _ _ _ _ _ _ _ _ _ _ _ _ _ _ _ _ _ _ _ _ _ _ _ _ _ _ _ _ _ _ _ _ _ _ _ _ _ _ _ _ _ _ _ _ _ _ _ _ _ _ _ _ _ _ _ _ _ _ _ _ _ _ _ _ _ _ _ _ _ _ _ _ _ _ _ _ _ _ _ _ _ _ _ _ _ _ _ _ _ _ _ _ _ _ _ _ _ _ _ _ _ _ _ _ _ _ _ _ _ _ _ _ _ _ _ _ _ _ _ _ _ _ _ _ _ _ _ _ _ _ _ _ _ _ _ _ _ _ _ _ _ _ _ _ _ _ _ _ _ _ _ _ _ _ _ _ _ _ _ _ _ _ _ _ _ _ _ _ _ _ _ _ _ _ _ _ _ _ _ _ _ _ _ _ _ _ _ _ _ _ _ _ _ _ _ _ _ _ _ _ _ _ _ _ _ _ _ _ _ _ _ _ _ _ _ _ _ _ _ _ _ _ _ _ _ _ _ _ _ _ _ _ _ _ _ _ _ _ _ _ _ _ _ _ _ _ _ _ _ _ _ _ _ _ _ _ _ _ _ _ _ _ _ _ _ _ _ _ _ _ _ _ _ _ _ _ _ _ _ _ _ _ _ _ _ _ _ _ _ _ _ _ _ _ _ _ _ _ _ _ _ _ _ _ _ _ _ _ _ _ _ _ _ _ _ _ _ _ _ L lb lcap zb xb fb fn mb mn pb pc b19 c19 b29 c29 b33 c33 ob outb fnb wb db wn dn dv fat mfat w0 wA _ k S hw0 hd0 hk Q hQ nb (hfr.trans hf1 (by simp)) hnbA (hnb.fr hf1 hn12) F1 W1 hO1 hI1 hW1 hWK1 hD1 hsl.1 hsl.2
end Go.Proofs.YtokpomdfgbbhlaaDoor

/- FnMixed: a stream is read, sought and written by steps, what is told is what stands there then, the file behind all is that of the stream with these bytes (part 13 of 18). No condition but the statement's own. -/
import Derived.StillTailTactics
import Derived.Test.YtokpomdfgbbhlaaDoorMxl
set_option linter.all false
set_option linter.unusedVariables false
set_option linter.unusedSimpArgs false
set_option linter.unnecessarySimpa false
/- spec.Write: a node is copied, its name laid. -/
namespace Go.Proofs.YtokpomdfgbbhlaaDoor
open Go Go.RowKit

set_option maxRecDepth 100000 in
set_option maxHeartbeats 8000000 in
theorem node_1 (x3 x4 x5 x6 x8 x9 x10 x11 x12 x13 x15 x16 x21 x22 x26 x27 x28 x31 x32 x37 x38 x39 x40 x41 x42 x43 x46 x47 x48 x49 x50 x51 x52 x53 x54 x55 x56 x57 x58 x59 x60 x61 x62 x63 x64 x65 x66 x67 x68 x69 x70 x71 x72 x73 x74 x75 x76 x77 x78 x79 x80 x81 x82 x83 x84 x85 x86 x87 x88 x89 x90 x91 x92 x93 x94 x95 x96 x97 x98 x99 x100 x101 x102 x103 x104 x105 x106 x107 x108 x109 x110 x111 x112 x113 x114 x115 x116 x117 x118 x119 x120 x121 x122 x123 x124 x125 x126 x127 x128 x129 x130 x131 x132 x133 x134 x135 x136 x137 x138 x139 x140 x141 x142 x143 x144 x145 x146 x147 x148 x149 x150 x151 x152 x153 x154 x155 x156 x157 x158 x159 x160 x161 x162 x163 x164 x165 x166 x167 x168 x169 x170 x171 x172 x173 x174 x175 x176 x177 x178 x179 x180 x181 x182 x183 x184 x185 x186 x187 x188 x189 x190 x191 x192 x193 x194 x195 x196 x197 x198 x199 x200 x201 x202 x203 x204 x205 x206 x207 x208 x209 x210 x211 x212 x213 x214 x215 x216 x217 x218 x219 x220 x221 x222 x223 x224 x225 x226 x227 x228 x229 x230 x231 x232 x233 x234 x235 x236 x237 x238 x239 x240 x241 x242 x243 x244 x245 x246 x247 x248 x249 x250 x251 x252 x253 x254 x255 x256 x257 x258 x259 x260 x261 x262 x263 x264 x265 x266 x267 x268 x269 x270 x271 x272 x273 x274 x275 x276 x277 x278 x279 x280 x281 x282 x283 x284 x285 x286 x287 x288 x289 x290 x291 x292 x293 x294 x295 x296 x297 x298 x299 x300 x301 x302 x303 x304 x305 x306 x307 x308 x309 x310 x311 x312 x313 x314 x315 x316 x317 x318 x319 x320 x321 x322 x323 x324 x325 x326 x327 x328 x329 x330 x331 x332 x333 x334 x335 x336 x337 x338 x339 x340 x341 x342 x343 x344 x345 x346 x347 x348 x349 x350 x351 x352 x353 x354 x355 x356 x357 x358 x362 x363 x364 x365 x366 x367 x368 x369 x370 x371 x372 x373 x374 x375 x376 x377 x378 x379 x380 x381 x382 x383 x384 x385 x386 x387 x388 x389 x390 x391 x392 x393 x394 x395 x396 x397 x398 x399 x400 x401 x402 x403 x404 x405 x406 x407 x408 x409 x410 x411 x412 x413 x414 x415 x416 x417 x418 x419 x420 x421 x422 x423 x424 x425 x426 x427 x428 x429 x430 x431 x432 x433 x434 x435 x436 x437 x438 x439 x440 x441 x442 x443 x444 x445 x446 x447 x448 x449 x450 x451 x452 x453 x454 x455 x456 x457 x458 x459 x460 x461 x462 x463 x464 x465 x466 x467 x468 x469 x470 x471 x472 x473 x474 x475 x476 x477 x478 x479 x480 x481 x482 x483 x484 x485 x486 x487 x488 x489 x490 x491 x492 x493 x494 x495 x496 x497 x498 x499 x500 x501 x502 x503 x504 x505 x506 x507 x508 x509 x510 x511 x512 x513 : Value) (L : Lay) (lb lcap zb xb fb fn mb mn pb pc b19 c19 b29 c29 b33 c33 ob outb fnb wb db wn dn : Nat) (dv : Nat → Value) (fat mfat : Nat → Nat) (w0 wA w : World) (k : Nat) (S : NStat L lb lcap zb xb fb fn mb mn pb pc b19 c19 b29 c29 b33 c33 ob outb fnb wb db wn dn dv fat mfat w0 wA) (hw0 : w0.heap.size ≤ wb) (hd0 : w0.heap.size ≤ db) (hk : k < L.N) (Q : Exit → Act → World → Prop) (hQ : ∀ (y48 y49 y50 y51 y52 y53 y54 y55 y56 y57 y58 y363 y364 y365 y366 y367 y368 y369 y370 y371 y372 y373 y374 y375 y376 y377 y378 y379 y380 y381 y382 y383 y384 y385 y386 y387 y388 y389 y390 y391 y392 y393 y394 y395 y396 y397 y398 y399 y400 y401 y402 y403 y404 y405 y406 y407 y408 y409 y410 y411 y412 y413 y414 y415 y416 y417 y418 y419 y420 y421 y422 y423 y424 y425 y426 y427 y428 y429 y430 y431 y432 y433 y434 y435 y436 y437 y438 y439 y440 y441 y442 y443 y444 y445 y446 y447 y448 y449 y450 y451 y452 y453 y454 y455 y456 y457 y458 y459 y460 y461 y462 y463 y464 y465 y466 y467 y468 y469 y470 y471 y472 y473 y474 y475 y476 y477 y478 y479 y480 y481 y482 y483 y484 y485 y486 y487 y488 y489 y490 y491 y492 y493 y494 y495 y496 y497 y498 y499 : Value) (w' : World), NLoop L zb xb ob outb fnb wb db wn dn mn (k + 1) fat mfat wA w' → Q Exit.normal ⟨#[(.slice (some ⟨lb, 0, none⟩) L.N lcap), (.int .i64 L.ver), (.int .i64 L.step), x3, x4, x5, x6, (.pointer (some ⟨zb, 0, none⟩)), x8, x9, x10, x11, x12, x13, (I64 L.minis), x15, x16, (.int .i64 L.per), (.int .i64 (L.cnt 0)), (.slice (some ⟨b19, 0, none⟩) (3 + L.N) c19), (I64 L.sum), x21, x22, (I64 L.fats), (.slice (some ⟨pb, 0, none⟩) L.tot pc), (.pointer (some ⟨xb, 0, none⟩)), x26, x27, x28, (.slice (some ⟨b29, 0, none⟩) (3 + L.N) c29), (.slice (some ⟨mb, 0, none⟩) mn mn), x31, x32, (.slice (some ⟨b33, 0, none⟩) L.N c33), (.pointer (some ⟨ob, 0, none⟩)), (.pointer (some ⟨fnb, 0, none⟩)), (.func (.func 25) #[] #[.pointer (some ⟨xb, 0, none⟩), .pointer (some ⟨fnb, 0, none⟩)]), x37, x38, x39, x40, x41, x42, x43, (.slice (some ⟨wb, 0, none⟩) wn wn), (.slice (some ⟨db, 0, none⟩) dn dn), x46, x47, y48, y49, y50, y51, y52, y53, y54, y55, y56, y57, y58, x59, x60, x61, x62, x63, x64, x65, x66, x67, x68, x69, x70, x71, x72, x73, x74, x75, x76, x77, x78, x79, x80, x81, x82, x83, x84, x85, x86, x87, x88, x89, x90, x91, x92, x93, x94, x95, x96, x97, x98, x99, x100, x101, x102, x103, x104, x105, x106, x107, x108, x109, x110, x111, x112, x113, x114, x115, x116, x117, x118, x119, x120, x121, x122, x123, x124, x125, x126, x127, x128, x129, x130, x131, x132, x133, x134, x135, x136, x137, x138, x139, x140, x141, x142, x143, x144, x145, x146, x147, x148, x149, x150, x151, x152, x153, x154, x155, x156, x157, x158, x159, x160, x161, x162, x163, x164, x165, x166, x167, x168, x169, x170, x171, x172, x173, x174, x175, x176, x177, x178, x179, x180, x181, x182, x183, x184, x185, x186, x187, x188, x189, x190, x191, x192, x193, x194, x195, x196, x197, x198, x199, x200, x201, x202, x203, x204, x205, x206, x207, x208, x209, x210, x211, x212, x213, x214, x215, x216, x217, x218, x219, x220, x221, x222, x223, x224, x225, x226, x227, x228, x229, x230, x231, x232, x233, x234, x235, x236, x237, x238, x239, x240, x241, x242, x243, x244, x245, x246, x247, x248, x249, x250, x251, x252, x253, x254, x255, x256, x257, x258, x259, x260, x261, x262, x263, x264, x265, x266, x267, x268, x269, x270, x271, x272, x273, x274, x275, x276, x277, x278, x279, x280, x281, x282, x283, x284, x285, x286, x287, x288, x289, x290, x291, x292, x293, x294, x295, x296, x297, x298, x299, x300, x301, x302, x303, x304, x305, x306, x307, x308, x309, x310, x311, x312, x313, x314, x315, x316, x317, x318, x319, x320, x321, x322, x323, x324, x325, x326, x327, x328, x329, x330, x331, x332, x333, x334, x335, x336, x337, x338, x339, x340, x341, x342, x343, x344, x345, x346, x347, x348, x349, x350, x351, x352, x353, x354, x355, x356, x357, x358, (.slice (some ⟨lb, 0, none⟩) L.N lcap), (.int .i64 L.N), (.int .i64 k), x362, y363, y364, y365, y366, y367, y368, y369, y370, y371, y372, y373, y374, y375, y376, y377, y378, y379, y380, y381, y382, y383, y384, y385, y386, y387, y388, y389, y390, y391, y392, y393, y394, y395, y396, y397, y398, y399, y400, y401, y402, y403, y404, y405, y406, y407, y408, y409, y410, y411, y412, y413, y414, y415, y416, y417, y418, y419, y420, y421, y422, y423, y424, y425, y426, y427, y428, y429, y430, y431, y432, y433, y434, y435, y436, y437, y438, y439, y440, y441, y442, y443, y444, y445, y446, y447, y448, y449, y450, y451, y452, y453, y454, y455, y456, y457, y458, y459, y460, y461, y462, y463, y464, y465, y466, y467, y468, y469, y470, y471, y472, y473, y474, y475, y476, y477, y478, y479, y480, y481, y482, y483, y484, y485, y486, y487, y488, y489, y490, y491, y492, y493, y494, y495, y496, y497, y498, y499, x500, x501, x502, x503, x504, x505, x506, x507, x508, x509, x510, x511, x512, x513], []⟩ w') (hN : NLoop L zb xb ob outb fnb wb db wn dn mn k fat mfat wA w) :
    Code.wp Tryd.prog c27 Q ⟨#[(.slice (some ⟨lb, 0, none⟩) L.N lcap), (.int .i64 L.ver), (.int .i64 L.step), x3, x4, x5, x6, (.pointer (some ⟨zb, 0, none⟩)), x8, x9, x10, x11, x12, x13, (I64 L.minis), x15, x16, (.int .i64 L.per), (.int .i64 (L.cnt 0)), (.slice (some ⟨b19, 0, none⟩) (3 + L.N) c19), (I64 L.sum), x21, x22, (I64 L.fats), (.slice (some ⟨pb, 0, none⟩) L.tot pc), (.pointer (some ⟨xb, 0, none⟩)), x26, x27, x28, (.slice (some ⟨b29, 0, none⟩) (3 + L.N) c29), (.slice (some ⟨mb, 0, none⟩) mn mn), x31, x32, (.slice (some ⟨b33, 0, none⟩) L.N c33), (.pointer (some ⟨ob, 0, none⟩)), (.pointer (some ⟨fnb, 0, none⟩)), (.func (.func 25) #[] #[.pointer (some ⟨xb, 0, none⟩), .pointer (some ⟨fnb, 0, none⟩)]), x37, x38, x39, x40, x41, x42, x43, (.slice (some ⟨wb, 0, none⟩) wn wn), (.slice (some ⟨db, 0, none⟩) dn dn), x46, x47, x48, x49, x50, x51, x52, x53, x54, x55, x56, x57, x58, x59, x60, x61, x62, x63, x64, x65, x66, x67, x68, x69, x70, x71, x72, x73, x74, x75, x76, x77, x78, x79, x80, x81, x82, x83, x84, x85, x86, x87, x88, x89, x90, x91, x92, x93, x94, x95, x96, x97, x98, x99, x100, x101, x102, x103, x104, x105, x106, x107, x108, x109, x110, x111, x112, x113, x114, x115, x116, x117, x118, x119, x120, x121, x122, x123, x124, x125, x126, x127, x128, x129, x130, x131, x132, x133, x134, x135, x136, x137, x138, x139, x140, x141, x142, x143, x144, x145, x146, x147, x148, x149, x150, x151, x152, x153, x154, x155, x156, x157, x158, x159, x160, x161, x162, x163, x164, x165, x166, x167, x168, x169, x170, x171, x172, x173, x174, x175, x176, x177, x178, x179, x180, x181, x182, x183, x184, x185, x186, x187, x188, x189, x190, x191, x192, x193, x194, x195, x196, x197, x198, x199, x200, x201, x202, x203, x204, x205, x206, x207, x208, x209, x210, x211, x212, x213, x214, x215, x216, x217, x218, x219, x220, x221, x222, x223, x224, x225, x226, x227, x228, x229, x230, x231, x232, x233, x234, x235, x236, x237, x238, x239, x240, x241, x242, x243, x244, x245, x246, x247, x248, x249, x250, x251, x252, x253, x254, x255, x256, x257, x258, x259, x260, x261, x262, x263, x264, x265, x266, x267, x268, x269, x270, x271, x272, x273, x274, x275, x276, x277, x278, x279, x280, x281, x282, x283, x284, x285, x286, x287, x288, x289, x290, x291, x292, x293, x294, x295, x296, x297, x298, x299, x300, x301, x302, x303, x304, x305, x306, x307, x308, x309, x310, x311, x312, x313, x314, x315, x316, x317, x318, x319, x320, x321, x322, x323, x324, x325, x326, x327, x328, x329, x330, x331, x332, x333, x334, x335, x336, x337, x338, x339, x340, x341, x342, x343, x344, x345, x346, x347, x348, x349, x350, x351, x352, x353, x354, x355, x356, x357, x358, (.slice (some ⟨lb, 0, none⟩) L.N lcap), (.int .i64 L.N), (.int .i64 k), x362, x363, x364, x365, x366, x367, x368, x369, x370, x371, x372, x373, x374, x375, x376, x377, x378, x379, x380, x381, x382, x383, x384, x385, x386, x387, x388, x389, x390, x391, x392, x393, x394, x395, x396, x397, x398, x399, x400, x401, x402, x403, x404, x405, x406, x407, x408, x409, x410, x411, x412, x413, x414, x415, x416, x417, x418, x419, x420, x421, x422, x423, x424, x425, x426, x427, x428, x429, x430, x431, x432, x433, x434, x435, x436, x437, x438, x439, x440, x441, x442, x443, x444, x445, x446, x447, x448, x449, x450, x451, x452, x453, x454, x455, x456, x457, x458, x459, x460, x461, x462, x463, x464, x465, x466, x467, x468, x469, x470, x471, x472, x473, x474, x475, x476, x477, x478, x479, x480, x481, x482, x483, x484, x485, x486, x487, x488, x489, x490, x491, x492, x493, x494, x495, x496, x497, x498, x499, x500, x501, x502, x503, x504, x505, x506, x507, x508, x509, x510, x511, x512, x513], []⟩ w := by
  conv => arg 2; whnf
  conv => arg 4; dsimp only
  have hL := S.E.hL
  have hn2 := hL.n2
  have hdq1 := S.dn1
  have hdq2 := S.dn2
  have hltI : (k : Int) < L.N := by omega
  have hnl := hL.nm2 k hk
  have hnc := fun j => hL.nmc k j hk
  have HNC := Lib.hid hnc
  have HL := Lib.hid hL
  clear hL hnc
  obtain ⟨⟨ll, hll0, hlc⟩, hdat⟩ := S.E.nd
  have HLC := Lib.hid hlc
  have hlcap := S.E.lc
  clear hlc
  obtain ⟨hfr, ⟨F, hO, hI⟩, ⟨W, hW, hWK⟩, hD⟩ := hN
  have hll : Blk w lb 42 ll := S.keep hfr (hll0.fr0 S.hF0) (by decide)
  have hcs : (ll.drop (k * 28)).take 28 = (ndCells (L.nd k) (dv k)).toArray.toList := by
    apply List.ext_getElem?
    intro j
    rw [List.getElem?_take]
    by_cases hj : j < 28
    · rw [if_pos hj, List.getElem?_drop, HLC.out k hk j hj]
    · rw [if_neg hj]; exact (List.getElem?_eq_none (by rw [ndCells_length]; omega)).symm
  have hln : k * 28 + 28 ≤ ll.length := by
    have h1 := HLC.out k hk 27 (by omega)
    rw [List.getElem?_eq_getElem (show 27 < (ndCells (L.nd k) (dv k)).length by rw [ndCells_length]; omega)] at h1
    have := (List.getElem?_eq_some_iff.1 h1).1
    omega
  have HCS := Lib.hid hcs
  clear hcs
  obtain ⟨da, dcap, hdv, hd1, hd2, hd3⟩ := hdat k hk
  have hone : (ndCells (L.nd k) (dv k)).toArray.all (·.oneCell') = true := by rw [hdv]; exact ndCells_one _ _ _ _
  have HDV := Lib.hid hdv
  clear hdv hd3 hdat
  have HI := Lib.hid hI
  have HWK := Lib.hid hWK
  clear hI hWK
  go_upto_region 106 with (fail)
  go_cut [48, 49] from 363 to 365 (fun s48 s49 w1 => s48 = .int .i64 k ∧ s49 = .pointer (some ⟨w.heap.size, 0, none⟩) ∧ Fr [] w w1 ∧ Blk w1 w.heap.size 42 (ndCells (L.nd k) (dv k)))
  case first =>
    go_wp2_with (first | (refine wpList_load_blk rfl 42 (.tmp 364) rfl lb (k * 28) rfl 42 ll hll _ Tryd.underlying42 rfl 28 (by kernel_rfl) hln (ndCells (L.nd k) (dv k)).toArray HCS.out ?_) | (refine wpList_store_blk rfl 42 (.tmp 49) (.tmp 365) rfl w.heap.size 0 (ndCells (L.nd k) (dv k)).toArray rfl rfl 42 _ (Blk.new' w 42 _) (by simp [ndCells_length]) (by rw [List.size_toArray, ndCells_length]; kernel_rfl) hone ?_))
    intro w1 hf1 hb1
    have hnb : Blk w1 w.heap.size 42 (ndCells (L.nd k) (dv k)) := by
      have := splice_whole [Value.string { data := #[] }, Value.bool false, Value.slice none 0 0, Value.int IntKind.i64 0, Value.int IntKind.i64 0, Value.int IntKind.i64 0, Value.int IntKind.u8 0, Value.int IntKind.u8 0, Value.int IntKind.u8 0, Value.int IntKind.u8 0, Value.int IntKind.u8 0, Value.int IntKind.u8 0, Value.int IntKind.u8 0, Value.int IntKind.u8 0, Value.int IntKind.u8 0, Value.int IntKind.u8 0, Value.int IntKind.u8 0, Value.int IntKind.u8 0, Value.int IntKind.u8 0, Value.int IntKind.u8 0, Value.int IntKind.u8 0, Value.int IntKind.u8 0, Value.int IntKind.u8 0, Value.int IntKind.u8 0, Value.int IntKind.u8 0, Value.int IntKind.u8 0, Value.int IntKind.u64 0, Value.int IntKind.u64 0] (ndCells (L.nd k) (dv k)) (by rw [ndCells_length]; rfl)
      rw [← this]; exact hb1
    have hf2 : Fr [] w w1 := ((Fr.refl [] w).alloc _).trans hf1 (by simp)
    clear hf1 hb1
    go_wp2_with fail
    go_meet
    case rel => exact ⟨rfl, rfl, hf2, hnb⟩
  case rest =>
  obtain ⟨rfl, rfl, hf2, hnb⟩ := hcut
  have hnbA : wA.heap.size ≤ w.heap.size := hfr.size
  have hfr1 := hfr.trans0 hf2
  have hO1 := hO.fr0 hf2
  have hW1 : Bts wc wb wn W := Blk.fr0 hW hf2
  have hD1 : Bts wc db dn (at128 (dirK L k) k freeE) := Bts.congr (Blk.fr0 hD hf2) (fun y _ => dirK_open L k y)
  have lo : outb < w.heap.size := hO.out.lt
  have lw : wb < w.heap.size := hW.lt
  have ld : db < w.heap.size := hD.lt
  generalize w.heap.size = nb at *
  clear hO hW hD hfr hf2 hll HCS hone hln
  have k0 : wc.cell? ⟨nb, 0, none⟩ = some (.string (L.nd k).name) := hnb.cell 0
  have hnm : (L.nd k).name.size = L.nmLen k := rfl
  have hnbd : nb ≠ db := by omega
  have hcap : ¬ dn = 128 * k := by omega
  go_upto_block 28 with (fail)
  go_cut [] from 366 to 373 (fun w2 => Fr [db] wc w2 ∧ Bts w2 db dn (at128 (dirK L k) k (nameE freeE (L.nmOf k) (L.nmLen k))))
  case first =>
    go_wp2_with fail
    go_loopw [373] (fun s373 wr => ∃ j : Nat, j ≤ L.nmLen k ∧ s373 = .int .i64 j ∧ Fr [db] wc wr ∧ Bts wr db dn (at128 (dirK L k) k (nameE freeE (L.nmOf k) j))) (fun s373 _ => L.nmLen k - (intOf s373).toNat)
    case atStart => exact ⟨0, by omega, rfl, Fr.refl _ _, hD1⟩
    case round =>
      obtain ⟨j, hj, rfl, hf, hB⟩ := hrel
      have c0 := hf.cell (by simpa using hnbd) k0
      by_cases hlj : j < L.nmLen k
      · have hljI : (j : Int) < ((L.nd k).name.size : Int) := by rw [hnm]; omega
        have hljN : j < (L.nd k).name.size := by omega
        have hch : ((L.nd k).name[j]'hljN).toNat = L.nmOf k j := by
          unfold Lay.nmOf
          generalize (L.nd k).name = nm at *
          rcases nm with ⟨⟨l⟩⟩
          show (l[j]'(show j < l.length from hljN)).toNat = (l.getD j 0).toNat
          rw [List.getD_eq_getElem?_getD, List.getElem?_eq_getElem]
          rfl
        have HCH := Lib.hid hch
        clear hch
        have hnm1 : nameE freeE (L.nmOf k) (j + 1) = upd (nameE freeE (L.nmOf k) j) (2 * j) 2 (L.nmOf k j) := rfl
        have HNM := Lib.hid hnm1
        clear hnm1
        go_wp2_with fail
        refine (put_c db (128 * k) (dn - 128 * k) (dn - 128 * k) (2 * j) (L.nmOf k j) 2 dn _ _ _ (by omega) (by rw [HCH.out]; exact u64w _ (by have := HNC.out j; omega)) (by omega) _ _ hB (by omega) (by omega) (by omega) (by omega)).mono ?_
        rintro e w3 ⟨rfl, hf3, hB3⟩
        rw [at128_upd _ _ _ _ _ _ (by omega), ← HNM.out] at hB3
        go_wp2_with fail
        go_roundw
        case rel => exact ⟨j + 1, by omega, by go_num, hf.trans_same hf3, hB3⟩
        case measure => simp [intOf]; omega
      · have hjN : j = L.nmLen k := by omega
        have hljI : ¬ (j : Int) < ((L.nd k).name.size : Int) := by rw [hnm]; omega
        have hljN : ¬ j < (L.nd k).name.size := by omega
        rw [hjN] at hB
        clear hjN
        go_wp2_with fail
        go_meet
        case rel => exact ⟨hf, hB⟩
  case rest =>
  clear k0
  obtain ⟨hf3, hD3⟩ := hcut
  have hfr3 := hfr1.trans hf3 (by simp)
  have hnb3 := hnb.fr hf3 (by simpa using hnbd)
  have hO3 := hO1.frB hf3 hD1 (by have := S.ne3; omega)
  have hW3 : Bts wc wb wn W := Blk.fr hW1 hf3 (by simpa using S.ne1)
  have k0 : wc.cell? ⟨nb, 0, none⟩ = some (.string (L.nd k).name) := hnb3.cell 0
  have hsI : ((L.nd k).name.size : Int) ≤ 10 := by omega
  clear hf3 hO1 hW1 hD1 hnb hfr1
  go_upto_region 114 with (fail)
  refine (put_c db (128 * k) (dn - 128 * k) (dn - 128 * k) 64 (2 * L.nmLen k + 2) 2 dn _ _ _ (by omega) (by omega) (by omega) _ _ hD3 (by omega) (by omega) (by omega) (by omega)).mono ?_
  rintro e w4 ⟨rfl, hf4, hD4⟩
  rw [at128_upd _ _ _ _ _ _ (by omega)] at hD4
  have hfr4 := hfr3.trans hf4 (by simp)
  have hnb4 := hnb3.fr hf4 (by simpa using hnbd)
  have hO4 := hO3.frB hf4 hD3 (by have := S.ne3; omega)
  have hW4 : Bts w4 wb wn W := Blk.fr hW3 hf4 (by simpa using S.ne1)
  have k2 : w4.cell? ⟨nb, 2, none⟩ = some (.slice da (L.nd k).len dcap) := (hnb4.cell 2).trans (by rw [HDV.out]; rfl)
  clear k0 hf4 hO3 hW3 hD3 hnb3 hfr3
  go_upto_region 114 with (fail)
  go_cut [52, 53, 54] from 374 to 396 (fun s52 s53 s54 w5 => s52 = .int .u8 1 ∧ s53 = .int .i64 0 ∧ s54 = .int .i64 (L.nd k).len ∧ Fr [] w4 w5)
  case first =>
    go_quiet (fail)
    go_wp2_with fail
    go_meet
    case rel => exact ⟨rfl, rfl, rfl, (Fr.refl _ _).drewN _⟩
  case rest =>
  obtain ⟨rfl, rfl, rfl, hf5⟩ := hcut
  have hent : upd (nameE freeE (L.nmOf k) (L.nmLen k)) 64 2 (2 * L.nmLen k + 2) = entA L k := rfl
  rw [hent] at hD4
  rename (∀ (a : Act) (w : World), Code.wp Tryd.prog _ _ a w → _) => hK
  refine hK _ _ ?_
  exact node_2 _ _ _ _ _ _ _ _ _ _ _ _ _ _ _ _ _ _ _ _ _ _ _ _ _ _ _ _ _ _ _ _ _ _ _ _ _ _ _ _ _ _ _ _ _ _ _ _ _ _ _ _ _ _ _ _ _ _ _ _ _ _ _ _ _ _ _ _ _ _ _ _ _ _ _ _ _ _ _ _ _ _ _ _ _ _ _ _ _ _ _ _ _ _ _ _ _ _ _ _ _ _ _ _ _ _ _ _ _ _ _ _ _ _ _ _ _ _ _ _ _ _ _ _ _ _ _ _ _ _ _ _ _ _ _ _ _ _ _ _ _ _ _ _ _ _ _ _ _ _ _ _ _ _ _ _ _ _ _ _ _ _ _ _ _ _ _ _ _ _ _ _ _ _ _ _ _ _ _ _ _ _ _ _ _ _ _ _ _ _ _ _ _ _ _ _ _ _ _ _ _ _ _ _ _ _ _ _ _ _ _ _ _ _ _ _ _ _ _ _ _ _ _ _ _ _ _ _ _ _ _ _ _ _ _ _ _ _ _ _ _ _ _ _ _ _ _ _ _ _ _ _ _ _ _ _ _ _ _ _ _ _ _ _ _ _ _ _ _ _ _ _ _ _ _ _ _ _ _ _ _ _ _ _ _ _ _ _ _ _ _ _ _ _ _ _ _ _ _ _ _ _ _ _ _ _ _ _ _ _ _ _ _ _ _ _ _ _ _ _ _ _ _ _ _ _ _ _ _ _ _ _ _ _ _ _ _ _ _ _ _ _ _ _ _ _ _ _ _ _ _ _ _ _ _ _ _ _ _ _ _ _ _ _ _ _ _ _ _ _ _ _ _ _ _ _ _ _ _ _ _ _ _ _ _ _ _ _ _ _ _ _ _ _ _ _ _ _ _ _ _ _ _ _ _ _ _ _ _ _ _ _ _ _ _ _ _ _ _ _ _ _ _ _ _ _ _ _ _ _ _ _ _ _ _ _ _ _ _ _ _ _ _ _ _ _ _ _ _ _ _ _ _ _ _ _ _ _ _ _ _ _ _ _ _ _ _ _ _ _ _ _ _ _ _ _ _ _ _ _ _ _ _ _ _ L lb lcap zb xb fb fn mb mn pb pc b19 c19 b29 c29 b33 c33 ob outb fnb wb db wn dn dv fat mfat w0 wA _ k S hw0 hd0 hk Q hQ nb (hfr4.trans0 hf5) hnbA (hnb4.fr0 hf5) F W (hO4.fr0 hf5) HI.out (Blk.fr0 hW4 hf5) HWK.out (Blk.fr0 hD4 hf5)
end Go.Proofs.YtokpomdfgbbhlaaDoor

/- The image behind all fills is the file of the layout. No program here but the parts of Write. -/
namespace Go.Proofs.YtokpomdfgbbhlaaDoor
open Go Go.RowKit

theorem parts_mul (a s : Nat) (hs : 0 < s) : partsN (a * s) s = a := by
  apply Nat.le_antisymm
  · exact partsN_le hs (Nat.le_refl _)
  · rcases Nat.lt_or_ge (partsN (a * s) s) a with h | h
    · exfalso
      have h1 := le_partsN (a * s) s hs
      have h2 := Nat.mul_le_mul_right s (show partsN (a * s) s + 1 ≤ a by omega)
      rw [Nat.add_mul] at h2
      omega
    · exact h

theorem base_mono (L : Lay) {c c' : Nat} (h : c < c') : L.base c + L.cnt c ≤ L.base c' := by
  have := sumN_mono L.cnt (show c + 1 ≤ c' by omega)
  rw [sumN] at this
  unfold Lay.base
  omega

/-- What a chain's fill leaves behind it: within the chain. -/
theorem fillC_in (C : Nat → Nat → UInt8) (sz b len : Nat) (g : Nat → UInt8) (i x : Nat) : fillC C sz b len g (b + i) x = if i * sz + x < len then g (i * sz + x) else C (b + i) x := by
  unfold fillC
  have e : b + i - b = i := by omega
  rw [e]
  by_cases h : i * sz + x < len
  · rw [if_pos ⟨by omega, h⟩, if_pos h]
  · rw [if_neg (by omega), if_neg h]
/-- And beside it. -/
theorem fillC_out (C : Nat → Nat → UInt8) (sz b len : Nat) (g : Nat → UInt8) (k x : Nat) (hs : 0 < sz) (h : k < b ∨ b + partsN len sz ≤ k) : fillC C sz b len g k x = C k x := by
  unfold fillC
  rw [if_neg]
  rintro ⟨h1, h2⟩
  have h3 : b + partsN len sz ≤ k := by omega
  have h4 := le_partsN len sz hs
  have h5 := Nat.mul_le_mul_right sz (show partsN len sz ≤ k - b by omega)
  omega

theorem big_parts (L : Lay) (k : Nat) (h : (L.nd k).stream = true ∧ ¬ (L.nd k).len < 4096) : partsN (L.nd k).len L.sz = L.cnt (3 + k) := by
  rw [cnt_big]
  unfold Lay.big
  rw [if_pos h]

/-- Sectors below the streams' chains are as they were. -/
theorem C2_low (L : Lay) (fat mfat : Nat → Nat) (mn n k x : Nat) (hs : 0 < L.sz) (h : k < L.base 3) : C2 L fat mfat mn n k x = C1 L fat mfat mn k x := by
  induction n with
  | zero => rfl
  | succ n ih =>
    rw [C2]
    split
    · rw [fillC_out _ _ _ _ _ _ _ hs (by
        left
        by_cases h0 : n = 0
        · subst h0; exact h
        · have := base_mono L (show 3 < 3 + n by omega); omega)]
      exact ih
    · exact ih
/-- A stream's own chain. -/
theorem C2_own (L : Lay) (fat mfat : Nat → Nat) (mn n j i x : Nat) (hs : 0 < L.sz) (hj : j < n) (hb : (L.nd j).stream = true ∧ ¬ (L.nd j).len < 4096) (hi : i < L.cnt (3 + j)) :
    C2 L fat mfat mn n (L.base (3 + j) + i) x = if i * L.sz + x < (L.nd j).len then (L.nd j).dat (i * L.sz + x) else C1 L fat mfat mn (L.base (3 + j) + i) x := by
  induction n with
  | zero => omega
  | succ n ih =>
    rw [C2]
    by_cases hjn : j = n
    · subst hjn
      rw [if_pos hb, fillC_in]
      by_cases h : i * L.sz + x < (L.nd j).len
      · rw [if_pos h, if_pos h]
      · rw [if_neg h, if_neg h]
        -- not yet written
        have key : ∀ m, m ≤ j → C2 L fat mfat mn m (L.base (3 + j) + i) x = C1 L fat mfat mn (L.base (3 + j) + i) x := by
          intro m
          induction m with
          | zero => intro _; rfl
          | succ m ihm =>
            intro hm
            rw [C2]
            split
            · rename_i hbm
              rw [fillC_out _ _ _ _ _ _ _ hs (by
                right
                rw [big_parts L m hbm]
                have := base_mono L (show 3 + m < 3 + j by omega)
                omega)]
              exact ihm (by omega)
            · exact ihm (by omega)
        exact key j (Nat.le_refl _)
    · have ih' := ih (by omega)
      split
      · rename_i hbn
        rw [fillC_out _ _ _ _ _ _ _ hs (by
          left
          have := base_mono L (show 3 + j < 3 + n by omega)
          omega)]
        exact ih'
      · exact ih'

theorem C1_high (L : Lay) (fat mfat : Nat → Nat) (mn k x : Nat) (hs : 0 < L.sz) (hmn : partsN (4 * mn) L.sz = L.cnt 1) (h : L.base 1 + L.cnt 1 ≤ k) : C1 L fat mfat mn k x = 0 := by
  unfold C1
  rw [fillC_out _ _ _ _ _ _ _ hs (by right; rw [hmn]; exact h)]
  show (if k < L.fats then _ else _) = _
  rw [if_neg (by unfold Lay.base at h; omega)]

theorem wrote_of {L : Lay} {w0 : World} {lb lcap fn mn pc c19 c29 c33 outb wn dn : Nat} {dv : Nat → Value} {fat mfat : Nat → Nat} {F : Nat → UInt8} (E : WEnv L w0 lb lcap fn mn pc c19 c29 c33 outb dv fat mfat) (W : Nat → UInt8)
    (hI : Img L F (fillC (fillC (C2 L fat mfat mn L.N) L.sz (L.base 2) wn W) L.sz (L.base 0) dn (dirK L L.N))) (hwn : wn = 64 * L.minis) (hdn : dn = L.cnt 0 * L.sz) (hWK : WholeK L L.N W) : Wrote L F fat mfat W := by
  have hL := E.hL
  have hs : 512 ≤ L.sz := by rcases L.sz_or with ⟨e, _⟩ | ⟨e, _⟩ <;> omega
  have hs0 : 0 < L.sz := by omega
  have hp2 : partsN wn L.sz = L.cnt 2 := by rw [hwn, Nat.mul_comm]; rfl
  have hp0 : partsN dn L.sz = L.cnt 0 := by rw [hdn]; exact parts_mul _ _ hs0
  have e4 : 4 * mn = L.cnt 1 * L.sz := by
    rw [E.mn_]
    have : L.sz = 4 * L.per := by rcases L.per_or with ⟨a, h⟩ | ⟨a, h⟩ <;> omega
    rw [this, ← Nat.mul_assoc, ← Nat.mul_assoc, Nat.mul_comm 4]
  have hp1 : partsN (4 * mn) L.sz = L.cnt 1 := by rw [e4]; exact parts_mul _ _ hs0
  have b0 : L.base 0 = L.fats := by unfold Lay.base; rfl
  have b01 := base_mono L (show 0 < 1 by omega)
  have b12 := base_mono L (show 1 < 2 by omega)
  have b23 := base_mono L (show 2 < 3 by omega)
  have hn1 := hL.n1
  constructor
  · exact E.fo
  · exact E.mo
  · intro k i x hk hi hx
    exact hWK.done k i x hk hk hi hx
  · exact hI.hdr
  · intro k x hk hx
    rw [hI.sec k x (by unfold Lay.tot; omega) hx, fillC_out _ _ _ _ _ _ _ hs0 (by left; omega), fillC_out _ _ _ _ _ _ _ hs0 (by left; omega), C2_low _ _ _ _ _ _ _ hs0 (by omega)]
    unfold C1
    rw [fillC_out _ _ _ _ _ _ _ hs0 (by left; omega)]
    show (if k < L.fats then _ else _) = _
    rw [if_pos hk]
  · intro i x hi hx
    have hlt : i * L.sz + x < dn := by
      rw [hdn]
      have := Nat.mul_le_mul_right L.sz (show i + 1 ≤ L.cnt 0 by omega)
      rw [Nat.add_mul] at this
      omega
    rw [hI.sec _ x (hL.base_lt (by omega) hi).1 hx, fillC_in, if_pos hlt]
    unfold dirK Lay.dirF
    rfl
  · intro i x hi hx
    have hlt : i * L.sz + x < 4 * mn := by
      rw [e4]
      have := Nat.mul_le_mul_right L.sz (show i + 1 ≤ L.cnt 1 by omega)
      rw [Nat.add_mul] at this
      omega
    rw [hI.sec _ x (hL.base_lt (by omega) hi).1 hx, fillC_out _ _ _ _ _ _ _ hs0 (by right; rw [hp0]; omega), fillC_out _ _ _ _ _ _ _ hs0 (by left; omega), C2_low _ _ _ _ _ _ _ hs0 (by omega)]
    unfold C1
    rw [fillC_in, if_pos hlt]
    have := sectF_in (fun _ => 0) 0 mfat 0 mn (i * L.sz + x) hlt
    rw [Nat.zero_add, Nat.zero_add] at this
    exact this
  · intro i x hi hx
    rw [hI.sec _ x (hL.base_lt (by omega) hi).1 hx, fillC_out _ _ _ _ _ _ _ hs0 (by right; rw [hp0]; omega), fillC_in, hwn]
    by_cases h : i * L.sz + x < 64 * L.minis
    · rw [if_pos h, if_pos h]
    · rw [if_neg h, if_neg h, C2_low _ _ _ _ _ _ _ hs0 (by omega)]
      exact C1_high L fat mfat mn _ x hs0 hp1 (by omega)
  · intro k i x hk hi hx
    have hb : (L.nd k).stream = true ∧ ¬ (L.nd k).len < 4096 := by
      unfold Lay.big at hi
      split at hi
      · assumption
      · omega
    have hc : i < L.cnt (3 + k) := by rw [cnt_big]; exact hi
    have b3k : L.base 3 ≤ L.base (3 + k) := by
      by_cases h0 : k = 0
      · subst h0; exact Nat.le_refl _
      · have := base_mono L (show 3 < 3 + k by omega); omega
    rw [hI.sec _ x (hL.base_lt (by omega) hc).1 hx, fillC_out _ _ _ _ _ _ _ hs0 (by right; rw [hp0]; omega), fillC_out _ _ _ _ _ _ _ hs0 (by right; rw [hp2]; omega), C2_own L fat mfat mn L.N k i x hs0 hk hb hc,
      C1_high L fat mfat mn _ x hs0 hp1 (by omega)]
end Go.Proofs.YtokpomdfgbbhlaaDoor

/- spec.Write: the ministream and the directory laid, the end. -/
namespace Go.Proofs.YtokpomdfgbbhlaaDoor
open Go Go.RowKit

set_option maxRecDepth 100000 in
set_option maxHeartbeats 8000000 in
theorem write_g (x3 x4 x5 x6 x8 x9 x10 x11 x12 x13 x15 x16 x21 x22 x26 x27 x28 x31 x32 x37 x38 x39 x40 x41 x42 x43 x46 x47 x48 x49 x50 x51 x52 x53 x54 x55 x56 x57 x58 x59 x60 x61 x62 x63 x64 x65 x66 x67 x68 x69 x70 x71 x72 x73 x74 x75 x76 x77 x78 x79 x80 x81 x82 x83 x84 x85 x86 x87 x88 x89 x90 x91 x92 x93 x94 x95 x96 x97 x98 x99 x100 x101 x102 x103 x104 x105 x106 x107 x108 x109 x110 x111 x112 x113 x114 x115 x116 x117 x118 x119 x120 x121 x122 x123 x124 x125 x126 x127 x128 x129 x130 x131 x132 x133 x134 x135 x136 x137 x138 x139 x140 x141 x142 x143 x144 x145 x146 x147 x148 x149 x150 x151 x152 x153 x154 x155 x156 x157 x158 x159 x160 x161 x162 x163 x164 x165 x166 x167 x168 x169 x170 x171 x172 x173 x174 x175 x176 x177 x178 x179 x180 x181 x182 x183 x184 x185 x186 x187 x188 x189 x190 x191 x192 x193 x194 x195 x196 x197 x198 x199 x200 x201 x202 x203 x204 x205 x206 x207 x208 x209 x210 x211 x212 x213 x214 x215 x216 x217 x218 x219 x220 x221 x222 x223 x224 x225 x226 x227 x228 x229 x230 x231 x232 x233 x234 x235 x236 x237 x238 x239 x240 x241 x242 x243 x244 x245 x246 x247 x248 x249 x250 x251 x252 x253 x254 x255 x256 x257 x258 x259 x260 x261 x262 x263 x264 x265 x266 x267 x268 x269 x270 x271 x272 x273 x274 x275 x276 x277 x278 x279 x280 x281 x282 x283 x284 x285 x286 x287 x288 x289 x290 x291 x292 x293 x294 x295 x296 x297 x298 x299 x300 x301 x302 x303 x304 x305 x306 x307 x308 x309 x310 x311 x312 x313 x314 x315 x316 x317 x318 x319 x320 x321 x322 x323 x324 x325 x326 x327 x328 x329 x330 x331 x332 x333 x334 x335 x336 x337 x338 x339 x340 x341 x342 x343 x344 x345 x346 x347 x348 x349 x350 x351 x352 x353 x354 x355 x356 x357 x358 x359 x360 x361 x362 x363 x364 x365 x366 x367 x368 x369 x370 x371 x372 x373 x374 x375 x376 x377 x378 x379 x380 x381 x382 x383 x384 x385 x386 x387 x388 x389 x390 x391 x392 x393 x394 x395 x396 x397 x398 x399 x400 x401 x402 x403 x404 x405 x406 x407 x408 x409 x410 x411 x412 x413 x414 x415 x416 x417 x418 x419 x420 x421 x422 x423 x424 x425 x426 x427 x428 x429 x430 x431 x432 x433 x434 x435 x436 x437 x438 x439 x440 x441 x442 x443 x444 x445 x446 x447 x448 x449 x450 x451 x452 x453 x454 x455 x456 x457 x458 x459 x460 x461 x462 x463 x464 x465 x466 x467 x468 x469 x470 x471 x472 x473 x474 x475 x476 x477 x478 x479 x480 x481 x482 x483 x484 x485 x486 x487 x488 x489 x490 x491 x492 x493 x494 x495 x496 x497 x498 x499 x500 x501 x502 x503 x504 x505 x506 x507 x508 x509 x510 x511 x512 x513 : Value) (L : Lay) (lb lcap zb xb fb fn mb mn pb pc b19 c19 b29 c29 b33 c33 ob outb fnb : Nat) (dv : Nat → Value) (fat mfat : Nat → Nat) (w0 w : World) (E : WEnv L w0 lb lcap fn mn pc c19 c29 c33 outb dv fat mfat) (hT : WTab w L zb xb fb fn mb mn pb b19 b29 b33 fat mfat) (hF0 : Fr [] w0 w) (wb db wn dn : Nat) (F W : Nat → UInt8) (hO : WOut w L zb xb ob outb fnb F) (hI : Img L F (C2 L fat mfat mn L.N)) (hwn : wn = 64 * L.minis) (hdn : dn = L.cnt 0 * L.sz) (hwb : Bts w wb wn W) (hWK : WholeK L L.N W) (hdb : Bts w db dn (dirK L L.N)) (hne : wb ≠ db ∧ wb ≠ outb ∧ db ≠ outb) :
    Code.wp Tryd.prog rest143 (bodyPost Tryd.prog Tryd.f10 (WPost L w0)) ⟨#[(.slice (some ⟨lb, 0, none⟩) L.N lcap), (.int .i64 L.ver), (.int .i64 L.step), x3, x4, x5, x6, (.pointer (some ⟨zb, 0, none⟩)), x8, x9, x10, x11, x12, x13, (I64 L.minis), x15, x16, (.int .i64 L.per), (.int .i64 (L.cnt 0)), (.slice (some ⟨b19, 0, none⟩) (3 + L.N) c19), (I64 L.sum), x21, x22, (I64 L.fats), (.slice (some ⟨pb, 0, none⟩) L.tot pc), (.pointer (some ⟨xb, 0, none⟩)), x26, x27, x28, (.slice (some ⟨b29, 0, none⟩) (3 + L.N) c29), (.slice (some ⟨mb, 0, none⟩) mn mn), x31, x32, (.slice (some ⟨b33, 0, none⟩) L.N c33), (.pointer (some ⟨ob, 0, none⟩)), (.pointer (some ⟨fnb, 0, none⟩)), (.func (.func 25) #[] #[.pointer (some ⟨xb, 0, none⟩), .pointer (some ⟨fnb, 0, none⟩)]), x37, x38, x39, x40, x41, x42, x43, (.slice (some ⟨wb, 0, none⟩) wn wn), (.slice (some ⟨db, 0, none⟩) dn dn), x46, x47, x48, x49, x50, x51, x52, x53, x54, x55, x56, x57, x58, x59, x60, x61, x62, x63, x64, x65, x66, x67, x68, x69, x70, x71, x72, x73, x74, x75, x76, x77, x78, x79, x80, x81, x82, x83, x84, x85, x86, x87, x88, x89, x90, x91, x92, x93, x94, x95, x96, x97, x98, x99, x100, x101, x102, x103, x104, x105, x106, x107, x108, x109, x110, x111, x112, x113, x114, x115, x116, x117, x118, x119, x120, x121, x122, x123, x124, x125, x126, x127, x128, x129, x130, x131, x132, x133, x134, x135, x136, x137, x138, x139, x140, x141, x142, x143, x144, x145, x146, x147, x148, x149, x150, x151, x152, x153, x154, x155, x156, x157, x158, x159, x160, x161, x162, x163, x164, x165, x166, x167, x168, x169, x170, x171, x172, x173, x174, x175, x176, x177, x178, x179, x180, x181, x182, x183, x184, x185, x186, x187, x188, x189, x190, x191, x192, x193, x194, x195, x196, x197, x198, x199, x200, x201, x202, x203, x204, x205, x206, x207, x208, x209, x210, x211, x212, x213, x214, x215, x216, x217, x218, x219, x220, x221, x222, x223, x224, x225, x226, x227, x228, x229, x230, x231, x232, x233, x234, x235, x236, x237, x238, x239, x240, x241, x242, x243, x244, x245, x246, x247, x248, x249, x250, x251, x252, x253, x254, x255, x256, x257, x258, x259, x260, x261, x262, x263, x264, x265, x266, x267, x268, x269, x270, x271, x272, x273, x274, x275, x276, x277, x278, x279, x280, x281, x282, x283, x284, x285, x286, x287, x288, x289, x290, x291, x292, x293, x294, x295, x296, x297, x298, x299, x300, x301, x302, x303, x304, x305, x306, x307, x308, x309, x310, x311, x312, x313, x314, x315, x316, x317, x318, x319, x320, x321, x322, x323, x324, x325, x326, x327, x328, x329, x330, x331, x332, x333, x334, x335, x336, x337, x338, x339, x340, x341, x342, x343, x344, x345, x346, x347, x348, x349, x350, x351, x352, x353, x354, x355, x356, x357, x358, x359, x360, x361, x362, x363, x364, x365, x366, x367, x368, x369, x370, x371, x372, x373, x374, x375, x376, x377, x378, x379, x380, x381, x382, x383, x384, x385, x386, x387, x388, x389, x390, x391, x392, x393, x394, x395, x396, x397, x398, x399, x400, x401, x402, x403, x404, x405, x406, x407, x408, x409, x410, x411, x412, x413, x414, x415, x416, x417, x418, x419, x420, x421, x422, x423, x424, x425, x426, x427, x428, x429, x430, x431, x432, x433, x434, x435, x436, x437, x438, x439, x440, x441, x442, x443, x444, x445, x446, x447, x448, x449, x450, x451, x452, x453, x454, x455, x456, x457, x458, x459, x460, x461, x462, x463, x464, x465, x466, x467, x468, x469, x470, x471, x472, x473, x474, x475, x476, x477, x478, x479, x480, x481, x482, x483, x484, x485, x486, x487, x488, x489, x490, x491, x492, x493, x494, x495, x496, x497, x498, x499, x500, x501, x502, x503, x504, x505, x506, x507, x508, x509, x510, x511, x512, x513], []⟩ w := by
  conv => arg 2; whnf
  conv => arg 4; dsimp only
  have hL := E.hL
  have hn1 := hL.n1
  have hml := hL.minis_le
  have hdn1 : dn ≤ 20480 := by
    rw [hdn]
    have h1 := (hL.cnt_le 0 (by omega)).2.1
    have h2 : L.sz ≤ 4096 := by rcases L.sz_or with ⟨e, _⟩ | ⟨e, _⟩ <;> omega
    exact Nat.le_trans (Nat.mul_le_mul h1 h2) (by omega)
  obtain ⟨ne1, ne2, ne3⟩ := hne
  have hp2 : partsN wn L.sz = L.cnt 2 := by
    rw [hwn, Nat.mul_comm]; rfl
  have hp0 : partsN dn L.sz = L.cnt 0 := by rw [hdn]; exact parts_mul _ _ (by rcases L.sz_or with ⟨e, _⟩ | ⟨e, _⟩ <;> omega)
  have hcon := Lib.hid (fill_chain E hT hO 2 wn wn wb 0 (some ⟨wb, 0, none⟩) W (by omega) hp2 ⟨Nat.le_refl _, by omega⟩ (fun _ => rfl) (fun i hi => by rw [Nat.zero_add]; exact (Blk.cell hwb i).trans (tab_get _ _ _ hi)) ne2)
  have himg := hI.fill (L.base 2) wn W (by rw [hp2]; exact base_cnt L 2 (by omega))
  have hn4 : (2 : Int) < 3 + (L.N : Int) := by omega
  have hn5 : (0 : Int) < 3 + (L.N : Int) := by omega
  have cs2 := hT.stc 2 (by omega)
  have HI := Lib.hid himg
  have HP := Lib.hid hp2
  have HP0 := Lib.hid hp0
  have HDN := Lib.hid hdn
  have HWN := Lib.hid hwn
  have HWK := Lib.hid hWK
  clear himg hp2 hp0 hdn hwn hWK
  go_upto_region 144 with (go_at_call 25; refine hcon.out.mono ?_; rintro e w3 ⟨rfl, hf3, hB3⟩)
  have hT3 := hT.frB hf3 hO.out
  have hO3 := hO.fr hf3 hB3
  have hF3 : Fr [] w0 w3 := hF0.trans hf3 (by have := E.ob_; simp; omega)
  have hdb3 : Bts w3 db dn (dirK L L.N) := Blk.fr hdb hf3 (by simpa using ne3)
  have cs0 := hT3.stc 0 (by omega)
  have hcon2 := Lib.hid (fill_chain E hT3 hO3 0 dn dn db 0 (some ⟨db, 0, none⟩) (dirK L L.N) (by omega) HP0.out ⟨Nat.le_refl _, by omega⟩ (fun _ => rfl) (fun i hi => by rw [Nat.zero_add]; exact (Blk.cell hdb3 i).trans (tab_get _ _ _ hi)) ne3)
  have himg2 := HI.out.fill (L.base 0) dn (dirK L L.N) (by rw [HP0.out]; exact base_cnt L 0 (by omega))
  have HI2 := Lib.hid himg2
  clear himg2 hcon cs2 hT hO hf3 hB3 hwb hdb
  go_upto_region 145 with (go_at_call 25; refine hcon2.out.mono ?_; rintro e w4 ⟨rfl, hf4, hB4⟩)
  have hO4 := hO3.fr hf4 hB4
  have hF4 : Fr [] w0 w4 := hF3.trans hf4 (by have := E.ob_; simp; omega)
  have co : w4.cell? ⟨ob, 0, none⟩ = some (.slice (some ⟨outb, 0, none⟩) L.bytes L.bytes) := hO4.ob_.cell 0
  have hwr := Lib.hid (wrote_of E W HI2.out HWN.out HDN.out HWK.out)
  clear hcon2 cs0 hT3 hO3 hf4 hdb3
  go_wp2_with fail
  go_ret
  exact ⟨outb, _, fat, mfat, W, rfl, hF4, E.ob_, hB4, hwr.out⟩
end Go.Proofs.YtokpomdfgbbhlaaDoor

/- spec.Write: the nodes' loop. -/
namespace Go.Proofs.YtokpomdfgbbhlaaDoor
open Go Go.RowKit

set_option maxRecDepth 100000 in
set_option maxHeartbeats 8000000 in
theorem write_e (x3 x4 x5 x6 x8 x9 x10 x11 x12 x13 x15 x16 x21 x22 x26 x27 x28 x31 x32 x37 x38 x39 x40 x41 x42 x43 x46 x47 x48 x49 x50 x51 x52 x53 x54 x55 x56 x57 x58 x59 x60 x61 x62 x63 x64 x65 x66 x67 x68 x69 x70 x71 x72 x73 x74 x75 x76 x77 x78 x79 x80 x81 x82 x83 x84 x85 x86 x87 x88 x89 x90 x91 x92 x93 x94 x95 x96 x97 x98 x99 x100 x101 x102 x103 x104 x105 x106 x107 x108 x109 x110 x111 x112 x113 x114 x115 x116 x117 x118 x119 x120 x121 x122 x123 x124 x125 x126 x127 x128 x129 x130 x131 x132 x133 x134 x135 x136 x137 x138 x139 x140 x141 x142 x143 x144 x145 x146 x147 x148 x149 x150 x151 x152 x153 x154 x155 x156 x157 x158 x159 x160 x161 x162 x163 x164 x165 x166 x167 x168 x169 x170 x171 x172 x173 x174 x175 x176 x177 x178 x179 x180 x181 x182 x183 x184 x185 x186 x187 x188 x189 x190 x191 x192 x193 x194 x195 x196 x197 x198 x199 x200 x201 x202 x203 x204 x205 x206 x207 x208 x209 x210 x211 x212 x213 x214 x215 x216 x217 x218 x219 x220 x221 x222 x223 x224 x225 x226 x227 x228 x229 x230 x231 x232 x233 x234 x235 x236 x237 x238 x239 x240 x241 x242 x243 x244 x245 x246 x247 x248 x249 x250 x251 x252 x253 x254 x255 x256 x257 x258 x259 x260 x261 x262 x263 x264 x265 x266 x267 x268 x269 x270 x271 x272 x273 x274 x275 x276 x277 x278 x279 x280 x281 x282 x283 x284 x285 x286 x287 x288 x289 x290 x291 x292 x293 x294 x295 x296 x297 x298 x299 x300 x301 x302 x303 x304 x305 x306 x307 x308 x309 x310 x311 x312 x313 x314 x315 x316 x317 x318 x319 x320 x321 x322 x323 x324 x325 x326 x327 x328 x329 x330 x331 x332 x333 x334 x335 x336 x337 x338 x339 x340 x341 x342 x343 x344 x345 x346 x347 x348 x349 x350 x351 x352 x353 x354 x355 x356 x357 x358 x359 x360 x361 x362 x363 x364 x365 x366 x367 x368 x369 x370 x371 x372 x373 x374 x375 x376 x377 x378 x379 x380 x381 x382 x383 x384 x385 x386 x387 x388 x389 x390 x391 x392 x393 x394 x395 x396 x397 x398 x399 x400 x401 x402 x403 x404 x405 x406 x407 x408 x409 x410 x411 x412 x413 x414 x415 x416 x417 x418 x419 x420 x421 x422 x423 x424 x425 x426 x427 x428 x429 x430 x431 x432 x433 x434 x435 x436 x437 x438 x439 x440 x441 x442 x443 x444 x445 x446 x447 x448 x449 x450 x451 x452 x453 x454 x455 x456 x457 x458 x459 x460 x461 x462 x463 x464 x465 x466 x467 x468 x469 x470 x471 x472 x473 x474 x475 x476 x477 x478 x479 x480 x481 x482 x483 x484 x485 x486 x487 x488 x489 x490 x491 x492 x493 x494 x495 x496 x497 x498 x499 x500 x501 x502 x503 x504 x505 x506 x507 x508 x509 x510 x511 x512 x513 : Value) (L : Lay) (lb lcap zb xb fb fn mb mn pb pc b19 c19 b29 c29 b33 c33 ob outb fnb : Nat) (dv : Nat → Value) (fat mfat : Nat → Nat) (w0 w : World) (E : WEnv L w0 lb lcap fn mn pc c19 c29 c33 outb dv fat mfat) (hT : WTab w L zb xb fb fn mb mn pb b19 b29 b33 fat mfat) (hF0 : Fr [] w0 w) (wb db wn dn : Nat) (F : Nat → UInt8) (hO : WOut w L zb xb ob outb fnb F) (hI : Img L F (C1 L fat mfat mn)) (hwn : wn = 64 * L.minis) (hdn : dn = L.cnt 0 * L.sz) (hwb : Bts w wb wn (fun _ => 0)) (hdb : Bts w db dn (fun y => freeE (y % 128))) (hne : wb ≠ db ∧ wb ≠ outb ∧ db ≠ outb) (hwb0 : w0.heap.size ≤ wb) (hdb0 : w0.heap.size ≤ db) :
    Code.wp Tryd.prog rest104 (bodyPost Tryd.prog Tryd.f10 (WPost L w0)) ⟨#[(.slice (some ⟨lb, 0, none⟩) L.N lcap), (.int .i64 L.ver), (.int .i64 L.step), x3, x4, x5, x6, (.pointer (some ⟨zb, 0, none⟩)), x8, x9, x10, x11, x12, x13, (I64 L.minis), x15, x16, (.int .i64 L.per), (.int .i64 (L.cnt 0)), (.slice (some ⟨b19, 0, none⟩) (3 + L.N) c19), (I64 L.sum), x21, x22, (I64 L.fats), (.slice (some ⟨pb, 0, none⟩) L.tot pc), (.pointer (some ⟨xb, 0, none⟩)), x26, x27, x28, (.slice (some ⟨b29, 0, none⟩) (3 + L.N) c29), (.slice (some ⟨mb, 0, none⟩) mn mn), x31, x32, (.slice (some ⟨b33, 0, none⟩) L.N c33), (.pointer (some ⟨ob, 0, none⟩)), (.pointer (some ⟨fnb, 0, none⟩)), (.func (.func 25) #[] #[.pointer (some ⟨xb, 0, none⟩), .pointer (some ⟨fnb, 0, none⟩)]), x37, x38, x39, x40, x41, x42, x43, (.slice (some ⟨wb, 0, none⟩) wn wn), (.slice (some ⟨db, 0, none⟩) dn dn), x46, x47, x48, x49, x50, x51, x52, x53, x54, x55, x56, x57, x58, x59, x60, x61, x62, x63, x64, x65, x66, x67, x68, x69, x70, x71, x72, x73, x74, x75, x76, x77, x78, x79, x80, x81, x82, x83, x84, x85, x86, x87, x88, x89, x90, x91, x92, x93, x94, x95, x96, x97, x98, x99, x100, x101, x102, x103, x104, x105, x106, x107, x108, x109, x110, x111, x112, x113, x114, x115, x116, x117, x118, x119, x120, x121, x122, x123, x124, x125, x126, x127, x128, x129, x130, x131, x132, x133, x134, x135, x136, x137, x138, x139, x140, x141, x142, x143, x144, x145, x146, x147, x148, x149, x150, x151, x152, x153, x154, x155, x156, x157, x158, x159, x160, x161, x162, x163, x164, x165, x166, x167, x168, x169, x170, x171, x172, x173, x174, x175, x176, x177, x178, x179, x180, x181, x182, x183, x184, x185, x186, x187, x188, x189, x190, x191, x192, x193, x194, x195, x196, x197, x198, x199, x200, x201, x202, x203, x204, x205, x206, x207, x208, x209, x210, x211, x212, x213, x214, x215, x216, x217, x218, x219, x220, x221, x222, x223, x224, x225, x226, x227, x228, x229, x230, x231, x232, x233, x234, x235, x236, x237, x238, x239, x240, x241, x242, x243, x244, x245, x246, x247, x248, x249, x250, x251, x252, x253, x254, x255, x256, x257, x258, x259, x260, x261, x262, x263, x264, x265, x266, x267, x268, x269, x270, x271, x272, x273, x274, x275, x276, x277, x278, x279, x280, x281, x282, x283, x284, x285, x286, x287, x288, x289, x290, x291, x292, x293, x294, x295, x296, x297, x298, x299, x300, x301, x302, x303, x304, x305, x306, x307, x308, x309, x310, x311, x312, x313, x314, x315, x316, x317, x318, x319, x320, x321, x322, x323, x324, x325, x326, x327, x328, x329, x330, x331, x332, x333, x334, x335, x336, x337, x338, x339, x340, x341, x342, x343, x344, x345, x346, x347, x348, x349, x350, x351, x352, x353, x354, x355, x356, x357, x358, x359, x360, x361, x362, x363, x364, x365, x366, x367, x368, x369, x370, x371, x372, x373, x374, x375, x376, x377, x378, x379, x380, x381, x382, x383, x384, x385, x386, x387, x388, x389, x390, x391, x392, x393, x394, x395, x396, x397, x398, x399, x400, x401, x402, x403, x404, x405, x406, x407, x408, x409, x410, x411, x412, x413, x414, x415, x416, x417, x418, x419, x420, x421, x422, x423, x424, x425, x426, x427, x428, x429, x430, x431, x432, x433, x434, x435, x436, x437, x438, x439, x440, x441, x442, x443, x444, x445, x446, x447, x448, x449, x450, x451, x452, x453, x454, x455, x456, x457, x458, x459, x460, x461, x462, x463, x464, x465, x466, x467, x468, x469, x470, x471, x472, x473, x474, x475, x476, x477, x478, x479, x480, x481, x482, x483, x484, x485, x486, x487, x488, x489, x490, x491, x492, x493, x494, x495, x496, x497, x498, x499, x500, x501, x502, x503, x504, x505, x506, x507, x508, x509, x510, x511, x512, x513], []⟩ w := by
  conv => arg 2; whnf
  conv => arg 4; dsimp only
  have hL := E.hL
  have hn1 := hL.n1
  have hn2 := hL.n2
  have hdq : 128 * L.N ≤ dn ∧ dn ≤ 20480 := by
    have h1 := le_partsN L.N (L.sz / 128) (by rcases L.per_or with ⟨h, _⟩ | ⟨h, _⟩ <;> omega)
    have h2 : L.cnt 0 = partsN L.N (L.sz / 128) := rfl
    have h3 := (hL.cnt_le 0 (by omega)).2.1
    rw [hdn, h2]
    rw [h2] at h3
    rcases L.per_or with ⟨h, _⟩ | ⟨h, _⟩ <;> rw [h] at h1 h3 ⊢ <;> omega
  obtain ⟨ne1, ne2, ne3⟩ := hne
  have hS : NStat L lb lcap zb xb fb fn mb mn pb pc b19 c19 b29 c29 b33 c33 ob outb fnb wb db wn dn dv fat mfat w0 w := ⟨E, hT, hF0, ⟨_, hO.out⟩, ⟨_, hwb⟩, ⟨_, hdb⟩, ne1, ne2, ne3, hwn, hdq.1, hdq.2⟩
  have h0 : NLoop L zb xb ob outb fnb wb db wn dn mn 0 fat mfat w w := by
    refine ⟨Fr.refl _ _, ⟨F, hO, hI⟩, ⟨_, hwb, ⟨fun j i x hj => by omega, fun j i x _ _ _ _ => rfl⟩⟩, hdb.congr (fun y _ => ?_)⟩
    unfold dirK
    rw [if_neg (by omega)]
  have HS := Lib.hid hS
  have H0 := Lib.hid h0
  have HDN := Lib.hid hdn
  have HWN := Lib.hid hwn
  clear h0 hS hL hdn hwn
  go_upto_block 26 with (fail)
  go_cut [] from 211 to 361 (fun w1 => NLoop L zb xb ob outb fnb wb db wn dn mn L.N fat mfat w w1)
  case first =>
    go_wp2_with fail
    go_loopw [361] (fun s361 wr => ∃ k : Nat, k ≤ L.N ∧ s361 = .int .i64 k ∧ NLoop L zb xb ob outb fnb wb db wn dn mn k fat mfat w wr) (fun s361 _ => L.N - (intOf s361).toNat)
    case atStart => exact ⟨0, by omega, rfl, H0.out⟩
    case round =>
      obtain ⟨k, hk, rfl, hN⟩ := hrel
      by_cases hlt : k < L.N
      · have hltI : (k : Int) < L.N := by omega
        go_upto_block 27 with (fail)
        rename (∀ (a : Act) (w : World), Code.wp Tryd.prog _ _ a w → _) => hK2
        refine wp_block ?_
        refine node_1 _ _ _ _ _ _ _ _ _ _ _ _ _ _ _ _ _ _ _ _ _ _ _ _ _ _ _ _ _ _ _ _ _ _ _ _ _ _ _ _ _ _ _ _ _ _ _ _ _ _ _ _ _ _ _ _ _ _ _ _ _ _ _ _ _ _ _ _ _ _ _ _ _ _ _ _ _ _ _ _ _ _ _ _ _ _ _ _ _ _ _ _ _ _ _ _ _ _ _ _ _ _ _ _ _ _ _ _ _ _ _ _ _ _ _ _ _ _ _ _ _ _ _ _ _ _ _ _ _ _ _ _ _ _ _ _ _ _ _ _ _ _ _ _ _ _ _ _ _ _ _ _ _ _ _ _ _ _ _ _ _ _ _ _ _ _ _ _ _ _ _ _ _ _ _ _ _ _ _ _ _ _ _ _ _ _ _ _ _ _ _ _ _ _ _ _ _ _ _ _ _ _ _ _ _ _ _ _ _ _ _ _ _ _ _ _ _ _ _ _ _ _ _ _ _ _ _ _ _ _ _ _ _ _ _ _ _ _ _ _ _ _ _ _ _ _ _ _ _ _ _ _ _ _ _ _ _ _ _ _ _ _ _ _ _ _ _ _ _ _ _ _ _ _ _ _ _ _ _ _ _ _ _ _ _ _ _ _ _ _ _ _ _ _ _ _ _ _ _ _ _ _ _ _ _ _ _ _ _ _ _ _ _ _ _ _ _ _ _ _ _ _ _ _ _ _ _ _ _ _ _ _ _ _ _ _ _ _ _ _ _ _ _ _ _ _ _ _ _ _ _ _ _ _ _ _ _ _ _ _ _ _ _ _ _ _ _ _ _ _ _ _ _ _ _ _ _ _ _ _ _ _ _ _ _ _ _ _ _ _ _ _ _ _ _ _ _ _ _ _ _ _ _ _ _ _ _ _ _ _ _ _ _ _ _ _ _ _ _ _ _ _ _ _ _ _ _ _ _ _ _ _ _ _ _ _ _ _ _ _ _ _ _ _ _ _ _ _ _ _ _ _ _ _ _ _ _ _ _ _ _ _ _ _ _ _ _ _ _ _ _ _ _ _ _ _ _ _ _ _ _ _ _ _ _ _ _ _ _ _ _ L lb lcap zb xb fb fn mb mn pb pc b19 c19 b29 c29 b33 c33 ob outb fnb wb db wn dn dv fat mfat w0 w _ k HS.out hwb0 hdb0 hlt _ ?_ hN
        intro y48 y49 y50 y51 y52 y53 y54 y55 y56 y57 y58 y363 y364 y365 y366 y367 y368 y369 y370 y371 y372 y373 y374 y375 y376 y377 y378 y379 y380 y381 y382 y383 y384 y385 y386 y387 y388 y389 y390 y391 y392 y393 y394 y395 y396 y397 y398 y399 y400 y401 y402 y403 y404 y405 y406 y407 y408 y409 y410 y411 y412 y413 y414 y415 y416 y417 y418 y419 y420 y421 y422 y423 y424 y425 y426 y427 y428 y429 y430 y431 y432 y433 y434 y435 y436 y437 y438 y439 y440 y441 y442 y443 y444 y445 y446 y447 y448 y449 y450 y451 y452 y453 y454 y455 y456 y457 y458 y459 y460 y461 y462 y463 y464 y465 y466 y467 y468 y469 y470 y471 y472 y473 y474 y475 y476 y477 y478 y479 y480 y481 y482 y483 y484 y485 y486 y487 y488 y489 y490 y491 y492 y493 y494 y495 y496 y497 y498 y499 w2 hN2
        refine hK2 _ _ ?_
        go_wp2_with fail
        go_roundw
        case rel => exact ⟨k + 1, by omega, by go_num, hN2⟩
        case measure => simp [intOf]; omega
      · have hkN : k = L.N := by omega
        rw [hkN] at hN
        clear hkN
        go_wp2_with fail
        go_meet
        case rel => exact hN
  case rest =>
  obtain ⟨hfr, ⟨F1, hO1, hI1⟩, ⟨W1, hW1, hWK1⟩, hD1⟩ := hcut
  rename (∀ (a : Act) (w : World), Code.wp Tryd.prog _ _ a w → _) => hK
  refine hK _ _ ?_
  exact write_g _ _ _ _ _ _ _ _ _ _ _ _ _ _ _ _ _ _ _ _ _ _ _ _ _ _ _ _ _ _ _ _ _ _ _ _ _ _ _ _ _ _ _ _ _ _ _ _ _ _ _ _ _ _ _ _ _ _ _ _ _ _ _ _ _ _ _ _ _ _ _ _ _ _ _ _ _ _ _ _ _ _ _ _ _ _ _ _ _ _ _ _ _ _ _ _ _ _ _ _ _ _ _ _ _ _ _ _ _ _ _ _ _ _ _ _ _ _ _ _ _ _ _ _ _ _ _ _ _ _ _ _ _ _ _ _ _ _ _ _ _ _ _ _ _ _ _ _ _ _ _ _ _ _ _ _ _ _ _ _ _ _ _ _ _ _ _ _ _ _ _ _ _ _ _ _ _ _ _ _ _ _ _ _ _ _ _ _ _ _ _ _ _ _ _ _ _ _ _ _ _ _ _ _ _ _ _ _ _ _ _ _ _ _ _ _ _ _ _ _ _ _ _ _ _ _ _ _ _ _ _ _ _ _ _ _ _ _ _ _ _ _ _ _ _ _ _ _ _ _ _ _ _ _ _ _ _ _ _ _ _ _ _ _ _ _ _ _ _ _ _ _ _ _ _ _ _ _ _ _ _ _ _ _ _ _ _ _ _ _ _ _ _ _ _ _ _ _ _ _ _ _ _ _ _ _ _ _ _ _ _ _ _ _ _ _ _ _ _ _ _ _ _ _ _ _ _ _ _ _ _ _ _ _ _ _ _ _ _ _ _ _ _ _ _ _ _ _ _ _ _ _ _ _ _ _ _ _ _ _ _ _ _ _ _ _ _ _ _ _ _ _ _ _ _ _ _ _ _ _ _ _ _ _ _ _ _ _ _ _ _ _ _ _ _ _ _ _ _ _ _ _ _ _ _ _ _ _ _ _ _ _ _ _ _ _ _ _ _ _ _ _ _ _ _ _ _ _ _ _ _ _ _ _ _ _ _ _ _ _ _ _ _ _ _ _ _ _ _ _ _ _ _ _ _ _ _ _ _ _ _ _ _ _ _ _ _ _ _ _ _ _ _ _ _ _ _ _ _ _ _ _ _ _ _ _ _ _ _ _ _ _ _ _ L lb lcap zb xb fb fn mb mn pb pc b19 c19 b29 c29 b33 c33 ob outb fnb dv fat mfat w0 _ E (HS.out.tab hfr) (hF0.trans hfr (by have := E.ob_; simp; omega)) wb db wn dn F1 W1 hO1 hI1 HWN.out HDN.out hW1 hWK1 hD1 ⟨ne1, ne2, ne3⟩
end Go.Proofs.YtokpomdfgbbhlaaDoor

/- spec.Write: the ministream's table, the ministream and the directory made. -/
namespace Go.Proofs.YtokpomdfgbbhlaaDoor
open Go Go.RowKit

set_option maxRecDepth 100000 in
set_option maxHeartbeats 8000000 in
theorem write_d (x3 x4 x5 x6 x8 x9 x10 x11 x12 x13 x15 x16 x21 x22 x26 x27 x28 x31 x32 x37 x38 x39 x40 x41 x42 x43 x44 x45 x46 x47 x48 x49 x50 x51 x52 x53 x54 x55 x56 x57 x58 x59 x60 x61 x62 x63 x64 x65 x66 x67 x68 x69 x70 x71 x72 x73 x74 x75 x76 x77 x78 x79 x80 x81 x82 x83 x84 x85 x86 x87 x88 x89 x90 x91 x92 x93 x94 x95 x96 x97 x98 x99 x100 x101 x102 x103 x104 x105 x106 x107 x108 x109 x110 x111 x112 x113 x114 x115 x116 x117 x118 x119 x120 x121 x122 x123 x124 x125 x126 x127 x128 x129 x130 x131 x132 x133 x134 x135 x136 x137 x138 x139 x140 x141 x142 x143 x144 x145 x146 x147 x148 x149 x150 x151 x152 x153 x154 x155 x156 x157 x158 x159 x160 x161 x162 x163 x164 x165 x166 x167 x168 x169 x170 x171 x172 x173 x174 x175 x176 x177 x178 x179 x180 x181 x182 x183 x184 x185 x186 x187 x188 x189 x190 x191 x192 x193 x194 x195 x196 x197 x198 x199 x200 x201 x202 x203 x204 x205 x206 x207 x208 x209 x210 x211 x212 x213 x214 x215 x216 x217 x218 x219 x220 x221 x222 x223 x224 x225 x226 x227 x228 x229 x230 x231 x232 x233 x234 x235 x236 x237 x238 x239 x240 x241 x242 x243 x244 x245 x246 x247 x248 x249 x250 x251 x252 x253 x254 x255 x256 x257 x258 x259 x260 x261 x262 x263 x264 x265 x266 x267 x268 x269 x270 x271 x272 x273 x274 x275 x276 x277 x278 x279 x280 x281 x282 x283 x284 x285 x286 x287 x288 x289 x290 x291 x292 x293 x294 x295 x296 x297 x298 x299 x300 x301 x302 x303 x304 x305 x306 x307 x308 x309 x310 x311 x312 x313 x314 x315 x316 x317 x318 x319 x320 x321 x322 x323 x324 x325 x326 x327 x328 x329 x330 x331 x332 x333 x334 x335 x336 x337 x338 x339 x340 x341 x342 x343 x344 x345 x346 x347 x348 x349 x350 x351 x352 x353 x354 x355 x356 x357 x358 x359 x360 x361 x362 x363 x364 x365 x366 x367 x368 x369 x370 x371 x372 x373 x374 x375 x376 x377 x378 x379 x380 x381 x382 x383 x384 x385 x386 x387 x388 x389 x390 x391 x392 x393 x394 x395 x396 x397 x398 x399 x400 x401 x402 x403 x404 x405 x406 x407 x408 x409 x410 x411 x412 x413 x414 x415 x416 x417 x418 x419 x420 x421 x422 x423 x424 x425 x426 x427 x428 x429 x430 x431 x432 x433 x434 x435 x436 x437 x438 x439 x440 x441 x442 x443 x444 x445 x446 x447 x448 x449 x450 x451 x452 x453 x454 x455 x456 x457 x458 x459 x460 x461 x462 x463 x464 x465 x466 x467 x468 x469 x470 x471 x472 x473 x474 x475 x476 x477 x478 x479 x480 x481 x482 x483 x484 x485 x486 x487 x488 x489 x490 x491 x492 x493 x494 x495 x496 x497 x498 x499 x500 x501 x502 x503 x504 x505 x506 x507 x508 x509 x510 x511 x512 x513 : Value) (L : Lay) (lb lcap zb xb fb fn mb mn pb pc b19 c19 b29 c29 b33 c33 ob outb fnb : Nat) (dv : Nat → Value) (fat mfat : Nat → Nat) (w0 w : World) (E : WEnv L w0 lb lcap fn mn pc c19 c29 c33 outb dv fat mfat) (hT : WTab w L zb xb fb fn mb mn pb b19 b29 b33 fat mfat) (hF0 : Fr [] w0 w) (F : Nat → UInt8) (hO : WOut w L zb xb ob outb fnb F) (hF : TabsOK L fat F) :
    Code.wp Tryd.prog rest86 (bodyPost Tryd.prog Tryd.f10 (WPost L w0)) ⟨#[(.slice (some ⟨lb, 0, none⟩) L.N lcap), (.int .i64 L.ver), (.int .i64 L.step), x3, x4, x5, x6, (.pointer (some ⟨zb, 0, none⟩)), x8, x9, x10, x11, x12, x13, (I64 L.minis), x15, x16, (.int .i64 L.per), (.int .i64 (L.cnt 0)), (.slice (some ⟨b19, 0, none⟩) (3 + L.N) c19), (I64 L.sum), x21, x22, (I64 L.fats), (.slice (some ⟨pb, 0, none⟩) L.tot pc), (.pointer (some ⟨xb, 0, none⟩)), x26, x27, x28, (.slice (some ⟨b29, 0, none⟩) (3 + L.N) c29), (.slice (some ⟨mb, 0, none⟩) mn mn), x31, x32, (.slice (some ⟨b33, 0, none⟩) L.N c33), (.pointer (some ⟨ob, 0, none⟩)), (.pointer (some ⟨fnb, 0, none⟩)), (.func (.func 25) #[] #[.pointer (some ⟨xb, 0, none⟩), .pointer (some ⟨fnb, 0, none⟩)]), x37, x38, x39, x40, x41, x42, x43, x44, x45, x46, x47, x48, x49, x50, x51, x52, x53, x54, x55, x56, x57, x58, x59, x60, x61, x62, x63, x64, x65, x66, x67, x68, x69, x70, x71, x72, x73, x74, x75, x76, x77, x78, x79, x80, x81, x82, x83, x84, x85, x86, x87, x88, x89, x90, x91, x92, x93, x94, x95, x96, x97, x98, x99, x100, x101, x102, x103, x104, x105, x106, x107, x108, x109, x110, x111, x112, x113, x114, x115, x116, x117, x118, x119, x120, x121, x122, x123, x124, x125, x126, x127, x128, x129, x130, x131, x132, x133, x134, x135, x136, x137, x138, x139, x140, x141, x142, x143, x144, x145, x146, x147, x148, x149, x150, x151, x152, x153, x154, x155, x156, x157, x158, x159, x160, x161, x162, x163, x164, x165, x166, x167, x168, x169, x170, x171, x172, x173, x174, x175, x176, x177, x178, x179, x180, x181, x182, x183, x184, x185, x186, x187, x188, x189, x190, x191, x192, x193, x194, x195, x196, x197, x198, x199, x200, x201, x202, x203, x204, x205, x206, x207, x208, x209, x210, x211, x212, x213, x214, x215, x216, x217, x218, x219, x220, x221, x222, x223, x224, x225, x226, x227, x228, x229, x230, x231, x232, x233, x234, x235, x236, x237, x238, x239, x240, x241, x242, x243, x244, x245, x246, x247, x248, x249, x250, x251, x252, x253, x254, x255, x256, x257, x258, x259, x260, x261, x262, x263, x264, x265, x266, x267, x268, x269, x270, x271, x272, x273, x274, x275, x276, x277, x278, x279, x280, x281, x282, x283, x284, x285, x286, x287, x288, x289, x290, x291, x292, x293, x294, x295, x296, x297, x298, x299, x300, x301, x302, x303, x304, x305, x306, x307, x308, x309, x310, x311, x312, x313, x314, x315, x316, x317, x318, x319, x320, x321, x322, x323, x324, x325, x326, x327, x328, x329, x330, x331, x332, x333, x334, x335, x336, x337, x338, x339, x340, x341, x342, x343, x344, x345, x346, x347, x348, x349, x350, x351, x352, x353, x354, x355, x356, x357, x358, x359, x360, x361, x362, x363, x364, x365, x366, x367, x368, x369, x370, x371, x372, x373, x374, x375, x376, x377, x378, x379, x380, x381, x382, x383, x384, x385, x386, x387, x388, x389, x390, x391, x392, x393, x394, x395, x396, x397, x398, x399, x400, x401, x402, x403, x404, x405, x406, x407, x408, x409, x410, x411, x412, x413, x414, x415, x416, x417, x418, x419, x420, x421, x422, x423, x424, x425, x426, x427, x428, x429, x430, x431, x432, x433, x434, x435, x436, x437, x438, x439, x440, x441, x442, x443, x444, x445, x446, x447, x448, x449, x450, x451, x452, x453, x454, x455, x456, x457, x458, x459, x460, x461, x462, x463, x464, x465, x466, x467, x468, x469, x470, x471, x472, x473, x474, x475, x476, x477, x478, x479, x480, x481, x482, x483, x484, x485, x486, x487, x488, x489, x490, x491, x492, x493, x494, x495, x496, x497, x498, x499, x500, x501, x502, x503, x504, x505, x506, x507, x508, x509, x510, x511, x512, x513], []⟩ w := by
  conv => arg 2; whnf
  conv => arg 4; dsimp only
  have hL := E.hL
  have hbyL := hL.bytes_le
  have hcl := hL.cnt_le 0 (by have := hL.n1; omega)
  have hn1 := hL.n1
  have hper : 128 ≤ L.per ∧ L.per ≤ 1024 := by rcases L.per_or with ⟨_, h⟩ | ⟨_, h⟩ <;> omega
  have hsz1 : 512 ≤ L.sz ∧ L.sz ≤ 4096 := by rcases L.per_or with ⟨h, _⟩ | ⟨h, _⟩ <;> omega
  have hmn : mn ≤ 10240 := by rw [E.mn_]; exact Nat.le_trans (Nat.mul_le_mul hcl.2.2 hper.2) (by omega)
  have hml := hL.minis_le
  have HE := Lib.hid E
  have HL := Lib.hid hL
  clear hL
  have hmk := Lib.hid (fun w0 => mk_u8 (4 * (mn : Int)) (4 * mn) (by omega) (by omega) w0)
  go_upto_region 86 with (fail)
  go_cut [41] from 211 to 311 (fun s41 w1 => s41 = .slice (some ⟨w.heap.size, 0, none⟩) (4 * mn) (4 * mn) ∧ Fr [] w w1 ∧ Bts w1 w.heap.size (4 * mn) (fun _ => 0))
  case first =>
    have hmk' := hmk.out
    go_wp2_with fail
    go_meet
    case rel => exact ⟨rfl, (Fr.refl _ _).alloc _, Blk.new w 5 (tab (4 * mn) (fun _ => .int .u8 0))⟩
  case rest =>
  obtain ⟨rfl, hf1, hm1⟩ := hcut
  have hTa := hT.fr0 hf1
  have hOa := hO.fr0 hf1
  have hFa := hF0.trans0 hf1
  have lob := hO.out.lt
  clear hmk
  go_upto_block 20 with (fail)
  go_cut [] from 312 to 314 (fun w2 => Fr [w.heap.size] wc w2 ∧ Bts w2 w.heap.size (4 * mn) (sectF (fun _ => 0) 0 mfat 0 mn))
  case first =>
    go_wp2_with fail
    go_loopw [314] (fun s314 wr => ∃ k : Nat, k ≤ mn ∧ s314 = .int .i64 k ∧ Fr [w.heap.size] wc wr ∧ Bts wr w.heap.size (4 * mn) (sectF (fun _ => 0) 0 mfat 0 k)) (fun s314 _ => mn - (intOf s314).toNat)
    case atStart => exact ⟨0, by omega, rfl, Fr.refl _ _, hm1⟩
    case round =>
      obtain ⟨k, hk, rfl, hf, hB⟩ := hrel
      by_cases hlt : k < mn
      · have hltI : (k : Int) < mn := by omega
        have hT1 := hTa.frB hf hm1
        have c5 := hT1.mt.cell k hlt
        have hmlt := HE.out.ml k hlt
        have hsf : sectF (fun _ => 0) 0 mfat 0 (k + 1) = upd (sectF (fun _ => 0) 0 mfat 0 k) (4 * k) 4 (mfat k) := by show upd _ (0 + 4 * k) 4 (mfat (0 + k)) = _; rw [Nat.zero_add, Nat.zero_add]
        have HSF := Lib.hid hsf
        clear hsf
        go_wp2_with fail
        refine (put_c w.heap.size 0 (4 * mn) (4 * mn) (4 * k) (mfat k) 4 (4 * mn) _ _ _ (by omega) (by omega) (by omega) _ _ hB (by omega) (by omega) (by omega) (by omega)).mono ?_
        rintro e w3 ⟨rfl, hf3, hB3⟩
        rw [Nat.zero_add, ← HSF.out] at hB3
        go_wp2_with fail
        go_roundw
        case rel => exact ⟨k + 1, by omega, by go_num, hf.trans_same hf3, hB3⟩
        case measure => simp [intOf]; omega
      · have hkN : k = mn := by omega
        rw [hkN] at hB
        clear hkN
        go_wp2_with fail
        go_meet
        case rel => exact ⟨hf, hB⟩
  case rest =>
  obtain ⟨hf2, hm2⟩ := hcut
  have hTb := hTa.frB hf2 hm1
  have hOb := hOa.frB hf2 hm1 (by omega)
  have hFb : Fr [] w0 wc := hFa.trans hf2 (by have := hF0.size; simp; omega)
  have c1 := hTb.stc 1 (by omega)
  have hp1 : partsN (4 * mn) L.sz = L.cnt 1 := by
    have e : 4 * mn = L.cnt 1 * L.sz := by
      rw [HE.out.mn_]
      have : L.sz = L.per * 4 := by rcases L.per_or with ⟨a, h⟩ | ⟨a, h⟩ <;> omega
      rw [this, Nat.mul_comm L.per 4, ← Nat.mul_assoc, ← Nat.mul_assoc, Nat.mul_comm 4]
    rw [e]
    apply Nat.le_antisymm
    · exact partsN_le (by omega) (Nat.le_refl _)
    · rcases Nat.lt_or_ge (partsN (L.cnt 1 * L.sz) L.sz) (L.cnt 1) with h | h
      · exfalso
        have h1 := le_partsN (L.cnt 1 * L.sz) L.sz (by omega)
        have h2 := Nat.mul_le_mul_right L.sz (show partsN (L.cnt 1 * L.sz) L.sz + 1 ≤ L.cnt 1 by omega)
        rw [Nat.add_mul] at h2
        omega
      · exact h
  have hbl : L.base 1 + partsN (4 * mn) L.sz ≤ L.tot := by
    rw [hp1]
    exact base_cnt L 1 (by omega)
  have hcon := Lib.hid (fill_chain HE.out hTb hOb 1 (4 * mn) (4 * mn) w.heap.size 0 (some ⟨w.heap.size, 0, none⟩) (sectF (fun _ => 0) 0 mfat 0 mn) (by omega) hp1 ⟨Nat.le_refl _, by omega⟩ (fun _ => rfl) (fun i hi => by rw [Nat.zero_add]; exact (hm2.cell i).trans (tab_get _ _ _ hi)) (by omega))
  have himg := hF.img.fill (L.base 1) (4 * mn) (sectF (fun _ => 0) 0 mfat 0 mn) hbl
  have hn4 : (1 : Int) < 3 + (L.N : Int) := by omega
  have HBL := Lib.hid hbl
  have HP1 := Lib.hid hp1
  clear hbl hp1
  go_upto_region 93 with (go_at_call 25; refine hcon.out.mono ?_; rintro e w3 ⟨rfl, hf3, hB3⟩)
  have hTc := hTb.frB hf3 hOb.out
  have hOc := hOb.fr hf3 hB3
  have hFc : Fr [] w0 w3 := hFb.trans hf3 (by have := HE.out.ob_; simp; omega)
  clear hTa hOa hFa hTb hOb hFb hf1 hf2 hf3 hB3 hcon c1 hm1 hm2 hO
  have hwn1 : 64 * L.minis ≤ 81920 := by omega
  have hdn1 : L.cnt 0 * L.sz ≤ 20480 := Nat.le_trans (Nat.mul_le_mul hcl.2.1 hsz1.2) (by omega)
  obtain ⟨dn, hdn⟩ : ∃ dn, dn = L.cnt 0 * L.sz := ⟨_, rfl⟩
  have hdnI : (L.cnt 0 : Int) * (L.sz : Int) = (dn : Int) := by rw [hdn, Int.natCast_mul]
  rw [← hdn] at hdn1
  have hd128 : dn % 128 = 0 := by
    rw [hdn]
    have : L.sz = 128 * (L.sz / 128) := by rcases L.per_or with ⟨h, _⟩ | ⟨h, _⟩ <;> omega
    rw [this, ← Nat.mul_assoc, Nat.mul_comm (L.cnt 0) 128, Nat.mul_assoc]
    omega
  have HDN := Lib.hid hdn
  clear hdn
  obtain ⟨nq, hnq⟩ : ∃ nq, nq = dn / 128 := ⟨_, rfl⟩
  have hnqI : (dn : Int) / 128 = (nq : Int) := by omega
  have hq1 : 128 * nq = dn := by omega
  have HNQ := Lib.hid hnq
  have HDI := Lib.hid hdnI
  have HNI := Lib.hid hnqI
  have HQ := Lib.hid hq1
  clear hnq hdnI hnqI hq1
  have hmk1 := Lib.hid (fun w0 => mk_u8 (64 * (L.minis : Int)) (64 * L.minis) (by omega) (by omega) w0)
  have hmk2 := Lib.hid (fun w0 => mk_u8 ((L.cnt 0 : Int) * (L.sz : Int)) dn HDI.out (by omega) w0)
  have hdI2 : (0 : Int) ≤ (L.cnt 0 : Int) * (L.sz : Int) ∧ (L.cnt 0 : Int) * (L.sz : Int) ≤ 20480 := by rw [HDI.out]; omega
  go_cut [44] from 312 to 334 (fun s44 w4 => s44 = .slice (some ⟨w3.heap.size, 0, none⟩) (64 * L.minis) (64 * L.minis) ∧ Fr [] w3 w4 ∧ Bts w4 w3.heap.size (64 * L.minis) (fun _ => 0))
  case first =>
    have hmk' := hmk1.out
    go_wp2_with fail
    go_meet
    case rel => exact ⟨rfl, (Fr.refl _ _).alloc _, Blk.new w3 5 (tab (64 * L.minis) (fun _ => .int .u8 0))⟩
  case rest =>
  obtain ⟨rfl, hf4, hwb⟩ := hcut
  have hTd := hTc.fr0 hf4
  have hOd := hOc.fr0 hf4
  have hFd := hFc.trans0 hf4
  have lob3 := hOc.out.lt
  have hw30 := hFc.size
  have lwb : w3.heap.size < wc.heap.size := hwb.lt
  obtain ⟨db, hdbe⟩ : ∃ db, wc.heap.size = db := ⟨_, rfl⟩
  clear hmk1 hTc hOc hFc hf4
  go_upto_region 94 with (fail)
  have cz : wc.cell? ⟨zb, 0, none⟩ = some (I64 L.sz) := hTd.z.cell 0
  go_cut [45] from 312 to 338 (fun s45 w5 => s45 = .slice (some ⟨db, 0, none⟩) dn dn ∧ Fr [] wc w5 ∧ Bts w5 db dn (fun _ => 0))
  case first =>
    have hmk' := hmk2.out
    subst hdbe
    go_wp2_with fail
    go_meet
    case rel => exact ⟨rfl, (Fr.refl _ _).alloc _, Blk.new wc 5 (tab dn (fun _ => .int .u8 0))⟩
  case rest =>
  obtain ⟨rfl, hf5, hdb⟩ := hcut
  have hTe := hTd.fr0 hf5
  have hOe := hOd.fr0 hf5
  have hFe := hFd.trans0 hf5
  have hwb2 : Bts wc w3.heap.size (64 * L.minis) (fun _ => 0) := Blk.fr0 hwb hf5
  clear hmk2 hTd hOd hFd hf5 hwb
  have cz2 : wc.cell? ⟨zb, 0, none⟩ = some (I64 L.sz) := hTe.z.cell 0
  have hdI3 := HDI.out
  have hnI3 := HNI.out
  go_upto_block 22 with (fail)
  clear hdI3 hnI3
  rw [hdbe] at lwb
  have ldb : db < wc.heap.size := hdb.lt
  go_cut [] from 339 to 343 (fun w6 => Fr [db] wc w6 ∧ Bts w6 db dn (freeD nq))
  case first =>
    go_wp2_with fail
    go_loopw [343] (fun s343 wr => ∃ k : Nat, k ≤ nq ∧ s343 = .int .i64 k ∧ Fr [db] wc wr ∧ Bts wr db dn (freeD k)) (fun s343 _ => nq - (intOf s343).toNat)
    case atStart => exact ⟨0, by omega, rfl, Fr.refl _ _, hdb⟩
    case round =>
      obtain ⟨k, hk, rfl, hf, hB⟩ := hrel
      have hq1 := HQ.out
      by_cases hlt : k < nq
      · have hltI : (k : Int) < nq := by omega
        have hfd : freeD (k + 1) = sectF (freeD k) (128 * k + 68) (fun _ => 4294967295) 0 3 := rfl
        have HFD := Lib.hid hfd
        have hkb : 128 * k + 128 ≤ dn := by omega
        clear hfd hq1
        generalize freeD k = g at *
        go_wp2_with fail
        go_loopw [346] (fun s346 wi => ∃ j : Nat, j ≤ 3 ∧ s346 = .int .i64 j ∧ Fr [db] wr wi ∧ Bts wi db dn (sectF g (128 * k + 68) (fun _ => 4294967295) 0 j)) (fun s346 _ => 3 - (intOf s346).toNat)
        case atStart => exact ⟨0, by omega, rfl, Fr.refl _ _, hB⟩
        case round =>
          obtain ⟨j, hj, rfl, hfi, hBi⟩ := hrel
          by_cases hlj : j < 3
          · have hljI : (j : Int) < 3 := by omega
            have hsf : sectF g (128 * k + 68) (fun _ => 4294967295) 0 (j + 1) = upd (sectF g (128 * k + 68) (fun _ => 4294967295) 0 j) (128 * k + 68 + 4 * j) 4 4294967295 := rfl
            have HSF := Lib.hid hsf
            clear hsf
            go_wp2_with fail
            refine (put_c db 0 dn dn (128 * k + 68 + 4 * j) 4294967295 4 dn _ _ _ (by omega) (by omega) (by omega) _ _ hBi (by omega) (by omega) (by omega) (by omega)).mono ?_
            rintro e w7 ⟨rfl, hf7, hB7⟩
            rw [Nat.zero_add, ← HSF.out] at hB7
            go_wp2_with fail
            go_roundw
            case rel => exact ⟨j + 1, by omega, by go_num, hfi.trans_same hf7, hB7⟩
            case measure => simp [intOf]; omega
          · obtain rfl : j = 3 := by omega
            go_wp2_with fail
            go_roundw
            case rel => exact ⟨k + 1, by omega, by go_num, hf.trans_same hfi, by rw [HFD.out]; exact hBi⟩
            case measure => simp [intOf]; omega
      · have hkN : k = nq := by omega
        rw [hkN] at hB
        clear hkN
        go_wp2_with fail
        go_meet
        case rel => exact ⟨hf, hB⟩
  case rest =>
  obtain ⟨hf6, hdb6⟩ := hcut
  rename (∀ (a : Act) (w : World), Code.wp Tryd.prog _ _ a w → _) => hK
  refine hK _ _ ?_
  have hwb6 : Bts wc w3.heap.size (64 * L.minis) (fun _ => 0) := Blk.fr hwb2 hf6 (by simp; omega)
  have hdb7 : Bts wc db dn (fun y => freeE (y % 128)) := hdb6.congr (fun y hy => (freeD_ok nq).1 y (by have := HQ.out; omega))
  exact write_e _ _ _ _ _ _ _ _ _ _ _ _ _ _ _ _ _ _ _ _ _ _ _ _ _ _ _ _ _ _ _ _ _ _ _ _ _ _ _ _ _ _ _ _ _ _ _ _ _ _ _ _ _ _ _ _ _ _ _ _ _ _ _ _ _ _ _ _ _ _ _ _ _ _ _ _ _ _ _ _ _ _ _ _ _ _ _ _ _ _ _ _ _ _ _ _ _ _ _ _ _ _ _ _ _ _ _ _ _ _ _ _ _ _ _ _ _ _ _ _ _ _ _ _ _ _ _ _ _ _ _ _ _ _ _ _ _ _ _ _ _ _ _ _ _ _ _ _ _ _ _ _ _ _ _ _ _ _ _ _ _ _ _ _ _ _ _ _ _ _ _ _ _ _ _ _ _ _ _ _ _ _ _ _ _ _ _ _ _ _ _ _ _ _ _ _ _ _ _ _ _ _ _ _ _ _ _ _ _ _ _ _ _ _ _ _ _ _ _ _ _ _ _ _ _ _ _ _ _ _ _ _ _ _ _ _ _ _ _ _ _ _ _ _ _ _ _ _ _ _ _ _ _ _ _ _ _ _ _ _ _ _ _ _ _ _ _ _ _ _ _ _ _ _ _ _ _ _ _ _ _ _ _ _ _ _ _ _ _ _ _ _ _ _ _ _ _ _ _ _ _ _ _ _ _ _ _ _ _ _ _ _ _ _ _ _ _ _ _ _ _ _ _ _ _ _ _ _ _ _ _ _ _ _ _ _ _ _ _ _ _ _ _ _ _ _ _ _ _ _ _ _ _ _ _ _ _ _ _ _ _ _ _ _ _ _ _ _ _ _ _ _ _ _ _ _ _ _ _ _ _ _ _ _ _ _ _ _ _ _ _ _ _ _ _ _ _ _ _ _ _ _ _ _ _ _ _ _ _ _ _ _ _ _ _ _ _ _ _ _ _ _ _ _ _ _ _ _ _ _ _ _ _ _ _ _ _ _ _ _ _ _ _ _ _ _ _ _ _ _ _ _ _ _ _ _ _ _ _ _ _ _ _ _ _ _ _ _ _ _ _ _ _ _ _ _ _ _ _ _ _ _ _ _ _ _ _ _ _ _ _ _ _ _ L lb lcap zb xb fb fn mb mn pb pc b19 c19 b29 c29 b33 c33 ob outb fnb dv fat mfat w0 _ HE.out (hTe.frB hf6 hdb) (hFe.trans hf6 (by simp; omega)) w3.heap.size db (64 * L.minis) dn _ (hOe.frB hf6 hdb (by omega)) himg rfl HDN.out hwb6 hdb7 ⟨by omega, by omega, by omega⟩ (by omega) (by omega)
end Go.Proofs.YtokpomdfgbbhlaaDoor

/- spec.Write: the tables' sectors. -/
namespace Go.Proofs.YtokpomdfgbbhlaaDoor
open Go Go.RowKit

set_option maxRecDepth 100000 in
set_option maxHeartbeats 8000000 in
theorem write_c (x3 x4 x5 x6 x8 x9 x10 x11 x12 x13 x15 x16 x21 x22 x26 x27 x28 x31 x32 x37 x38 x39 x40 x41 x42 x43 x44 x45 x46 x47 x48 x49 x50 x51 x52 x53 x54 x55 x56 x57 x58 x59 x60 x61 x62 x63 x64 x65 x66 x67 x68 x69 x70 x71 x72 x73 x74 x75 x76 x77 x78 x79 x80 x81 x82 x83 x84 x85 x86 x87 x88 x89 x90 x91 x92 x93 x94 x95 x96 x97 x98 x99 x100 x101 x102 x103 x104 x105 x106 x107 x108 x109 x110 x111 x112 x113 x114 x115 x116 x117 x118 x119 x120 x121 x122 x123 x124 x125 x126 x127 x128 x129 x130 x131 x132 x133 x134 x135 x136 x137 x138 x139 x140 x141 x142 x143 x144 x145 x146 x147 x148 x149 x150 x151 x152 x153 x154 x155 x156 x157 x158 x159 x160 x161 x162 x163 x164 x165 x166 x167 x168 x169 x170 x171 x172 x173 x174 x175 x176 x177 x178 x179 x180 x181 x182 x183 x184 x185 x186 x187 x188 x189 x190 x191 x192 x193 x194 x195 x196 x197 x198 x199 x200 x201 x202 x203 x204 x205 x206 x207 x208 x209 x210 x211 x212 x213 x214 x215 x216 x217 x218 x219 x220 x221 x222 x223 x224 x225 x226 x227 x228 x229 x230 x231 x232 x233 x234 x235 x236 x237 x238 x239 x240 x241 x242 x243 x244 x245 x246 x247 x248 x249 x250 x251 x252 x253 x254 x255 x256 x257 x258 x259 x260 x261 x262 x263 x264 x265 x266 x267 x268 x269 x270 x271 x272 x273 x274 x275 x276 x277 x278 x279 x280 x281 x282 x283 x284 x285 x286 x287 x288 x289 x290 x291 x292 x293 x294 x295 x296 x297 x298 x299 x300 x301 x302 x303 x304 x305 x306 x307 x308 x309 x310 x311 x312 x313 x314 x315 x316 x317 x318 x319 x320 x321 x322 x323 x324 x325 x326 x327 x328 x329 x330 x331 x332 x333 x334 x335 x336 x337 x338 x339 x340 x341 x342 x343 x344 x345 x346 x347 x348 x349 x350 x351 x352 x353 x354 x355 x356 x357 x358 x359 x360 x361 x362 x363 x364 x365 x366 x367 x368 x369 x370 x371 x372 x373 x374 x375 x376 x377 x378 x379 x380 x381 x382 x383 x384 x385 x386 x387 x388 x389 x390 x391 x392 x393 x394 x395 x396 x397 x398 x399 x400 x401 x402 x403 x404 x405 x406 x407 x408 x409 x410 x411 x412 x413 x414 x415 x416 x417 x418 x419 x420 x421 x422 x423 x424 x425 x426 x427 x428 x429 x430 x431 x432 x433 x434 x435 x436 x437 x438 x439 x440 x441 x442 x443 x444 x445 x446 x447 x448 x449 x450 x451 x452 x453 x454 x455 x456 x457 x458 x459 x460 x461 x462 x463 x464 x465 x466 x467 x468 x469 x470 x471 x472 x473 x474 x475 x476 x477 x478 x479 x480 x481 x482 x483 x484 x485 x486 x487 x488 x489 x490 x491 x492 x493 x494 x495 x496 x497 x498 x499 x500 x501 x502 x503 x504 x505 x506 x507 x508 x509 x510 x511 x512 x513 : Value) (L : Lay) (lb lcap zb xb fb fn mb mn pb pc b19 c19 b29 c29 b33 c33 ob outb fnb : Nat) (dv : Nat → Value) (fat mfat : Nat → Nat) (w0 w : World) (E : WEnv L w0 lb lcap fn mn pc c19 c29 c33 outb dv fat mfat) (hT : WTab w L zb xb fb fn mb mn pb b19 b29 b33 fat mfat) (hF0 : Fr [] w0 w) (hO : WOut w L zb xb ob outb fnb (difat0 (hdrA L) 109)) :
    Code.wp Tryd.prog rest76 (bodyPost Tryd.prog Tryd.f10 (WPost L w0)) ⟨#[(.slice (some ⟨lb, 0, none⟩) L.N lcap), (.int .i64 L.ver), (.int .i64 L.step), x3, x4, x5, x6, (.pointer (some ⟨zb, 0, none⟩)), x8, x9, x10, x11, x12, x13, (I64 L.minis), x15, x16, (.int .i64 L.per), (.int .i64 (L.cnt 0)), (.slice (some ⟨b19, 0, none⟩) (3 + L.N) c19), (I64 L.sum), x21, x22, (I64 L.fats), (.slice (some ⟨pb, 0, none⟩) L.tot pc), (.pointer (some ⟨xb, 0, none⟩)), x26, x27, x28, (.slice (some ⟨b29, 0, none⟩) (3 + L.N) c29), (.slice (some ⟨mb, 0, none⟩) mn mn), x31, x32, (.slice (some ⟨b33, 0, none⟩) L.N c33), (.pointer (some ⟨ob, 0, none⟩)), (.pointer (some ⟨fnb, 0, none⟩)), (.func (.func 25) #[] #[.pointer (some ⟨xb, 0, none⟩), .pointer (some ⟨fnb, 0, none⟩)]), x37, x38, x39, x40, x41, x42, x43, x44, x45, x46, x47, x48, x49, x50, x51, x52, x53, x54, x55, x56, x57, x58, x59, x60, x61, x62, x63, x64, x65, x66, x67, x68, x69, x70, x71, x72, x73, x74, x75, x76, x77, x78, x79, x80, x81, x82, x83, x84, x85, x86, x87, x88, x89, x90, x91, x92, x93, x94, x95, x96, x97, x98, x99, x100, x101, x102, x103, x104, x105, x106, x107, x108, x109, x110, x111, x112, x113, x114, x115, x116, x117, x118, x119, x120, x121, x122, x123, x124, x125, x126, x127, x128, x129, x130, x131, x132, x133, x134, x135, x136, x137, x138, x139, x140, x141, x142, x143, x144, x145, x146, x147, x148, x149, x150, x151, x152, x153, x154, x155, x156, x157, x158, x159, x160, x161, x162, x163, x164, x165, x166, x167, x168, x169, x170, x171, x172, x173, x174, x175, x176, x177, x178, x179, x180, x181, x182, x183, x184, x185, x186, x187, x188, x189, x190, x191, x192, x193, x194, x195, x196, x197, x198, x199, x200, x201, x202, x203, x204, x205, x206, x207, x208, x209, x210, x211, x212, x213, x214, x215, x216, x217, x218, x219, x220, x221, x222, x223, x224, x225, x226, x227, x228, x229, x230, x231, x232, x233, x234, x235, x236, x237, x238, x239, x240, x241, x242, x243, x244, x245, x246, x247, x248, x249, x250, x251, x252, x253, x254, x255, x256, x257, x258, x259, x260, x261, x262, x263, x264, x265, x266, x267, x268, x269, x270, x271, x272, x273, x274, x275, x276, x277, x278, x279, x280, x281, x282, x283, x284, x285, x286, x287, x288, x289, x290, x291, x292, x293, x294, x295, x296, x297, x298, x299, x300, x301, x302, x303, x304, x305, x306, x307, x308, x309, x310, x311, x312, x313, x314, x315, x316, x317, x318, x319, x320, x321, x322, x323, x324, x325, x326, x327, x328, x329, x330, x331, x332, x333, x334, x335, x336, x337, x338, x339, x340, x341, x342, x343, x344, x345, x346, x347, x348, x349, x350, x351, x352, x353, x354, x355, x356, x357, x358, x359, x360, x361, x362, x363, x364, x365, x366, x367, x368, x369, x370, x371, x372, x373, x374, x375, x376, x377, x378, x379, x380, x381, x382, x383, x384, x385, x386, x387, x388, x389, x390, x391, x392, x393, x394, x395, x396, x397, x398, x399, x400, x401, x402, x403, x404, x405, x406, x407, x408, x409, x410, x411, x412, x413, x414, x415, x416, x417, x418, x419, x420, x421, x422, x423, x424, x425, x426, x427, x428, x429, x430, x431, x432, x433, x434, x435, x436, x437, x438, x439, x440, x441, x442, x443, x444, x445, x446, x447, x448, x449, x450, x451, x452, x453, x454, x455, x456, x457, x458, x459, x460, x461, x462, x463, x464, x465, x466, x467, x468, x469, x470, x471, x472, x473, x474, x475, x476, x477, x478, x479, x480, x481, x482, x483, x484, x485, x486, x487, x488, x489, x490, x491, x492, x493, x494, x495, x496, x497, x498, x499, x500, x501, x502, x503, x504, x505, x506, x507, x508, x509, x510, x511, x512, x513], []⟩ w := by
  conv => arg 2; whnf
  have hL := E.hL
  obtain ⟨hft1, hft2, hft3⟩ := hL.fats_ok
  have hbyL := hL.bytes_le
  have hpc := E.pc_
  have hfc : L.fats ≤ L.tot := by unfold Lay.tot; omega
  have hfpc : L.fats ≤ pc := by omega
  have hper : 128 ≤ L.per ∧ L.per ≤ 1024 := by rcases L.per_or with ⟨_, h⟩ | ⟨_, h⟩ <;> omega
  have hszp : L.sz = 4 * L.per := by rcases L.per_or with ⟨a, h⟩ | ⟨a, h⟩ <;> omega
  have htot1 : L.tot ≤ 606 := by have := hL.sum_le; unfold Lay.tot; omega
  have HE := Lib.hid E
  have HL := Lib.hid hL
  clear hL
  go_upto_block 16 with (fail)
  go_cut [] from 211 to 275 (fun w1 => Fr [outb] w w1 ∧ Bts w1 outb L.bytes (tabF L fat (difat0 (hdrA L) 109) L.fats))
  case first =>
    go_wp2_with fail
    go_loopw [275] (fun s275 wr => ∃ k : Nat, k ≤ L.fats ∧ s275 = .int .i64 k ∧ Fr [outb] w wr ∧ Bts wr outb L.bytes (tabF L fat (difat0 (hdrA L) 109) k)) (fun s275 _ => L.fats - (intOf s275).toNat)
    case atStart => exact ⟨0, by omega, rfl, Fr.refl _ _, hO.out⟩
    case round =>
      obtain ⟨k, hk, rfl, hf, hB⟩ := hrel
      have hO1 := hO.fr hf hB
      have hT1 := hT.frB hf hO.out
      have co : _ = some (Value.slice (some ⟨outb, 0, none⟩) L.bytes L.bytes) := hO1.ob_.cell 0
      by_cases hlt : k < L.fats
      · have hltI : (k : Int) < L.fats := by omega
        have cp := hT1.plc k (by omega)
        have hpl := HL.out.pl_lt k
        go_wp2_with fail
        refine (put_c outb 0 L.bytes L.bytes (76 + 4 * k) (L.pl k) 4 L.bytes _ _ _ (by omega) (by omega) (by omega) _ _ hO1.out (by omega) (by omega) (by omega) (by omega)).mono ?_
        rintro e w2 ⟨rfl, hf2, hB2⟩
        rw [Nat.zero_add] at hB2
        have hO2 := hO1.fr hf2 hB2
        have hT2 := hT1.frB hf2 hO1.out
        have hF2 := hf.trans_same hf2
        have htf : tabF L fat (difat0 (hdrA L) 109) (k + 1) = sectF (upd (tabF L fat (difat0 (hdrA L) 109) k) (76 + 4 * k) 4 (L.pl k)) (L.sec k) fat (k * L.per) L.per := rfl
        have HTF := Lib.hid htf
        generalize hg : upd (tabF L fat (difat0 (hdrA L) 109) k) (76 + 4 * k) 4 (L.pl k) = g at *
        clear hO1 hT1 hB2 hf hf2 hB co cp htf hg
        go_wp2_with fail
        go_loopw [288] (fun s288 wi => ∃ j : Nat, j ≤ L.per ∧ s288 = .int .i64 j ∧ Fr [outb] w2 wi ∧ Bts wi outb L.bytes (sectF g (L.sec k) fat (k * L.per) j)) (fun s288 _ => L.per - (intOf s288).toNat)
        case atStart => exact ⟨0, by omega, rfl, Fr.refl _ _, hO2.out⟩
        case round =>
          obtain ⟨j, hj, rfl, hfi, hBi⟩ := hrel
          by_cases hlj : j < L.per
          · have hljI : (j : Int) < L.per := by omega
            have hO3 := hO2.fr hfi hBi
            have hT3 := hT2.frB hfi hO2.out
            have c1 := hO3.fnb_.cell 0
            have c2 : _ = some (Value.slice (some ⟨outb, 0, none⟩) L.bytes L.bytes) := hO3.ob_.cell 0
            have c3 := hT3.x.cell 0
            have c4 := hT3.z.cell 0
            have hkp : k * L.per + j < fn := by
              have h1 := Nat.mul_le_mul_right L.per (show k + 1 ≤ L.fats by omega)
              rw [Nat.add_mul] at h1
              rw [HE.out.fn_]
              omega
            have c5 := hT3.ft.cell (k * L.per + j) hkp
            have hsec : L.sec k + L.sz ≤ L.bytes := by
              have h1 := Nat.mul_le_mul_left L.sz (show 1 + L.pl k + 1 ≤ 1 + L.tot by omega)
              rw [Nat.mul_add L.sz (1 + L.pl k) 1] at h1
              unfold Lay.sec Lay.bytes
              omega
            have hcs : Calls Tryd.prog 24 #[.int .i64 (L.pl k), .pointer (some ⟨ob, 0, none⟩), .pointer (some ⟨zb, 0, none⟩)] wr.drew fun e w'' => e = .returned (.slice (some ⟨outb, L.sec k, none⟩) L.sz (L.bytes - L.sec k)) ∧ w'' = wr.drew :=
              (sector_any (L.pl k) ob zb outb L.bytes L.sz (L.sec k) wr.drew c2 c4 rfl hsec (by omega) (by omega) (by omega) (by omega)).mono (fun e w'' h => ⟨h.1, h.2.symm⟩)
            obtain ⟨kp, hkp0⟩ : ∃ kp, kp = k * L.per := ⟨_, rfl⟩
            have hfl := HE.out.fl (k * L.per + j)
            have hfn : fn ≤ 6144 := by rw [HE.out.fn_]; exact Nat.le_trans (Nat.mul_le_mul hft3 hper.2) (by omega)
            rw [← hkp0] at hkp c5 hfl
            have hw1 : IntKind.i64.wrap (4 * (j : Int)) = 4 * (j : Int) := IntWalk.i64_in _ (by omega)
            have hw2 : IntKind.i64.wrap ((k : Int) * (L.per : Int)) = (kp : Int) := by rw [← Int.natCast_mul, ← hkp0]; exact IntWalk.i64_in _ (by omega)
            have hw3 : IntKind.i64.wrap ((kp : Int) + (j : Int)) = (kp : Int) + (j : Int) := IntWalk.i64_in _ (by omega)
            have hnat : ((kp : Int) + (j : Int)).toNat = kp + j := by omega
            have hge0 : (0 : Int) ≤ (kp : Int) + (j : Int) := by omega
            have hfnI : (kp : Int) + (j : Int) < (fn : Int) := by omega
            have HFL := Lib.hid (show (4 * j) + 4 ≤ L.sz by omega)
            have hsf : sectF g (L.sec k) fat (k * L.per) (j + 1) = upd (sectF g (L.sec k) fat (k * L.per) j) (L.sec k + 4 * j) 4 (fat (kp + j)) := by rw [hkp0]; rfl
            have HSF := Lib.hid hsf
            have HKP := Lib.hid hkp0
            have HO3 := Lib.hid hO3
            have HT3 := Lib.hid hT3
            have HO2 := Lib.hid hO2
            clear hsf hkp0 hO3 hT3
            generalize L.sec k = A at *
            go_upto_region 83 with (fail)
            refine wp_region_still_tail 14 (by kernel_rfl) (by kernel_rfl) ?_
            simp only [List.take_succ_cons, List.take_zero, List.drop_succ_cons, List.drop_zero]
            repeat still_step
            still_call hcs
            repeat still_step
            refine wpStill_nil ?_
            change wpList _ _ _ _ _ wr.drew
            go_wp2_with fail
            refine (put_c outb A (4 * L.per) (L.bytes - A) (4 * j) (fat (kp + j)) 4 L.bytes _ _ _ (by omega) rfl (by omega) _ _ (HO3.out.fr0 ((Fr.refl [] wr).drew)).out (by omega) (by omega) (by omega) (by omega)).mono ?_
            rintro e w5 ⟨rfl, hf5, hB5⟩
            have hf6 : Fr [outb] w2 w5 := hfi.drew.trans_same hf5
            clear hw1 hw2 hw3 hnat hge0 hfnI c1 c2 c3 c4 c5 hfi hf5
            go_wp2_with fail
            go_roundw
            case rel => exact ⟨j + 1, by omega, by go_num, hf6, by rw [HSF.out]; exact hB5⟩
            case measure => simp [intOf]; omega
          · have hjN : j = L.per := by omega
            rw [hjN] at hBi
            have hf7 := hF2.trans_same hfi
            clear hjN
            go_wp2_with fail
            go_roundw
            case rel => exact ⟨k + 1, by omega, by go_num, hf7, by rw [HTF.out]; exact hBi⟩
            case measure => simp [intOf]; omega
      · have hkN : k = L.fats := by omega
        rw [hkN] at hB
        clear hkN
        go_wp2_with fail
        go_meet
        case rel => exact ⟨hf, hB⟩
  case rest =>
  obtain ⟨hf, hB⟩ := hcut
  rename (∀ (a : Act) (w : World), Code.wp Tryd.prog _ _ a w → _) => hK
  refine hK _ _ ?_
  exact write_d _ _ _ _ _ _ _ _ _ _ _ _ _ _ _ _ _ _ _ _ _ _ _ _ _ _ _ _ _ _ _ _ _ _ _ _ _ _ _ _ _ _ _ _ _ _ _ _ _ _ _ _ _ _ _ _ _ _ _ _ _ _ _ _ _ _ _ _ _ _ _ _ _ _ _ _ _ _ _ _ _ _ _ _ _ _ _ _ _ _ _ _ _ _ _ _ _ _ _ _ _ _ _ _ _ _ _ _ _ _ _ _ _ _ _ _ _ _ _ _ _ _ _ _ _ _ _ _ _ _ _ _ _ _ _ _ _ _ _ _ _ _ _ _ _ _ _ _ _ _ _ _ _ _ _ _ _ _ _ _ _ _ _ _ _ _ _ _ _ _ _ _ _ _ _ _ _ _ _ _ _ _ _ _ _ _ _ _ _ _ _ _ _ _ _ _ _ _ _ _ _ _ _ _ _ _ _ _ _ _ _ _ _ _ _ _ _ _ _ _ _ _ _ _ _ _ _ _ _ _ _ _ _ _ _ _ _ _ _ _ _ _ _ _ _ _ _ _ _ _ _ _ _ _ _ _ _ _ _ _ _ _ _ _ _ _ _ _ _ _ _ _ _ _ _ _ _ _ _ _ _ _ _ _ _ _ _ _ _ _ _ _ _ _ _ _ _ _ _ _ _ _ _ _ _ _ _ _ _ _ _ _ _ _ _ _ _ _ _ _ _ _ _ _ _ _ _ _ _ _ _ _ _ _ _ _ _ _ _ _ _ _ _ _ _ _ _ _ _ _ _ _ _ _ _ _ _ _ _ _ _ _ _ _ _ _ _ _ _ _ _ _ _ _ _ _ _ _ _ _ _ _ _ _ _ _ _ _ _ _ _ _ _ _ _ _ _ _ _ _ _ _ _ _ _ _ _ _ _ _ _ _ _ _ _ _ _ _ _ _ _ _ _ _ _ _ _ _ _ _ _ _ _ _ _ _ _ _ _ _ _ _ _ _ _ _ _ _ _ _ _ _ _ _ _ _ _ _ _ _ _ _ _ _ _ _ _ _ _ _ _ _ _ _ _ _ _ _ _ _ _ _ _ _ _ _ _ _ _ _ _ _ _ _ _ _ L lb lcap zb xb fb fn mb mn pb pc b19 c19 b29 c29 b33 c33 ob outb fnb dv fat mfat w0 _ HE.out (hT.frB hf hO.out) (hF0.trans hf (by have := HE.out.ob_; simp; omega)) _ (hO.fr hf hB) (tabF_ok L HL.out fat)
end Go.Proofs.YtokpomdfgbbhlaaDoor

/- FnMixed: a stream is read, sought and written by steps, what is told is what stands there then, the file behind all is that of the stream with these bytes (part 14 of 18). No condition but the statement's own. -/
import Derived.StillTailTactics
import Derived.Test.YtokpomdfgbbhlaaDoorMxm
set_option linter.all false
set_option linter.unusedVariables false
set_option linter.unusedSimpArgs false
set_option linter.unnecessarySimpa false
/- spec.Write's header. -/
namespace Go.Proofs.YtokpomdfgbbhlaaDoor
open Go Go.RowKit

set_option maxRecDepth 100000 in
set_option maxHeartbeats 8000000 in
theorem write_b (x3 x4 x5 x6 x8 x9 x10 x11 x12 x13 x15 x16 x21 x22 x26 x27 x28 x31 x32 x37 x38 x39 x40 x41 x42 x43 x44 x45 x46 x47 x48 x49 x50 x51 x52 x53 x54 x55 x56 x57 x58 x59 x60 x61 x62 x63 x64 x65 x66 x67 x68 x69 x70 x71 x72 x73 x74 x75 x76 x77 x78 x79 x80 x81 x82 x83 x84 x85 x86 x87 x88 x89 x90 x91 x92 x93 x94 x95 x96 x97 x98 x99 x100 x101 x102 x103 x104 x105 x106 x107 x108 x109 x110 x111 x112 x113 x114 x115 x116 x117 x118 x119 x120 x121 x122 x123 x124 x125 x126 x127 x128 x129 x130 x131 x132 x133 x134 x135 x136 x137 x138 x139 x140 x141 x142 x143 x144 x145 x146 x147 x148 x149 x150 x151 x152 x153 x154 x155 x156 x157 x158 x159 x160 x161 x162 x163 x164 x165 x166 x167 x168 x169 x170 x171 x172 x173 x174 x175 x176 x177 x178 x179 x180 x181 x182 x183 x184 x185 x186 x187 x188 x189 x190 x191 x192 x193 x194 x195 x196 x197 x198 x199 x200 x201 x202 x203 x204 x205 x206 x207 x208 x209 x210 x211 x212 x213 x214 x215 x216 x217 x218 x219 x220 x221 x222 x223 x224 x225 x226 x227 x228 x229 x230 x231 x232 x233 x234 x235 x236 x237 x238 x239 x240 x241 x242 x243 x244 x245 x246 x247 x248 x249 x250 x251 x252 x253 x254 x255 x256 x257 x258 x259 x260 x261 x262 x263 x264 x265 x266 x267 x268 x269 x270 x271 x272 x273 x274 x275 x276 x277 x278 x279 x280 x281 x282 x283 x284 x285 x286 x287 x288 x289 x290 x291 x292 x293 x294 x295 x296 x297 x298 x299 x300 x301 x302 x303 x304 x305 x306 x307 x308 x309 x310 x311 x312 x313 x314 x315 x316 x317 x318 x319 x320 x321 x322 x323 x324 x325 x326 x327 x328 x329 x330 x331 x332 x333 x334 x335 x336 x337 x338 x339 x340 x341 x342 x343 x344 x345 x346 x347 x348 x349 x350 x351 x352 x353 x354 x355 x356 x357 x358 x359 x360 x361 x362 x363 x364 x365 x366 x367 x368 x369 x370 x371 x372 x373 x374 x375 x376 x377 x378 x379 x380 x381 x382 x383 x384 x385 x386 x387 x388 x389 x390 x391 x392 x393 x394 x395 x396 x397 x398 x399 x400 x401 x402 x403 x404 x405 x406 x407 x408 x409 x410 x411 x412 x413 x414 x415 x416 x417 x418 x419 x420 x421 x422 x423 x424 x425 x426 x427 x428 x429 x430 x431 x432 x433 x434 x435 x436 x437 x438 x439 x440 x441 x442 x443 x444 x445 x446 x447 x448 x449 x450 x451 x452 x453 x454 x455 x456 x457 x458 x459 x460 x461 x462 x463 x464 x465 x466 x467 x468 x469 x470 x471 x472 x473 x474 x475 x476 x477 x478 x479 x480 x481 x482 x483 x484 x485 x486 x487 x488 x489 x490 x491 x492 x493 x494 x495 x496 x497 x498 x499 x500 x501 x502 x503 x504 x505 x506 x507 x508 x509 x510 x511 x512 x513 : Value) (L : Lay) (lb lcap zb xb fb fn mb mn pb pc b19 c19 b29 c29 b33 c33 ob outb fnb : Nat) (dv : Nat → Value) (fat mfat : Nat → Nat) (w0 w : World) (E : WEnv L w0 lb lcap fn mn pc c19 c29 c33 outb dv fat mfat) (hT : WTab w L zb xb fb fn mb mn pb b19 b29 b33 fat mfat) (hF0 : Fr [] w0 w) (hO : WOut w L zb xb ob outb fnb (fun _ => 0)) :
    Code.wp Tryd.prog rest57 (bodyPost Tryd.prog Tryd.f10 (WPost L w0)) ⟨#[(.slice (some ⟨lb, 0, none⟩) L.N lcap), (.int .i64 L.ver), (.int .i64 L.step), x3, x4, x5, x6, (.pointer (some ⟨zb, 0, none⟩)), x8, x9, x10, x11, x12, x13, (I64 L.minis), x15, x16, (.int .i64 L.per), (.int .i64 (L.cnt 0)), (.slice (some ⟨b19, 0, none⟩) (3 + L.N) c19), (I64 L.sum), x21, x22, (I64 L.fats), (.slice (some ⟨pb, 0, none⟩) L.tot pc), (.pointer (some ⟨xb, 0, none⟩)), x26, x27, x28, (.slice (some ⟨b29, 0, none⟩) (3 + L.N) c29), (.slice (some ⟨mb, 0, none⟩) mn mn), x31, x32, (.slice (some ⟨b33, 0, none⟩) L.N c33), (.pointer (some ⟨ob, 0, none⟩)), (.pointer (some ⟨fnb, 0, none⟩)), (.func (.func 25) #[] #[.pointer (some ⟨xb, 0, none⟩), .pointer (some ⟨fnb, 0, none⟩)]), x37, x38, x39, x40, x41, x42, x43, x44, x45, x46, x47, x48, x49, x50, x51, x52, x53, x54, x55, x56, x57, x58, x59, x60, x61, x62, x63, x64, x65, x66, x67, x68, x69, x70, x71, x72, x73, x74, x75, x76, x77, x78, x79, x80, x81, x82, x83, x84, x85, x86, x87, x88, x89, x90, x91, x92, x93, x94, x95, x96, x97, x98, x99, x100, x101, x102, x103, x104, x105, x106, x107, x108, x109, x110, x111, x112, x113, x114, x115, x116, x117, x118, x119, x120, x121, x122, x123, x124, x125, x126, x127, x128, x129, x130, x131, x132, x133, x134, x135, x136, x137, x138, x139, x140, x141, x142, x143, x144, x145, x146, x147, x148, x149, x150, x151, x152, x153, x154, x155, x156, x157, x158, x159, x160, x161, x162, x163, x164, x165, x166, x167, x168, x169, x170, x171, x172, x173, x174, x175, x176, x177, x178, x179, x180, x181, x182, x183, x184, x185, x186, x187, x188, x189, x190, x191, x192, x193, x194, x195, x196, x197, x198, x199, x200, x201, x202, x203, x204, x205, x206, x207, x208, x209, x210, x211, x212, x213, x214, x215, x216, x217, x218, x219, x220, x221, x222, x223, x224, x225, x226, x227, x228, x229, x230, x231, x232, x233, x234, x235, x236, x237, x238, x239, x240, x241, x242, x243, x244, x245, x246, x247, x248, x249, x250, x251, x252, x253, x254, x255, x256, x257, x258, x259, x260, x261, x262, x263, x264, x265, x266, x267, x268, x269, x270, x271, x272, x273, x274, x275, x276, x277, x278, x279, x280, x281, x282, x283, x284, x285, x286, x287, x288, x289, x290, x291, x292, x293, x294, x295, x296, x297, x298, x299, x300, x301, x302, x303, x304, x305, x306, x307, x308, x309, x310, x311, x312, x313, x314, x315, x316, x317, x318, x319, x320, x321, x322, x323, x324, x325, x326, x327, x328, x329, x330, x331, x332, x333, x334, x335, x336, x337, x338, x339, x340, x341, x342, x343, x344, x345, x346, x347, x348, x349, x350, x351, x352, x353, x354, x355, x356, x357, x358, x359, x360, x361, x362, x363, x364, x365, x366, x367, x368, x369, x370, x371, x372, x373, x374, x375, x376, x377, x378, x379, x380, x381, x382, x383, x384, x385, x386, x387, x388, x389, x390, x391, x392, x393, x394, x395, x396, x397, x398, x399, x400, x401, x402, x403, x404, x405, x406, x407, x408, x409, x410, x411, x412, x413, x414, x415, x416, x417, x418, x419, x420, x421, x422, x423, x424, x425, x426, x427, x428, x429, x430, x431, x432, x433, x434, x435, x436, x437, x438, x439, x440, x441, x442, x443, x444, x445, x446, x447, x448, x449, x450, x451, x452, x453, x454, x455, x456, x457, x458, x459, x460, x461, x462, x463, x464, x465, x466, x467, x468, x469, x470, x471, x472, x473, x474, x475, x476, x477, x478, x479, x480, x481, x482, x483, x484, x485, x486, x487, x488, x489, x490, x491, x492, x493, x494, x495, x496, x497, x498, x499, x500, x501, x502, x503, x504, x505, x506, x507, x508, x509, x510, x511, x512, x513], []⟩ w := by
  conv => arg 2; whnf
  have hL := E.hL
  have hst := E.st
  have hby : 512 ≤ L.bytes ∧ L.bytes ≤ 9223372036854775807 := by have := hL.bytes_le; omega
  have co : w.cell? ⟨ob, 0, none⟩ = some (.slice (some ⟨outb, 0, none⟩) L.bytes L.bytes) := hO.ob_.cell 0
  have hbk : Blk w outb 5 (tab L.bytes (fun _ => U8 0)) := hO.out
  obtain ⟨hft1, hft2, hft3⟩ := hL.fats_ok
  have hn3 : (0 : Int) < 3 + (L.N : Int) := by omega
  have hn4 : (1 : Int) < 3 + (L.N : Int) := by have := hL.n1; omega
  have hs0 : L.start 0 < 4294967296 := start_lt L hL 0
  have hs1 : L.start 1 < 4294967296 := start_lt L hL 1
  have hver : L.ver ≤ 4 := by unfold Lay.ver; split <;> omega
  go_upto_region 58 with (with_reducible refine wpList_copy_blk rfl (.tmp 211) (.tmp 212) 23 23 rfl 5 Tryd.underlying23 (by kernel_rfl) _ _ _ _ _ _ rfl rfl outb 0 (tab L.bytes (fun _ => U8 0)) 5 (hbk.alloc _) 8 (fun i => U8 (sigB i)) ?_ ?_ ?_ ?_ ?_)
  · omega
  · intro j hj
    have h8 : j = 0 ∨ j = 1 ∨ j = 2 ∨ j = 3 ∨ j = 4 ∨ j = 5 ∨ j = 6 ∨ j = 7 := by omega
    rcases h8 with rfl | rfl | rfl | rfl | rfl | rfl | rfl | rfl <;> rfl
  · rw [tab_length]; omega
  · intro j _; rfl
  intro w1 hf1 hb1
  have hB : Bts w1 outb L.bytes (cpy (fun _ => 0) 0 8 sigB) := Bts.splice (f := fun _ => 0) (by omega) hb1
  have hF : Fr [outb] w w1 := ((Fr.refl _ _).alloc _).trans_same hf1
  have hT := hT.frB hF hO.out
  have hO := hO.fr hF hB
  have co : _ = some (Value.slice (some ⟨outb, 0, none⟩) L.bytes L.bytes) := hO.ob_.cell 0
  clear hf1 hb1 hB hbk
  go_wp2_with fail
  refine (put_c outb 0 L.bytes L.bytes 24 62 2 L.bytes _ _ _ (by omega) (by omega) (by omega) _ _ hO.out (by omega) (by omega) (by omega) (by omega)).mono ?_
  rintro e w2 ⟨rfl, hf, hB⟩
  rw [Nat.zero_add] at hB
  have hT := hT.frB hf hO.out
  have hO := hO.fr hf hB
  have hF := hF.trans_same hf
  have co : _ = some (Value.slice (some ⟨outb, 0, none⟩) L.bytes L.bytes) := hO.ob_.cell 0
  clear hf hB
  go_wp2_with fail
  refine (put_c outb 0 L.bytes L.bytes 26 L.ver 2 L.bytes _ _ _ (by omega) (by omega) (by omega) _ _ hO.out (by omega) (by omega) (by omega) (by omega)).mono ?_
  rintro e w3 ⟨rfl, hf, hB⟩
  rw [Nat.zero_add] at hB
  have hT := hT.frB hf hO.out
  have hO := hO.fr hf hB
  have hF := hF.trans_same hf
  have co : _ = some (Value.slice (some ⟨outb, 0, none⟩) L.bytes L.bytes) := hO.ob_.cell 0
  clear hf hB
  go_wp2_with fail
  refine (put_c outb 0 L.bytes L.bytes 28 65534 2 L.bytes _ _ _ (by omega) (by omega) (by omega) _ _ hO.out (by omega) (by omega) (by omega) (by omega)).mono ?_
  rintro e w4 ⟨rfl, hf, hB⟩
  rw [Nat.zero_add] at hB
  have hT := hT.frB hf hO.out
  have hO := hO.fr hf hB
  have hF := hF.trans_same hf
  have co : _ = some (Value.slice (some ⟨outb, 0, none⟩) L.bytes L.bytes) := hO.ob_.cell 0
  clear hf hB
  go_upto_region 61 with (fail)
  have hs61 : 0 < 1 := Nat.one_pos
  go_cut [] from 211 to 227 (fun w5 => Fr [outb] w4 w5 ∧ Bts w5 outb L.bytes (upd (upd (upd (upd (cpy (fun _ => 0) 0 8 sigB) 24 2 62) 26 2 L.ver) 28 2 65534) 30 2 (if L.four = true then 12 else 9)))
  case first =>
    have hmm := @run_makeMap Tryd.prog
    have hkey : w4.cell? ⟨zb, 0, none⟩ = some (I64 L.sz) := hT.z.cell 0
    have i1 := ins1 w4
    have i2 := ins2 w4
    have hfA : Fr [] w4 (w4.alloc (Obj.map #[mE1, mE2] 2)) := (Fr.refl _ _).alloc _
    have hOA := (hO.fr0 hfA).out
    have hkeyA := hfA.cell0 hkey
    rcases L.sz_or with ⟨e, e'⟩ | ⟨e, e'⟩
    · rw [e] at hkey hkeyA
      have E := Lib.hid e'
      have i3 := look_a w4 _ rfl
      have hk5 : (w4.alloc (Obj.map #[mE1, mE2] 2)).cell? ⟨zb, 0, none⟩ = some (.int .i64 512) := hkeyA
      clear hkeyA hkey
      clear e e'
      go_wp2_with fail
      refine (put_c outb 0 L.bytes L.bytes 30 9 2 L.bytes _ _ _ (by omega) (by omega) (by omega) _ _ hOA (by omega) (by omega) (by omega) (by omega)).mono ?_
      rintro e w5 ⟨rfl, hf, hB⟩
      rw [Nat.zero_add] at hB
      go_wp2_with fail
      go_meet
      case rel => exact ⟨((Fr.refl _ _).alloc _).trans_same hf, by rw [E.out]; exact hB⟩
    · rw [e] at hkey hkeyA
      have E := Lib.hid e'
      have i3 := look_b w4 _ rfl
      have hk5 : (w4.alloc (Obj.map #[mE1, mE2] 2)).cell? ⟨zb, 0, none⟩ = some (.int .i64 4096) := hkeyA
      clear hkeyA hkey
      clear e e'
      go_wp2_with fail
      refine (put_c outb 0 L.bytes L.bytes 30 12 2 L.bytes _ _ _ (by omega) (by omega) (by omega) _ _ hOA (by omega) (by omega) (by omega) (by omega)).mono ?_
      rintro e w5 ⟨rfl, hf, hB⟩
      rw [Nat.zero_add] at hB
      go_wp2_with fail
      go_meet
      case rel => exact ⟨((Fr.refl _ _).alloc _).trans_same hf, by rw [E.out]; exact hB⟩
  case rest =>
  obtain ⟨hf, hB⟩ := hcut
  have hT := hT.frB hf hO.out
  have hO := hO.fr hf hB
  have hF := hF.trans_same hf
  have co : _ = some (Value.slice (some ⟨outb, 0, none⟩) L.bytes L.bytes) := hO.ob_.cell 0
  clear hf hB hs61
  go_wp2_with fail
  refine (put_c outb 0 L.bytes L.bytes 32 6 2 L.bytes _ _ _ (by omega) (by omega) (by omega) _ _ hO.out (by omega) (by omega) (by omega) (by omega)).mono ?_
  rintro e w6 ⟨rfl, hf, hB⟩
  rw [Nat.zero_add] at hB
  have hT := hT.frB hf hO.out
  have hO := hO.fr hf hB
  have hF := hF.trans_same hf
  have co : _ = some (Value.slice (some ⟨outb, 0, none⟩) L.bytes L.bytes) := hO.ob_.cell 0
  clear hf hB
  have hcl := hL.cnt_le 0 (by have := hL.n1; omega)
  go_upto_if 231 with (fail)
  go_cut [] from 228 to 231 (fun w7 => Fr [outb] w6 w7 ∧ Bts w7 outb L.bytes (hA7 L))
  case first =>
    rcases L.sz_or with ⟨e, e'⟩ | ⟨e, e'⟩
    · have hv : ((L.ver : Int) == 4) = false := by unfold Lay.ver; rw [e']; rfl
      have E := Lib.hid e'
      clear e e'
      go_wp2_with fail
      go_meet
      case rel => exact ⟨Fr.refl _ _, by unfold hA7; rw [E.out]; exact hO.out⟩
    · have hv : ((L.ver : Int) == 4) = true := by unfold Lay.ver; rw [e']; rfl
      have E := Lib.hid e'
      clear e e'
      go_wp2_with fail
      refine (put_c outb 0 L.bytes L.bytes 40 (L.cnt 0) 4 L.bytes _ _ _ (by omega) (by omega) (by omega) _ _ hO.out (by omega) (by omega) (by omega) (by omega)).mono ?_
      rintro e w7 ⟨rfl, hf, hB⟩
      rw [Nat.zero_add] at hB
      go_wp2_with fail
      go_meet
      case rel => exact ⟨hf, by unfold hA7; rw [E.out]; exact hB⟩
  case rest =>
  obtain ⟨hf, hB⟩ := hcut
  have hT := hT.frB hf hO.out
  have hO := hO.fr hf hB
  have hF := hF.trans_same hf
  have co : _ = some (Value.slice (some ⟨outb, 0, none⟩) L.bytes L.bytes) := hO.ob_.cell 0
  clear hf hB
  go_wp2_with fail
  refine (put_c outb 0 L.bytes L.bytes 44 L.fats 4 L.bytes _ _ _ (by omega) (by omega) (by omega) _ _ hO.out (by omega) (by omega) (by omega) (by omega)).mono ?_
  rintro e w8 ⟨rfl, hf, hB⟩
  rw [Nat.zero_add] at hB
  have hT := hT.frB hf hO.out
  have hO := hO.fr hf hB
  have hF := hF.trans_same hf
  have co : _ = some (Value.slice (some ⟨outb, 0, none⟩) L.bytes L.bytes) := hO.ob_.cell 0
  clear hf hB
  have cs0 := hT.stc 0 (by omega)
  go_upto_region 66 with (fail)
  go_still_tail 5, (by kernel_rfl)
  change wpList _ _ _ _ _ w8.drew
  go_wp2_with fail
  refine (put_c outb 0 L.bytes L.bytes 48 (L.start 0) 4 L.bytes _ _ _ (by omega) (by first | omega | exact u64w4 _ (by omega)) (by omega) _ _ (hO.fr0 ((Fr.refl [] w8).drew)).out (by omega) (by omega) (by omega) (by omega)).mono ?_
  rintro e w9 ⟨rfl, hf0, hB⟩
  have hf : Fr [outb] w8 w9 := (Fr.refl _ _).drew.trans_same hf0
  clear hf0
  rw [Nat.zero_add] at hB
  have hT := hT.frB hf hO.out
  have hO := hO.fr hf hB
  have hF := hF.trans_same hf
  have co : _ = some (Value.slice (some ⟨outb, 0, none⟩) L.bytes L.bytes) := hO.ob_.cell 0
  clear hf hB
  go_wp2_with fail
  refine (put_c outb 0 L.bytes L.bytes 56 4096 4 L.bytes _ _ _ (by omega) (by omega) (by omega) _ _ hO.out (by omega) (by omega) (by omega) (by omega)).mono ?_
  rintro e w10 ⟨rfl, hf, hB⟩
  rw [Nat.zero_add] at hB
  have hT := hT.frB hf hO.out
  have hO := hO.fr hf hB
  have hF := hF.trans_same hf
  have co : _ = some (Value.slice (some ⟨outb, 0, none⟩) L.bytes L.bytes) := hO.ob_.cell 0
  clear hf hB
  have cs1 := hT.stc 1 (by have := hL.n1; omega)
  go_upto_region 68 with (fail)
  go_still_tail 5, (by kernel_rfl)
  change wpList _ _ _ _ _ w10.drew
  go_wp2_with fail
  refine (put_c outb 0 L.bytes L.bytes 60 (L.start 1) 4 L.bytes _ _ _ (by omega) (by first | omega | exact u64w4 _ (by omega)) (by omega) _ _ (hO.fr0 ((Fr.refl [] w10).drew)).out (by omega) (by omega) (by omega) (by omega)).mono ?_
  rintro e w11 ⟨rfl, hf0, hB⟩
  have hf : Fr [outb] w10 w11 := (Fr.refl _ _).drew.trans_same hf0
  clear hf0
  rw [Nat.zero_add] at hB
  have hT := hT.frB hf hO.out
  have hO := hO.fr hf hB
  have hF := hF.trans_same hf
  have co : _ = some (Value.slice (some ⟨outb, 0, none⟩) L.bytes L.bytes) := hO.ob_.cell 0
  clear hf hB
  have cn1 := hT.cnc 1 (by have := hL.n1; omega)
  go_upto_region 69 with (fail)
  go_still_tail 5, (by kernel_rfl)
  change wpList _ _ _ _ _ w11.drew
  go_wp2_with fail
  refine (put_c outb 0 L.bytes L.bytes 64 (L.cnt 1) 4 L.bytes _ _ _ (by omega) (by first | omega | exact u64w4 _ (by omega)) (by omega) _ _ (hO.fr0 ((Fr.refl [] w11).drew)).out (by omega) (by omega) (by omega) (by omega)).mono ?_
  rintro e w12 ⟨rfl, hf0, hB⟩
  have hf : Fr [outb] w11 w12 := (Fr.refl _ _).drew.trans_same hf0
  clear hf0
  rw [Nat.zero_add] at hB
  have hT := hT.frB hf hO.out
  have hO := hO.fr hf hB
  have hF := hF.trans_same hf
  have co : _ = some (Value.slice (some ⟨outb, 0, none⟩) L.bytes L.bytes) := hO.ob_.cell 0
  clear hf hB
  go_wp2_with fail
  refine (put_c outb 0 L.bytes L.bytes 68 4294967294 4 L.bytes _ _ _ (by omega) (by omega) (by omega) _ _ hO.out (by omega) (by omega) (by omega) (by omega)).mono ?_
  rintro e w13 ⟨rfl, hf, hB⟩
  rw [Nat.zero_add] at hB
  have hT := hT.frB hf hO.out
  have hO := hO.fr hf hB
  have hF := hF.trans_same hf
  have co : _ = some (Value.slice (some ⟨outb, 0, none⟩) L.bytes L.bytes) := hO.ob_.cell 0
  clear hf hB
  have hOA : WOut w13 L zb xb ob outb fnb (hdrA L) := hO
  clear hO cs0 cs1 cn1
  have hTA := hT
  have hFA := hF
  clear hT hF co
  go_upto_block 14 with (fail)
  go_cut [] from 211 to 262 (fun w14 => Fr [outb] w13 w14 ∧ Bts w14 outb L.bytes (difat0 (hdrA L) 109))
  case first =>
    go_wp2_with fail
    go_loopw [262] (fun s262 wr => ∃ k : Nat, k ≤ 109 ∧ s262 = .int .i64 k ∧ Fr [outb] w13 wr ∧ Bts wr outb L.bytes (difat0 (hdrA L) k)) (fun s262 _ => 109 - (intOf s262).toNat)
    case atStart => exact ⟨0, by omega, rfl, Fr.refl _ _, hOA.out⟩
    case round =>
      obtain ⟨k, hk, rfl, hf, hB⟩ := hrel
      have hO := hOA.fr hf hB
      have co : _ = some (Value.slice (some ⟨outb, 0, none⟩) L.bytes L.bytes) := hO.ob_.cell 0
      by_cases hlt : k < 109
      · have hltI : (k : Int) < 109 := by omega
        go_wp2_with fail
        refine (put_c outb 0 L.bytes L.bytes (76 + 4 * k) 4294967295 4 L.bytes _ _ _ (by omega) (by omega) (by omega) _ _ hO.out (by omega) (by omega) (by omega) (by omega)).mono ?_
        rintro e w15 ⟨rfl, hf1, hB1⟩
        rw [Nat.zero_add] at hB1
        go_wp2_with fail
        go_roundw
        case rel => exact ⟨k + 1, by omega, by go_num, hf.trans_same hf1, hB1⟩
        case measure => simp [intOf]; omega
      · obtain rfl : k = 109 := by omega
        go_wp2_with fail
        go_meet
        case rel => exact ⟨hf, hB⟩
  case rest =>
  obtain ⟨hf, hB⟩ := hcut
  rename (∀ (a : Act) (w : World), Code.wp Tryd.prog _ _ a w → _) => hK
  refine hK _ _ ?_
  exact write_c _ _ _ _ _ _ _ _ _ _ _ _ _ _ _ _ _ _ _ _ _ _ _ _ _ _ _ _ _ _ _ _ _ _ _ _ _ _ _ _ _ _ _ _ _ _ _ _ _ _ _ _ _ _ _ _ _ _ _ _ _ _ _ _ _ _ _ _ _ _ _ _ _ _ _ _ _ _ _ _ _ _ _ _ _ _ _ _ _ _ _ _ _ _ _ _ _ _ _ _ _ _ _ _ _ _ _ _ _ _ _ _ _ _ _ _ _ _ _ _ _ _ _ _ _ _ _ _ _ _ _ _ _ _ _ _ _ _ _ _ _ _ _ _ _ _ _ _ _ _ _ _ _ _ _ _ _ _ _ _ _ _ _ _ _ _ _ _ _ _ _ _ _ _ _ _ _ _ _ _ _ _ _ _ _ _ _ _ _ _ _ _ _ _ _ _ _ _ _ _ _ _ _ _ _ _ _ _ _ _ _ _ _ _ _ _ _ _ _ _ _ _ _ _ _ _ _ _ _ _ _ _ _ _ _ _ _ _ _ _ _ _ _ _ _ _ _ _ _ _ _ _ _ _ _ _ _ _ _ _ _ _ _ _ _ _ _ _ _ _ _ _ _ _ _ _ _ _ _ _ _ _ _ _ _ _ _ _ _ _ _ _ _ _ _ _ _ _ _ _ _ _ _ _ _ _ _ _ _ _ _ _ _ _ _ _ _ _ _ _ _ _ _ _ _ _ _ _ _ _ _ _ _ _ _ _ _ _ _ _ _ _ _ _ _ _ _ _ _ _ _ _ _ _ _ _ _ _ _ _ _ _ _ _ _ _ _ _ _ _ _ _ _ _ _ _ _ _ _ _ _ _ _ _ _ _ _ _ _ _ _ _ _ _ _ _ _ _ _ _ _ _ _ _ _ _ _ _ _ _ _ _ _ _ _ _ _ _ _ _ _ _ _ _ _ _ _ _ _ _ _ _ _ _ _ _ _ _ _ _ _ _ _ _ _ _ _ _ _ _ _ _ _ _ _ _ _ _ _ _ _ _ _ _ _ _ _ _ _ _ _ _ _ _ _ _ _ _ _ _ _ _ _ _ _ _ _ _ _ _ _ _ _ _ _ _ L lb lcap zb xb fb fn mb mn pb pc b19 c19 b29 c29 b33 c33 ob outb fnb dv fat mfat w0 _ E (hTA.frB hf hOA.out) ((hF0.trans hFA (by have := E.ob_; simp; omega)).trans hf (by have := E.ob_; simp; omega)) (hOA.fr hf hB)
end Go.Proofs.YtokpomdfgbbhlaaDoor

/- spec.Write: the counts. -/
namespace Go.Proofs.YtokpomdfgbbhlaaDoor
open Go Go.RowKit

attribute [local go_sem] run_store_fn

set_option maxRecDepth 100000 in
set_option maxHeartbeats 8000000 in
theorem write_a (lb lcap : Nat) (L : Lay) (dv : Nat → Value) (w : World) (hL : LayOK L) (hn : NdsIs w lb L dv) (hc : L.N ≤ lcap ∧ lcap ≤ 9223372036854775807) (hst : L.step ≤ 300) :
    Calls Tryd.prog 10 #[.slice (some ⟨lb, 0, none⟩) L.N lcap, .int .i64 L.ver, .int .i64 L.step] w (WPost L w) := by
  have HV := Lib.hid (verI L)
  obtain ⟨⟨ll, hll, hlc⟩, hdat⟩ := hn
  have HDAT := Lib.hid hdat
  have HLC := Lib.hid hlc
  clear hdat hlc
  have hn1 := hL.n1
  have hn2 := hL.n2
  have HL := Lib.hid hL
  clear hL
  go_enter Tryd.func10, Tryd.ntmps10
  go_upto_if 60 with (fail)
  go_cut [] from 61 to 61 (fun w1 => Fr [] w w1 ∧ Blk w1 w.heap.size 3 [I64 L.sz])
  case first =>
    have hsz := L.sz_or
    rcases hsz with ⟨e, e'⟩ | ⟨e, e'⟩
    · have hver : ((L.ver : Int) == 4) = false := by rw [HV.out]; exact e'
      have E := Lib.hid e
      clear e e'
      go_wp2_with fail
      go_meet
      case rel => exact ⟨(Fr.refl _ _).alloc _, by rw [E.out]; exact Blk.new' _ _ _⟩
    · have hver : ((L.ver : Int) == 4) = true := by rw [HV.out]; exact e'
      have E := Lib.hid e
      clear e e'
      go_wp2_with fail
      go_meet
      case rel => exact ⟨(Fr.refl _ _).alloc _, by rw [E.out]; exact Blk.new' _ _ _⟩
  case rest =>
  obtain ⟨hf, hz⟩ := hcut
  go_upto_block 0 with (fail)
  go_cut [8, 9] from 59 to 65 (fun s8 s9 w1 => Fr [] w w1 ∧ Blk w1 w.heap.size 3 [I64 L.sz] ∧ w1.ownsRow (w.heap.size + 1) 3 1 s8 L.N (tab L.N (fun i => I64 (L.small i))) ∧ w1.ownsRow (w.heap.size + 1) 3 1 s9 L.N (tab L.N (fun i => I64 (L.big i))))
  case first =>
    go_wp2_with fail
    go_loopw [8, 9, 65] (fun s8 s9 s65 wr => ∃ k : Nat, k ≤ L.N ∧ s65 = .int .i64 k ∧ Fr [] w wr ∧ Blk wr w.heap.size 3 [I64 L.sz] ∧ wr.ownsRow (w.heap.size + 1) 3 1 s8 k (tab k (fun i => I64 (L.small i))) ∧ wr.ownsRow (w.heap.size + 1) 3 1 s9 k (tab k (fun i => I64 (L.big i))) ∧ (∀ b, s8.ownBlock = some b → s9.ownBlock ≠ some b)) (fun _ _ s65 _ => L.N - (intOf s65).toNat)
    case atStart =>
      have hl := hz.lt
      refine ⟨0, by omega, rfl, ((hf.alloc _).alloc _), (hz.alloc _).alloc _, (World.ownsRow_made wc #[] 0 (by omega) (by unfold maxLen; omega) rfl).alloc _, ?_, ?_⟩
      · have := World.ownsRow_made (base := w.heap.size + 1) (e := 3) (size := 1) (wc.alloc (Obj.cells #[] 3)) #[] 0 (by simp; omega) (by unfold maxLen; omega) rfl
        simpa [tab] using this
      · simp [Value.ownBlock]
    case round =>
      obtain ⟨k, hk, rfl, hf, hz, ho1, ho2, hd⟩ := hrel
      by_cases hlt : k < L.N
      · have hcs : (ll.drop (k * 28)).take 28 = (ndCells (L.nd k) (dv k)).toArray.toList := by
          apply List.ext_getElem?
          intro j
          rw [List.getElem?_take]
          by_cases hj : j < 28
          · rw [if_pos hj, List.getElem?_drop, HLC.out k hlt j hj]
          · rw [if_neg hj]; exact (List.getElem?_eq_none (by rw [ndCells_length]; omega)).symm
        have hln : k * 28 + 28 ≤ ll.length := by
          have h1 := HLC.out k hlt 27 (by omega)
          rw [List.getElem?_eq_getElem (show 27 < (ndCells (L.nd k) (dv k)).length by rw [ndCells_length]; omega)] at h1
          have := (List.getElem?_eq_some_iff.1 h1).1
          omega
        have HCS := Lib.hid hcs
        clear hcs
        have hll1 := hll.fr0 hf
        obtain ⟨da, dcap, hdv, hd1, hd2, hd3⟩ := HDAT.out k hlt
        have hone : (ndCells (L.nd k) (dv k)).toArray.all (·.oneCell') = true := by rw [hdv]; exact ndCells_one _ _ _ _
        have hdv5 : (ndCells (L.nd k) (dv k))[2]? = some (.slice da (L.nd k).len dcap) := by rw [← hdv]; rfl
        have HDV := Lib.hid hdv
        clear hdv
        go_wp2_with (first | (refine wpList_load_blk rfl 42 (.tmp 67) rfl lb (k * 28) rfl 42 ll hll1 _ Tryd.underlying42 rfl 28 (by kernel_rfl) hln (ndCells (L.nd k) (dv k)).toArray HCS.out ?_) | (refine wpList_store_blk rfl 42 (.tmp 11) (.tmp 68) rfl wr.heap.size 0 (ndCells (L.nd k) (dv k)).toArray rfl rfl 42 _ (Blk.new' wr 42 _) (by simp [ndCells_length]) (by rw [List.size_toArray, ndCells_length]; kernel_rfl) hone ?_))
        intro w1 hf1 hb1
        have hb2 : Blk w1 wr.heap.size 42 (ndCells (L.nd k) (dv k)) := by
          have := splice_whole [Value.string { data := #[] }, Value.bool false, Value.slice none 0 0, Value.int IntKind.i64 0, Value.int IntKind.i64 0, Value.int IntKind.i64 0, Value.int IntKind.u8 0, Value.int IntKind.u8 0, Value.int IntKind.u8 0, Value.int IntKind.u8 0, Value.int IntKind.u8 0, Value.int IntKind.u8 0, Value.int IntKind.u8 0, Value.int IntKind.u8 0, Value.int IntKind.u8 0, Value.int IntKind.u8 0, Value.int IntKind.u8 0, Value.int IntKind.u8 0, Value.int IntKind.u8 0, Value.int IntKind.u8 0, Value.int IntKind.u8 0, Value.int IntKind.u8 0, Value.int IntKind.u8 0, Value.int IntKind.u8 0, Value.int IntKind.u8 0, Value.int IntKind.u8 0, Value.int IntKind.u64 0, Value.int IntKind.u64 0] (ndCells (L.nd k) (dv k)) (by rw [ndCells_length]; rfl)
          rw [← this]; exact hb1
        have hf2 : Fr [] wr w1 := ((Fr.refl [] wr).alloc _).trans hf1 (by simp)
        have hF := hf.trans0 hf2
        have hz1 := hz.fr0 hf2
        have ho1' := own_fr ho1 hf2 (by simp)
        have ho2' := own_fr ho2 hf2 (by simp)
        have cz : w1.cell? ⟨w.heap.size, 0, none⟩ = some (I64 L.sz) := hz1.cell 0
        have k1 : w1.cell? ⟨wr.heap.size, 1, none⟩ = some (.bool (L.nd k).stream) := hb2.cell 1
        have k2 : w1.cell? ⟨wr.heap.size, 2, none⟩ = some (.slice da (L.nd k).len dcap) := (hb2.cell 2).trans hdv5
        have hbase : w.heap.size + 1 ≤ w1.heap.size := hz1.lt
        have hsz1 : 1 ≤ L.sz ∧ L.sz ≤ 4096 := by rcases L.sz_or with ⟨e, _⟩ | ⟨e, _⟩ <;> omega
        have hcase : ((L.nd k).stream = true ∧ (L.nd k).len < 4096 ∧ L.small k = partsN (L.nd k).len 64 ∧ L.big k = 0) ∨ ((L.nd k).stream = true ∧ ¬ (L.nd k).len < 4096 ∧ L.small k = 0 ∧ L.big k = partsN (L.nd k).len L.sz) ∨ ((L.nd k).stream = false ∧ L.small k = 0 ∧ L.big k = 0) := by
          unfold Lay.small Lay.big
          cases (L.nd k).stream
          · right; right; simp
          · by_cases h : (L.nd k).len < 4096
            · left; simp [h]
            · right; left; simp [h]
        have hlenk := HL.out.len k hlt
        clear hf ho1 ho2 hz hf1 hb1 hb2 hll1 hf2 HCS hone hln hdv5
        generalize (L.nd k).stream = st at *
        generalize hlen : (L.nd k).len = len at *
        generalize wr.heap.size = tb at *
        rcases hcase with ⟨rfl, hl, hsm, hbg⟩ | ⟨rfl, hl, hsm, hbg⟩ | ⟨rfl, hsm, hbg⟩
        · have hlI : (len : Int) < 4096 := by omega
          have HSM := Lib.hid hsm
          have HBG := Lib.hid hbg
          clear hsm hbg hlen
          go_wp2_with fail
          refine (parts_any len 64 _ (by omega) (by omega) (by omega)).mono ?_
          rintro e w2 ⟨rfl, rfl⟩
          go_wp2_with (at_builtin; (refine wpList_app2 rfl (.tmp 88) (.tmp 90) 31 rfl 3 (.int .i64 0) 8 Tryd.underlying31 info3 rfl (by decide) (w.heap.size + 1) _ k _ rfl _ ho1' rfl rfl (by omega) hbase ?_))
          intro v1 w2 hn1' hg1 hd1'
          have hF2 := hF.own ho1' (by omega) hg1
          have ho3 := own_fr ho2' hg1 (fun b hb => by simp only [Option.mem_toList, Option.mem_def]; exact fun h => hd b h hb)
          have hz2 := hz1.fr hg1 (fun h => by have := (ho1'.lt _ (by simpa using h)).1; omega)
          have hbase2 : w.heap.size + 1 ≤ w2.heap.size := hz2.lt
          clear cz k1 k2 hz1
          go_wp2_with (at_builtin; (refine wpList_app2 rfl (.tmp 92) (.tmp 94) 31 rfl 3 (.int .i64 0) 8 Tryd.underlying31 info3 rfl (by decide) (w.heap.size + 1) _ k _ rfl _ ho3 rfl rfl (by omega) hbase2 ?_))
          intro v2 w3 hn2' hg2 hd2'
          have hz4 := hz2.fr hg2 (fun h => by have := (ho3.lt _ (by simpa using h)).1; omega)
          have hF3 := hF2.own ho3 (by omega) hg2
          obtain ⟨hr1, hr2⟩ := two_rows ho1' ho2' hd hn1' hg1 hd1' hg2 hd2'
          have ho4 := own_tab hr1 (by rw [HSM.out] <;> rfl)
          have ho5 := own_tab hn2' (by rw [HBG.out] <;> rfl)
          clear hr1 hn1' hn2' hg1 hg2 hd1' hd2' ho1' ho2' ho3 hd hz2 hF hF2
          go_wp2_with fail
          go_roundw
          case rel => exact ⟨k + 1, by omega, by go_num, hF3, hz4, ho4, ho5, hr2⟩
          case measure => simp [intOf]; omega
        · have hlI : ¬ (len : Int) < 4096 := by omega
          have HSM := Lib.hid hsm
          have HBG := Lib.hid hbg
          clear hsm hbg hlen
          go_wp2_with fail
          refine (parts_any len L.sz _ (by omega) (by omega) (by omega)).mono ?_
          rintro e w2 ⟨rfl, rfl⟩
          go_wp2_with (at_builtin; (refine wpList_app2 rfl (.tmp 88) (.tmp 90) 31 rfl 3 (.int .i64 0) 8 Tryd.underlying31 info3 rfl (by decide) (w.heap.size + 1) _ k _ rfl _ ho1' rfl rfl (by omega) hbase ?_))
          intro v1 w2 hn1' hg1 hd1'
          have hF2 := hF.own ho1' (by omega) hg1
          have ho3 := own_fr ho2' hg1 (fun b hb => by simp only [Option.mem_toList, Option.mem_def]; exact fun h => hd b h hb)
          have hz2 := hz1.fr hg1 (fun h => by have := (ho1'.lt _ (by simpa using h)).1; omega)
          have hbase2 : w.heap.size + 1 ≤ w2.heap.size := hz2.lt
          clear cz k1 k2 hz1
          go_wp2_with (at_builtin; (refine wpList_app2 rfl (.tmp 92) (.tmp 94) 31 rfl 3 (.int .i64 0) 8 Tryd.underlying31 info3 rfl (by decide) (w.heap.size + 1) _ k _ rfl _ ho3 rfl rfl (by omega) hbase2 ?_))
          intro v2 w3 hn2' hg2 hd2'
          have hz4 := hz2.fr hg2 (fun h => by have := (ho3.lt _ (by simpa using h)).1; omega)
          have hF3 := hF2.own ho3 (by omega) hg2
          obtain ⟨hr1, hr2⟩ := two_rows ho1' ho2' hd hn1' hg1 hd1' hg2 hd2'
          have ho4 := own_tab hr1 (by rw [HSM.out] <;> rfl)
          have ho5 := own_tab hn2' (by rw [HBG.out] <;> rfl)
          clear hr1 hn1' hn2' hg1 hg2 hd1' hd2' ho1' ho2' ho3 hd hz2 hF hF2
          go_wp2_with fail
          go_roundw
          case rel => exact ⟨k + 1, by omega, by go_num, hF3, hz4, ho4, ho5, hr2⟩
          case measure => simp [intOf]; omega
        · skip
          have HSM := Lib.hid hsm
          have HBG := Lib.hid hbg
          clear hsm hbg hlen
          go_wp2_with (at_builtin; (refine wpList_app2 rfl (.tmp 88) (.tmp 90) 31 rfl 3 (.int .i64 0) 8 Tryd.underlying31 info3 rfl (by decide) (w.heap.size + 1) _ k _ rfl _ ho1' rfl rfl (by omega) hbase ?_))
          intro v1 w2 hn1' hg1 hd1'
          have hF2 := hF.own ho1' (by omega) hg1
          have ho3 := own_fr ho2' hg1 (fun b hb => by simp only [Option.mem_toList, Option.mem_def]; exact fun h => hd b h hb)
          have hz2 := hz1.fr hg1 (fun h => by have := (ho1'.lt _ (by simpa using h)).1; omega)
          have hbase2 : w.heap.size + 1 ≤ w2.heap.size := hz2.lt
          clear cz k1 k2 hz1
          go_wp2_with (at_builtin; (refine wpList_app2 rfl (.tmp 92) (.tmp 94) 31 rfl 3 (.int .i64 0) 8 Tryd.underlying31 info3 rfl (by decide) (w.heap.size + 1) _ k _ rfl _ ho3 rfl rfl (by omega) hbase2 ?_))
          intro v2 w3 hn2' hg2 hd2'
          have hz4 := hz2.fr hg2 (fun h => by have := (ho3.lt _ (by simpa using h)).1; omega)
          have hF3 := hF2.own ho3 (by omega) hg2
          obtain ⟨hr1, hr2⟩ := two_rows ho1' ho2' hd hn1' hg1 hd1' hg2 hd2'
          have ho4 := own_tab hr1 (by rw [HSM.out] <;> rfl)
          have ho5 := own_tab hn2' (by rw [HBG.out] <;> rfl)
          clear hr1 hn1' hn2' hg1 hg2 hd1' hd2' ho1' ho2' ho3 hd hz2 hF hF2
          go_wp2_with fail
          go_roundw
          case rel => exact ⟨k + 1, by omega, by go_num, hF3, hz4, ho4, ho5, hr2⟩
          case measure => simp [intOf]; omega
      · have hkN : k = L.N := by omega
        rw [hkN] at ho1 ho2
        clear hkN
        go_wp2_with fail
        go_meet
        case rel => exact ⟨hf, hz, ho1, ho2⟩
  case rest =>
  obtain ⟨hf, hz, ho1, ho2⟩ := hcut
  have hHL := HL.out
  have hm1 := hHL.minis_le
  obtain ⟨b8, c8, l8, rfl, hb8, hl8, hg8, hc8, hc8'⟩ := own_blk2 ho1 hn1
  obtain ⟨b9, c9, l9, rfl, hb9, hl9, hg9, hc9, hc9'⟩ := own_blk2 ho2 hn1
  have HG8 := Lib.hid hg8
  have HG9 := Lib.hid hg9
  clear hg8 hg9 ho1 ho2
  go_upto_block 2 with (fail)
  go_cut [14] from 97 to 99 (fun s14 w1 => s14 = I64 L.minis ∧ wc = w1)
  case first =>
    go_wp2_with fail
    go_loop [14, 99] (fun s14 s99 => ∃ k : Nat, k ≤ L.N ∧ s99 = .int .i64 k ∧ s14 = I64 (sumN L.small k)) (fun _ s99 => L.N - (intOf s99).toNat)
    case atStart => exact ⟨0, by omega, rfl, rfl⟩
    case round =>
      obtain ⟨k, hk, rfl, rfl⟩ := hrel
      by_cases hlt : k < L.N
      · have hltI : (k : Int) < L.N := by omega
        have c1 : wc.cell? ⟨b8, k, none⟩ = some (I64 (L.small k)) := (hl8.cell k).trans (HG8.out k hlt)
        have h1 := sumN_mono L.small (show k + 1 ≤ L.N by omega)
        have h2 : sumN L.small (k + 1) = sumN L.small k + L.small k := rfl
        have h3 : sumN L.small L.N ≤ 1280 := hm1
        have H2 := Lib.hid h2
        rw [h2] at h1
        clear h2
        go_wp2_with fail
        go_round
        case rel => exact ⟨k + 1, by omega, by go_num, by rw [H2.out]; go_num⟩
        case measure => simp [intOf]; omega
      · obtain rfl : k = L.N := by omega
        go_wp2_with fail
        go_meet
        case rel => exact ⟨rfl, rfl⟩
  case rest =>
  obtain ⟨rfl, rfl⟩ := hcut
  have cz : wc.cell? ⟨w.heap.size, 0, none⟩ = some (I64 L.sz) := hz.cell 0
  have hsz1 : 512 ≤ L.sz ∧ L.sz ≤ 4096 := by rcases L.sz_or with ⟨e, _⟩ | ⟨e, _⟩ <;> omega
  have hpI : (L.sz : Int) / 4 = (L.per : Int) := by unfold Lay.per; omega
  have hp1 : 128 ≤ L.per ∧ L.per ≤ 1024 := by unfold Lay.per; omega
  go_upto_region 23 with (go_at_call 21; refine (parts_any L.N (L.sz / 128) _ (by omega) (by omega) (by omega)).mono ?_; rintro e w2 ⟨rfl, rfl⟩)
  have hc0 : L.cnt 0 = partsN L.N (L.sz / 128) := rfl
  have hc1 : L.cnt 1 = partsN L.minis L.per := rfl
  have hc2 : L.cnt 2 = partsN (L.minis * 64) L.sz := rfl
  rw [← hc0]
  have HC1 := Lib.hid hc1
  have HC2 := Lib.hid hc2
  clear hc0 hc1 hc2
  have hbase1 : w.heap.size + 1 ≤ wc.heap.size := hz.lt
  go_cut [19] from 97 to 124 (fun s19 w1 => Fr [] wc w1 ∧ w1.ownsRow (w.heap.size + 1) 3 1 s19 (3 + L.N) (tab (3 + L.N) (fun c => I64 (L.cnt c))))
  case first =>
    obtain ⟨i0, hi, hz0, hz1, hz2⟩ := info_parts info3
    have hcon1 := Lib.hid (fun w0 => parts_any L.minis L.per w0 (by omega) (by omega) (by omega))
    have e64 : ((L.minis * 64 : Nat) : Int) = (L.minis : Int) * 64 := Int.natCast_mul _ _
    have hcon2 := (fun w0 => parts_any (L.minis * 64) L.sz w0 (by omega) (by omega) (by omega))
    rw [e64] at hcon2
    have hcon2 := Lib.hid hcon2
    clear e64
    have hw64 : IntKind.i64.wrap ((L.minis : Int) * 64) = (L.minis : Int) * 64 := IntWalk.i64_in _ (by omega)
    have hnews : ∀ (w0 : World), Fr [] wc w0 → ∀ j u, (tab L.N (fun c => I64 (L.big c)))[j]? = some u → w0.cell? ((⟨b9, 0, none⟩ : Addr).add j) = some u := by
      intro w0 f0 j u hj
      rw [tab_get?] at hj
      split at hj
      · rename_i hjn
        rw [Addr.add_mid, Nat.zero_add, ← hj]
        exact f0.cell0 ((hl9.cell j).trans (HG9.out j hjn))
      · cases hj
    have HNEWS := Lib.hid hnews
    clear hnews
    have hlit := World.ownsRow_lit (base := w.heap.size + 1) (e := 3) (size := 1) wc.drew #[I64 (L.cnt 0), I64 (partsN L.minis L.per), I64 (partsN (L.minis * 64) L.sz)] 3 (by simpa using hbase1) (by unfold maxLen; omega) rfl
    have HLIT := Lib.hid hlit
    clear hlit
    generalize L.minis = mi at *
    go_region_held3 (fun w' => w'.cell? ⟨w.heap.size, 0, none⟩ = some (I64 L.sz))
      (first | go_keep | exact hf3.cell (by simp [Value.ownBlock]; omega) (((Fr.refl [] wc).drew.alloc _).cell0 cz))
      (first | (refine step_app rfl (.tmp 122) (.tmp 123) 31 rfl 3 i0 (.int .i64 0) 1 8 Tryd.underlying31 hi hz0 hz1 hz2 rfl (by decide) (by omega) (w.heap.size + 1) (.slice (some ⟨wc.heap.size, 0, none⟩) 3 3) 3 _ (by simp [Act.eval]) HLIT.out ⟨b9, 0, none⟩ L.N c9 (tab L.N (fun c => I64 (L.big c))) (by simp [Act.eval]) (by omega) (by simp) (HNEWS.out _ ((Fr.refl [] wc).drew.alloc _)) (by intro u hu; obtain ⟨q, _, rfl⟩ := List.mem_map.1 hu; rfl) (by omega) (by simp; omega) ?_; rintro v' w3 ho3 hf3 hd3) | (go_at_call 21; (with_reducible refine (hcon1.out _).mono ?_); rintro e w3 ⟨rfl, rfl⟩) | (go_at_call 21; (with_reducible refine (hcon2.out _).mono ?_); rintro e w3 ⟨rfl, rfl⟩))
    all_goals
      go_wp2_with fail
      go_meet
      case rel =>
        refine ⟨((Fr.refl [] wc).drew.alloc _).trans hf3 (by simp [Value.ownBlock]), ?_⟩
        rw [tab_three _ _ _ L.N _ (fun c => I64 (L.cnt c)) rfl (by show I64 (L.cnt 1) = _; rw [HC1.out]) (by show I64 (L.cnt 2) = _; rw [HC2.out]) (fun i _ => by show I64 (L.cnt (3 + i)) = _; rw [cnt_big])] at ho3
        exact ho3
  case rest =>
  obtain ⟨hf3, ho19⟩ := hcut
  obtain ⟨b19, c19, l19, rfl, hb19, hl19, hg19, hc19, hc19'⟩ := own_blk2 ho19 (by omega)
  have HG19 := Lib.hid hg19
  have hF := hf.trans0 hf3
  have hz3 := hz.fr0 hf3
  have hL8 := hl8.fr0 hf3
  clear hg19 ho19 hf hl8 hl9 HG9 hc9 hc9' hb9 cz hz
  have hsum := hHL.sum_le
  obtain ⟨hft1, hft2, hft3⟩ := hHL.fats_ok
  go_upto_block 4 with (fail)
  go_cut [20] from 97 to 127 (fun s20 w1 => s20 = I64 L.sum ∧ wc = w1)
  case first =>
    go_wp2_with fail
    go_loop [20, 127] (fun s20 s127 => ∃ k : Nat, k ≤ 3 + L.N ∧ s127 = .int .i64 k ∧ s20 = I64 (sumN L.cnt k)) (fun _ s127 => 3 + L.N - (intOf s127).toNat)
    case atStart => exact ⟨0, by omega, rfl, rfl⟩
    case round =>
      obtain ⟨k, hk, rfl, rfl⟩ := hrel
      by_cases hlt : k < 3 + L.N
      · have hltI : (k : Int) < 3 + L.N := by omega
        have c1 : wc.cell? ⟨b19, k, none⟩ = some (I64 (L.cnt k)) := (hl19.cell k).trans (HG19.out k hlt)
        have h1 := sumN_mono L.cnt (show k + 1 ≤ 3 + L.N by omega)
        have h2 : sumN L.cnt (k + 1) = sumN L.cnt k + L.cnt k := rfl
        have h3 : sumN L.cnt (3 + L.N) ≤ 600 := hsum
        have H2 := Lib.hid h2
        rw [h2] at h1
        clear h2
        go_wp2_with fail
        go_round
        case rel => exact ⟨k + 1, by omega, by go_num, by rw [H2.out]; go_num⟩
        case measure => simp [intOf]; omega
      · have hkN : k = 3 + L.N := by omega
        have hltI : ¬ (k : Int) < 3 + L.N := by omega
        have hm : sumN L.cnt k = L.sum := by rw [hkN]; rfl
        have HM := Lib.hid hm
        clear hm hkN
        go_wp2_with fail
        go_meet
        case rel => exact ⟨by rw [HM.out], rfl⟩
  case rest =>
  obtain ⟨rfl, rfl⟩ := hcut
  go_upto_block 6 with (fail)
  go_cut [23] from 97 to 134 (fun s23 w1 => s23 = I64 L.fats ∧ wc = w1)
  case first =>
    go_wp2_with fail
    go_loop [23] (fun s23 => ∃ f fuel : Nat, fatGo L.sum L.per fuel f = L.fats ∧ 1 ≤ f ∧ f ≤ 20 ∧ 20 ≤ f + fuel ∧ s23 = .int .i64 f) (fun s23 => 21 - (intOf s23).toNat)
    case atStart => exact ⟨1, 100, rfl, by omega, by omega, by omega, rfl⟩
    case round =>
      obtain ⟨f, fuel, hgo, hf1, hf2, hf3, rfl⟩ := hrel
      have hle6 : partsN (L.sum + f) L.per ≤ 6 := partsN_le (by omega) (by have := Nat.mul_le_mul_left 6 hp1.1; omega)
      have hcon := Lib.hid (parts_int ((L.sum : Int) + f) (L.sum + f) L.per (by omega) wc (by omega) (by omega) (by omega))
      have HGO := Lib.hid hgo
      clear hgo
      generalize hq : partsN (L.sum + f) L.per = q at *
      by_cases hlt : f < q
      · have hltI : (f : Int) < q := by omega
        have hg : ∃ fuel', fatGo L.sum L.per fuel' (f + 1) = L.fats ∧ 20 ≤ f + 1 + fuel' := by
          have := HGO.out
          cases fuel with
          | zero => omega
          | succ fuel => rw [fatGo, hq, if_pos hlt] at this; exact ⟨fuel, this, by omega⟩
        obtain ⟨fuel', hg1, hg2⟩ := hg
        have HG := Lib.hid hg1
        clear hg1 hq
        go_wp2_with (go_at_call 21; refine hcon.out.mono ?_; rintro e w1 ⟨rfl, rfl⟩)
        go_round
        case rel => exact ⟨f + 1, fuel', HG.out, by omega, by omega, hg2, by go_num⟩
        case measure => simp [intOf]; omega
      · have hltI : ¬ (f : Int) < q := by omega
        have hF : f = L.fats := by
          have := HGO.out
          cases fuel with
          | zero => exact this
          | succ fuel => rw [fatGo, hq, if_neg hlt] at this; exact this
        have HFX := Lib.hid hF
        clear hF hq
        go_wp2_with (go_at_call 21; refine hcon.out.mono ?_; rintro e w1 ⟨rfl, rfl⟩)
        go_meet
        case rel => exact ⟨by rw [← HFX.out], rfl⟩
  case rest =>
  obtain ⟨rfl, rfl⟩ := hcut
  have htot : L.tot ≤ L.sum + L.fats ∧ L.sum + L.fats ≤ L.tot := ⟨Nat.le_refl _, Nat.le_refl _⟩
  have htot1 : L.tot ≤ 606 := by omega
  have htpos := hHL.tot_pos
  have hfn : L.fats * L.per ≤ 6144 := Nat.le_trans (Nat.mul_le_mul hft3 hp1.2) (by omega)
  have hmk := Lib.hid (fun w0 => mk_u32 ((L.fats : Int) * L.per) (L.fats * L.per) (by rw [Int.natCast_mul]) (by omega) w0)
  have hfI : (0 : Int) ≤ (L.fats : Int) * L.per ∧ (L.fats : Int) * L.per ≤ 6144 := by rw [← Int.natCast_mul]; omega
  have hcon := Lib.hid (mixed_int ((L.sum : Int) + L.fats) L.step L.tot L.step (by omega) rfl wc (by omega) (by omega))
  go_upto_region 34 with (go_at_call 22; refine hcon.out.mono ?_; rintro e w1 ⟨v24, rfl, hf4, hi24⟩)
  have hF4 := hF.trans0 hf4
  have hz4 := hz3.fr0 hf4
  have hL8a := hL8.fr0 hf4
  have hL19 := hl19.fr0 hf4
  clear hF hz3 hL8 hl19 hf4 hcon
  obtain ⟨pb, pc, lp, rfl, hpb, hpc, hpc', hlp, hgp⟩ := hi24
  have HGP := Lib.hid hgp
  clear hgp
  obtain ⟨fn, hfn0⟩ : ∃ fn, fn = L.fats * L.per := ⟨_, rfl⟩
  rw [← hfn0] at hmk hfn
  go_cut [25] from 97 to 152 (fun s25 w2 => ∃ fb xb : Nat, s25 = .pointer (some ⟨xb, 0, none⟩) ∧ Fr [] w1 w2 ∧ w1.heap.size ≤ fb ∧ w1.heap.size ≤ xb ∧ Blk w2 xb 22 [.slice (some ⟨fb, 0, none⟩) fn fn] ∧ Tbl w2 fb fn (fun _ => 0))
  case first =>
    have hmk' := hmk.out
    clear hfn0
    go_wp2_with fail
    go_meet
    case rel =>
      refine ⟨w1.heap.size, w1.heap.size + 1, rfl, ((Fr.refl _ _).alloc _).alloc _, Nat.le_refl _, by omega, ?_, (Blk.new w1 63 (tab fn (fun _ => .int .u32 0))).alloc _⟩
      have := Blk.new' (w1.alloc (Obj.cells (tab fn (fun _ => .int .u32 0)).toArray 63)) 22 #[.slice (some ⟨w1.heap.size, 0, none⟩) fn fn]
      simpa using this
  case rest =>
  obtain ⟨fb, xb, rfl, hf5, hfb0, hxb0, hxb, htb⟩ := hcut
  have cx : wc.cell? ⟨xb, 0, none⟩ = some (.slice (some ⟨fb, 0, none⟩) fn fn) := hxb.cell 0
  have nxf : xb ≠ fb := blk_ne hxb htb (by decide)
  have nzf : w.heap.size ≠ fb := by have := hz4.lt; omega
  have npf : pb ≠ fb := by have := hlp.lt; omega
  have n8f : b8 ≠ fb := by have := hL8a.lt; omega
  have n19f : b19 ≠ fb := by have := hL19.lt; omega
  have hF5 := hF4.trans0 hf5
  have hfbw : w.heap.size ≤ fb := by have := hF4.size; omega
  have hfn2 : L.tot ≤ fn := by rw [hfn0]; exact hft1
  have HFN := Lib.hid hfn0
  clear hfn0 hmk
  go_upto_block 8 with (fail)
  go_cut [] from 97 to 155 (fun w2 => Fr [fb] wc w2 ∧ Tbl w2 fb fn (fun _ => 4294967295))
  case first =>
    go_wp2_with fail
    go_loopw [155] (fun s155 wr => ∃ k : Nat, k ≤ fn ∧ s155 = .int .i64 k ∧ Fr [fb] wc wr ∧ Tbl wr fb fn (fun p => if p < k then 4294967295 else 0)) (fun s155 _ => fn - (intOf s155).toNat)
    case atStart => exact ⟨0, by omega, rfl, Fr.refl _ _, htb.congr (fun p _ => by simp)⟩
    case round =>
      obtain ⟨k, hk, rfl, hf, ht⟩ := hrel
      by_cases hlt : k < fn
      · have hltI : (k : Int) < fn := by omega
        have c1 := hf.cell (by simpa using nxf) cx
        have c2 := ht.cell k hlt
        have z2 := Blk.frozen ht k
        go_wp2_with fail
        go_roundw
        case rel => exact ⟨k + 1, by omega, by go_num, hf.setCell (.inl (by simp)) _, (Tbl.set ht k 4294967295).congr (fun p _ => by
          show (if p = k then 4294967295 else if p < k then 4294967295 else 0) = if p < k + 1 then 4294967295 else 0
          by_cases h : p = k
          · rw [if_pos h, if_pos (by omega)]
          · rw [if_neg h]
            by_cases h2 : p < k
            · rw [if_pos h2, if_pos (by omega)]
            · rw [if_neg h2, if_neg (by omega)])⟩
        case measure => simp [intOf]; omega
      · obtain rfl : k = fn := by omega
        go_wp2_with fail
        go_meet
        case rel => exact ⟨hf, ht.congr (fun p hp => by rw [if_pos hp])⟩
  case rest =>
  clear htb
  obtain ⟨hf6, htb⟩ := hcut
  have cx6 := hf6.cell (by simpa using nxf) cx
  have hlp6 := (hlp.fr0 hf5).fr hf6 (by simpa using npf)
  have hfc : L.fats ≤ pc := by omega
  go_upto_block 10 with (fail)
  go_cut [] from 97 to 166 (fun w2 => Fr [fb] wc w2 ∧ Tbl w2 fb fn (fsT L.pl L.fats))
  case first =>
    go_wp2_with fail
    go_loopw [166] (fun s166 wr => ∃ k : Nat, k ≤ L.fats ∧ s166 = .int .i64 k ∧ Fr [fb] wc wr ∧ Tbl wr fb fn (fsT L.pl k)) (fun s166 _ => L.fats - (intOf s166).toNat)
    case atStart => exact ⟨0, by omega, rfl, Fr.refl _ _, htb⟩
    case round =>
      obtain ⟨k, hk, rfl, hf, ht⟩ := hrel
      by_cases hlt : k < L.fats
      · have hltI : (k : Int) < L.fats := by omega
        have hpl := hHL.pl_lt k
        have c1 := hf.cell (by simpa using nxf) cx6
        have c2 := ht.cell (L.pl k) (by omega)
        have c3 : wr.cell? ⟨pb, k, none⟩ = some (I64 (L.pl k)) := hf.cell (by simpa using npf) ((hlp6.cell k).trans (HGP.out k (by omega)))
        have z2 := Blk.frozen ht (L.pl k)
        go_wp2_with fail
        go_roundw
        case rel => exact ⟨k + 1, by omega, by go_num, hf.setCell (.inl (by simp)) _, (Tbl.set ht (L.pl k) 4294967293).congr (fun p _ => rfl)⟩
        case measure => simp [intOf]; omega
      · have hkN : k = L.fats := by omega
        rw [hkN] at ht
        clear hkN
        go_wp2_with fail
        go_meet
        case rel => exact ⟨hf, ht⟩
  case rest =>
  clear htb
  obtain ⟨hf7, htb⟩ := hcut
  have cx7 := hf7.cell (by simpa using nxf) cx6
  have hlp7 := hlp6.fr hf7 (by simpa using npf)
  have hL19a := (hL19.fr0 hf5).fr (hf6.trans_same hf7) (by simpa using n19f)
  have hL8b := (hL8a.fr0 hf5).fr (hf6.trans_same hf7) (by simpa using n8f)
  have hz7 := (hz4.fr0 hf5).fr (hf6.trans_same hf7) (by simpa using nzf)
  have hxb7 := hxb.fr (hf6.trans_same hf7) (by simpa using nxf)
  have hF7 : Fr [] w wc := hF5.trans (hf6.trans_same hf7) (by simp; omega)
  have hcon := Lib.hid (chained_any fb fn fn pb L.tot pc L.fats b19 (3 + L.N) c19 (fsT L.pl L.fats) L.pl L.cnt lp l19 wc htb hlp7 HGP.out hL19a HG19.out (by have : L.sum = sumN L.cnt (3 + L.N) := rfl; omega) (fun i hi => Nat.lt_of_lt_of_le (hHL.pl_lt i) hfn2) (by omega) (by omega) (by omega) (by omega) ⟨hpc, hpc'⟩ ⟨hc19, hc19'⟩)
  go_upto_region 46 with (go_at_call 23; refine hcon.out.mono ?_; rintro e w1 ⟨v29, rfl, hf8, ht8, ho29⟩)
  obtain ⟨b29, c29, l29, rfl, hb29, hl29, hg29, hc29, hc29'⟩ := own_blk2 ho29 (by omega)
  have HG29 := Lib.hid hg29
  have hcx8 := hf8.cell (by simpa using nxf) cx7
  have hlp8 := hlp7.fr hf8 (by simpa using npf)
  have hL19c := hL19a.fr hf8 (by simpa using n19f)
  have hL8d := hL8b.fr hf8 (by simpa using n8f)
  have hz8 := hz7.fr hf8 (by simpa using nzf)
  have hxb8 := hxb7.fr hf8 (by simpa using nxf)
  have hF8 : Fr [] w w1 := hF7.trans hf8 (by simp; omega)
  have hwc := hF7.size
  clear hg29 ho29 hf8 hf7 hf6 hf5 cx cx6 cx7 hlp hlp6 hlp7 hL19 hL19a hL8a hL8b hz4 hz7 hxb hxb7 hF4 hF5 hF7 htb hcon
  have hc1 : w1.cell? ⟨b19, 1, none⟩ = some (I64 (L.cnt 1)) := (hL19c.cell 1).trans (HG19.out 1 (by omega))
  have hcl1 := (hHL.cnt_le 0 (by omega)).2.2
  obtain ⟨mn, hmn⟩ : ∃ mn, mn = L.cnt 1 * L.per := ⟨_, rfl⟩
  have hmnI : (0 : Int) ≤ (L.cnt 1 : Int) * L.per ∧ (L.cnt 1 : Int) * L.per ≤ 10240 := by
    rw [← Int.natCast_mul]
    have := Nat.mul_le_mul hcl1 hp1.2
    omega
  have hmn2 : mn ≤ 10240 := by have := Nat.mul_le_mul hcl1 hp1.2; omega
  have hmk := Lib.hid (fun w0 => mk_u32 ((L.cnt 1 : Int) * L.per) mn (by rw [hmn, Int.natCast_mul]) (by omega) w0)
  have hmm : L.minis ≤ mn := by
    rw [hmn, HC1.out]
    exact le_partsN _ _ (by omega)
  have HMN := Lib.hid hmn
  clear hmn
  go_cut [30] from 97 to 184 (fun s30 w2 => ∃ mb : Nat, s30 = .slice (some ⟨mb, 0, none⟩) mn mn ∧ Fr [] w1 w2 ∧ w1.heap.size ≤ mb ∧ Tbl w2 mb mn (fun _ => 0))
  case first =>
    have hmk' := hmk.out
    go_wp2_with fail
    go_meet
    case rel => exact ⟨w1.heap.size, rfl, (Fr.refl _ _).alloc _, Nat.le_refl _, Blk.new w1 63 (tab mn (fun _ => .int .u32 0))⟩
  case rest =>
  obtain ⟨mb, rfl, hf9, hmb0, htm⟩ := hcut
  have hmbw : w.heap.size ≤ mb := by have := hF8.size; omega
  have nmb : ∀ (b : Nat) (S : TypeId) (l : List Value), Blk w1 b S l → b ∉ [mb] := fun b S l h => by have := h.lt; simp; omega
  have NMB := Lib.hid nmb
  clear nmb hmk
  go_upto_block 12 with (fail)
  go_cut [] from 97 to 187 (fun w2 => Fr [mb] wc w2 ∧ Tbl w2 mb mn (fun _ => 4294967295))
  case first =>
    go_wp2_with fail
    go_loopw [187] (fun s187 wr => ∃ k : Nat, k ≤ mn ∧ s187 = .int .i64 k ∧ Fr [mb] wc wr ∧ Tbl wr mb mn (fun p => if p < k then 4294967295 else 0)) (fun s187 _ => mn - (intOf s187).toNat)
    case atStart => exact ⟨0, by omega, rfl, Fr.refl _ _, htm.congr (fun p _ => by simp)⟩
    case round =>
      obtain ⟨k, hk, rfl, hf, ht⟩ := hrel
      by_cases hlt : k < mn
      · have hltI : (k : Int) < mn := by omega
        have c2 := ht.cell k hlt
        have z2 := Blk.frozen ht k
        go_wp2_with fail
        go_roundw
        case rel => exact ⟨k + 1, by omega, by go_num, hf.setCell (.inl (by simp)) _, (Tbl.set ht k 4294967295).congr (fun p _ => by
          show (if p = k then 4294967295 else if p < k then 4294967295 else 0) = if p < k + 1 then 4294967295 else 0
          by_cases h : p = k
          · rw [if_pos h, if_pos (by omega)]
          · rw [if_neg h]
            by_cases h2 : p < k
            · rw [if_pos h2, if_pos (by omega)]
            · rw [if_neg h2, if_neg (by omega)])⟩
        case measure => simp [intOf]; omega
      · obtain rfl : k = mn := by omega
        go_wp2_with fail
        go_meet
        case rel => exact ⟨hf, ht.congr (fun p hp => by rw [if_pos hp])⟩
  case rest =>
  clear htm
  obtain ⟨hf10, htm⟩ := hcut
  have hfA : Fr [mb] w1 wc := (hf9.mono (by simp)).trans_same hf10
  have hF10 : Fr [] w wc := hF8.trans hfA (by simp; have := hF8.size; omega)
  have hl29a := hl29.fr hfA (NMB.out _ _ _ hl29)
  have hlp9 := hlp8.fr hfA (NMB.out _ _ _ hlp8)
  have hL19d := hL19c.fr hfA (NMB.out _ _ _ hL19c)
  have hL8e := hL8d.fr hfA (NMB.out _ _ _ hL8d)
  have hz9 := hz8.fr hfA (NMB.out _ _ _ hz8)
  have hxb9 := hxb8.fr hfA (NMB.out _ _ _ hxb8)
  have htf9 : Tbl wc fb fn (chAll L.pl L.cnt L.fats (fsT L.pl L.fats) (3 + L.N)) := Blk.fr ht8 hfA (NMB.out _ _ _ ht8)
  have nfm : fb ≠ mb := by simpa using NMB.out _ _ _ ht8
  clear hl29 hlp8 hL19c hL8d hz8 hxb8 ht8 hfA hf9 hf10 hF8 hcx8 hc1
  have hcon := Lib.hid (mixed_int (L.minis : Int) ((L.step : Int) + 3) L.minis (L.step + 3) rfl (by omega) wc (by omega) (by omega))
  go_upto_region 53 with (go_at_call 22; refine hcon.out.mono ?_; rintro e w1 ⟨v32, rfl, hf11, hi32⟩)
  obtain ⟨qb, qc, lq, rfl, hqb, hqc, hqc', hlq, hgq⟩ := hi32
  have hL8f := hL8e.fr0 hf11
  have htm1 : Tbl w1 mb mn (fun _ => 4294967295) := Blk.fr0 htm hf11
  have hmpl : ∀ i, i < L.minis → L.mpl i < mn := fun i hi => Nat.lt_of_lt_of_le (mixP_lt _ _ _ (by omega)) hmm
  have hcon2 := Lib.hid (chained_any mb mn mn qb L.minis qc 0 b8 L.N c8 (fun _ => 4294967295) L.mpl L.small lq l8 w1 htm1 hlq hgq hL8f HG8.out (by have : L.minis = sumN L.small L.N := rfl; omega) hmpl (by omega) (by omega) (by omega) (by omega) ⟨hqc, hqc'⟩ ⟨hc8, hc8'⟩)
  clear hgq hmpl
  go_upto_region 54 with (go_at_call 23; refine hcon2.out.mono ?_; rintro e w2 ⟨v33, rfl, hf12, htm2, ho33⟩)
  obtain ⟨b33, c33, l33, rfl, hb33, hl33, hg33, hc33, hc33'⟩ := own_blk2 ho33 hn1
  have hTab : WTab w2 L w.heap.size xb fb fn mb mn pb b19 b29 b33 (chAll L.pl L.cnt L.fats (fsT L.pl L.fats) (3 + L.N)) (chAll L.mpl L.small 0 (fun _ => 4294967295) L.N) := by
    have e : ∀ (b : Nat) (S : TypeId) (l : List Value), Blk wc b S l → b ≠ mb → Blk w2 b S l := fun b S l h hb => (h.fr0 hf11).fr hf12 (by simpa using hb)
    exact {
      z := e _ _ _ hz9 (blk_ne hz9 htm (by decide))
      x := e _ _ _ hxb9 (blk_ne hxb9 htm (by decide))
      ft := e _ _ _ htf9 nfm
      mt := htm2
      pl := ⟨lp, e _ _ _ hlp9 (blk_ne hlp9 htm (by decide)), HGP.out⟩
      cn := ⟨l19, e _ _ _ hL19d (blk_ne hL19d htm (by decide)), HG19.out⟩
      st := ⟨l29, e _ _ _ hl29a (blk_ne hl29a htm (by decide)), HG29.out⟩
      ms := ⟨l33, hl33, fun i hi => by rw [hg33 i hi, mstart_ch]⟩ }
  have hF12 : Fr [] w w2 := (hF10.trans0 hf11).trans hf12 (by simp; omega)
  clear hz9 hxb9 htf9 hlp9 hL19d hl29a hL8e hL8f htm htm1 htm2 hlq hl33 hf11 hf12 hcon hcon2 hg33 hF10 ho33
  have hbytes : L.bytes = L.sz * (1 + L.tot) := rfl
  have hbI : ((L.bytes : Nat) : Int) = (L.sz : Int) * (1 + (L.sum : Int) + (L.fats : Int)) := by
    have e1 : (1 + (L.sum : Int) + (L.fats : Int)) = ((1 + L.tot : Nat) : Int) := by omega
    rw [e1, hbytes, Int.natCast_mul]
  have hbB : L.bytes ≤ 2490368 := by
    rw [hbytes]
    have := Nat.mul_le_mul hsz1.2 (show 1 + L.tot ≤ 608 by omega)
    omega
  have hbI2 : (0 : Int) ≤ (L.sz : Int) * (1 + (L.sum : Int) + (L.fats : Int)) ∧ (L.sz : Int) * (1 + (L.sum : Int) + (L.fats : Int)) ≤ 2490368 := by rw [← hbI]; omega
  have hmk := Lib.hid (fun w0 => mk_u8 ((L.sz : Int) * (1 + (L.sum : Int) + (L.fats : Int))) L.bytes hbI.symm (by omega) w0)
  have HBY := Lib.hid hbytes
  clear hbytes hbI
  go_cut [34] from 97 to 208 (fun s34 w3 => ∃ ob outb : Nat, s34 = .pointer (some ⟨ob, 0, none⟩) ∧ Fr [] w2 w3 ∧ w2.heap.size ≤ outb ∧ w2.heap.size ≤ ob ∧ Blk w3 ob 23 [.slice (some ⟨outb, 0, none⟩) L.bytes L.bytes] ∧ Bts w3 outb L.bytes (fun _ => 0))
  case first =>
    have hmk' := hmk.out
    have cz : w2.cell? ⟨w.heap.size, 0, none⟩ = some (I64 L.sz) := hTab.z.cell 0
    go_wp2_with fail
    go_meet
    case rel =>
      refine ⟨w2.heap.size + 1, w2.heap.size, rfl, ((Fr.refl _ _).alloc _).alloc _, Nat.le_refl _, by omega, ?_, (Blk.new w2 5 (tab L.bytes (fun _ => .int .u8 0))).alloc _⟩
      have := Blk.new' (w2.alloc (Obj.cells (tab L.bytes (fun _ => .int .u8 0)).toArray 5)) 23 #[.slice (some ⟨w2.heap.size, 0, none⟩) L.bytes L.bytes]
      simpa using this
  case rest =>
  obtain ⟨ob, outb, rfl, hf13, hob0, hox0, hobx, hout⟩ := hcut
  have hTab1 := hTab.fr0 hf13
  have hF13 := hF12.trans0 hf13
  have hs12 := hF12.size
  clear hmk hTab hF12 hf13
  go_upto_region 55 with (fail)
  go_cut [35] from 97 to 209 (fun s35 w3 => ∃ fnb : Nat, s35 = .pointer (some ⟨fnb, 0, none⟩) ∧ Fr [] wc w3 ∧ wc.heap.size ≤ fnb ∧ Blk w3 fnb 76 [.func (.func 24) #[] #[.pointer (some ⟨ob, 0, none⟩), .pointer (some ⟨w.heap.size, 0, none⟩)]])
  case first =>
    have hmf : ∀ (fn : Fn) (first cap : Array Value) (w : World), (Instr.makeFunc fn first cap).run Tryd.prog w = .ok (.func fn first cap) w := fun _ _ _ _ => rfl
    go_wp2_with fail
    go_meet
    case rel => exact ⟨wc.heap.size, rfl, (Fr.refl _ _).alloc _, Nat.le_refl _, Blk.new' _ _ _⟩
  case rest =>
  obtain ⟨fnb, rfl, hf14, hfnb0, hfnb⟩ := hcut
  have hTab2 := hTab1.fr0 hf14
  have hF14 := hF13.trans0 hf14
  have hobx1 := hobx.fr0 hf14
  have hout1 : Bts wc outb L.bytes (fun _ => 0) := Blk.fr0 hout hf14
  clear hTab1 hF13 hf14 hobx hout
  have hmf : ∀ (fn : Fn) (first cap : Array Value) (w : World), (Instr.makeFunc fn first cap).run Tryd.prog w = .ok (.func fn first cap) w := fun _ _ _ _ => rfl
  go_upto_region 56 with (fail)
  go_cut [36] from 97 to 210 (fun s36 w3 => s36 = .func (.func 25) #[] #[.pointer (some ⟨xb, 0, none⟩), .pointer (some ⟨fnb, 0, none⟩)] ∧ wc = w3)
  case first =>
    go_wp2_with fail
    go_meet
    case rel => exact ⟨rfl, rfl⟩
  case rest =>
  obtain ⟨rfl, rfl⟩ := hcut
  clear hmf
  rename (∀ (a : Act) (w : World), Code.wp Tryd.prog _ _ a w → _) => hK
  refine hK _ _ ?_
  have hE : WEnv L w lb lcap fn mn pc c19 c29 c33 outb dv (chAll L.pl L.cnt L.fats (fsT L.pl L.fats) (3 + L.N)) (chAll L.mpl L.small 0 (fun _ => 4294967295) L.N) := {
    hL := hHL
    st := hst
    nd := ⟨⟨ll, hll, HLC.out⟩, HDAT.out⟩
    lc := hc
    fo := fat_ok L hHL
    fl := fun p => fat_lt L hHL p
    mo := mfat_ok L
    ml := fun p hp => by
      by_cases h0 : L.minis = 0
      · exfalso
        have h1 : L.cnt 1 = 0 := by
          rw [HC1.out, h0]
          have := partsN_le (n := 0) (size := L.per) (a := 0) (by omega) (by omega)
          omega
        have h2 := HMN.out
        rw [h1, Nat.zero_mul] at h2
        omega
      · exact mfat_lt L hHL h0 p
    fn_ := HFN.out
    mn_ := HMN.out
    pc_ := ⟨hpc, hpc'⟩
    c19_ := ⟨hc19, hc19'⟩
    c29_ := ⟨hc29, hc29'⟩
    c33_ := ⟨hc33, hc33'⟩
    ob_ := by omega }
  exact write_b _ _ _ _ _ _ _ _ _ _ _ _ _ _ _ _ _ _ _ _ _ _ _ _ _ _ _ _ _ _ _ _ _ _ _ _ _ _ _ _ _ _ _ _ _ _ _ _ _ _ _ _ _ _ _ _ _ _ _ _ _ _ _ _ _ _ _ _ _ _ _ _ _ _ _ _ _ _ _ _ _ _ _ _ _ _ _ _ _ _ _ _ _ _ _ _ _ _ _ _ _ _ _ _ _ _ _ _ _ _ _ _ _ _ _ _ _ _ _ _ _ _ _ _ _ _ _ _ _ _ _ _ _ _ _ _ _ _ _ _ _ _ _ _ _ _ _ _ _ _ _ _ _ _ _ _ _ _ _ _ _ _ _ _ _ _ _ _ _ _ _ _ _ _ _ _ _ _ _ _ _ _ _ _ _ _ _ _ _ _ _ _ _ _ _ _ _ _ _ _ _ _ _ _ _ _ _ _ _ _ _ _ _ _ _ _ _ _ _ _ _ _ _ _ _ _ _ _ _ _ _ _ _ _ _ _ _ _ _ _ _ _ _ _ _ _ _ _ _ _ _ _ _ _ _ _ _ _ _ _ _ _ _ _ _ _ _ _ _ _ _ _ _ _ _ _ _ _ _ _ _ _ _ _ _ _ _ _ _ _ _ _ _ _ _ _ _ _ _ _ _ _ _ _ _ _ _ _ _ _ _ _ _ _ _ _ _ _ _ _ _ _ _ _ _ _ _ _ _ _ _ _ _ _ _ _ _ _ _ _ _ _ _ _ _ _ _ _ _ _ _ _ _ _ _ _ _ _ _ _ _ _ _ _ _ _ _ _ _ _ _ _ _ _ _ _ _ _ _ _ _ _ _ _ _ _ _ _ _ _ _ _ _ _ _ _ _ _ _ _ _ _ _ _ _ _ _ _ _ _ _ _ _ _ _ _ _ _ _ _ _ _ _ _ _ _ _ _ _ _ _ _ _ _ _ _ _ _ _ _ _ _ _ _ _ _ _ _ _ _ _ _ _ _ _ _ _ _ _ _ _ _ _ _ _ _ _ _ _ _ _ _ _ _ _ _ _ _ _ _ _ _ _ _ _ _ _ _ _ _ _ _ _ _ _ _ L lb lcap w.heap.size xb fb fn mb mn pb pc b19 c19 b29 c29 b33 c33 ob outb fnb dv _ _ w wc hE hTab2 hF14 ⟨hobx1, hfnb, hout1⟩
end Go.Proofs.YtokpomdfgbbhlaaDoor

/- What the laws share: few, versionOf; a row of nodes with a cell stored. -/
namespace Go.Proofs.YtokpomdfgbbhlaaDoor
open Go Go.RowKit

theorem few_no1 (x y : Option Addr) (n m c d : Nat) (w : World) (h : 100 < n) : Calls Tryd.prog 8 #[.slice x n c, .slice y m d] w fun e w' => e = .returned (.bool false) ∧ w = w' := by
  have hd : decide (((n : Nat) : Int) ≤ 100) = false := by simp; omega
  go_enter Tryd.func8, Tryd.ntmps8
  go_wp2_with fail
  go_ret
  exact ⟨rfl, rfl⟩
theorem few_no2 (x y : Option Addr) (n m c d : Nat) (w : World) (h : n ≤ 100) (h2 : 1000 < m) : Calls Tryd.prog 8 #[.slice x n c, .slice y m d] w fun e w' => e = .returned (.bool false) ∧ w = w' := by
  have hd : decide (((n : Nat) : Int) ≤ 100) = true := by simp; omega
  have hd2 : decide (((m : Nat) : Int) ≤ 1000) = false := by simp; omega
  go_enter Tryd.func8, Tryd.ntmps8
  go_wp2_with fail
  go_ret
  exact ⟨rfl, rfl⟩
theorem few_yes (x y : Option Addr) (n m c d : Nat) (w : World) (h : n ≤ 100) (h2 : m ≤ 1000) : Calls Tryd.prog 8 #[.slice x n c, .slice y m d] w fun e w' => e = .returned (.bool true) ∧ w = w' := by
  have hd : decide (((n : Nat) : Int) ≤ 100) = true := by simp; omega
  have hd2 : decide (((m : Nat) : Int) ≤ 1000) = true := by simp; omega
  go_enter Tryd.func8, Tryd.ntmps8
  go_wp2_with fail
  go_ret
  exact ⟨rfl, rfl⟩
theorem version_any (four : Bool) (w : World) : Calls Tryd.prog 13 #[.bool four] w fun e w' => e = .returned (.int .i64 ((if four = true then 4 else 3 : Nat) : Int)) ∧ w = w' := by
  cases four
  · go_enter Tryd.func13, Tryd.ntmps13
    go_wp2_with fail
    go_ret
    exact ⟨rfl, rfl⟩
  · go_enter Tryd.func13, Tryd.ntmps13
    go_wp2_with fail
    go_ret
    exact ⟨rfl, rfl⟩

theorem version_is (four : Bool) (v : Nat) (hv : (if four = true then 4 else 3) = v) (w : World) : Calls Tryd.prog 13 #[.bool four] w fun e w' => e = .returned (.int .i64 v) ∧ w = w' := by
  subst hv
  exact version_any four w

theorem NdRow.put {w : World} {lb N : Nat} {nd : Nat → Nd} {dv : Nat → Value} (h : NdRow w lb N nd dv) (e j : Nat) (v : Value) (nd' : Nat → Nd) (dv' : Nat → Value) (hx : ∀ x, x ≠ e → nd' x = nd x ∧ dv' x = dv x)
    (hj : ndCells (nd' e) (dv' e) = (ndCells (nd e) (dv e)).set j v) (hj28 : j < 28) : NdRow (w.setCell ⟨lb, e * 28 + j, none⟩ v) lb N nd' dv' := by
  obtain ⟨l, hl, hc⟩ := h
  refine ⟨l.set (e * 28 + j) v, hl.set _ _, ?_⟩
  intro k hk i hi
  by_cases hke : k = e
  · subst hke
    rw [hj]
    by_cases hij : i = j
    · subst hij
      have h1 := hc k hk i hi
      rw [List.getElem?_eq_getElem (show i < (ndCells (nd k) (dv k)).length by rw [ndCells_length]; exact hi)] at h1
      have h2 := (List.getElem?_eq_some_iff.1 h1).1
      rw [List.getElem?_set_self h2, List.getElem?_set_self (by rw [ndCells_length]; exact hi)]
    · rw [List.getElem?_set_ne (by omega), List.getElem?_set_ne (by omega)]
      exact hc k hk i hi
  · rw [(hx k hke).1, (hx k hke).2, List.getElem?_set_ne (by omega)]
    exact hc k hk i hi

theorem NT.Fits.congr {nd nd' : Nat → Nd} (h : ∀ e, (nd' e).left = (nd e).left ∧ (nd' e).right = (nd e).right ∧ (nd' e).child = (nd e).child) : ∀ {t : NT} {x : Int}, t.Fits nd x → t.Fits nd' x
  | .nil, _, hx => hx
  | .node e l c r, x, ⟨h0, h1, h2, h3⟩ => ⟨h0, by rw [(h e).1]; exact h1.congr h, by rw [(h e).2.2]; exact h2.congr h, by rw [(h e).2.1]; exact h3.congr h⟩

/-- Another class and other times of the root. -/
def rootSet (nd : Nat → Nd) (f : Nat → UInt8) (cr md : Nat) : Nat → Nd := fun x => if x = 0 then { nd 0 with cls := f, cr := cr, md := md } else nd x
theorem rootSet_same (nd : Nat → Nd) (f : Nat → UInt8) (cr md : Nat) (x : Nat) : (rootSet nd f cr md x).name = (nd x).name ∧ (rootSet nd f cr md x).stream = (nd x).stream ∧ (rootSet nd f cr md x).len = (nd x).len ∧ (rootSet nd f cr md x).dat = (nd x).dat ∧
    (rootSet nd f cr md x).left = (nd x).left ∧ (rootSet nd f cr md x).right = (nd x).right ∧ (rootSet nd f cr md x).child = (nd x).child := by
  unfold rootSet
  split
  · rename_i h; subst h; exact ⟨rfl, rfl, rfl, rfl, rfl, rfl, rfl⟩
  · exact ⟨rfl, rfl, rfl, rfl, rfl, rfl, rfl⟩
theorem rootSet_self (nd : Nat → Nd) (x : Nat) : rootSet nd (nd 0).cls (nd 0).cr (nd 0).md x = nd x := by
  unfold rootSet
  split
  · rename_i h; subst h; rfl
  · rfl

theorem NodesOK.rootSet {base lb N : Nat} {w w' : World} {nd : Nat → Nd} {dv : Nat → Value} {t : NT} (h : NodesOK base lb N w nd dv t) (f : Nat → UInt8) (cr md : Nat) (hcr : cr < 18446744073709551616) (hmd : md < 18446744073709551616) (hf : Fr [lb] w w')
    (hrow : NdRow w' lb N (rootSet nd f cr md) dv) : NodesOK base lb N w' (rootSet nd f cr md) dv t where
  n1 := h.n1
  n2 := h.n2
  lbb := h.lbb
  row := hrow
  dat := fun k hk => by
    obtain ⟨ll, hll⟩ := h.row.lbk
    have h1 := (h.dat k hk).fr hf (fun b l hb hb2 => by
      have : b = lb := by simpa using hb2
      subst this
      exact absurd (hb.unique hll).1 (by decide))
    unfold DatIs at h1 ⊢
    rw [(rootSet_same nd f cr md k).2.2.1, (rootSet_same nd f cr md k).2.2.2.1]
    exact h1
  ok := fun four step => by
    have hL := h.ok four step
    have s := rootSet_same nd f cr md
    exact {
      n1 := hL.n1
      n2 := hL.n2
      root := by show (Go.Proofs.YtokpomdfgbbhlaaDoor.rootSet nd f cr md 0).stream = false; rw [(s 0).2.1]; exact hL.root
      len := fun k hk => by show (Go.Proofs.YtokpomdfgbbhlaaDoor.rootSet nd f cr md k).len ≤ 9000; rw [(s k).2.2.1]; exact hL.len k hk
      nm1 := fun k hk => by show 1 ≤ (Go.Proofs.YtokpomdfgbbhlaaDoor.rootSet nd f cr md k).name.size; rw [(s k).1]; exact hL.nm1 k hk
      nm2 := fun k hk => by show (Go.Proofs.YtokpomdfgbbhlaaDoor.rootSet nd f cr md k).name.size ≤ 10; rw [(s k).1]; exact hL.nm2 k hk
      nmc := fun k j hk => by show ((Go.Proofs.YtokpomdfgbbhlaaDoor.rootSet nd f cr md k).name.data.toList.getD j 0).toNat < 128; rw [(s k).1]; exact hL.nmc k j hk
      nm0 := fun k hk => by show 65 ≤ ((Go.Proofs.YtokpomdfgbbhlaaDoor.rootSet nd f cr md k).name.data.toList.getD 0 0).toNat ∧ ((Go.Proofs.YtokpomdfgbbhlaaDoor.rootSet nd f cr md k).name.data.toList.getD 0 0).toNat ≤ 90; rw [(s k).1]; exact hL.nm0 k hk
      lks := fun k hk => by
        have := hL.lks k hk
        rw [show (Lay.nd ⟨N, Go.Proofs.YtokpomdfgbbhlaaDoor.rootSet nd f cr md, four, step⟩ k) = Go.Proofs.YtokpomdfgbbhlaaDoor.rootSet nd f cr md k from rfl, (s k).2.2.2.2.1, (s k).2.2.2.2.2.1, (s k).2.2.2.2.2.2]
        exact this
      cr := fun k hk => by
        show (Go.Proofs.YtokpomdfgbbhlaaDoor.rootSet nd f cr md k).cr < _
        unfold Go.Proofs.YtokpomdfgbbhlaaDoor.rootSet
        split
        · exact hcr
        · exact hL.cr k hk
      md := fun k hk => by
        show (Go.Proofs.YtokpomdfgbbhlaaDoor.rootSet nd f cr md k).md < _
        unfold Go.Proofs.YtokpomdfgbbhlaaDoor.rootSet
        split
        · exact hmd
        · exact hL.md k hk }
  tree := by
    have s := rootSet_same nd f cr md
    exact { ne := h.tree.ne, fits := h.tree.fits.congr (fun e => (s e).2.2.2.2), nodup := h.tree.nodup, lt := h.tree.lt, le := h.tree.le, all := h.tree.all, len := h.tree.len, head := h.tree.head }
  emp := fun k hk hs => by
    have s := rootSet_same nd f cr md k
    rw [s.2.1] at hs
    rw [s.2.2.1]
    exact h.emp k hk hs

theorem NodesOK.nds {base lb N : Nat} {w : World} {nd : Nat → Nd} {dv : Nat → Value} {t : NT} (h : NodesOK base lb N w nd dv t) (four : Bool) (step : Nat) : NdsIs w lb ⟨N, nd, four, step⟩ dv := ⟨h.row, h.dat⟩
theorem NodesOK.fr {base lb N : Nat} {w w' : World} {nd : Nat → Nd} {dv : Nat → Value} {t : NT} (h : NodesOK base lb N w nd dv t) (f : Fr [] w w') : NodesOK base lb N w' nd dv t :=
  { h with row := h.row.fr f (by simp), dat := fun k hk => (h.dat k hk).fr f (fun _ _ _ => by simp) }
/-- A written file of nodes is a sound file. -/
theorem NodesOK.file {base lb N : Nat} {w : World} {nd : Nat → Nd} {dv : Nat → Value} {t : NT} (h : NodesOK base lb N w nd dv t) {L : Lay} (hL : L.nd = nd ∧ L.N = N) {F : Nat → UInt8} {fat mfat : Nat → Nat} {W : Nat → UInt8} (hW : Wrote L F fat mfat W) (hb : L.bytes ≤ 131072) :
    LayOK L ∧ FileOK F L.bytes L.sz (L.cnt 0) (L.chn 0) L.EP t.toTr L.mn (L.cnt 2) (L.chn 1) (L.chn 2) := by
  obtain ⟨N', nd', four, step⟩ := L
  obtain ⟨rfl, rfl⟩ := hL
  have hLO := h.ok four step
  exact ⟨hLO, hW.fileOK hLO hb t h.tree.ne h.tree.fits h.tree.nodup h.tree.lt h.tree.le⟩
end Go.Proofs.YtokpomdfgbbhlaaDoor

/- Nodes in their order with their paths: what spec.Order's closure keeps; the drawn region that adds one. -/
namespace Go.Proofs.YtokpomdfgbbhlaaDoor
open Go Go.RowKit

/-- The paths of a tree's nodes, in order. -/
def NT.pths (nm : Nat → ByteArray) : NT → List ByteArray → List (List ByteArray)
  | nil, _ => []
  | node e l c r, p => l.pths nm p ++ p :: (c.pths nm (if e = 0 then p else p ++ [nm e]) ++ r.pths nm p)
theorem NT.pths_len (nm : Nat → ByteArray) : ∀ (t : NT) (p : List ByteArray), (t.pths nm p).length = t.order.length
  | nil, _ => rfl
  | node e l c r, p => by simp [NT.pths, NT.order, NT.pths_len nm l, NT.pths_len nm c, NT.pths_len nm r]
theorem NT.pths_snd (nm : Nat → ByteArray) : ∀ (t : NT) (p : List ByteArray), (t.toTr.paths nm p).map Prod.snd = t.pths nm p
  | nil, _ => rfl
  | node e l c r, p => by simp [NT.toTr, Tr.paths, NT.pths, NT.pths_snd nm l, NT.pths_snd nm c, NT.pths_snd nm r]

/-- What the closure captures and what it reaches. -/
structure OEnv where
  (fb lx yb zb lb N lcap : Nat)
  (nd : Nat → Nd)
  (dv : Nat → Value)
  (w0 : World)
def OEnv.base (O : OEnv) : Nat := O.w0.heap.size
def OEnv.caps (O : OEnv) : Array Value := #[.pointer (some ⟨O.fb, 0, none⟩), .pointer (some ⟨O.lx, 0, none⟩), .pointer (some ⟨O.yb, 0, none⟩), .pointer (some ⟨O.zb, 0, none⟩)]
def OEnv.nm (O : OEnv) (k : Nat) : ByteArray := (O.nd k).name

/-- Slices of texts. -/
def PathsAre (w : World) (base : Nat) (vs : List Value) (ps : List (List ByteArray)) : Prop := vs.length = ps.length ∧ ∀ i, i < vs.length → TextsIs w base (vs.getD i undef) (ps.getD i [])

structure OSt (O : OEnv) (w : World) (os : List Nat) (ps : List (List ByteArray)) : Prop where
  rec_ : Blk w O.fb 102 [.func (.func 33) #[] O.caps]
  box : Blk w O.lx 25 [.slice (some ⟨O.lb, 0, none⟩) O.N O.lcap]
  row : NdRow w O.lb O.N O.nd O.dv
  fr : Fr [] O.w0 w
  yb : O.base ≤ O.yb
  zb : O.base ≤ O.zb
  pl : ∃ v, Blk w O.yb 31 [v] ∧ w.ownsRow O.base 3 1 v os.length (os.map (fun e => I64 e))
  pa : ∃ v vs, Blk w O.zb 32 [v] ∧ w.ownsRow O.base 35 1 v os.length vs ∧ PathsAre w O.base vs ps

/-- Texts that stood stand. -/
def TxtKeep (base : Nat) (w w' : World) : Prop := ∀ v q, TextsIs w base v q → TextsIs w' base v q
theorem TxtKeep.refl (base : Nat) (w : World) : TxtKeep base w w := fun _ _ h => h
theorem TxtKeep.trans {base : Nat} {a b c : World} (h : TxtKeep base a b) (k : TxtKeep base b c) : TxtKeep base a c := fun v q x => k v q (h v q x)
theorem TxtKeep.of_fr {base : Nat} {w w' : World} {ms : List Nat} (f : Fr ms w w') (hm : ∀ b cs, w.heap[b]? = some (.cells cs 9 (0, 0)) → b ∉ ms) : TxtKeep base w w' := by
  intro v q h
  refine own_fr h f (fun k hk => ?_)
  rcases h.2 with ⟨rfl, _⟩ | ⟨g, cap, cur, rfl, _, hg, _⟩
  · simp [Value.ownBlock] at hk
  · simp [Value.ownBlock] at hk
    subst hk
    exact hm _ _ hg

theorem OSt.fr0 {O : OEnv} {w w' : World} {os : List Nat} {ps : List (List ByteArray)} (h : OSt O w os ps) (f : Fr [] w w') : OSt O w' os ps where
  rec_ := h.rec_.fr0 f
  box := h.box.fr0 f
  row := h.row.fr f (by simp)
  fr := h.fr.trans0 f
  yb := h.yb
  zb := h.zb
  pl := by
    obtain ⟨v, a, b⟩ := h.pl
    exact ⟨v, a.fr0 f, own_fr0 b f⟩
  pa := by
    obtain ⟨v, vs, a, b, c⟩ := h.pa
    exact ⟨v, vs, a.fr0 f, own_fr0 b f, c.1, fun i hi => own_fr0 (c.2 i hi) f⟩
/-- What the region knows. -/
structure RE where
  (O : OEnv)
  (wc : World)
  (v3 v35 pv : Value)
  (e n : Nat)
  (pls vs : List Value)

/-- What stands while the region goes on. -/
structure RE.J (R : RE) (L : Nat → Bool) (w : World) : Prop where
  fr : Fr (R.O.yb :: R.O.zb :: (R.v3.ownBlock.toList ++ R.v35.ownBlock.toList)) R.wc w
  y0 : L 8 = false → Blk w R.O.yb 31 [R.v3]
  z0 : L 9 = false → Blk w R.O.zb 32 [R.v35]
  p0 : L 3 = false → w.ownsRow R.O.base 3 1 R.v3 R.n R.pls
  q0 : L 7 = false → w.ownsRow R.O.base 35 1 R.v35 R.n R.vs
  y1 : L 8 = true → ∃ v, Blk w R.O.yb 31 [v] ∧ w.ownsRow R.O.base 3 1 v (R.n + 1) (R.pls ++ [I64 R.e])
  z1 : L 9 = true → ∃ v, Blk w R.O.zb 32 [v] ∧ w.ownsRow R.O.base 35 1 v (R.n + 1) (R.vs ++ [R.pv])

def RE.Sp (R : RE) : Nat → World → Value → Prop
  | 0, _, v => v = R.v3
  | 1, _, v => v = I64 R.e
  | 2, w, v => ∃ g, v = .slice (some ⟨g, 0, none⟩) 1 1 ∧ Blk w g 3 [I64 R.e] ∧ R.wc.heap.size ≤ g
  | 3, w, v => w.ownsRow R.O.base 3 1 v (R.n + 1) (R.pls ++ [I64 R.e])
  | 4, _, v => v = R.v35
  | 5, _, v => v = R.pv
  | 6, w, v => ∃ g, v = .slice (some ⟨g, 0, none⟩) 1 1 ∧ Blk w g 35 [R.pv] ∧ R.wc.heap.size ≤ g
  | 7, w, v => w.ownsRow R.O.base 35 1 v (R.n + 1) (R.vs ++ [R.pv])
  | _, _, _ => True

/-- What a step of the region leaves alone. -/
theorem RE.Sp_fr (R : RE) {w w' : World} {ms : List Nat} (f : Fr ms w w') (i : Nat) (u : Value) (h3 : ∀ b l, Blk w b 3 l → R.wc.heap.size ≤ b → b ∉ ms) (h35 : ∀ b l, Blk w b 35 l → R.wc.heap.size ≤ b → b ∉ ms)
    (o3 : i = 3 → ∀ v n xs, w.ownsRow R.O.base 3 1 v n xs → ∀ k, v.ownBlock = some k → k ∉ ms) (o35 : i = 7 → ∀ v n xs, w.ownsRow R.O.base 35 1 v n xs → ∀ k, v.ownBlock = some k → k ∉ ms) (h : R.Sp i w u) : R.Sp i w' u := by
  unfold RE.Sp at h ⊢
  split at h
  all_goals first
    | exact h
    | exact own_fr h f (o3 rfl _ _ _ h)
    | exact own_fr h f (o35 rfl _ _ _ h)
    | (obtain ⟨g, e1, e2, e3⟩ := h; exact ⟨g, e1, e2.fr f (h3 _ _ e2 e3), e3⟩)
    | (obtain ⟨g, e1, e2, e3⟩ := h; exact ⟨g, e1, e2.fr f (h35 _ _ e2 e3), e3⟩)

section
variable {R : RE} {L : Nat → Bool} {w w' : World}
theorem RE.J.alloc (h : R.J L w) (f : Fr [] w w') (i : Nat) (hi : i ≠ 3 ∧ i ≠ 7 ∧ i ≠ 8 ∧ i ≠ 9) : R.J (lSet L i) w' where
  fr := h.fr.trans0 f
  y0 := fun hl => (h.y0 (by rwa [lSet_ne _ _ _ (Ne.symm hi.2.2.1)] at hl)).fr0 f
  z0 := fun hl => (h.z0 (by rwa [lSet_ne _ _ _ (Ne.symm hi.2.2.2)] at hl)).fr0 f
  p0 := fun hl => own_fr0 (h.p0 (by rwa [lSet_ne _ _ _ (Ne.symm hi.1)] at hl)) f
  q0 := fun hl => own_fr0 (h.q0 (by rwa [lSet_ne _ _ _ (Ne.symm hi.2.1)] at hl)) f
  y1 := fun hl => by
    obtain ⟨v, a, b⟩ := h.y1 (by rwa [lSet_ne _ _ _ (Ne.symm hi.2.2.1)] at hl)
    exact ⟨v, a.fr0 f, own_fr0 b f⟩
  z1 := fun hl => by
    obtain ⟨v, a, b⟩ := h.z1 (by rwa [lSet_ne _ _ _ (Ne.symm hi.2.2.2)] at hl)
    exact ⟨v, a.fr0 f, own_fr0 b f⟩
theorem RE.Sp_alloc (f : Fr [] w w') (i : Nat) (u : Value) (h : R.Sp i w u) : R.Sp i w' u :=
  R.Sp_fr f i u (fun _ _ _ _ => by simp) (fun _ _ _ _ => by simp) (fun _ _ _ _ _ _ _ => by simp) (fun _ _ _ _ _ _ _ => by simp) h

theorem own_lt_not {w0 : World} {base : Nat} {e : TypeId} {size n : Nat} {v : Value} {xs : List Value} (h : w0.ownsRow base e size v n xs) {b : Nat} (hb : w0.heap.size ≤ b) : b ∉ v.ownBlock.toList := fun hx => by
  have := (h.lt b (by simpa using hx)).2
  omega

theorem RE.J.app3 (h : R.J L w) (h3 : L 3 = false) (h8 : L 8 = false) (h9 : L 9 = false) (hw3 : R.wc.ownsRow R.O.base 3 1 R.v3 R.n R.pls) (f : Fr R.v3.ownBlock.toList w w') : R.J (lSet L 3) w' ∧ ∀ j u, L j = true → R.Sp j w u → R.Sp j w' u := by
  have hp := h.p0 h3
  refine ⟨{
    fr := h.fr.trans_same (f.mono (fun x hx => .inl (by simp [hx])))
    y0 := fun hl => (h.y0 h8).fr f (own_ne hp (h.y0 h8) (by decide))
    z0 := fun hl => (h.z0 h9).fr f (own_ne hp (h.z0 h9) (by decide))
    p0 := fun hl => by rw [lSet_self] at hl; cases hl
    q0 := fun hl => by
      have hq := h.q0 (by rwa [lSet_ne _ _ _ (by decide)] at hl)
      exact own_fr hq f (own_sep hq hp (by decide))
    y1 := fun hl => by rw [lSet_ne _ _ _ (by decide), h8] at hl; cases hl
    z1 := fun hl => by rw [lSet_ne _ _ _ (by decide), h9] at hl; cases hl }, fun j u hj hs => ?_⟩
  refine R.Sp_fr f j u (fun b l _ hb => own_lt_not hw3 hb) (fun b l hb _ => own_ne hp hb (by decide)) (fun e => by subst e; rw [h3] at hj; cases hj) (fun _ v n xs ho => own_sep ho hp (by decide)) hs

theorem RE.J.app7 (h : R.J L w) (h7 : L 7 = false) (h8 : L 8 = false) (h9 : L 9 = false) (h3 : L 3 = true) (hw35 : R.wc.ownsRow R.O.base 35 1 R.v35 R.n R.vs) (f : Fr R.v35.ownBlock.toList w w') : R.J (lSet L 7) w' ∧ ∀ j u, L j = true → R.Sp j w u → R.Sp j w' u := by
  have hq := h.q0 h7
  refine ⟨{
    fr := h.fr.trans_same (f.mono (fun x hx => .inl (by simp [hx])))
    y0 := fun hl => (h.y0 h8).fr f (own_ne hq (h.y0 h8) (by decide))
    z0 := fun hl => (h.z0 h9).fr f (own_ne hq (h.z0 h9) (by decide))
    p0 := fun hl => by rw [lSet_ne _ _ _ (by decide), h3] at hl; cases hl
    q0 := fun hl => by rw [lSet_self] at hl; cases hl
    y1 := fun hl => by rw [lSet_ne _ _ _ (by decide), h8] at hl; cases hl
    z1 := fun hl => by rw [lSet_ne _ _ _ (by decide), h9] at hl; cases hl }, fun j u hj hs => ?_⟩
  refine R.Sp_fr f j u (fun b l hb _ => own_ne hq hb (by decide)) (fun b l _ hb => own_lt_not hw35 hb) (fun _ v n xs ho => own_sep ho hq (by decide)) (fun e => by subst e; rw [h7] at hj; cases hj) hs

theorem RE.J.st8 (h : R.J L w) (h8 : L 8 = false) (h9 : L 9 = false) (h3 : L 3 = true) (h7 : L 7 = true) (v : Value) (hv : w.ownsRow R.O.base 3 1 v (R.n + 1) (R.pls ++ [I64 R.e])) :
    R.J (lSet L 8) (w.setRow R.O.yb #[v]) ∧ ∀ j u, L j = true → R.Sp j w u → R.Sp j (w.setRow R.O.yb #[v]) u := by
  have f := setRow_fr w R.O.yb #[v]
  have hy := h.y0 h8
  have hz := h.z0 h9
  have hyz : R.O.zb ≠ R.O.yb := fun e => by rw [e] at hz; exact absurd (hz.unique hy).1 (by decide)
  have on : ∀ {e : TypeId} {u : Value} {n : Nat} {xs : List Value}, w.ownsRow R.O.base e 1 u n xs → e ≠ 31 → ∀ k, u.ownBlock = some k → k ∉ [R.O.yb] := fun ho he k hk hx => by
    have e : k = R.O.yb := by simpa using hx
    subst e
    exact own_ne ho hy (Ne.symm he) (by simpa using hk)
  have bn : ∀ {b : Nat} {T : TypeId} {l : List Value}, Blk w b T l → T ≠ 31 → b ∉ [R.O.yb] := by
    intro b T l hb hT hx
    have e : b = R.O.yb := by simpa using hx
    rw [e] at hb
    exact hT (hb.unique hy).1
  refine ⟨{
    fr := h.fr.trans_same (f.mono (fun x hx => .inl (by simp at hx; simp [hx])))
    y0 := fun hl => by rw [lSet_self] at hl; cases hl
    z0 := fun hl => hz.fr f (by simpa using hyz)
    p0 := fun hl => by rw [lSet_ne _ _ _ (by decide), h3] at hl; cases hl
    q0 := fun hl => by rw [lSet_ne _ _ _ (by decide), h7] at hl; cases hl
    y1 := fun hl => ⟨v, setRow_blk hy, own_fr hv f (on hv (by decide))⟩
    z1 := fun hl => by rw [lSet_ne _ _ _ (by decide), h9] at hl; cases hl }, fun j u hj hs => ?_⟩
  exact R.Sp_fr f j u (fun b l hb _ => bn hb (by decide)) (fun b l hb _ => bn hb (by decide)) (fun _ v n xs ho => on ho (by decide)) (fun _ v n xs ho => on ho (by decide)) hs

theorem RE.J.st9 (h : R.J L w) (h9 : L 9 = false) (h8 : L 8 = true) (h3 : L 3 = true) (h7 : L 7 = true) (v : Value) (hv : w.ownsRow R.O.base 35 1 v (R.n + 1) (R.vs ++ [R.pv])) :
    R.J (lSet L 9) (w.setRow R.O.zb #[v]) ∧ ∀ j u, L j = true → R.Sp j w u → R.Sp j (w.setRow R.O.zb #[v]) u := by
  have f := setRow_fr w R.O.zb #[v]
  obtain ⟨y, hy, hyo⟩ := h.y1 h8
  have hz := h.z0 h9
  have hyz : R.O.yb ≠ R.O.zb := fun e => by rw [e] at hy; exact absurd (hy.unique hz).1 (by decide)
  have on : ∀ {e : TypeId} {u : Value} {n : Nat} {xs : List Value}, w.ownsRow R.O.base e 1 u n xs → e ≠ 32 → ∀ k, u.ownBlock = some k → k ∉ [R.O.zb] := fun ho he k hk hx => by
    have e : k = R.O.zb := by simpa using hx
    subst e
    exact own_ne ho hz (Ne.symm he) (by simpa using hk)
  have bn : ∀ {b : Nat} {T : TypeId} {l : List Value}, Blk w b T l → T ≠ 32 → b ∉ [R.O.zb] := by
    intro b T l hb hT hx
    have e : b = R.O.zb := by simpa using hx
    rw [e] at hb
    exact hT (hb.unique hz).1
  refine ⟨{
    fr := h.fr.trans_same (f.mono (fun x hx => .inl (by simp at hx; simp [hx])))
    y0 := fun hl => by rw [lSet_ne _ _ _ (by decide), h8] at hl; cases hl
    z0 := fun hl => by rw [lSet_self] at hl; cases hl
    p0 := fun hl => by rw [lSet_ne _ _ _ (by decide), h3] at hl; cases hl
    q0 := fun hl => by rw [lSet_ne _ _ _ (by decide), h7] at hl; cases hl
    y1 := fun hl => ⟨y, hy.fr f (bn hy (by decide)), own_fr hyo f (on hyo (by decide))⟩
    z1 := fun hl => ⟨v, setRow_blk hz, own_fr hv f (on hv (by decide))⟩ }, fun j u hj hs => ?_⟩
  exact R.Sp_fr f j u (fun b l hb _ => bn hb (by decide)) (fun b l hb _ => bn hb (by decide)) (fun _ v n xs ho => on ho (by decide)) (fun _ v n xs ho => on ho (by decide)) hs
end

theorem PathsAre.keep {w w' : World} {base : Nat} {vs : List Value} {ps : List (List ByteArray)} (h : PathsAre w base vs ps) (k : TxtKeep base w w') : PathsAre w' base vs ps := ⟨h.1, fun i hi => k _ _ (h.2 i hi)⟩
theorem PathsAre.snoc {w : World} {base : Nat} {vs : List Value} {ps : List (List ByteArray)} {v : Value} {p : List ByteArray} (h : PathsAre w base vs ps) (hv : TextsIs w base v p) : PathsAre w base (vs ++ [v]) (ps ++ [p]) := by
  refine ⟨by simp [h.1], fun i hi => ?_⟩
  simp only [List.length_append, List.length_singleton] at hi
  by_cases h1 : i < vs.length
  · have := h.2 i h1
    rw [List.getD_eq_getElem?_getD, List.getD_eq_getElem?_getD] at this ⊢
    rw [List.getElem?_append_left h1, List.getElem?_append_left (by rw [← h.1]; exact h1)]
    exact this
  · obtain rfl : i = vs.length := by omega
    rw [List.getD_eq_getElem?_getD, List.getD_eq_getElem?_getD, List.getElem?_append_right (Nat.le_refl _), h.1, List.getElem?_append_right (Nat.le_refl _)]
    simpa using hv

/-- The region done: one more. -/
theorem RE.done {R : RE} {L : Nat → Bool} {w : World} {os : List Nat} {ps : List (List ByteArray)} {p : List ByteArray} (h : R.J L w) (h8 : L 8 = true) (h9 : L 9 = true) (hO : OSt R.O R.wc os ps) (hpl : R.pls = os.map (fun e => I64 e)) (hn : R.n = os.length)
    (hy : Blk R.wc R.O.yb 31 [R.v3]) (hyo : R.wc.ownsRow R.O.base 3 1 R.v3 R.n R.pls) (hz : Blk R.wc R.O.zb 32 [R.v35]) (hzo : R.wc.ownsRow R.O.base 35 1 R.v35 R.n R.vs) (hpa : PathsAre R.wc R.O.base R.vs ps) (hp : TextsIs R.wc R.O.base R.pv p) :
    OSt R.O w (os ++ [R.e]) (ps ++ [p]) ∧ TxtKeep R.O.base R.wc w := by
  have hne : ∀ {b : Nat} {T : TypeId} {l : List Value}, Blk R.wc b T l → T ≠ 31 → T ≠ 32 → T ≠ 3 → T ≠ 35 → b ∉ R.O.yb :: R.O.zb :: (R.v3.ownBlock.toList ++ R.v35.ownBlock.toList) := by
    intro b T l hb a1 a2 a3 a4 hx
    simp only [List.mem_cons, List.mem_append] at hx
    rcases hx with rfl | rfl | hx | hx
    · exact a1 (hb.unique hy).1
    · exact a2 (hb.unique hz).1
    · exact own_ne hyo hb a3 hx
    · exact own_ne hzo hb a4 hx
  have hk : TxtKeep R.O.base R.wc w := TxtKeep.of_fr h.fr (fun b cs hb => hne (T := 9) (l := cs.toList) (by simpa [Blk] using hb) (by decide) (by decide) (by decide) (by decide))
  obtain ⟨y, hy1, hy2⟩ := h.y1 h8
  obtain ⟨z, hz1, hz2⟩ := h.z1 h9
  have hb0 : ∀ x, x ∈ R.O.yb :: R.O.zb :: (R.v3.ownBlock.toList ++ R.v35.ownBlock.toList) → R.O.w0.heap.size ≤ x := by
    intro x hx
    simp only [List.mem_cons, List.mem_append] at hx
    rcases hx with rfl | rfl | hx | hx
    · exact hO.yb
    · exact hO.zb
    · exact (hyo.lt x (by simpa using hx)).1
    · exact (hzo.lt x (by simpa using hx)).1
  refine ⟨{
    rec_ := hO.rec_.fr h.fr (hne hO.rec_ (by decide) (by decide) (by decide) (by decide))
    box := hO.box.fr h.fr (hne hO.box (by decide) (by decide) (by decide) (by decide))
    row := by
      obtain ⟨l, hl, hc⟩ := hO.row
      exact ⟨l, hl.fr h.fr (hne hl (by decide) (by decide) (by decide) (by decide)), hc⟩
    fr := hO.fr.trans h.fr (fun x hx => .inr (hb0 x hx))
    yb := hO.yb
    zb := hO.zb
    pl := ⟨y, hy1, by rw [hpl, hn] at hy2; simpa using hy2⟩
    pa := ⟨z, R.vs ++ [R.pv], hz1, by rw [hn] at hz2; simpa using hz2, (hpa.keep hk).snoc (hk _ _ hp)⟩ }, hk⟩
end Go.Proofs.YtokpomdfgbbhlaaDoor

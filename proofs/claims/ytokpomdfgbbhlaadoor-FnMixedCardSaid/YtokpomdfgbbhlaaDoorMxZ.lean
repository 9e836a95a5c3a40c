/- FnMixed: a stream is read, sought and written by steps, what is told is what stands there then, the file behind all is that of the stream with these bytes (part 18 of 18). No condition but the statement's own. -/
import Derived.Clock
import Derived.LaidMore
import Derived.LaidOnce
import Derived.OpenVars
import Derived.SevenTiedAt
import Derived.Test.YtokpomdfgbbhlaaDoorMxq
set_option linter.all false
set_option linter.unusedVariables false
set_option linter.unusedSimpArgs false
set_option linter.unnecessarySimpa false
/- FnMixed, the switch: a step that writes. -/
namespace Go.Proofs.YtokpomdfgbbhlaaDoor
open Go Go.RowKit Go.Maps

set_option maxRecDepth 100000 in
set_option maxHeartbeats 8000000 in
theorem sw_e (fr0 fr1 fr2 fr3 fr4 fr5 fr6 fr7 fr8 fr9 fr10 fr11 fr12 fr13 fr14 fr15 fr16 fr17 fr23 fr28 fr29 fr30 fr31 fr32 fr33 fr34 fr35 fr36 fr37 fr38 fr39 fr40 fr41 fr42 fr43 fr44 fr45 fr46 fr47 fr48 fr49 fr50 fr51 fr52 fr53 fr54 fr55 fr56 fr57 fr58 fr59 fr60 fr61 fr62 fr63 fr64 fr65 fr66 fr67 fr68 fr69 fr70 fr71 fr72 fr73 fr74 fr75 fr76 fr77 fr78 fr79 fr80 fr81 fr82 fr83 fr84 fr85 fr86 fr87 fr88 fr89 fr90 fr91 fr92 fr93 fr94 fr95 fr96 fr97 fr98 fr99 fr100 fr101 fr102 fr103 fr104 fr105 fr106 fr107 fr108 fr109 fr110 fr111 fr112 fr113 fr114 fr115 fr116 fr117 fr118 fr119 fr120 fr121 fr123 fr124 fr125 fr126 fr127 fr128 fr129 fr130 fr131 fr132 fr133 fr134 fr135 fr136 fr137 fr138 fr139 fr140 fr141 fr142 fr143 fr144 fr145 fr146 fr147 fr148 fr149 fr150 fr151 fr152 fr153 fr154 fr155 fr156 fr157 fr158 fr159 fr160 fr161 fr162 fr163 fr164 fr165 fr166 fr167 fr168 fr169 fr170 fr171 fr172 fr173 fr174 fr175 fr176 fr177 fr178 fr179 fr180 fr181 fr182 fr183 fr184 fr185 fr186 fr187 fr188 fr189 fr190 fr191 fr192 fr193 fr194 fr195 fr196 fr197 fr198 fr199 fr200 fr201 fr202 fr203 fr204 fr205 fr206 fr207 fr208 fr209 fr210 fr211 fr212 fr213 fr214 fr215 fr216 fr217 fr218 fr219 fr220 fr221 fr222 fr223 fr224 fr225 fr226 fr227 fr228 fr229 fr230 fr231 fr232 fr233 fr234 fr235 fr236 fr237 fr238 fr239 fr240 fr241 fr242 fr243 fr244 fr245 fr246 fr247 fr248 fr249 fr250 fr251 fr252 fr253 fr254 fr255 fr256 fr257 fr258 fr259 fr260 fr261 fr262 fr263 fr264 fr265 fr266 fr267 fr268 fr269 fr270 fr271 fr272 fr273 fr274 fr275 fr276 fr277 fr278 fr279 fr280 fr281 fr282 fr283 fr284 fr285 fr286 fr287 fr288 fr289 fr290 fr291 fr292 fr293 fr294 fr295 fr296 fr297 fr298 fr299 fr300 fr301 fr302 fr303 fr304 fr305 fr306 fr307 fr308 fr309 fr310 fr311 fr312 fr313 fr314 fr315 fr316 fr317 fr318 fr319 fr320 fr321 fr322 fr323 fr324 fr325 fr326 fr327 fr328 fr329 fr330 fr331 : Value) (b5 yb yc len k i rc tc n h p y r : Nat) (ra ta : Option Addr) (dat d : Nat → UInt8) (w5 wr : World) (Q : Exit → Act → World → Prop) (hM : MxAt b5 yb len dat w5 k i d (.slice ra k rc) (.slice ta k tc) wr) (hwsz : b5 ≤ wr.heap.size) (hyl : yb < b5) (hk50 : k ≤ 50) (hlen9 : len ≤ 9000) (h0 : ¬ len = 0) (hyc1 : len ≤ yc) (hyc2 : yc ≤ 9223372036854775807) (hh : h < 4294967296) (hp : p < len) (hy1 : 1 ≤ y) (hy2 : y ≤ 200) (hrnI : (n : Int) % 7 = (r : Int)) (hr7 : r < 7) (hr5 : 5 ≤ r) (hQn : ∀ (yy20 yy21 yy22 yy26 yy27 yy28 yy29 yy30 yy122 yy123 yy124 yy125 yy126 yy127 yy128 yy129 yy130 yy131 yy132 yy133 yy134 yy135 yy136 yy137 yy138 yy139 yy140 yy141 yy142 yy143 yy144 yy145 yy146 yy147 yy148 yy149 yy150 yy151 yy152 yy153 yy154 yy155 yy156 yy157 yy158 yy159 yy160 yy161 yy162 yy163 yy164 yy165 yy166 yy167 yy168 yy169 yy170 yy171 yy172 yy173 yy174 yy175 yy176 yy177 yy178 yy179 yy180 yy181 yy182 yy183 yy184 yy185 yy186 yy187 yy188 yy189 yy190 yy191 yy192 yy193 yy194 yy195 yy196 yy197 yy198 yy199 yy200 yy201 yy202 yy203 yy204 yy205 yy206 yy207 yy208 yy209 yy210 yy211 yy212 yy213 yy214 yy215 yy216 yy217 yy218 yy219 yy220 yy221 yy222 yy223 yy224 yy225 yy226 yy227 yy228 yy229 yy230 yy231 yy232 yy233 yy234 yy235 yy236 yy237 yy238 yy239 yy240 yy241 yy242 yy243 yy244 yy245 yy246 yy247 yy248 yy249 yy250 yy251 yy252 yy253 yy254 yy255 yy256 yy257 yy258 yy259 yy260 yy261 yy262 yy263 yy264 yy265 yy266 yy267 yy268 : Value) (w2 : World), SwInv b5 yb len dat w5 k yy20 yy21 yy22 w2 → Q Exit.normal ⟨#[fr0, fr1, fr2, fr3, fr4, fr5, fr6, fr7, fr8, fr9, fr10, fr11, fr12, fr13, fr14, fr15, fr16, fr17, (.slice (some ⟨yb, 0, none⟩) len yc), (.int .i64 len), yy20, yy21, yy22, fr23, (.int .u32 n), (.int .u32 h), yy26, yy27, yy28, yy29, yy30, fr31, fr32, fr33, fr34, fr35, fr36, fr37, fr38, fr39, fr40, fr41, fr42, fr43, fr44, fr45, fr46, fr47, fr48, fr49, fr50, fr51, fr52, fr53, fr54, fr55, fr56, fr57, fr58, fr59, fr60, fr61, fr62, fr63, fr64, fr65, fr66, fr67, fr68, fr69, fr70, fr71, fr72, fr73, fr74, fr75, fr76, fr77, fr78, fr79, fr80, fr81, fr82, fr83, fr84, fr85, fr86, fr87, fr88, fr89, fr90, fr91, fr92, fr93, fr94, fr95, fr96, fr97, fr98, fr99, fr100, fr101, fr102, fr103, fr104, fr105, fr106, fr107, fr108, fr109, fr110, fr111, fr112, fr113, fr114, fr115, fr116, fr117, fr118, fr119, fr120, fr121, yy122, yy123, yy124, yy125, yy126, yy127, yy128, yy129, yy130, yy131, yy132, yy133, yy134, yy135, yy136, yy137, yy138, yy139, yy140, yy141, yy142, yy143, yy144, yy145, yy146, yy147, yy148, yy149, yy150, yy151, yy152, yy153, yy154, yy155, yy156, yy157, yy158, yy159, yy160, yy161, yy162, yy163, yy164, yy165, yy166, yy167, yy168, yy169, yy170, yy171, yy172, yy173, yy174, yy175, yy176, yy177, yy178, yy179, yy180, yy181, yy182, yy183, yy184, yy185, yy186, yy187, yy188, yy189, yy190, yy191, yy192, yy193, yy194, yy195, yy196, yy197, yy198, yy199, yy200, yy201, yy202, yy203, yy204, yy205, yy206, yy207, yy208, yy209, yy210, yy211, yy212, yy213, yy214, yy215, yy216, yy217, yy218, yy219, yy220, yy221, yy222, yy223, yy224, yy225, yy226, yy227, yy228, yy229, yy230, yy231, yy232, yy233, yy234, yy235, yy236, yy237, yy238, yy239, yy240, yy241, yy242, yy243, yy244, yy245, yy246, yy247, yy248, yy249, yy250, yy251, yy252, yy253, yy254, yy255, yy256, yy257, yy258, yy259, yy260, yy261, yy262, yy263, yy264, yy265, yy266, yy267, yy268, fr269, fr270, fr271, fr272, fr273, fr274, fr275, fr276, fr277, fr278, fr279, fr280, fr281, fr282, fr283, fr284, fr285, fr286, fr287, fr288, fr289, fr290, fr291, fr292, fr293, fr294, fr295, fr296, fr297, fr298, fr299, fr300, fr301, fr302, fr303, fr304, fr305, fr306, fr307, fr308, fr309, fr310, fr311, fr312, fr313, fr314, fr315, fr316, fr317, fr318, fr319, fr320, fr321, fr322, fr323, fr324, fr325, fr326, fr327, fr328, fr329, fr330, fr331], []⟩ w2) (hQe : ∀ (yy20 yy21 yy22 yy26 yy27 yy28 yy29 yy30 yy122 yy123 yy124 yy125 yy126 yy127 yy128 yy129 yy130 yy131 yy132 yy133 yy134 yy135 yy136 yy137 yy138 yy139 yy140 yy141 yy142 yy143 yy144 yy145 yy146 yy147 yy148 yy149 yy150 yy151 yy152 yy153 yy154 yy155 yy156 yy157 yy158 yy159 yy160 yy161 yy162 yy163 yy164 yy165 yy166 yy167 yy168 yy169 yy170 yy171 yy172 yy173 yy174 yy175 yy176 yy177 yy178 yy179 yy180 yy181 yy182 yy183 yy184 yy185 yy186 yy187 yy188 yy189 yy190 yy191 yy192 yy193 yy194 yy195 yy196 yy197 yy198 yy199 yy200 yy201 yy202 yy203 yy204 yy205 yy206 yy207 yy208 yy209 yy210 yy211 yy212 yy213 yy214 yy215 yy216 yy217 yy218 yy219 yy220 yy221 yy222 yy223 yy224 yy225 yy226 yy227 yy228 yy229 yy230 yy231 yy232 yy233 yy234 yy235 yy236 yy237 yy238 yy239 yy240 yy241 yy242 yy243 yy244 yy245 yy246 yy247 yy248 yy249 yy250 yy251 yy252 yy253 yy254 yy255 yy256 yy257 yy258 yy259 yy260 yy261 yy262 yy263 yy264 yy265 yy266 yy267 yy268 : Value) (w2 : World), SwInv b5 yb len dat w5 k yy20 yy21 yy22 w2 → Q (Exit.exit 1) ⟨#[fr0, fr1, fr2, fr3, fr4, fr5, fr6, fr7, fr8, fr9, fr10, fr11, fr12, fr13, fr14, fr15, fr16, fr17, (.slice (some ⟨yb, 0, none⟩) len yc), (.int .i64 len), yy20, yy21, yy22, fr23, (.int .u32 n), (.int .u32 h), yy26, yy27, yy28, yy29, yy30, fr31, fr32, fr33, fr34, fr35, fr36, fr37, fr38, fr39, fr40, fr41, fr42, fr43, fr44, fr45, fr46, fr47, fr48, fr49, fr50, fr51, fr52, fr53, fr54, fr55, fr56, fr57, fr58, fr59, fr60, fr61, fr62, fr63, fr64, fr65, fr66, fr67, fr68, fr69, fr70, fr71, fr72, fr73, fr74, fr75, fr76, fr77, fr78, fr79, fr80, fr81, fr82, fr83, fr84, fr85, fr86, fr87, fr88, fr89, fr90, fr91, fr92, fr93, fr94, fr95, fr96, fr97, fr98, fr99, fr100, fr101, fr102, fr103, fr104, fr105, fr106, fr107, fr108, fr109, fr110, fr111, fr112, fr113, fr114, fr115, fr116, fr117, fr118, fr119, fr120, fr121, yy122, yy123, yy124, yy125, yy126, yy127, yy128, yy129, yy130, yy131, yy132, yy133, yy134, yy135, yy136, yy137, yy138, yy139, yy140, yy141, yy142, yy143, yy144, yy145, yy146, yy147, yy148, yy149, yy150, yy151, yy152, yy153, yy154, yy155, yy156, yy157, yy158, yy159, yy160, yy161, yy162, yy163, yy164, yy165, yy166, yy167, yy168, yy169, yy170, yy171, yy172, yy173, yy174, yy175, yy176, yy177, yy178, yy179, yy180, yy181, yy182, yy183, yy184, yy185, yy186, yy187, yy188, yy189, yy190, yy191, yy192, yy193, yy194, yy195, yy196, yy197, yy198, yy199, yy200, yy201, yy202, yy203, yy204, yy205, yy206, yy207, yy208, yy209, yy210, yy211, yy212, yy213, yy214, yy215, yy216, yy217, yy218, yy219, yy220, yy221, yy222, yy223, yy224, yy225, yy226, yy227, yy228, yy229, yy230, yy231, yy232, yy233, yy234, yy235, yy236, yy237, yy238, yy239, yy240, yy241, yy242, yy243, yy244, yy245, yy246, yy247, yy248, yy249, yy250, yy251, yy252, yy253, yy254, yy255, yy256, yy257, yy258, yy259, yy260, yy261, yy262, yy263, yy264, yy265, yy266, yy267, yy268, fr269, fr270, fr271, fr272, fr273, fr274, fr275, fr276, fr277, fr278, fr279, fr280, fr281, fr282, fr283, fr284, fr285, fr286, fr287, fr288, fr289, fr290, fr291, fr292, fr293, fr294, fr295, fr296, fr297, fr298, fr299, fr300, fr301, fr302, fr303, fr304, fr305, fr306, fr307, fr308, fr309, fr310, fr311, fr312, fr313, fr314, fr315, fr316, fr317, fr318, fr319, fr320, fr321, fr322, fr323, fr324, fr325, fr326, fr327, fr328, fr329, fr330, fr331], []⟩ w2) :
    Code.wp Tryd.prog sw7 Q ⟨#[fr0, fr1, fr2, fr3, fr4, fr5, fr6, fr7, fr8, fr9, fr10, fr11, fr12, fr13, fr14, fr15, fr16, fr17, (.slice (some ⟨yb, 0, none⟩) len yc), (.int .i64 len), (.int .i64 i), (.slice ra k rc), (.slice ta k tc), fr23, (.int .u32 n), (.int .u32 h), (.int .i64 p), (.int .i64 y), fr28, fr29, fr30, fr31, fr32, fr33, fr34, fr35, fr36, fr37, fr38, fr39, fr40, fr41, fr42, fr43, fr44, fr45, fr46, fr47, fr48, fr49, fr50, fr51, fr52, fr53, fr54, fr55, fr56, fr57, fr58, fr59, fr60, fr61, fr62, fr63, fr64, fr65, fr66, fr67, fr68, fr69, fr70, fr71, fr72, fr73, fr74, fr75, fr76, fr77, fr78, fr79, fr80, fr81, fr82, fr83, fr84, fr85, fr86, fr87, fr88, fr89, fr90, fr91, fr92, fr93, fr94, fr95, fr96, fr97, fr98, fr99, fr100, fr101, fr102, fr103, fr104, fr105, fr106, fr107, fr108, fr109, fr110, fr111, fr112, fr113, fr114, fr115, fr116, fr117, fr118, fr119, fr120, fr121, (.int .u32 r), fr123, fr124, fr125, fr126, fr127, fr128, fr129, fr130, fr131, fr132, fr133, fr134, fr135, fr136, fr137, fr138, fr139, fr140, fr141, fr142, fr143, fr144, fr145, fr146, fr147, fr148, fr149, fr150, fr151, fr152, fr153, fr154, fr155, fr156, fr157, fr158, fr159, fr160, fr161, fr162, fr163, fr164, fr165, fr166, fr167, fr168, fr169, fr170, fr171, fr172, fr173, fr174, fr175, fr176, fr177, fr178, fr179, fr180, fr181, fr182, fr183, fr184, fr185, fr186, fr187, fr188, fr189, fr190, fr191, fr192, fr193, fr194, fr195, fr196, fr197, fr198, fr199, fr200, fr201, fr202, fr203, fr204, fr205, fr206, fr207, fr208, fr209, fr210, fr211, fr212, fr213, fr214, fr215, fr216, fr217, fr218, fr219, fr220, fr221, fr222, fr223, fr224, fr225, fr226, fr227, fr228, fr229, fr230, fr231, fr232, fr233, fr234, fr235, fr236, fr237, fr238, fr239, fr240, fr241, fr242, fr243, fr244, fr245, fr246, fr247, fr248, fr249, fr250, fr251, fr252, fr253, fr254, fr255, fr256, fr257, fr258, fr259, fr260, fr261, fr262, fr263, fr264, fr265, fr266, fr267, fr268, fr269, fr270, fr271, fr272, fr273, fr274, fr275, fr276, fr277, fr278, fr279, fr280, fr281, fr282, fr283, fr284, fr285, fr286, fr287, fr288, fr289, fr290, fr291, fr292, fr293, fr294, fr295, fr296, fr297, fr298, fr299, fr300, fr301, fr302, fr303, fr304, fr305, fr306, fr307, fr308, fr309, fr310, fr311, fr312, fr313, fr314, fr315, fr316, fr317, fr318, fr319, fr320, fr321, fr322, fr323, fr324, fr325, fr326, fr327, fr328, fr329, fr330, fr331], []⟩ wr := by
  conv => arg 2; whnf
  conv => arg 4; dsimp only
  obtain ⟨hi9, hfr5, hyB, ⟨x9, ho9⟩, ⟨x10, ho10⟩⟩ := hM.rows
  have HR := Lib.hid (And.intro hM (And.intro ho9 (And.intro ho10 (And.intro hyB hfr5))))
  clear hM ho9 ho10 hyB hfr5
  have hr0I : ((r : Int) == 0) = false := by simp; omega
  have hr1I : ((r : Int) == 1) = false := by simp; omega
  have hrI0 : ((r : Int) == 2) = false := by simp; omega
  have hrI1 : ((r : Int) == 3) = false := by simp; omega
  have hrI2 : ((r : Int) == 4) = false := by simp; omega
  go_upto_region 22 with (fail)
  have hf6 : Fr [] wr (wr.alloc (Obj.cells #[Value.int IntKind.i64 4, Value.int IntKind.i64 0, Value.int IntKind.i64 (p : Nat), Value.int IntKind.i64 0, Value.slice none 0 0] 66)) := (Fr.refl _ _).alloc _
  have hsB : Blk (wr.alloc (Obj.cells #[Value.int IntKind.i64 4, Value.int IntKind.i64 0, Value.int IntKind.i64 (p : Nat), Value.int IntKind.i64 0, Value.slice none 0 0] 66)) wr.heap.size 66 [.int .i64 4, .int .i64 0, .int .i64 (p : Nat), .int .i64 0, .slice none 0 0] := Blk.new' _ _ _
  generalize (wr.alloc (Obj.cells #[Value.int IntKind.i64 4, Value.int IntKind.i64 0, Value.int IntKind.i64 (p : Nat), Value.int IntKind.i64 0, Value.slice none 0 0] 66)) = wA at *
  obtain ⟨sb, hsb⟩ : ∃ sb, sb = wr.heap.size := ⟨_, rfl⟩
  rw [← hsb] at hsB ⊢
  have hsb' := Lib.hid hsb
  clear hsb
  go_upto_if 127 with (fail)
  go_cut [26] from 122 to 129 (fun s26 w' => ∃ (kd p2 : Nat) (of_ : Int), s26 = .int .i64 p2 ∧ Fr [] wr w' ∧ Blk w' sb 66 [.int .i64 kd, .int .i64 0, .int .i64 of_, .int .i64 0, .slice none 0 0] ∧ ((kd = 4 ∧ of_ = p ∧ p2 = p) ∨ (kd = 3 ∧ of_ = 0 ∧ p2 = i)))
  case first =>
    have HS6 := Lib.hid (And.intro hf6 hsB)
    clear hf6 hsB
    by_cases hr6 : r = 6
    · have hr6I : ((r : Int) == 6) = true := by simp; omega
      go_wp2_with (show wpList _ _ _ ({ dst := none, op := _, type := _, pos := _, after := _, guard := _ } :: _) _ _; (refine wpList_store_blk rfl 66 (.tmp 29) (.tmp 128) rfl sb 0 #[.int .i64 3, .int .i64 0, .int .i64 0, .int .i64 0, .slice none 0 0] rfl rfl 66 _ HS6.out.2 (Nat.le_refl _) (by kernel_rfl) (by kernel_rfl) ?_))
      intro w2 hf2 hb2
      have HS2 := Lib.hid (And.intro (HS6.out.1.trans hf2 (fun x hx => .inr (by have := hsb'.out; simp at hx; omega))) (show Blk w2 sb 66 [.int .i64 3, .int .i64 0, .int .i64 0, .int .i64 0, .slice none 0 0] from hb2))
      clear hf2 hb2
      go_wp2_with fail
      go_meet
      case rel => exact ⟨3, i, 0, rfl, HS2.out.1, HS2.out.2, .inr ⟨rfl, rfl, rfl⟩⟩
    · have hr6I : ((r : Int) == 6) = false := by simp; omega
      go_wp2_with fail
      go_meet
      case rel => exact ⟨4, p, p, rfl, HS6.out.1, HS6.out.2, .inl ⟨rfl, rfl, rfl⟩⟩
  case rest =>
  clear hf6 hsB
  obtain ⟨kd, p2, of_, rfl, hf7, hsB7, hkd⟩ := hcut
  have hp2 : p2 ≤ len := by omega
  obtain ⟨m, hm⟩ : ∃ m, m = min y (len - p2) := ⟨_, rfl⟩
  have hwlp : IntKind.i64.wrap ((len : Int) - (p2 : Int)) = (len : Int) - (p2 : Int) := IntWalk.i64_in _ (by omega)
  have HM2 := Lib.hid hm
  have HKD := Lib.hid hkd
  have HS7 := Lib.hid (And.intro hf7 hsB7)
  clear hm hkd hf7 hsB7
  go_upto_region 24 with (fail)
  go_cut [134, 135] from 122 to 135 (fun s134 s135 w' => wc = w' ∧ s134 = .int .i64 m ∧ s135 = .int .i64 0)
  case first =>
    by_cases hcy : len - p2 < y
    · have hcyI : (len : Int) - (p2 : Int) < (y : Int) := by omega
      go_wp2_with fail
      go_meet
      case rel => exact ⟨rfl, by have := HM2.out; congr 1; omega, rfl⟩
    · have hcyI : (y : Int) ≤ (len : Int) - (p2 : Int) := by omega
      go_wp2_with fail
      go_meet
      case rel => exact ⟨rfl, by have := HM2.out; congr 1; omega, rfl⟩
  case rest =>
  obtain ⟨rfl, rfl, rfl⟩ := hcut
  have hm200 : m ≤ 200 := by have := HM2.out; omega
  have hpm : p2 + m ≤ len := by have := HM2.out; omega
  clear hwlp
  go_wp2_with fail
  go_loopw [135] (fun s135 w' => ∃ (q : Nat) (x : Nat → UInt8) (dv2 : Value), q ≤ m ∧ s135 = .int .i64 q ∧ Fr [] wr w' ∧ Blk w' sb 66 [.int .i64 kd, .int .i64 0, .int .i64 of_, .int .i64 0, dv2] ∧ w'.ownsRow sb 5 1 dv2 q (tab q (fun z => U8 (x z)))) (fun s135 _ => m - (intOf s135).toNat)
  case atStart => exact ⟨0, fun _ => 0, .slice none 0 0, by omega, rfl, HS7.out.1, HS7.out.2, own_nil _ _ _ _⟩
  case round =>
    obtain ⟨q, x, dv2, hq, rfl, hfq, hsq, hoq⟩ := hrel
    by_cases hqm : q < m
    case neg =>
      obtain rfl : q = m := by omega
      have hqI : ¬ (q : Int) < (q : Int) := by omega
      obtain ⟨da, dc, rfl⟩ := own_slice hoq
      rename World => wq
      have c4 := hsq.cell 4
      have hM7 := HR.out.1.fr hfq
      have o9 := own_fr0 HR.out.2.1 hfq
      have o10 := own_fr0 HR.out.2.2.1 hfq
      have hsn : sb ∉ (Value.slice ra k rc).ownBlock.toList := fun h => by
        have := (HR.out.2.1.lt sb (by simpa using h)).2
        have := hsb'.out
        omega
      have hwq : b5 ≤ wq.heap.size := by have := hfq.size; omega
      have hsb5 : b5 ≤ sb := by have := hsb'.out; omega
      have HQ := Lib.hid (And.intro hM7 (And.intro hsq hoq))
      have HO := Lib.hid (And.intro o9 (And.intro o10 hsn))
      clear hM7 hsq hoq o9 o10 hsn hfq
      by_cases hm0 : q = 0
      · have hq0I : ((q : Int) == 0) = true := by simp; omega
        go_wp2_with fail
        first | apply hQn | apply hQe | skip
        exact ⟨k, i, d, by omega, rfl, HQ.out.1⟩
      have hq0I : ((q : Int) == 0) = false := by simp; omega
      go_upto_region 30 with (fail)
      go_wp2_with (first | (at_builtin; (refine wpList_appS rfl (.tmp 155) (.tmp 157) 62 rfl 66 5 56 Tryd.underlying62 info66 (by decide) (by decide) b5 (.slice ra k rc) k x9 rfl HO.out.1 #[.int .i64 (kd : Nat), .int .i64 0, .int .i64 of_, .int .i64 0, .slice da q dc] rfl rfl (stp_one _ _ _ _ _ _ _) (by omega) hwq ?_)) | (refine wpList_load_blk rfl 66 (.tmp 29) rfl sb 0 rfl 66 _ HQ.out.2.1 _ Tryd.underlying66 rfl 5 (by kernel_rfl) (Nat.le_refl _) #[.int .i64 (kd : Nat), .int .i64 0, .int .i64 of_, .int .i64 0, .slice da q dc] rfl ?_))
      intro v9 w8 a9 g9
      obtain ⟨ra', rc', rfl⟩ := own_slice a9
      have hs8 : b5 ≤ w8.heap.size := by have := g9.size; omega
      have o10 := own_fr HO.out.2.1 g9 (own_sep HO.out.2.1 HO.out.1 (by decide))
      have hs8B := HQ.out.2.1.fr g9 HO.out.2.2
      have c4' := hs8B.cell 4
      have HA9 := Lib.hid (And.intro a9 g9)
      have HO10 := Lib.hid (And.intro o10 hs8B)
      clear a9 g9 o10 hs8B
      go_wp2_with (at_builtin; (refine wpList_appS rfl (.tmp 159) (.tmp 164) 51 rfl 55 3 40 Tryd.underlying51 info55 (by decide) (by decide) b5 (.slice ta k tc) k x10 rfl HO10.out.1 #[.slice none 0 0, .int .i64 (q : Nat), .int .i64 0] rfl rfl (tld_one _ _ _ _ _) (by omega) hs8 ?_))
      intro v10 w10 a10 g10
      obtain ⟨ta', tc', rfl⟩ := own_slice a10
      have hs10B := HO10.out.2.fr g10 (own_ne HO10.out.1 HO10.out.2 (by decide))
      obtain ⟨ly, hlyB, hlyg⟩ := HQ.out.1.kept HA9.out.2 (Fr.refl _ _) g10
      obtain ⟨xb, xc, lx, hxe, hxb, hxB, hxg, hxc, _⟩ := own_blk2 HQ.out.2.2 (by omega)
      injection hxe with hxe1 _ hxe2
      subst hxe1 hxe2
      have hx10 : ∀ z, z < q → w10.cell? ⟨xb, z, none⟩ = some (U8 (x z)) := by
        have h1 := own_fr (own_fr HQ.out.2.2 HA9.out.2 (own_sep HQ.out.2.2 HO.out.1 (by decide))) g10 (own_sep (own_fr HQ.out.2.2 HA9.out.2 (own_sep HQ.out.2.2 HO.out.1 (by decide))) HO10.out.1 (by decide))
        obtain ⟨xb', xc', lx', hxe', _, hxB', hxg', _⟩ := own_blk2 h1 (by omega)
        injection hxe' with hxe1
        injection hxe1 with hxe1
        injection hxe1 with hxe1
        subst hxe1
        exact fun z hz => (hxB'.cell z).trans (hxg' z hz)
      have HA10 := Lib.hid (And.intro a10 g10)
      have HLY := Lib.hid (And.intro hlyB hlyg)
      have HX10 := Lib.hid hx10
      have HS10 := Lib.hid hs10B
      clear a10 g10 hlyB hlyg hx10 hs10B hxB hxg
      go_upto_region 32 with (fail)
      go_cut [] from 122 to 171 (fun w' => Fr [yb] w10 w' ∧ ∃ l, Blk w' yb 5 l ∧ ∀ z, z < len → l[z]? = some (U8 (turnD d p2 q x z)))
      case first =>
        have hly : len ≤ ly.length := by
          have h1 := HLY.out.2 (len - 1) (by omega)
          have := (List.getElem?_eq_some_iff.1 h1).1
          omega
        have hbl : Blk w10.drew yb 5 ly := HLY.out.1
        have c10 : w10.drew.cell? ⟨sb, 4, none⟩ = some (.slice (some ⟨xb, 0, none⟩) q dc) := HS10.out.cell 4
        have G1 := Lib.hid (show ∀ z, z < q → w10.drew.cell? ⟨xb, z, none⟩ = some (U8 (x z)) from HX10.out)
        have q1 : (p2 : Int) ≤ (len : Int) := by omega
        have q2 : ¬ yc = p2 := by omega
        have hpl : q ≤ len - p2 := by omega
        go_still_tail 5, (by kernel_rfl)
        change wpList _ _ _ _ _ w10.drew
        go_wp2_with (with_reducible refine wpList_copy_blk rfl (.tmp 168) (.tmp 170) 23 23 rfl 5 Tryd.underlying23 (by kernel_rfl) _ _ _ _ _ _ rfl rfl yb p2 ly 5 hbl q (fun z => U8 (x z)) ?_ ?_ ?_ ?_ ?_)
        · intro _ z hz; exact G1.out z hz
        · omega
        · intro z _; rfl
        intro w2 hf2 hb2
        have H2 := Lib.hid (And.intro hf2 hb2)
        clear hf2 hb2
        go_wp2_with fail
        go_meet
        case rel =>
          refine ⟨(Fr.refl _ _).drew.trans_same H2.out.1, _, H2.out.2, fun z hz => ?_⟩
          rw [splice_get _ _ _ (by rw [tab_length]; omega), tab_length]
          unfold turnD
          by_cases hzz : p2 ≤ z ∧ z < p2 + q
          · rw [if_pos hzz, if_pos hzz, tab_get _ _ _ (by omega)]
          · rw [if_neg hzz, if_neg hzz]
            exact HLY.out.2 z hz
      case rest =>
      obtain ⟨hf11, hb11⟩ := hcut
      have hsyb : sb ∉ [yb] := by simp; omega
      have hs11 := HS10.out.fr hf11 hsyb
      have e0 := hs11.cell 0
      have e4 := hs11.cell 4
      have HF11 := Lib.hid (And.intro hf11 hb11)
      clear hf11 hb11 hs11
      rcases HKD.out with ⟨rfl, rfl, rfl⟩ | ⟨rfl, rfl, rfl⟩
      · go_wp2_with fail
        first | apply hQn | apply hQe | skip
        refine ⟨k + 1, i, turnD d p2 q x, by omega, rfl, ?_⟩
        exact HQ.out.1.next (s := ⟨4, 0, (p2 : Int), 0, q, x⟩) (t := ⟨q, 0, fun _ => 0⟩) (.writeat i p2 q x d (by omega) hm200 hpm) hi9 HO.out.1 HO.out.2.1 HA9.out.1 HA9.out.2 (Fr.refl _ _) HA10.out.1 HA10.out.2 HF11.out.1 HF11.out.2 (.inr ⟨by show 1 ≤ q; omega, own_mono HQ.out.2.2 hsb5⟩) (own_nil _ _ _ _)
      · have hwic : IntKind.i64.wrap ((p2 : Int) + (q : Int)) = (p2 : Int) + (q : Int) := IntWalk.i64_in _ (by omega)
        go_wp2_with fail
        first | apply hQn | apply hQe | skip
        refine ⟨k + 1, p2 + q, turnD d p2 q x, by omega, by go_num, ?_⟩
        exact HQ.out.1.next (s := ⟨3, 0, 0, 0, q, x⟩) (t := ⟨q, 0, fun _ => 0⟩) (.write p2 q x d (by omega) hm200 hpm) hpm HO.out.1 HO.out.2.1 HA9.out.1 HA9.out.2 (Fr.refl _ _) HA10.out.1 HA10.out.2 HF11.out.1 HF11.out.2 (.inr ⟨by show 1 ≤ q; omega, own_mono HQ.out.2.2 hsb5⟩) (own_nil _ _ _ _)
    have hqI : (q : Int) < (m : Int) := by omega
    obtain ⟨da, dc, rfl⟩ := own_slice hoq
    rename World => wq
    have c4 := hsq.cell 4
    have hqs : sb ≤ wq.heap.size := by have := hsq.lt; omega
    have HQ := Lib.hid (And.intro hfq (And.intro hsq hoq))
    clear hfq hsq hoq
    go_wp2_with (at_builtin; (refine wpList_app2 rfl (.tmp 139) (.tmp 147) 23 rfl 5 (.int .u8 0) 1 Tryd.underlying23 pinfo5 rfl (by decide) sb _ q _ rfl _ HQ.out.2.2 rfl rfl (by omega) hqs ?_))
    intro v4 w4' hn1 hg1 _
    obtain ⟨x', hx'⟩ := own_u8_snoc hn1 (Int.emod_nonneg _ (by decide)) (Int.emod_lt_of_pos _ (by decide))
    have hbd : sb ∉ (Value.slice da q dc).ownBlock.toList := own_ne HQ.out.2.2 HQ.out.2.1 (by decide)
    have hsq' := HQ.out.2.1.fr hg1 hbd
    have hfq' : Fr [] wr w4' := HQ.out.1.trans hg1 (fun z hz => .inr (by have := (HQ.out.2.2.lt z (by simpa using hz)).1; have := hsb'.out; omega))
    have hfz := hsq'.frozen 4
    have c4' := hsq'.cell 4
    have hfin : Fr [] wr (w4'.setCell ⟨sb, 4, none⟩ v4) := hfq'.setCell (.inr (by have := hsb'.out; show wr.heap.size ≤ sb; omega)) _
    have hsfin : Blk (w4'.setCell ⟨sb, 4, none⟩ v4) sb 66 [.int .i64 kd, .int .i64 0, .int .i64 of_, .int .i64 0, v4] := hsq'.set 4 v4
    have hofin : (w4'.setCell ⟨sb, 4, none⟩ v4).ownsRow sb 5 1 v4 (q + 1) (tab (q + 1) (fun z => U8 (x' z))) := own_fr hx' ((Fr.refl [sb] w4').setCell (.inl (by simp)) _) (fun g hg hm => own_ne hx' hsq' (by decide) (by simp at hm; subst hm; simpa using hg))
    obtain ⟨va, vc, rfl⟩ := own_slice hx'
    have HF4 := Lib.hid (And.intro hfin (And.intro hsfin hofin))
    clear hbd hsq' hfq' hfin hsfin hofin hn1 hg1 hx'
    go_wp2_with fail
    go_roundw
    case rel => exact ⟨q + 1, x', _, by omega, by go_num, HF4.out.1, HF4.out.2.1, HF4.out.2.2⟩
    case measure => simp [intOf]; omega
end Go.Proofs.YtokpomdfgbbhlaaDoor

/- FnMixed, the switch whole. -/
namespace Go.Proofs.YtokpomdfgbbhlaaDoor
open Go Go.RowKit Go.Maps

set_option maxRecDepth 100000 in
set_option maxHeartbeats 8000000 in
theorem sw_any (fr0 fr1 fr2 fr3 fr4 fr5 fr6 fr7 fr8 fr9 fr10 fr11 fr12 fr13 fr14 fr15 fr16 fr17 fr23 fr28 fr29 fr30 fr31 fr32 fr33 fr34 fr35 fr36 fr37 fr38 fr39 fr40 fr41 fr42 fr43 fr44 fr45 fr46 fr47 fr48 fr49 fr50 fr51 fr52 fr53 fr54 fr55 fr56 fr57 fr58 fr59 fr60 fr61 fr62 fr63 fr64 fr65 fr66 fr67 fr68 fr69 fr70 fr71 fr72 fr73 fr74 fr75 fr76 fr77 fr78 fr79 fr80 fr81 fr82 fr83 fr84 fr85 fr86 fr87 fr88 fr89 fr90 fr91 fr92 fr93 fr94 fr95 fr96 fr97 fr98 fr99 fr100 fr101 fr102 fr103 fr104 fr105 fr106 fr107 fr108 fr109 fr110 fr111 fr112 fr113 fr114 fr115 fr116 fr117 fr118 fr119 fr120 fr121 fr123 fr124 fr125 fr126 fr127 fr128 fr129 fr130 fr131 fr132 fr133 fr134 fr135 fr136 fr137 fr138 fr139 fr140 fr141 fr142 fr143 fr144 fr145 fr146 fr147 fr148 fr149 fr150 fr151 fr152 fr153 fr154 fr155 fr156 fr157 fr158 fr159 fr160 fr161 fr162 fr163 fr164 fr165 fr166 fr167 fr168 fr169 fr170 fr171 fr172 fr173 fr174 fr175 fr176 fr177 fr178 fr179 fr180 fr181 fr182 fr183 fr184 fr185 fr186 fr187 fr188 fr189 fr190 fr191 fr192 fr193 fr194 fr195 fr196 fr197 fr198 fr199 fr200 fr201 fr202 fr203 fr204 fr205 fr206 fr207 fr208 fr209 fr210 fr211 fr212 fr213 fr214 fr215 fr216 fr217 fr218 fr219 fr220 fr221 fr222 fr223 fr224 fr225 fr226 fr227 fr228 fr229 fr230 fr231 fr232 fr233 fr234 fr235 fr236 fr237 fr238 fr239 fr240 fr241 fr242 fr243 fr244 fr245 fr246 fr247 fr248 fr249 fr250 fr251 fr252 fr253 fr254 fr255 fr256 fr257 fr258 fr259 fr260 fr261 fr262 fr263 fr264 fr265 fr266 fr267 fr268 fr269 fr270 fr271 fr272 fr273 fr274 fr275 fr276 fr277 fr278 fr279 fr280 fr281 fr282 fr283 fr284 fr285 fr286 fr287 fr288 fr289 fr290 fr291 fr292 fr293 fr294 fr295 fr296 fr297 fr298 fr299 fr300 fr301 fr302 fr303 fr304 fr305 fr306 fr307 fr308 fr309 fr310 fr311 fr312 fr313 fr314 fr315 fr316 fr317 fr318 fr319 fr320 fr321 fr322 fr323 fr324 fr325 fr326 fr327 fr328 fr329 fr330 fr331 : Value) (b5 yb yc len k i rc tc n h p y r : Nat) (ra ta : Option Addr) (dat d : Nat → UInt8) (w5 wr : World) (Q : Exit → Act → World → Prop) (hM : MxAt b5 yb len dat w5 k i d (.slice ra k rc) (.slice ta k tc) wr) (hwsz : b5 ≤ wr.heap.size) (hyl : yb < b5) (hk50 : k ≤ 50) (hlen9 : len ≤ 9000) (h0 : ¬ len = 0) (hyc1 : len ≤ yc) (hyc2 : yc ≤ 9223372036854775807) (hh : h < 4294967296) (hp : p < len) (hy1 : 1 ≤ y) (hy2 : y ≤ 200) (hrnI : (n : Int) % 7 = (r : Int)) (hr7 : r < 7)  (hQn : ∀ (yy20 yy21 yy22 yy26 yy27 yy28 yy29 yy30 yy122 yy123 yy124 yy125 yy126 yy127 yy128 yy129 yy130 yy131 yy132 yy133 yy134 yy135 yy136 yy137 yy138 yy139 yy140 yy141 yy142 yy143 yy144 yy145 yy146 yy147 yy148 yy149 yy150 yy151 yy152 yy153 yy154 yy155 yy156 yy157 yy158 yy159 yy160 yy161 yy162 yy163 yy164 yy165 yy166 yy167 yy168 yy169 yy170 yy171 yy172 yy173 yy174 yy175 yy176 yy177 yy178 yy179 yy180 yy181 yy182 yy183 yy184 yy185 yy186 yy187 yy188 yy189 yy190 yy191 yy192 yy193 yy194 yy195 yy196 yy197 yy198 yy199 yy200 yy201 yy202 yy203 yy204 yy205 yy206 yy207 yy208 yy209 yy210 yy211 yy212 yy213 yy214 yy215 yy216 yy217 yy218 yy219 yy220 yy221 yy222 yy223 yy224 yy225 yy226 yy227 yy228 yy229 yy230 yy231 yy232 yy233 yy234 yy235 yy236 yy237 yy238 yy239 yy240 yy241 yy242 yy243 yy244 yy245 yy246 yy247 yy248 yy249 yy250 yy251 yy252 yy253 yy254 yy255 yy256 yy257 yy258 yy259 yy260 yy261 yy262 yy263 yy264 yy265 yy266 yy267 yy268 : Value) (w2 : World), SwInv b5 yb len dat w5 k yy20 yy21 yy22 w2 → Q Exit.normal ⟨#[fr0, fr1, fr2, fr3, fr4, fr5, fr6, fr7, fr8, fr9, fr10, fr11, fr12, fr13, fr14, fr15, fr16, fr17, (.slice (some ⟨yb, 0, none⟩) len yc), (.int .i64 len), yy20, yy21, yy22, fr23, (.int .u32 n), (.int .u32 h), yy26, yy27, yy28, yy29, yy30, fr31, fr32, fr33, fr34, fr35, fr36, fr37, fr38, fr39, fr40, fr41, fr42, fr43, fr44, fr45, fr46, fr47, fr48, fr49, fr50, fr51, fr52, fr53, fr54, fr55, fr56, fr57, fr58, fr59, fr60, fr61, fr62, fr63, fr64, fr65, fr66, fr67, fr68, fr69, fr70, fr71, fr72, fr73, fr74, fr75, fr76, fr77, fr78, fr79, fr80, fr81, fr82, fr83, fr84, fr85, fr86, fr87, fr88, fr89, fr90, fr91, fr92, fr93, fr94, fr95, fr96, fr97, fr98, fr99, fr100, fr101, fr102, fr103, fr104, fr105, fr106, fr107, fr108, fr109, fr110, fr111, fr112, fr113, fr114, fr115, fr116, fr117, fr118, fr119, fr120, fr121, yy122, yy123, yy124, yy125, yy126, yy127, yy128, yy129, yy130, yy131, yy132, yy133, yy134, yy135, yy136, yy137, yy138, yy139, yy140, yy141, yy142, yy143, yy144, yy145, yy146, yy147, yy148, yy149, yy150, yy151, yy152, yy153, yy154, yy155, yy156, yy157, yy158, yy159, yy160, yy161, yy162, yy163, yy164, yy165, yy166, yy167, yy168, yy169, yy170, yy171, yy172, yy173, yy174, yy175, yy176, yy177, yy178, yy179, yy180, yy181, yy182, yy183, yy184, yy185, yy186, yy187, yy188, yy189, yy190, yy191, yy192, yy193, yy194, yy195, yy196, yy197, yy198, yy199, yy200, yy201, yy202, yy203, yy204, yy205, yy206, yy207, yy208, yy209, yy210, yy211, yy212, yy213, yy214, yy215, yy216, yy217, yy218, yy219, yy220, yy221, yy222, yy223, yy224, yy225, yy226, yy227, yy228, yy229, yy230, yy231, yy232, yy233, yy234, yy235, yy236, yy237, yy238, yy239, yy240, yy241, yy242, yy243, yy244, yy245, yy246, yy247, yy248, yy249, yy250, yy251, yy252, yy253, yy254, yy255, yy256, yy257, yy258, yy259, yy260, yy261, yy262, yy263, yy264, yy265, yy266, yy267, yy268, fr269, fr270, fr271, fr272, fr273, fr274, fr275, fr276, fr277, fr278, fr279, fr280, fr281, fr282, fr283, fr284, fr285, fr286, fr287, fr288, fr289, fr290, fr291, fr292, fr293, fr294, fr295, fr296, fr297, fr298, fr299, fr300, fr301, fr302, fr303, fr304, fr305, fr306, fr307, fr308, fr309, fr310, fr311, fr312, fr313, fr314, fr315, fr316, fr317, fr318, fr319, fr320, fr321, fr322, fr323, fr324, fr325, fr326, fr327, fr328, fr329, fr330, fr331], []⟩ w2) (hQe : ∀ (yy20 yy21 yy22 yy26 yy27 yy28 yy29 yy30 yy122 yy123 yy124 yy125 yy126 yy127 yy128 yy129 yy130 yy131 yy132 yy133 yy134 yy135 yy136 yy137 yy138 yy139 yy140 yy141 yy142 yy143 yy144 yy145 yy146 yy147 yy148 yy149 yy150 yy151 yy152 yy153 yy154 yy155 yy156 yy157 yy158 yy159 yy160 yy161 yy162 yy163 yy164 yy165 yy166 yy167 yy168 yy169 yy170 yy171 yy172 yy173 yy174 yy175 yy176 yy177 yy178 yy179 yy180 yy181 yy182 yy183 yy184 yy185 yy186 yy187 yy188 yy189 yy190 yy191 yy192 yy193 yy194 yy195 yy196 yy197 yy198 yy199 yy200 yy201 yy202 yy203 yy204 yy205 yy206 yy207 yy208 yy209 yy210 yy211 yy212 yy213 yy214 yy215 yy216 yy217 yy218 yy219 yy220 yy221 yy222 yy223 yy224 yy225 yy226 yy227 yy228 yy229 yy230 yy231 yy232 yy233 yy234 yy235 yy236 yy237 yy238 yy239 yy240 yy241 yy242 yy243 yy244 yy245 yy246 yy247 yy248 yy249 yy250 yy251 yy252 yy253 yy254 yy255 yy256 yy257 yy258 yy259 yy260 yy261 yy262 yy263 yy264 yy265 yy266 yy267 yy268 : Value) (w2 : World), SwInv b5 yb len dat w5 k yy20 yy21 yy22 w2 → Q (Exit.exit 1) ⟨#[fr0, fr1, fr2, fr3, fr4, fr5, fr6, fr7, fr8, fr9, fr10, fr11, fr12, fr13, fr14, fr15, fr16, fr17, (.slice (some ⟨yb, 0, none⟩) len yc), (.int .i64 len), yy20, yy21, yy22, fr23, (.int .u32 n), (.int .u32 h), yy26, yy27, yy28, yy29, yy30, fr31, fr32, fr33, fr34, fr35, fr36, fr37, fr38, fr39, fr40, fr41, fr42, fr43, fr44, fr45, fr46, fr47, fr48, fr49, fr50, fr51, fr52, fr53, fr54, fr55, fr56, fr57, fr58, fr59, fr60, fr61, fr62, fr63, fr64, fr65, fr66, fr67, fr68, fr69, fr70, fr71, fr72, fr73, fr74, fr75, fr76, fr77, fr78, fr79, fr80, fr81, fr82, fr83, fr84, fr85, fr86, fr87, fr88, fr89, fr90, fr91, fr92, fr93, fr94, fr95, fr96, fr97, fr98, fr99, fr100, fr101, fr102, fr103, fr104, fr105, fr106, fr107, fr108, fr109, fr110, fr111, fr112, fr113, fr114, fr115, fr116, fr117, fr118, fr119, fr120, fr121, yy122, yy123, yy124, yy125, yy126, yy127, yy128, yy129, yy130, yy131, yy132, yy133, yy134, yy135, yy136, yy137, yy138, yy139, yy140, yy141, yy142, yy143, yy144, yy145, yy146, yy147, yy148, yy149, yy150, yy151, yy152, yy153, yy154, yy155, yy156, yy157, yy158, yy159, yy160, yy161, yy162, yy163, yy164, yy165, yy166, yy167, yy168, yy169, yy170, yy171, yy172, yy173, yy174, yy175, yy176, yy177, yy178, yy179, yy180, yy181, yy182, yy183, yy184, yy185, yy186, yy187, yy188, yy189, yy190, yy191, yy192, yy193, yy194, yy195, yy196, yy197, yy198, yy199, yy200, yy201, yy202, yy203, yy204, yy205, yy206, yy207, yy208, yy209, yy210, yy211, yy212, yy213, yy214, yy215, yy216, yy217, yy218, yy219, yy220, yy221, yy222, yy223, yy224, yy225, yy226, yy227, yy228, yy229, yy230, yy231, yy232, yy233, yy234, yy235, yy236, yy237, yy238, yy239, yy240, yy241, yy242, yy243, yy244, yy245, yy246, yy247, yy248, yy249, yy250, yy251, yy252, yy253, yy254, yy255, yy256, yy257, yy258, yy259, yy260, yy261, yy262, yy263, yy264, yy265, yy266, yy267, yy268, fr269, fr270, fr271, fr272, fr273, fr274, fr275, fr276, fr277, fr278, fr279, fr280, fr281, fr282, fr283, fr284, fr285, fr286, fr287, fr288, fr289, fr290, fr291, fr292, fr293, fr294, fr295, fr296, fr297, fr298, fr299, fr300, fr301, fr302, fr303, fr304, fr305, fr306, fr307, fr308, fr309, fr310, fr311, fr312, fr313, fr314, fr315, fr316, fr317, fr318, fr319, fr320, fr321, fr322, fr323, fr324, fr325, fr326, fr327, fr328, fr329, fr330, fr331], []⟩ w2) :
    Code.wp Tryd.prog sw7 Q ⟨#[fr0, fr1, fr2, fr3, fr4, fr5, fr6, fr7, fr8, fr9, fr10, fr11, fr12, fr13, fr14, fr15, fr16, fr17, (.slice (some ⟨yb, 0, none⟩) len yc), (.int .i64 len), (.int .i64 i), (.slice ra k rc), (.slice ta k tc), fr23, (.int .u32 n), (.int .u32 h), (.int .i64 p), (.int .i64 y), fr28, fr29, fr30, fr31, fr32, fr33, fr34, fr35, fr36, fr37, fr38, fr39, fr40, fr41, fr42, fr43, fr44, fr45, fr46, fr47, fr48, fr49, fr50, fr51, fr52, fr53, fr54, fr55, fr56, fr57, fr58, fr59, fr60, fr61, fr62, fr63, fr64, fr65, fr66, fr67, fr68, fr69, fr70, fr71, fr72, fr73, fr74, fr75, fr76, fr77, fr78, fr79, fr80, fr81, fr82, fr83, fr84, fr85, fr86, fr87, fr88, fr89, fr90, fr91, fr92, fr93, fr94, fr95, fr96, fr97, fr98, fr99, fr100, fr101, fr102, fr103, fr104, fr105, fr106, fr107, fr108, fr109, fr110, fr111, fr112, fr113, fr114, fr115, fr116, fr117, fr118, fr119, fr120, fr121, (.int .u32 r), fr123, fr124, fr125, fr126, fr127, fr128, fr129, fr130, fr131, fr132, fr133, fr134, fr135, fr136, fr137, fr138, fr139, fr140, fr141, fr142, fr143, fr144, fr145, fr146, fr147, fr148, fr149, fr150, fr151, fr152, fr153, fr154, fr155, fr156, fr157, fr158, fr159, fr160, fr161, fr162, fr163, fr164, fr165, fr166, fr167, fr168, fr169, fr170, fr171, fr172, fr173, fr174, fr175, fr176, fr177, fr178, fr179, fr180, fr181, fr182, fr183, fr184, fr185, fr186, fr187, fr188, fr189, fr190, fr191, fr192, fr193, fr194, fr195, fr196, fr197, fr198, fr199, fr200, fr201, fr202, fr203, fr204, fr205, fr206, fr207, fr208, fr209, fr210, fr211, fr212, fr213, fr214, fr215, fr216, fr217, fr218, fr219, fr220, fr221, fr222, fr223, fr224, fr225, fr226, fr227, fr228, fr229, fr230, fr231, fr232, fr233, fr234, fr235, fr236, fr237, fr238, fr239, fr240, fr241, fr242, fr243, fr244, fr245, fr246, fr247, fr248, fr249, fr250, fr251, fr252, fr253, fr254, fr255, fr256, fr257, fr258, fr259, fr260, fr261, fr262, fr263, fr264, fr265, fr266, fr267, fr268, fr269, fr270, fr271, fr272, fr273, fr274, fr275, fr276, fr277, fr278, fr279, fr280, fr281, fr282, fr283, fr284, fr285, fr286, fr287, fr288, fr289, fr290, fr291, fr292, fr293, fr294, fr295, fr296, fr297, fr298, fr299, fr300, fr301, fr302, fr303, fr304, fr305, fr306, fr307, fr308, fr309, fr310, fr311, fr312, fr313, fr314, fr315, fr316, fr317, fr318, fr319, fr320, fr321, fr322, fr323, fr324, fr325, fr326, fr327, fr328, fr329, fr330, fr331], []⟩ wr := by
  by_cases hr2 : r < 2
  · exact sw_a _ _ _ _ _ _ _ _ _ _ _ _ _ _ _ _ _ _ _ _ _ _ _ _ _ _ _ _ _ _ _ _ _ _ _ _ _ _ _ _ _ _ _ _ _ _ _ _ _ _ _ _ _ _ _ _ _ _ _ _ _ _ _ _ _ _ _ _ _ _ _ _ _ _ _ _ _ _ _ _ _ _ _ _ _ _ _ _ _ _ _ _ _ _ _ _ _ _ _ _ _ _ _ _ _ _ _ _ _ _ _ _ _ _ _ _ _ _ _ _ _ _ _ _ _ _ _ _ _ _ _ _ _ _ _ _ _ _ _ _ _ _ _ _ _ _ _ _ _ _ _ _ _ _ _ _ _ _ _ _ _ _ _ _ _ _ _ _ _ _ _ _ _ _ _ _ _ _ _ _ _ _ _ _ _ _ _ _ _ _ _ _ _ _ _ _ _ _ _ _ _ _ _ _ _ _ _ _ _ _ _ _ _ _ _ _ _ _ _ _ _ _ _ _ _ _ _ _ _ _ _ _ _ _ _ _ _ _ _ _ _ _ _ _ _ _ _ _ _ _ _ _ _ _ _ _ _ _ _ _ _ _ _ _ _ _ _ _ _ _ _ _ _ _ _ _ _ _ _ _ _ _ _ _ _ _ _ _ _ _ _ _ _ _ _ _ _ _ _ _ _ _ _ _ _ _ _ _ _ _ _ _ _ _ _ _ _ _ _ _ _ _ b5 yb yc len k i rc tc n h p y r ra ta dat d w5 wr Q hM hwsz hyl hk50 hlen9 h0 hyc1 hyc2 hh hp hy1 hy2 hrnI hr7 hr2 hQn hQe
  by_cases hr : r = 2
  · exact sw_b _ _ _ _ _ _ _ _ _ _ _ _ _ _ _ _ _ _ _ _ _ _ _ _ _ _ _ _ _ _ _ _ _ _ _ _ _ _ _ _ _ _ _ _ _ _ _ _ _ _ _ _ _ _ _ _ _ _ _ _ _ _ _ _ _ _ _ _ _ _ _ _ _ _ _ _ _ _ _ _ _ _ _ _ _ _ _ _ _ _ _ _ _ _ _ _ _ _ _ _ _ _ _ _ _ _ _ _ _ _ _ _ _ _ _ _ _ _ _ _ _ _ _ _ _ _ _ _ _ _ _ _ _ _ _ _ _ _ _ _ _ _ _ _ _ _ _ _ _ _ _ _ _ _ _ _ _ _ _ _ _ _ _ _ _ _ _ _ _ _ _ _ _ _ _ _ _ _ _ _ _ _ _ _ _ _ _ _ _ _ _ _ _ _ _ _ _ _ _ _ _ _ _ _ _ _ _ _ _ _ _ _ _ _ _ _ _ _ _ _ _ _ _ _ _ _ _ _ _ _ _ _ _ _ _ _ _ _ _ _ _ _ _ _ _ _ _ _ _ _ _ _ _ _ _ _ _ _ _ _ _ _ _ _ _ _ _ _ _ _ _ _ _ _ _ _ _ _ _ _ _ _ _ _ _ _ _ _ _ _ _ _ _ _ _ _ _ _ _ _ _ _ _ _ _ _ _ _ _ _ _ _ _ _ _ _ _ _ _ _ _ _ b5 yb yc len k i rc tc n h p y r ra ta dat d w5 wr Q hM hwsz hyl hk50 hlen9 h0 hyc1 hyc2 hh hp hy1 hy2 hrnI hr7 hr hQn hQe
  by_cases hr3 : r = 3
  · exact sw_c _ _ _ _ _ _ _ _ _ _ _ _ _ _ _ _ _ _ _ _ _ _ _ _ _ _ _ _ _ _ _ _ _ _ _ _ _ _ _ _ _ _ _ _ _ _ _ _ _ _ _ _ _ _ _ _ _ _ _ _ _ _ _ _ _ _ _ _ _ _ _ _ _ _ _ _ _ _ _ _ _ _ _ _ _ _ _ _ _ _ _ _ _ _ _ _ _ _ _ _ _ _ _ _ _ _ _ _ _ _ _ _ _ _ _ _ _ _ _ _ _ _ _ _ _ _ _ _ _ _ _ _ _ _ _ _ _ _ _ _ _ _ _ _ _ _ _ _ _ _ _ _ _ _ _ _ _ _ _ _ _ _ _ _ _ _ _ _ _ _ _ _ _ _ _ _ _ _ _ _ _ _ _ _ _ _ _ _ _ _ _ _ _ _ _ _ _ _ _ _ _ _ _ _ _ _ _ _ _ _ _ _ _ _ _ _ _ _ _ _ _ _ _ _ _ _ _ _ _ _ _ _ _ _ _ _ _ _ _ _ _ _ _ _ _ _ _ _ _ _ _ _ _ _ _ _ _ _ _ _ _ _ _ _ _ _ _ _ _ _ _ _ _ _ _ _ _ _ _ _ _ _ _ _ _ _ _ _ _ _ _ _ _ _ _ _ _ _ _ _ _ _ _ _ _ _ _ _ _ _ _ _ _ _ _ _ _ _ _ _ _ _ b5 yb yc len k i rc tc n h p y r ra ta dat d w5 wr Q hM hwsz hyl hk50 hlen9 h0 hyc1 hyc2 hh hp hy1 hy2 hrnI hr7 hr3 hQn hQe
  by_cases hr4 : r = 4
  · exact sw_d _ _ _ _ _ _ _ _ _ _ _ _ _ _ _ _ _ _ _ _ _ _ _ _ _ _ _ _ _ _ _ _ _ _ _ _ _ _ _ _ _ _ _ _ _ _ _ _ _ _ _ _ _ _ _ _ _ _ _ _ _ _ _ _ _ _ _ _ _ _ _ _ _ _ _ _ _ _ _ _ _ _ _ _ _ _ _ _ _ _ _ _ _ _ _ _ _ _ _ _ _ _ _ _ _ _ _ _ _ _ _ _ _ _ _ _ _ _ _ _ _ _ _ _ _ _ _ _ _ _ _ _ _ _ _ _ _ _ _ _ _ _ _ _ _ _ _ _ _ _ _ _ _ _ _ _ _ _ _ _ _ _ _ _ _ _ _ _ _ _ _ _ _ _ _ _ _ _ _ _ _ _ _ _ _ _ _ _ _ _ _ _ _ _ _ _ _ _ _ _ _ _ _ _ _ _ _ _ _ _ _ _ _ _ _ _ _ _ _ _ _ _ _ _ _ _ _ _ _ _ _ _ _ _ _ _ _ _ _ _ _ _ _ _ _ _ _ _ _ _ _ _ _ _ _ _ _ _ _ _ _ _ _ _ _ _ _ _ _ _ _ _ _ _ _ _ _ _ _ _ _ _ _ _ _ _ _ _ _ _ _ _ _ _ _ _ _ _ _ _ _ _ _ _ _ _ _ _ _ _ _ _ _ _ _ _ _ _ _ _ _ _ b5 yb yc len k i rc tc n h p y r ra ta dat d w5 wr Q hM hwsz hyl hk50 hlen9 h0 hyc1 hyc2 hh hp hy1 hy2 hrnI hr7 hr4 hQn hQe
  exact sw_e _ _ _ _ _ _ _ _ _ _ _ _ _ _ _ _ _ _ _ _ _ _ _ _ _ _ _ _ _ _ _ _ _ _ _ _ _ _ _ _ _ _ _ _ _ _ _ _ _ _ _ _ _ _ _ _ _ _ _ _ _ _ _ _ _ _ _ _ _ _ _ _ _ _ _ _ _ _ _ _ _ _ _ _ _ _ _ _ _ _ _ _ _ _ _ _ _ _ _ _ _ _ _ _ _ _ _ _ _ _ _ _ _ _ _ _ _ _ _ _ _ _ _ _ _ _ _ _ _ _ _ _ _ _ _ _ _ _ _ _ _ _ _ _ _ _ _ _ _ _ _ _ _ _ _ _ _ _ _ _ _ _ _ _ _ _ _ _ _ _ _ _ _ _ _ _ _ _ _ _ _ _ _ _ _ _ _ _ _ _ _ _ _ _ _ _ _ _ _ _ _ _ _ _ _ _ _ _ _ _ _ _ _ _ _ _ _ _ _ _ _ _ _ _ _ _ _ _ _ _ _ _ _ _ _ _ _ _ _ _ _ _ _ _ _ _ _ _ _ _ _ _ _ _ _ _ _ _ _ _ _ _ _ _ _ _ _ _ _ _ _ _ _ _ _ _ _ _ _ _ _ _ _ _ _ _ _ _ _ _ _ _ _ _ _ _ _ _ _ _ _ _ _ _ _ _ _ _ _ _ _ _ _ _ _ _ _ _ _ _ _ _ b5 yb yc len k i rc tc n h p y r ra ta dat d w5 wr Q hM hwsz hyl hk50 hlen9 h0 hyc1 hyc2 hh hp hy1 hy2 hrnI hr7 (by omega) hQn hQe
end Go.Proofs.YtokpomdfgbbhlaaDoor

/- The walk of FnMixed. -/
namespace Go.Proofs.YtokpomdfgbbhlaaDoor
open Go Go.RowKit Go.Maps

set_option maxRecDepth 100000 in
set_option maxHeartbeats 8000000 in
theorem fnmixed_any (nb no nn ncap cb co cn ccap ib io il icap : Nat) (ev : Value) (num lst : Nat → Nat) (cl : Nat → UInt8) (na ca ia : Option Addr) (four : Bool) (step turn : Nat) (w : World) (hstep : step < 256) (hturn : turn < 256)
    (hnc : nn ≤ ncap ∧ ncap ≤ 9223372036854775807) (hcc : cn ≤ ccap ∧ ccap ≤ 9223372036854775807) (hic : il ≤ icap ∧ icap ≤ 9223372036854775807)
    (hnum : ∀ i, num i < 4294967296) (hlst : ∀ i, lst i < 4294967296) (hna : 0 < nn → na = some ⟨nb, no, none⟩) (hca : 0 < cn → ca = some ⟨cb, co, none⟩) (hia : 0 < il → ia = some ⟨ib, io, none⟩)
    (hnums : ∀ i, i < nn → w.cell? ⟨nb, no + i, none⟩ = some (.int .u32 (num i : Nat))) (hcls : ∀ i, i < cn → w.cell? ⟨cb, co + i, none⟩ = some (U8 (cl i))) (hlsts : ∀ i, i < il → w.cell? ⟨ib, io + i, none⟩ = some (.int .u32 (lst i : Nat)))
    (hev : w.cell? ⟨0, 0, none⟩ = some ev) (hp : ∀ i, 65 ≤ i → i ≤ 90 → w.cell? ⟨2, i, none⟩ = some (.int .u8 160)) (h2w : 2 < w.heap.size) :
    Calls Tryd.prog 7 #[.slice na nn ncap, .slice ca cn ccap, .bool four, .int .u8 (step : Int), .int .u8 (turn : Int), .slice ia il icap] w fun e w' => e = .returned (.bool true) ∧ Fr [] w w' := by
  have HNUM := Lib.hid hnum
  have HLST := Lib.hid hlst
  have HNA := Lib.hid hna
  have HCA := Lib.hid hca
  have HIA := Lib.hid hia
  have HNUMS := Lib.hid hnums
  have HCLS := Lib.hid hcls
  have HLSTS := Lib.hid hlsts
  have HP := Lib.hid hp
  have HEV := Lib.hid hev
  clear hnum hlst hna hca hia hnums hcls hlsts hp hev
  by_cases h1 : 2147483647 < nn
  · have hd : decide ((2147483647 : Int) < (nn : Int)) = true := by simp; omega
    go_enter Tryd.func7, Tryd.ntmps7
    go_wp2_with fail
    go_ret
    exact ⟨rfl, Fr.refl _ _⟩
  have hd1 : decide ((2147483647 : Int) < (nn : Int)) = false := by simp; omega
  by_cases h2 : 2147483647 < cn
  · have hd : decide ((2147483647 : Int) < (cn : Int)) = true := by simp; omega
    go_enter Tryd.func7, Tryd.ntmps7
    go_wp2_with fail
    go_ret
    exact ⟨rfl, Fr.refl _ _⟩
  have hd2 : decide ((2147483647 : Int) < (cn : Int)) = false := by simp; omega
  by_cases h2z : 2147483647 < il
  · have hd : decide ((2147483647 : Int) < (il : Int)) = true := by simp; omega
    go_enter Tryd.func7, Tryd.ntmps7
    go_wp2_with fail
    go_ret
    exact ⟨rfl, Fr.refl _ _⟩
  have hd2z : decide ((2147483647 : Int) < (il : Int)) = false := by simp; omega
  by_cases h3 : 100 < nn
  · go_enter Tryd.func7, Tryd.ntmps7
    go_wp2_with fail
    refine (few_no1 _ _ nn cn _ _ _ h3).mono ?_
    rintro e w1 ⟨rfl, rfl⟩
    go_wp2_with fail
    go_ret
    exact ⟨rfl, Fr.refl _ _⟩
  by_cases h4 : 1000 < cn
  · go_enter Tryd.func7, Tryd.ntmps7
    go_wp2_with fail
    refine (few_no2 _ _ nn cn _ _ _ (by omega) h4).mono ?_
    rintro e w1 ⟨rfl, rfl⟩
    go_wp2_with fail
    go_ret
    exact ⟨rfl, Fr.refl _ _⟩
  by_cases h5 : 50 < il
  · have hd : decide ((50 : Int) < (il : Int)) = true := by simp; omega
    go_enter Tryd.func7, Tryd.ntmps7
    go_wp2_with fail
    refine (few_yes _ _ nn cn _ _ _ (by omega) (by omega)).mono ?_
    rintro e w1 ⟨rfl, rfl⟩
    go_wp2_with fail
    go_ret
    exact ⟨rfl, Fr.refl _ _⟩
  have hd5 : decide ((50 : Int) < (il : Int)) = false := by simp; omega
  go_enter Tryd.func7, Tryd.ntmps7
  go_wp2_with fail
  refine (few_yes _ _ nn cn _ _ _ (by omega) (by omega)).mono ?_
  rintro e w1 ⟨rfl, rfl⟩
  go_wp2_with fail
  refine (nodes_any nb no nn ncap cb co cn ccap num cl na ca w hnc (by omega) HNUM.out HNA.out HCA.out HNUMS.out HCLS.out).mono ?_
  rintro e w1 ⟨lb, N, cap, nd, dv, t, rfl, hcap1, hcap2, hf1, hN⟩
  have hn1 := hN.n1
  have hn2 := hN.n2
  have HN := Lib.hid hN
  have HF1 := Lib.hid hf1
  clear hN hf1
  go_wp2_with fail
  have hwr := write_a lb cap ⟨N, nd, four, step⟩ dv w1 (HN.out.ok _ _) (HN.out.nds _ _) ⟨hcap1, hcap2⟩ (by show step ≤ 300; omega)
  have hver : (Lay.mk N nd four step).ver = if four = true then 4 else 3 := rfl
  have hLN : (Lay.mk N nd four step).N = N := rfl
  have hLS : (Lay.mk N nd four step).step = step := rfl
  have hLnd : (Lay.mk N nd four step).nd = nd := rfl
  rw [hver, hLN, hLS] at hwr
  generalize hLd : (Lay.mk N nd four step) = L at *
  generalize hv : (if four = true then 4 else 3) = ver at *
  have HV := Lib.hid hv
  have HWR := Lib.hid hwr
  have HL := Lib.hid (And.intro hLnd (And.intro hLN hLd))
  clear hwr hver hLN hLS hLnd hv hLd
  refine (version_is four ver HV.out _).mono ?_
  rintro e w3 ⟨rfl, rfl⟩
  go_wp2_with fail
  refine HWR.out.mono ?_
  rintro e w3 ⟨ob, F, fat, mfat, W, rfl, hf3, hob, hB, hW⟩
  have HW := Lib.hid hW
  have HF3 := Lib.hid (HF1.out.trans0 hf3)
  have HN3 := Lib.hid (HN.out.fr hf3)
  have HB := Lib.hid hB
  clear hW hf3 HN hB HWR
  go_wp2_with fail
  refine (streamOf_any w.heap.size lb N cap turn nd dv t w3 HN3.out ⟨hcap1, hcap2⟩ hturn).mono ?_
  rintro e w4 ⟨hf4, hk⟩
  have HF4 := Lib.hid (HF3.out.trans0 hf4)
  have HN4 := Lib.hid (HN3.out.fr hf4)
  have HB4 := Lib.hid (HB.out.fr0 hf4)
  clear hf4 HF3 HN3 HB
  rcases hk with ⟨k0, hk0, rfl, hst, he⟩ | rfl
  case inr =>
    go_wp2_with fail
    go_ret
    exact ⟨rfl, HF4.out⟩
  generalize heN : t.order.getD k0 0 = e at *
  have HE := Lib.hid (And.intro heN hst)
  clear heN hst
  by_cases hbig : 131072 < L.bytes
  · have hd : decide ((131072 : Int) < (L.bytes : Int)) = true := by simp; omega
    go_wp2_with fail
    go_ret
    exact ⟨rfl, HF4.out⟩
  have hdI : decide ((131072 : Int) < (L.bytes : Int)) = false := by simp; omega
  have heI : (e : Int) < (N : Int) := by omega
  obtain ⟨a0, dcap, hdve, hdc1, hdc2, hdb⟩ := HN4.out.dat e he
  have hc2 : w4.cell? ⟨lb, e * 28 + 2, none⟩ = some (.slice a0 (nd e).len dcap) := by
    rw [← hdve]
    exact HN4.out.row.cell (k := e) (j := 2) he (by omega)
  have hlen9 : (nd e).len ≤ 9000 := (HN4.out.ok false 0).len e he
  have hsl : ∃ len, len = (nd e).len := ⟨_, rfl⟩
  obtain ⟨len, hln⟩ := hsl
  rw [← hln] at hc2 hlen9 hdc1
  have HDB := Lib.hid (And.intro hln (And.intro hdve hdb))
  clear hln hdve hdb
  by_cases h0 : len = 0
  · subst h0
    go_wp2_with fail
    go_ret
    exact ⟨rfl, HF4.out⟩
  have hl0 : ((len : Int) == 0) = false := by simp; omega
  obtain ⟨hln, hdve, hdb⟩ := HDB.out
  obtain ⟨db, do_, rfl, ldb, hldb, hldx⟩ := hdb (by omega)
  have hdat : ∀ y, y < len → w4.cell? ⟨db, do_ + y, none⟩ = some (U8 ((nd e).dat y)) := fun y hy => (hldb.cell _).trans (hldx y (by omega))
  obtain ⟨dat, hdt⟩ : ∃ dat, (nd e).dat = dat := ⟨_, rfl⟩
  rw [hdt] at hdat
  have HDT := Lib.hid (And.intro hdt hln)
  have HDAT := Lib.hid hdat
  clear hdve hdb hldx hldb hln hdat hdt
  have hc3 := ((Fr.refl [] w4).alloc (Obj.cells #[] 5)).cell0 hc2
  go_wp2_with (at_builtin; (refine wpList_appB rfl (.tmp 90) (.tmp 95) rfl w4.heap.size (.slice (some ⟨w4.heap.size, 0, none⟩) 0 0) rfl (own_lit0 w4 5 _ (Nat.le_refl _)) db do_ len dcap dat rfl (fun y hy => ((Fr.refl [] w4).alloc _).cell0 (HDAT.out y hy)) (by omega) (by simp) ?_))
  intro v5 w5 hown hg
  obtain ⟨yb, yc, ly, rfl, hyb, hyB, hyg, hyc1, hyc2⟩ := own_blk2 hown (by omega)
  have hf5 : Fr [] w4 w5 := ((Fr.refl [] w4).alloc _).trans hg (by simp [Value.ownBlock])
  have hyl := hyB.lt
  have HY := Lib.hid (And.intro hyB hyg)
  have HF5 := Lib.hid hf5
  clear hown hg hyB hyg hf5
  go_upto_region 14 with (fail)
  have hM : MxAt w5.heap.size yb len dat w5 0 0 dat (.slice (some ⟨w5.heap.size, 0, none⟩) 0 0) (.slice (some ⟨w5.heap.size + 1, 0, none⟩) 0 0) ((w5.alloc (Obj.cells #[] 66)).alloc (Obj.cells #[] 55)) := by
    have f : Fr [] w5 ((w5.alloc (Obj.cells #[] 66)).alloc (Obj.cells #[] 55)) := ((Fr.refl _ _).alloc _).alloc _
    refine MxAt.init f hyl ⟨ly, HY.out.1.fr0 f, HY.out.2⟩ ((World.ownsRow_made w5 #[] 0 (Nat.le_refl _) (by unfold maxLen; omega) rfl).alloc _) ?_
    have := World.ownsRow_made (base := w5.heap.size) (e := 55) (size := 3) (w5.alloc (Obj.cells #[] 66)) #[] 0 (by simp) (by unfold maxLen; omega) rfl
    rw [World.size_alloc] at this
    exact this
  have hz7 : ((w5.alloc (Obj.cells #[] 66)).alloc (Obj.cells #[] 55)).heap.size = w5.heap.size + 2 := by simp
  generalize ((w5.alloc (Obj.cells #[] 66)).alloc (Obj.cells #[] 55)) = w7 at *
  have HM := Lib.hid hM
  clear hM
  go_wp2_with fail
  go_loopw [20, 21, 22, 103] (fun s20 s21 s22 s103 wr => ∃ (j k i : Nat) (d : Nat → UInt8), j ≤ il ∧ k ≤ j ∧ s103 = .int .i64 j ∧ s20 = .int .i64 i ∧ MxAt w5.heap.size yb len dat w5 k i d s21 s22 wr) (fun _ _ _ s103 _ => il - (intOf s103).toNat)
  case atStart => exact ⟨0, 0, 0, dat, by omega, by omega, rfl, rfl, HM.out⟩
  case round =>
    obtain ⟨j, k, i, d, hj, hkj, rfl, rfl, hM⟩ := hrel
    by_cases hjl : j < il
    case neg =>
      obtain rfl : j = il := by omega
      have hjI : ¬ (j : Int) < (j : Int) := by omega
      obtain ⟨hi9, hfr5, hyB, ⟨x9, ho9⟩, ⟨x10, ho10⟩⟩ := hM.rows
      have hfr : Fr [] w4 wr := HF5.out.trans hfr5 (fun x hx => .inr (by simp at hx; omega))
      obtain ⟨ra, rc, rfl⟩ := own_slice ho9
      obtain ⟨ta, tc, rfl⟩ := own_slice ho10
      have hst := steps_wrote (HN4.out.fr hfr) L ⟨HL.out.1, HL.out.2.1⟩ HW.out (by omega) ob (HB4.out.fr0 hfr) (fun i a b => (HF4.out.trans0 hfr).cell0 (HP.out i a b)) (Nat.lt_of_lt_of_le h2w (HF4.out.trans0 hfr).size) ev ((HF4.out.trans0 hfr).cell0 HEV.out) k0 e hk0 HE.out.1 he HE.out.2 HDT.out.2.symm HDT.out.1 hM (by omega)
      have HST := Lib.hid hst
      have HR := Lib.hid (And.intro hyB hfr)
      clear hst hM ho9 ho10 hyB hfr hfr5
      go_wp2_with fail
      refine HST.out.mono ?_
      rintro en w9 ⟨hf9, v, v2, td, wv, F', rfl, ⟨dw, t1, t2⟩, r2, r3, r4, r5⟩
      obtain ⟨va, vc, rfl⟩ := own_slice t1
      obtain ⟨fa, fc, rfl⟩ := own_slice r4
      have HT := Lib.hid (And.intro t1 (And.intro t2 (And.intro r2 (And.intro r3 (And.intro r4 (And.intro r5 hf9))))))
      clear t1 t2 r2 r3 r4 r5 hf9 HST
      go_wp2_with fail
      go_loopw [289] (fun s289 w' => ∃ x : Nat, x ≤ k ∧ s289 = .int .i64 x ∧ Fr [] w9 w') (fun s289 _ => k - (intOf s289).toNat)
      case atStart => exact ⟨0, by omega, rfl, Fr.refl _ _⟩
      case round =>
        obtain ⟨x, hx, rfl, hf⟩ := hrel
        rename World => wq
        by_cases hxk : x < k
        case neg =>
          obtain rfl : x = k := by omega
          have hxI : ¬ (x : Int) < (x : Int) := by omega
          have hbr := HR.out.2.trans0 (HT.out.2.2.2.2.2.2.trans0 hf)
          have hNq := HN4.out.fr hbr
          obtain ⟨ll, hll, _⟩ := id hNq.row
          have hz2 := hll.frozen (e * 28 + 2)
          have hc2q := hbr.cell0 hc2
          obtain ⟨ly5, hly5, hlg5⟩ := HR.out.1
          have hly9 := (hly5.fr0 HT.out.2.2.2.2.2.2).fr0 hf
          have hdq : DatIs wq (datSet nd e d e) (.slice (some ⟨yb, 0, none⟩) len yc) := by
            refine ⟨some ⟨yb, 0, none⟩, yc, by rw [(datSet_same nd e d e).2.2.1, HDT.out.2], by rw [(datSet_same nd e d e).2.2.1, ← HDT.out.2]; exact hyc1, hyc2, fun _ => ⟨yb, 0, rfl, ly5, hly9, fun z hz => ?_⟩⟩
            rw [Nat.zero_add, datSet_self]
            rw [(datSet_same nd e d e).2.2.1, ← HDT.out.2] at hz
            exact hlg5 z hz
          obtain ⟨hLO2, hND2⟩ := hNq.datSet four step e he d (.slice (some ⟨yb, 0, none⟩) len yc) hdq
          have hwr2 := write_a lb cap ⟨N, datSet nd e d, four, step⟩ (insI e dv (.slice (some ⟨yb, 0, none⟩) len yc)) (wq.setCell ⟨lb, e * 28 + 2, none⟩ (.slice (some ⟨yb, 0, none⟩) len yc)) hLO2 hND2 ⟨hcap1, hcap2⟩ (by show step ≤ 300; omega)
          have hSL := datSet_sameL N nd four step e d
          rw [HL.out.2.2] at hSL
          have hver2 : (Lay.mk N (datSet nd e d) four step).ver = if four = true then 4 else 3 := rfl
          have hLN2 : (Lay.mk N (datSet nd e d) four step).N = N := rfl
          have hLS2 : (Lay.mk N (datSet nd e d) four step).step = step := rfl
          have hLd2 : ((Lay.mk N (datSet nd e d) four step).nd e).dat = d := datSet_self nd e d
          have hLx2 : ∀ x, x ≠ e → ((Lay.mk N (datSet nd e d) four step).nd x).dat = (L.nd x).dat := fun x hx => by
            rw [HL.out.1]
            show (datSet nd e d x).dat = _
            rw [datSet_ne _ _ _ _ hx]
          rw [hver2, hLN2, hLS2, HV.out] at hwr2
          generalize (Lay.mk N (datSet nd e d) four step) = L2 at *
          have hby2 : L2.bytes = L.bytes := hSL.bytes
          have hfin : Fr [] w (wq.setCell ⟨lb, e * 28 + 2, none⟩ (.slice (some ⟨yb, 0, none⟩) len yc)) := (HF4.out.trans0 hbr).setCell (.inr hNq.lbb) _
          have hby1 := BytesV.of_own (own_fr0 HT.out.2.2.2.2.1 hf)
          have hby1' : BytesV (wq.setCell ⟨lb, e * 28 + 2, none⟩ (.slice (some ⟨yb, 0, none⟩) len yc)) (.slice fa L.bytes fc) L.bytes F' := by
            have h1 := own_fr0 HT.out.2.2.2.2.1 hf
            exact BytesV.of_own (own_fr h1 ((Fr.refl [lb] wq).setCell (.inl (by simp)) _) (fun g hg hm => own_ne h1 hll (by decide) (by simp at hm; subst hm; simpa using hg)))
          have HW2 := Lib.hid (And.intro hwr2 (And.intro hSL (And.intro hLd2 (And.intro hLx2 (And.intro hby2 (And.intro hfin hby1'))))))
          clear hwr2 hSL hver2 hLN2 hLS2 hLd2 hLx2 hby2 hfin hby1 hby1' hLO2 hND2 hdq hly9 hly5 hlg5 hNq hll hbr
          go_upto_region 67 with (fail)
          generalize (wq.setCell ⟨lb, e * 28 + 2, none⟩ (.slice (some ⟨yb, 0, none⟩) len yc)) = wz at *
          go_wp2_with fail
          refine (version_is four ver HV.out _).mono ?_
          rintro en w12 ⟨rfl, rfl⟩
          go_wp2_with fail
          refine HW2.out.1.mono ?_
          rintro en w13 ⟨ob2, F2, fat2, mfat2, W2, rfl, hf13, hob2, hB2, hW2⟩
          have hsm := same_any (.slice fa L.bytes fc) (.slice (some ⟨ob2, 0, none⟩) L2.bytes L2.bytes) L.bytes F' w13 (HW2.out.2.2.2.2.2.2.fr0 hf13) (by
            have h1 := BytesV.of_bts (cap := L2.bytes) hB2
            rw [HW2.out.2.2.2.2.1] at h1 ⊢
            exact h1.congr (HT.out.2.2.2.2.2.1 L2 F2 fat2 mfat2 W2 HW2.out.2.1 HW2.out.2.2.1 HW2.out.2.2.2.1 hW2))
          have HSM := Lib.hid (And.intro hsm (HW2.out.2.2.2.2.2.1.trans0 hf13))
          clear hsm hf13 hB2 hW2
          go_wp2_with fail
          refine HSM.out.1.mono ?_
          rintro en w14 ⟨rfl, rfl⟩
          go_wp2_with fail
          go_ret
          exact ⟨rfl, HSM.out.2⟩
        have hxI : (x : Int) < (k : Int) := by omega
        obtain ⟨gb, gc, gl, hgv, _, hgB, hgl, _, _, hgL⟩ := own_blkS HT.out.1 (by omega : 1 ≤ k)
        injection hgv with hg1 hg2 hg3
        subst hg1 hg3
        obtain ⟨ub, uc, ul, huv, _, huB, hul, _, _, huL⟩ := own_blkS HT.out.2.2.1 (by omega : 1 ≤ k)
        injection huv with hu1 hu2 hu3
        subst hu1 hu3
        obtain ⟨p0, p1, p2⟩ := toldRow_get dw td k x hxk
        obtain ⟨q0, q1, q2⟩ := toldRow_get wv td k x hxk
        have hb1 := BytesV.of_own (HT.out.2.1 x hxk)
        have hb2 := BytesV.of_own (HT.out.2.2.2.1 x hxk)
        obtain ⟨da, dc, hdv⟩ := own_slice (HT.out.2.1 x hxk)
        obtain ⟨ea, ec, hev⟩ := own_slice (HT.out.2.2.2.1 x hxk)
        have hl1 := (hgl (x * 3) (by omega)).trans p0
        have hl2 := (hgl (x * 3 + 1) (by omega)).trans p1
        have hl3 := (hgl (x * 3 + 2) (by omega)).trans p2
        have hglen : x * 3 + 3 ≤ gl.length := by have := (List.getElem?_eq_some_iff.1 hl3).1; omega
        have hgt3 := take3 hl1 hl2 hl3
        have u0 : wq.cell? ⟨ub, x * 3, none⟩ = some (wv x) := hf.cell0 ((huB.cell _).trans ((hul (x * 3) (by omega)).trans q0))
        have u1 : wq.cell? ⟨ub, x * 3 + 1, none⟩ = some (.int .i64 ((td x).num : Nat)) := hf.cell0 ((huB.cell _).trans ((hul (x * 3 + 1) (by omega)).trans q1))
        have hgBq := hgB.fr0 hf
        rw [hdv] at hb1 hgt3
        rw [hev] at hb2 u0
        generalize (td x).num = num at *
        generalize (td x).cnt = cnt at *
        have HBV := Lib.hid (And.intro (hb1.fr0 hf) (hb2.fr0 hf))
        have HFQ := Lib.hid hf
        clear hb1 hb2 hdv hev hgB hgl hgL huB hul huL hl1 hl2 hl3 p0 p1 p2 q0 q1 q2 hf
        go_upto_region 62 with (fail)
        go_cut [34, 35] from 291 to 293 (fun s34 s35 w11 => ∃ g5 : Nat, s34 = .int .i64 x ∧ s35 = .pointer (some ⟨g5, 0, none⟩) ∧ Fr [] wq w11 ∧ Blk w11 g5 55 [.slice da cnt dc, .int .i64 (num : Nat), .int .i64 0])
        case first =>
          go_wp2_with (first
            | (refine wpList_load_blk rfl 55 (.tmp 292) rfl gb (x * 3) rfl 55 gl hgBq _ Tryd.underlying55 rfl 3 (by kernel_rfl) hglen #[.slice da cnt dc, .int .i64 (num : Nat), .int .i64 0] hgt3 ?_)
            | (refine wpList_store_blk rfl 55 (.tmp 35) (.tmp 293) rfl wq.heap.size 0 #[.slice da cnt dc, .int .i64 (num : Nat), .int .i64 0] rfl rfl 55 _ (Blk.new' wq 55 _) ?c1 ?c2 rfl ?_))
          go_meet
          case rel => exact ⟨wq.heap.size, rfl, rfl, (Fr.refl _ _).alloc _, Blk.new' _ _ _⟩
        case rest =>
        obtain ⟨g5, rfl, rfl, hf11, hg5B⟩ := hcut
        have e0 := hg5B.cell 0
        have e1 := hg5B.cell 1
        have e2 := hg5B.cell 2
        replace u0 := hf11.cell0 u0
        replace u1 := hf11.cell0 u1
        have hsame : ∀ n, Calls Tryd.prog 16 #[.slice da cnt dc, .slice ea cnt ec] (wc.drewN n) fun e w'' => e = .returned (.bool true) ∧ w'' = wc.drewN n := by
          intro n
          refine (same_any _ _ cnt _ (wc.drewN n) ((HBV.out.1.fr0 hf11).fr0 ((Fr.refl _ _).drewN _)) ((HBV.out.2.fr0 hf11).fr0 ((Fr.refl _ _).drewN _))).mono ?_
          rintro e w'' ⟨h1, h2⟩
          exact ⟨h1, h2.symm⟩
        have HSM := Lib.hid hsame
        have HF11 := Lib.hid (HFQ.out.trans0 hf11)
        have hneB : ((num : Int) != (num : Int)) = false := by simp
        clear hsame hf11 hg5B hgBq hgt3 hglen
        go_upto_region 63 with (fail)
        go_quiet ((go_at_call 16; exact Calls.quiet_of_same (HSM.out _)))
        go_wp2_with fail
        go_roundw
        case rel => exact ⟨x + 1, by omega, by go_num, HF11.out.drewN _⟩
        case measure => simp [intOf]; omega
    obtain ⟨hi9, hfr5, hyB, ⟨x9, ho9⟩, ⟨x10, ho10⟩⟩ := hM.rows
    obtain rfl := HIA.out (by omega)
    have hfr : Fr [] w4 wr := HF5.out.trans hfr5 (fun x hx => .inr (by simp at hx; omega))
    have hls := (HF4.out.trans0 hfr).cell0 (HLSTS.out j (by omega))
    have hn := HLST.out j
    generalize lst j = n at hls hn
    have hjI : (j : Int) < (il : Int) := by omega
    obtain ⟨ra, rc, rfl⟩ := own_slice ho9
    obtain ⟨ta, tc, rfl⟩ := own_slice ho10
    have hwsz : w5.heap.size ≤ wr.heap.size := hfr5.size
    have HR := Lib.hid (And.intro hM (And.intro ho9 (And.intro ho10 (And.intro hyB hfr))))
    clear hM ho9 ho10 hyB hfr hfr5
    go_upto_region 17 with (fail)
    go_cut [25] from 107 to 108 (fun s25 w' => wr = w' ∧ ∃ h : Nat, h < 4294967296 ∧ s25 = .int .u32 h)
    case first =>
      go_wp2_with fail
      go_meet
      case rel => exact ⟨rfl, h_ex n⟩
    case rest =>
    obtain ⟨rfl, h, hh, rfl⟩ := hcut
    go_upto_region 18 with (fail)
    go_cut [26] from 109 to 113 (fun s26 w' => wr = w' ∧ ∃ p : Nat, p < len ∧ s26 = .int .i64 p)
    case first =>
      go_wp2_with fail
      go_meet
      case rel => exact ⟨rfl, h / 256 % len, Nat.mod_lt _ (by omega), by push_cast; rfl⟩
    case rest =>
    obtain ⟨rfl, p, hp, rfl⟩ := hcut
    go_upto_region 19 with (fail)
    go_cut [27] from 114 to 120 (fun s27 w' => wr = w' ∧ ∃ y : Nat, 1 ≤ y ∧ y ≤ 200 ∧ s27 = .int .i64 y)
    case first =>
      by_cases hm : len < 200
      · have hmI : (len : Int) < 200 := by omega
        obtain ⟨q, hq, hq2⟩ : ∃ q, q = h / 8 % len ∧ q < 200 := ⟨_, rfl, Nat.lt_trans (Nat.mod_lt _ (by omega)) hm⟩
        have hqI : (h : Int) / 8 % (len : Int) = (q : Int) := by rw [hq]; push_cast; rfl
        clear hq
        go_wp2_with fail
        go_meet
        case rel => exact ⟨rfl, 1 + q, by omega, by omega, by go_num⟩
      · have hmI : (200 : Int) ≤ (len : Int) := by omega
        obtain ⟨q, hq, hq2⟩ : ∃ q, q = h / 8 % 200 ∧ q < 200 := ⟨_, rfl, Nat.mod_lt _ (by omega)⟩
        have hqI : (h : Int) / 8 % 200 = (q : Int) := by rw [hq]; push_cast; rfl
        clear hq
        go_wp2_with fail
        go_meet
        case rel => exact ⟨rfl, 1 + q, by omega, by omega, by go_num⟩
    case rest =>
    obtain ⟨rfl, y, hy1, hy2, rfl⟩ := hcut
    go_upto_region 20 with (fail)
    go_cut [122] from 121 to 122 (fun s122 w' => wr = w' ∧ ∃ r : Nat, n % 7 = r ∧ r < 7 ∧ s122 = .int .u32 r)
    case first =>
      go_wp2_with fail
      go_meet
      case rel => exact ⟨rfl, n % 7, rfl, Nat.mod_lt _ (by omega), by push_cast; rfl⟩
    case rest =>
    obtain ⟨rfl, r, hrn, hr7, rfl⟩ := hcut
    have hrnI : (n : Int) % 7 = (r : Int) := by omega
    clear hrn
    go_upto_block 2 with (fail)
    rename (∀ (a : Act) (w : World), Code.wp Tryd.prog _ _ a w → _) => hK2
    refine sw_any _ _ _ _ _ _ _ _ _ _ _ _ _ _ _ _ _ _ _ _ _ _ _ _ _ _ _ _ _ _ _ _ _ _ _ _ _ _ _ _ _ _ _ _ _ _ _ _ _ _ _ _ _ _ _ _ _ _ _ _ _ _ _ _ _ _ _ _ _ _ _ _ _ _ _ _ _ _ _ _ _ _ _ _ _ _ _ _ _ _ _ _ _ _ _ _ _ _ _ _ _ _ _ _ _ _ _ _ _ _ _ _ _ _ _ _ _ _ _ _ _ _ _ _ _ _ _ _ _ _ _ _ _ _ _ _ _ _ _ _ _ _ _ _ _ _ _ _ _ _ _ _ _ _ _ _ _ _ _ _ _ _ _ _ _ _ _ _ _ _ _ _ _ _ _ _ _ _ _ _ _ _ _ _ _ _ _ _ _ _ _ _ _ _ _ _ _ _ _ _ _ _ _ _ _ _ _ _ _ _ _ _ _ _ _ _ _ _ _ _ _ _ _ _ _ _ _ _ _ _ _ _ _ _ _ _ _ _ _ _ _ _ _ _ _ _ _ _ _ _ _ _ _ _ _ _ _ _ _ _ _ _ _ _ _ _ _ _ _ _ _ _ _ _ _ _ _ _ _ _ _ _ _ _ _ _ _ _ _ _ _ _ _ _ _ _ _ _ _ _ _ _ _ _ _ _ _ _ _ _ _ _ _ _ _ _ _ _ _ _ _ _ w5.heap.size yb yc len k i rc tc n h p y r ra ta dat d w5 wr _ HR.out.1 hwsz hyl (by omega) hlen9 h0 hyc1 hyc2 hh hp hy1 hy2 hrnI hr7 ?_ ?_
    all_goals
      intro yy20 yy21 yy22 yy26 yy27 yy28 yy29 yy30 yy122 yy123 yy124 yy125 yy126 yy127 yy128 yy129 yy130 yy131 yy132 yy133 yy134 yy135 yy136 yy137 yy138 yy139 yy140 yy141 yy142 yy143 yy144 yy145 yy146 yy147 yy148 yy149 yy150 yy151 yy152 yy153 yy154 yy155 yy156 yy157 yy158 yy159 yy160 yy161 yy162 yy163 yy164 yy165 yy166 yy167 yy168 yy169 yy170 yy171 yy172 yy173 yy174 yy175 yy176 yy177 yy178 yy179 yy180 yy181 yy182 yy183 yy184 yy185 yy186 yy187 yy188 yy189 yy190 yy191 yy192 yy193 yy194 yy195 yy196 yy197 yy198 yy199 yy200 yy201 yy202 yy203 yy204 yy205 yy206 yy207 yy208 yy209 yy210 yy211 yy212 yy213 yy214 yy215 yy216 yy217 yy218 yy219 yy220 yy221 yy222 yy223 yy224 yy225 yy226 yy227 yy228 yy229 yy230 yy231 yy232 yy233 yy234 yy235 yy236 yy237 yy238 yy239 yy240 yy241 yy242 yy243 yy244 yy245 yy246 yy247 yy248 yy249 yy250 yy251 yy252 yy253 yy254 yy255 yy256 yy257 yy258 yy259 yy260 yy261 yy262 yy263 yy264 yy265 yy266 yy267 yy268 w2 hin
      obtain ⟨k2, i2, d2, hk2, rfl, hM2⟩ := hin
      have HM2 := Lib.hid hM2
      clear hM2
      refine hK2 _ _ ?_
      go_wp2_with fail
      go_roundw
      case rel => exact ⟨j + 1, k2, i2, d2, by omega, by omega, by go_num, rfl, HM2.out⟩
      case measure => simp [intOf]; omega
end Go.Proofs.YtokpomdfgbbhlaaDoor

/- FnMixed: a stream that is not empty is read, sought, read at places, written and written at places, what is told is what stands there then, and the file behind all is that of the stream with these bytes, for every numbers, bytes, version, step, turn and list of steps. -/
namespace Go.Proofs.YtokpomdfgbbhlaaDoor
open Go Go.ChangeShapes Go.WideShapes Go.ChangeAt Go.RowKit Go.Clock

theorem wf_u32m {n : Int} (h : (Lit.int .u32 n).wf = true) : 0 ≤ n ∧ n ≤ 4294967295 := by simpa [Lit.wf, IntKind.min, IntKind.max, IntKind.signed, IntKind.bits] using h
theorem wf_u8m {n : Int} (h : (Lit.int .u8 n).wf = true) : 0 ≤ n ∧ n ≤ 255 := by simpa [Lit.wf, IntKind.min, IntKind.max, IntKind.signed, IntKind.bits] using h

theorem u8_cellm {n : Int} (h : (Lit.int .u8 n).wf = true) : Value.int .u8 n = U8 (UInt8.ofNat n.toNat) := by
  have := wf_u8m h
  unfold U8
  congr 1
  simp
  omega

theorem mixedTs : ∀ t ∈ Tryd.f7.params.toList, Tryd.prog.readableRec t = true ∧ t < Tryd.prog.types.size := by
  have h : (Tryd.f7.params.toList.all fun t => Tryd.prog.readableRec t && decide (t < Tryd.prog.types.size)) = true := by kernel_rfl
  intro t ht
  have := List.all_eq_true.1 h t ht
  simpa using this


set_option maxRecDepth 100000 in
theorem mixed_contract (H : Type) (enc : TypeId × Value → H) (W : World) (base : Nat) (args : Array Value) (ds gs : List (DataW H)) (before : List MemPlace)
    (hval : ∀ (j : Nat) t v, Tryd.f7.params[j]? = some t → args[j]? = some v → Value.okWide Tryd.prog W .any base t v)
    (hW : DataW.Whole enc Tryd.prog Tryd.f7.params.toList Rows.fnMixedSpec.vars false W args.toList ds gs before) (hL : laidMet Tryd.prog Rows.fnMixedRow.laid W) :
    Calls Tryd.prog 7 args W fun e W' => ∃ v, e = .returned v ∧ Rows.fnMixedSpec.post enc Tryd.prog Tryd.f7 false true false false W args v W' ∧ W'.os = W.os := by
  have hp := props_head hL.tail
  obtain ⟨eb, eo, s, hev, hes⟩ := eof_head hL
  have h2w : 2 < W.heap.size := World.block_lt_of_cell? _ _ (hp 65 (by omega) (by omega))
  have hW' := hW
  obtain ⟨p, q, hA0, hV, rfl, hfz, hnd⟩ := hW
  have hA : DataW.TrodAll enc Tryd.prog W 0 (fun _ => true) true Tryd.f7.params.toList args.toList ds p := hA0
  rw [Tryd.params7] at hA hval
  obtain ⟨v0, vs0, d0, ds0, p0, q0, hargs, rfl, rfl, h0, r0⟩ := trodAll_cons hA
  obtain ⟨v1, vs1, d1, ds1, p1, q1, rfl, rfl, rfl, h1, r1⟩ := trodAll_cons r0
  obtain ⟨v2, vs2, d2, ds2, p2, q2, rfl, rfl, rfl, h2, r2⟩ := trodAll_cons r1
  obtain ⟨v3, vs3, d3, ds3, p3, q3, rfl, rfl, rfl, h3, r3⟩ := trodAll_cons r2
  obtain ⟨v4, vs4, d4, ds4, p4, q4, rfl, rfl, rfl, h4, r4⟩ := trodAll_cons r3
  obtain ⟨v5, vs5, d5, ds5, p5, q5, rfl, rfl, rfl, h5, r5⟩ := trodAll_cons r4
  obtain ⟨rfl, rfl, rfl⟩ := trodAll_nil r5
  obtain rfl : args = #[v0, v1, v2, v3, v4, v5] := by cases args; simp_all
  obtain ⟨rfl, rfl⟩ := trodVars_none hV
  obtain ⟨na, nn, ncap, nb, no, num, rfl, hnc, hna, hnums, hnw⟩ := open_sl Tryd.underlying22 Tryd.underlying63 rcells63 (hval 0 22 v0 rfl rfl) h0
  obtain ⟨ca, cn, ccap, cb, co, cl, rfl, hcc, hca, hcls, hcw⟩ := open_sl Tryd.underlying23 Tryd.underlying5 rcells5 (hval 1 23 v1 rfl rfl) h1
  obtain ⟨four, rfl, rfl, rfl⟩ := open_bool Tryd.underlying4 (hval 2 4 v2 rfl rfl) h2
  obtain ⟨st, rfl, rfl, rfl, wst⟩ := open_int Tryd.underlying5 (hval 3 5 v3 rfl rfl) h3
  obtain ⟨tu, rfl, rfl, rfl, wtu⟩ := open_int Tryd.underlying5 (hval 4 5 v4 rfl rfl) h4
  obtain ⟨ia, il, icap, ib, io, lst, rfl, hic, hia, hlsts, hlw⟩ := open_sl Tryd.underlying22 Tryd.underlying63 rcells63 (hval 5 22 v5 rfl rfl) h5
  clear hA0 hval
  simp only [List.append_nil] at hW'
  obtain ⟨stN, rfl⟩ := Int.eq_ofNat_of_zero_le (wf_u8m wst).1
  have hst := (wf_u8m wst).2
  obtain ⟨tuN, rfl⟩ := Int.eq_ofNat_of_zero_le (wf_u8m wtu).1
  have htu := (wf_u8m wtu).2
  refine (fnmixed_any nb no nn ncap cb co cn ccap ib io il icap (.iface 187 (.pointer (some ⟨eb, eo, none⟩))) (fun i => (num i).toNat) (fun i => (lst i).toNat) (fun i => UInt8.ofNat (cl i).toNat) na ca ia four stN tuN W (by omega) (by omega) hnc hcc hic
    (fun i => by have := wf_u32m (hnw i); omega) (fun i => by have := wf_u32m (hlw i); omega) hna hca hia (fun i hi => by rw [hnums i hi]; have := wf_u32m (hnw i); congr 2; omega) (fun i hi => by rw [hcls i hi, u8_cellm (hcw i)]) (fun i hi => by rw [hlsts i hi]; have := wf_u32m (hlw i); congr 2; omega) hev hp h2w).mono ?_
  rintro e W' ⟨rfl, hf⟩
  exact ⟨_, rfl, post_law rfl (by kernel_rfl) mixedTs rfl hW' hf.below, hf.os⟩

noncomputable def mixedWorld (os : Os) : World := World.laidAll Tryd.prog os Rows.fnMixedRow.laid
def mixedArgs : Array Value := #[.slice none 0 0, .slice none 0 0, .bool false, .int .u8 0, .int .u8 0, .slice none 0 0]
theorem mixed_met (os : Os) : laidMet Tryd.prog Rows.fnMixedRow.laid ((mixedWorld os).forCall (fun _ _ => 0) ⟨#[], mixedArgs, []⟩).memory :=
  laidMet_laidAll _ (by kernel_rfl) (by kernel_rfl)
theorem mixed_reads (os : Os) {H : Type} (enc : TypeId × Value → H) : ∃ places, DataW.whole enc Tryd.prog ((mixedWorld os).forCall (fun _ _ => 0) ⟨#[], mixedArgs, []⟩).memory Tryd.f7.params.toList Rows.fnMixedSpec.vars false mixedArgs.toList 8 =
    some ([.nil, .nil, .lit (.bool false), .lit (.int .u8 0), .lit (.int .u8 0), .nil], [], places) :=
  ⟨[], by kernel_rfl⟩

set_option maxRecDepth 100000 in
theorem mixed_lifted (os : Os) (started : os.Started) (H : Type) (enc : TypeId × Value → H) (F : Stop.Interp) :
    ReturnsInHanded {} Tryd.checked os 7 .any ((OpenSpec.ofChange Rows.fnMixedSpec).preRow enc Tryd.prog Tryd.f7 Rows.fnMixedRow.domain false Rows.fnMixedRow.laid) (((OpenSpec.ofChange Rows.fnMixedSpec).at F).post enc Tryd.prog Tryd.f7 false true false false) := by
  obtain ⟨places, hx⟩ := mixed_reads os enc
  refine returnsInHanded_of_row (C := Tryd.checked) (s := OpenSpec.ofChange Rows.fnMixedSpec) own started (by kernel_rfl) Tryd.func7
    (witness_row_at (enc := enc) (C := Tryd.checked) false (mixedWorld os) mixedArgs rfl (by kernel_rfl) (by kernel_rfl) (by kernel_rfl)
      (OpenSpec.preRow_of_cond 8 hx (by kernel_rfl) (fun k hk => by cases hk) (by kernel_rfl) (mixed_met os))) ?_
  intro W base args ds gs before hval hW _ _ _ hL _ _
  refine (mixed_contract H enc W base args ds gs before hval hW hL).mono ?_
  rintro e W' ⟨v, he, hpost, _⟩
  exact ⟨v, he, hpost⟩

set_option maxRecDepth 100000 in
theorem mixed_lifted2 (os : Os) (started : os.Started) (H : Type) (enc : TypeId × Value → H) (F : Stop.Interp) :
    ReturnsInHanded { calm := true } Tryd.checked os 7 .any (fun w args => (Rows.fnMixedSpec.pre enc Tryd.prog Tryd.f7 [] false w args ∧ laidMetH Tryd.prog Rows.fnMixedRow.laid w) ∧ sizedMet enc Tryd.prog Tryd.f7 (OpenSpec.ofChange Rows.fnMixedSpec) false w args)
      ((OpenSpec.ofChange Rows.fnMixedSpec).postWith enc Tryd.prog Tryd.f7 F (outsideKept [.timePasses]) false true false) := by
  refine returns_of_change (C := Tryd.checked) (X := fun w _ => laidMetH Tryd.prog Rows.fnMixedRow.laid w) (fun _ _ _ hh h => h.of_heap hh) own started (by kernel_rfl) Tryd.func7
    (witness_at (enc := enc) (C := Tryd.checked) (X := fun w _ => laidMetH Tryd.prog Rows.fnMixedRow.laid w) (World.laidAll Tryd.prog os Rows.fnMixedRow.laid) mixedArgs 8 (World.laidAll_os _ _ _) (World.shaped_of_ZipB (by kernel_rfl) (by kernel_rfl)) (by kernel_rfl) (by kernel_rfl) (by kernel_rfl)
      (by rw [MakeChecks.laidMetH_plain _ _ _ (by kernel_rfl)]; exact laidMet_laidAll _ (by kernel_rfl) (by kernel_rfl))) ?_
  intro W base args ds gs before hval hW _ _ hL _
  rw [MakeChecks.laidMetH_plain _ _ _ (by kernel_rfl)] at hL
  refine (mixed_contract H enc W base args ds gs before hval hW hL).mono ?_
  rintro e W' ⟨v, he, hpost, ho⟩
  have hos : { W' with os := W.os } = W' := by rw [← ho]
  refine ⟨v, he, ?_, by rw [ho]; exact Later.refl _⟩
  rw [hos]
  exact hpost

theorem mixed_said : Rows.FnMixedSaid := by
  first
    | exact OpenClaim.holds_of_cond 7 Tryd.f7 rfl rfl rfl rfl rfl rfl rfl ⟨rfl, rfl, rfl, rfl, rfl⟩ rfl rfl rfl rfl rfl (by kernel_rfl) Tryd.func7 (by kernel_rfl)
        (of_decide_eq_true (by kernel_rfl)) (by unfold Func.isWrapper; first | (rw [if_pos (by decide +kernel)]; kernel_rfl) | (rw [if_neg (by decide +kernel)]; exact ⟨rfl, rfl⟩))
        (fun os started H enc _ F => by rw [OpenClaim.pre_eq_preRow]; exact mixed_lifted os started H enc F)
    | exact holds_of_wide_time 7 Tryd.f7 rfl rfl rfl rfl rfl rfl rfl ⟨rfl, rfl, rfl, rfl, rfl⟩ rfl rfl rfl rfl rfl (by kernel_rfl) Tryd.func7 (by kernel_rfl)
        (of_decide_eq_true (by kernel_rfl)) (by unfold Func.isWrapper; first | (rw [if_pos (by decide +kernel)]; kernel_rfl) | (rw [if_neg (by decide +kernel)]; exact ⟨rfl, rfl⟩))
        (fun os started H enc _ F => mixed_lifted2 os started H enc F)

theorem mixed_plain (f : FuncId) (fn : Func) (hf : Tryd.pinned.checked.prog.funcNamed "loop.example/pub-g03458/laws.FnMixed" = some f) (hfn : Tryd.pinned.checked.prog.funcs[f]? = some fn) :
    true = Tryd.pinned.checked.prog.looks [] ∧ ∀ (j : Nat) t, fn.params[j]? = some t → Tryd.pinned.checked.prog.wantsStandIn t = false := by
  obtain rfl : f = 7 := Option.some.inj ((show Tryd.prog.funcNamed "loop.example/pub-g03458/laws.FnMixed" = some 7 by kernel_rfl).symm.trans hf) |>.symm
  obtain rfl : fn = Tryd.f7 := (Option.some.inj (Tryd.func7.symm.trans hfn)).symm
  refine ⟨by kernel_rfl, fun j t ht => ?_⟩
  have h : (Tryd.f7.params.toList.all fun t => !Tryd.prog.wantsStandIn t) = true := by kernel_rfl
  have := List.all_eq_true.1 h t (by simpa using Array.mem_of_getElem? ht)
  exact (show Tryd.prog.wantsStandIn t = false by simpa using this)

theorem mixed_card : Rows.FnMixedCardSaid :=
  Claim7.holds_tied_plain_at .later [] _ _ _ _ mixed_said (fun _ h => by cases h) (by kernel_rfl) (fun _ h => by cases h) fnMixed_row_tie rfl ⟨rfl, rfl⟩ (by kernel_rfl) rfl mixed_plain (by kernel_rfl)
end Go.Proofs.YtokpomdfgbbhlaaDoor
#print axioms Go.Proofs.YtokpomdfgbbhlaaDoor.mixed_card

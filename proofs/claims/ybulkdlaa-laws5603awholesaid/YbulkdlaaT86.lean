import Derived.Test.YbulkdlaaT102
import Derived.Deep.CutBlock
import Derived.Deep.DeepCutAuto
import Derived.Deep.RegionHeld3
import Derived.Deep.DrawnRows
import Derived.Deep.AppendLies
namespace Go.Proofs.Ybulkdlaa
set_option linter.unusedVariables false
set_option linter.unusedSimpArgs false
open Go.RowKit
attribute [local go_sem ↓] Go.wp_at_zero Go.wp_at_succ

set_option maxRecDepth 1000000 in
set_option maxHeartbeats 4000000 in
theorem t86 {w wr : World} {K0 N na : Nat} {k : RK} {gc : Array Value} {vm va : Value} {dm : DM} {dn : DN} {ad av : Option Addr} {cd cv : Nat} (L3 : N2 w wr (w.heap.size + 1) w.heap.size gc vm (.slice ad dm.length cd) dm va (.slice av dn.length cv) dn N (faOf dn) na dn.length none) (hN : N ≤ 16777216) (hfk : fits k) (hbk : wr.heap[K0]? = some (.cells #[.string k.1, .string k.2.1, .string k.2.2] 51)) (hdl6 : dn.length ≤ 4096) {x0 x1 x2 x3 x4 x5 x6 x7 x8 x9 x10 x13 x14 x15 x16 x17 x19 x20 x21 x22 x23 x24 x25 x26 x27 x28 x29 x31 x32 x33 x34 x35 x36 x37 x38 x39 x40 x41 x42 x43 x44 x45 x46 x47 x48 x49 x50 x51 x52 x53 x54 x55 x56 x57 x58 x59 x60 x61 x62 x63 x64 x65 x66 x67 x68 x69 x70 x71 x72 x73 x74 x75 x76 x77 x78 x79 x80 x81 x82 x83 x84 x85 x86 x87 x88 x89 x90 x91 x92 x93 x94 x95 x96 x97 x98 x99 x100 x101 x102 x103 x104 x105 x106 x107 x108 x109 x110 x111 x112 x113 x114 x115 x116 x117 x118 x119 x120 x121 x122 x123 x124 x125 x126 x127 x128 x129 x130 x131 x132 x133 x134 x135 x136 x137 x138 x139 x140 x141 x142 x143 x144 x145 x146 x147 x148 x149 x150 x151 x152 x153 x154 x155 x156 x157 x158 x159 x160 x161 x162 x163 x164 x165 x166 x167 x168 x169 x170 x171 x172 x173 x174 x175 x176 x177 x178 x179 x180 x181 x182 x183 x184 x185 x186 x187 x188 x189 x190 x191 x192 x193 x194 x195 x196 x197 x198 x199 x200 x201 x202 x203 x204 x205 x206 x207 x208 x209 x210 x211 x212 x213 x214 x215 x216 x217 x218 x219 x220 x221 x222 x223 x224 x225 x226 x227 x228 x229 x230 x231 x232 x233 x234 x235 x236 x237 x238 x239 x240 x241 x242 x243 x244 x245 x246 x247 x248 x249 x250 x251 x252 x253 x254 x255 x256 x257 x258 x259 x260 x261 x262 x263 x264 x265 x266 x267 x268 x269 x270 x271 x272 x273 x274 x275 x276 x277 x278 x279 x280 x281 x282 x283 x284 x285 x286 x287 x288 x289 x290 x291 x292 x293 x294 x295 x296 x297 x298 x299 x300 x301 x302 x303 x304 x305 x306 x307 x308 x309 x310 x311 x312 x313 x314 x315 x316 x317 x318 x319 x320 x321 x322 x323 x324 x325 x326 x327 x328 x329 x330 x331 x332 x333 x334 x335 x336 x337 x338 x339 x340 x341 x342 x343 x344 x345 x346 x347 x348 x349 x350 x351 x352 x353 x354 x355 x356 x357 x358 x359 x360 x361 x362 x363 x364 x365 x366 x367 x368 x369 x370 x371 x372 x373 x374 x375 x376 x377 x378 x379 x380 x381 x382 x383 x384 x385 x386 x387 x388 x389 x390 x391 x392 x393 x394 x395 x396 x397 x398 x399 x400 x401 x402 x403 x404 x405 x406 x407 x408 x409 x410 x411 x412 x413 x414 x415 x416 x417 x418 x419 x420 x421 x422 x423 x424 x425 x426 x427 x428 x429 x430 x431 x432 x433 x434 x435 x436 x437 x438 x439 x440 x441 x442 x443 x444 x445 x446 x447 x448 x449 x450 x451 x452 x453 x454 x455 x456 x457 x458 x459 x460 x461 x462 x463 x464 x465 x466 x467 x468 x469 x470 x471 x472 x473 x474 x475 x476 x477 x478 x479 x480 : Value} {Kc : Act → World → Prop} (hKc : ∀ a w1, Code.wp Yba.prog (rgt (cod 86)) (bodyPost Yba.prog Yba.f3 fun e w' => e = .returned (.bool true) ∧ Below w.heap.size w w') a w1 → Kc a w1) :
    Code.wp Yba.prog (lft (cod 86)) (Exit.then Kc (bodyPost Yba.prog Yba.f3 fun e w' => e = .returned (.bool true) ∧ Below w.heap.size w w')) ⟨#[x0, x1, x2, x3, x4, x5, x6, x7, x8, x9, x10, .pointer (some ⟨w.heap.size + 1, 0, none⟩), .slice ad dm.length cd, x13, x14, x15, x16, x17, .slice av dn.length cv, x19, x20, x21, x22, x23, x24, x25, x26, x27, x28, x29, .pointer (some ⟨K0, 0, none⟩), x31, x32, x33, x34, x35, x36, x37, x38, x39, x40, x41, x42, x43, x44, x45, x46, x47, x48, x49, x50, x51, x52, x53, x54, x55, x56, x57, x58, x59, x60, x61, x62, x63, x64, x65, x66, x67, x68, x69, x70, x71, x72, x73, x74, x75, x76, x77, x78, x79, x80, x81, x82, x83, x84, x85, x86, x87, x88, x89, x90, x91, x92, x93, x94, x95, x96, x97, x98, x99, x100, x101, x102, x103, x104, x105, x106, x107, x108, x109, x110, x111, x112, x113, x114, x115, x116, x117, x118, x119, x120, x121, x122, x123, x124, x125, x126, x127, x128, x129, x130, x131, x132, x133, x134, x135, x136, x137, x138, x139, x140, x141, x142, x143, x144, x145, x146, x147, x148, x149, x150, x151, x152, x153, x154, x155, x156, x157, x158, x159, x160, x161, x162, x163, x164, x165, x166, x167, x168, x169, x170, x171, x172, x173, x174, x175, x176, x177, x178, x179, x180, x181, x182, x183, x184, x185, x186, x187, x188, x189, x190, x191, x192, x193, x194, x195, x196, x197, x198, x199, x200, x201, x202, x203, x204, x205, x206, x207, x208, x209, x210, x211, x212, x213, x214, x215, x216, x217, x218, x219, x220, x221, x222, x223, x224, x225, x226, x227, x228, x229, x230, x231, x232, x233, x234, x235, x236, x237, x238, x239, x240, x241, x242, x243, x244, x245, x246, x247, x248, x249, x250, x251, x252, x253, x254, x255, x256, x257, x258, x259, x260, x261, x262, x263, x264, x265, x266, x267, x268, x269, x270, x271, x272, x273, x274, x275, x276, x277, x278, x279, x280, x281, x282, x283, x284, x285, x286, x287, x288, x289, x290, x291, x292, x293, x294, x295, x296, x297, x298, x299, x300, x301, x302, x303, x304, x305, x306, x307, x308, x309, x310, x311, x312, x313, x314, x315, x316, x317, x318, x319, x320, x321, x322, x323, x324, x325, x326, x327, x328, x329, x330, x331, x332, x333, x334, x335, x336, x337, x338, x339, x340, x341, x342, x343, x344, x345, x346, x347, x348, x349, x350, x351, x352, x353, x354, x355, x356, x357, x358, x359, x360, x361, x362, x363, x364, x365, x366, x367, x368, x369, x370, x371, x372, x373, x374, x375, x376, x377, x378, x379, x380, x381, x382, x383, x384, x385, x386, x387, x388, x389, x390, x391, x392, x393, x394, x395, x396, x397, x398, x399, x400, x401, x402, x403, x404, x405, x406, x407, x408, x409, x410, x411, x412, x413, x414, x415, x416, x417, x418, x419, x420, x421, x422, x423, x424, x425, x426, x427, x428, x429, x430, x431, x432, x433, x434, x435, x436, x437, x438, x439, x440, x441, x442, x443, x444, x445, x446, x447, x448, x449, x450, x451, x452, x453, x454, x455, x456, x457, x458, x459, x460, x461, x462, x463, x464, x465, x466, x467, x468, x469, x470, x471, x472, x473, x474, x475, x476, x477, x478, x479, x480], []⟩ wr := by
  conv => arg 2; whnf
  conv at hKc => enter [a, w1, 1, 2]; whnf
  have q0 : wr.cell? ⟨K0, 0, none⟩ = some (.string k.1) := by simp [World.cell?, hbk]
  have q1 : wr.cell? ⟨K0, 1, none⟩ = some (.string k.2.1) := by simp [World.cell?, hbk]
  have q2 : wr.cell? ⟨K0, 2, none⟩ = some (.string k.2.2) := by simp [World.cell?, hbk]
  have hun := L3.unset hN hfk hbk
  unfold kv at hun
  go_wp2_with fail
  refine hun.mono ?_
  rintro e w4 ⟨rfl, F⟩
  clear hun L3 q0 q1 q2 hbk
  go_wp2_with fail
  go_loopw [32, 330] (fun wv iv wr => ∃ s W : Nat, wv = .int .i64 W ∧ iv = .int .i64 s ∧ s ≤ dm.length ∧ W ≤ s ∧ Hid (W = wantM (dm.take s) k) ∧ Fin2 w wr (w.heap.size + 1) K0 k vm (.slice ad dm.length cd) dm va (.slice av dn.length cv) dn) (fun _ iv _ => dm.length - (intOf iv).toNat)
  case atStart => exact ⟨0, 0, rfl, rfl, Nat.zero_le _, Nat.le_refl _, by simp [wantM, Hid], F⟩
  case round =>
    obtain ⟨s, W, rfl, rfl, hsl, hWs, hW, F⟩ := hrel
    by_cases hs2 : s < dm.length
    · --BEGIN10
      obtain ⟨p, hpp⟩ : ∃ p, dm[s]? = some p := ⟨_, List.getElem?_eq_getElem hs2⟩
      have hdl4 := F.dlen
      obtain ⟨gd, cpd, hgd⟩ := F.row.form (by omega)
      simp only [Value.slice.injEq] at hgd
      obtain ⟨rfl, _, rfl⟩ := hgd
      have d0 : wr.cell? ⟨gd, s * 4, none⟩ = some (.string p.1.1) := F.row.cell encH_len rfl hpp (r := 0) (by omega)
      have d1 : wr.cell? ⟨gd, s * 4 + 1, none⟩ = some (.string p.1.2.1) := F.row.cell encH_len rfl hpp (r := 1) (by omega)
      have d2 : wr.cell? ⟨gd, s * 4 + 2, none⟩ = some (.string p.1.2.2) := F.row.cell encH_len rfl hpp (r := 2) (by omega)
      have d3 : wr.cell? ⟨gd, s * 4 + 3, none⟩ = some (.int .i64 p.2) := F.row.cell encH_len rfl hpp (r := 3) (by omega)
      have hbk := F.box
      have q0 : wr.cell? ⟨K0, 0, none⟩ = some (.string k.1) := by simp [World.cell?, hbk]
      have q1 : wr.cell? ⟨K0, 1, none⟩ = some (.string k.2.1) := by simp [World.cell?, hbk]
      have q2 : wr.cell? ⟨K0, 2, none⟩ = some (.string k.2.2) := by simp [World.cell?, hbk]
      have hKl := N2.olt hbk
      have hsi : (s : Int) < (dm.length : Int) := by omega
      have heq := fun w => eql51 p.1 k w
      simp only [kv] at heq
      by_cases hpk : p.1 = k
      · have hdec : decide (p.1 = k) = true := by simpa using hpk
        rw [hdec] at heq
        have HPK : Hid (p.1 = k) := hpk
        clear hpk hdec
        go_wp2_with fail
        go_roundw
        case rel => exact ⟨s + 1, W, rfl, by go_num, by omega, by omega, (by show W = _; rw [wantM_take hpp, if_pos HPK.out]; exact hW.out), F.same ((Kp.refl _ _).alloc _)⟩
        case measure => simp [intOf]; omega
      · have hdec : decide (p.1 = k) = false := by simpa using hpk
        rw [hdec] at heq
        have HPK : Hid (¬ p.1 = k) := hpk
        clear hpk hdec
        go_upto_region 93 with fail
        obtain ⟨w5, hw5⟩ : ∃ w5, w5 = wr.alloc (.cells #[.string p.1.1, .string p.1.2.1, .string p.1.2.2, .int .i64 p.2] 61) := ⟨_, rfl⟩
        obtain ⟨D, hDD⟩ : ∃ D, D = wr.heap.size := ⟨_, rfl⟩
        rw [← hw5, ← hDD]
        have hD : w5.heap[D]? = some (.cells #[.string p.1.1, .string p.1.2.1, .string p.1.2.2, .int .i64 p.2] 61) := by rw [hw5, hDD]; exact Deep.blk_alloc_new _ _
        have F5 : Fin2 w w5 (w.heap.size + 1) K0 k vm (.slice (some ⟨gd, 0, none⟩) dm.length cd) dm va (.slice av dn.length cv) dn := by rw [hw5]; exact F.same ((Kp.refl _ _).alloc _)
        clear hw5 hDD d0 d1 d2 d3 q0 q1 q2 hbk hKl heq F
        have hS : ∀ w', Kp (fun _ => False) w5 w' → (w'.cell? ⟨w.heap.size + 1, 2, none⟩ = some vm ∧ w'.cell? ⟨D, 0, none⟩ = some (.string p.1.1) ∧ w'.cell? ⟨D, 1, none⟩ = some (.string p.1.2.1) ∧ w'.cell? ⟨D, 2, none⟩ = some (.string p.1.2.2) ∧ w'.cell? ⟨D, 3, none⟩ = some (.int .i64 p.2) ∧ (Instr.lookup 38 vm (.agg #[.string p.1.1, .string p.1.2.1, .string p.1.2.2]) true).run Yba.prog w' = .ok (.tuple #[hv p.1 p.2, .bool true]) w') := fun w' hk' => by
          obtain ⟨h1, h2⟩ := F5.look (List.mem_of_getElem? hpp) HPK.out hk'
          have hD' := (hk'.block _ (N2.olt hD) id).trans hD
          exact ⟨h1, by simp [World.cell?, hD'], by simp [World.cell?, hD'], by simp [World.cell?, hD'], by simp [World.cell?, hD'], h2⟩
        simp only [hv] at hS
        have hDl := N2.olt hD
        have hnq := fun w => neq51 p.1 p.1 w
        simp only [kv, decide_true, Bool.not_true] at hnq
        go_region_held3 (fun w' => w'.cell? ⟨w.heap.size + 1, 2, none⟩ = some vm ∧ w'.cell? ⟨D, 0, none⟩ = some (.string p.1.1) ∧ w'.cell? ⟨D, 1, none⟩ = some (.string p.1.2.1) ∧ w'.cell? ⟨D, 2, none⟩ = some (.string p.1.2.2) ∧ w'.cell? ⟨D, 3, none⟩ = some (.int .i64 p.2) ∧ (Instr.lookup 38 vm (.agg #[.string p.1.1, .string p.1.2.1, .string p.1.2.2]) true).run Yba.prog w' = .ok (.tuple #[.agg #[.string p.1.1, .string p.1.2.1, .string p.1.2.2, .slice none 0 0, .int .i64 0, .slice none 0 0, .int .u64 0, .int .u64 0, .int .i64 0, .pointer none, .int .u8 0, .slice none 0 0, .int .i64 p.2], .bool true]) w')
          ((refine hS _ ?_; repeat first | exact Kp.refl _ _ | refine Kp.drew ?_ | refine Kp.alloc ?_ _ | refine Kp.setCell ?_ (.inr (Nat.le_refl _)) _))
          (fail)
        all_goals clear hS
        all_goals go_wp2_with fail
        all_goals skip
        all_goals refine ⟨⟨s + 1, W + 1, by go_num, by go_num, by omega, by omega, (by show W + 1 = _; rw [wantM_take hpp, if_neg HPK.out, ← hW.out]), F5.same (((Kp.refl _ _).alloc _).drew)⟩, by simp [intOf]; omega⟩
      --END10
    · have hsi : ¬ (s : Int) < (dm.length : Int) := by omega
      have HWd : Hid (W = wantM dm k) := by
        have hsd : s = dm.length := by omega
        show W = _
        rw [hW.out, hsd, List.take_length]
      clear hW
      go_upto_region 97 with fail
      go_cut [38] from 37 to 377 (fun bv wc => bv = .bool false ∧ Kp (fun _ => False) wr wc)
      case first =>
        --BEGIN11
        have hS : ∀ w', Kp (fun _ => False) wr w' → _ := fun w' hk' => F.lookK hk'
        simp only [hv] at hS
        go_region_held3 (fun w' => w'.cell? ⟨w.heap.size + 1, 2, none⟩ = some vm ∧ w'.cell? ⟨K0, 0, none⟩ = some (.string k.1) ∧ w'.cell? ⟨K0, 1, none⟩ = some (.string k.2.1) ∧ w'.cell? ⟨K0, 2, none⟩ = some (.string k.2.2) ∧ (Instr.lookup 38 vm (.agg #[.string k.1, .string k.2.1, .string k.2.2]) true).run Yba.prog w' = .ok (.tuple #[.agg #[.string ⟨#[]⟩, .string ⟨#[]⟩, .string ⟨#[]⟩, .slice none 0 0, .int .i64 0, .slice none 0 0, .int .u64 0, .int .u64 0, .int .i64 0, .pointer none, .int .u8 0, .slice none 0 0, .int .i64 0], .bool false]) w')
          ((refine hS _ ?_; repeat first | exact Kp.refl _ _ | refine Kp.drew ?_ | refine Kp.alloc ?_ _ | refine Kp.setCell ?_ (.inr (Nat.le_refl _)) _))
          (fail)
        · clear hS
          go_wp2_with fail
          go_meet
          case rel => exact ⟨rfl, ((Kp.refl _ _).alloc _).drew⟩
        · clear hS
          go_wp2_with fail
          go_meet
          case rel => exact ⟨rfl, ((Kp.refl _ _).alloc _).drew⟩
        --END11
      case rest =>
        obtain ⟨rfl, hkc⟩ := hcut
        have F6 := F.same hkc
        clear F hkc
        have hlen := F6.m.len Yba.underlying38
        rw [← HWd.out] at hlen
        have rm := F6.rb.m
        go_upto_region 102 with fail
        exact t102 hdl6 F6 (by assumption)
end Go.Proofs.Ybulkdlaa

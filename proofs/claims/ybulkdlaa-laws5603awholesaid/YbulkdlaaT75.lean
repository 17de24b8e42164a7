import Derived.Test.YbulkdlaaT86
import Derived.Deep.CutBlock
import Derived.Deep.DeepCutAuto
import Derived.Deep.RegionHeld3
import Derived.Deep.DrawnRows
import Derived.Deep.AppendLies
namespace Go.Proofs.Ybulkdlaa
set_option linter.unusedVariables false
set_option linter.unusedSimpArgs false
open Go.RowKit
attribute [local go_sem ↓] Go.wp_at_zero Go.wp_at_succ

theorem adv_size : adv.size ≤ maxLen := by decide

set_option maxRecDepth 1000000 in
set_option maxHeartbeats 4000000 in
theorem t75 {w wr : World} {a0 : Option Addr} {j b0 o0 : Nat} {hs : Nat → Int} {hn hk : Nat → ByteArray} {a1 : Option Addr} {i b1 o1 : Nat} {an : Nat → ByteArray} {ai : Nat → Bool} {ak : Nat → Option Addr} {al ac kb ko : Nat → Nat} {ks : Nat → Nat → ByteArray} (I : Inp w a0 j b0 o0 hs hn hk a1 i b1 o1 an ai ak al ac kb ko ks) {cp0 cp1 : Nat} (hn0 : j ≤ 4096) (hn1 : i ≤ 4096) {gs : Int} {gn gk : ByteArray} {pick : Int} (hgs : 0 ≤ gs ∧ gs ≤ 255) (hgn : gn.size ≤ maxLen) (hgk : gk.size ≤ maxLen) (hp : 0 ≤ pick ∧ pick ≤ 65535) {vm va : Value} {dm : DM} {dn : DN} {ad av : Option Addr} {cd cv c : Nat} (L : N2 w wr (w.heap.size + 1) w.heap.size #[.int .u8 gs, .string gn, .string gk] vm (.slice ad dm.length cd) dm va (.slice av dn.length cv) dn (4096 * c) (faOf dn) c dn.length none) (hcb : c ≤ 4096) (hdl : dn.length ≤ c) {x2 x4 x5 x7 x8 x9 x10 x13 x14 x15 x16 x17 x19 x20 x21 x22 x23 x24 x25 x26 x27 x28 x29 x30 x31 x32 x33 x34 x35 x36 x37 x38 x39 x40 x41 x42 x43 x44 x45 x46 x47 x48 x49 x50 x51 x52 x53 x54 x55 x56 x57 x58 x59 x60 x61 x62 x63 x64 x65 x66 x67 x68 x69 x70 x71 x72 x73 x74 x75 x76 x77 x78 x79 x80 x81 x82 x83 x84 x85 x86 x87 x88 x89 x90 x91 x92 x93 x94 x95 x96 x97 x98 x99 x100 x101 x102 x103 x104 x105 x106 x107 x108 x109 x110 x111 x112 x113 x114 x115 x116 x117 x118 x119 x120 x121 x122 x123 x124 x125 x126 x127 x128 x129 x130 x131 x132 x133 x134 x135 x136 x137 x138 x139 x140 x141 x142 x143 x144 x145 x146 x147 x148 x149 x150 x151 x152 x153 x154 x155 x156 x157 x158 x159 x160 x161 x162 x163 x164 x165 x166 x167 x168 x169 x170 x171 x172 x173 x174 x175 x176 x177 x178 x179 x180 x181 x182 x183 x184 x185 x186 x187 x188 x189 x190 x191 x192 x193 x194 x195 x196 x197 x198 x199 x200 x201 x202 x203 x204 x205 x206 x207 x208 x209 x210 x211 x212 x213 x214 x215 x216 x217 x218 x219 x220 x221 x222 x223 x224 x225 x226 x227 x228 x229 x230 x231 x232 x233 x234 x235 x236 x237 x238 x239 x240 x241 x242 x243 x244 x245 x246 x247 x248 x249 x250 x251 x252 x253 x254 x255 x256 x257 x258 x259 x260 x261 x262 x263 x264 x265 x266 x267 x268 x269 x270 x271 x272 x273 x274 x275 x276 x277 x278 x279 x280 x281 x282 x283 x284 x285 x286 x287 x288 x289 x290 x291 x292 x293 x294 x295 x296 x297 x298 x299 x300 x301 x302 x303 x304 x305 x306 x307 x308 x309 x310 x311 x312 x313 x314 x315 x316 x317 x318 x319 x320 x321 x322 x323 x324 x325 x326 x327 x328 x329 x330 x331 x332 x333 x334 x335 x336 x337 x338 x339 x340 x341 x342 x343 x344 x345 x346 x347 x348 x349 x350 x351 x352 x353 x354 x355 x356 x357 x358 x359 x360 x361 x362 x363 x364 x365 x366 x367 x368 x369 x370 x371 x372 x373 x374 x375 x376 x377 x378 x379 x380 x381 x382 x383 x384 x385 x386 x387 x388 x389 x390 x391 x392 x393 x394 x395 x396 x397 x398 x399 x400 x401 x402 x403 x404 x405 x406 x407 x408 x409 x410 x411 x412 x413 x414 x415 x416 x417 x418 x419 x420 x421 x422 x423 x424 x425 x426 x427 x428 x429 x430 x431 x432 x433 x434 x435 x436 x437 x438 x439 x440 x441 x442 x443 x444 x445 x446 x447 x448 x449 x450 x451 x452 x453 x454 x455 x456 x457 x458 x459 x460 x461 x462 x463 x464 x465 x466 x467 x468 x469 x470 x471 x472 x473 x474 x475 x476 x477 x478 x479 x480 : Value} {Kc : Act → World → Prop} (hKc : ∀ a w1, Code.wp Yba.prog (rgt (cod 75)) (bodyPost Yba.prog Yba.f3 fun e w' => e = .returned (.bool true) ∧ Below w.heap.size w w') a w1 → Kc a w1) :
    Code.wp Yba.prog (lft (cod 75)) (Exit.then Kc (bodyPost Yba.prog Yba.f3 fun e w' => e = .returned (.bool true) ∧ Below w.heap.size w w')) ⟨#[.slice a0 j cp0, .slice a1 i cp1, x2, .int .u16 pick, x4, x5, .pointer (some ⟨w.heap.size, 0, none⟩), x7, x8, x9, x10, .pointer (some ⟨w.heap.size + 1, 0, none⟩), .slice ad dm.length cd, x13, x14, x15, x16, x17, .slice av dn.length cv, x19, x20, x21, x22, x23, x24, x25, x26, x27, x28, x29, x30, x31, x32, x33, x34, x35, x36, x37, x38, x39, x40, x41, x42, x43, x44, x45, x46, x47, x48, x49, x50, x51, x52, x53, x54, x55, x56, x57, x58, x59, x60, x61, x62, x63, x64, x65, x66, x67, x68, x69, x70, x71, x72, x73, x74, x75, x76, x77, x78, x79, x80, x81, x82, x83, x84, x85, x86, x87, x88, x89, x90, x91, x92, x93, x94, x95, x96, x97, x98, x99, x100, x101, x102, x103, x104, x105, x106, x107, x108, x109, x110, x111, x112, x113, x114, x115, x116, x117, x118, x119, x120, x121, x122, x123, x124, x125, x126, x127, x128, x129, x130, x131, x132, x133, x134, x135, x136, x137, x138, x139, x140, x141, x142, x143, x144, x145, x146, x147, x148, x149, x150, x151, x152, x153, x154, x155, x156, x157, x158, x159, x160, x161, x162, x163, x164, x165, x166, x167, x168, x169, x170, x171, x172, x173, x174, x175, x176, x177, x178, x179, x180, x181, x182, x183, x184, x185, x186, x187, x188, x189, x190, x191, x192, x193, x194, x195, x196, x197, x198, x199, x200, x201, x202, x203, x204, x205, x206, x207, x208, x209, x210, x211, x212, x213, x214, x215, x216, x217, x218, x219, x220, x221, x222, x223, x224, x225, x226, x227, x228, x229, x230, x231, x232, x233, x234, x235, x236, x237, x238, x239, x240, x241, x242, x243, x244, x245, x246, x247, x248, x249, x250, x251, x252, x253, x254, x255, x256, x257, x258, x259, x260, x261, x262, x263, x264, x265, x266, x267, x268, x269, x270, x271, x272, x273, x274, x275, x276, x277, x278, x279, x280, x281, x282, x283, x284, x285, x286, x287, x288, x289, x290, x291, x292, x293, x294, x295, x296, x297, x298, x299, x300, x301, x302, x303, x304, x305, x306, x307, x308, x309, x310, x311, x312, x313, x314, x315, x316, x317, x318, x319, x320, x321, x322, x323, x324, x325, x326, x327, x328, x329, x330, x331, x332, x333, x334, x335, x336, x337, x338, x339, x340, x341, x342, x343, x344, x345, x346, x347, x348, x349, x350, x351, x352, x353, x354, x355, x356, x357, x358, x359, x360, x361, x362, x363, x364, x365, x366, x367, x368, x369, x370, x371, x372, x373, x374, x375, x376, x377, x378, x379, x380, x381, x382, x383, x384, x385, x386, x387, x388, x389, x390, x391, x392, x393, x394, x395, x396, x397, x398, x399, x400, x401, x402, x403, x404, x405, x406, x407, x408, x409, x410, x411, x412, x413, x414, x415, x416, x417, x418, x419, x420, x421, x422, x423, x424, x425, x426, x427, x428, x429, x430, x431, x432, x433, x434, x435, x436, x437, x438, x439, x440, x441, x442, x443, x444, x445, x446, x447, x448, x449, x450, x451, x452, x453, x454, x455, x456, x457, x458, x459, x460, x461, x462, x463, x464, x465, x466, x467, x468, x469, x470, x471, x472, x473, x474, x475, x476, x477, x478, x479, x480], []⟩ wr := by
  conv => arg 2; whnf
  conv at hKc => enter [a, w1, 1, 2]; whnf
  have gbox := L.box
  have g0 : wr.cell? ⟨w.heap.size, 0, none⟩ = some (.int .u8 gs) := by simp [World.cell?, gbox]
  have g1 : wr.cell? ⟨w.heap.size, 1, none⟩ = some (.string gn) := by simp [World.cell?, gbox]
  have g2 : wr.cell? ⟨w.heap.size, 2, none⟩ = some (.string gk) := by simp [World.cell?, gbox]
  go_wp2_with fail
  refine (key_any gs gn gk _ hgs).mono ?_
  rintro e w1 ⟨rfl, hb1⟩
  obtain ⟨x, hx⟩ : ∃ x : RK, x = (spc gs, gn, gk) := ⟨_, rfl⟩
  have hfx : fits x := by rw [hx]; exact ⟨spc_size _, hgn, hgk⟩
  rw [← hx]
  clear hx g0 g1 g2 gbox
  unfold kv
  go_upto_region 76 with fail
  obtain ⟨w2, hw2⟩ : ∃ w2, w2 = w1.alloc (.cells #[.string x.1, .string x.2.1, .string x.2.2] 51) := ⟨_, rfl⟩
  obtain ⟨K0, hK0⟩ : ∃ K0, K0 = w1.heap.size := ⟨_, rfl⟩
  rw [← hw2, ← hK0]
  have hwb : Below wr.heap.size wr w2 := by
    rw [hw2]; exact hb1.alloc hb1.size _
  have hbx : w2.heap[K0]? = some (.cells #[.string x.1, .string x.2.1, .string x.2.2] 51) := by rw [hw2, hK0]; exact Deep.blk_alloc_new _ _
  have hKw : wr.heap.size ≤ K0 := by rw [hK0]; exact hb1.size
  clear hw2 hK0 hb1
  have L2 := L.keep hwb
  have hkp2 : Kp (fun _ => False) wr w2 := Kp.ofBelow hwb
  have hKw2 : w.heap.size ≤ K0 := Nat.le_trans L.below.size hKw
  clear hwb
  go_upto_block 14 with fail
  go_cut [] from 272 to 324 (fun wc => ∃ k : RK, fits k ∧ Kp (fun _ => False) wr wc ∧ wc.heap[K0]? = some (.cells #[.string k.1, .string k.2.1, .string k.2.2] 51))
  case first =>
    --BEGIN9
    have h3 : pick % 3 = 0 ∨ pick % 3 = 1 ∨ pick % 3 = 2 := by omega
    rcases h3 with h3 | h3 | h3
    · go_wp2_with fail
      go_meet
      case rel => exact ⟨x, hfx, hkp2, hbx⟩
    · by_cases hj0 : 0 < j
      · have hj0' : (0 : Int) < (j : Int) := by omega
        obtain ⟨m, hm, hml⟩ := picked pick 3 (by omega) hp j hj0
        simp only [Int.cast_ofNat_Int] at hm
        obtain rfl := I.hA0 hj0
        have hb0 : b0 < w.heap.size := block_lt_of_cell (I.h0 m hml)
        have hb0r : b0 < w2.heap.size := Nat.lt_of_lt_of_le hb0 L2.below.size
        have e0 : w2.cell? ⟨b0, o0 + m * 3, none⟩ = some (.int .u8 (hs m)) := by rw [L2.below.cell hb0]; exact I.h0 m hml
        have e1 : w2.cell? ⟨b0, o0 + m * 3 + 1, none⟩ = some (.string (hn m)) := by rw [L2.below.cell hb0]; exact I.h1 m hml
        have e2 : w2.cell? ⟨b0, o0 + m * 3 + 2, none⟩ = some (.string (hk m)) := by rw [L2.below.cell hb0]; exact I.h2 m hml
        have hmj : (m : Int) < (j : Int) := by omega
        go_wp2_with fail
        refine (key_any (hs m) (hn m) (hk m) _ (I.hsb m)).mono ?_
        rintro e w3 ⟨rfl, hb3⟩
        have L3 := L2.keep hb3
        have hbx3 := (hb3.block _ (N2.olt hbx)).trans hbx
        have hfz : w3.frozen? ⟨K0, 0, none⟩ = false ∧ w3.frozen? ⟨K0, 1, none⟩ = false ∧ w3.frozen? ⟨K0, 2, none⟩ = false := by simp [World.frozen?, hbx3]
        obtain ⟨hf0, hf1, hf2⟩ := hfz
        have q0 : w3.cell? ⟨K0, 0, none⟩ = some (.string x.1) := by simp [World.cell?, hbx3]
        have q1 : w3.cell? ⟨K0, 1, none⟩ = some (.string x.2.1) := by simp [World.cell?, hbx3]
        have q2 : w3.cell? ⟨K0, 2, none⟩ = some (.string x.2.2) := by simp [World.cell?, hbx3]
        obtain ⟨y, hy⟩ : ∃ y : RK, y = (spc (hs m), hn m, hk m) := ⟨_, rfl⟩
        have hfy : fits y := by rw [hy]; exact ⟨spc_size _, I.hnb m hml, I.hkb m hml⟩
        rw [← hy]
        clear hy
        unfold kv
        clear e0 e1 e2
        go_wp2_with fail
        go_meet
        case rel => exact ⟨y, hfy, (((hkp2.trans (Kp.ofBelow hb3)).setCell (.inr hKw) _).setCell (.inr hKw) _).setCell (.inr hKw) _, box3 hbx3 _ _ _⟩
      · have hj0' : ¬ (0 : Int) < (j : Int) := by omega
        go_wp2_with fail
        go_meet
        case rel => exact ⟨x, hfx, hkp2, hbx⟩
    · by_cases hi0 : 0 < i
      · have hi0' : (0 : Int) < (i : Int) := by omega
        obtain ⟨m, hm, hml⟩ := picked pick 3 (by omega) hp i hi0
        simp only [Int.cast_ofNat_Int] at hm
        obtain rfl := I.hA1 hi0
        have hb1 : b1 < w.heap.size := block_lt_of_cell (I.c0 m hml)
        have hb1r : b1 < w2.heap.size := Nat.lt_of_lt_of_le hb1 L2.below.size
        have e0 : w2.cell? ⟨b1, o1 + m * 3, none⟩ = some (.string (an m)) := by rw [L2.below.cell hb1]; exact I.c0 m hml
        have e1 : w2.cell? ⟨b1, o1 + m * 3 + 1, none⟩ = some (.bool (ai m)) := by rw [L2.below.cell hb1]; exact I.c1 m hml
        have e2 : w2.cell? ⟨b1, o1 + m * 3 + 2, none⟩ = some (.slice (ak m) (al m) (ac m)) := by rw [L2.below.cell hb1]; exact I.c2 m hml
        have hmi : (m : Int) < (i : Int) := by omega
        have hGl : w.heap.size < w2.heap.size := N2.olt L2.box
        have hK2 := N2.olt hbx
        have g2 : w2.cell? ⟨w.heap.size, 2, none⟩ = some (.string gk) := by simp [World.cell?, L2.box]
        have hfz : w2.frozen? ⟨K0, 0, none⟩ = false ∧ w2.frozen? ⟨K0, 1, none⟩ = false ∧ w2.frozen? ⟨K0, 2, none⟩ = false := by simp [World.frozen?, hbx]
        obtain ⟨hf0, hf1, hf2⟩ := hfz
        have q0 : w2.cell? ⟨K0, 0, none⟩ = some (.string x.1) := by simp [World.cell?, hbx]
        have q1 : w2.cell? ⟨K0, 1, none⟩ = some (.string x.2.1) := by simp [World.cell?, hbx]
        have q2 : w2.cell? ⟨K0, 2, none⟩ = some (.string x.2.2) := by simp [World.cell?, hbx]
        go_upto_region 84 with fail
        obtain ⟨w3, hw3⟩ : ∃ w3, w3 = (((w2.setCell ⟨K0, 0, none⟩ (.string ⟨#[97, 100, 118, 101, 114, 116, 105, 115, 101, 109, 101, 110, 116]⟩)).setCell ⟨K0, 1, none⟩ (.string (an m))).setCell ⟨K0, 2, none⟩ (.string gk)).alloc (.cells #[.string (an m), .bool (ai m), .slice (ak m) (al m) (ac m)] 29) := ⟨_, rfl⟩
        rw [← hw3]
        have hkp3 : Kp (fun _ => False) wr w3 := by rw [hw3]; exact (((hkp2.setCell (.inr hKw) _).setCell (.inr hKw) _).setCell (.inr hKw) _).alloc _
        have hbx3 : w3.heap[K0]? = some (.cells #[.string adv, .string (an m), .string gk] 51) := by
          rw [hw3, RowKit.Below.heap_alloc _ _ _ (by simpa using hK2)]
          exact box3 hbx _ _ _
        have hX3 : w3.heap[w2.heap.size]? = some (.cells #[.string (an m), .bool (ai m), .slice (ak m) (al m) (ac m)] 29) := by
          rw [hw3]
          have := heap_alloc_new (((w2.setCell ⟨K0, 0, none⟩ (.string ⟨#[97, 100, 118, 101, 114, 116, 105, 115, 101, 109, 101, 110, 116]⟩)).setCell ⟨K0, 1, none⟩ (.string (an m))).setCell ⟨K0, 2, none⟩ (.string gk)) (.cells #[.string (an m), .bool (ai m), .slice (ak m) (al m) (ac m)] 29)
          simpa only [World.size_setCell] using this
        clear hw3 e0 e1 e2 q0 q1 q2 hf0 hf1 hf2 g2
        have e2 : w3.cell? ⟨w2.heap.size, 2, none⟩ = some (.slice (ak m) (al m) (ac m)) := by simp [World.cell?, hX3]
        have hfy : fits (adv, an m, gk) := ⟨adv_size, I.anb m hml, hgk⟩
        by_cases hal0 : 0 < al m
        · have hal0' : (0 : Int) < (al m : Int) := by omega
          obtain ⟨m2, hm2, hml2⟩ := picked pick 7 (by omega) hp (al m) hal0
          simp only [Int.cast_ofNat_Int] at hm2
          have hA2 := I.hA2 m hml hal0
          have hkb : kb m < w.heap.size := block_lt_of_cell (I.k0 m hml m2 hml2)
          have e3 : w3.cell? ⟨kb m, ko m + m2, none⟩ = some (.string (ks m m2)) := by
            rw [(L.same hkp3).below.cell hkb]; exact I.k0 m hml m2 hml2
          have hmi2 : (m2 : Int) < (al m : Int) := by omega
          have hf2 : w3.frozen? ⟨K0, 2, none⟩ = false := by simp [World.frozen?, hbx3]
          have q2 : w3.cell? ⟨K0, 2, none⟩ = some (.string gk) := by simp [World.cell?, hbx3]
          rw [hA2] at e2
          go_wp2_with fail
          refine region_tail 12 (by kernel_rfl) ?_
          simp only [List.take_succ_cons, List.take_zero, List.drop_succ_cons, List.drop_zero]
          have hal1 : (al m : Int) ≠ 0 := by omega
          have hal2 : al m ≠ 0 := by omega
          have hm3 := hm2
          rw [← wrap64_i64] at hm3
          repeat still_step
          refine wpStill_nil ?_
          go_wp2_with fail
          go_meet
          case rel => exact ⟨(adv, an m, ks m m2), ⟨adv_size, I.anb m hml, I.ksb m hml m2 hml2⟩, hkp3.drew.setCell (.inr hKw) _, boxset (w := w3.drew) hbx3 2 _⟩
        · have hal0' : ¬ (0 : Int) < (al m : Int) := by omega
          go_wp2_with fail
          go_meet
          case rel => exact ⟨(adv, an m, gk), hfy, hkp3, hbx3⟩
      · have hi0' : ¬ (0 : Int) < (i : Int) := by omega
        go_wp2_with fail
        go_meet
        case rel => exact ⟨x, hfx, hkp2, hbx⟩
    --END9
  case rest =>
    obtain ⟨k, hfk, hkp, hbk⟩ := hcut
    have L3 := L.same hkp
    clear L L2 hbx hkp2 hkp hfx
    go_upto_region 86 with fail
    exact t86 L3 (by omega) hfk hbk (by omega) (by assumption)
end Go.Proofs.Ybulkdlaa

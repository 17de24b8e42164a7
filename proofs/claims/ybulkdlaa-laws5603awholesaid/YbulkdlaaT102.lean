import Derived.Test.YbulkdlaaCod
import Derived.Deep.CutBlock
import Derived.Deep.DeepCutAuto
import Derived.Deep.RegionHeld3
import Derived.Deep.DrawnRows
import Derived.Deep.AppendLies
namespace Go.Proofs.Ybulkdlaa
set_option linter.unusedVariables false
set_option linter.unusedSimpArgs false
open Go.RowKit
attribute [local go_sem ↓] Go.wp_at_zero Go.wp_at_succ

set_option maxRecDepth 1000000 in
set_option maxHeartbeats 4000000 in
theorem t102 {w wr : World} {K0 : Nat} {k : RK} {vm vdm va : Value} {dm : DM} {dn : DN} {av : Option Addr} {cv : Nat} (hdl6 : dn.length ≤ 4096) (F6 : Fin2 w wr (w.heap.size + 1) K0 k vm vdm dm va (.slice av dn.length cv) dn) {x0 x1 x2 x3 x4 x5 x6 x7 x8 x9 x10 x12 x13 x14 x15 x16 x17 x19 x20 x21 x22 x23 x24 x25 x26 x27 x28 x29 x31 x32 x33 x34 x35 x36 x37 x38 x39 x40 x41 x42 x43 x44 x45 x46 x47 x48 x49 x50 x51 x52 x53 x54 x55 x56 x57 x58 x59 x60 x61 x62 x63 x64 x65 x66 x67 x68 x69 x70 x71 x72 x73 x74 x75 x76 x77 x78 x79 x80 x81 x82 x83 x84 x85 x86 x87 x88 x89 x90 x91 x92 x93 x94 x95 x96 x97 x98 x99 x100 x101 x102 x103 x104 x105 x106 x107 x108 x109 x110 x111 x112 x113 x114 x115 x116 x117 x118 x119 x120 x121 x122 x123 x124 x125 x126 x127 x128 x129 x130 x131 x132 x133 x134 x135 x136 x137 x138 x139 x140 x141 x142 x143 x144 x145 x146 x147 x148 x149 x150 x151 x152 x153 x154 x155 x156 x157 x158 x159 x160 x161 x162 x163 x164 x165 x166 x167 x168 x169 x170 x171 x172 x173 x174 x175 x176 x177 x178 x179 x180 x181 x182 x183 x184 x185 x186 x187 x188 x189 x190 x191 x192 x193 x194 x195 x196 x197 x198 x199 x200 x201 x202 x203 x204 x205 x206 x207 x208 x209 x210 x211 x212 x213 x214 x215 x216 x217 x218 x219 x220 x221 x222 x223 x224 x225 x226 x227 x228 x229 x230 x231 x232 x233 x234 x235 x236 x237 x238 x239 x240 x241 x242 x243 x244 x245 x246 x247 x248 x249 x250 x251 x252 x253 x254 x255 x256 x257 x258 x259 x260 x261 x262 x263 x264 x265 x266 x267 x268 x269 x270 x271 x272 x273 x274 x275 x276 x277 x278 x279 x280 x281 x282 x283 x284 x285 x286 x287 x288 x289 x290 x291 x292 x293 x294 x295 x296 x297 x298 x299 x300 x301 x302 x303 x304 x305 x306 x307 x308 x309 x310 x311 x312 x313 x314 x315 x316 x317 x318 x319 x320 x321 x322 x323 x324 x325 x326 x327 x328 x329 x330 x331 x332 x333 x334 x335 x336 x337 x338 x339 x340 x341 x342 x343 x344 x345 x346 x347 x348 x349 x350 x351 x352 x353 x354 x355 x356 x357 x358 x359 x360 x361 x362 x363 x364 x365 x366 x367 x368 x369 x370 x371 x372 x373 x374 x375 x376 x377 x378 x379 x380 x381 x382 x383 x384 x385 x386 x387 x388 x389 x390 x391 x392 x393 x394 x395 x396 x397 x398 x399 x400 x401 x402 x403 x404 x405 x406 x407 x408 x409 x410 x411 x412 x413 x414 x415 x416 x417 x418 x419 x420 x421 x422 x423 x424 x425 x426 x427 x428 x429 x430 x431 x432 x433 x434 x435 x436 x437 x438 x439 x440 x441 x442 x443 x444 x445 x446 x447 x448 x449 x450 x451 x452 x453 x454 x455 x456 x457 x458 x459 x460 x461 x462 x463 x464 x465 x466 x467 x468 x469 x470 x471 x472 x473 x474 x475 x476 x477 x478 x479 x480 : Value} {Kc : Act → World → Prop} (hKc : ∀ a w1, Code.wp Yba.prog (rgt (cod 102)) (bodyPost Yba.prog Yba.f3 fun e w' => e = .returned (.bool true) ∧ Below w.heap.size w w') a w1 → Kc a w1) :
    Code.wp Yba.prog (lft (cod 102)) (Exit.then Kc (bodyPost Yba.prog Yba.f3 fun e w' => e = .returned (.bool true) ∧ Below w.heap.size w w')) ⟨#[x0, x1, x2, x3, x4, x5, x6, x7, x8, x9, x10, .pointer (some ⟨w.heap.size + 1, 0, none⟩), x12, x13, x14, x15, x16, x17, .slice av dn.length cv, x19, x20, x21, x22, x23, x24, x25, x26, x27, x28, x29, .pointer (some ⟨K0, 0, none⟩), x31, x32, x33, x34, x35, x36, x37, x38, x39, x40, x41, x42, x43, x44, x45, x46, x47, x48, x49, x50, x51, x52, x53, x54, x55, x56, x57, x58, x59, x60, x61, x62, x63, x64, x65, x66, x67, x68, x69, x70, x71, x72, x73, x74, x75, x76, x77, x78, x79, x80, x81, x82, x83, x84, x85, x86, x87, x88, x89, x90, x91, x92, x93, x94, x95, x96, x97, x98, x99, x100, x101, x102, x103, x104, x105, x106, x107, x108, x109, x110, x111, x112, x113, x114, x115, x116, x117, x118, x119, x120, x121, x122, x123, x124, x125, x126, x127, x128, x129, x130, x131, x132, x133, x134, x135, x136, x137, x138, x139, x140, x141, x142, x143, x144, x145, x146, x147, x148, x149, x150, x151, x152, x153, x154, x155, x156, x157, x158, x159, x160, x161, x162, x163, x164, x165, x166, x167, x168, x169, x170, x171, x172, x173, x174, x175, x176, x177, x178, x179, x180, x181, x182, x183, x184, x185, x186, x187, x188, x189, x190, x191, x192, x193, x194, x195, x196, x197, x198, x199, x200, x201, x202, x203, x204, x205, x206, x207, x208, x209, x210, x211, x212, x213, x214, x215, x216, x217, x218, x219, x220, x221, x222, x223, x224, x225, x226, x227, x228, x229, x230, x231, x232, x233, x234, x235, x236, x237, x238, x239, x240, x241, x242, x243, x244, x245, x246, x247, x248, x249, x250, x251, x252, x253, x254, x255, x256, x257, x258, x259, x260, x261, x262, x263, x264, x265, x266, x267, x268, x269, x270, x271, x272, x273, x274, x275, x276, x277, x278, x279, x280, x281, x282, x283, x284, x285, x286, x287, x288, x289, x290, x291, x292, x293, x294, x295, x296, x297, x298, x299, x300, x301, x302, x303, x304, x305, x306, x307, x308, x309, x310, x311, x312, x313, x314, x315, x316, x317, x318, x319, x320, x321, x322, x323, x324, x325, x326, x327, x328, x329, x330, x331, x332, x333, x334, x335, x336, x337, x338, x339, x340, x341, x342, x343, x344, x345, x346, x347, x348, x349, x350, x351, x352, x353, x354, x355, x356, x357, x358, x359, x360, x361, x362, x363, x364, x365, x366, x367, x368, x369, x370, x371, x372, x373, x374, x375, x376, x377, x378, x379, x380, x381, x382, x383, x384, x385, x386, x387, x388, x389, x390, x391, x392, x393, x394, x395, x396, x397, x398, x399, x400, x401, x402, x403, x404, x405, x406, x407, x408, x409, x410, x411, x412, x413, x414, x415, x416, x417, x418, x419, x420, x421, x422, x423, x424, x425, x426, x427, x428, x429, x430, x431, x432, x433, x434, x435, x436, x437, x438, x439, x440, x441, x442, x443, x444, x445, x446, x447, x448, x449, x450, x451, x452, x453, x454, x455, x456, x457, x458, x459, x460, x461, x462, x463, x464, x465, x466, x467, x468, x469, x470, x471, x472, x473, x474, x475, x476, x477, x478, x479, x480], []⟩ wr := by
  conv => arg 2; whnf
  conv at hKc => enter [a, w1, 1, 2]; whnf
  go_wp2_with fail
  go_loopw [32, 387] (fun wv iv wr => ∃ s W : Nat, wv = .int .i64 W ∧ iv = .int .i64 s ∧ s ≤ dn.length ∧ W ≤ s ∧ Hid (W = wantN k (dn.take s)) ∧ Fin2 w wr (w.heap.size + 1) K0 k vm vdm dm va (.slice av dn.length cv) dn) (fun _ iv _ => dn.length - (intOf iv).toNat)
  case atStart => exact ⟨0, 0, rfl, rfl, Nat.zero_le _, Nat.le_refl _, by simp [wantN, Hid], F6⟩
  case round =>
    clear F6
    obtain ⟨s, W, rfl, rfl, hsl, hWs, hW, F⟩ := hrel
    by_cases hs2 : s < dn.length
    · obtain ⟨e, het⟩ : ∃ e, dn[s]? = some e := ⟨_, List.getElem?_eq_getElem hs2⟩
      have hem : e ∈ dn := List.mem_of_getElem? het
      obtain ⟨gd, cpd, hgd⟩ := F.nrow.form (by omega)
      simp only [Value.slice.injEq] at hgd
      obtain ⟨rfl, _, rfl⟩ := hgd
      obtain ⟨r0, r1, r2⟩ := cell_ne F.nrow het
      have hsi : (s : Int) < (dn.length : Int) := by omega
      obtain ⟨asv, csv, hsv⟩ := (F.ent e hem).1.slice
      rw [hsv] at r2
      go_upto_region 107 with fail
      obtain ⟨w5, hw5⟩ : ∃ w5, w5 = wr.alloc (.cells #[.string e.ns, .bool e.nil, .slice asv e.keys.length csv] 65) := ⟨_, rfl⟩
      obtain ⟨E, hEE⟩ : ∃ E, E = wr.heap.size := ⟨_, rfl⟩
      rw [← hw5, ← hEE]
      have hE : w5.heap[E]? = some (.cells #[.string e.ns, .bool e.nil, .slice asv e.keys.length csv] 65) := by rw [hw5, hEE]; exact Deep.blk_alloc_new _ _
      have F5 : Fin2 w w5 (w.heap.size + 1) K0 k vm vdm dm va (.slice (some ⟨gd, 0, none⟩) dn.length cv) dn := by rw [hw5]; exact F.same ((Kp.refl _ _).alloc _)
      clear hw5 hEE r0 r1 r2 F
      have r0 : w5.cell? ⟨E, 0, none⟩ = some (.string e.ns) := by simp [World.cell?, hE]
      have r1 : w5.cell? ⟨E, 1, none⟩ = some (.bool e.nil) := by simp [World.cell?, hE]
      have hbk := F5.box
      have q0 : w5.cell? ⟨K0, 0, none⟩ = some (.string k.1) := by simp [World.cell?, hbk]
      have q1 : w5.cell? ⟨K0, 1, none⟩ = some (.string k.2.1) := by simp [World.cell?, hbk]
      have q2 : w5.cell? ⟨K0, 2, none⟩ = some (.string k.2.2) := by simp [World.cell?, hbk]
      have hkl6 := F5.klen e hem
      go_cut [407] from 393 to 406 (fun bv wc => wc = w5 ∧ bv = .bool (hits k e))
      case first =>
        --BEGIN12
        have a1 := adv_dec k.1
        have a2 := str_dec e.ns k.2.1
        by_cases c1 : k.1 = adv
        · rw [decide_eq_true c1] at a1
          by_cases c2 : e.ns = k.2.1
          · rw [decide_eq_true c2] at a2
            by_cases hnn : e.nil = false
            · have hh : hits k e = true := hits_iff.2 ⟨c1, c2, hnn⟩
              rw [hnn] at r1
              clear hnn
              have HH : Hid (hits k e = true) := hh
              clear c1 c2 hh
              go_wp2_with fail
              go_meet
              case rel => exact ⟨rfl, by rw [HH.out]⟩
            · have hnn : e.nil = true := by simpa using hnn
              have hh : hits k e = false := by unfold hits; rw [hnn]; simp
              rw [hnn] at r1
              clear hnn
              have HH : Hid (hits k e = false) := hh
              clear c1 c2 hh
              go_wp2_with fail
              go_meet
              case rel => exact ⟨rfl, by rw [HH.out]⟩
          · rw [decide_eq_false c2] at a2
            have HH : Hid (hits k e = false) := by show hits k e = false; unfold hits; rw [decide_eq_false c2]; simp
            clear c1 c2
            go_wp2_with fail
            go_meet
            case rel => exact ⟨rfl, by rw [HH.out]⟩
        · rw [decide_eq_false c1] at a1
          have HH : Hid (hits k e = false) := by show hits k e = false; unfold hits; rw [decide_eq_false c1]; simp
          clear c1
          go_wp2_with fail
          go_meet
          case rel => exact ⟨rfl, by rw [HH.out]⟩
        --END12
      case rest =>
        obtain ⟨hwc, rfl⟩ := hcut
        rw [hwc]
        clear hwc
        go_upto_if 407 with fail
        go_cut [41, 42, 44] from 407 to 425 (fun rv _ _ wc => Kp (fun _ => False) w5 wc ∧ Hid (gone k e = false) ∧ OR encK 3 wc 51 rv (restOf k e))
        case first =>
          --BEGIN13
          have hrow5 : OR encK 3 w5 51 (.slice asv e.keys.length csv) e.keys := by rw [← hsv]; exact (F5.ent e hem).1
          cases hh : hits k e with
          | false =>
            have hg : Hid (gone k e = false) := by show gone k e = false; unfold gone; rw [hh]; rfl
            have hr : Hid (restOf k e = e.keys) := by show restOf k e = e.keys; unfold restOf; rw [hh]; rfl
            clear hh
            go_wp2_with fail
            go_meet
            case rel => exact ⟨Kp.refl _ _, hg, by rw [hr.out]; exact hrow5⟩
          | true =>
            have HH : Hid (hits k e = true) := hh
            clear hh
            go_wp2_with fail
            go_loopw [42, 410] (fun rv iv wr => ∃ z : Nat, iv = .int .i64 z ∧ z ≤ e.keys.length ∧ Kp (fun _ => False) w5 wr ∧ OR encK 3 wr 51 rv ((e.keys.take z).filter (fun q => decide (q ≠ k))) ∧ (∀ g, rv.ownBlock = some g → w5.heap.size ≤ g)) (fun _ iv _ => e.keys.length - (intOf iv).toNat)
            case atStart => exact ⟨0, rfl, Nat.zero_le _, Kp.refl _ _, OR.nil _ _, fun g h => by simp [Value.ownBlock] at h⟩
            case round =>
              obtain ⟨z, rfl, hz, hk, hrow, hnew⟩ := hrel
              have hbk4 := (hk.block _ (N2.olt hbk) id).trans hbk
              have hrow4 : OR encK 3 wr 51 (.slice asv e.keys.length csv) e.keys := hrow5.block (fun y hy => hk.block _ (hrow5.lt hy) id)
              have hfl : ((e.keys.take z).filter (fun q => decide (q ≠ k))).length ≤ 16777216 := by
                refine Nat.le_trans (List.length_filter_le _ _) ?_
                rw [List.length_take]; omega
              obtain ⟨arv, crv, hrv⟩ := hrow.slice
              subst hrv
              by_cases hzl : z < e.keys.length
              · obtain ⟨q, hq⟩ : ∃ q, e.keys[z]? = some q := ⟨_, List.getElem?_eq_getElem hzl⟩
                obtain ⟨gk2, capk, hgk2⟩ := hrow4.form (by omega)
                simp only [Value.slice.injEq] at hgk2
                obtain ⟨rfl, _, rfl⟩ := hgk2
                have y0 : wr.cell? ⟨gk2, z * 3, none⟩ = some (.string q.1) := hrow4.cell encK_len rfl hq (r := 0) (by omega)
                have y1 : wr.cell? ⟨gk2, z * 3 + 1, none⟩ = some (.string q.2.1) := hrow4.cell encK_len rfl hq (r := 1) (by omega)
                have y2 : wr.cell? ⟨gk2, z * 3 + 2, none⟩ = some (.string q.2.2) := hrow4.cell encK_len rfl hq (r := 2) (by omega)
                have v0 : wr.cell? ⟨K0, 0, none⟩ = some (.string k.1) := by simp [World.cell?, hbk4]
                have v1 : wr.cell? ⟨K0, 1, none⟩ = some (.string k.2.1) := by simp [World.cell?, hbk4]
                have v2 : wr.cell? ⟨K0, 2, none⟩ = some (.string k.2.2) := by simp [World.cell?, hbk4]
                have hKlr := N2.olt hbk4
                have hzi : (z : Int) < (e.keys.length : Int) := by omega
                have heq := fun w => neq51 q k w
                simp only [kv] at heq
                have htk : (e.keys.take (z + 1)).filter (fun q => decide (q ≠ k)) = (e.keys.take z).filter (fun q => decide (q ≠ k)) ++ [q].filter (fun q => decide (q ≠ k)) := by
                  rw [List.take_add_one, hq, List.filter_append]; rfl
                by_cases hqk : q = k
                · have hdec : (!decide (q = k)) = false := by simpa using hqk
                  rw [hdec] at heq
                  have htk2 : Hid ((e.keys.take (z + 1)).filter (fun q => decide (q ≠ k)) = (e.keys.take z).filter (fun q => decide (q ≠ k))) := by
                    show _ = _
                    rw [htk, List.filter_cons_of_neg (by simp [hqk])]; simp
                  clear hqk hdec htk
                  go_wp2_with fail
                  go_roundw
                  case rel => exact ⟨z + 1, by go_num, by omega, hk.alloc _, by rw [htk2.out]; exact hrow.block (fun y hy => RowKit.Below.heap_alloc _ _ _ (hrow.lt hy)), hnew⟩
                  case measure => simp [intOf]; omega
                · have hdec : (!decide (q = k)) = true := by simpa using hqk
                  rw [hdec] at heq
                  have htk2 : Hid ((e.keys.take (z + 1)).filter (fun q => decide (q ≠ k)) = (e.keys.take z).filter (fun q => decide (q ≠ k)) ++ [q]) := by
                    show _ = _
                    rw [htk, List.filter_cons_of_pos (by simpa using hqk)]; simp
                  clear hqk hdec htk
                  go_upto_region 113 with fail
                  obtain ⟨wq, hwq⟩ : ∃ wq, wq = wr.alloc (.cells #[.string q.1, .string q.2.1, .string q.2.2] 51) := ⟨_, rfl⟩
                  obtain ⟨Bq, hBq⟩ : ∃ Bq, Bq = wr.heap.size := ⟨_, rfl⟩
                  rw [← hwq, ← hBq]
                  have hbq : wq.heap[Bq]? = some (.cells #[.string q.1, .string q.2.1, .string q.2.2] 51) := by rw [hwq, hBq]; exact Deep.blk_alloc_new _ _
                  have hkq : Kp (fun _ => False) w5 wq := by rw [hwq]; exact hk.alloc _
                  have hrowq : OR encK 3 wq 51 (.slice arv ((e.keys.take z).filter (fun q => decide (q ≠ k))).length crv) ((e.keys.take z).filter (fun q => decide (q ≠ k))) := by rw [hwq]; exact hrow.block (fun y hy => RowKit.Below.heap_alloc _ _ _ (hrow.lt hy))
                  clear hwq hBq y0 y1 y2 v0 v1 v2 hKlr heq hrow hrow4 hbk4
                  generalize (e.keys.take z).filter (fun q => decide (q ≠ k)) = fl at *
                  have y0 : wq.cell? ⟨Bq, 0, none⟩ = some (.string q.1) := by simp [World.cell?, hbq]
                  have y1 : wq.cell? ⟨Bq, 1, none⟩ = some (.string q.2.1) := by simp [World.cell?, hbq]
                  have y2 : wq.cell? ⟨Bq, 2, none⟩ = some (.string q.2.2) := by simp [World.cell?, hbq]
                  obtain ⟨i0, hii, hz0, hz1, hz2⟩ := info_parts info51
                  go_wp2_with (at_builtin; refine wpList_append_own_at _ rfl _ _ 63 rfl 0 51 i0 _ 3 48 Yba.underlying63 hii hz0 hz1 hz2 rfl (by decide) _ _ _ rfl (World.ownsRow.alloc hrowq _) ⟨wq.heap.size, 0, none⟩ 1 1 (encK q) rfl rfl ?q1 ?q2 ?q3 ?q4 ?q5 ?q6)
                  case q1 => exact cell_new wq (encK q) 51
                  case q2 => intro u hu; simp [encK] at hu; rcases hu with rfl | rfl | rfl <;> rfl
                  case q3 => unfold maxLen; omega
                  case q4 => omega
                  case q5 => omega
                  intro v' w' hown hgrow hnil hloc
                  have hk1 : Kp (fun b => (Value.slice arv fl.length crv).ownBlock = some b) w5 w' := (hkq.wider (fun _ _ h => h.elim)).trans (kp_grown hgrow)
                  have hk2 : Kp (fun _ => False) w5 w' := hk1.wider (fun b hb h => by have := hnew b h; omega)
                  have hsn := OR.snoc hown
                  have hnew2 : ∀ g, v'.ownBlock = some g → w5.heap.size ≤ g := fun g hg => by
                    rcases hloc with h | h
                    · exact hnew g (by rw [← h]; exact hg)
                    · rw [h] at hg; simp at hg; have := hkq.size; omega
                  obtain ⟨a', c', hv'⟩ := hsn.slice
                  have hll : (fl ++ [q]).length = fl.length + 1 := by simp
                  rw [hll] at hv'
                  subst hv'
                  clear hown hgrow hnil hloc hk1
                  go_wp2_with fail
                  go_roundw
                  case rel => exact ⟨z + 1, by go_num, by omega, hk2, by rw [htk2.out]; exact hsn, hnew2⟩
                  case measure => simp [intOf]; omega
              · have hzl' : ¬ (z : Int) < (e.keys.length : Int) := by omega
                have hrest : (e.keys.take z).filter (fun q => decide (q ≠ k)) = restOf k e := by
                  unfold restOf
                  rw [if_pos HH.out, List.take_of_length_le (by omega)]
                rw [hrest] at hrow hfl ⊢
                by_cases hr0 : (restOf k e).length = 0
                · have hr0' : ((restOf k e).length : Int) = 0 := by omega
                  have hg : Hid (gone k e = true) := by
                    show gone k e = true
                    unfold gone
                    rw [HH.out, List.length_eq_zero_iff.1 hr0]; rfl
                  have F8 := F5.same hk
                  go_wp2_with fail
                  refine ⟨⟨s + 1, W, rfl, by go_num, by omega, by omega, (by show W = _; rw [wantN_take het, if_pos hg.out]; exact hW.out), F8⟩, by simp [intOf]; omega⟩
                · have hr0' : ¬ ((restOf k e).length : Int) = 0 := by omega
                  have hg : Hid (gone k e = false) := by
                    show gone k e = false
                    unfold gone
                    rw [HH.out]
                    cases hre : restOf k e with
                    | nil => rw [hre] at hr0; simp at hr0
                    | cons a l => rfl
                  go_wp2_with fail
                  go_meet
                  case rel => exact ⟨hk, hg, hrow⟩
          --END13
        case rest =>
          --BEGIN14
          obtain ⟨hkc, hgn, hrow⟩ := hcut
          have F7 := F5.same hkc
          have hE7 := (hkc.block _ (N2.olt hE) id).trans hE
          clear F5 hE r0 r1 q0 q1 q2 hbk
          have r0 : wc.cell? ⟨E, 0, none⟩ = some (.string e.ns) := by simp [World.cell?, hE7]
          have r1 : wc.cell? ⟨E, 1, none⟩ = some (.bool e.nil) := by simp [World.cell?, hE7]
          obtain ⟨arv, crv, hrv⟩ := hrow.slice
          subst hrv
          obtain ⟨na, fa, hma, hfa⟩ := F7.a
          have hfe := hfa e hem hgn.out
          have hl := (hma.block (w' := wc.drew) (fun _ _ => rfl)).look keyed9 Yba.underlying39 (zero66 _) (key_of9 e.ns (F7.nfit e hem))
          rw [hfe] at hl
          simp only [Option.getD_some, Option.isSome_some] at hl
          have ra := F7.rb.a
          obtain ⟨_, hfit, hnil, hmo⟩ := F7.ent e hem
          obtain ⟨n, hmo⟩ := hmo hgn.out
          rw [hnil] at r1
          clear hma hfa hfe
          go_upto_region 118 with fail
          refine region_still (by kernel_rfl) ?_
          repeat still_step
          refine wpStill_nil ?_
          have hq66 := fun (w : World) (r : Option Nat) => run_eql_map_nil (P := Yba.prog) w _ _ _ r Yba.underlying66
          have hmo2 := hmo.block (w' := wc.drew) (fun _ _ => rfl)
          have hlen := hmo2.len Yba.underlying66
          have F8 : Fin2 w wc.drew (w.heap.size + 1) K0 k vm vdm dm va (.slice (some ⟨gd, 0, none⟩) dn.length cv) dn := F7.same ((Kp.refl _ _).drew)
          have hrow8 : OR encK 3 wc.drew 51 (.slice arv (restOf k e).length crv) (restOf k e) := hrow.block (fun _ _ => rfl)
          have r18 : wc.drew.cell? ⟨E, 1, none⟩ = some (.bool e.im.isNone) := r1
          have hrl : (restOf k e).length ≤ 16777216 := by
            have h1 : (restOf k e).length ≤ e.keys.length := by
              unfold restOf
              split
              · exact List.length_filter_le _ _
              · exact Nat.le_refl _
            omega
          have hfr : ∀ q, q ∈ restOf k e → fits q := fun q hq => hfit q (by
            unfold restOf at hq
            split at hq
            · exact (List.mem_filter.1 hq).1
            · exact hq)
          clear hl r0 r1 ra F7 hrow hmo hE7
          generalize wc.drew = w8 at *
          go_wp2_with fail
          clear hlen r18
          go_loopw [452] (fun iv wr => ∃ z : Nat, iv = .int .i64 z ∧ z ≤ (restOf k e).length ∧ Kp (fun _ => False) w8 wr) (fun iv _ => (restOf k e).length - (intOf iv).toNat)
          case atStart => exact ⟨0, rfl, Nat.zero_le _, Kp.refl _ _⟩
          case round =>
            obtain ⟨z, rfl, hz, hk⟩ := hrel
            by_cases hzl : z < (restOf k e).length
            · obtain ⟨q, hq⟩ : ∃ q, (restOf k e)[z]? = some q := ⟨_, List.getElem?_eq_getElem hzl⟩
              have hqm := List.mem_of_getElem? hq
              have hrow9 := hrow8.block (w' := wr) (fun y hy => hk.block _ (hrow8.lt hy) id)
              obtain ⟨gk2, capk, hgk2⟩ := hrow9.form (by omega)
              simp only [Value.slice.injEq] at hgk2
              obtain ⟨rfl, _, rfl⟩ := hgk2
              have y0 : wr.cell? ⟨gk2, z * 3, none⟩ = some (.string q.1) := hrow9.cell encK_len rfl hq (r := 0) (by omega)
              have y1 : wr.cell? ⟨gk2, z * 3 + 1, none⟩ = some (.string q.2.1) := hrow9.cell encK_len rfl hq (r := 1) (by omega)
              have y2 : wr.cell? ⟨gk2, z * 3 + 2, none⟩ = some (.string q.2.2) := hrow9.cell encK_len rfl hq (r := 2) (by omega)
              have hzi : (z : Int) < ((restOf k e).length : Int) := by omega
              obtain ⟨kl, hkl⟩ := key_of51 q (hfr q hqm)
              have hk9 := hk.alloc (.cells #[.string q.1, .string q.2.1, .string q.2.2] 51)
              have hlk := (hmo2.block (w' := wr.alloc (.cells #[.string q.1, .string q.2.1, .string q.2.2] 51)) (fun b hb => hk9.block _ (hmo2.lt hb) id)).look1 keyed51 Yba.underlying66 (zero4 _) hkl
              rw [fsOf_mem hqm] at hlk
              simp only [kv, Option.getD_some] at hlk
              go_wp2_with fail
              go_roundw
              case rel => exact ⟨z + 1, by go_num, by omega, hk9⟩
              case measure => simp [intOf]; omega
            · have hzl' : ¬ (z : Int) < ((restOf k e).length : Int) := by omega
              have F9 := F8.same hk
              go_wp2_with fail
              refine ⟨⟨s + 1, W + 1, by go_num, by go_num, by omega, by omega, (by show W + 1 = _; rw [wantN_take het, if_neg (by rw [hgn.out]; simp), ← hW.out]), F9⟩, by simp [intOf]; omega⟩
          --END14
    · have hsi : ¬ (s : Int) < (dn.length : Int) := by omega
      have HWd : Hid (W = wantN k dn) := by
        have hsd : s = dn.length := by omega
        show W = _
        rw [hW.out, hsd, List.take_length]
      clear hW
      obtain ⟨na, fa, hma, _⟩ := F.a
      have hlen := hma.len Yba.underlying39
      rw [← HWd.out] at hlen
      have ra := F.rb.a
      have rt0 := F.rb.t0
      have rt1 := F.rb.t1
      have rt2 := F.rb.t2
      have rs := F.rb.s
      go_wp2_with fail
      refine (isZero_any _).mono ?_
      rintro e w7 ⟨rfl, hb7⟩
      have rs7 : w7.cell? ⟨w.heap.size + 1, 7, none⟩ = some .nilIface := by rw [hb7.cell F.rb.lt]; exact rs
      go_wp2_with fail
      go_ret
      exact ⟨rfl, F.below.trans (hb7.mono F.below.size)⟩
end Go.Proofs.Ybulkdlaa

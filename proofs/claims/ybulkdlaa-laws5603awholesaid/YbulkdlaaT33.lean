import Derived.Test.YbulkdlaaT75
import Derived.Deep.CutBlock
import Derived.Deep.DeepCutAuto
import Derived.Deep.RegionHeld3
import Derived.Deep.DrawnRows
import Derived.Deep.AppendLies
namespace Go.Proofs.Ybulkdlaa
set_option linter.unusedVariables false
set_option linter.unusedSimpArgs false
open Go.RowKit
attribute [local go_sem ↓] Go.wp_at_zero Go.wp_at_succ

set_option maxRecDepth 1000000 in
set_option maxHeartbeats 4000000 in
theorem t33 {w wr : World} {a0 : Option Addr} {j b0 o0 : Nat} {hs : Nat → Int} {hn hk : Nat → ByteArray} {a1 : Option Addr} {i b1 o1 : Nat} {an : Nat → ByteArray} {ai : Nat → Bool} {ak : Nat → Option Addr} {al ac kb ko : Nat → Nat} {ks : Nat → Nat → ByteArray} (I : Inp w a0 j b0 o0 hs hn hk a1 i b1 o1 an ai ak al ac kb ko ks) {cp0 cp1 : Nat} (hn0 : j ≤ 4096) (hn1 : i ≤ 4096) {gs : Int} {gn gk : ByteArray} {pick : Int} (hgs : 0 ≤ gs ∧ gs ≤ 255) (hgn : gn.size ≤ maxLen) (hgk : gk.size ≤ maxLen) (hp : 0 ≤ pick ∧ pick ≤ 65535) (hal : Hid (∀ j, j < i → al j ≤ 4096)) {vm : Value} {dm : DM} {ad : Option Addr} {cd : Nat} (L : L1 w wr (w.heap.size + 1) w.heap.size #[.int .u8 gs, .string gn, .string gk] vm (.slice ad dm.length cd) dm j) {x2 x4 x5 x7 x8 x9 x10 x13 x14 x15 x16 x17 x18 x19 x20 x21 x22 x23 x24 x25 x26 x27 x28 x29 x30 x31 x32 x33 x34 x35 x36 x37 x38 x39 x40 x41 x42 x43 x44 x45 x46 x47 x48 x49 x50 x51 x52 x53 x54 x55 x56 x57 x58 x59 x60 x61 x62 x63 x64 x65 x66 x67 x68 x69 x70 x71 x72 x73 x74 x75 x76 x77 x78 x79 x80 x81 x82 x83 x84 x85 x86 x87 x88 x89 x90 x91 x92 x93 x94 x95 x96 x97 x98 x99 x100 x101 x102 x103 x104 x105 x106 x107 x108 x109 x110 x111 x112 x113 x114 x115 x116 x117 x118 x119 x120 x121 x122 x123 x124 x125 x126 x127 x128 x129 x130 x131 x132 x133 x134 x135 x136 x137 x138 x139 x140 x141 x142 x143 x144 x145 x146 x147 x148 x149 x150 x151 x152 x153 x154 x155 x156 x157 x158 x159 x160 x161 x162 x163 x164 x165 x166 x167 x168 x169 x170 x171 x172 x173 x174 x175 x176 x177 x178 x179 x180 x181 x182 x183 x184 x185 x186 x187 x188 x189 x190 x191 x192 x193 x194 x195 x196 x197 x198 x199 x200 x201 x202 x203 x204 x205 x206 x207 x208 x209 x210 x211 x212 x213 x214 x215 x216 x217 x218 x219 x220 x221 x222 x223 x224 x225 x226 x227 x228 x229 x230 x231 x232 x233 x234 x235 x236 x237 x238 x239 x240 x241 x242 x243 x244 x245 x246 x247 x248 x249 x250 x251 x252 x253 x254 x255 x256 x257 x258 x259 x260 x261 x262 x263 x264 x265 x266 x267 x268 x269 x270 x271 x272 x273 x274 x275 x276 x277 x278 x279 x280 x281 x282 x283 x284 x285 x286 x287 x288 x289 x290 x291 x292 x293 x294 x295 x296 x297 x298 x299 x300 x301 x302 x303 x304 x305 x306 x307 x308 x309 x310 x311 x312 x313 x314 x315 x316 x317 x318 x319 x320 x321 x322 x323 x324 x325 x326 x327 x328 x329 x330 x331 x332 x333 x334 x335 x336 x337 x338 x339 x340 x341 x342 x343 x344 x345 x346 x347 x348 x349 x350 x351 x352 x353 x354 x355 x356 x357 x358 x359 x360 x361 x362 x363 x364 x365 x366 x367 x368 x369 x370 x371 x372 x373 x374 x375 x376 x377 x378 x379 x380 x381 x382 x383 x384 x385 x386 x387 x388 x389 x390 x391 x392 x393 x394 x395 x396 x397 x398 x399 x400 x401 x402 x403 x404 x405 x406 x407 x408 x409 x410 x411 x412 x413 x414 x415 x416 x417 x418 x419 x420 x421 x422 x423 x424 x425 x426 x427 x428 x429 x430 x431 x432 x433 x434 x435 x436 x437 x438 x439 x440 x441 x442 x443 x444 x445 x446 x447 x448 x449 x450 x451 x452 x453 x454 x455 x456 x457 x458 x459 x460 x461 x462 x463 x464 x465 x466 x467 x468 x469 x470 x471 x472 x473 x474 x475 x476 x477 x478 x479 x480 : Value} {Kc : Act → World → Prop} (hKc : ∀ a w1, Code.wp Yba.prog (rgt (cod 33)) (bodyPost Yba.prog Yba.f3 fun e w' => e = .returned (.bool true) ∧ Below w.heap.size w w') a w1 → Kc a w1) :
    Code.wp Yba.prog (lft (cod 33)) (Exit.then Kc (bodyPost Yba.prog Yba.f3 fun e w' => e = .returned (.bool true) ∧ Below w.heap.size w w')) ⟨#[.slice a0 j cp0, .slice a1 i cp1, x2, .int .u16 pick, x4, x5, .pointer (some ⟨w.heap.size, 0, none⟩), x7, x8, x9, x10, .pointer (some ⟨w.heap.size + 1, 0, none⟩), .slice ad dm.length cd, x13, x14, x15, x16, x17, x18, x19, x20, x21, x22, x23, x24, x25, x26, x27, x28, x29, x30, x31, x32, x33, x34, x35, x36, x37, x38, x39, x40, x41, x42, x43, x44, x45, x46, x47, x48, x49, x50, x51, x52, x53, x54, x55, x56, x57, x58, x59, x60, x61, x62, x63, x64, x65, x66, x67, x68, x69, x70, x71, x72, x73, x74, x75, x76, x77, x78, x79, x80, x81, x82, x83, x84, x85, x86, x87, x88, x89, x90, x91, x92, x93, x94, x95, x96, x97, x98, x99, x100, x101, x102, x103, x104, x105, x106, x107, x108, x109, x110, x111, x112, x113, x114, x115, x116, x117, x118, x119, x120, x121, x122, x123, x124, x125, x126, x127, x128, x129, x130, x131, x132, x133, x134, x135, x136, x137, x138, x139, x140, x141, x142, x143, x144, x145, x146, x147, x148, x149, x150, x151, x152, x153, x154, x155, x156, x157, x158, x159, x160, x161, x162, x163, x164, x165, x166, x167, x168, x169, x170, x171, x172, x173, x174, x175, x176, x177, x178, x179, x180, x181, x182, x183, x184, x185, x186, x187, x188, x189, x190, x191, x192, x193, x194, x195, x196, x197, x198, x199, x200, x201, x202, x203, x204, x205, x206, x207, x208, x209, x210, x211, x212, x213, x214, x215, x216, x217, x218, x219, x220, x221, x222, x223, x224, x225, x226, x227, x228, x229, x230, x231, x232, x233, x234, x235, x236, x237, x238, x239, x240, x241, x242, x243, x244, x245, x246, x247, x248, x249, x250, x251, x252, x253, x254, x255, x256, x257, x258, x259, x260, x261, x262, x263, x264, x265, x266, x267, x268, x269, x270, x271, x272, x273, x274, x275, x276, x277, x278, x279, x280, x281, x282, x283, x284, x285, x286, x287, x288, x289, x290, x291, x292, x293, x294, x295, x296, x297, x298, x299, x300, x301, x302, x303, x304, x305, x306, x307, x308, x309, x310, x311, x312, x313, x314, x315, x316, x317, x318, x319, x320, x321, x322, x323, x324, x325, x326, x327, x328, x329, x330, x331, x332, x333, x334, x335, x336, x337, x338, x339, x340, x341, x342, x343, x344, x345, x346, x347, x348, x349, x350, x351, x352, x353, x354, x355, x356, x357, x358, x359, x360, x361, x362, x363, x364, x365, x366, x367, x368, x369, x370, x371, x372, x373, x374, x375, x376, x377, x378, x379, x380, x381, x382, x383, x384, x385, x386, x387, x388, x389, x390, x391, x392, x393, x394, x395, x396, x397, x398, x399, x400, x401, x402, x403, x404, x405, x406, x407, x408, x409, x410, x411, x412, x413, x414, x415, x416, x417, x418, x419, x420, x421, x422, x423, x424, x425, x426, x427, x428, x429, x430, x431, x432, x433, x434, x435, x436, x437, x438, x439, x440, x441, x442, x443, x444, x445, x446, x447, x448, x449, x450, x451, x452, x453, x454, x455, x456, x457, x458, x459, x460, x461, x462, x463, x464, x465, x466, x467, x468, x469, x470, x471, x472, x473, x474, x475, x476, x477, x478, x479, x480], []⟩ wr := by
  conv => arg 2; whnf
  conv at hKc => enter [a, w1, 1, 2]; whnf
  have hmm := @run_makeMap Yba.prog
  have LN := N2.start L hn0
  go_upto_if 139 with fail
  go_cut [] from 137 to 143 (fun wc => ∃ va, N2 w wc (w.heap.size + 1) w.heap.size #[.int .u8 gs, .string gn, .string gk] vm (.slice ad dm.length cd) dm va (.slice none 0 0) [] 0 (fun _ => none) 0 0 none ∧ (0 < i → ∃ ba, va = .map (some ba)))
  case first =>
    have hm0 := LN.rb.a
    have hf0 := LN.rb.frozen 3
    have hRl := LN.rb.lt
    by_cases hz0 : 0 < i
    · have hz0' : (0 : Int) < (i : Int) := by omega
      go_wp2_with fail
      go_meet
      case rel => exact ⟨_, LN.made, fun _ => ⟨_, rfl⟩⟩
    · have hz0' : ¬ (0 : Int) < (i : Int) := by omega
      go_wp2_with fail
      go_meet
      case rel => exact ⟨_, LN, fun h => absurd h hz0⟩
  case rest =>
    obtain ⟨va, LN', hva⟩ := hcut
    clear LN L
    go_wp2_with fail
    go_loopw [18, 146] (fun nv iv wr => ∃ (c : Nat) (dn : DN), iv = .int .i64 c ∧ c ≤ i ∧ N2 w wr (w.heap.size + 1) w.heap.size #[.int .u8 gs, .string gn, .string gk] vm (.slice ad dm.length cd) dm va nv dn (4096 * c) (faOf dn) c dn.length none ∧ dn.length ≤ c) (fun _ iv _ => i - (intOf iv).toNat)
    case atStart => exact ⟨0, [], rfl, Nat.zero_le _, LN', Nat.le_refl _⟩
    case round =>
      obtain ⟨c, dn, rfl, hc, L, hdl⟩ := hrel
      obtain ⟨av, cv, hdv⟩ := L.nrow.slice
      subst hdv
      by_cases hlt : c < i
      · --BEGIN8
        obtain ⟨ba, hba⟩ := hva (by omega)
        subst hba
        obtain rfl := I.hA1 (by omega)
        have hb1 : b1 < w.heap.size := block_lt_of_cell (I.c0 c hlt)
        have hb1r : b1 < wr.heap.size := Nat.lt_of_lt_of_le hb1 L.below.size
        have e0 : wr.cell? ⟨b1, o1 + c * 3, none⟩ = some (.string (an c)) := by rw [L.below.cell hb1]; exact I.c0 c hlt
        have e1 : wr.cell? ⟨b1, o1 + c * 3 + 1, none⟩ = some (.bool (ai c)) := by rw [L.below.cell hb1]; exact I.c1 c hlt
        have e2 : wr.cell? ⟨b1, o1 + c * 3 + 2, none⟩ = some (.slice (ak c) (al c) (ac c)) := by rw [L.below.cell hb1]; exact I.c2 c hlt
        have hci : (c : Int) < (i : Int) := by omega
        clear hmm LN'
        go_upto_block 8 with fail
        obtain ⟨wD, hwD⟩ : ∃ wD, wD = wr.alloc (.cells #[.string (an c), .bool (ai c), .slice (ak c) (al c) (ac c)] 29) := ⟨_, rfl⟩
        obtain ⟨X, hX⟩ : ∃ X, X = wr.heap.size := ⟨_, rfl⟩
        rw [← hwD, ← hX]
        have hbX : wD.heap[X]? = some (.cells #[.string (an c), .bool (ai c), .slice (ak c) (al c) (ac c)] 29) := by rw [hwD, hX]; exact Deep.blk_alloc_new _ _
        have LDn : (nsOf dn).Nodup := L.nnod
        have LD := L.keep (w' := wD) (by rw [hwD]; exact (Below.refl _ _).alloc (Nat.le_refl _) _)
        have hXn : w.heap.size ≤ X := by rw [hX]; exact L.below.size
        have hnsz := I.anb c hlt
        obtain ⟨ns, hns⟩ : ∃ ns, ns = an c := ⟨_, rfl⟩
        rw [← hns] at hbX hnsz
        have HNS : Hid (ns = an c) := hns
        clear hwD hX L e0 e1 e2 hb1r hns
        go_cut [21] from 148 to 164 (fun jv wc => ∃ jj : Int, jv = .int .i64 jj ∧ Kp (fun _ => False) wD wc ∧ Hid ((jj = -1 ∧ ∀ e, e ∈ dn → e.ns ≠ ns) ∨ ∃ (t : Nat) (e : NE), dn[t]? = some e ∧ e.ns = ns ∧ jj = (t : Int)))
        case first =>
          --BEGIN2
          go_wp2_with fail
          go_loopw [21, 152] (fun jv iv wr2 => ∃ t : Nat, jv = .int .i64 (-1) ∧ iv = .int .i64 t ∧ t ≤ dn.length ∧ Kp (fun _ => False) wD wr2 ∧ Hid (∀ (s : Nat) (e : NE), s < t → dn[s]? = some e → e.ns ≠ ns)) (fun _ iv _ => dn.length - (intOf iv).toNat)
          case atStart => exact ⟨0, rfl, rfl, Nat.zero_le _, Kp.refl _ _, fun s p hs => by omega⟩
          case round =>
            obtain ⟨t, rfl, rfl, ht, hk, hno⟩ := hrel
            have L4 := LD.same hk
            have x0 : wr.cell? ⟨X, 0, none⟩ = some (.string ns) := by rw [World.cell?_of_block (w := wD) (hk.block _ (N2.olt hbX) id)]; simp [World.cell?, hbX]
            by_cases htl : t < dn.length
            · obtain ⟨e, he⟩ : ∃ e, dn[t]? = some e := ⟨_, List.getElem?_eq_getElem htl⟩
              obtain ⟨g, cap', hg⟩ := L4.nrow.form (by omega)
              simp only [Value.slice.injEq] at hg
              obtain ⟨rfl, _, rfl⟩ := hg
              have r0 : wr.cell? ⟨g, t * 3, none⟩ = some (.string e.ns) := L4.nrow.cell encN_len rfl he (r := 0) (by omega)
              have hti : (t : Int) < (dn.length : Int) := by omega
              have hdec := str_dec e.ns ns
              by_cases hen : e.ns = ns
              · rw [decide_eq_true hen] at hdec
                have HEN : Hid (e.ns = ns) := hen
                clear hen
                go_wp2_with fail
                refine region_still (by kernel_rfl) ?_
                repeat still_step
                refine wpStill_nil ?_
                go_wp2_with fail
                go_meet
                case rel => exact ⟨_, rfl, hk.drew, .inr ⟨t, e, he, HEN.out, rfl⟩⟩
              · rw [decide_eq_false hen] at hdec
                go_wp2_with fail
                refine region_still (by kernel_rfl) ?_
                repeat still_step
                refine wpStill_nil ?_
                go_wp2_with fail
                go_roundw
                case rel => exact ⟨t + 1, rfl, by go_num, by omega, hk.drew, fun s q hs hq => by
                  by_cases e' : s = t
                  · subst e'; rw [he] at hq; cases hq; exact hen
                  · exact hno.out s q (by omega) hq⟩
                case measure => simp [intOf]; omega
            · have hno2 : Hid (∀ e, e ∈ dn → e.ns ≠ ns) := fun e he => by
                obtain ⟨s, hs⟩ := List.mem_iff_getElem?.1 he
                exact hno.out s e (by have := (List.getElem?_eq_some_iff.1 hs).1; omega) hs
              have htl' : ¬ (t : Int) < (dn.length : Int) := by omega
              go_wp2_with fail
              go_meet
              case rel => exact ⟨_, rfl, hk, .inl ⟨rfl, hno2.out⟩⟩
          --END2
        case rest =>
          obtain ⟨jj, rfl, hk, hcase⟩ := hcut
          have L4 := LD.same hk
          have hbX4 := (hk.block _ (N2.olt hbX) id).trans hbX
          clear LD hbX hk
          go_upto_if 166 with fail
          go_cut [18, 21] from 148 to 175 (fun nv jv wc2 => ∃ (dn1 : DN) (t : Nat) (e : NE), jv = .int .i64 t ∧ N2 w wc2 (w.heap.size + 1) w.heap.size #[.int .u8 gs, .string gn, .string gk] vm (.slice ad dm.length cd) dm (.map (some ba)) nv dn1 (4096 * c) (faOf dn) c dn.length none ∧ Hid (DnRel dn ns dn1 t e) ∧ (dn1 ≠ dn → e.im = none) ∧ dn1.length ≤ c + 1 ∧ wc2.heap[X]? = some (.cells #[.string ns, .bool (ai c), .slice (ak c) (al c) (ac c)] 29))
          case first =>
            --BEGIN3
            rcases hcase with ⟨rfl, hno⟩ | ⟨t, e, ht, hens, rfl⟩
            · have HNO : Hid (∀ e, e ∈ dn → e.ns ≠ ns) := hno
              clear hno
              obtain ⟨i0, hii, hz0, hz1, hz2⟩ := info_parts info65
              have x0 : wc.cell? ⟨X, 0, none⟩ = some (.string ns) := by simp [World.cell?, hbX4]
              have hdl' : (dn.length : Int) ≤ 4096 := by omega
              go_wp2_with (at_builtin; refine wpList_append_own_at _ rfl _ _ 62 rfl 0 65 i0 _ 3 48 Yba.underlying62 hii hz0 hz1 hz2 rfl (by decide) _ _ _ rfl (World.ownsRow.alloc L4.nrow _) ⟨wc.heap.size, 0, none⟩ 1 1 (encN ⟨ns, true, [], .slice none 0 0, none⟩) rfl rfl ?q1 ?q2 ?q3 ?q4 ?q5 ?q6)
              case q1 => exact cell_new wc (encN ⟨ns, true, [], .slice none 0 0, none⟩) 65
              case q2 => intro u hu; simp [encN] at hu; rcases hu with rfl | rfl | rfl <;> rfl
              case q3 => unfold maxLen; omega
              case q4 => omega
              case q5 => omega
              intro v' w' hown hgrow hnil hloc
              have L5 := L4.append hnsz HNO.out hown hgrow hloc
              have hX5 : w'.heap[X]? = some (.cells #[.string ns, .bool (ai c), .slice (ak c) (al c) (ac c)] 29) := by
                rw [(kp_grown hgrow).block _ (N2.olt hbX4) (fun e' => by
                  obtain ⟨cur, hc'⟩ := L4.nrow.obj e'
                  rw [hbX4] at hc'; cases hc')]
                exact hbX4
              obtain ⟨a', c', hv'⟩ := L5.nrow.slice
              have hll : (dn ++ [(⟨ns, true, [], .slice none 0 0, none⟩ : NE)]).length = dn.length + 1 := by simp
              rw [hll] at hv'
              subst hv'
              clear hown hgrow hnil hloc
              go_wp2_with fail
              go_meet
              case rel => exact ⟨_, dn.length, _, by go_num, L5, ⟨by simp, rfl, .inr ⟨rfl, rfl, HNO.out⟩⟩, fun _ => rfl, by simp; omega, hX5⟩
            · have htl := (List.getElem?_eq_some_iff.1 ht).1
              have htn : ¬ (t : Int) < 0 := by omega
              have HE : Hid (e.ns = ns) := hens
              clear hens
              go_wp2_with fail
              go_meet
              case rel => exact ⟨dn, t, e, rfl, L4, ⟨ht, HE.out, .inl rfl⟩, fun h => absurd rfl h, by omega, hbX4⟩
            --END3
          case rest =>
            obtain ⟨dn1, t, e, rfl, L5, hrel2, hnewim, hdl1, hbX5⟩ := hcut
            clear L4 hbX4 hcase
            have htl := (List.getElem?_eq_some_iff.1 hrel2.out.1).1
            obtain ⟨g, cap', hg⟩ := L5.nrow.form (by omega)
            subst hg
            have htd : dn1[t]? = some e := hrel2.out.1
            have hnn : (nsOf dn).Nodup := LDn
            obtain ⟨r0, r1, r2⟩ := cell_ne L5.nrow htd
            have x0 : wc.cell? ⟨X, 0, none⟩ = some (.string ns) := by simp [World.cell?, hbX5]
            have x1 : wc.cell? ⟨X, 1, none⟩ = some (.bool (ai c)) := by simp [World.cell?, hbX5]
            have x2 : wc.cell? ⟨X, 2, none⟩ = some (.slice (ak c) (al c) (ac c)) := by simp [World.cell?, hbX5]
            have ra := L5.rb.a
            have hti : (t : Int) < (dn1.length : Int) := by omega
            have hk9 := key_of9 ns hnsz
            cases hai : ai c with
            | true =>
              --BEGIN4
              rw [hai] at x1 hbX5
              obtain ⟨w6, hst, hm6, hT6⟩ := (L5.mg.block (w' := wc.drew) rfl).store keyed9 str_inj Yba.underlying39 (by unfold maxLen; omega) hk9 (.map none)
              have L6 := L5.storeA ((Kp.refl _ wc).drew.trans (N2.kp_turn hT6)) hm6
              have hgb : g ≠ ba := fun e' => (L5.neN (g := g) rfl).2.2.2.2.1 (by rw [e']; rfl)
              obtain ⟨s0, s1, s2⟩ := cell_ne L6.nrow htd
              have f1 := L6.nrow.frozen rfl (t * 3 + 1)
              have f2 := L6.nrow.frozen rfl (t * 3 + 2)
              have L7 := (L6.toNil htd).refa (fa' := faOf (dn1.set t ⟨e.ns, true, [], .slice none 0 0, none⟩)) (sza' := (dn1.set t ⟨e.ns, true, [], .slice none 0 0, none⟩).length)
                (fun y => by rw [hrel2.out.fa hnn (e' := ⟨e.ns, true, [], .slice none 0 0, none⟩) hrel2.out.2.1 y]) (by rw [List.length_set]; exact hrel2.out.len)
              go_wp2_with fail
              refine region_tail 6 (by kernel_rfl) ?_
              simp only [List.take_succ_cons, List.take_zero, List.drop_succ_cons, List.drop_zero]
              repeat still_step
              refine wpStill_nil ?_
              go_wp2_with fail
              go_roundw
              case rel => exact ⟨c + 1, _, by go_num, by omega, L7.more (by omega), by rw [List.length_set]; exact hdl1⟩
              case measure => simp [intOf]; omega
              --END4
            | false =>
              rw [hai] at x1 hbX5
              have hlk := (L5.mg.block (w' := wc.drew) rfl).look1 keyed9 Yba.underlying39 (zero66 _) hk9
              rw [hrel2.out.now hnn hnewim] at hlk
              have hq66 := fun (w : World) (r : Option Nat) => run_eql_map_nil (P := Yba.prog) w _ _ _ r Yba.underlying66
              have he5 := L5.ent t e htd (by simp)
              have HE : Hid (e.keys.Nodup ∧ (∀ x, x ∈ e.keys → fits x) ∧ (e.nil = true → e.keys = [] ∧ e.sv = .slice none 0 0)) := ⟨he5.2.1, he5.2.2.1, fun h => by
                rcases he5.2.2.2 with ⟨_, _, h1, h2⟩ | ⟨h', _⟩
                · exact ⟨h1, h2⟩
                · rw [h] at h'; cases h'⟩
              have hens : e.ns = ns := hrel2.out.2.1
              have HENS : Hid (e.ns = ns) := hens
              clear hens
              go_wp2_with fail
              refine region_still (by kernel_rfl) ?_
              repeat still_step
              refine wpStill_nil ?_
              go_upto_if 199 with fail
              have L6 := L5.same (w' := wc.drew) ((Kp.refl _ wc).drew)
              have hbX6 : wc.drew.heap[X]? = some (.cells #[.string ns, .bool false, .slice (ak c) (al c) (ac c)] 29) := hbX5
              have he6 : EOk wc.drew (4096 * c) e := he5
              clear L5 hbX5 he5 hlk x0 x1 x2 ra r0 r1 r2
              generalize wc.drew = wE at *
              go_cut [] from 176 to 206 (fun wc3 => ∃ b n, N2 w wc3 (w.heap.size + 1) w.heap.size #[.int .u8 gs, .string gn, .string gk] vm (.slice ad dm.length cd) dm (.map (some ba)) (.slice (some ⟨g, 0, none⟩) dn1.length cap') (dn1.set t ⟨e.ns, e.nil, e.keys, e.sv, some b⟩) (4096 * c) (faOf (dn1.set t ⟨e.ns, e.nil, e.keys, e.sv, some b⟩)) (c + 1) dn1.length (some t) ∧ n ≤ 4096 * c ∧ MG kv 51 wc3 b n (fsOf e.keys) e.keys.length ∧ OR encK 3 wc3 51 e.sv e.keys ∧ wc3.heap[X]? = some (.cells #[.string ns, .bool false, .slice (ak c) (al c) (ac c)] 29))
              case first =>
                --BEGIN5
                have hmm := @run_makeMap Yba.prog
                cases him : e.im with
                | some b0 =>
                  have hdd : dn1 = dn := Classical.byContradiction (fun h => by have := hnewim h; rw [him] at this; cases this)
                  obtain ⟨w1, w2, w3, w4⟩ := he6
                  rcases w4 with ⟨_, h, _⟩ | ⟨hn4, b', n', hb', hn', hm'⟩
                  · rw [him] at h; cases h
                  rw [him] at hb'
                  cases hb'
                  have hee : (⟨e.ns, e.nil, e.keys, e.sv, some b0⟩ : NE) = e := by rw [← him]
                  have hset : dn1.set t ⟨e.ns, e.nil, e.keys, e.sv, some b0⟩ = dn1 := by
                    rw [hee]
                    apply List.ext_getElem?
                    intro k
                    rw [List.getElem?_set]
                    by_cases hk' : t = k
                    · subst hk'; rw [htd]; simp [htl]
                    · simp [hk']
                  have L7 : N2 w wE (w.heap.size + 1) w.heap.size #[.int .u8 gs, .string gn, .string gk] vm (.slice ad dm.length cd) dm (.map (some ba)) (.slice (some ⟨g, 0, none⟩) dn1.length cap') (dn1.set t ⟨e.ns, e.nil, e.keys, e.sv, some b0⟩) (4096 * c) (faOf (dn1.set t ⟨e.ns, e.nil, e.keys, e.sv, some b0⟩)) (c + 1) dn1.length (some t) := by
                    rw [hset]
                    have := ((L6.detach t).moreA (na' := c + 1) (by omega))
                    rw [hdd] at this ⊢
                    exact this
                  go_wp2_with fail
                  go_meet
                  case rel => exact ⟨b0, n', L7, hn', hm', w1, hbX6⟩
                | none =>
                  obtain ⟨w1, w2, w3, w4⟩ := he6
                  have hkeys : e.keys = [] := by
                    rcases w4 with ⟨_, _, h, _⟩ | ⟨_, b', _, hb', _⟩
                    · exact h
                    · rw [him] at hb'; cases hb'
                  obtain ⟨w7, hst, hm7, hT7⟩ := (L6.mg.block (w' := (wE.alloc (.map #[] 0)).drew) (RowKit.Below.heap_alloc _ _ _ L6.mg.lt)).store keyed9 str_inj Yba.underlying39 (by unfold maxLen; omega) hk9 (.map (some wE.heap.size))
                  have hK7 : Kp (fun x => x = ba) (wE.alloc (.map #[] 0)) w7 := (Kp.refl _ _).drew.trans (N2.kp_turn hT7)
                  obtain ⟨L8, hMG⟩ := L6.makeSet hrel2.out hnn hK7 hm7
                  have hXl := N2.olt hbX6
                  have hX8 : w7.heap[X]? = some (.cells #[.string ns, .bool false, .slice (ak c) (al c) (ac c)] 29) := by
                    rw [hK7.block _ (by simp; omega) (fun e' => by
                      obtain ⟨es, cc, h⟩ := L6.mg.isMap
                      rw [← e', hbX6] at h; cases h), RowKit.Below.heap_alloc _ _ _ hXl]
                    exact hbX6
                  have hrow8 : OR encK 3 w7 51 e.sv e.keys := w1.block (fun b hb => by
                    rw [hK7.block _ (by simp; have := w1.lt hb; omega) (fun e' => by
                      obtain ⟨es, cc, h⟩ := L6.mg.isMap
                      obtain ⟨cur, h2⟩ := w1.obj hb
                      rw [← e', h2] at h; cases h), RowKit.Below.heap_alloc _ _ _ (w1.lt hb)])
                  have ra := L6.rb.a
                  have x0 : wE.cell? ⟨X, 0, none⟩ = some (.string ns) := by simp [World.cell?, hbX6]
                  have hRl := L6.rb.lt
                  go_wp2_with fail
                  go_region
                  go_wp2_with fail
                  go_meet
                  case rel => exact ⟨_, 0, L8, Nat.zero_le _, by rw [hkeys]; exact hMG, hrow8, hX8⟩
                --END5
              case rest =>
                obtain ⟨b, n, L7, hnn4, hMG, hrow7, hbX7⟩ := hcut
                clear L6 hbX6 he6
                have htd7 : (dn1.set t ⟨e.ns, e.nil, e.keys, e.sv, some b⟩)[t]? = some ⟨e.ns, e.nil, e.keys, e.sv, some b⟩ := get_set_same htd
                obtain ⟨r0, r1, r2⟩ := cell_ne (by rw [List.length_set]; exact L7.nrow) htd7
                have f1 := L7.nrow.frozen (g := g) (cap := cap') (by rw [List.length_set]) (t * 3 + 1)
                have f2 := L7.nrow.frozen (g := g) (cap := cap') (by rw [List.length_set]) (t * 3 + 2)
                go_upto_if 211 with fail
                go_cut [] from 176 to 219 (fun wc4 => N2 w wc4 (w.heap.size + 1) w.heap.size #[.int .u8 gs, .string gn, .string gk] vm (.slice ad dm.length cd) dm (.map (some ba)) (.slice (some ⟨g, 0, none⟩) dn1.length cap') (dn1.set t ⟨e.ns, false, e.keys, e.sv, some b⟩) (4096 * c) (faOf (dn1.set t ⟨e.ns, false, e.keys, e.sv, some b⟩)) (c + 1) dn1.length none ∧ wc4.heap[X]? = some (.cells #[.string ns, .bool false, .slice (ak c) (al c) (ac c)] 29))
                case first =>
                  --BEGIN6
                  have hfaeq : ∀ y, faOf (dn1.set t ⟨e.ns, false, e.keys, e.sv, some b⟩) y = faOf (dn1.set t ⟨e.ns, e.nil, e.keys, e.sv, some b⟩) y := fun y => by
                    rw [hrel2.out.fa (e' := ⟨e.ns, false, e.keys, e.sv, some b⟩) hnn HENS.out y, hrel2.out.fa (e' := ⟨e.ns, e.nil, e.keys, e.sv, some b⟩) hnn HENS.out y]
                  cases hnil : e.nil with
                  | true =>
                    obtain ⟨hk0, hs0⟩ := HE.out.2.2 hnil
                    have htd8 : (dn1.set t ⟨e.ns, e.nil, e.keys, e.sv, some b⟩)[t]? = some ⟨e.ns, true, [], .slice none 0 0, some b⟩ := by rw [htd7, hnil, hk0, hs0]
                    rw [hk0] at hMG
                    have L8 := (L7.toSet (by rw [List.length_set]) htd8 hMG hnn4).refa (fun y => hfaeq y) rfl
                    rw [List.set_set] at L8
                    have hX8 : ((wc.setCell ⟨g, t * 3 + 1, none⟩ (.bool false)).setCell ⟨g, t * 3 + 2, none⟩ (.slice none 0 0)).heap[X]? = some (.cells #[.string ns, .bool false, .slice (ak c) (al c) (ac c)] 29) := by
                      have hgX : X ≠ g := fun e' => by
                        obtain ⟨cur, hcu⟩ := L7.nrow.obj (g := g) rfl
                        rw [← e', hbX7] at hcu; cases hcu
                      rw [RowKit.Below.heap_setCell _ _ _ _ hgX, RowKit.Below.heap_setCell _ _ _ _ hgX]; exact hbX7
                    rw [hnil] at r1
                    go_wp2_with fail
                    go_meet
                    case rel => exact ⟨by rw [hk0, hs0] at *; exact L8, hX8⟩
                  | false =>
                    rw [hnil] at r1
                    have L8 := L7.attach htd7 ⟨hrow7, HE.out.1, HE.out.2.1, .inr ⟨hnil, b, n, rfl, hnn4, hMG⟩⟩
                    rw [hnil] at L8
                    go_wp2_with fail
                    go_meet
                    case rel => exact ⟨L8, hbX7⟩
                  --END6
                case rest =>
                  obtain ⟨L8, hbX8⟩ := hcut
                  clear L7 hbX7 hMG hrow7 r0 r1 r2 f1 f2
                  have hlk8 := (L8.mg.block (w' := wc.drew) rfl).look1 keyed9 Yba.underlying39 (zero66 _) hk9
                  have hf8 : faOf (dn1.set t ⟨e.ns, false, e.keys, e.sv, some b⟩) ns = some (.map (some b)) := by
                    have := faOf_mem L8.nnod (e := ⟨e.ns, false, e.keys, e.sv, some b⟩) (List.mem_iff_getElem?.2 ⟨t, get_set_same htd⟩)
                    rw [HENS.out] at this
                    rw [HENS.out]; exact this
                  rw [hf8] at hlk8
                  simp only [Option.getD_some] at hlk8
                  have ra := L8.rb.a
                  have x0 : wc.cell? ⟨X, 0, none⟩ = some (.string ns) := by simp [World.cell?, hbX8]
                  have x2 : wc.cell? ⟨X, 2, none⟩ = some (.slice (ak c) (al c) (ac c)) := by simp [World.cell?, hbX8]
                  go_wp2_with fail
                  refine region_still (by kernel_rfl) ?_
                  repeat still_step
                  refine wpStill_nil ?_
                  go_wp2_with fail
                  have L9 := L8.same (w' := wc.drew) ((Kp.refl _ wc).drew)
                  have hbX9 : wc.drew.heap[X]? = some (.cells #[.string ns, .bool false, .slice (ak c) (al c) (ac c)] 29) := hbX8
                  clear L8 hbX8 hlk8 hf8 ra x0 x2
                  generalize wc.drew = wF at *
                  have hal4 : al c ≤ 4096 := hal.out c hlt
                  go_loopw [230] (fun iv wr => ∃ (u : Nat) (keys : List RK) (sv : Value), iv = .int .i64 u ∧ u ≤ al c ∧ N2 w wr (w.heap.size + 1) w.heap.size #[.int .u8 gs, .string gn, .string gk] vm (.slice ad dm.length cd) dm (.map (some ba)) (.slice (some ⟨g, 0, none⟩) dn1.length cap') (dn1.set t ⟨e.ns, false, keys, sv, some b⟩) (4096 * c + u) (faOf (dn1.set t ⟨e.ns, false, keys, sv, some b⟩)) (c + 1) dn1.length none ∧ wr.heap[X]? = some (.cells #[.string ns, .bool false, .slice (ak c) (al c) (ac c)] 29)) (fun iv _ => al c - (intOf iv).toNat)
                  case atStart => exact ⟨0, _, _, rfl, Nat.zero_le _, L9, hbX9⟩
                  case round =>
                    obtain ⟨u, keys, sv, rfl, hu, LL, hbXr⟩ := hrel
                    by_cases hul : u < al c
                    · have hA2 := I.hA2 c hlt (by omega)
                      have hkb : kb c < w.heap.size := block_lt_of_cell (I.k0 c hlt u hul)
                      have hkbr : kb c < wr.heap.size := Nat.lt_of_lt_of_le hkb LL.below.size
                      have e0 : wr.cell? ⟨kb c, ko c + u, none⟩ = some (.string (ks c u)) := by rw [LL.below.cell hkb]; exact I.k0 c hlt u hul
                      have x0 : wr.cell? ⟨X, 0, none⟩ = some (.string ns) := by simp [World.cell?, hbXr]
                      have hui : (u : Int) < (al c : Int) := by omega
                      have htl2 : (dn1.set t ⟨e.ns, false, keys, sv, some b⟩)[t]? = some ⟨e.ns, false, keys, sv, some b⟩ := get_set_same htd
                      have heo := LL.ent t _ htl2 (by simp)
                      obtain ⟨asv, csv, hsv⟩ := heo.1.slice
                      simp only at hsv
                      subst hsv
                      obtain ⟨k1, k2, k3, k4⟩ := heo
                      rcases k4 with ⟨h, _⟩ | ⟨_, b', n', hb', hn', hm'⟩
                      · cases h
                      cases hb'
                      simp only at hm' k1 k2 k3
                      have hkl4 : keys.length ≤ 4096 * c + u := Nat.le_trans hm'.size_le hn'
                      have hkl5 : keys.length ≤ 20000000 := by omega
                      obtain ⟨x, hx⟩ : ∃ x : RK, x = (adv, ns, ks c u) := ⟨_, rfl⟩
                      have hfx : fits x := by rw [hx]; exact ⟨adv_size, hnsz, I.ksb c hlt u hul⟩
                      go_upto_region 63 with fail
                      obtain ⟨w2, hw2⟩ : ∃ w2, w2 = wr.alloc (.cells #[.string x.1, .string x.2.1, .string x.2.2] 51) := ⟨_, rfl⟩
                      have hwe : wr.alloc (.cells #[.string ⟨#[97, 100, 118, 101, 114, 116, 105, 115, 101, 109, 101, 110, 116]⟩, .string ns, .string (ks c u)] 51) = w2 := by rw [hw2, hx]; rfl
                      rw [hwe]
                      obtain ⟨B, hB⟩ : ∃ B, B = wr.heap.size := ⟨_, rfl⟩
                      have hbB : w2.heap[B]? = some (.cells #[.string x.1, .string x.2.1, .string x.2.2] 51) := by rw [hw2, hB]; exact Deep.blk_alloc_new _ _
                      have hb2 : Below wr.heap.size wr w2 := by rw [hw2]; exact (Below.refl _ _).alloc (Nat.le_refl _) _
                      have hXl := N2.olt hbXr
                      rw [← hB]
                      have hBl : wr.heap.size ≤ B := by rw [hB]; exact Nat.le_refl _
                      clear hwe hw2 hB e0 x0 hA2 hx
                      have L2 := (LL.keep hb2).detach t
                      have hbX2 : w2.heap[X]? = some (.cells #[.string ns, .bool false, .slice (ak c) (al c) (ac c)] 29) := (hb2.block _ hXl).trans hbXr
                      have hm2 := hm'.block (hb2.block _ hm'.lt)
                      obtain ⟨kl, hkl⟩ := key_of51 x hfx
                      obtain ⟨w3, hst, hm3, hT3⟩ := hm2.store keyed51 kv_inj Yba.underlying66 (by unfold maxLen; omega) hkl (.bool true)
                      have hK3 := N2.kp_turn hT3
                      have L3 := L2.storeI htl2 rfl hK3 hm3.isMap
                      have hBb : B ≠ b := fun e' => by have := hm'.lt; omega
                      have hbB3 := (hK3.block _ (N2.olt hbB) hBb).trans hbB
                      have hbX3 : w3.heap[X]? = some (.cells #[.string ns, .bool false, .slice (ak c) (al c) (ac c)] 29) := by
                        rw [hK3.block _ (N2.olt hbX2) (fun e' => by
                          obtain ⟨es, cc, h⟩ := hm2.isMap
                          rw [← e', hbX2] at h; cases h)]
                        exact hbX2
                      have hrow3 : OR encK 3 w3 51 (.slice asv keys.length csv) keys := k1.block (fun z hz => by
                        have hzl := k1.lt hz
                        rw [hK3.block _ (Nat.lt_of_lt_of_le hzl hb2.size) (fun e' => by
                          obtain ⟨es, cc, h⟩ := hm'.isMap
                          obtain ⟨cur, h2⟩ := k1.obj hz
                          rw [← e', h2] at h; cases h)]
                        exact hb2.block _ hzl)
                      have hrB : ∀ z, (Value.slice asv keys.length csv).ownBlock = some z → z < B := fun z hz => by have := k1.lt hz; omega
                      obtain ⟨rr0, rr1, rr2⟩ := cell_ne (by rw [List.length_set]; exact L3.nrow) htl2
                      have q0 : w2.cell? ⟨B, 0, none⟩ = some (.string x.1) := by simp [World.cell?, hbB]
                      have q1 : w2.cell? ⟨B, 1, none⟩ = some (.string x.2.1) := by simp [World.cell?, hbB]
                      have q2 : w2.cell? ⟨B, 2, none⟩ = some (.string x.2.2) := by simp [World.cell?, hbB]
                      simp only [kv] at hst
                      have hlt3 : (t : Int) < (dn1.length : Int) := by omega
                      clear hm2 hm' k1 L2 LL hbXr hbX2
                      go_upto_block 12 with fail
                      first
                        | rw [hst]
                        | skip
                      clear hst q0 q1 q2
                      go_upto_block 12 with fail
                      go_cut [27] from 231 to 253 (fun fv wc5 => ∃ fnd : Bool, fv = .bool fnd ∧ Kp (fun _ => False) w3 wc5 ∧ Hid ((fnd = true ∧ x ∈ keys) ∨ (fnd = false ∧ x ∉ keys)))
                      case first =>
                        --BEGIN7
                        go_wp2_with fail
                        go_loopw [27, 246] (fun fv iv wr2 => ∃ s : Nat, fv = .bool false ∧ iv = .int .i64 s ∧ s ≤ keys.length ∧ Kp (fun _ => False) w3 wr2 ∧ Hid (∀ (z : Nat) (y : RK), z < s → keys[z]? = some y → y ≠ x)) (fun _ iv _ => keys.length - (intOf iv).toNat)
                        case atStart => exact ⟨0, rfl, rfl, Nat.zero_le _, Kp.refl _ _, fun z y hz => by omega⟩
                        case round =>
                          obtain ⟨s, rfl, rfl, hsl, hk, hno⟩ := hrel
                          have hbB4 := (hk.block _ (N2.olt hbB3) id).trans hbB3
                          have hrow4 : OR encK 3 wr 51 (.slice asv keys.length csv) keys := hrow3.block (fun z hz => hk.block _ (hrow3.lt hz) id)
                          by_cases hsl2 : s < keys.length
                          · obtain ⟨y, hy⟩ : ∃ y, keys[s]? = some y := ⟨_, List.getElem?_eq_getElem hsl2⟩
                            obtain ⟨gk2, capk, hgk2⟩ := hrow4.form (by omega)
                            simp only [Value.slice.injEq] at hgk2
                            obtain ⟨rfl, _, rfl⟩ := hgk2
                            have y0 : wr.cell? ⟨gk2, s * 3, none⟩ = some (.string y.1) := hrow4.cell encK_len rfl hy (r := 0) (by omega)
                            have y1 : wr.cell? ⟨gk2, s * 3 + 1, none⟩ = some (.string y.2.1) := hrow4.cell encK_len rfl hy (r := 1) (by omega)
                            have y2 : wr.cell? ⟨gk2, s * 3 + 2, none⟩ = some (.string y.2.2) := hrow4.cell encK_len rfl hy (r := 2) (by omega)
                            have q0 : wr.cell? ⟨B, 0, none⟩ = some (.string x.1) := by simp [World.cell?, hbB4]
                            have q1 : wr.cell? ⟨B, 1, none⟩ = some (.string x.2.1) := by simp [World.cell?, hbB4]
                            have q2 : wr.cell? ⟨B, 2, none⟩ = some (.string x.2.2) := by simp [World.cell?, hbB4]
                            have hBlr := N2.olt hbB4
                            have hsi : (s : Int) < (keys.length : Int) := by omega
                            have heq := fun w => eql51 y x w
                            simp only [kv] at heq
                            have hk6 := hk.alloc (.cells #[.string y.1, .string y.2.1, .string y.2.2] 51)
                            by_cases hyx : y = x
                            · have hdec : decide (y = x) = true := by simpa using hyx
                              rw [hdec] at heq
                              have HYX : Hid (y = x) := hyx
                              clear hyx hdec
                              go_wp2_with fail
                              go_meet
                              case rel => exact ⟨true, rfl, hk6, .inl ⟨rfl, by rw [← HYX.out]; exact List.mem_of_getElem? hy⟩⟩
                            · have hdec : decide (y = x) = false := by simpa using hyx
                              rw [hdec] at heq
                              clear hdec
                              go_wp2_with fail
                              go_roundw
                              case rel => exact ⟨s + 1, rfl, by go_num, by omega, hk6, fun z q hz hq => by
                                by_cases e' : z = s
                                · subst e'; rw [hy] at hq; cases hq; exact hyx
                                · exact hno.out z q (by omega) hq⟩
                              case measure => simp [intOf]; omega
                          · have hno2 : Hid (x ∉ keys) := fun hx' => by
                              obtain ⟨z, hz⟩ := List.mem_iff_getElem?.1 hx'
                              exact hno.out z x (by have := (List.getElem?_eq_some_iff.1 hz).1; omega) hz rfl
                            have hsl' : ¬ (s : Int) < (keys.length : Int) := by omega
                            go_wp2_with fail
                            go_meet
                            case rel => exact ⟨false, rfl, hk, .inr ⟨rfl, hno2.out⟩⟩
                        --END7
                      case rest =>
                        obtain ⟨fnd, rfl, hk5, hcase5⟩ := hcut
                        have L5 := L3.same hk5
                        have hm5 := hm3.block (hk5.block _ hm3.lt id)
                        have hrow5 : OR encK 3 wc 51 (.slice asv keys.length csv) keys := hrow3.block (fun z hz => hk5.block _ (hrow3.lt hz) id)
                        have hbX5 := (hk5.block _ (N2.olt hbX3) id).trans hbX3
                        have hbB5 := (hk5.block _ (N2.olt hbB3) id).trans hbB3
                        clear L3 hm3 hrow3 hbX3 hbB3 hk5 rr0 rr1 rr2
                        rcases hcase5 with ⟨rfl, hin⟩ | ⟨rfl, hin⟩
                        · have hm6 : MG kv 51 wc b (n' + 1) (fsOf keys) keys.length := by
                            rw [if_pos (fsOf_isSome.2 hin)] at hm5
                            exact hm5.congr (fun y => fsOf_again hin y)
                          have L6 := (L5.more (N' := 4096 * c + (u + 1)) (by omega)).attach htl2 ⟨hrow5, k2, k3, .inr ⟨rfl, b, n' + 1, rfl, by omega, hm6⟩⟩
                          have HIN : Hid (x ∈ keys) := hin
                          clear hin
                          go_wp2_with fail
                          go_roundw
                          case rel => exact ⟨u + 1, keys, _, by go_num, by omega, L6, hbX5⟩
                          case measure => simp [intOf]; omega
                        · have hm6 : MG kv 51 wc b (n' + 1) (fsOf (keys ++ [x])) (keys.length + 1) := by
                            rw [if_neg (fun h => hin (fsOf_isSome.1 h))] at hm5
                            exact hm5.congr (fun y => fsOf_add y)
                          have HIN : Hid (x ∉ keys) := hin
                          clear hin hm5
                          obtain ⟨i0, hii, hz0, hz1, hz2⟩ := info_parts info51
                          obtain ⟨rr0, rr1, rr2⟩ := cell_ne (by rw [List.length_set]; exact L5.nrow) htl2
                          have ff2 := L5.nrow.frozen (g := g) (cap := cap') (by rw [List.length_set]) (t * 3 + 2)
                          have q0 : wc.cell? ⟨B, 0, none⟩ = some (.string x.1) := by simp [World.cell?, hbB5]
                          have q1 : wc.cell? ⟨B, 1, none⟩ = some (.string x.2.1) := by simp [World.cell?, hbB5]
                          have q2 : wc.cell? ⟨B, 2, none⟩ = some (.string x.2.2) := by simp [World.cell?, hbB5]
                          have hBl5 := N2.olt hbB5
                          have hgl5 : g < wc.heap.size := L5.nrow.lt rfl
                          go_wp2_with fail
                          have hgs : (Value.slice asv keys.length csv).ownBlock ≠ some g := fun h => (L5.neN (g := g) rfl).2.2.2.2.2.2 t _ htl2 h
                          have hgB : (Value.slice asv keys.length csv).ownBlock ≠ some B := fun h => Nat.lt_irrefl _ (hrB _ h)
                          have ht0' : (0 : Int) ≤ (t : Int) := Int.natCast_nonneg _
                          have hgs' := Ne.symm hgs
                          have hgB' := Ne.symm hgB
                          have hlg : ∀ o, g < (wc.alloc o).heap.size := fun o => by simp; omega
                          have hlB : ∀ o, B < (wc.alloc o).heap.size := fun o => by simp; omega
                          have hag : ∀ o, (wc.alloc o).heap[g]? = wc.heap[g]? := fun o => RowKit.Below.heap_alloc _ _ _ hgl5
                          have haB : ∀ o, (wc.alloc o).heap[B]? = wc.heap[B]? := fun o => RowKit.Below.heap_alloc _ _ _ hBl5
                          have hgc : ∀ o, (wc.alloc o).cell? ⟨g, t * 3 + 2, none⟩ = some (.slice asv keys.length csv) := fun o => (World.cell?_of_block (hag o)).trans rr2
                          have hne1 := World.new_ne wc _ rr2
                          have hgB2 : B ≠ g := fun e' => by
                            obtain ⟨cur, hcu⟩ := L5.nrow.obj (g := g) rfl
                            rw [← e', hbB5] at hcu; cases hcu
                          have hXg : X ≠ g := fun e' => by
                            obtain ⟨cur, hcu⟩ := L5.nrow.obj (g := g) rfl
                            rw [← e', hbX5] at hcu; cases hcu
                          have hXs : (Value.slice asv keys.length csv).ownBlock ≠ some X := fun h => by
                            obtain ⟨cur, hcu⟩ := hrow5.obj h
                            rw [hbX5] at hcu; cases hcu
                          go_region_law (refine step_append_lies _ (by rfl) _ _ _ (by rfl) 0 51 i0 _ 3 48 Yba.underlying63 hii hz0 hz1 hz2 rfl (by decide) (.slice asv keys.length csv) keys.length (keys.flatMap encK) (by rfl) ((World.ownsRow.alloc hrow5 _).drew) ⟨wc.heap.size, 0, none⟩ 1 1 (encK x) (by rfl) (by rfl) (World.news_of_block (cs := (encK x).toArray) (t := 51) (fr := (0, 0)) (heap_alloc_new wc _)) (by intro u hu; simp [encK] at hu; rcases hu with rfl | rfl | rfl <;> rfl) (by omega) (by unfold maxLen; omega) (by omega) (by omega) (wc.heap.size + 1) (by simp) ?_; intro g2 cap2 w' hown hgrow hat hlt2; have s2 : w'.cell? ⟨g, t * 3 + 2, none⟩ = some (.slice asv keys.length csv) := (World.cell?_of_block ((hgrow.block g (hlg _) hgs').trans (hag _))).trans rr2; have s3 : w'.frozen? ⟨g, t * 3 + 2, none⟩ = false := (World.frozen?_of_block ((hgrow.block g (hlg _) hgs').trans (hag _))).trans ff2)
                          all_goals go_wp2_with fail
                          all_goals
                            have hg' : (wc.alloc (.cells #[.string x.1, .string x.2.1, .string x.2.2] 51)).grownBy w' (Value.slice asv keys.length csv).ownBlock := undrew hgrow
                            have L6 := (L5.more (N' := 4096 * c + (u + 1)) (by omega)).addKey (by rw [List.length_set]) htl2 hown hg' (hat.elim (fun h => .inl h.symm) (fun h => .inr (by rw [h]; rfl))) hm6 (by omega) HIN.out hfx k2 k3
                            rw [List.set_set] at L6
                            refine ⟨⟨u + 1, keys ++ [x], .slice (some ⟨g2, 0, none⟩) (keys.length + 1) cap2, by go_num, by omega, L6.refa (fun y => ?_) rfl, (RowKit.Below.heap_setCell _ _ _ _ hXg).trans (((kp_grown hg').block X (N2.olt hbX5) hXs).trans hbX5)⟩, by simp [intOf]; omega⟩
                            rw [hrel2.out.fa (e' := ⟨e.ns, false, keys ++ [x], .slice (some ⟨g2, 0, none⟩) (keys.length + 1) cap2, some b⟩) hnn HENS.out y, hrel2.out.fa (e' := ⟨e.ns, false, keys, .slice asv keys.length csv, some b⟩) hnn HENS.out y]
                    · have hul' : ¬ (u : Int) < (al c : Int) := by omega
                      go_wp2_with fail
                      go_roundw
                      case rel => exact ⟨c + 1, _, by go_num, by omega, LL.more (by omega) |>.refa (fun _ => rfl) (by rw [List.length_set]), by rw [List.length_set]; exact hdl1⟩
                      case measure => simp [intOf]; omega
        --END8
      · have hci2 : ¬ (c : Int) < (i : Int) := by omega
        clear hmm LN'
        go_upto_region 75 with fail
        exact t75 I hn0 hn1 hgs hgn hgk hp L (by omega) hdl (by assumption)
end Go.Proofs.Ybulkdlaa

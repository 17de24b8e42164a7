import Derived.Test.YbulkdkzmFmtErr
import Derived.Deep.RegionWith
import Derived.Deep.CutBlock
import Derived.Deep.DeepCutAuto
namespace Go.Proofs.YbulkdkzmFmt
set_option linter.unusedVariables false
set_option linter.unusedSimpArgs false
open Go.RowKit Go.Extern.Stop Go.Stop Go.Extern

def fM (Ks : Nat → ByteArray) (g : Nat → Value) : Nat → ByteArray → Option Value
  | 0 => fun _ => none
  | k + 1 => updM (fM Ks g k) (Ks k) (g k)

def gV (Vs : Nat → ByteArray) (blk cp : Nat → Nat) (j : Nat) : Value := .slice (some ⟨blk j, 0, none⟩) (Vs j).size (cp j)

structure LM (w wr : World) (Ks Vs : Nat → ByteArray) (M k sz : Nat) (blk cp : Nat → Nat) : Prop where
  mf : MF wr M k (fM Ks (gV Vs blk cp) k) sz
  cells : ∀ j, j < k → ∀ i (hi : i < (Vs j).data.size), wr.cell? ⟨blk j, i, none⟩ = some (.int .u8 ((Vs j).data[i].toNat : Int))
  lt : ∀ j, j < k → blk j < wr.heap.size
  ne : ∀ j, j < k → blk j ≠ M
  below : Below w.heap.size w wr

theorem fM_congr {Ks : Nat → ByteArray} {g g' : Nat → Value} : ∀ {k : Nat}, (∀ j, j < k → g j = g' j) → fM Ks g k = fM Ks g' k
  | 0, _ => rfl
  | k + 1, h => by
    unfold fM
    rw [fM_congr (fun j hj => h j (by omega)), h k (by omega)]

theorem fM_none {Ks : Nat → ByteArray} {g : Nat → Value} {q : ByteArray} : ∀ {k : Nat}, (∀ j, j < k → Ks j ≠ q) → fM Ks g k q = none
  | 0, _ => rfl
  | k + 1, h => by
    have hk := h k (by omega)
    unfold fM updM
    rw [if_neg (fun e => hk e.symm)]
    exact fM_none (fun j hj => h j (by omega))

theorem fM_last {Ks : Nat → ByteArray} {g : Nat → Value} {q : ByteArray} {i : Nat} (hi : Ks i = q) : ∀ {k : Nat}, i < k → (∀ j, i < j → j < k → Ks j ≠ q) → fM Ks g k q = some (g i)
  | 0, h, _ => by omega
  | k + 1, h, hj => by
    unfold fM updM
    by_cases e : i = k
    · subst e
      rw [if_pos hi.symm]
    · rw [if_neg (fun e' => hj k (by omega) (by omega) e'.symm)]
      exact fM_last hi (by omega) (fun j h1 h2 => hj j h1 (by omega))

theorem fM_some {Ks : Nat → ByteArray} {g : Nat → Value} {i : Nat} : ∀ {k : Nat}, i < k → ∃ j, j < k ∧ fM Ks g k (Ks i) = some (g j)
  | 0, h => by omega
  | k + 1, h => by
    unfold fM updM
    by_cases e : Ks i = Ks k
    · exact ⟨k, by omega, by rw [if_pos e]⟩
    · rw [if_neg e]
      obtain ⟨j, hj, h2⟩ := fM_some (Ks := Ks) (g := g) (i := i) (k := k) (by
        rcases Nat.lt_or_ge i k with h' | h'
        · exact h'
        · have : i = k := by omega
          exact absurd (by rw [this]) e)
      exact ⟨j, by omega, h2⟩

theorem str_ne {a b : ByteArray} (h : a ≠ b) : (a.toList == b.toList) = false := by
  rw [ByteArray.toList_eq, ByteArray.toList_eq]
  simp only [beq_eq_false_iff_ne]
  intro e
  exact h (WideShapes.bytes_inj e)

def updN (f : Nat → Nat) (k x : Nat) : Nat → Nat := fun j => if j = k then x else f j
theorem updN_same (f : Nat → Nat) (k x : Nat) : updN f k x k = x := by simp [updN]
theorem updN_lt (f : Nat → Nat) (k x j : Nat) (h : j < k) : updN f k x j = f j := by unfold updN; rw [if_neg (by omega)]

theorem turned_block {w w' : World} {b : Nat} (h : w.mapTurned w' b) : w'.heap.size = w.heap.size ∧ w'.tape = w.tape ∧ ∀ x, x ≠ b → w'.heap[x]? = w.heap[x]? := by
  obtain ⟨es, clock, es', clock', hb, rfl⟩ := h
  exact ⟨by simp [ChangeMaps.setBlock], rfl, fun x hx => ChangeMaps.heap_setBlock_other hb _ hx⟩

theorem LM.step {w wr W1 w2 : World} {Ks Vs : Nat → ByteArray} {M k sz sz2 C : Nat} {blk cp : Nat → Nat} (L : LM w wr Ks Vs M k sz blk cp) (hMw : w.heap.size ≤ M) (hB1 : Below wr.heap.size wr W1)
    (hc : ∀ i (hi : i < (Vs k).data.size), W1.cell? ⟨wr.heap.size, i, none⟩ = some (.int .u8 ((Vs k).data[i].toNat : Int))) (h1 : wr.heap.size < W1.heap.size) (hT : W1.mapTurned w2 M)
    (hM2 : MF w2 M (k + 1) (updM (fM Ks (gV Vs blk cp) k) (Ks k) (.slice (some ⟨wr.heap.size, 0, none⟩) (Vs k).size C)) sz2) : LM w w2 Ks Vs M (k + 1) sz2 (updN blk k wr.heap.size) (updN cp k C) := by
  obtain ⟨hs, ht, hbl⟩ := turned_block hT
  have hMlt := L.mf.lt
  refine ⟨?_, fun j hj i hi => ?_, fun j hj => ?_, fun j hj => ?_, ?_⟩
  · have e : fM Ks (gV Vs (updN blk k wr.heap.size) (updN cp k C)) (k + 1) = updM (fM Ks (gV Vs blk cp) k) (Ks k) (.slice (some ⟨wr.heap.size, 0, none⟩) (Vs k).size C) := by
      show updM (fM Ks (gV Vs (updN blk k wr.heap.size) (updN cp k C)) k) (Ks k) (gV Vs (updN blk k wr.heap.size) (updN cp k C) k) = _
      rw [fM_congr (g' := gV Vs blk cp) (fun j hj => by unfold gV; rw [updN_lt _ _ _ _ hj, updN_lt _ _ _ _ hj])]
      unfold gV; rw [updN_same, updN_same]
    rw [e]; exact hM2
  · by_cases e : j = k
    · subst e
      rw [updN_same, World.cell?_of_block (w := W1) (hbl _ (by show wr.heap.size ≠ M; omega))]; exact hc i hi
    · rw [updN_lt _ _ _ _ (by omega), World.cell?_of_block (w := W1) (hbl _ (L.ne j (by omega))), hB1.cell (L.lt j (by omega))]
      exact L.cells j (by omega) i hi
  · by_cases e : j = k
    · subst e; rw [updN_same]; omega
    · rw [updN_lt _ _ _ _ (by omega)]; have := L.lt j (by omega); have := hB1.size; omega
  · by_cases e : j = k
    · subst e; rw [updN_same]; omega
    · rw [updN_lt _ _ _ _ (by omega)]; exact L.ne j (by omega)
  · have hb := L.below.trans (hB1.mono L.below.size)
    exact hb.grown hT.grown (Nat.le_trans L.below.size hB1.size) (fun x hx => by cases hx; exact hMw)

theorem LM.keep {w wr w' : World} {Ks Vs : Nat → ByteArray} {M k sz : Nat} {blk cp : Nat → Nat} (L : LM w wr Ks Vs M k sz blk cp) (hb : Below wr.heap.size wr w') : LM w w' Ks Vs M k sz blk cp :=
  ⟨L.mf.block (hb.block _ L.mf.lt), fun j hj i hi => by rw [hb.cell (L.lt j hj)]; exact L.cells j hj i hi, fun j hj => Nat.lt_of_lt_of_le (L.lt j hj) hb.size, L.ne, L.below.trans (hb.mono L.below.size)⟩

/-- What is read of the map at a key of the entries. -/
theorem LM.look {w wr : World} {Ks Vs : Nat → ByteArray} {M k sz : Nat} {blk cp : Nat → Nat} (L : LM w wr Ks Vs M k sz blk cp) {i : Nat} (hi : i < k) (hs : (Ks i).size ≤ maxLen) :
    ∃ g c m, (Instr.lookup 24 (.map (some M)) (.string (Ks i)) true).run Ybaf.prog wr = .ok (.tuple #[.slice (some g) c m, .bool true]) wr := by
  obtain ⟨j, hj, h⟩ := fM_some (Ks := Ks) (g := gV Vs blk cp) hi
  have := L.mf.look (Ks i) hs
  rw [h] at this
  exact ⟨_, _, _, this⟩

theorem LM.back {w wr : World} {Ks Vs : Nat → ByteArray} {M k sz : Nat} {blk cp : Nat → Nat} (L : LM w wr Ks Vs M k sz blk cp) {j : Nat} (hj : j < k) :
    (convert 26 9 (gV Vs blk cp j)).run Ybaf.prog wr.drew = .ok (.string (Vs j)) wr.drew := by
  have hl : (Vs j).data.toList.length = (Vs j).size := by rw [Array.length_toList]; rfl
  have h := run_convert_bytes_back (P := Ybaf.prog) wr.drew 26 9 5 ⟨blk j, 0, none⟩ (cp j) (Vs j).data.toList Ybaf.underlying26 Ybaf.underlying5 Ybaf.underlying9 (fun i hi => by
    have hi' : i < (Vs j).data.size := by simpa using hi
    have := L.cells j hj i hi'
    have e : (⟨blk j, 0, none⟩ : Addr).add i = ⟨blk j, i, none⟩ := by
      unfold Addr.add
      by_cases h0 : i = 0
      · simp [h0]
      · simp [h0]
    rw [e]
    show wr.cell? _ = _
    rw [this]; simp)
  rw [hl] at h
  unfold gV
  rw [h]

set_option maxRecDepth 10000 in
set_option maxHeartbeats 1000000 in
theorem law_any (F : Interp) (nm qn : ByteArray) (a : Option Addr) (b off n cap : Nat) (pick : Int) (Ks Vs : Nat → ByteArray) (w : World) (hF : F.answers w.tape) (hn : n ≤ 65536) (ha : 0 < n → a = some ⟨b, off, none⟩)
    (hK : ∀ j, j < n → w.cell? ⟨b, off + j * 2, none⟩ = some (.string (Ks j))) (hV : ∀ j, j < n → w.cell? ⟨b, off + j * 2 + 1, none⟩ = some (.string (Vs j)))
    (hKs : ∀ j, j < n → (Ks j).size ≤ maxLen) (hq : qn.size ≤ maxLen) (hp : 0 ≤ pick ∧ pick ≤ 18446744073709551615) :
    Calls Ybaf.prog 3 #[.string nm, .slice a n cap, .string qn, .int .u64 pick] w fun e w' => e = .returned (.bool true) ∧ Below w.heap.size w w' := by
  have hmm := @run_makeMap Ybaf.prog
  have hcv := fun w s => run_bytes_of_string (P := Ybaf.prog) w 9 26 5 s Ybaf.underlying9 Ybaf.underlying26 Ybaf.underlying5
  go_enter Ybaf.func3, Ybaf.ntmps3
  go_wp2_with fail
  go_loopw [10] (fun i wr => ∃ k sz blk cp, i = .int .i64 (k : Nat) ∧ k ≤ n ∧ LM w wr Ks Vs w.heap.size k sz blk cp) (fun i _ => n - (intOf i).toNat)
  case atStart => exact ⟨0, 0, fun _ => 0, fun _ => 0, rfl, Nat.zero_le _, MF.made w, fun j hj => by omega, fun j hj => by omega, fun j hj => by omega, (Below.refl _ _).alloc (Nat.le_refl _) _⟩
  case round =>
    obtain ⟨k, sz, blk, cp, rfl, hk, L⟩ := hrel
    by_cases hlt : k < n
    · have hbl : b < w.heap.size := block_lt_of_cell (hK k hlt)
      have ck : wr.cell? ⟨b, off + k * 2, none⟩ = some (.string (Ks k)) := by rw [L.below.cell hbl]; exact hK k hlt
      have cv : wr.cell? ⟨b, off + k * 2 + 1, none⟩ = some (.string (Vs k)) := by rw [L.below.cell hbl]; exact hV k hlt
      obtain rfl := ha (by omega)
      have hib : (k : Int) < (n : Int) := by omega
      have hblr : b < wr.heap.size := Nat.lt_of_lt_of_le hbl L.below.size
      obtain ⟨C, hC⟩ : ∃ C, C = grownCap wr.drew (Vs k).size 0 5 := ⟨_, rfl⟩
      obtain ⟨W1, hW1⟩ : ∃ W1, W1 = (wr.alloc (.cells (bytesRow (Vs k) C) 5 ((bytesRow (Vs k) C).size, (bytesRow (Vs k) C).size + 1))).drew.drew := ⟨_, rfl⟩
      have hB1 : Below wr.heap.size wr W1 := by rw [hW1]; exact (((Below.refl _ wr).alloc (Nat.le_refl _) _).drew).drew
      obtain ⟨w2, hst, ⟨sz2, hM2⟩, hT2⟩ := (L.mf.block (hB1.block _ L.mf.lt)).store (by unfold maxLen; omega) (Ks k) (hKs k hlt) (.slice (some ⟨wr.heap.size, 0, none⟩) (Vs k).size C)
      rw [hW1, hC] at hst
      go_wp2_with fail
      go_region
      have L2 : LM w w2 Ks Vs w.heap.size (k + 1) sz2 (updN blk k wr.heap.size) (updN cp k C) := L.step (Nat.le_refl _) hB1 (fun i hi => by
        rw [hW1]
        show (wr.alloc _).cell? _ = _
        rw [World.cell?_alloc_mark]; exact bytesRow_at _ _ _ hi) (by rw [hW1]; simp [World.drew]) hT2 hM2
      clear hst hW1 hC hT2 hM2
      go_wp2_with fail
      go_roundw
      case rel => exact ⟨k + 1, _, _, _, by go_num, by omega, L2⟩
      case measure => simp [intOf]; omega
    · have hkn : k = n := by omega
      subst hkn
      clear hlt hk hmm hcv
      obtain ⟨sel, hsel, hsl⟩ : ∃ sel : Nat, pick % ((k : Int) + 1) = (sel : Int) ∧ sel ≤ k := by
        have h1 := Int.emod_nonneg pick (show ((k : Int) + 1) ≠ 0 by omega)
        have h2 := Int.emod_lt_of_pos pick (show (0 : Int) < (k : Int) + 1 by omega)
        exact ⟨(pick % ((k : Int) + 1)).toNat, by omega, by omega⟩
      have hcK : Hid (∀ j, j < k → wr.cell? ⟨b, off + j * 2, none⟩ = some (.string (Ks j))) := fun j hj => by rw [L.below.cell (show b < w.heap.size from block_lt_of_cell (hK j hj))]; exact hK j hj
      have hcV : Hid (∀ j, j < k → w.cell? ⟨b, off + j * 2 + 1, none⟩ = some (.string (Vs j))) := hV
      have hcW : Hid (∀ j, j < k → w.cell? ⟨b, off + j * 2, none⟩ = some (.string (Ks j))) := hK
      clear hV hK
      by_cases hsk : sel < k
      · obtain rfl := ha (by omega)
        have hcs := hcK.out sel hsk
        have hsi : (sel : Int) < (k : Int) := by omega
        obtain ⟨q, hqe⟩ : ∃ q, q = Ks sel := ⟨_, rfl⟩
        have hqs : q.size ≤ maxLen := by rw [hqe]; exact hKs sel hsk
        rw [← hqe] at hcs
        clear hqe
        go_upto_block 2 with fail
        simp only [hsel]
        clear hsel hp
        go_cut [13, 14] (fun fv _ wc => wc = wr ∧ ∃ fnd : Int, fv = .int .i64 fnd ∧ Hid ((fnd = -1 ∧ ∀ j, j < k → Ks j ≠ q) ∨ ∃ j, j < k ∧ fnd = (j : Int) ∧ Ks j = q ∧ ∀ i, j < i → i < k → Ks i ≠ q))
        case first =>
          go_wp2_with fail
          go_loop [13, 14] (fun gv fv => ∃ t : Int, gv = .int .i64 (-1) ∧ fv = .int .i64 t ∧ Hid (∃ m : Nat, m ≤ k ∧ t = (m : Int) - 1 ∧ ∀ i, m ≤ i → i < k → Ks i ≠ q)) (fun _ fv => (intOf fv + 1).toNat)
          case atStart => exact ⟨_, rfl, rfl, k, Nat.le_refl _, rfl, fun i h1 h2 => by omega⟩
          case round =>
            obtain ⟨t, rfl, rfl, m, hm, ht, hno⟩ := hrel
            have hno' : Hid (∀ i, m ≤ i → i < k → Ks i ≠ q) := hno
            clear hno
            by_cases hm0 : m = 0
            · have ht' : t = -1 := by omega
              subst ht'
              subst hm0
              clear ht
              go_wp2_with fail
              go_meet
              case rel => exact ⟨rfl, _, rfl, .inl ⟨rfl, fun j hj => hno'.out j (by omega) hj⟩⟩
            · obtain ⟨j, rfl⟩ : ∃ j : Nat, t = (j : Int) := ⟨m - 1, by omega⟩
              have hjk : j < k := by omega
              have hmj : m = j + 1 := by omega
              subst hmj
              first
                | obtain rfl := ha (by omega)
                | skip
              have hcj := hcK.out j hjk
              have hji : (j : Int) < (k : Int) := by omega
              obtain ⟨kj, hkj⟩ : ∃ kj, kj = Ks j := ⟨_, rfl⟩
              rw [← hkj] at hcj
              have HKJ : Hid (kj = Ks j) := hkj
              clear hkj ht
              by_cases hjq : kj = q
              · subst hjq
                go_wp2_with fail
                go_meet
                case rel => exact ⟨rfl, _, rfl, .inr ⟨j, hjk, rfl, HKJ.out.symm, fun i h1 h2 => hno'.out i (by omega) h2⟩⟩
              · have hsn := str_ne hjq
                go_wp2_with fail
                go_round
                case rel => exact ⟨_, rfl, rfl, j, by omega, by go_num, fun i h1 h2 => by
                  by_cases e : i = j
                  · rw [e, ← HKJ.out]; exact hjq
                  · exact hno'.out i (by omega) h2⟩
                case measure => simp [intOf]
        case rest =>
          obtain ⟨rfl, fnd, rfl, hfnd⟩ := hcut
          have hlen := fun ty => L.mf.len ty
          have hB30 : Below wc.heap.size wc (wc.alloc (.cells #[.string nm, .map (some w.heap.size)] 30)) := (Below.refl _ wc).alloc (Nat.le_refl _) _
          have L30 := L.keep hB30
          have hsz := L.mf.size_le
          have heq := fun w' => Lib.run_eql_slice_nil (P := Ybaf.prog) w' 26
          go_wp2_with fail
          rcases hfnd with ⟨hf1, hno⟩ | ⟨j, hjk, hf1, hjq, hno⟩
          · subst hf1
            refine (field_miss F nm _ _ _ _ q _ (by rw [show (wc.alloc (.cells #[.string nm, .map (some w.heap.size)] 30)).tape = w.tape from L30.below.tape]; exact hF) L30.mf hqs (fM_none hno)).mono ?_
            rintro e w5 ⟨⟨t, x, rfl⟩, hb5⟩
            have L5 := L30.keep hb5
            have hlen5 := fun ty => L5.mf.len ty
            have HNO : Hid (∀ j, j < k → Ks j ≠ q) := hno
            clear hno hlen hB30 L30
            go_wp2_with fail
            clear hlen5
            go_loop [19] (fun iv => ∃ i : Nat, iv = .int .i64 i ∧ i ≤ k) (fun iv => k - (intOf iv).toNat)
            case atStart => exact ⟨0, rfl, Nat.zero_le _⟩
            case round =>
              obtain ⟨i, rfl, hi⟩ := hrel
              by_cases hik : i < k
              · first
                  | obtain rfl := ha (by omega)
                  | skip
                have hci : w5.cell? ⟨b, off + i * 2, none⟩ = some (.string (Ks i)) := by rw [L5.below.cell (show b < w.heap.size from block_lt_of_cell (hcW.out i hik))]; exact hcW.out i hik
                obtain ⟨g, c, m, hlk⟩ := L5.look hik (hKs i hik)
                have hii : (i : Int) < (k : Int) := by omega
                obtain ⟨ki, hki⟩ : ∃ ki, ki = Ks i := ⟨_, rfl⟩
                rw [← hki] at hci hlk
                clear hki
                go_wp2_with fail
                go_round
                case rel => exact ⟨i + 1, by go_num, by omega⟩
                case measure => simp [intOf]; omega
              · have hik' : i = k := by omega
                subst hik'
                clear hik hi
                go_wp2_with fail
                go_ret
                exact ⟨rfl, L5.below⟩
          · subst hf1
            have hfq : fM Ks (gV Vs blk cp) k q = some (gV Vs blk cp j) := fM_last hjq hjk hno
            refine (field_hit nm _ _ _ _ q (gV Vs blk cp j) _ L30.mf hqs hfq).mono ?_
            rintro e w5 ⟨rfl, hb5⟩
            have L5 := L30.keep hb5
            have hlen5 := fun ty => L5.mf.len ty
            have hback := L5.back hjk
            unfold gV at hback ⊢
            clear hno hlen hB30 L30 hfq
            go_wp2_with fail
            clear hlen5
            go_loop [19] (fun iv => ∃ i : Nat, iv = .int .i64 i ∧ i ≤ k) (fun iv => k - (intOf iv).toNat)
            case atStart => exact ⟨0, rfl, Nat.zero_le _⟩
            case round =>
              obtain ⟨i, rfl, hi⟩ := hrel
              by_cases hik : i < k
              · first
                  | obtain rfl := ha (by omega)
                  | skip
                have hci : w5.cell? ⟨b, off + i * 2, none⟩ = some (.string (Ks i)) := by rw [L5.below.cell (show b < w.heap.size from block_lt_of_cell (hcW.out i hik))]; exact hcW.out i hik
                obtain ⟨g, c, m, hlk⟩ := L5.look hik (hKs i hik)
                have hii : (i : Int) < (k : Int) := by omega
                obtain ⟨ki, hki⟩ : ∃ ki, ki = Ks i := ⟨_, rfl⟩
                rw [← hki] at hci hlk
                clear hki
                go_wp2_with fail
                go_round
                case rel => exact ⟨i + 1, by go_num, by omega⟩
                case measure => simp [intOf]; omega
              · have hik' : i = k := by omega
                subst hik'
                clear hik hi
                first
                  | obtain rfl := ha (by omega)
                  | skip
                have hcj : w5.cell? ⟨b, off + j * 2 + 1, none⟩ = some (.string (Vs j)) := by rw [L5.below.cell (show b < w.heap.size from block_lt_of_cell (hcV.out j hjk))]; exact hcV.out j hjk
                have hjj : (j : Int) < (i : Int) := by omega
                have hjn : ¬ (j : Int) < 0 := by omega
                go_wp2_with fail
                go_region
                go_wp2_with fail
                go_ret
                exact ⟨by simp, L5.below.drew⟩
      · have hsi : ¬ (sel : Int) < (k : Int) := by omega
        go_upto_block 2 with fail
        simp only [hsel]
        clear hsel hp
        go_cut [13, 14] (fun fv _ wc => wc = wr ∧ ∃ fnd : Int, fv = .int .i64 fnd ∧ Hid ((fnd = -1 ∧ ∀ j, j < k → Ks j ≠ qn) ∨ ∃ j, j < k ∧ fnd = (j : Int) ∧ Ks j = qn ∧ ∀ i, j < i → i < k → Ks i ≠ qn))
        case first =>
          go_wp2_with fail
          go_loop [13, 14] (fun gv fv => ∃ t : Int, gv = .int .i64 (-1) ∧ fv = .int .i64 t ∧ Hid (∃ m : Nat, m ≤ k ∧ t = (m : Int) - 1 ∧ ∀ i, m ≤ i → i < k → Ks i ≠ qn)) (fun _ fv => (intOf fv + 1).toNat)
          case atStart => exact ⟨_, rfl, rfl, k, Nat.le_refl _, rfl, fun i h1 h2 => by omega⟩
          case round =>
            obtain ⟨t, rfl, rfl, m, hm, ht, hno⟩ := hrel
            have hno' : Hid (∀ i, m ≤ i → i < k → Ks i ≠ qn) := hno
            clear hno
            by_cases hm0 : m = 0
            · have ht' : t = -1 := by omega
              subst ht'
              subst hm0
              clear ht
              go_wp2_with fail
              go_meet
              case rel => exact ⟨rfl, _, rfl, .inl ⟨rfl, fun j hj => hno'.out j (by omega) hj⟩⟩
            · obtain ⟨j, rfl⟩ : ∃ j : Nat, t = (j : Int) := ⟨m - 1, by omega⟩
              have hjk : j < k := by omega
              have hmj : m = j + 1 := by omega
              subst hmj
              first
                | obtain rfl := ha (by omega)
                | skip
              have hcj := hcK.out j hjk
              have hji : (j : Int) < (k : Int) := by omega
              obtain ⟨kj, hkj⟩ : ∃ kj, kj = Ks j := ⟨_, rfl⟩
              rw [← hkj] at hcj
              have HKJ : Hid (kj = Ks j) := hkj
              clear hkj ht
              by_cases hjq : kj = qn
              · subst hjq
                go_wp2_with fail
                go_meet
                case rel => exact ⟨rfl, _, rfl, .inr ⟨j, hjk, rfl, HKJ.out.symm, fun i h1 h2 => hno'.out i (by omega) h2⟩⟩
              · have hsn := str_ne hjq
                go_wp2_with fail
                go_round
                case rel => exact ⟨_, rfl, rfl, j, by omega, by go_num, fun i h1 h2 => by
                  by_cases e : i = j
                  · rw [e, ← HKJ.out]; exact hjq
                  · exact hno'.out i (by omega) h2⟩
                case measure => simp [intOf]
        case rest =>
          obtain ⟨rfl, fnd, rfl, hfnd⟩ := hcut
          have hlen := fun ty => L.mf.len ty
          have hB30 : Below wc.heap.size wc (wc.alloc (.cells #[.string nm, .map (some w.heap.size)] 30)) := (Below.refl _ wc).alloc (Nat.le_refl _) _
          have L30 := L.keep hB30
          have hsz := L.mf.size_le
          have heq := fun w' => Lib.run_eql_slice_nil (P := Ybaf.prog) w' 26
          go_wp2_with fail
          rcases hfnd with ⟨hf1, hno⟩ | ⟨j, hjk, hf1, hjq, hno⟩
          · subst hf1
            refine (field_miss F nm _ _ _ _ qn _ (by rw [show (wc.alloc (.cells #[.string nm, .map (some w.heap.size)] 30)).tape = w.tape from L30.below.tape]; exact hF) L30.mf hq (fM_none hno)).mono ?_
            rintro e w5 ⟨⟨t, x, rfl⟩, hb5⟩
            have L5 := L30.keep hb5
            have hlen5 := fun ty => L5.mf.len ty
            have HNO : Hid (∀ j, j < k → Ks j ≠ qn) := hno
            clear hno hlen hB30 L30
            go_wp2_with fail
            clear hlen5
            go_loop [19] (fun iv => ∃ i : Nat, iv = .int .i64 i ∧ i ≤ k) (fun iv => k - (intOf iv).toNat)
            case atStart => exact ⟨0, rfl, Nat.zero_le _⟩
            case round =>
              obtain ⟨i, rfl, hi⟩ := hrel
              by_cases hik : i < k
              · first
                  | obtain rfl := ha (by omega)
                  | skip
                have hci : w5.cell? ⟨b, off + i * 2, none⟩ = some (.string (Ks i)) := by rw [L5.below.cell (show b < w.heap.size from block_lt_of_cell (hcW.out i hik))]; exact hcW.out i hik
                obtain ⟨g, c, m, hlk⟩ := L5.look hik (hKs i hik)
                have hii : (i : Int) < (k : Int) := by omega
                obtain ⟨ki, hki⟩ : ∃ ki, ki = Ks i := ⟨_, rfl⟩
                rw [← hki] at hci hlk
                clear hki
                go_wp2_with fail
                go_round
                case rel => exact ⟨i + 1, by go_num, by omega⟩
                case measure => simp [intOf]; omega
              · have hik' : i = k := by omega
                subst hik'
                clear hik hi
                go_wp2_with fail
                go_ret
                exact ⟨rfl, L5.below⟩
          · subst hf1
            have hfq : fM Ks (gV Vs blk cp) k qn = some (gV Vs blk cp j) := fM_last hjq hjk hno
            refine (field_hit nm _ _ _ _ qn (gV Vs blk cp j) _ L30.mf hq hfq).mono ?_
            rintro e w5 ⟨rfl, hb5⟩
            have L5 := L30.keep hb5
            have hlen5 := fun ty => L5.mf.len ty
            have hback := L5.back hjk
            unfold gV at hback ⊢
            clear hno hlen hB30 L30 hfq
            go_wp2_with fail
            clear hlen5
            go_loop [19] (fun iv => ∃ i : Nat, iv = .int .i64 i ∧ i ≤ k) (fun iv => k - (intOf iv).toNat)
            case atStart => exact ⟨0, rfl, Nat.zero_le _⟩
            case round =>
              obtain ⟨i, rfl, hi⟩ := hrel
              by_cases hik : i < k
              · first
                  | obtain rfl := ha (by omega)
                  | skip
                have hci : w5.cell? ⟨b, off + i * 2, none⟩ = some (.string (Ks i)) := by rw [L5.below.cell (show b < w.heap.size from block_lt_of_cell (hcW.out i hik))]; exact hcW.out i hik
                obtain ⟨g, c, m, hlk⟩ := L5.look hik (hKs i hik)
                have hii : (i : Int) < (k : Int) := by omega
                obtain ⟨ki, hki⟩ : ∃ ki, ki = Ks i := ⟨_, rfl⟩
                rw [← hki] at hci hlk
                clear hki
                go_wp2_with fail
                go_round
                case rel => exact ⟨i + 1, by go_num, by omega⟩
                case measure => simp [intOf]; omega
              · have hik' : i = k := by omega
                subst hik'
                clear hik hi
                first
                  | obtain rfl := ha (by omega)
                  | skip
                have hcj : w5.cell? ⟨b, off + j * 2 + 1, none⟩ = some (.string (Vs j)) := by rw [L5.below.cell (show b < w.heap.size from block_lt_of_cell (hcV.out j hjk))]; exact hcV.out j hjk
                have hjj : (j : Int) < (i : Int) := by omega
                have hjn : ¬ (j : Int) < 0 := by omega
                go_wp2_with fail
                go_region
                go_wp2_with fail
                go_ret
                exact ⟨by simp, L5.below.drew⟩
end Go.Proofs.YbulkdkzmFmt

import Derived.Test.YbulkdlaaNs3
import Derived.Deep.RegionLaw
namespace Go.Proofs.Ybulkdlaa
set_option linter.unusedVariables false
set_option linter.unusedSimpArgs false
open Go.RowKit

/-- append to a row that the slice owns, as one step of a region that draws. -/
theorem step_append_own {P : Program} {ops : Array Oper} {o : Oper} {a : Act} {w : World} {K : Act → World → Prop} {Q : Exit → Act → World → Prop} {E : Prop}
    (hgd : o.guard = none) (s x : Operand) (t : TypeId) (ho : o.op = .call { callee := .builtin .append, args := #[s, x], argTypes := #[t, t] })
    (base : Nat) (e : TypeId) (i : TypeInfo) (z : Value) (size bytes : Nat) (ht : P.underlying t = some (.slice e)) (hi : P.info? e = some i) (hz : i.zero = some z)
    (hsize : i.size = size) (hby : i.bytes = bytes) (hzs : z.cells.size = size) (hsz : 0 < size)
    (v : Value) (n : Nat) (xs : List Value) (hs : a.eval s = v) (hown : w.ownsRow base e size v n xs)
    (ad : Addr) (m c : Nat) (news : List Value) (hx : a.eval x = .slice (some ad) m c) (hl : news.length = m * size) (hnews : ∀ j u, news[j]? = some u → w.cell? (ad.add j) = some u) (h1 : ∀ u ∈ news, u.oneCell' = true)
    (h63 : n + m ≤ maxLen) (hbytes : (n + m) * bytes ≤ 140737488355328) (hbase : base ≤ w.heap.size)
    (h : ∀ v' w', w'.ownsRow base e size v' (n + m) (xs ++ news) → w.grownBy w' v.ownBlock → (v' = .slice none 0 0 ↔ v = .slice none 0 0 ∧ m = 0) → (v'.ownBlock = v.ownBlock ∨ v'.ownBlock = some w.heap.size) → K (a.put o.dst v') w') :
    if Region.wanted o (yielded ops a.tmps) = true then Oper.wp P o a w K Q else E := by
  have hw : Region.wanted o (yielded ops a.tmps) = true := by simp [Region.wanted, hgd]
  rw [if_pos hw]
  obtain ⟨v', w', hr, h2, h3, h4, h5⟩ := run_append_own_at (P := P) w base t o.type e i z size bytes ht hi hz hsize hby hzs hsz v n xs hown ad m c news hl hnews h1 h63 hbytes hbase
  unfold Oper.wp execOp
  simp only [ho, resolve, invoke, builtin, Sem.run_bind, Sem.run_pure, Result.andThen_ok, List.map_toArray, List.map_cons, List.map_nil, hs, hx, hr]
  exact h v' w' h2 h3 h4 h5

namespace N2
variable {w wr w' : World} {R G : Nat} {gc : Array Value} {vm vdm : Value} {dm : DM} {va : Value} {dn : DN} {N : Nat} {fa : ByteArray → Option Value} {na sza : Nat}

/-- A key is appended to entry t's row, and the row's new slice is laid into the entry. -/
theorem addKey {g cap m t b n : Nat} {ns : ByteArray} {keys : List RK} {sv v' : Value} {x : RK} {o : Obj} (L : N2 w wr R G gc vm vdm dm va (.slice (some ⟨g, 0, none⟩) m cap) dn N fa na sza (some t)) (hml : m = dn.length) (ht : dn[t]? = some ⟨ns, false, keys, sv, some b⟩)
    (hown : w'.ownsRow 0 51 3 v' (keys.length + 1) (keys.flatMap encK ++ encK x)) (hg : (wr.alloc o).grownBy w' sv.ownBlock) (hloc : v'.ownBlock = sv.ownBlock ∨ v'.ownBlock = some (wr.heap.size + 1))
    (hm : MG kv 51 wr b n (fsOf (keys ++ [x])) (keys.length + 1)) (hn : n ≤ N) (hx : x ∉ keys) (hfx : fits x) (hnd : keys.Nodup) (hfit : ∀ y, y ∈ keys → fits y) :
    N2 w (w'.setCell ⟨g, t * 3 + 2, none⟩ v') R G gc vm vdm dm va (.slice (some ⟨g, 0, none⟩) m cap) (dn.set t ⟨ns, false, keys ++ [x], v', some b⟩) N fa na sza none := by
  subst hml
  have hk0 := kp_grown hg
  have hgs : sv.ownBlock ≠ some g := fun h => (L.neN (g := g) rfl).2.2.2.2.2.2 t _ ht h
  have hgl : g < wr.heap.size := L.nrow.lt rfl
  have hrow' : OR encN 3 w' 65 (.slice (some ⟨g, 0, none⟩) dn.length cap) dn := L.nrow.block (fun z hz => by
    simp [Value.ownBlock] at hz; subst hz
    exact hk0.block _ hgl hgs)
  have r1 := OR.store hrow' encN_len rfl ht (r := 2) (b' := ⟨ns, false, keys ++ [x], v', some b⟩) (u := v') (by omega) rfl
  have hk : Kp (fun z => (Value.slice (some ⟨g, 0, none⟩) dn.length cap).ownBlock = some z ∨ sv.ownBlock = some z) wr (w'.setCell ⟨g, t * 3 + 2, none⟩ v') := (hk0.wider (fun z _ hz => .inr hz)).setCell (.inl (.inl rfl)) _
  have hnI := L.neI ht rfl
  have hbl : b < wr.heap.size := hm.lt
  have hbb : (w'.setCell ⟨g, t * 3 + 2, none⟩ v').heap[b]? = wr.heap[b]? := hk.block _ hbl (by
    rintro (h | h)
    · exact hnI.2.2.2.2.1 h
    · exact hnI.2.2.2.2.2.2.2 t _ ht h)
  have hm' := hm.block hbb
  have hvg : v'.ownBlock ≠ some g := by
    rcases hloc with h | h
    · rw [h]; exact hgs
    · rw [h]; simp; omega
  have hown2 : OR encK 3 (w'.setCell ⟨g, t * 3 + 2, none⟩ v') 51 v' (keys ++ [x]) := (OR.snoc hown).block (fun z hz => RowKit.Below.heap_setCell _ _ _ _ (fun e' => hvg (by have e2 : z = g := e'; rw [← e2]; exact hz)))
  have L2 := L.setEntry ht (.inr rfl) hk (fun z hz => hz) r1 rfl (fun b' hb' => by
    cases hb'
    obtain ⟨g1, g2, g3, _⟩ := L.sep t _ b ht rfl
    exact ⟨g1, g2, g3, hm'.isMap, fun i f hf hi h' => hi (hnI.2.2.2.2.2.2.1 i f hf h')⟩) (fun z hz => by
    refine ⟨?_, hown2.obj hz, fun i f hf hi h' => ?_⟩
    · rcases hloc with h | h
      · exact (L.rsep t _ z ht (by rw [← h]; exact hz)).1
      · rw [h] at hz; simp at hz; have := L.below.size; omega
    · rcases hloc with h | h
      · exact hi (L.rinj i t f _ z hf ht h' (by rw [← h]; exact hz))
      · rw [h] at hz
        simp at hz
        obtain ⟨_, cur, hc⟩ := L.rsep i f z hf h'
        have := olt hc
        omega)
  refine L2.attach (get_set_same ht) ⟨hown2, ?_, fun y hy => ?_, .inr ⟨rfl, b, n, rfl, hn, ?_⟩⟩
  · refine List.nodup_append.2 ⟨hnd, by simp, fun p hp q hq e' => ?_⟩
    simp at hq
    exact hx (by rw [← hq, ← e']; exact hp)
  · rcases List.mem_append.1 hy with h | h
    · exact hfit y h
    · simp at h; rw [h]; exact hfx
  · simpa using hm'
end N2
end Go.Proofs.Ybulkdlaa

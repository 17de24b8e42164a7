import Derived.Test.YbulkdlaaFin
namespace Go.Proofs.Ybulkdlaa
set_option linter.unusedVariables false
set_option linter.unusedSimpArgs false
open Go.RowKit

theorem wrap64_i64 (n : Int) : IntKind.i64.wrap n = wrap64 n := by
  have hb : IntKind.i64.bits = 64 := rfl
  have hs : IntKind.i64.signed = true := rfl
  unfold wrap64
  simp only [IntKind.wrap, hb, hs, Bool.true_and]
  simp
  split <;> omega

/-- An index drawn from pick. -/
theorem picked (pick : Int) (d : Nat) (hd : 0 < d) (hp : 0 ≤ pick ∧ pick ≤ 65535) (j : Nat) (hj : 0 < j) : ∃ m : Nat, (wrap64 (IntKind.u16.wrap (pick.tdiv d))).tmod (j : Int) = (m : Int) ∧ m < j := by
  obtain ⟨p, rfl⟩ : ∃ p : Nat, pick = (p : Int) := ⟨pick.toNat, by omega⟩
  have hpd : p / d ≤ p := Nat.div_le_self _ _
  have h1 : (p : Int).tdiv (d : Int) = ((p / d : Nat) : Int) := by rw [Int.ofNat_tdiv]
  rw [h1]
  have h2 : IntKind.u16.wrap ((p / d : Nat) : Int) = ((p / d : Nat) : Int) := by
    have : p / d ≤ 65535 := by omega
    generalize p / d = q at *
    have hb : IntKind.u16.bits = 16 := rfl
    have hs : IntKind.u16.signed = false := rfl
    simp [IntKind.wrap, hb, hs]
    omega
  rw [h2]
  have h3 : wrap64 ((p / d : Nat) : Int) = ((p / d : Nat) : Int) := by
    have : p / d ≤ 65535 := by omega
    generalize p / d = q at *
    unfold wrap64
    omega
  rw [h3]
  exact ⟨(p / d) % j, by rw [Int.ofNat_tmod], Nat.mod_lt _ hj⟩

theorem boxset {w : World} {K0 : Nat} {cur : Array Value} {t : TypeId} {fr : Nat × Nat} (h : w.heap[K0]? = some (.cells cur t fr)) (o : Nat) (v : Value) : (w.setCell ⟨K0, o, none⟩ v).heap[K0]? = some (.cells (cur.setIfInBounds o v) t fr) := by
  simp [World.setCell, Array.getElem?_modify, h]

theorem box3 {w : World} {K0 : Nat} {a b c : Value} (h : w.heap[K0]? = some (.cells #[a, b, c] 51)) (u v z : Value) :
    (((w.setCell ⟨K0, 0, none⟩ u).setCell ⟨K0, 1, none⟩ v).setCell ⟨K0, 2, none⟩ z).heap[K0]? = some (.cells #[u, v, z] 51) :=
  boxset (boxset (boxset h 0 u) 1 v) 2 z
theorem undrew {w w' : World} {r : Option Nat} (h : w.drew.grownBy w' r) : w.grownBy w' r := ⟨h.os, h.tape, h.output, h.size, h.block⟩
theorem zero59 (w : World) : (zeroValue 59).run Yba.prog w = .ok (hv (⟨#[]⟩, ⟨#[]⟩, ⟨#[]⟩) 0) w := by kernel_rfl

theorem wantM_take {dm : DM} {s : Nat} {p : RK × Int} {k : RK} (h : dm[s]? = some p) : wantM (dm.take (s + 1)) k = wantM (dm.take s) k + if p.1 = k then 0 else 1 := by
  unfold wantM
  rw [List.take_add_one, h, List.filter_append, List.length_append]
  by_cases e : p.1 = k
  · simp [e]
  · simp [e]

theorem wantN_take {dn : DN} {s : Nat} {e : NE} {k : RK} (h : dn[s]? = some e) : wantN k (dn.take (s + 1)) = wantN k (dn.take s) + if gone k e = true then 0 else 1 := by
  unfold wantN
  rw [List.take_add_one, h, List.filter_append, List.length_append]
  cases e : gone k e <;> simp [e]

/-- What the lookup of a held record reads. -/
theorem Fin2.look {w wr w' : World} {R K0 : Nat} {k : RK} {vm vdm : Value} {dm : DM} {va vdn : Value} {dn : DN} (F : Fin2 w wr R K0 k vm vdm dm va vdn dn) {p : RK × Int} (hp : p ∈ dm) (hpk : p.1 ≠ k) (hk : Kp (fun _ => False) wr w') :
    w'.cell? ⟨R, 2, none⟩ = some vm ∧ (Instr.lookup 38 vm (.agg #[.string p.1.1, .string p.1.2.1, .string p.1.2.2]) true).run Yba.prog w' = .ok (.tuple #[hv p.1 p.2, .bool true]) w' := by
  have F' := F.same hk
  refine ⟨F'.rb.m, ?_⟩
  obtain ⟨kl, hkl⟩ := key_of51 p.1 (F.fit p hp)
  have h := F'.m.look keyed51 Yba.underlying38 (zero59 _) hkl
  unfold delM at h
  rw [if_neg hpk, fmOf_mem F.nod hp] at h
  exact h

theorem Fin2.lookK {w wr w' : World} {R K0 : Nat} {k : RK} {vm vdm : Value} {dm : DM} {va vdn : Value} {dn : DN} (F : Fin2 w wr R K0 k vm vdm dm va vdn dn) (hk : Kp (fun _ => False) wr w') :
    w'.cell? ⟨R, 2, none⟩ = some vm ∧ w'.cell? ⟨K0, 0, none⟩ = some (.string k.1) ∧ w'.cell? ⟨K0, 1, none⟩ = some (.string k.2.1) ∧ w'.cell? ⟨K0, 2, none⟩ = some (.string k.2.2) ∧ (Instr.lookup 38 vm (.agg #[.string k.1, .string k.2.1, .string k.2.2]) true).run Yba.prog w' = .ok (.tuple #[hv (⟨#[]⟩, ⟨#[]⟩, ⟨#[]⟩) 0, .bool false]) w' := by
  have F' := F.same hk
  have hb := F'.box
  refine ⟨F'.rb.m, by simp [World.cell?, hb], by simp [World.cell?, hb], by simp [World.cell?, hb], ?_⟩
  obtain ⟨kl, hkl⟩ := key_of51 k F.kfit
  have h := F'.m.look keyed51 Yba.underlying38 (zero59 _) hkl
  unfold delM at h
  rw [if_pos rfl] at h
  exact h
end Go.Proofs.Ybulkdlaa

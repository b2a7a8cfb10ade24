/-
  The steps of the encoder's Write, outside the walk.
-/
import Derived.Test.YtfonpcfcelahdaaDoorEncSt
namespace Go.Proofs.YtfonpcfcelahdaaDoor
open Go.RowKit

/-- The slice '.slice A r c' lies in block pb and holds the bytes ys. -/
def Pin (w : World) (pb : Nat) (A : Option Addr) (r c : Nat) (ys : List Int) : Prop :=
  ys.length = r ∧ r ≤ c ∧ c ≤ maxLen ∧ AllBytes ys ∧ (0 < r → ∃ o, A = some ⟨pb, o, none⟩ ∧ Has w pb o ys)

section
variable {w w' w1 w2 w3 wr : World} {pb eb bb r c : Nat} {A : Option Addr} {v v' : Value} {ys zs dn bf : List Int}

theorem Pin.same (h : Pin w pb A r c ys) (e : w'.heap[pb]? = w.heap[pb]?) : Pin w' pb A r c ys :=
  ⟨h.1, h.2.1, h.2.2.1, h.2.2.2.1, fun hp => by
    obtain ⟨o, ha, hh⟩ := h.2.2.2.2 hp
    exact ⟨o, ha, hh.same e⟩⟩
theorem Pin.src {B : Nat} (h : Pin w pb A r c ys) (hB : pb < B) : Src w B A r c ys :=
  ⟨h.1, h.2.1, h.2.2.1, h.2.2.2.1, fun hp => by
    obtain ⟨o, ha, hh⟩ := h.2.2.2.2 hp
    exact ⟨pb, o, ha, hB, fun i hi => hh i (by rw [h.1]; exact hi)⟩⟩
theorem Pin.from_ {k : Nat} (h : Pin w pb A r c ys) (hk : k ≤ r) : ∃ A', (∀ (w' : World) (kk : IntKind), (Instr.slice 22 (.slice A r c) (some (.int kk (k : Int))) none none).run Tryd.prog w' = .ok (.slice A' (r - k) (c - k)) w') ∧ Pin w pb A' (r - k) (c - k) (ys.drop k) := by
  obtain ⟨h1, h2, h3, h4, h5⟩ := h
  refine ⟨if c = k then A else A.map (·.add k), fun w' kk => ?_, by rw [List.length_drop, h1], by omega, by omega, h4.drop k, fun hp => ?_⟩
  · have hs : ∀ w : World, (sizeOf (Tryd.prog.elem 22)).run Tryd.prog w = .ok 1 w := fun w => by kernel_rfl
    rw [run_slice_l (P := Tryd.prog) w' 22 A r c (by kernel_rfl) kk (k : Int) (by omega) (by omega), hs]
    simp [sliced, Result.andThen]
  · obtain ⟨o, rfl, hh⟩ := h5 (by omega)
    rw [if_neg (by omega)]
    exact ⟨o + k, by simp [add_off], hh.drop k⟩
theorem Pin.to_ {k : Nat} (h : Pin w pb A r c ys) (hk : k ≤ r) (w' : World) : (Instr.slice 22 (.slice A r c) (some (.int .i64 0)) (some (.int .i64 (k : Int))) none).run Tryd.prog w' = .ok (.slice A k c) w' := by
  have hs : ∀ w : World, (sizeOf (Tryd.prog.elem 22)).run Tryd.prog w = .ok 1 w := fun w => by kernel_rfl
  rw [run_slice_lh (P := Tryd.prog) w' 22 A r c (by kernel_rfl) .i64 .i64 0 (k : Int) (by omega) (by omega) (by have := h.2.1; omega), hs]
  simp [sliced, Result.andThen]
  intro _
  cases A <;> simp [Addr.add]
theorem Pin.far {k off len : Nat} (h : Pin w pb A r c ys) (hk : k ≤ r) (hb : pb ≠ eb) : Far w eb off len A k c (ys.take k) :=
  ⟨by rw [List.length_take, h.1]; omega, by have := h.2.1; omega, h.2.2.1, h.2.2.2.1.take k, fun hp => by
    obtain ⟨o, ha, hh⟩ := h.2.2.2.2 (by omega)
    exact ⟨pb, o, ha, .inl hb, fun i hi => hh.take k i (by rw [List.length_take, h.1]; omega)⟩⟩

/-- The encoder, but for what it keeps. -/
structure ECore (w : World) (eb bb : Nat) (v : Value) (done : List Int) : Prop where
  room : Room w eb 1031
  c0 : w.cell? ⟨eb, 0, none⟩ = some .nilIface
  c1 : w.cell? ⟨eb, 1, none⟩ = some (.iface 52 (.pointer (some ⟨bb, 0, none⟩)))
  bst : BSt w bb v (enc done)
  first : done = [] → v = .slice none 0 0
  div : done.length % 4 = 0
  db : AllBytes done
  n1 : eb ≠ bb
  n2 : v.ownBlock ≠ some eb

theorem ESt.core (h : ESt w eb bb v dn bf) : ECore w eb bb v dn := ⟨h.room, h.c0, h.c1, h.bst, h.first, h.div, h.db, h.n1, h.n2⟩
theorem ECore.full (h : ECore w eb bb v dn) (h1 : Has w eb 2 bf) (h2 : bf.length ≤ 3) (h3 : w.cell? ⟨eb, 6, none⟩ = some (.int .i64 (bf.length : Int))) (h4 : AllBytes bf) : ESt w eb bb v dn bf :=
  ⟨h.room, h.c0, h.c1, h1, h2, h3, h.bst, h.first, h.div, h.db, h4, h.n1, h.n2⟩
theorem ECore.drew (h : ECore w eb bb v dn) : ECore w.drew eb bb v dn := ⟨h.room, h.c0, h.c1, h.bst.drew, h.first, h.div, h.db, h.n1, h.n2⟩
theorem ECore.wrote {off len : Nat} (h : ECore w eb bb v dn) (hw : Wrote w w' eb off len) (ho : 2 ≤ off) : ECore w' eb bb v dn :=
  ⟨h.room.wrote_ hw, (hw.cell h.room (by omega)).trans h.c0, (hw.cell h.room (by omega)).trans h.c1, h.bst.wrote hw h.n1 h.n2, h.first, h.div, h.db, h.n1, h.n2⟩
theorem ECore.ne (h : ECore w eb bb v dn) : 0 < (enc dn).length ∨ v = .slice none 0 0 := by
  by_cases h0 : dn = []
  · exact .inr (h.first h0)
  · exact .inl (enc_pos (List.length_pos_iff.2 h0))

/-- What was encoded has been written to the buffer, with no error. -/
theorem ECore.flush (h : ECore w1 eb bb v dn) (hb : BSt w2 bb v' (enc dn ++ enc zs)) (hx : Nxt w1 v v') (hs : w2.heap[eb]? = w1.heap[eb]?) (hw : Wrote w2 w3 eb 0 1) (q0 : w3.cell? ⟨eb, 0, none⟩ = some .nilIface)
    (hz : zs.length % 4 = 0) (hz0 : 0 < zs.length) (hzb : AllBytes zs) : ECore w3 eb bb v' (dn ++ zs) := by
  have r2 := h.room.same hs
  have hn := hx.ne h.n2 h.room.lt
  refine ⟨r2.wrote_ hw, q0, (hw.cell r2 (by omega)).trans ((cell_same hs).trans h.c1), ?_, fun e => ?_, ?_, h.db.append hzb, h.n1, hn⟩
  · rw [enc_app _ _ h.div]
    exact hb.wrote hw h.n1 hn
  · rw [List.append_eq_nil_iff] at e
    rw [e.2] at hz0
    simp at hz0
  · rw [List.length_append]
    have := h.div
    omega
end
end Go.Proofs.YtfonpcfcelahdaaDoor

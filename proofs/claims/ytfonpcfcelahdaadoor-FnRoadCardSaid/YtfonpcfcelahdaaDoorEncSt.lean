/-
  The state of an encoder in memory, and what each of the steps of its Write makes of it.
-/
import Derived.Test.YtfonpcfcelahdaaDoorBuf3
import Derived.Test.YtfonpcfcelahdaaDoorDecSt
import Derived.Test.YtfonpcfcelahdaaDoorEnc
namespace Go.Proofs.YtfonpcfcelahdaaDoor
open Go.RowKit

theorem enc_app (a b : List Int) (h : a.length % 4 = 0) : enc (a ++ b) = enc a ++ enc b := by
  induction a using enc.induct with
  | case1 x y z t r ih =>
    simp only [List.cons_append, enc, List.append_assoc]
    rw [ih (by simp at h; omega)]
  | case2 x y z => simp at h
  | case3 x y => simp at h
  | case4 x => simp at h
  | case5 => simp [enc]

theorem enc4_pos (a b c d : Int) : 1 ≤ (enc4 a b c d).length := by rcases enc4_length a b c d with h | h <;> omega
theorem enc_pos {a : List Int} (h : 1 ≤ a.length) : 1 ≤ (enc a).length := by
  induction a using enc.induct with
  | case1 x y z t r ih =>
    simp only [enc, List.length_append]
    have := enc4_pos x y z t
    omega
  | case2 x y z => simp [enc, figs]
  | case3 x y => simp [enc, figs]
  | case4 x => simp [enc, figs]
  | case5 => simp at h

/-- The encoder at block eb: what it has encoded into the buffer at block bb (done), and what it still keeps (buf). -/
structure ESt (w : World) (eb bb : Nat) (v : Value) (done buf : List Int) : Prop where
  room : Room w eb 1031
  c0 : w.cell? ⟨eb, 0, none⟩ = some .nilIface
  c1 : w.cell? ⟨eb, 1, none⟩ = some (.iface 52 (.pointer (some ⟨bb, 0, none⟩)))
  hbuf : Has w eb 2 buf
  blen : buf.length ≤ 3
  c6 : w.cell? ⟨eb, 6, none⟩ = some (.int .i64 (buf.length : Int))
  bst : BSt w bb v (enc done)
  first : done = [] → v = .slice none 0 0
  div : done.length % 4 = 0
  db : AllBytes done
  bbs : AllBytes buf
  n1 : eb ≠ bb
  n2 : v.ownBlock ≠ some eb

/-- The blocks that an encoder touches. -/
def EMine (eb bb : Nat) (v : Value) (k : Nat) : Prop := k = eb ∨ BMine bb v k

/-- The next slice of the buffer. -/
def Nxt (w : World) (v v' : Value) : Prop := v'.ownBlock = v.ownBlock ∨ ∃ g, v'.ownBlock = some g ∧ w.heap.size ≤ g

theorem Nxt.refl (w : World) (v : Value) : Nxt w v v := .inl rfl
theorem Nxt.trans {w w1 : World} {v v' v'' : Value} (h : Nxt w v v') (k : Nxt w1 v' v'') (hz : w.heap.size ≤ w1.heap.size) : Nxt w v v'' := by
  rcases k with k | ⟨g, e, hg⟩
  · rcases h with h | ⟨g, e, hg⟩
    · exact .inl (k.trans h)
    · exact .inr ⟨g, k.trans e, hg⟩
  · exact .inr ⟨g, e, Nat.le_trans hz hg⟩
theorem Nxt.ne {w : World} {v v' : Value} {b : Nat} (h : Nxt w v v') (hn : v.ownBlock ≠ some b) (hb : b < w.heap.size) : v'.ownBlock ≠ some b := by
  rcases h with h | ⟨g, e, hg⟩
  · rw [h]; exact hn
  · rw [e]; intro e2; injection e2 with e2; omega
theorem Nxt.mine {w : World} {v v' : Value} {eb bb : Nat} (h : Nxt w v v') : ∀ i, i < w.heap.size → EMine eb bb v' i → EMine eb bb v i := by
  intro i hi hm
  rcases hm with hm | hm | hm
  · exact .inl hm
  · exact .inr (.inl hm)
  · rcases h with h | ⟨g, e, hg⟩
    · exact .inr (.inr (h ▸ hm))
    · rw [e] at hm; injection hm with hm; omega

theorem Room.lt {w : World} {b n : Nat} (h : Room w b n) : b < w.heap.size := by
  obtain ⟨cs, t, hc, _⟩ := h
  exact Lib.lt_of_heap hc
theorem Room.same {w w' : World} {b n : Nat} (h : Room w b n) (e : w'.heap[b]? = w.heap[b]?) : Room w' b n := by
  obtain ⟨cs, t, hc, hn⟩ := h
  exact ⟨cs, t, e.trans hc, hn⟩
theorem Has.same {w w' : World} {b o : Nat} {xs : List Int} (h : Has w b o xs) (e : w'.heap[b]? = w.heap[b]?) : Has w' b o xs := fun i hi => by
  rw [← h i hi]
  simp only [World.cell?]
  rw [e]
theorem cell_same {w w' : World} {b i : Nat} (e : w'.heap[b]? = w.heap[b]?) : w'.cell? ⟨b, i, none⟩ = w.cell? ⟨b, i, none⟩ := by
  simp only [World.cell?]
  rw [e]
theorem BSt.wrote {w w' : World} {bb b off len : Nat} {v : Value} {bs : List Int} (h : BSt w bb v bs) (hw : Wrote w w' b off len) (h1 : b ≠ bb) (h2 : v.ownBlock ≠ some b) : BSt w' bb v bs := by
  obtain ⟨lr, hr⟩ := h.row
  exact ⟨⟨lr, (hw.block bb (Ne.symm h1)).trans hr⟩, ⟨h.own.1, h.own.2.1, by
    rcases h.own.2.2 with h3 | ⟨g, cap, cur, e, hg, hh, r⟩
    · exact .inl h3
    · exact .inr ⟨g, cap, cur, e, hg, (hw.block g (fun e2 => h2 (by rw [e, ← e2]; rfl))).trans hh, r⟩⟩⟩
theorem BSt.drewN {w : World} {bb : Nat} {v : Value} {bs : List Int} (h : BSt w bb v bs) (k : Nat) : BSt (w.drewN k) bb v bs := ⟨h.row, h.own⟩
theorem BSt.drew {w : World} {bb : Nat} {v : Value} {bs : List Int} (h : BSt w bb v bs) : BSt w.drew bb v bs := ⟨h.row, h.own⟩
theorem BSt.lt {w : World} {bb : Nat} {v : Value} {bs : List Int} (h : BSt w bb v bs) : bb < w.heap.size := by
  obtain ⟨lr, hr⟩ := h.row
  exact Lib.lt_of_heap hr

/-- The buffer has been written out of the encoder: what is known of the encoder's block then. -/
theorem WPost.enc {w w' : World} {eb bb m : Nat} {v : Value} {all : List Int} {e : Ending} (h : WPost bb m v all w e w') (hr : Room w eb 1031) (n1 : eb ≠ bb) (n2 : v.ownBlock ≠ some eb) :
    e = .returned (.tuple #[.int .i64 (m : Int), .nilIface]) ∧ ∃ v', BSt w' bb v' all ∧ Nxt w v v' ∧ Frm (BMine bb v) w w' ∧ w'.heap[eb]? = w.heap[eb]? := by
  obtain ⟨he, v', hb, hx, hf⟩ := h
  refine ⟨he, v', hb, hx, hf, hf.block eb hr.lt (fun hm => ?_)⟩
  rcases hm with hm | hm
  · exact n1 hm
  · exact n2 hm

/-- A stretch of an array of four bytes. -/
theorem slice71_to (W : World) (b k h : Nat) (h2 : h ≤ 4) :
    (Instr.sliceAt 71 (.pointer (some ⟨b, k, none⟩)) (some (.int .i64 0)) (some (.int .i64 (h : Int))) none).run Tryd.prog W = .ok (.slice (some ⟨b, k, none⟩) h 4) W := by
  have hal : Tryd.prog.arrayLen 71 = 4 := by kernel_rfl
  have hs : ∀ w : World, (sizeOf (Tryd.prog.elem 71)).run Tryd.prog w = .ok 1 w := fun w => by kernel_rfl
  rw [run_sliceAt_array_lh (P := Tryd.prog) W 71 ⟨b, k, none⟩ (by kernel_rfl) .i64 .i64 0 (h : Int) (by omega) (by omega) (by rw [hal]; omega), hs, hal]
  simp [slicedAt, Result.andThen, add_off]
theorem slice71_from0 (W : World) (b k : Nat) :
    (Instr.sliceAt 71 (.pointer (some ⟨b, k, none⟩)) (some (.int .i64 0)) none none).run Tryd.prog W = .ok (.slice (some ⟨b, k, none⟩) 4 4) W := by
  have hal : Tryd.prog.arrayLen 71 = 4 := by kernel_rfl
  have hs : ∀ w : World, (sizeOf (Tryd.prog.elem 71)).run Tryd.prog w = .ok 1 w := fun w => by kernel_rfl
  rw [run_sliceAt_array_l (P := Tryd.prog) W 71 ⟨b, k, none⟩ (by kernel_rfl) .i64 0 (by omega) (by rw [hal]; omega), hs, hal]
  simp [slicedAt, Result.andThen, add_off]
theorem slice71_all (W : World) (b k : Nat) :
    (Instr.sliceAt 71 (.pointer (some ⟨b, k, none⟩)) none none none).run Tryd.prog W = .ok (.slice (some ⟨b, k, none⟩) 4 4) W := by
  have hal : Tryd.prog.arrayLen 71 = 4 := by kernel_rfl
  have hs : ∀ w : World, (sizeOf (Tryd.prog.elem 71)).run Tryd.prog w = .ok 1 w := fun w => by kernel_rfl
  rw [run_sliceAt_array_all (P := Tryd.prog) W 71 ⟨b, k, none⟩ (by kernel_rfl), hs, hal]
  simp [slicedAt, Result.andThen, add_off]
end Go.Proofs.YtfonpcfcelahdaaDoor

/-
  The state of a decoder in memory, and what each of the steps of its Read makes of it.
-/
import Derived.Test.YtfonpcfcelahdaaDoorSlow
import Derived.Test.YtfonpcfcelahdaaDoorPlain4
import Derived.Test.YtfonpcfcelahdaaDoorDec
import Derived.Test.YtfonpcfcelahdaaDoorImplDec
namespace Go.Proofs.YtfonpcfcelahdaaDoor
open Go.RowKit

/-- The decoder at block db: what is decoded and not yet handed out (o), what is read and not yet decoded (bf), what its reader (at sb, the bytes in block q) still has (rest), and whether that has come to its end. -/
structure DSt (w : World) (db sb q pc : Nat) (ev : Value) (o bf rest : List Int) (eof : Bool) : Prop where
  room : Room w db 2053
  c0 : w.cell? ⟨db, 0, none⟩ = some .nilIface
  c1 : w.cell? ⟨db, 1, none⟩ = some (if eof then ev else .nilIface)
  c2 : w.cell? ⟨db, 2, none⟩ = some (.iface 60 (.pointer (some ⟨sb, 0, none⟩)))
  buf : Has w db 3 bf
  len : bf.length ≤ 1024
  c3 : w.cell? ⟨db, 1027, none⟩ = some (.int .i64 (bf.length : Int))
  out : ∃ S c, w.cell? ⟨db, 1028, none⟩ = some (.slice S o.length c) ∧ o.length ≤ c ∧ c ≤ maxLen ∧ (0 < o.length → ∃ k, S = some ⟨db, k, none⟩ ∧ 1029 ≤ k ∧ k + o.length ≤ 2053 ∧ Has w db k o)
  slow : Slow w sb q rest pc
  ob : AllBytes o
  bb : AllBytes bf
  rb : AllBytes rest
  sub : eof = true → rest = []
  n1 : sb ≠ db
  n2 : q ≠ db
  n3 : q ≠ sb

/-- All that is still to come. -/
def Tot (o bf rest : List Int) : Option (List Int) := (run (bf ++ rest)).map (o ++ ·)
/-- How many rounds at most are to come. -/
def todo (o rest : List Int) (eof : Bool) : Nat := if o = [] then 1 + rest.length + (if eof then 0 else 1) else 0

/-- One of the three blocks that a Read writes. -/
def Mine (B db sb g b : Nat) : Prop := B ≤ b ∧ (b = db ∨ b = sb ∨ b = g)

/-- What a Read leaves as it was. -/
structure Steps (B db sb g : Nat) (w w' : World) : Prop where
  below : Below B w w'
  others : ∀ k, k ≠ db → k ≠ sb → k ≠ g → w'.heap[k]? = w.heap[k]?
  size : w'.heap.size = w.heap.size
  row : ∀ n, Row5 w g n → Row5 w' g n
  room : ∀ n, Room w g n → Room w' g n

theorem Steps.refl (B db sb g : Nat) (w : World) : Steps B db sb g w w := ⟨Below.refl _ _, fun _ _ _ _ => rfl, rfl, fun _ h => h, fun _ h => h⟩
theorem Steps.wrote {B db sb g b off len : Nat} {w w' w'' : World} (h : Steps B db sb g w w') (hw : Wrote w' w'' b off len) (hB : Mine B db sb g b) : Steps B db sb g w w'' :=
  ⟨h.below.trans (hw.below hB.1), fun k h1 h2 h3 => (hw.block k (by have := hB.2; omega)).trans (h.others k h1 h2 h3), hw.size.trans h.size, fun n hn => (h.row n hn).wrote hw, fun n hn => (h.room n hn).wrote_ hw⟩
theorem Steps.drewN {B db sb g : Nat} {w w' : World} (h : Steps B db sb g w w') (k : Nat) : Steps B db sb g w (w'.drewN k) := ⟨Bdrew h.below k, h.others, h.size, fun n hn => h.row n hn, fun n hn => h.room n hn⟩

theorem Steps.drew {B db sb g : Nat} {w w' : World} (h : Steps B db sb g w w') : Steps B db sb g w w'.drew := ⟨⟨h.below.os, h.below.tape, h.below.output, h.below.size, h.below.block⟩, h.others, h.size, fun n hn => h.row n hn, fun n hn => h.room n hn⟩
theorem tot_more {bf rest : List Int} {T : Option (List Int)} (h : Tot [] bf rest = T) (N : Nat) : Tot [] (bf ++ rest.take N) (rest.drop N) = T := by
  rw [← h]
  unfold Tot
  rw [List.append_assoc, List.take_append_drop]
theorem tot_step {bf bf' rest out : List Int} {T : Option (List Int)} (h : Tot [] bf rest = T) (hr : run (bf ++ rest) = (run (bf' ++ rest)).map (out ++ ·)) : Tot out bf' rest = T := by
  rw [← h]
  unfold Tot
  rw [hr]
  cases run (bf' ++ rest) <;> rfl
theorem tot_sift {bf rest : List Int} {T : Option (List Int)} (h : Tot [] bf rest = T) : Tot [] (sift bf) rest = T := by
  rw [← h]
  unfold Tot
  rw [run_sift_app]
theorem Steps.cell0 {B db sb g : Nat} {w w' : World} {v : Value} (h : Steps B db sb g w w') (hv : w.cell? ⟨0, 0, none⟩ = some v) (hB : 0 < B) : w'.cell? ⟨0, 0, none⟩ = some v := by
  rw [← hv]
  simp only [World.cell?]
  rw [h.below.block 0 hB]

theorem Has.out_ {w w' : World} {b P off len n : Nat} {xs : List Int} (h : Has w b P xs) (hw : Wrote w w' b off len) (hr : Room w b n) (ho : P + xs.length ≤ off ∨ off + len ≤ P) : Has w' b P xs := fun i hi => by
  rw [hw.cell hr (by omega)]
  exact h i hi

theorem Has.next {w : World} {b P i : Nat} {l : List Int} (h : Has w b (P + i) (l.drop i)) : Has w b (P + (i + 1)) (l.drop (i + 1)) := by
  have := h.drop 1
  rw [List.drop_drop] at this
  rw [← Nat.add_assoc]
  exact this
theorem sift_allbytes {bf : List Int} (h : AllBytes bf) : AllBytes (sift bf) := fun x hx => h x (List.mem_filter.1 hx).1

section
variable {w w' w1 w2 w3 w4 w5 : World} {db sb q pc : Nat} {ev : Value} {o bf rest : List Int} {eof : Bool}

/-- Something was written elsewhere. -/
theorem DSt.other {g off len n : Nat} (h : DSt w db sb q pc ev o bf rest eof) (hw : Wrote w w' g off len) (hr : Room w g n) (h1 : g ≠ db) (h2 : g ≠ sb) (h3 : g ≠ q) : DSt w' db sb q pc ev o bf rest eof := by
  obtain ⟨S, c, e, hl, hc, hx⟩ := h.out
  exact ⟨h.room.wrote_ hw, (hw.cell hr (.inl (Ne.symm h1))).trans h.c0, (hw.cell hr (.inl (Ne.symm h1))).trans h.c1, (hw.cell hr (.inl (Ne.symm h1))).trans h.c2, h.buf.far hw hr (Ne.symm h1), h.len,
    (hw.cell hr (.inl (Ne.symm h1))).trans h.c3, ⟨S, c, (hw.cell hr (.inl (Ne.symm h1))).trans e, hl, hc, fun hp => by
      obtain ⟨k, hk, k1, k2, hh⟩ := hx hp
      exact ⟨k, hk, k1, k2, hh.far hw hr (Ne.symm h1)⟩⟩, h.slow.wrote hw hr (Ne.symm h2) (Ne.symm h3), h.ob, h.bb, h.rb, h.sub, h.n1, h.n2, h.n3⟩
theorem DSt.drewN (h : DSt w db sb q pc ev o bf rest eof) (k : Nat) : DSt (w.drewN k) db sb q pc ev o bf rest eof :=
  ⟨h.room, h.c0, h.c1, h.c2, h.buf, h.len, h.c3, h.out, ⟨h.slow.room, h.slow.s0, h.slow.s1⟩, h.ob, h.bb, h.rb, h.sub, h.n1, h.n2, h.n3⟩

theorem DSt.drew (h : DSt w db sb q pc ev o bf rest eof) : DSt w.drew db sb q pc ev o bf rest eof :=
  ⟨h.room, h.c0, h.c1, h.c2, h.buf, h.len, h.c3, h.out, ⟨h.slow.room, h.slow.s0, h.slow.s1⟩, h.ob, h.bb, h.rb, h.sub, h.n1, h.n2, h.n3⟩

/-- Other blocks have changed. -/
theorem DSt.same (h : DSt w db sb q pc ev o bf rest eof) (h1 : w'.heap[db]? = w.heap[db]?) (h2 : w'.heap[sb]? = w.heap[sb]?) (h3 : w'.heap[q]? = w.heap[q]?) : DSt w' db sb q pc ev o bf rest eof := by
  have c1 : ∀ i, w'.cell? ⟨db, i, none⟩ = w.cell? ⟨db, i, none⟩ := fun i => by simp only [World.cell?]; rw [h1]
  have c2 : ∀ i, w'.cell? ⟨sb, i, none⟩ = w.cell? ⟨sb, i, none⟩ := fun i => by simp only [World.cell?]; rw [h2]
  have c3 : ∀ i, w'.cell? ⟨q, i, none⟩ = w.cell? ⟨q, i, none⟩ := fun i => by simp only [World.cell?]; rw [h3]
  have hdb : ∀ {k : Nat} {l : List Int}, Has w db k l → Has w' db k l := fun hh i hi => by rw [c1]; exact hh i hi
  have hqb : ∀ {k : Nat} {l : List Int}, Has w q k l → Has w' q k l := fun hh i hi => by rw [c3]; exact hh i hi
  obtain ⟨S, c, e, hl, hc, hx⟩ := h.out
  obtain ⟨⟨cs, t, hr1, hr2⟩, ⟨S2, cc, s1, s2, s3, s4⟩, s5⟩ := h.slow
  refine ⟨?_, (c1 _).trans h.c0, (c1 _).trans h.c1, (c1 _).trans h.c2, hdb h.buf, h.len, (c1 _).trans h.c3, ⟨S, c, (c1 _).trans e, hl, hc, fun hp => ?_⟩, ⟨⟨cs, t, h2.trans hr1, hr2⟩, ⟨S2, cc, (c2 _).trans s1, s2, s3, fun hp => ?_⟩, (c2 _).trans s5⟩, h.ob, h.bb, h.rb, h.sub, h.n1, h.n2, h.n3⟩
  · obtain ⟨cs, t, g1, g2⟩ := h.room
    exact ⟨cs, t, h1.trans g1, g2⟩
  · obtain ⟨k, hk, k1, k2, hh⟩ := hx hp
    exact ⟨k, hk, k1, k2, hdb hh⟩
  · obtain ⟨k, hk, hh⟩ := s4 hp
    exact ⟨k, hk, hqb hh⟩

/-- Some of what was decoded is handed out. -/
theorem DSt.given {N c k cD : Nat} {D : Option Addr} (h : DSt w db sb q pc ev o bf rest eof) (hw : Wrote w w' db 1028 1) (hc : w'.cell? ⟨db, 1028, none⟩ = some (.slice D (o.length - N) cD))
    (h1 : o.length ≤ c) (h2 : c ≤ maxLen) (h3 : N ≤ o.length) (hD : cD = c - N ∧ (N < o.length → D = some ⟨db, k + N, none⟩)) (k1 : 1029 ≤ k) (k2 : k + o.length ≤ 2053) (hh : Has w db k o) : DSt w' db sb q pc ev (o.drop N) bf rest eof := by
  have hr := h.room
  refine ⟨hr.wrote_ hw, (hw.cell hr (by omega)).trans h.c0, (hw.cell hr (by omega)).trans h.c1, (hw.cell hr (by omega)).trans h.c2, h.buf.out_ hw hr (by have := h.len; omega), h.len, (hw.cell hr (by omega)).trans h.c3, ?_,
    h.slow.wrote hw hr h.n1 h.n2, h.ob.drop N, h.bb, h.rb, h.sub, h.n1, h.n2, h.n3⟩
  rw [List.length_drop]
  exact ⟨D, cD, hc, by omega, by omega, fun hp => ⟨k + N, hD.2 (by omega), by omega, by omega, (hh.drop N).out_ hw hr (by omega)⟩⟩

/-- Some is decoded. -/
theorem DSt.decoded {out bf' : List Int} {M : Nat} (h : DSt w db sb q pc ev [] bf rest eof) (h1 : Wrote w w1 db 1029 1024) (hx : Has w1 db 1029 out) (h2 : Wrote w1 w2 db 0 1) (e2 : w2.cell? ⟨db, 0, none⟩ = some .nilIface)
    (h3 : Wrote w2 w3 db 1028 1) (e3 : w3.cell? ⟨db, 1028, none⟩ = some (.slice (some ⟨db, 1029, none⟩) out.length 1024)) (h4 : Wrote w3 w4 db 3 M) (hb : Has w4 db 3 bf') (h5 : Wrote w4 w5 db 1027 1) (e5 : w5.cell? ⟨db, 1027, none⟩ = some (.int .i64 (M : Int)))
    (hM : bf'.length = M) (hM2 : M ≤ 1024) (ho : out.length ≤ 1024) (b1 : AllBytes out) (b2 : AllBytes bf') : DSt w5 db sb q pc ev out bf' rest eof := by
  have r0 := h.room
  have r1 := r0.wrote_ h1
  have r2 := r1.wrote_ h2
  have r3 := r2.wrote_ h3
  have r4 := r3.wrote_ h4
  refine ⟨r4.wrote_ h5, ?_, ?_, ?_, hb.out_ h5 r4 (by omega), by omega, by rw [hM]; exact e5, ⟨_, 1024, ?_, ho, by unfold maxLen; omega, fun _ => ⟨1029, rfl, Nat.le_refl _, by omega, ?_⟩⟩,
    ((((h.slow.wrote h1 r0 h.n1 h.n2).wrote h2 r1 h.n1 h.n2).wrote h3 r2 h.n1 h.n2).wrote h4 r3 h.n1 h.n2).wrote h5 r4 h.n1 h.n2, b1, b2, h.rb, h.sub, h.n1, h.n2, h.n3⟩
  · rw [h5.cell r4 (by omega), h4.cell r3 (by omega), h3.cell r2 (by omega)]; exact e2
  · rw [h5.cell r4 (by omega), h4.cell r3 (by omega), h3.cell r2 (by omega), h2.cell r1 (by omega), h1.cell r0 (by omega)]; exact h.c1
  · rw [h5.cell r4 (by omega), h4.cell r3 (by omega), h3.cell r2 (by omega), h2.cell r1 (by omega), h1.cell r0 (by omega)]; exact h.c2
  · rw [h5.cell r4 (by omega), h4.cell r3 (by omega)]; exact e3
  · exact (((hx.out_ h2 r1 (by omega)).out_ h3 r2 (by omega)).out_ h4 r3 (by omega)).out_ h5 r4 (by omega)

/-- Nothing is decoded; what is no sign is left out. -/
theorem DSt.sifted {M : Nat} {bf' : List Int} (h : DSt w db sb q pc ev [] bf rest eof) (h1 : Wrote w w1 db 1029 1024) (h2 : Wrote w1 w2 db 0 1) (e2 : w2.cell? ⟨db, 0, none⟩ = some .nilIface)
    (h4 : Wrote w2 w4 db 3 1024) (hb : Has w4 db 3 bf') (h5 : Wrote w4 w5 db 1027 1) (e5 : w5.cell? ⟨db, 1027, none⟩ = some (.int .i64 (M : Int)))
    (hM : bf'.length = M) (hM2 : M ≤ 1024) (b2 : AllBytes bf') : DSt w5 db sb q pc ev [] bf' rest eof := by
  have r0 := h.room
  have r1 := r0.wrote_ h1
  have r2 := r1.wrote_ h2
  have r4 := r2.wrote_ h4
  obtain ⟨S, c, eS, hl, hc, _⟩ := h.out
  refine ⟨r4.wrote_ h5, ?_, ?_, ?_, hb.out_ h5 r4 (by omega), by omega, by rw [hM]; exact e5, ⟨S, c, ?_, hl, hc, fun h0 => absurd h0 (by simp)⟩,
    (((h.slow.wrote h1 r0 h.n1 h.n2).wrote h2 r1 h.n1 h.n2).wrote h4 r2 h.n1 h.n2).wrote h5 r4 h.n1 h.n2, h.ob, b2, h.rb, h.sub, h.n1, h.n2, h.n3⟩
  · rw [h5.cell r4 (by omega), h4.cell r2 (by omega)]; exact e2
  · rw [h5.cell r4 (by omega), h4.cell r2 (by omega), h2.cell r1 (by omega), h1.cell r0 (by omega)]; exact h.c1
  · rw [h5.cell r4 (by omega), h4.cell r2 (by omega), h2.cell r1 (by omega), h1.cell r0 (by omega)]; exact h.c2
  · rw [h5.cell r4 (by omega), h4.cell r2 (by omega), h2.cell r1 (by omega), h1.cell r0 (by omega)]; exact eS

/-- More is read. -/
theorem DSt.more {N : Nat} (h : DSt w db sb q pc ev [] bf rest false) (h1 : Wrote w w1 db (3 + bf.length) N) (h2 : Wrote w1 w2 sb 0 1) (hx : Has w2 db (3 + bf.length) (rest.take N)) (hs : Slow w2 sb q (rest.drop N) pc)
    (h3 : Wrote w2 w3 db 1 1) (e3 : w3.cell? ⟨db, 1, none⟩ = some .nilIface) (h5 : Wrote w3 w5 db 1027 1) (e5 : w5.cell? ⟨db, 1027, none⟩ = some (.int .i64 ((bf.length + N : Nat) : Int)))
    (hN : N ≤ rest.length) (hM : bf.length + N ≤ 1024) : DSt w5 db sb q pc ev [] (bf ++ rest.take N) (rest.drop N) false := by
  have r0 := h.room
  have r1 := r0.wrote_ h1
  have r2 := r1.wrote_ h2
  have r3 := r2.wrote_ h3
  have s1 := h.slow.room.wrote_ h1
  have hlen : (bf ++ rest.take N).length = bf.length + N := by rw [List.length_append, List.length_take]; omega
  obtain ⟨S, c, eS, hl, hc, _⟩ := h.out
  have n1 := Ne.symm h.n1
  refine ⟨r3.wrote_ h5, ?_, ?_, ?_, ?_, by omega, by rw [hlen]; exact e5, ⟨S, c, ?_, hl, hc, fun h0 => absurd h0 (by simp)⟩,
    (hs.wrote h3 r2 h.n1 h.n2).wrote h5 r3 h.n1 h.n2, h.ob, h.bb.append (h.rb.take N), h.rb.drop N, (fun hf => by cases hf), h.n1, h.n2, h.n3⟩
  · rw [h5.cell r3 (by omega), h3.cell r2 (by omega), h2.cell s1 (.inl n1), h1.cell r0 (by omega)]; exact h.c0
  · rw [h5.cell r3 (by omega), e3]; rfl
  · rw [h5.cell r3 (by omega), h3.cell r2 (by omega), h2.cell s1 (.inl n1), h1.cell r0 (by omega)]; exact h.c2
  · have hl2 : (rest.take N).length = N := by rw [List.length_take]; omega
    exact ((((h.buf.out_ h1 r0 (by omega)).far h2 s1 n1).out_ h3 r2 (by omega)).out_ h5 r3 (by omega)).append ((hx.out_ h3 r2 (by omega)).out_ h5 r3 (by omega))
  · rw [h5.cell r3 (by omega), h3.cell r2 (by omega), h2.cell s1 (.inl n1), h1.cell r0 (by omega)]; exact eS

/-- There is no more. -/
theorem DSt.ended (h : DSt w db sb q pc ev [] bf [] false) (h3 : Wrote w w3 db 1 1) (e3 : w3.cell? ⟨db, 1, none⟩ = some ev) (h5 : Wrote w3 w5 db 1027 1) (e5 : w5.cell? ⟨db, 1027, none⟩ = some (.int .i64 (bf.length : Int))) :
    DSt w5 db sb q pc ev [] bf [] true := by
  have r0 := h.room
  have r3 := r0.wrote_ h3
  obtain ⟨S, c, eS, hl, hc, _⟩ := h.out
  have hbl := h.len
  refine ⟨r3.wrote_ h5, ?_, ?_, ?_, ?_, h.len, e5, ⟨S, c, ?_, hl, hc, fun h0 => absurd h0 (by simp)⟩,
    (h.slow.wrote h3 r0 h.n1 h.n2).wrote h5 r3 h.n1 h.n2, h.ob, h.bb, h.rb, fun _ => rfl, h.n1, h.n2, h.n3⟩
  · rw [h5.cell r3 (by omega), h3.cell r0 (by omega)]; exact h.c0
  · rw [h5.cell r3 (by omega), e3]; rfl
  · rw [h5.cell r3 (by omega), h3.cell r0 (by omega)]; exact h.c2
  · exact (h.buf.out_ h3 r0 (by omega)).out_ h5 r3 (by omega)
  · rw [h5.cell r3 (by omega), h3.cell r0 (by omega)]; exact eS
end

/-- A stretch of an array of 1024 bytes. -/
theorem slice72 (W : World) (b k l h : Nat) (h1 : l ≤ h) (h2 : h ≤ 1024) :
    (Instr.sliceAt 72 (.pointer (some ⟨b, k, none⟩)) (some (.int .i64 (l : Int))) (some (.int .i64 (h : Int))) none).run Tryd.prog W = .ok (.slice (some (if 1024 = l then ⟨b, k, none⟩ else ⟨b, k + l, none⟩)) (h - l) (1024 - l)) W := by
  have hal : Tryd.prog.arrayLen 72 = 1024 := by kernel_rfl
  have hs : ∀ w : World, (sizeOf (Tryd.prog.elem 72)).run Tryd.prog w = .ok 1 w := fun w => by kernel_rfl
  rw [run_sliceAt_array_lh (P := Tryd.prog) W 72 ⟨b, k, none⟩ (by kernel_rfl) .i64 .i64 (l : Int) (h : Int) (by omega) (by omega) (by rw [hal]; omega), hs, hal]
  simp [slicedAt, Result.andThen, add_off]
theorem slice72_from (W : World) (b k l : Nat) (h1 : l ≤ 1024) :
    (Instr.sliceAt 72 (.pointer (some ⟨b, k, none⟩)) (some (.int .i64 (l : Int))) none none).run Tryd.prog W = .ok (.slice (some (if 1024 = l then ⟨b, k, none⟩ else ⟨b, k + l, none⟩)) (1024 - l) (1024 - l)) W := by
  have hal : Tryd.prog.arrayLen 72 = 1024 := by kernel_rfl
  have hs : ∀ w : World, (sizeOf (Tryd.prog.elem 72)).run Tryd.prog w = .ok 1 w := fun w => by kernel_rfl
  rw [run_sliceAt_array_l (P := Tryd.prog) W 72 ⟨b, k, none⟩ (by kernel_rfl) .i64 (l : Int) (by omega) (by rw [hal]; omega), hs, hal]
  simp [slicedAt, Result.andThen, add_off]
theorem slice72_to (W : World) (b k h : Nat) (h2 : h ≤ 1024) :
    (Instr.sliceAt 72 (.pointer (some ⟨b, k, none⟩)) (some (.int .i64 0)) (some (.int .i64 (h : Int))) none).run Tryd.prog W = .ok (.slice (some ⟨b, k, none⟩) h 1024) W := slice72 W b k 0 h (by omega) h2
theorem slice72_all (W : World) (b k : Nat) :
    (Instr.sliceAt 72 (.pointer (some ⟨b, k, none⟩)) (some (.int .i64 0)) none none).run Tryd.prog W = .ok (.slice (some ⟨b, k, none⟩) 1024 1024) W := slice72_from W b k 0 (by omega)

/-- What a Read answers. -/
def ReadPost (B db sb q pc g off L : Nat) (ev : Value) (T : Option (List Int)) (w : World) (e : Ending) (w' : World) : Prop :=
  Steps B db sb g w w' ∧ ((∃ (N : Nat) (xs o bf rest : List Int) (eof : Bool), e = .returned (.tuple #[.int .i64 (N : Int), .nilIface]) ∧ 1 ≤ N ∧ N ≤ L ∧ xs.length = N ∧ AllBytes xs ∧ Has w' g off xs ∧ DSt w' db sb q pc ev o bf rest eof ∧ T = (Tot o bf rest).map (xs ++ ·)) ∨
    (e = .returned (.tuple #[.int .i64 0, ev]) ∧ T = some []) ∨ (∃ i : Nat, e = .returned (.tuple #[.int .i64 0, .iface 65 (.int .i64 (i : Int))]) ∧ T = none))
end Go.Proofs.YtfonpcfcelahdaaDoor

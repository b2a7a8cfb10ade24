/-
  What the encoder's Write does (printed by gen_encw.py).
-/
import Derived.Test.YtfonpcfcelahdaaDoorEncWr0
import Derived.Deep.LoopGhost
import Derived.Deep.RegionWith
import Derived.Deep.RegionHeld
namespace Go.Proofs.YtfonpcfcelahdaaDoor
open Go.RowKit

/-- What a Write answers. -/
def EPost (eb bb n : Nat) (v : Value) (all : List Int) (w : World) (e : Ending) (w' : World) : Prop :=
  e = .returned (.tuple #[.int .i64 (n : Int), .nilIface]) ∧ ∃ v' done' buf', ESt w' eb bb v' done' buf' ∧ done' ++ buf' = all ∧ Nxt w v v' ∧ Frm (EMine eb bb v) w w'

/-- What is known at the head of the loop over the chunks. -/
def WRel (eb bb pb n : Nat) (v : Value) (done buf xs : List Int) (w : World) (k : Nat) (s1 s4 s5 : Value) (wr : World) : Prop :=
  ∃ (j c' : Nat) (A' : Option Addr) (v' : Value) (dn : List Int), s5 = .nilIface ∧ s4 = .int .i64 (j : Int) ∧ s1 = .slice A' k c' ∧ j + k = n ∧ Pin w pb A' k c' (xs.drop j) ∧ ESt wr eb bb v' dn [] ∧ dn = done ++ (buf ++ xs.take j) ∧ Nxt w v v' ∧ Frm (EMine eb bb v) w wr

theorem len_int {j r n : Nat} (h : j + r = n) : (Value.int .i64 ((j : Int) + (r : Int))) = .int .i64 (n : Int) := by
  congr 1
  omega

/-- The tail is kept. -/
theorem EPost.last {eb bb n j r : Nat} {v v' : Value} {done buf xs dn ys : List Int} {w wr w1 w2 : World} (h : ESt wr eb bb v' dn []) (hd : dn = done ++ (buf ++ xs.take j)) (hy : ys = xs.drop j) (hyb : AllBytes ys) (hyl : ys.length = r) (hr : r ≤ 3) (hjr : j + r = n) (hn : Nxt w v v') (hf : Frm (EMine eb bb v) w wr)
    (hw1 : Wrote wr w1 eb 2 r) (hh : Has w1 eb 2 ys) (hw2 : Wrote w1 w2 eb 6 1) (q6 : w2.cell? ⟨eb, 6, none⟩ = some (.int .i64 (r : Int))) :
    EPost eb bb n v (done ++ buf ++ xs) w (.returned (.tuple #[.int .i64 ((j : Int) + (r : Int)), .nilIface])) w2 := by
  have c1 := (h.core.wrote hw1 (by omega))
  have c2 := c1.wrote hw2 (by omega)
  refine ⟨by rw [len_int hjr], v', dn, ys, c2.full (hh.out_ hw2 c1.room (by omega)) (by omega) (by rw [hyl]; exact q6) hyb, ?_, hn, (hf.wrote hw1 (fun _ => .inl rfl)).wrote hw2 (fun _ => .inl rfl)⟩
  rw [hd, hy]
  simp [List.append_assoc]

/-- A chunk is encoded and written. -/
theorem WRel.next {eb bb pb n j r q c2 : Nat} {A2 : Option Addr} {v v' v'' : Value} {done buf xs dn zs : List Int} {w wr w1 w2 w3 : World} (h : ESt wr eb bb v' dn []) (hd : dn = done ++ (buf ++ xs.take j)) (hz : zs = (xs.drop j).take q) (hq : q % 4 = 0) (hq0 : 0 < q) (hqr : q ≤ r) (hjr : j + r = n)
    (hp : Pin w pb A2 (r - q) c2 ((xs.drop j).drop q)) (hxl : (xs.drop j).length = r) (hxb : AllBytes (xs.drop j)) (hn : Nxt w v v') (hf : Frm (EMine eb bb v) w wr) (hw1 : Wrote wr w1 eb 7 1024) (hb : BSt w2 bb v'' (enc dn ++ enc zs)) (hx : Nxt w1 v' v'') (hfr : Frm (BMine bb v') w1 w2)
    (hs : w2.heap[eb]? = w1.heap[eb]?) (hw3 : Wrote w2 w3 eb 0 1) (q0 : w3.cell? ⟨eb, 0, none⟩ = some .nilIface) :
    WRel eb bb pb n v done buf xs w (r - q) (.slice A2 (r - q) c2) (.int .i64 ((j : Int) + (q : Int))) .nilIface w3 := by
  have k1 := h.core.wrote hw1 (by omega)
  have hzl : zs.length = q := by rw [hz, List.length_take]; omega
  have k3 := k1.flush hb hx hs hw3 q0 (by omega) (by omega) (by rw [hz]; exact hxb.take q)
  have r2 := k1.room.same hs
  have hf1 := hf.wrote hw1 (fun _ => .inl rfl)
  have hn1 : Nxt w v v'' := hn.trans hx hf1.size
  refine ⟨j + q, c2, A2, v'', dn ++ zs, rfl, by congr 1, rfl, by omega, ?_, k3.full Has.nil (by simp) ?_ (fun _ hx => by cases hx), ?_, hn1, ?_⟩
  · rw [← List.drop_drop]
    exact hp
  · rw [hw3.cell r2 (by omega), cell_same hs, hw1.cell h.room (by omega)]
    exact h.c6
  · rw [hd, hz, List.take_add]
    simp [List.append_assoc]
  · exact (hf1.trans hfr (fun i hi hm => hn.mine (bb := bb) (eb := eb) i hi (.inr hm))).wrote hw3 (fun _ => .inl rfl)

theorem take_next {xs : List Int} {i : Nat} (h : i < xs.length) : xs.take (i + 1) = xs.take i ++ [xs.getD i 0] := by
  rw [List.take_add_one, List.getElem?_eq_getElem h]
  simp [List.getD, List.getElem?_eq_getElem h]

/-- A byte is put to those that are kept. -/
theorem kept_next {w wr : World} {eb p : Nat} {l : List Int} {y : Int} {v : Value} (hw : Wrote w wr eb 2 5) (hr : Room wr eb 1031) (hh : Has wr eb 2 l) (hl : l.length = p) (hp : p < 4) :
    Wrote w ((wr.setCell ⟨eb, 2 + p, none⟩ (.int .u8 y)).drew.setCell ⟨eb, 6, none⟩ v) eb 2 5 ∧ Has ((wr.setCell ⟨eb, 2 + p, none⟩ (.int .u8 y)).drew.setCell ⟨eb, 6, none⟩ v) eb 2 (l ++ [y]) ∧ ((wr.setCell ⟨eb, 2 + p, none⟩ (.int .u8 y)).drew.setCell ⟨eb, 6, none⟩ v).cell? ⟨eb, 6, none⟩ = some v := by
  obtain ⟨s1, s2⟩ := one_store hr (P := 2 + p) (by omega) y (off := 2 + p) (len := 1) (by omega) (by omega)
  have r1 : Room (wr.setCell ⟨eb, 2 + p, none⟩ (.int .u8 y)).drew eb 1031 := (hr.wrote_ s1 : Room (wr.setCell ⟨eb, 2 + p, none⟩ (.int .u8 y)) eb 1031)
  obtain ⟨z, hz⟩ := r1.cell (i := 6) (by omega)
  have s3 := (Wrote.refl (wr.setCell ⟨eb, 2 + p, none⟩ (.int .u8 y)).drew eb 6 1).setCell (i := 6) (by omega) (by omega) v
  have h1 : Has (wr.setCell ⟨eb, 2 + p, none⟩ (.int .u8 y)).drew eb 2 (l ++ [y]) := (hh.out_ s1 hr (by omega)).append (by rw [hl]; exact s2)
  exact ⟨(((hw.trans (s1.mono (by omega) (by omega))).drewN 1).trans (s3.mono (by omega) (by omega))), h1.out_ s3 r1 (by rw [List.length_append]; simp; omega), World.cell?_setCell_same _ _ _ hz⟩
end Go.Proofs.YtfonpcfcelahdaaDoor

/-
  The library's contracts of bytes.Buffer's helpers at this program (the table of numbers laid by the kit: lay-shelf.mjs, lay-plain.mjs).
-/
import Derived.Shelf.LaysM
import Derived.Shelf.Bytes.Len
import Derived.Shelf.Bytes.TryGrow
import Derived.Shelf.Bytes.GrowSliceCatch
import Derived.Shelf.Bytes.GrowSlice
import Derived.Test.YtfonpcfcelahdaaDoorProg
namespace Go.Proofs
open Go.Shelf
def Tryd.laysM180_ren : Go.Shelf.Ren := ⟨fun | 180 => 50 | 251 => 52 | 252 => 53 | 181 => 54 | 184 => 48 | 290 => 55 | 324 => 56 | n => n, fun | 130 => 52 | 37 => 22 | 3 => 3 | 75 => 41 | 0 => 0 | 93 => 48 | 91 => 46 | 131 => 120 | 4 => 4 | 20 => 20 | 5 => 5 | 80 => 105 | 9 => 9 | n => n, fun | 14 => 2 | n => n⟩
theorem Tryd.laysM180 : Go.Proofs.LaysM.n180 Tryd.prog Tryd.laysM180_ren := {
  mixed := by kernel_rfl
  f180 := Tryd.func50.trans (congrArg some (by kernel_rfl))
  f181 := Tryd.func54.trans (congrArg some (by kernel_rfl))
  f184 := Tryd.func48.trans (congrArg some (by kernel_rfl))
  f251 := Tryd.func52.trans (congrArg some (by kernel_rfl))
  f252 := Tryd.func53.trans (congrArg some (by kernel_rfl))
  f290 := Tryd.func55.trans (congrArg some (by kernel_rfl))
  f324 := Tryd.func56.trans (congrArg some (by kernel_rfl))
  t0 := Tryd.underlying0
  a0 := Tryd.isAgg0
  z0 := Tryd.sizeOf0
  v0 := Tryd.zeroValue0
  t3 := Tryd.underlying3
  a3 := Tryd.isAgg3
  z3 := Tryd.sizeOf3
  v3 := Tryd.zeroValue3
  t4 := Tryd.underlying4
  a4 := Tryd.isAgg4
  z4 := Tryd.sizeOf4
  v4 := Tryd.zeroValue4
  t20 := Tryd.underlying20
  a20 := Tryd.isAgg20
  z20 := Tryd.sizeOf20
  v20 := Tryd.zeroValue20
  t37 := Tryd.underlying22
  a37 := Tryd.isAgg22
  z37 := Tryd.sizeOf22
  v37 := Tryd.zeroValue22
  t75 := Tryd.underlying41
  a75 := Tryd.isAgg41
  z75 := Tryd.sizeOf41
  v75 := Tryd.zeroValue41
  t91 := Tryd.underlying46
  a91 := Tryd.isAgg46
  z91 := Tryd.sizeOf46
  v91 := Tryd.zeroValue46
  t93 := Tryd.underlying48
  a93 := Tryd.isAgg48
  z93 := Tryd.sizeOf48
  v93 := Tryd.zeroValue48
  t130 := Tryd.underlying52
  a130 := Tryd.isAgg52
  z130 := Tryd.sizeOf52
  v130 := Tryd.zeroValue52
  t131 := Tryd.underlying120
  a131 := Tryd.isAgg120
  z131 := Tryd.sizeOf120
  v131 := Tryd.zeroValue120
  g14 := by kernel_rfl
  t5 := Tryd.underlying5
  a5 := Tryd.isAgg5
  z5 := Tryd.sizeOf5
  v5 := Tryd.zeroValue5
  t9 := Tryd.underlying9
  a9 := Tryd.isAgg9
  z9 := Tryd.sizeOf9
  v9 := Tryd.zeroValue9
  t80 := Tryd.underlying105
  a80 := Tryd.isAgg105
  z80 := Tryd.sizeOf105
  v80 := Tryd.zeroValue105
  i0 := by kernel_rfl
  i3 := by kernel_rfl
  i4 := by kernel_rfl
  i5 := by kernel_rfl
  i9 := by kernel_rfl
  i20 := by kernel_rfl
  i37 := by kernel_rfl
  i75 := by kernel_rfl
  i80 := by kernel_rfl
  i91 := by kernel_rfl
  i93 := by kernel_rfl
  i130 := by kernel_rfl
  i131 := by kernel_rfl
  m14 := by kernel_rfl }

open Go.RowKit in
theorem Tryd.buf_len (B b : Nat) (bs : List Value) (w : World) (h : Lib.IsBuffer 48 5 B b bs w) :
    Calls Tryd.prog 54 #[.pointer (some ⟨b, 0, none⟩)] w fun e w' => e = .returned (.int .i64 bs.length) ∧ ∃ n, w' = w.drewN n :=
  Any.Buffer_Len (P := Tryd.prog) (ρ := Tryd.laysM180_ren) { Tryd.laysM180 with } B b bs w h
open Go.RowKit in
theorem Tryd.try_room (b : Nat) (ao : Option Addr) (l cap n : Nat) (w : World) (c0 : w.cell? ⟨b, 0, none⟩ = some (.slice ao l cap)) (f0 : w.frozen? ⟨b, 0, none⟩ = false) (hlc : l ≤ cap) (hcap : cap ≤ maxLen) (hn : n ≤ cap - l) :
    Calls Tryd.prog 52 #[.pointer (some ⟨b, 0, none⟩), .int .i64 n] w fun e w' => e = .returned (.tuple #[.int .i64 l, .bool true]) ∧ w' = w.setCell ⟨b, 0, none⟩ (.slice ao (l + n) cap) :=
  Any.Buffer_tryGrow_room (P := Tryd.prog) (ρ := Tryd.laysM180_ren) { Tryd.laysM180 with } b ao l cap n w c0 f0 hlc hcap hn
open Go.RowKit in
theorem Tryd.try_none (b : Nat) (ao : Option Addr) (l cap n : Nat) (w : World) (c0 : w.cell? ⟨b, 0, none⟩ = some (.slice ao l cap)) (hlc : l ≤ cap) (hcap : cap ≤ maxLen) (hn : cap - l < n) :
    Calls Tryd.prog 52 #[.pointer (some ⟨b, 0, none⟩), .int .i64 n] w fun e w' => e = .returned (.tuple #[.int .i64 0, .bool false]) ∧ w' = w :=
  Any.Buffer_tryGrow_none (P := Tryd.prog) (ρ := Tryd.laysM180_ren) { Tryd.laysM180 with } b ao l cap n w c0 hlc hcap hn
open Go.RowKit in
theorem Tryd.grow_row (g l c n : Nat) (cur : Array Value) (w : World) (hg : w.heap[g]? = some (.cells cur 5 (0, 0))) (hcs : cur.size = c) (hlc : l ≤ c) (hn : 1 ≤ n)
    (hlim : l + n ≤ 140737488355328) (hc2 : c ≤ 140737488355328) (h1 : ∀ v ∈ cur.toList.take l, v.oneCell' = true) :
    Calls Tryd.prog 55 #[.slice (some ⟨g, 0, none⟩) l c, .int .i64 n] w fun e w' => ∃ cap2 cells, e = .returned (.slice (some ⟨w.heap.size, 0, none⟩) l cap2) ∧ w'.heap[w.heap.size]? = some (.cells cells 5 (0, 0)) ∧
      cells.size = cap2 ∧ cells.toList.take l = cur.toList.take l ∧ l + n ≤ cap2 ∧ cap2 ≤ maxLen ∧ Below w.heap.size w w' :=
  Any.bytes_growSlice_row (P := Tryd.prog) (ρ := Tryd.laysM180_ren) { Tryd.laysM180 with } g l c n cur w hg hcs hlc hn hlim hc2 h1
open Go.RowKit in
theorem Tryd.grow_nil (n : Nat) (w : World) (hn : 1 ≤ n) (hlim : n ≤ 140737488355328) :
    Calls Tryd.prog 55 #[.slice none 0 0, .int .i64 n] w fun e w' => ∃ cap2 cells, e = .returned (.slice (some ⟨w.heap.size, 0, none⟩) 0 cap2) ∧ w'.heap[w.heap.size]? = some (.cells cells 5 (0, 0)) ∧
      cells.size = cap2 ∧ n ≤ cap2 ∧ cap2 ≤ maxLen ∧ Below w.heap.size w w' :=
  Any.bytes_growSlice_nil (P := Tryd.prog) (ρ := Tryd.laysM180_ren) { Tryd.laysM180 with } n w hn hlim
end Go.Proofs

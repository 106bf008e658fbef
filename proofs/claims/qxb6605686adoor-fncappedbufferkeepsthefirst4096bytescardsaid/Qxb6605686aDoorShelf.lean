import Derived.Shelf.LaysM
import Derived.Shelf.Bytes.LenAt
import Derived.Shelf.Bytes.TryGrowAt
import Derived.Shelf.Bytes.WriteAt
import Derived.Test.Qxb6605686aDoorRows
/- The shelf's contracts of (*bytes.Buffer).Len, tryGrowByReslice and Write, laid at this program (written by the shelf's own tools, then cut to what is used here). -/
namespace Go.Proofs.Qxb6605686aDoor
open Go.Shelf
def laysM181_ren : Go.Shelf.Ren := ⟨fun | 181 => 15 | n => n, fun | 130 => 45 | 3 => 3 | 0 => 0 | 93 => 36 | 37 => 24 | 91 => 34 | 5 => 5 | n => n, fun | n => n⟩
theorem laysM181 : Go.Proofs.LaysM.n181 Tryd.prog laysM181_ren := {
  mixed := by kernel_rfl
  f181 := Tryd.func15.trans (congrArg some (by kernel_rfl))
  t0 := Tryd.underlying0
  a0 := Tryd.isAgg0
  z0 := Tryd.sizeOf0
  v0 := Tryd.zeroValue0
  t3 := Tryd.underlying3
  a3 := Tryd.isAgg3
  z3 := Tryd.sizeOf3
  v3 := Tryd.zeroValue3
  t37 := Tryd.underlying24
  a37 := Tryd.isAgg24
  z37 := Tryd.sizeOf24
  v37 := Tryd.zeroValue24
  t93 := Tryd.underlying36
  a93 := Tryd.isAgg36
  z93 := Tryd.sizeOf36
  v93 := Tryd.zeroValue36
  t130 := Tryd.underlying45
  a130 := Tryd.isAgg45
  z130 := Tryd.sizeOf45
  v130 := Tryd.zeroValue45
  t5 := Tryd.underlying5
  a5 := Tryd.isAgg5
  z5 := Tryd.sizeOf5
  v5 := Tryd.zeroValue5
  t91 := Tryd.underlying34
  a91 := Tryd.isAgg34
  z91 := Tryd.sizeOf34
  v91 := Tryd.zeroValue34
  i0 := by kernel_rfl
  i3 := by kernel_rfl
  i5 := by kernel_rfl
  i37 := by kernel_rfl
  i91 := by kernel_rfl
  i93 := by kernel_rfl
  i130 := by kernel_rfl }
open Go.RowKit in
theorem Buffer_Len_at (T : TypeId) (R : Nat → Option Value) (B b q : Nat) (bs : List Value) (w : World) (h : LibA.IsBuffer T R 5 B b q bs w) :
    Calls Tryd.prog 15 #[.pointer (some ⟨b, q, none⟩)] w fun e w' => e = .returned (.int .i64 bs.length) ∧ ∃ n, w' = w.drewN n := Any.Buffer_Len_at laysM181 T R B b q bs w h
def laysM251_ren : Go.Shelf.Ren := ⟨fun | 251 => 17 | n => n, fun | 130 => 45 | 3 => 3 | 4 => 4 | 0 => 0 | 93 => 36 | 37 => 24 | 91 => 34 | 5 => 5 | n => n, fun | n => n⟩
theorem laysM251 : Go.Proofs.LaysM.n251 Tryd.prog laysM251_ren := {
  mixed := by kernel_rfl
  f251 := Tryd.func17.trans (congrArg some (by kernel_rfl))
  t0 := Tryd.underlying0
  a0 := Tryd.isAgg0
  z0 := Tryd.sizeOf0
  v0 := Tryd.zeroValue0
  t3 := Tryd.underlying3
  a3 := Tryd.isAgg3
  z3 := Tryd.sizeOf3
  v3 := Tryd.zeroValue3
  t4 := Tryd.underlying4
  a4 := Tryd.isAgg4
  z4 := Tryd.sizeOf4
  v4 := Tryd.zeroValue4
  t37 := Tryd.underlying24
  a37 := Tryd.isAgg24
  z37 := Tryd.sizeOf24
  v37 := Tryd.zeroValue24
  t93 := Tryd.underlying36
  a93 := Tryd.isAgg36
  z93 := Tryd.sizeOf36
  v93 := Tryd.zeroValue36
  t130 := Tryd.underlying45
  a130 := Tryd.isAgg45
  z130 := Tryd.sizeOf45
  v130 := Tryd.zeroValue45
  t5 := Tryd.underlying5
  a5 := Tryd.isAgg5
  z5 := Tryd.sizeOf5
  v5 := Tryd.zeroValue5
  t91 := Tryd.underlying34
  a91 := Tryd.isAgg34
  z91 := Tryd.sizeOf34
  v91 := Tryd.zeroValue34
  i0 := by kernel_rfl
  i3 := by kernel_rfl
  i4 := by kernel_rfl
  i5 := by kernel_rfl
  i37 := by kernel_rfl
  i91 := by kernel_rfl
  i93 := by kernel_rfl
  i130 := by kernel_rfl }
open Go.RowKit in
theorem Buffer_tryGrow_room_at (b q : Nat) (ao : Option Addr) (l cap n : Nat) (w : World) (c0 : w.cell? ⟨b, q, none⟩ = some (.slice ao l cap)) (f0 : w.frozen? ⟨b, q, none⟩ = false) (hlc : l ≤ cap) (hcap : cap ≤ maxLen) (hn : n ≤ cap - l) :
    Calls Tryd.prog 17 #[.pointer (some ⟨b, q, none⟩), .int .i64 n] w fun e w' => e = .returned (.tuple #[.int .i64 l, .bool true]) ∧ w' = w.setCell ⟨b, q, none⟩ (.slice ao (l + n) cap) := Any.Buffer_tryGrow_room_at laysM251 b q ao l cap n w c0 f0 hlc hcap hn
def laysM180_ren : Go.Shelf.Ren := ⟨fun | 180 => 16 | 251 => 17 | 252 => 18 | 181 => 15 | 184 => 19 | 290 => 20 | 324 => 21 | n => n, fun | 130 => 45 | 37 => 24 | 3 => 3 | 75 => 40 | 0 => 0 | 93 => 36 | 91 => 34 | 131 => 28 | 4 => 4 | 20 => 20 | 5 => 5 | 80 => 52 | 9 => 9 | n => n, fun | 14 => 0 | n => n⟩
theorem laysM180 : Go.Proofs.LaysM.n180 Tryd.prog laysM180_ren := {
  mixed := by kernel_rfl
  f180 := Tryd.func16.trans (congrArg some (by kernel_rfl))
  f181 := Tryd.func15.trans (congrArg some (by kernel_rfl))
  f184 := Tryd.func19.trans (congrArg some (by kernel_rfl))
  f251 := Tryd.func17.trans (congrArg some (by kernel_rfl))
  f252 := Tryd.func18.trans (congrArg some (by kernel_rfl))
  f290 := Tryd.func20.trans (congrArg some (by kernel_rfl))
  f324 := Tryd.func21.trans (congrArg some (by kernel_rfl))
  t0 := Tryd.underlying0
  a0 := Tryd.isAgg0
  z0 := Tryd.sizeOf0
  v0 := Tryd.zeroValue0
  t3 := Tryd.underlying3
  a3 := Tryd.isAgg3
  z3 := Tryd.sizeOf3
  v3 := Tryd.zeroValue3
  t4 := Tryd.underlying4
  a4 := Tryd.isAgg4
  z4 := Tryd.sizeOf4
  v4 := Tryd.zeroValue4
  t20 := Tryd.underlying20
  a20 := Tryd.isAgg20
  z20 := Tryd.sizeOf20
  v20 := Tryd.zeroValue20
  t37 := Tryd.underlying24
  a37 := Tryd.isAgg24
  z37 := Tryd.sizeOf24
  v37 := Tryd.zeroValue24
  t75 := Tryd.underlying40
  a75 := Tryd.isAgg40
  z75 := Tryd.sizeOf40
  v75 := Tryd.zeroValue40
  t91 := Tryd.underlying34
  a91 := Tryd.isAgg34
  z91 := Tryd.sizeOf34
  v91 := Tryd.zeroValue34
  t93 := Tryd.underlying36
  a93 := Tryd.isAgg36
  z93 := Tryd.sizeOf36
  v93 := Tryd.zeroValue36
  t130 := Tryd.underlying45
  a130 := Tryd.isAgg45
  z130 := Tryd.sizeOf45
  v130 := Tryd.zeroValue45
  t131 := Tryd.underlying28
  a131 := Tryd.isAgg28
  z131 := Tryd.sizeOf28
  v131 := Tryd.zeroValue28
  g14 := by kernel_rfl
  t5 := Tryd.underlying5
  a5 := Tryd.isAgg5
  z5 := Tryd.sizeOf5
  v5 := Tryd.zeroValue5
  t9 := Tryd.underlying9
  a9 := Tryd.isAgg9
  z9 := Tryd.sizeOf9
  v9 := Tryd.zeroValue9
  t80 := Tryd.underlying52
  a80 := Tryd.isAgg52
  z80 := Tryd.sizeOf52
  v80 := Tryd.zeroValue52
  i0 := by kernel_rfl
  i3 := by kernel_rfl
  i4 := by kernel_rfl
  i5 := by kernel_rfl
  i9 := by kernel_rfl
  i20 := by kernel_rfl
  i37 := by kernel_rfl
  i75 := by kernel_rfl
  i80 := by kernel_rfl
  i91 := by kernel_rfl
  i93 := by kernel_rfl
  i130 := by kernel_rfl
  i131 := by kernel_rfl
  m14 := by kernel_rfl }
open Go.RowKit in
theorem Buffer_Write_at (T : TypeId) (R : Nat → Option Value) (B b q : Nat) (bs cs : List Value) (a : Addr) (n c : Nat) (w : World) (h : LibA.IsBuffer T R 5 B b q bs w) (hBw : B ≤ w.heap.size) (h1 : ∀ v ∈ bs, v.oneCell' = true) (hn : cs.length = n) (hab : a.block ≠ b) (hsrc : ∀ j v, cs[j]? = some v → w.cell? (a.add j) = some v) (h1c : ∀ v ∈ cs, v.oneCell' = true) (hlim : bs.length + n ≤ 140737488355328) :
    Calls Tryd.prog 16 #[.pointer (some ⟨b, q, none⟩), .slice (some a) n c] w fun e w' => e = .returned (.tuple #[.int .i64 n, .nilIface]) ∧ LibA.IsBuffer T R 5 B b q (bs ++ cs) w' ∧ Below B w w' ∧ Lib.OthersKept 5 (some b) w w' := Any.Buffer_Write_at laysM180 T R B b q bs cs a n c w h hBw h1 hn hab hsrc h1c hlim
end Go.Proofs.Qxb6605686aDoor

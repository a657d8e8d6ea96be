import Derived.Shelf.Bytes.BufferK
import Derived.Shelf.Bytes.Bytes
import Derived.Lib.BufferKept
import Derived.Test.Qxb6601842aDoorProg
import Derived.Test.Qxb6601842aDoorLays
import Derived.WalkKit
import Derived.BigCall
namespace Go.Proofs.Qxb6601842aDoor
open Go.Shelf Go.RowKit


theorem wbyte (B b : Nat) (bs : List Value) (c : Int) (w : World) (h : Lib.IsBuffer 46 5 B b bs w) (hBw : B ≤ w.heap.size) (h1 : ∀ v ∈ bs, v.oneCell' = true) (hlim : bs.length + 1 ≤ 140737488355328) :
    Calls Tryd.prog 23 #[.pointer (some ⟨b, 0, none⟩), .int .u8 c] w fun e w' => e = .returned .nilIface ∧ Lib.IsBuffer 46 5 B b (bs ++ [.int .u8 c]) w' ∧ Below B w w' ∧ Lib.OthersKept 5 (some b) w w' :=
  Any.Buffer_WriteByte_k Tryd.laysByte B b bs c w h hBw h1 hlim

theorem wstr (B b : Nat) (bs : List Value) (s : ByteArray) (w : World) (h : Lib.IsBuffer 46 5 B b bs w) (hBw : B ≤ w.heap.size) (h1 : ∀ v ∈ bs, v.oneCell' = true) (hlim : bs.length + s.size ≤ 140737488355328) :
    Calls Tryd.prog 24 #[.pointer (some ⟨b, 0, none⟩), .string s] w fun e w' => e = .returned (.tuple #[.int .i64 s.size, .nilIface]) ∧ Lib.IsBuffer 46 5 B b (bs ++ Lib.byteCells s.data.toList) w' ∧ Below B w w' ∧ Lib.OthersKept 5 (some b) w w' :=
  Any.Buffer_WriteString_k Tryd.laysStr B b bs s w h hBw h1 hlim

theorem bufBytes (B b : Nat) (bs : List Value) (w : World) (h : Lib.IsBuffer 46 5 B b bs w) :
    Calls Tryd.prog 18 #[.pointer (some ⟨b, 0, none⟩)] w fun e w' => ∃ v, e = .returned v ∧ w'.ownsRow B 5 1 v bs.length bs ∧ ∃ n, w' = w.drewN n :=
  Any.Buffer_Bytes Tryd.laysBytes B b bs w h
end Go.Proofs.Qxb6601842aDoor

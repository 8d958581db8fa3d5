/-
  The library's contracts on encoding/hex.EncodeToString, laid at this dump by the kit's own tools.
-/
import Derived.Ground.PaProg
import Derived.Shelf.Hex.Encode
import Derived.Shelf.Hex.More
import Derived.Test.Qxb6603496aProg
namespace Go.Proofs
open Go.Shelf
def Try.laysPah39_ren : Go.Shelf.Ren := ⟨fun | 39 => 10 | 41 => 11 | 40 => 12 | n => n, fun | 30 => 22 | 9 => 9 | 3 => 3 | 0 => 0 | 5 => 5 | 46 => 35 | n => n, fun | n => n⟩
theorem Try.laysPah39 : Go.Proofs.Lays.ph39 Try.prog Try.laysPah39_ren := {
  mixed := by kernel_rfl
  f39 := Try.func10.trans (congrArg some (by kernel_rfl))
  f40 := Try.func12.trans (congrArg some (by kernel_rfl))
  f41 := Try.func11.trans (congrArg some (by kernel_rfl))
  t0 := Try.underlying0
  a0 := Try.isAgg0
  z0 := Try.sizeOf0
  v0 := Try.zeroValue0
  t3 := Try.underlying3
  a3 := Try.isAgg3
  z3 := Try.sizeOf3
  v3 := Try.zeroValue3
  t5 := Try.underlying5
  a5 := Try.isAgg5
  z5 := Try.sizeOf5
  v5 := Try.zeroValue5
  t9 := Try.underlying9
  a9 := Try.isAgg9
  z9 := Try.sizeOf9
  v9 := Try.zeroValue9
  t30 := Try.underlying22
  a30 := Try.isAgg22
  z30 := Try.sizeOf22
  v30 := Try.zeroValue22
  t46 := Try.underlying35
  a46 := Try.isAgg35
  z46 := Try.sizeOf35
  v46 := Try.zeroValue35
  info5 := by kernel_rfl }
open Go.RowKit Go.Lib in
theorem Try.hex_EncodeToString (bs os n cs : Nat) (xs : List Int) (w : World) (hx : xs.length = n) (hr : ∀ i, i < n → 0 ≤ xs.getD i 0 ∧ xs.getD i 0 < 256) (hsrc : ∀ i, i < n → w.cell? ⟨bs, os + i, none⟩ = some (.int .u8 (xs.getD i 0))) (hb : bs < w.heap.size) (hbig : 2 * n ≤ 281474976710656) :
    Calls Try.prog 10 #[.slice (some ⟨bs, os, none⟩) n cs] w fun e w' => e = .returned (.string ⟨(Hx.encode (Lib.bytesOf xs)).toArray⟩) ∧ Below w.heap.size w w' := Any.hex_EncodeToString Try.laysPah39 bs os n cs xs w hx hr hsrc hb hbig
open Go.RowKit Go.Lib in
theorem Try.hex_EncodeToString_nil (w : World) :
    Calls Try.prog 10 #[.slice none 0 0] w fun e w' => e = .returned (.string ⟨#[]⟩) ∧ Below w.heap.size w w' := Any.hex_EncodeToString_nil Try.laysPah39 w
open Go.RowKit Go.Lib in
theorem Try.hex_EncodeToString_bytes (bs os cs : Nat) (l : List UInt8) (w : World) (hsrc : ∀ i (h : i < l.length), w.cell? ⟨bs, os + i, none⟩ = some (.int .u8 ((l[i]'h).toNat : Int))) (hb : bs < w.heap.size) (hbig : 2 * l.length ≤ 281474976710656) :
    Calls Try.prog 10 #[.slice (some ⟨bs, os, none⟩) l.length cs] w fun e w' => e = .returned (.string ⟨(Hx.encode l).toArray⟩) ∧ Below w.heap.size w w' := Any.hex_EncodeToString_bytes Try.laysPah39 bs os cs l w hsrc hb hbig
end Go.Proofs

/- The shelf contract for path.Join at this dump, in plain words, written by a tool of the kit. -/
import Derived.Ground.PaProg
import Derived.Shelf.Path.Join
import Derived.Shelf.Path.JoinRules
import Derived.Test.Qxb6613095aDoorProg
namespace Go.Proofs
open Go.Shelf
def Tryd.laysPah31_ren : Go.Shelf.Ren := ⟨fun | 31 => 32 | 30 => 45 | 46 => 59 | 47 => 60 | 48 => 61 | n => n, fun | 26 => 25 | 9 => 9 | 3 => 3 | 0 => 0 | 4 => 4 | 30 => 60 | 5 => 5 | 42 => 112 | 48 => 122 | n => n, fun | n => n⟩
theorem Tryd.laysPah31 : Go.Proofs.Lays.ph31 Tryd.prog Tryd.laysPah31_ren := {
  mixed := by kernel_rfl
  f30 := Tryd.func45.trans (congrArg some (by kernel_rfl))
  f31 := Tryd.func32.trans (congrArg some (by kernel_rfl))
  f46 := Tryd.func59.trans (congrArg some (by kernel_rfl))
  f47 := Tryd.func60.trans (congrArg some (by kernel_rfl))
  f48 := Tryd.func61.trans (congrArg some (by kernel_rfl))
  t0 := Tryd.underlying0
  a0 := Tryd.isAgg0
  z0 := Tryd.sizeOf0
  v0 := Tryd.zeroValue0
  t3 := Tryd.underlying3
  a3 := Tryd.isAgg3
  z3 := Tryd.sizeOf3
  v3 := Tryd.zeroValue3
  t4 := Tryd.underlying4
  a4 := Tryd.isAgg4
  z4 := Tryd.sizeOf4
  v4 := Tryd.zeroValue4
  t5 := Tryd.underlying5
  a5 := Tryd.isAgg5
  z5 := Tryd.sizeOf5
  v5 := Tryd.zeroValue5
  t9 := Tryd.underlying9
  a9 := Tryd.isAgg9
  z9 := Tryd.sizeOf9
  v9 := Tryd.zeroValue9
  t26 := Tryd.underlying25
  a26 := Tryd.isAgg25
  z26 := Tryd.sizeOf25
  v26 := Tryd.zeroValue25
  t30 := Tryd.underlying60
  a30 := Tryd.isAgg60
  z30 := Tryd.sizeOf60
  v30 := Tryd.zeroValue60
  t42 := Tryd.underlying112
  a42 := Tryd.isAgg112
  z42 := Tryd.sizeOf112
  v42 := Tryd.zeroValue112
  t48 := Tryd.underlying122
  a48 := Tryd.isAgg122
  z48 := Tryd.sizeOf122
  v48 := Tryd.zeroValue122
  info5 := by kernel_rfl }
open Go.RowKit Go.Lib in
theorem Tryd.path_Join_rules (bk o c : Nat) (xs : List ByteArray) (w : World) (hcells : ∀ (j : Nat) x, xs[j]? = some x → w.cell? ⟨bk, o + j, none⟩ = some (.string x)) (hbk : bk < w.heap.size) (hlen : Pa.lens (xs.map (·.data.toList)) + xs.length ≤ 281474976710656) :
    Calls Tryd.prog 32 #[.slice (some ⟨bk, o, none⟩) xs.length c] w fun e w' => e = .returned (.string ⟨(Pa.join (xs.map (·.data.toList))).toArray⟩) ∧ Below w.heap.size w w' := Any.path_Join_rules Tryd.laysPah31 bk o c xs w hcells hbk hlen
end Go.Proofs

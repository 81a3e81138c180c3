/-
  DERIVED: THE SHELF's CONTRACTS AT THIS DUMP, IN PLAIN WORDS (tools/lay-plain.mjs out of 'Qxb6605527aShelf.lean', which tools/lay-shelf.mjs wrote): THE SAME DECLARATIONS UNDER THE SAME NAMES: 'import', 'namespace', 'open', 'def', 'theorem' AND NOTHING ELSE: no command of the shelf's: FOR A HAND-IN. Each laying: the table of numbers ('.._ren') and one theorem, a field a fact of the dump's own or the kernel's comparison; each contract: ONE APPLICATION.
-/
import Derived.Shelf.Sort.Plain
import Derived.Shelf.Strings.OnBuilder
import Derived.Test.Qxb6605527aProg
namespace Go.Proofs
open Go.Shelf
def Try.lays190_ren : Go.Shelf.Ren := ⟨fun | 190 => 23 | 125 => 27 | 258 => 26 | 128 => 40 | 129 => 41 | 302 => 31 | 303 => 32 | 304 => 33 | 305 => 34 | 306 => 35 | 307 => 36 | 308 => 37 | 309 => 38 | 310 => 39 | 333 => 44 | 329 => 45 | 330 => 46 | 334 => 47 | 335 => 48 | 336 => 49 | 344 => 52 | n => n, fun | 31 => 29 | 9 => 9 | 3 => 3 | 46 => 44 | 0 => 0 | 51 => 65 | 53 => 23 | 4 => 4 | 183 => 58 | 182 => 57 | 131 => 62 | 5 => 5 | 218 => 68 | 222 => 72 | 228 => 77 | 229 => 78 | n => n, fun | n => n⟩
theorem Try.lays190 : Go.Proofs.Lays.n190 Try.prog Try.lays190_ren := {
  mixed := by kernel_rfl
  f125 := Try.func27.trans (congrArg some (by kernel_rfl))
  f128 := Try.func40.trans (congrArg some (by kernel_rfl))
  f129 := Try.func41.trans (congrArg some (by kernel_rfl))
  f190 := Try.func23.trans (congrArg some (by kernel_rfl))
  f258 := Try.func26.trans (congrArg some (by kernel_rfl))
  f302 := Try.func31.trans (congrArg some (by kernel_rfl))
  f303 := Try.func32.trans (congrArg some (by kernel_rfl))
  f304 := Try.func33.trans (congrArg some (by kernel_rfl))
  f305 := Try.func34.trans (congrArg some (by kernel_rfl))
  f306 := Try.func35.trans (congrArg some (by kernel_rfl))
  f307 := Try.func36.trans (congrArg some (by kernel_rfl))
  f308 := Try.func37.trans (congrArg some (by kernel_rfl))
  f309 := Try.func38.trans (congrArg some (by kernel_rfl))
  f310 := Try.func39.trans (congrArg some (by kernel_rfl))
  f329 := Try.func45.trans (congrArg some (by kernel_rfl))
  f330 := Try.func46.trans (congrArg some (by kernel_rfl))
  f333 := Try.func44.trans (congrArg some (by kernel_rfl))
  f334 := Try.func47.trans (congrArg some (by kernel_rfl))
  f335 := Try.func48.trans (congrArg some (by kernel_rfl))
  f336 := Try.func49.trans (congrArg some (by kernel_rfl))
  f344 := Try.func52.trans (congrArg some (by kernel_rfl))
  t0 := Try.underlying0
  a0 := Try.isAgg0
  z0 := Try.sizeOf0
  v0 := Try.zeroValue0
  t3 := Try.underlying3
  a3 := Try.isAgg3
  z3 := Try.sizeOf3
  v3 := Try.zeroValue3
  t4 := Try.underlying4
  a4 := Try.isAgg4
  z4 := Try.sizeOf4
  v4 := Try.zeroValue4
  t5 := Try.underlying5
  a5 := Try.isAgg5
  z5 := Try.sizeOf5
  v5 := Try.zeroValue5
  t9 := Try.underlying9
  a9 := Try.isAgg9
  z9 := Try.sizeOf9
  v9 := Try.zeroValue9
  t31 := Try.underlying29
  a31 := Try.isAgg29
  z31 := Try.sizeOf29
  v31 := Try.zeroValue29
  t46 := Try.underlying44
  a46 := Try.isAgg44
  z46 := Try.sizeOf44
  v46 := Try.zeroValue44
  t51 := Try.underlying65
  a51 := Try.isAgg65
  z51 := Try.sizeOf65
  v51 := Try.zeroValue65
  t53 := Try.underlying23
  a53 := Try.isAgg23
  z53 := Try.sizeOf23
  v53 := Try.zeroValue23
  t131 := Try.underlying62
  a131 := Try.isAgg62
  z131 := Try.sizeOf62
  v131 := Try.zeroValue62
  t182 := Try.underlying57
  a182 := Try.isAgg57
  z182 := Try.sizeOf57
  v182 := Try.zeroValue57
  t183 := Try.underlying58
  a183 := Try.isAgg58
  z183 := Try.sizeOf58
  v183 := Try.zeroValue58
  t218 := Try.underlying68
  a218 := Try.isAgg68
  z218 := Try.sizeOf68
  v218 := Try.zeroValue68
  t222 := Try.underlying72
  a222 := Try.isAgg72
  z222 := Try.sizeOf72
  v222 := Try.zeroValue72
  t228 := Try.underlying77
  a228 := Try.isAgg77
  z228 := Try.sizeOf77
  v228 := Try.zeroValue77
  t229 := Try.underlying78
  a229 := Try.isAgg78
  z229 := Try.sizeOf78
  v229 := Try.zeroValue78 }
open Go.RowKit Go.Sort in
theorem Try.slices_Sort_string (blk off cap : Nat) (ss : List (List UInt8)) (w : World) (hH : Holds encStr w blk off ss.toArray) (hblk : blk < w.heap.size) (hsz : ss.length < 4611686018427387904) :
    Calls Try.prog 23 #[.slice (some ⟨blk, off, none⟩) ss.length cap] w fun e w' =>
      e = .returned (.tuple #[]) ∧ ∃ n os, w' = grow (putRow encStr (Sort.ahead w n) blk off (ss.mergeSort fun x y => decide (x ≤ y)).toArray) os := Any.slices_Sort_string Try.lays190 blk off cap ss w hH hblk hsz
def Try.lays156_ren : Go.Shelf.Ren := ⟨fun | 156 => 24 | 165 => 28 | 166 => 29 | 169 => 30 | 240 => 42 | 241 => 43 | 276 => 50 | 277 => 51 | n => n, fun | 31 => 29 | 9 => 9 | 3 => 3 | 4 => 4 | 0 => 0 | 20 => 20 | 72 => 49 | 76 => 53 | 70 => 47 | 37 => 34 | 75 => 52 | 127 => 67 | 164 => 74 | 5 => 5 | 80 => 55 | n => n, fun | n => n⟩
theorem Try.lays156 : Go.Proofs.Lays.n156 Try.prog Try.lays156_ren := {
  mixed := by kernel_rfl
  f156 := Try.func24.trans (congrArg some (by kernel_rfl))
  f165 := Try.func28.trans (congrArg some (by kernel_rfl))
  f166 := Try.func29.trans (congrArg some (by kernel_rfl))
  f169 := Try.func30.trans (congrArg some (by kernel_rfl))
  f240 := Try.func42.trans (congrArg some (by kernel_rfl))
  f241 := Try.func43.trans (congrArg some (by kernel_rfl))
  f276 := Try.func50.trans (congrArg some (by kernel_rfl))
  f277 := Try.func51.trans (congrArg some (by kernel_rfl))
  t0 := Try.underlying0
  a0 := Try.isAgg0
  z0 := Try.sizeOf0
  v0 := Try.zeroValue0
  t3 := Try.underlying3
  a3 := Try.isAgg3
  z3 := Try.sizeOf3
  v3 := Try.zeroValue3
  t4 := Try.underlying4
  a4 := Try.isAgg4
  z4 := Try.sizeOf4
  v4 := Try.zeroValue4
  t9 := Try.underlying9
  a9 := Try.isAgg9
  z9 := Try.sizeOf9
  v9 := Try.zeroValue9
  t20 := Try.underlying20
  a20 := Try.isAgg20
  z20 := Try.sizeOf20
  v20 := Try.zeroValue20
  t31 := Try.underlying29
  a31 := Try.isAgg29
  z31 := Try.sizeOf29
  v31 := Try.zeroValue29
  t37 := Try.underlying34
  a37 := Try.isAgg34
  z37 := Try.sizeOf34
  v37 := Try.zeroValue34
  t70 := Try.underlying47
  a70 := Try.isAgg47
  z70 := Try.sizeOf47
  v70 := Try.zeroValue47
  t72 := Try.underlying49
  a72 := Try.isAgg49
  z72 := Try.sizeOf49
  v72 := Try.zeroValue49
  t75 := Try.underlying52
  a75 := Try.isAgg52
  z75 := Try.sizeOf52
  v75 := Try.zeroValue52
  t76 := Try.underlying53
  a76 := Try.isAgg53
  z76 := Try.sizeOf53
  v76 := Try.zeroValue53
  t127 := Try.underlying67
  a127 := Try.isAgg67
  z127 := Try.sizeOf67
  v127 := Try.zeroValue67
  t164 := Try.underlying74
  a164 := Try.isAgg74
  z164 := Try.sizeOf74
  v164 := Try.zeroValue74 }
theorem Try.Builder_Extra_156 : Builder.Extra Try.prog Try.lays156_ren := {
  sizeBuilder := by kernel_rfl
  liesBuilder := by kernel_rfl
  t5 := Try.underlying5
  a5 := Try.isAgg5
  z5 := Try.sizeOf5
  v5 := Try.zeroValue5
  infoByte := by kernel_rfl
  cellsByte := by kernel_rfl
  sizeByte := by kernel_rfl
  neB5 := by decide }
open Go.RowKit in
theorem Try.strings_Join_none (a : Option Addr) (c : Nat) (sep : ByteArray) (w : World) :
    Calls Try.prog 24 #[.slice a 0 c, .string sep] w fun e w' => e = .returned (.string ⟨#[]⟩) ∧ w' = w := Any.strings_Join_none Try.lays156 Try.Builder_Extra_156 a c sep w
open Go.RowKit in
theorem Try.strings_Join (bk o c : Nat) (xs : List ByteArray) (sep : ByteArray) (w : World) (hcells : ∀ (j : Nat) x, xs[j]? = some x → w.cell? ⟨bk, o + j, none⟩ = some (.string x)) (hbk : bk < w.heap.size) (hN : xs.length ≤ 140737488355328) (hcap : xs.length ≤ c) (hlen : (Lib.join (xs.map (·.data.toList)) sep.data.toList).length ≤ 140737488355328) :
    Calls Try.prog 24 #[.slice (some ⟨bk, o, none⟩) xs.length c, .string sep] w fun e w' => e = .returned (.string ⟨(Lib.join (xs.map (·.data.toList)) sep.data.toList).toArray⟩) ∧ Below w.heap.size w w' := Any.strings_Join Try.lays156 Try.Builder_Extra_156 bk o c xs sep w hcells hbk hN hcap hlen
end Go.Proofs

/- slices.SortFunc at this dump (function 17): the laying in plain words, and the contract at the awaited receipts under the comparator (function 18). -/
import Derived.Test.YbulkbpqaCmpA
import Derived.Shelf.SlSortCmp.WholeK
import Derived.Shelf.SlSortCmp.NoneTotal
import Derived.Shelf.SlGeneric
namespace Go.Proofs.Ybulkbpqa
open Go.Shelf Go.RowKit Go.Lib Go.Sort
def Yba.sortL_ren : Go.Shelf.Ren := ⟨fun | 6 => 17 | 15 => 25 | 14 => 24 | 28 => 36 | 29 => 37 | 20 => 28 | 21 => 29 | 22 => 30 | 23 => 31 | 24 => 32 | 25 => 33 | 26 => 34 | 27 => 35 | 46 => 38 | 47 => 39 | 48 => 40 | 49 => 41 | 50 => 42 | 57 => 43 | n => n, fun | 22 => 32 | 24 => 36 | 25 => 75 | 3 => 3 | 39 => 88 | 0 => 0 | 53 => 100 | 55 => 79 | 4 => 4 | 46 => 93 | 45 => 92 | 50 => 97 | 5 => 5 | 9 => 9 | 66 => 102 | 70 => 106 | 76 => 108 | 77 => 109 | n => n, fun | n => n⟩
theorem Yba.sortL : Go.Proofs.SlLaysF0.n6 Yba.prog Yba.sortL_ren := {
  mixed := by kernel_rfl
  f6 := ⟨Yba.f17.name, by decide, Yba.func17.trans (congrArg some (by kernel_rfl))⟩
  f14 := ⟨Yba.f24.name, by decide, Yba.func24.trans (congrArg some (by kernel_rfl))⟩
  f15 := Yba.func25.trans (congrArg some (by kernel_rfl))
  f20 := ⟨Yba.f28.name, by decide, Yba.func28.trans (congrArg some (by kernel_rfl))⟩
  f21 := ⟨Yba.f29.name, by decide, Yba.func29.trans (congrArg some (by kernel_rfl))⟩
  f22 := ⟨Yba.f30.name, by decide, Yba.func30.trans (congrArg some (by kernel_rfl))⟩
  f23 := ⟨Yba.f31.name, by decide, Yba.func31.trans (congrArg some (by kernel_rfl))⟩
  f24 := ⟨Yba.f32.name, by decide, Yba.func32.trans (congrArg some (by kernel_rfl))⟩
  f25 := ⟨Yba.f33.name, by decide, Yba.func33.trans (congrArg some (by kernel_rfl))⟩
  f26 := ⟨Yba.f34.name, by decide, Yba.func34.trans (congrArg some (by kernel_rfl))⟩
  f27 := ⟨Yba.f35.name, by decide, Yba.func35.trans (congrArg some (by kernel_rfl))⟩
  f28 := Yba.func36.trans (congrArg some (by kernel_rfl))
  f29 := Yba.func37.trans (congrArg some (by kernel_rfl))
  f46 := ⟨Yba.f38.name, by decide, Yba.func38.trans (congrArg some (by kernel_rfl))⟩
  f47 := Yba.func39.trans (congrArg some (by kernel_rfl))
  f48 := Yba.func40.trans (congrArg some (by kernel_rfl))
  f49 := ⟨Yba.f41.name, by decide, Yba.func41.trans (congrArg some (by kernel_rfl))⟩
  f50 := ⟨Yba.f42.name, by decide, Yba.func42.trans (congrArg some (by kernel_rfl))⟩
  f57 := ⟨Yba.f43.name, by decide, Yba.func43.trans (congrArg some (by kernel_rfl))⟩
  t0 := Yba.underlying0
  a0 := Yba.isAgg0
  z0 := Yba.sizeOf0
  v0 := Yba.zeroValue0
  t3 := Yba.underlying3
  a3 := Yba.isAgg3
  z3 := Yba.sizeOf3
  v3 := Yba.zeroValue3
  t4 := Yba.underlying4
  a4 := Yba.isAgg4
  z4 := Yba.sizeOf4
  v4 := Yba.zeroValue4
  t5 := Yba.underlying5
  a5 := Yba.isAgg5
  z5 := Yba.sizeOf5
  v5 := Yba.zeroValue5
  t9 := Yba.underlying9
  a9 := Yba.isAgg9
  z9 := Yba.sizeOf9
  v9 := Yba.zeroValue9
  t22 := Yba.underlying32
  a22 := Yba.isAgg32
  z22 := Yba.sizeOf32
  v22 := Yba.zeroValue32
  t25 := Yba.underlying75
  a25 := Yba.isAgg75
  z25 := Yba.sizeOf75
  v25 := Yba.zeroValue75
  t39 := Yba.underlying88
  a39 := Yba.isAgg88
  z39 := Yba.sizeOf88
  v39 := Yba.zeroValue88
  t45 := Yba.underlying92
  a45 := Yba.isAgg92
  z45 := Yba.sizeOf92
  v45 := Yba.zeroValue92
  t46 := Yba.underlying93
  a46 := Yba.isAgg93
  z46 := Yba.sizeOf93
  v46 := Yba.zeroValue93
  t50 := Yba.underlying97
  a50 := Yba.isAgg97
  z50 := Yba.sizeOf97
  v50 := Yba.zeroValue97
  t53 := Yba.underlying100
  a53 := Yba.isAgg100
  z53 := Yba.sizeOf100
  v53 := Yba.zeroValue100
  t55 := Yba.underlying79
  a55 := Yba.isAgg79
  z55 := Yba.sizeOf79
  v55 := Yba.zeroValue79
  t66 := Yba.underlying102
  a66 := Yba.isAgg102
  z66 := Yba.sizeOf102
  v66 := Yba.zeroValue102
  t70 := Yba.underlying106
  a70 := Yba.isAgg106
  z70 := Yba.sizeOf106
  v70 := Yba.zeroValue106
  t76 := Yba.underlying108
  a76 := Yba.isAgg108
  z76 := Yba.sizeOf108
  v76 := Yba.zeroValue108
  t77 := Yba.underlying109
  a77 := Yba.isAgg109
  z77 := Yba.sizeOf109
  v77 := Yba.zeroValue109 }

theorem sortA (blk off cap : Nat) (d : Array Aw) (w : World) (hH : HoldsK encAw 8 w blk off d) (hblk : blk < w.heap.size) (hsz : d.size < 4611686018427387904) :
    Calls Yba.prog 17 #[.slice (some ⟨blk, off, none⟩) d.size cap, .func (.func 18) #[] #[]] w fun e w' =>
      e = .returned (.tuple #[]) ∧ ∃ d' n os, PermIn 0 d.size d d' ∧ SortedIn (ltOf cmpAw) 0 d.size d' ∧ w' = sortWorldK encAw 8 w blk off n d' os := by
  have eg : ∀ args w, (callFunc 18 args).run Yba.prog w = .ok (.enter 18 args) w := enters_of Yba.func18 (by kernel_rfl) rfl
  exact AnyQ.slices_SortFunc Yba.sortL 8 Yba.isAgg36 Yba.sizeOf36 encAw (fun _ => rfl) (fun x v hv => by simp [encAw] at hv; rcases hv with rfl | rfl | rfl | rfl | rfl | rfl | rfl | rfl <;> rfl) cmpAw swoAw 18 #[] blk off cap d w eg (cmpLaysA blk off d.size w) hH hblk hsz

theorem sortA_none (p : Option Addr) (cap : Nat) (fv : Value) (w : World) :
    Calls Yba.prog 17 #[.slice p 0 cap, fv] w fun e w' => e = .returned (.tuple #[]) ∧ w' = w :=
  AnyF.slices_SortFunc_none Yba.sortL p cap fv w
end Go.Proofs.Ybulkbpqa

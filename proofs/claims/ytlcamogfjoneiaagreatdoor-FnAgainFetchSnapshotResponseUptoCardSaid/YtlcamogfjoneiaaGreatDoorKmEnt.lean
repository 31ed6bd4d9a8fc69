/- What the laws over trees need beside. -/
import Derived.Test.YtlcamogfjoneiaaGreatDoorKmEnv
import Derived.Test.YtlcamogfjoneiaaGreatDoorKc00
import Derived.Test.YtlcamogfjoneiaaGreatDoorKc01
set_option linter.unusedVariables false
namespace Go.Proofs.YtlcamogfjoneiaaGreatDoor
open Go Go.Km
theorem st : STexts Tryz.prog E where
  has := (tu Tryz.func22)
  null := (tu Tryz.func48)
  whole := (tu Tryz.func29)
  things := (tu Tryz.func49)
  at' := (tu Tryz.func24)
  uvar := (tu Tryz.func27)
  fixed := (tu Tryz.func52)
  width := (tu Tryz.func53)
  counted := (tu Tryz.func50)
  value := (tu Tryz.func51)
  field := (tu Tryz.func23)
  known := (tu Tryz.func25)
  usual := (tu Tryz.func26)
  unknown := (tu Tryz.func28)
  part := (tu Tryz.func14)
  dflt := fun h => absurd rfl h
  write := (tu Tryz.func6)
  same := (tu Tryz.func10)
  mixed := by kernel_rfl
theorem se : SEnv Tryz.prog E where
  row := by kernel_rfl
  u8 := by kernel_rfl
  int := by kernel_rfl
  i64 := by kernel_rfl
  u32 := by kernel_rfl
  u64 := by kernel_rfl
  oInt := by kernel_rfl
  oI64 := by kernel_rfl
  oU32 := by kernel_rfl
  oU8 := by kernel_rfl
  oBool := by kernel_rfl
  oBytes := by kernel_rfl
  oTrees := by kernel_rfl
  oFlds := by kernel_rfl
  oUnks := by kernel_rfl
  fFld := by kernel_rfl
  fTree := by kernel_rfl
  fUnk := by kernel_rfl
  aFld := by kernel_rfl
  aTree := by kernel_rfl
  aUnk := by kernel_rfl
  sFlds := by kernel_rfl
  rTrees := by kernel_rfl
  rUnks := by kernel_rfl
theorem sl : SLay Tryz.prog E where
  tree := by kernel_rfl
  fld := by kernel_rfl
  msg := by kernel_rfl
  unk := by kernel_rfl
theorem tr5 : TreeT Tryz.prog E where
  tree := by kernel_rfl
  unk := by kernel_rfl
  trees := by kernel_rfl
  unks := by kernel_rfl
  bytes := by kernel_rfl
  u8 := by kernel_rfl
  i64 := by kernel_rfl
  u32 := by kernel_rfl
  bool := by kernel_rfl
  cTree := by kernel_rfl
  cUnk := by kernel_rfl
  c8 := by kernel_rfl
  c64 := by kernel_rfl
  c32 := by kernel_rfl
  cBool := by kernel_rfl
  cBytes := by kernel_rfl
  cTrees := by kernel_rfl
  cUnks := by kernel_rfl
theorem hz8 : qQ Tryz.prog E.tU8 = some (.int .u8 0) := by kernel_rfl
theorem hoM : offs Tryz.prog E.tMsg 2 = true := by kernel_rfl
theorem hM : zd Tryz.prog E.tMsg = some 2 := by kernel_rfl
theorem hrF : xo Tryz.prog E.tFlds E.tFld 8 = true := by kernel_rfl
theorem one_le {H : Type} (d : DataW H) : 1 ≤ Rows.uptoBulk d := by
  cases d with
  | lit l => cases l <;> simp [Rows.uptoBulk]
  | nil => simp [Rows.uptoBulk]
  | ptr d => simp [Rows.uptoBulk]
  | slice elems spare => simp [Rows.uptoBulk]
  | agg parts => simp [Rows.uptoBulk]
  | iface t d => simp [Rows.uptoBulk]
  | map entries => simp [Rows.uptoBulk]
  | held h => simp [Rows.uptoBulk]
theorem bk (H : Type) : Bulk (H := H) Rows.uptoBulk Rows.uptoBulkAll := ⟨fun _ => by simp only [Rows.uptoBulk], fun _ _ => by simp only [Rows.uptoBulk], by simp only [Rows.uptoBulkAll], fun _ _ => by simp only [Rows.uptoBulkAll], one_le⟩
theorem bound {H : Type} {l : List (DataW H)} (hk : Rows.uptoSmall H l = true) : Rows.uptoBulkAll l ≤ 1048576 := of_decide_eq_true hk
end Go.Proofs.YtlcamogfjoneiaaGreatDoor

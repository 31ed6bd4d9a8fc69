/- What the laws over trees need beside. -/
import Derived.Test.YtfgpkjcmhiclbaaDoorKmEnv
import Derived.Test.YtfgpkjcmhiclbaaDoorKc00
import Derived.Test.YtfgpkjcmhiclbaaDoorKc01
set_option linter.unusedVariables false
namespace Go.Proofs.YtfgpkjcmhiclbaaDoor
open Go Go.Km
theorem st : STexts Tryd.prog E where
  has := (tt Tryd.func75 (by kernel_rfl) (by kernel_rfl) (by kernel_rfl) (by decide))
  null := (tt Tryd.func122 (by kernel_rfl) (by kernel_rfl) (by kernel_rfl) (by decide))
  whole := (tt Tryd.func82 (by kernel_rfl) (by kernel_rfl) (by kernel_rfl) (by decide))
  things := (tt Tryd.func123 (by kernel_rfl) (by kernel_rfl) (by kernel_rfl) (by decide))
  at' := (tt Tryd.func77 (by kernel_rfl) (by kernel_rfl) (by kernel_rfl) (by decide))
  uvar := (tt Tryd.func80 (by kernel_rfl) (by kernel_rfl) (by kernel_rfl) (by decide))
  fixed := (tt Tryd.func126 (by kernel_rfl) (by kernel_rfl) (by kernel_rfl) (by decide))
  width := (tt Tryd.func127 (by kernel_rfl) (by kernel_rfl) (by kernel_rfl) (by decide))
  counted := (tt Tryd.func124 (by kernel_rfl) (by kernel_rfl) (by kernel_rfl) (by decide))
  value := (tt Tryd.func125 (by kernel_rfl) (by kernel_rfl) (by kernel_rfl) (by decide))
  field := (tt Tryd.func76 (by kernel_rfl) (by kernel_rfl) (by kernel_rfl) (by decide))
  known := (tt Tryd.func78 (by kernel_rfl) (by kernel_rfl) (by kernel_rfl) (by decide))
  usual := (tt Tryd.func79 (by kernel_rfl) (by kernel_rfl) (by kernel_rfl) (by decide))
  unknown := (tt Tryd.func81 (by kernel_rfl) (by kernel_rfl) (by kernel_rfl) (by decide))
  part := (tt Tryd.func35 (by kernel_rfl) (by kernel_rfl) (by kernel_rfl) (by decide))
  dflt := fun h => absurd rfl h
  write := (tt Tryd.func15 (by kernel_rfl) (by kernel_rfl) (by kernel_rfl) (by decide))
  same := (tt Tryd.func12 (by kernel_rfl) (by kernel_rfl) (by kernel_rfl) (by decide))
  mixed := by kernel_rfl
theorem se : SEnv Tryd.prog E where
  row := by kernel_rfl
  u8 := by kernel_rfl
  int := by kernel_rfl
  i64 := by kernel_rfl
  u32 := by kernel_rfl
  u64 := by kernel_rfl
  oInt := by kernel_rfl
  oI64 := by kernel_rfl
  oU32 := by kernel_rfl
  oU8 := by kernel_rfl
  oBool := by kernel_rfl
  oBytes := by kernel_rfl
  oTrees := by kernel_rfl
  oFlds := by kernel_rfl
  oUnks := by kernel_rfl
  fFld := by kernel_rfl
  fTree := by kernel_rfl
  fUnk := by kernel_rfl
  aFld := by kernel_rfl
  aTree := by kernel_rfl
  aUnk := by kernel_rfl
  sFlds := by kernel_rfl
  rTrees := by kernel_rfl
  rUnks := by kernel_rfl
theorem sl : SLay Tryd.prog E where
  tree := by kernel_rfl
  fld := by kernel_rfl
  msg := by kernel_rfl
  unk := by kernel_rfl
theorem tr5 : TreeT Tryd.prog E where
  tree := by kernel_rfl
  unk := by kernel_rfl
  trees := by kernel_rfl
  unks := by kernel_rfl
  bytes := by kernel_rfl
  u8 := by kernel_rfl
  i64 := by kernel_rfl
  u32 := by kernel_rfl
  bool := by kernel_rfl
  cTree := by kernel_rfl
  cUnk := by kernel_rfl
  c8 := by kernel_rfl
  c64 := by kernel_rfl
  c32 := by kernel_rfl
  cBool := by kernel_rfl
  cBytes := by kernel_rfl
  cTrees := by kernel_rfl
  cUnks := by kernel_rfl
theorem hz8 : zeroT Tryd.prog E.tU8 = some (.int .u8 0) := by kernel_rfl
theorem hoM : offs Tryd.prog E.tMsg 2 = true := by kernel_rfl
theorem hM : aggT Tryd.prog E.tMsg = some 2 := by kernel_rfl
theorem hrF : rowB Tryd.prog E.tFlds E.tFld 8 = true := by kernel_rfl
theorem one_le {H : Type} (d : DataW H) : 1 ≤ Rows.uptoBulk d := by
  cases d with
  | lit l => cases l <;> simp [Rows.uptoBulk]
  | nil => simp [Rows.uptoBulk]
  | ptr d => simp [Rows.uptoBulk]
  | slice elems spare => simp [Rows.uptoBulk]
  | agg parts => simp [Rows.uptoBulk]
  | iface t d => simp [Rows.uptoBulk]
  | map entries => simp [Rows.uptoBulk]
  | held h => simp [Rows.uptoBulk]
theorem bk (H : Type) : Bulk (H := H) Rows.uptoBulk Rows.uptoBulkAll := ⟨fun _ => by simp only [Rows.uptoBulk], fun _ _ => by simp only [Rows.uptoBulk], by simp only [Rows.uptoBulkAll], fun _ _ => by simp only [Rows.uptoBulkAll], one_le⟩
theorem bound {H : Type} {l : List (DataW H)} (hk : Rows.uptoSmall H l = true) : Rows.uptoBulkAll l ≤ 1048576 := of_decide_eq_true hk
end Go.Proofs.YtfgpkjcmhiclbaaDoor

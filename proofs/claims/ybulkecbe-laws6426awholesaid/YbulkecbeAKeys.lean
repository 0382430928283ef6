import Derived.Test.YbulkecbeMaps
import Derived.DeepKeys4
namespace Go.Proofs.Ybulkecbe.A
open Go.ChangeShapes Go.WideShapes Go.ChangeAt Go.RowKit Go.Maps

theorem laidOut : laidOutB Yba.prog = true := by kernel_rfl
theorem typesSize : Yba.prog.types.size = 240 := by kernel_rfl
theorem cells43 : Yba.prog.cellsOf 43 = 5 := by kernel_rfl
theorem cells41 : Yba.prog.cellsOf 41 = 2 := by kernel_rfl
theorem cells39 : Yba.prog.cellsOf 39 = 1 := by kernel_rfl
theorem cells2 : Yba.prog.cellsOf 2 = 1 := by kernel_rfl
theorem keyType43 : Yba.prog.keyType 43 = true := by kernel_rfl

/-- The keys' type, FileVersion. -/
theorem law : Keyed Yba.prog 43 :=
  Keyed.of_law (deep_law_laid laidOut (m := 241) (k := 43) (by decide) (by rw [typesSize]; decide) (by kernel_rfl) (by kernel_rfl))

/-- A key as the text makes it: three numbers, the time of change left zero. -/
structure Key where
  dev : Int
  ino : Int
  siz : Int
def Key.cells (k : Key) : List Value := [.int .u64 k.dev, .int .u64 k.ino, .int .i64 k.siz, .int .i64 0, .int .i64 0]
abbrev Key.val (k : Key) : Value := .agg #[.int .u64 k.dev, .int .u64 k.ino, .int .i64 k.siz, .int .i64 0, .int .i64 0]
structure Key.Ok (k : Key) : Prop where
  dev : (Lit.int .u64 k.dev).wf = true
  ino : (Lit.int .u64 k.ino).wf = true
  siz : (Lit.int .i64 k.siz).wf = true

def Key.lits (k : Key) : List Lit := [.int .u64 k.dev, .int .u64 k.ino, .int .i64 k.siz, .int .i64 0, .int .i64 0]
def Key.lit (k : Key) : Lit := .string (keyBytes k.lits)

set_option maxRecDepth 10000 in
theorem key_lits (k : Key) (h : k.Ok) (d : Nat) : Yba.prog.keyLits (d + 1 + 1 + 1) 43 k.cells = some k.lits := by
  have h0 : (Lit.int .i64 0).wf = true := by decide
  simp [Program.keyLits, Key.cells, Key.lits, Yba.underlying43, Yba.underlying39, Yba.underlying2, Yba.underlying41, cells43, cells41, cells39, cells2, h.dev, h.ino, h.siz, h0]
  rw [if_pos (by decide)]
  rfl

theorem key_lit (k : Key) (h : k.Ok) : keyOf Yba.prog 43 k.val = some k.lit := by
  unfold keyOf
  rw [Yba.underlying43]
  have hf : k.val.formed Yba.prog 43 = true := by simp [Value.formed, Yba.underlying43, cells43]
  have hl : Yba.prog.keyLits (Yba.prog.types.size + 1) 43 k.val.cells.toList = some k.lits := by
    rw [typesSize]
    exact key_lits k h 238
  simp only [keyType43, hf, hl, Bool.and_self, if_true, Option.map_some]
  rfl
theorem key_inj {a b : Key} (ha : a.Ok) (hb : b.Ok) (h : a.lit = b.lit) : a = b := by
  have h1 := key_lit a ha
  rw [h] at h1
  have := law.inj h1 (key_lit b hb)
  cases a; cases b
  simp [Key.val] at this
  simp [this]
theorem key_key (k : Key) (h : k.Ok) : WideAt.IsKeyLit k.lit := law.key (key_lit k h)
end Go.Proofs.Ybulkecbe.A

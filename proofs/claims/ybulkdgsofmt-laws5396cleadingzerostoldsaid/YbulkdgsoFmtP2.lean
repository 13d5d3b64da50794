/-
  What the two rows share: what the listed variables give the walk; a start that fits; a slice of bytes that came in.
-/
import Derived.Test.YbulkdgsoFmtP1
import Derived.ProofKit
import Derived.OpenShut
import Derived.ShutString
import Derived.ChangeOld
import Derived.SliceStrings
import Derived.SizedLaws
import Derived.Stop.JoinedAt
import Derived.Stop.Texts
import Derived.Stop.JoinedTold
import Derived.Stop.LaidErr
import Derived.LaidLaws
namespace Go.Proofs.YbulkdgsoFmt
open Go.ChangeShapes Go.WideShapes Go.ChangeAt Go.RowKit Go.Kit

theorem own : ownKnob Ybaf.prog.godebug = none := by kernel_rfl
theorem laidOut : laidOutB Ybaf.prog = true := by kernel_rfl
theorem laidOutP : laidOutB Ybaf.pinned.checked.prog = true := by kernel_rfl
theorem stops : Ybaf.pinned.checked.prog.stops = ["fmt.Sprintf"] := by kernel_rfl
theorem stopKnobs : Ybaf.pinned.checked.prog.stopKnobs = [] := by kernel_rfl
theorem quiet (os : Os) : Stop.quiet Ybaf.pinned.checked.prog os := by
  intro k hk
  rw [stopKnobs] at hk
  cases hk

/-- The list, as both rows bear it. -/
def laid : List (String × DataW Unit) := [("io.EOF", Rows.laid_io_EOF), ("math/big.errNoDigits", Rows.laid_math_big_errNoDigits), ("math/big.errInvalSep", Rows.laid_math_big_errInvalSep)]

/-! ### One start that fits: the three errors as their initialisers lay them -/
noncomputable def low : Nat := (World.holding Ybaf.prog default ⟨#[], #[], []⟩).heap.size
def putCell (h : Array Obj) (g : Nat) (v : Value) : Array Obj := h.modify g fun
  | .cells _ t frozen => .cells #[v] t frozen
  | o => o
noncomputable def laidWorld (os : Os) : World :=
  let w0 := World.holding Ybaf.prog os ⟨#[.cells #[.string ⟨#[69, 79, 70]⟩] 116,
    .cells #[.string ⟨#[110, 117, 109, 98, 101, 114, 32, 104, 97, 115, 32, 110, 111, 32, 100, 105, 103, 105, 116, 115]⟩] 116,
    .cells #[.string ⟨#[39, 95, 39, 32, 109, 117, 115, 116, 32, 115, 101, 112, 97, 114, 97, 116, 101, 32, 115, 117, 99, 99, 101, 115, 115, 105, 118, 101, 32, 100, 105, 103, 105, 116, 115]⟩] 116], #[], []⟩
  { w0 with heap := putCell (putCell (putCell w0.heap 0 (.iface 95 (.pointer (some ⟨low, 0, none⟩)))) 2 (.iface 95 (.pointer (some ⟨low + 1, 0, none⟩)))) 1 (.iface 95 (.pointer (some ⟨low + 2, 0, none⟩))) }
theorem laid_met (os : Os) (args : Array Value) : laidMet Ybaf.prog laid ((laidWorld os).forCall (fun _ _ => 0) ⟨#[], args, []⟩).memory :=
  laidMet_of_run (ps := [.cell 0 0, .cell low 0, .cell 2 0, .cell (low + 1) 0, .cell 1 0, .cell (low + 2) 0]) 8 (by kernel_rfl) (by kernel_rfl) (by kernel_rfl)

theorem star : "*" ++ "errors.errorString" = "*errors.errorString" := by decide
theorem row95 (u : TypeId) (h : Ybaf.prog.typeName? 3 u = some "*errors.errorString") : u = 95 :=
  typeName_ptr_named (nm := "errors.errorString") (by rw [star]; kernel_rfl) (by kernel_rfl) (by decide) u (by rw [star]; exact h)
theorem gEof : Ybaf.prog.globalNamed "io.EOF" = some 0 := by kernel_rfl

/-- io.EOF, off the list. -/
theorem eof_of_laid {W : World} (h : laidMet Ybaf.prog laid W) : ∃ a, M.Eof W a := by
  obtain ⟨a, s, hv, _⟩ := laid_sentinel (g := 0) h gEof (by kernel_rfl) Ybaf.underlying57 row95 Ybaf.underlying95 Ybaf.underlying116 rfl rfl Ybaf.underlying9 (by kernel_rfl) (by kernel_rfl)
  exact ⟨a, World.var?_cell gEof hv 0⟩

/-- What the walk is told of a slice of bytes that came in. -/
theorem outB_of {w : World} {x : Addr} {len cap : Nat} {zs : List Int} (hl : len ≤ cap) (hz : zs.length = cap) (hcell : ∀ i, i < zs.length → w.cell? (x.add i) = some (.int .u8 (zs.getD i 0))) (hwz : ∀ n ∈ zs, (Lit.int .u8 n).wf = true) : ∃ ds, M.OutB w w.heap.size (some x) len ds := by
  refine ⟨(zs.take len).map Int.toNat, by simp; omega, ?_, ?_⟩
  · intro d hd
    obtain ⟨n, hn, rfl⟩ := List.mem_map.1 hd
    have := bounds_u8 (hwz n (List.mem_of_mem_take hn))
    omega
  · intro h0
    obtain ⟨b, off, rfl, hc⟩ := ints_at hcell (by omega)
    refine ⟨b, off, rfl, World.block_lt_of_cell? w _ (hc 0 (by omega)), fun j hj => ?_⟩
    have hjz : j < zs.length := by omega
    have e1 : zs.getD j 0 = zs[j] := by rw [List.getD, List.getElem?_eq_getElem hjz]; rfl
    have e2 : ((zs.take len).map Int.toNat).getD j 0 = (zs[j]).toNat := by
      rw [List.getD, List.getElem?_map, List.getElem?_take, if_pos hj, List.getElem?_eq_getElem hjz]; rfl
    have := bounds_u8 (hwz _ (List.getElem_mem hjz))
    rw [hc j hjz, e1, e2, Int.toNat_of_nonneg this.1]
theorem outB_nil (w : World) : M.OutB w w.heap.size none 0 [] := ⟨rfl, fun _ h => absurd h List.not_mem_nil, fun h => absurd h (Nat.lt_irrefl _)⟩
end Go.Proofs.YbulkdgsoFmt

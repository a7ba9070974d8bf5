/-
  WHAT THE TWO ROWS LIST ('laid'): the table of powers off the list; a world that meets the list.
-/
import Derived.Test.Qxb6603301aDoorBase
import Derived.Lib.LaidTab
import Derived.LaidLaws
import Derived.LaidHandle
import Derived.Stop.LaidErr
import Derived.Deep.DeepLaidRun
import Derived.ProofKit
import Derived.OpenShut
namespace Go.Proofs.Qxb6603301aDoor
open Go.RowKit
set_option linter.unusedVariables false
set_option maxRecDepth 100000

def laidL : List (String × DataW Unit) := [("math/bits.deBruijn32tab", Rows.laid_math_bits_deBruijn32tab), ("math/bits.deBruijn64tab", Rows.laid_math_bits_deBruijn64tab), ("internal/strconv.uint64pow10", Rows.laid_internal_strconv_uint64pow10)]

theorem laid_plain {W : World} (h : laidMetH Tryd.prog laidL W) : laidMet Tryd.prog laidL W := h

theorem pow10_data : (Rows.laid_internal_strconv_uint64pow10 : DataW Unit) = Lib.tabData .u64 Lib.pow10Tab := by rfl

theorem tab_of_laid {W : World} (h : laidMetH Tryd.prog laidL W) : Lib.TabIs Tryd.prog W "internal/strconv.uint64pow10" .u64 Lib.pow10Tab := by
  have h1 : laidMet Tryd.prog [("internal/strconv.uint64pow10", Rows.laid_internal_strconv_uint64pow10)] W := (laid_plain h).tail.tail
  rw [pow10_data] at h1
  exact Lib.tabIs_of_head (g := 3) (t := 79) (e := 49) (n := 20) (by kernel_rfl) (by kernel_rfl) (by kernel_rfl) (by kernel_rfl) (by kernel_rfl) (by kernel_rfl) h1

def bytesOf (d : DataW Unit) : Array Value := match d with
  | .agg l => (l.map fun x => match x with | .lit (.int k z) => Value.int k z | _ => .bool false).toArray
  | _ => #[]

/-- a world that meets the list: the settled one, the three tables laid -/
noncomputable def laidWorld (os : Os) : World :=
  let w0 := World.holding Tryd.prog os ⟨#[], #[], []⟩
  let put (h : Array Obj) (g : Nat) (cs : Array Value) : Array Obj := h.modify g fun
    | .cells _ t frozen => .cells cs t frozen
    | o => o
  { w0 with heap := put (put (put w0.heap 3 (bytesOf Rows.laid_internal_strconv_uint64pow10)) 6 (bytesOf Rows.laid_math_bits_deBruijn32tab)) 7 (bytesOf Rows.laid_math_bits_deBruijn64tab) }

theorem laidWorld_met (os : Os) (args : Array Value) : laidMetH Tryd.prog laidL ((laidWorld os).forCall (fun _ _ => 0) ⟨#[], args, []⟩).memory :=
  show laidMet Tryd.prog laidL ((laidWorld os).forCall (fun _ _ => 0) ⟨#[], args, []⟩).memory from laidMet_of_run3 10 (by kernel_rfl) (by kernel_rfl) (by kernel_rfl)

theorem add_spot {a : Addr} {v : Value} {w : World} (h : w.cell? (a.add 0) = some v) : a.spot = none := by
  simpa [Addr.add] using World.cell?_spot h

theorem down_bytes {H : Type} {enc : TypeId × Value → H} {w : World} {base : Nat} {spare : Nat → Bool} {held : Bool} {fuel : Nat} {a : Option Addr} {n c : Nat} {x : DataW H × List MemPlace}
    (h : DataW.trod enc Tryd.prog w base spare held fuel 22 (Value.slice a n c).cells.toList = some x) : (a = none → n = 0 ∧ c = 0) ∧ n ≤ 9223372036854775807 ∧ ∃ zs : List Int, zs.length = n ∧ ByAt w a zs := by
  rcases ChangeShapes.open_ints Tryd.underlying22 Tryd.underlying5 (by kernel_rfl) h with ⟨hcs, _⟩ | ⟨x, l, c, zs, hcs, _, hl, hm, hz, _, hcell, hwz⟩
  · simp [Value.cells] at hcs
    obtain ⟨rfl, rfl, rfl⟩ := hcs
    exact ⟨fun _ => ⟨rfl, rfl⟩, by omega, [], rfl, fun h => by simp at h⟩
  · simp [Value.cells] at hcs
    obtain ⟨rfl, rfl, rfl⟩ := hcs
    unfold maxLen at hm
    have hz' : n ≤ zs.length := by rw [hz]; split <;> omega
    refine ⟨(fun h => by cases h), by omega, zs.take n, (by simp; omega), fun h0 => ?_⟩
    have hn : 0 < n := by simp at h0; omega
    obtain ⟨b, off, sp⟩ := x
    obtain rfl : sp = none := add_spot (hcell 0 (by omega))
    refine ⟨b, off, rfl, fun j hj => ?_⟩
    have hj' : j < n := by simp at hj; omega
    rw [← addr_plain, hcell j (by omega)]
    simp [hj']
end Go.Proofs.Qxb6603301aDoor

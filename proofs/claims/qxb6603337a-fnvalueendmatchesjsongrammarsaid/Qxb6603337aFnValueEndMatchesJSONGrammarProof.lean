/-
  THE PROOF OF 'Rows.FnValueEndMatchesJSONGrammarSaid'. The frame after the seat's shell; the walks in the texts beside it.
-/
import Derived.Test.Qxb6603337aVLaw
import Derived.ProofKit
import Derived.OpenShut
import Derived.ShutString
import Derived.ChangeOld
import Derived.Below
namespace Go.Proofs.Qxb6603337a.fnValueEndMatchesJSONGrammar
open Go.ChangeShapes Go.WideShapes Go.ChangeAt Go.RowKit
open Go.ChangeMaps (open_string shut_string)
set_option linter.unusedVariables false

theorem own : ownKnob Try.prog.godebug = none := by kernel_rfl
theorem laidOut : laidOutB Try.prog = true := by kernel_rfl

/-- the bytes that the cells hold -/
def bytes (zs : List Int) : ByteArray := ⟨(zs.map fun z => UInt8.ofNat z.toNat).toArray⟩
theorem bytes_size (zs : List Int) : (bytes zs).size = zs.length := by simp [bytes, ByteArray.size]
theorem bytes_at (zs : List Int) (h : ∀ z ∈ zs, 0 ≤ z ∧ z < 256) (k : Nat) (hk : k < zs.length) : ((bt (bytes zs) k : Nat) : Int) = zs.getD k 0 := by
  have hm : zs[k] ∈ zs := List.getElem_mem _
  obtain ⟨h0, h1⟩ := h _ hm
  have e : bt (bytes zs) k = (UInt8.ofNat (zs[k]).toNat).toNat := by
    unfold bt bytes ByteArray.get!
    simp [hk]
  rw [e]
  simp only [UInt8.toNat_ofNat', List.getD_eq_getElem?_getD, List.getElem?_eq_getElem hk, Option.getD_some]
  omega

theorem add_spot {a : Addr} {v : Value} {w : World} (h : w.cell? (a.add 0) = some v) : a.spot = none := by
  simpa [Addr.add] using World.cell?_spot h

theorem down_text {H : Type} {enc : TypeId × Value → H} {w : World} {base : Nat} {spare : Nat → Bool} {held : Bool} {fuel : Nat} {a : Option Addr} {n c : Nat} {x : DataW H × List MemPlace}
    (h : DataW.trod enc Try.prog w base spare held fuel 24 (Value.slice a n c).cells.toList = some x) : (a = none → n = 0 ∧ c = 0) ∧ n ≤ 9223372036854775807 ∧ ∃ s : ByteArray, s.size = n ∧ TextAt w a n (bt s) := by
  rcases open_ints Try.underlying24 Try.underlying5 (by kernel_rfl) h with ⟨hcs, _⟩ | ⟨x, l, c, zs, hcs, _, hl, hm, hz, _, hcell, hwz⟩
  · simp [Value.cells] at hcs
    obtain ⟨rfl, rfl, rfl⟩ := hcs
    exact ⟨fun _ => ⟨rfl, rfl⟩, by omega, ⟨#[]⟩, rfl, fun h => by omega⟩
  · simp [Value.cells] at hcs
    obtain ⟨rfl, rfl, rfl⟩ := hcs
    unfold maxLen at hm
    have hz' : n ≤ zs.length := by rw [hz]; split <;> omega
    have hb : ∀ z ∈ zs.take n, 0 ≤ z ∧ z < 256 := fun z hzz => by
      have := bounds_u8 (hwz z (List.mem_of_mem_take hzz)); omega
    have hlen : (zs.take n).length = n := by simp; omega
    refine ⟨(fun h => by cases h), by omega, bytes (zs.take n), (by rw [bytes_size, hlen]), fun h0 => ?_⟩
    obtain ⟨b, off, sp⟩ := x
    obtain rfl : sp = none := add_spot (hcell 0 (by omega))
    refine ⟨b, off, rfl, fun j hj => ?_⟩
    rw [← addr_plain, hcell j (by omega), bytes_at _ hb j (by omega)]
    simp [hj]

set_option maxRecDepth 100000 in
theorem lifted (os : Os) (started : os.Started) (H : Type) (enc : TypeId × Value → H) :
    ReturnsInHanded {} Try.checked os 6 .any (Rows.fnValueEndMatchesJSONGrammarSpec.pre6 enc Try.prog Try.f6 Rows.fnValueEndMatchesJSONGrammarRow.domain false) (Rows.fnValueEndMatchesJSONGrammarSpec.post enc Try.prog Try.f6 false true false false) := by
  refine returnsInHanded_of_change (C := Try.checked) own started (by kernel_rfl) Try.func6
    (ChangeSpec.witness6 (enc := enc) (C := Try.checked) false ⟨#[], #[.slice none 0 0, .int .i64 0], []⟩ 8 (by kernel_rfl) (by kernel_rfl) (by kernel_rfl) (by kernel_rfl)) ?_
  intro W base args ds gs before hval0 hW hcnd _
  have hval : ∀ (j : Nat) t v, Try.f6.params[j]? = some t → args[j]? = some v → Value.okWide Try.prog W .any base t v := hval0
  have hW' := hW
  obtain ⟨p, q, hA0, hV, rfl, hfz, hnd⟩ := hW
  have hA : DataW.TrodAll enc Try.prog W 0 (fun _ => true) true Try.f6.params.toList args.toList ds p := hA0
  rw [Try.params6] at hA hval
  obtain ⟨v0, vs0, d0, ds0, p0, q0, hargs, rfl, rfl, h0, r0⟩ := trodAll_cons hA
  obtain ⟨v1, vs1, d1, ds1, p1, q1, rfl, rfl, rfl, h1, r1⟩ := trodAll_cons r0
  obtain ⟨rfl, rfl, rfl⟩ := trodAll_nil r1
  obtain rfl : args = #[v0, v1] := by cases args; simp_all
  obtain ⟨rfl, rfl⟩ := trodVars_none hV
  obtain ⟨a, n, c, rfl⟩ := okWide_slice Try.underlying24 (hval 0 24 v0 rfl rfl)
  have k0 := h0
  have lt0 : ∀ x ∈ p0, x.block < W.heap.size := by obtain ⟨m, hm⟩ := k0; exact DataW.trod_lt m _ _ _ hm
  obtain ⟨fu, hfu⟩ := h0
  obtain ⟨ha, hn, s, rfl, hf⟩ := down_text hfu
  obtain ⟨a1, rfl, rfl, rfl, w1⟩ := open_int Try.underlying3 (hval 1 3 v1 rfl rfl) h1
  clear hA0 hval0
  obtain ⟨hl, hh⟩ := bounds_i64 w1
  refine (law_value W a c s a1 (by omega) (by omega) hn hf).mono fun e W' ⟨he, bel⟩ => ?_
  subst he
  exact ⟨_, rfl, _, _, _, [], _, [], hW', trodAll_mk1 (shut_bool Try.underlying4 _), (trodAll_cons_mk (Below.trod laidOut (by kernel_rfl) (of_decide_eq_true (by kernel_rfl)) k0 bel lt0) (trodAll_cons_mk (shut_int Try.underlying3 w1) trodAll_mk0)), rfl, bel.frame _, fun h => by cases h⟩

theorem over : Rows.fnValueEndMatchesJSONGrammarRow.holds Try.pinned (OpenSpec.ofChange Rows.fnValueEndMatchesJSONGrammarSpec) :=
  OpenClaim.holds_of_wide 6 Try.f6 rfl rfl rfl rfl rfl rfl rfl ⟨rfl, rfl, rfl, rfl, rfl⟩ rfl rfl rfl rfl rfl (by kernel_rfl) Try.func6 (by kernel_rfl)
    (of_decide_eq_true (by kernel_rfl)) (by unfold Func.isWrapper; first | (rw [if_pos (by decide +kernel)]; kernel_rfl) | (rw [if_neg (by decide +kernel)]; exact ⟨rfl, rfl⟩))
    (fun os started H enc _ => lifted os started H enc)

theorem proved : Rows.FnValueEndMatchesJSONGrammarSaid := over
end Go.Proofs.Qxb6603337a.fnValueEndMatchesJSONGrammar

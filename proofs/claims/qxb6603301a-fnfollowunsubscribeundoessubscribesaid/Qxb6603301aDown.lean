/-
  FROM WHAT CAN BE READ OF THE ARGUMENTS TO WHAT THE WALKS ASK.
-/
import Derived.Test.Qxb6603301aElems
import Derived.ProofKit
import Derived.OpenShut
import Derived.ShutString
import Derived.ChangeOld
import Derived.Lib.SmallJoins
import Derived.Deep.Slices
import Derived.Deep.Strs
namespace Go.Proofs.Qxb6603301a
open Go.RowKit Go.Maps
set_option linter.unusedVariables false

section
variable {H : Type} {enc : TypeId × Value → H} {w : World} {base : Nat} {spare : Nat → Bool} {held : Bool} {fuel : Nat} {cs : List Value} {x : DataW H × List MemPlace}

theorem add_spot {a : Addr} {v : Value} {w : World} (h : w.cell? (a.add 0) = some v) : a.spot = none := by
  simpa [Addr.add] using World.cell?_spot h

theorem down_strs (h : DataW.trod enc Try.prog w base spare held fuel 22 cs = some x) :
    ∃ a n c ss, cs = [.slice a n c] ∧ (a = none → n = 0 ∧ c = 0) ∧ n ≤ maxLen ∧ StrsAt w a n ss ∧ ∀ i, i < n → (ss i).size ≤ maxLen := by
  rcases Deep.open_slice1 Try.underlying22 (by kernel_rfl) h with ⟨rfl, _⟩ | ⟨a, len, cap, m, n, V, D, Pl, rfl, _, hl, hm, hmm, _, hx⟩
  · exact ⟨none, 0, 0, fun _ => ⟨#[]⟩, rfl, fun _ => ⟨rfl, rfl⟩, Nat.zero_le _, fun h => by omega, fun i hi => by omega⟩
  · have hlm : len ≤ m := by rw [hmm]; split <;> omega
    have hs : ∀ i, i < len → ∃ s : ByteArray, V i = .string s ∧ s.size ≤ maxLen := by
      intro i hi
      obtain ⟨s, e, _, hs⟩ := DataW.trod_string Try.underlying9 (hx i (by omega)).2
      exact ⟨s, by simpa using e, hs⟩
    refine ⟨some a, len, cap, fun i => if hi : i < len then Classical.choose (hs i hi) else ⟨#[]⟩, rfl, (fun h => by cases h), by omega, ?_, ?_⟩
    · intro h0
      obtain ⟨b, off, sp⟩ := a
      have hsp : sp = none := add_spot (hx 0 (by omega)).1
      subst hsp
      refine ⟨b, off, rfl, fun i hi => ?_⟩
      rw [← addr_plain, (hx i (by omega)).1]
      simp only [dif_pos hi]
      rw [← (Classical.choose_spec (hs i hi)).1]
    · intro i hi
      simp only [dif_pos hi]
      exact (Classical.choose_spec (hs i hi)).2

theorem down_bytes (h : DataW.trod enc Try.prog w base spare held fuel 28 cs = some x) :
    ∃ a n c g, cs = [.slice a n c] ∧ (a = none → n = 0 ∧ c = 0) ∧ n ≤ c ∧ n ≤ maxLen ∧ BytesAt w a n g := by
  rcases Deep.open_slice1 Try.underlying28 (by kernel_rfl) h with ⟨rfl, _⟩ | ⟨a, len, cap, m, n, V, D, Pl, rfl, _, hl, hm, hmm, _, hx⟩
  · exact ⟨none, 0, 0, fun _ => 0, rfl, fun _ => ⟨rfl, rfl⟩, Nat.le_refl _, Nat.zero_le _, fun h => by omega⟩
  · have hlm : len ≤ m := by rw [hmm]; split <;> omega
    have hs : ∀ i, i < len → ∃ s : Int, V i = .int .u8 s := by
      intro i hi
      obtain ⟨s, e, _, hs⟩ := DataW.trod_int Try.underlying5 (hx i (by omega)).2
      exact ⟨s, by simpa using e⟩
    refine ⟨some a, len, cap, fun i => if hi : i < len then Classical.choose (hs i hi) else 0, rfl, (fun h => by cases h), hl, by omega, ?_⟩
    intro h0
    obtain ⟨b, off, sp⟩ := a
    have hsp : sp = none := add_spot (hx 0 (by omega)).1
    subst hsp
    refine ⟨b, off, rfl, fun i hi => ?_⟩
    rw [← addr_plain, (hx i (by omega)).1]
    simp only [dif_pos hi]
    rw [← Classical.choose_spec (hs i hi)]

/-- one element, in its three cells -/
theorem down_elem (h : DataW.trod enc Try.prog w base spare held fuel 55 cs = some x) :
    ∃ (E : El) (sa : Option Addr) (sc : Nat), cs = [.int .u8 E.kind, .slice sa E.len sc, .int .i64 E.num] ∧ (sa = none → E.len = 0 ∧ sc = 0) ∧ E.len ≤ sc ∧ E.len ≤ maxLen ∧ BytesAt w sa E.len E.txt := by
  obtain ⟨y0, y1, y2, n, _, hl, h0, h1, h2⟩ := Deep.trod_struct3 Try.underlying55 h
  have hl3 : cs.length = 3 := hl.trans (by kernel_rfl)
  obtain ⟨c0, c1, c2, rfl⟩ : ∃ c0 c1 c2, cs = [c0, c1, c2] := by
    match cs, hl3 with
    | [c0, c1, c2], _ => exact ⟨c0, c1, c2, rfl⟩
  have e0 : DataW.trod enc Try.prog w base spare held n 5 [c0] = some y0 := h0
  have e1 : DataW.trod enc Try.prog w base spare held n 28 [c1] = some y1 := h1
  have e2 : DataW.trod enc Try.prog w base spare held n 2 [c2] = some y2 := h2
  obtain ⟨k, hk, _, _⟩ := DataW.trod_int Try.underlying5 e0
  obtain ⟨a, ln, c, g, hs, h3, h4, h5, h6⟩ := down_bytes e1
  obtain ⟨m, hm, _, _⟩ := DataW.trod_int Try.underlying2 e2
  simp at hk hs hm
  exact ⟨⟨k, ln, m, g⟩, a, c, by rw [hk, hs, hm], h3, h4, h5, h6⟩

theorem down_elems (h : DataW.trod enc Try.prog w base spare held fuel 29 cs = some x) :
    ∃ a n c E, cs = [.slice a n c] ∧ (a = none → n = 0 ∧ c = 0) ∧ n ≤ maxLen ∧ ElsAt 0 w a n E ∧ ∀ i, i < n → (E i).len ≤ maxLen := by
  rcases Deep.open_slice Try.underlying29 h with ⟨rfl, _⟩ | ⟨a, len, cap, m, n, D, Pl, rfl, _, hl, hm, hmm, _, hx⟩
  · exact ⟨none, 0, 0, fun _ => ⟨0, 0, 0, fun _ => 0⟩, rfl, fun _ => ⟨rfl, rfl⟩, Nat.zero_le _, fun h => by omega, fun i hi => by omega⟩
  · have hlm : len ≤ m := by rw [hmm]; split <;> omega
    have h3 : Try.prog.cellsOf 55 = 3 := by kernel_rfl
    have hs : ∀ i, i < len → ∃ (E : El) (sa : Option Addr) (sc : Nat), (w.cell? (a.add (i * 3)) = some (.int .u8 E.kind) ∧ w.cell? (a.add (i * 3 + 1)) = some (.slice sa E.len sc) ∧ w.cell? (a.add (i * 3 + 2)) = some (.int .i64 E.num)) ∧ (sa = none → E.len = 0 ∧ sc = 0) ∧ E.len ≤ sc ∧ E.len ≤ maxLen ∧ BytesAt w sa E.len E.txt := by
      intro i hi
      obtain ⟨cs', hc, ht⟩ := hx i (by omega)
      obtain ⟨E, sa, sc, rfl, r⟩ := down_elem ht
      rw [h3] at hc
      obtain ⟨_, _, hcell⟩ := World.cells?_some hc
      refine ⟨E, sa, sc, ⟨?_, ?_, ?_⟩, r⟩
      · have := hcell 0 (by omega); rw [Addr.add_add] at this; simpa using this
      · have := hcell 1 (by omega); rw [Addr.add_add] at this; simpa using this
      · have := hcell 2 (by omega); rw [Addr.add_add] at this; simpa using this
    refine ⟨some a, len, cap, fun i => if hi : i < len then Classical.choose (hs i hi) else ⟨0, 0, 0, fun _ => 0⟩, rfl, (fun h => by cases h), by omega, ?_, ?_⟩
    · intro h0
      obtain ⟨_, _, _, ⟨hc0, _⟩, _⟩ := hs 0 (by omega)
      have hsp := add_spot (by simpa using hc0)
      obtain ⟨b, off, sp⟩ := a
      replace hsp : sp = none := hsp
      subst hsp
      refine ⟨b, off, Nat.zero_le _, rfl, fun j hj => ?_⟩
      simp only [dif_pos hj]
      obtain ⟨sa, sc, ⟨c0, c1, c2⟩, r1, r2, r3, r4⟩ := Classical.choose_spec (hs j hj)
      have g0 := (congrArg w.cell? (addr_plain b off (j * 3))).symm.trans c0
      have g1 := (congrArg w.cell? (addr_plain b off (j * 3 + 1))).symm.trans c1
      have g2 := (congrArg w.cell? (addr_plain b off (j * 3 + 2))).symm.trans c2
      exact ⟨sa, sc, g0, g1, g2, r1, r2, fun h => by obtain ⟨b, off, e, hc⟩ := r4 h; exact ⟨b, off, Nat.zero_le _, e, hc⟩⟩
    · intro i hi
      simp only [dif_pos hi]
      obtain ⟨sa, sc, _, _, _, r3, _⟩ := Classical.choose_spec (hs i hi)
      exact r3

theorem down_val (h : DataW.trod enc Try.prog w base spare held fuel 31 cs = some x) :
    ∃ k sa sn sc m g ea en ec E, cs = [.int .u8 k, .slice sa sn sc, .int .i64 m, .slice ea en ec] ∧ (sa = none → sn = 0 ∧ sc = 0) ∧ sn ≤ maxLen ∧ BytesAt w sa sn g ∧
      (ea = none → en = 0 ∧ ec = 0) ∧ en ≤ maxLen ∧ ElsAt 0 w ea en E ∧ ∀ i, i < en → (E i).len ≤ maxLen := by
  obtain ⟨y0, y1, y2, y3, n, _, hl, h0, h1, h2, h3⟩ := Joins.trod_struct4 Try.underlying31 h
  have hl4 : cs.length = 4 := hl.trans (by kernel_rfl)
  obtain ⟨c0, c1, c2, c3, rfl⟩ : ∃ c0 c1 c2 c3, cs = [c0, c1, c2, c3] := by
    match cs, hl4 with
    | [c0, c1, c2, c3], _ => exact ⟨c0, c1, c2, c3, rfl⟩
  have e0 : DataW.trod enc Try.prog w base spare held n 5 [c0] = some y0 := h0
  have e1 : DataW.trod enc Try.prog w base spare held n 28 [c1] = some y1 := h1
  have e2 : DataW.trod enc Try.prog w base spare held n 2 [c2] = some y2 := h2
  have e3 : DataW.trod enc Try.prog w base spare held n 29 [c3] = some y3 := h3
  obtain ⟨k, hk, _, _⟩ := DataW.trod_int Try.underlying5 e0
  obtain ⟨sa, sn, sc, g, hs, s1, s2, s3, s4⟩ := down_bytes e1
  obtain ⟨m, hm, _, _⟩ := DataW.trod_int Try.underlying2 e2
  obtain ⟨ea, en, ec, E, he, t1, t2, t3, t4⟩ := down_elems e3
  simp at hk hs hm he
  exact ⟨k, sa, sn, sc, m, g, ea, en, ec, E, by rw [hk, hs, hm, he], s1, s3, s4, t1, t2, t3, t4⟩

/-- the six cells of a ZSubs -/
theorem down_subs (h : DataW.trod enc Try.prog w base spare held fuel 26 cs = some x) :
    ∃ (a : Nat → Option Addr) (n c : Nat → Nat) (nl : Nat → Bool) (f : Nat → Nat → ByteArray), cs = [.slice (a 0) (n 0) (c 0), .slice (a 1) (n 1) (c 1), .slice (a 2) (n 2) (c 2), .bool (nl 0), .bool (nl 1), .bool (nl 2)] ∧
      (∀ j, j < 3 → a j = none → n j = 0 ∧ c j = 0) ∧ (∀ j, j < 3 → n j ≤ maxLen) ∧ (∀ j, j < 3 → StrsAt w (a j) (n j) (f j)) ∧ ∀ j, j < 3 → ∀ i, i < n j → (f j i).size ≤ maxLen := by
  obtain ⟨y0, y1, n, _, hl, h0, h1⟩ := ChangeShapes.trod_struct2 Try.underlying26 h
  have hl6 : cs.length = 6 := hl.trans (by kernel_rfl)
  obtain ⟨c0, c1, c2, c3, c4, c5, rfl⟩ : ∃ c0 c1 c2 c3 c4 c5, cs = [c0, c1, c2, c3, c4, c5] := by
    match cs, hl6 with
    | [c0, c1, c2, c3, c4, c5], _ => exact ⟨c0, c1, c2, c3, c4, c5, rfl⟩
  have e0 : DataW.trod enc Try.prog w base spare held n 23 [c0, c1, c2] = some y0 := h0
  have e1 : DataW.trod enc Try.prog w base spare held n 24 [c3, c4, c5] = some y1 := h1
  obtain ⟨xs, m, _, _, _, hlen, hx⟩ := DataW.trod_array Try.underlying23 e0
  obtain ⟨ys, m', _, _, _, hlen', hy⟩ := DataW.trod_array Try.underlying24 e1
  match xs, hlen with
  | [x0, x1, x2], _ =>
  match ys, hlen' with
  | [z0, z1, z2], _ =>
  have a0 : DataW.trod enc Try.prog w base spare held m 22 [c0] = some x0 := hx 0 (by omega)
  have a1 : DataW.trod enc Try.prog w base spare held m 22 [c1] = some x1 := hx 1 (by omega)
  have a2 : DataW.trod enc Try.prog w base spare held m 22 [c2] = some x2 := hx 2 (by omega)
  have b0 : DataW.trod enc Try.prog w base spare held m' 4 [c3] = some z0 := hy 0 (by omega)
  have b1 : DataW.trod enc Try.prog w base spare held m' 4 [c4] = some z1 := hy 1 (by omega)
  have b2 : DataW.trod enc Try.prog w base spare held m' 4 [c5] = some z2 := hy 2 (by omega)
  obtain ⟨p0, n0, d0, f0, i0, j0, k0, l0, m0⟩ := down_strs a0
  obtain ⟨p1, n1, d1, f1, i1, j1, k1, l1, m1⟩ := down_strs a1
  obtain ⟨p2, n2, d2, f2, i2, j2, k2, l2, m2⟩ := down_strs a2
  obtain ⟨q0, r0, _⟩ := DataW.trod_bool Try.underlying4 b0
  obtain ⟨q1, r1, _⟩ := DataW.trod_bool Try.underlying4 b1
  obtain ⟨q2, r2, _⟩ := DataW.trod_bool Try.underlying4 b2
  simp at i0 i1 i2 r0 r1 r2
  refine ⟨fun | 0 => p0 | 1 => p1 | _ => p2, fun | 0 => n0 | 1 => n1 | _ => n2, fun | 0 => d0 | 1 => d1 | _ => d2, fun | 0 => q0 | 1 => q1 | _ => q2, fun | 0 => f0 | 1 => f1 | _ => f2, by rw [i0, i1, i2, r0, r1, r2]; rfl, ?_, ?_, ?_, ?_⟩
  · intro j hj; obtain rfl | rfl | rfl : j = 0 ∨ j = 1 ∨ j = 2 := by omega
    · exact j0
    · exact j1
    · exact j2
  · intro j hj; obtain rfl | rfl | rfl : j = 0 ∨ j = 1 ∨ j = 2 := by omega
    · exact k0
    · exact k1
    · exact k2
  · intro j hj; obtain rfl | rfl | rfl : j = 0 ∨ j = 1 ∨ j = 2 := by omega
    · exact l0
    · exact l1
    · exact l2
  · intro j hj; obtain rfl | rfl | rfl : j = 0 ∨ j = 1 ∨ j = 2 := by omega
    · exact m0
    · exact m1
    · exact m2

/-- what a kind that is not nil holds -/
theorem down_kind {a : Addr} {y : DataW H × List MemPlace} (hc : w.cells? base a (Try.prog.cellsOf 36) = some cs) (h : DataW.trod enc Try.prog w base spare held fuel 36 cs = some y) :
    ∃ (b off : Nat) (s : ByteArray) (f e : Int), a = ⟨b, off, none⟩ ∧ w.cell? ⟨b, off, none⟩ = some (.string s) ∧ w.cell? ⟨b, off + 1, none⟩ = some (.int .u8 f) ∧ w.cell? ⟨b, off + 2, none⟩ = some (.int .u8 e) ∧ s.size ≤ maxLen ∧ 0 ≤ f := by
  have h3 : Try.prog.cellsOf 36 = 3 := by kernel_rfl
  obtain ⟨y0, y1, y2, n, _, hl, h0, h1, h2⟩ := Deep.trod_struct3 Try.underlying36 h
  have hl3 : cs.length = 3 := hl.trans h3
  obtain ⟨c0, c1, c2, rfl⟩ : ∃ c0 c1 c2, cs = [c0, c1, c2] := by
    match cs, hl3 with
    | [c0, c1, c2], _ => exact ⟨c0, c1, c2, rfl⟩
  have e0 : DataW.trod enc Try.prog w base spare held n 9 [c0] = some y0 := h0
  have e1 : DataW.trod enc Try.prog w base spare held n 5 [c1] = some y1 := h1
  have e2 : DataW.trod enc Try.prog w base spare held n 5 [c2] = some y2 := h2
  obtain ⟨s, hs, _, hz⟩ := DataW.trod_string Try.underlying9 e0
  obtain ⟨f, hf, _, wf⟩ := DataW.trod_int Try.underlying5 e1
  obtain ⟨e, he, _, _⟩ := DataW.trod_int Try.underlying5 e2
  simp at hs hf he
  subst hs hf he
  rw [h3] at hc
  obtain ⟨_, _, hcell⟩ := World.cells?_some hc
  have g0 := hcell 0 (by omega)
  have g1 := hcell 1 (by omega)
  have g2 := hcell 2 (by omega)
  have hsp := add_spot g0
  obtain ⟨b, off, sp⟩ := a
  replace hsp : sp = none := hsp
  subst hsp
  rw [addr_plain] at g0 g1 g2
  exact ⟨b, off, s, f, e, rfl, g0, g1, g2, hz, (bounds_u8 wf).1⟩

end
end Go.Proofs.Qxb6603301a

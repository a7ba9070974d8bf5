/-
  WHAT THE WALKS OF THE YAML LINES SHARE; the walks of the bound, ylSameB1, ylOtherBreakAtB1, ylModelEndsB1, ylModelPartedB1.
-/
import Derived.Test.Qxb6603337aRows
import Derived.Test.Qxb6603337aYPlain
import Derived.WalkKit
import Derived.WalkSpells
import Derived.WalkLawsBesides
import Derived.Maps.AppendAt
import Derived.Laws.BytesArg
import Derived.Lib.OthersKept
import Derived.Lib.Slices
import Derived.Lib.Hide
import Derived.OwnWalk
import Derived.Deep.DeepCutAuto
import Derived.Deep.CutBlock
import Derived.Deep.LoopGhost
import Derived.BigQuiet
import Derived.Deep.QuietTactic
namespace Go.Proofs.Qxb6603337a
open Go.RowKit
set_option linter.unusedVariables false

theorem below_step {B : Nat} {w w1 w2 : World} (h : Below B w w1) (hB : B ≤ w.heap.size) (h2 : Below w1.heap.size w1 w2) : Below B w w2 :=
  h.trans (h2.mono (Nat.le_trans hB h.size))
theorem cellLater {w w' : World} {a : Addr} {v : Value} (hb : Below w.heap.size w w') (h : w.cell? a = some v) : w'.cell? a = some v :=
  (hb.cell (World.block_lt_of_cell? _ _ h)).trans h
theorem ret_bool {a b : Bool} (h : a = b) : Ending.returned (.bool a) = .returned (.bool b) := by rw [h]
theorem addr_plain (b off j : Nat) : (⟨b, off, none⟩ : Addr).add j = ⟨b, off + j, none⟩ := by unfold Addr.add; split <;> simp_all
theorem below_alloc (w : World) (o : Obj) : Below w.heap.size w (w.alloc o) := (Below.refl _ _).alloc (Nat.le_refl _) _

/-- THE SLICE AT a HOLDS THE BYTES F, n of them. -/
def TextAt (w : World) (a : Option Addr) (n : Nat) (F : Nat → Nat) : Prop :=
  0 < n → ∃ b off, a = some ⟨b, off, none⟩ ∧ ∀ k, k < n → w.cell? ⟨b, off + k, none⟩ = some (.int .u8 ((F k : Nat) : Int))
theorem TextAt.later {w w' : World} {a : Option Addr} {n : Nat} {F : Nat → Nat} (h : TextAt w a n F) (hb : Below w.heap.size w w') : TextAt w' a n F := fun h0 => by
  obtain ⟨b, off, e, hc⟩ := h h0
  exact ⟨b, off, e, fun j hj => cellLater hb (hc j hj)⟩

/-- the slice value v owns the ints zs, in blocks from B on -/
def Own (w : World) (B : Nat) (v : Value) (zs : List Int) : Prop := w.ownsRow B 3 1 v zs.length (zs.map (Value.int .i64))
theorem Own.later {w w' : World} {B : Nat} {v : Value} {zs : List Int} (h : Own w B v zs) (hb : Below w.heap.size w w') : Own w' B v zs :=
  World.ownsRow.kept (row := none) h ⟨hb.os, hb.tape, hb.output, hb.size, fun k hk _ => hb.block k hk⟩ (by cases hv : v.ownBlock <;> simp)
/-- THE SLICE AT a HOLDS THE ints zs. -/
def IntsAt (w : World) (a : Option Addr) (zs : List Int) : Prop :=
  0 < zs.length → ∃ b off, a = some ⟨b, off, none⟩ ∧ ∀ j, j < zs.length → w.cell? ⟨b, off + j, none⟩ = some (.int .i64 (zs.getD j 0))
theorem IntsAt.later {w w' : World} {a : Option Addr} {zs : List Int} (h : IntsAt w a zs) (hb : Below w.heap.size w w') : IntsAt w' a zs := fun h0 => by
  obtain ⟨b, off, e, hc⟩ := h h0
  exact ⟨b, off, e, fun j hj => cellLater hb (hc j hj)⟩
theorem Own.ints {w : World} {B : Nat} {v : Value} {zs : List Int} (h : Own w B v zs) : ∃ a c, v = .slice a zs.length c ∧ zs.length ≤ c ∧ IntsAt w a zs := by
  rcases h.2 with ⟨rfl, h0⟩ | ⟨g, cap, cur, rfl, hg, hh, hcap, hm, hs, ht⟩
  · exact ⟨none, 0, by rw [h0], by omega, fun h => by omega⟩
  · refine ⟨_, cap, rfl, hcap, fun _ => ⟨g, 0, rfl, fun j hj => ?_⟩⟩
    have := World.ownsRow.cells (g := g) h rfl j (.int .i64 (zs.getD j 0)) (by simp [hj])
    rwa [addr_plain] at this

theorem Try.info3 : (Try.prog.info? 3).map (fun i => (i.zero, i.size, i.bytes)) = some (some (.int .i64 0), 1, 8) := by kernel_rfl

/-- 'xs = append(xs, z)' -/
theorem wpList_int (w : World) {ops : Array Oper} {rest : List Oper} {o : Oper} {ac : Act} {Q : Exit → Act → World → Prop}
    (hg : o.guard = none) (s x : Operand) (hop : o.op = Op.call { callee := Callee.builtin Builtin.append, args := #[s, x], argTypes := #[31, 31] })
    (B : Nat) (v : Value) (xs : List Int) (hs : ac.eval s = v) (hown : Own w B v xs) (hB : B ≤ w.heap.size)
    (g : Nat) (z : Int) (hx : ac.eval x = .slice (some ⟨g, 0, none⟩) 1 1) (hc : w.cell? ⟨g, 0, none⟩ = some (.int .i64 z)) (hl : xs.length ≤ 2000000)
    (hK : ∀ v' w', Own w' B v' (xs ++ [z]) → w.grownBy w' v.ownBlock → (v'.ownBlock = v.ownBlock ∨ v'.ownBlock = some w.heap.size) → wpList Try.prog ops Q rest (ac.put o.dst v') w') :
    wpList Try.prog ops Q (o :: rest) ac w := by
  obtain ⟨i0, hi, hz0, hz1, hz2⟩ := info_parts Try.info3
  refine wpList_append_own_at w hg s x 31 hop B 3 i0 (.int .i64 0) 1 8 Try.underlying31 hi hz0 hz1 hz2 rfl (by decide) v xs.length (xs.map (Value.int .i64)) hs hown ⟨g, 0, none⟩ 1 1 [Value.int .i64 z] hx rfl
    (by intro j u hj; match j, hj with | 0, hj => simp at hj; subst hj; rw [addr_plain]; exact hc) (by intro u hu; simp at hu; subst hu; rfl) (by unfold maxLen; omega) (by omega) hB ?_
  intro v' w' h1 h2 _ h4
  refine hK v' w' ?_ h2 h4
  unfold Own
  simpa using h1

theorem bound19 (w : World) (a : Option Addr) (n c : Nat) (hn : n ≤ 9223372036854775807) :
    Calls Try.prog 19 #[.slice a n c] w fun e w' => e = .returned (.bool (decide (n ≤ 1048576))) ∧ w' = w := by
  by_cases h : n ≤ 1048576
  · have HD : Hid (decide (n ≤ 1048576) = true) := by simp [Hid, h]
    go_enter Try.func19, Try.ntmps19
    go_wp2
    go_ret
    exact ⟨ret_bool HD.out.symm, rfl⟩
  · have HD : Hid (decide (n ≤ 1048576) = false) := by simp [Hid, h]
    go_enter Try.func19, Try.ntmps19
    go_wp2
    go_ret
    exact ⟨ret_bool HD.out.symm, rfl⟩

set_option maxHeartbeats 400000 in
theorem same_true (w : World) (a b : Option Addr) (n ca cb : Nat) (zs : List Int) (hl : zs.length = n) (hn : n ≤ 4194304) (h1 : IntsAt w a zs) (h2 : IntsAt w b zs) :
    Calls Try.prog 21 #[.slice a n ca, .slice b n cb] w fun e w' => e = .returned (.bool true) ∧ Below w.heap.size w w' := by
  have HL : Hid (zs.length = n) := hl
  clear hl
  go_enter Try.func21, Try.ntmps21
  go_wp2_with fail
  go_loopg [5] n (fun gg t wr => ∃ q : Nat, q ≤ n ∧ gg = n - q ∧ t = .int .i64 q ∧ Below w.heap.size w wr)
  case atStart => exact ⟨0, Nat.zero_le _, rfl, rfl, Below.refl _ _⟩
  case round =>
    obtain ⟨q, hq, hg, rfl, hbr⟩ := hrel
    by_cases hlt : q < n
    · have hlt' : q < zs.length := by rw [HL.out]; exact hlt
      obtain ⟨xb, xo, rfl, hx⟩ := h1 (by omega)
      obtain ⟨yb, yo, rfl, hy⟩ := h2 (by omega)
      have c1 := cellLater hbr (hx q hlt')
      have c2 := cellLater hbr (hy q hlt')
      have hq3 : (q : Int) < n := by omega
      clear hx hy h1 h2 hlt'
      generalize zs.getD q 0 = z at *
      go_upto_region 6 with fail
      go_quiet (fail)
      go_wp2_with fail
      go_roundg (n - (q + 1))
      case measure => omega
      case rel => exact ⟨q + 1, by omega, rfl, by go_num, below_drewN hbr _⟩
    · have hqn : q = n := by omega
      subst hqn
      go_wp2_with fail
      go_ret
      exact ⟨rfl, hbr⟩

set_option maxHeartbeats 2000000 in
theorem brk_any (w : World) (a : Option Addr) (n c i : Nat) (F : Nat → Nat) (hn : n ≤ 1048576) (hi : i < n) (hf : TextAt w a n F) :
    Calls Try.prog 31 #[.slice a n c, .int .i64 i] w fun e w' => e = .returned (.bool (brk F n i)) ∧ w' = w := by
  obtain ⟨b, off, rfl, hc⟩ := hf (by omega)
  have c0 := hc i hi
  have HC := Lib.hid hc
  have HB : Hid (brk F n i = brk F n i) := rfl
  clear hc hf
  by_cases h13 : F i = 13
  · have t1 : (((F i : Nat) : Int) == 13) = true := by simp [h13]
    by_cases hl : i + 1 < n
    · have c1 := HC.out (i + 1) hl
      have d1 : decide ((n : Int) ≤ (i : Int) + 1) = false := by simp; omega
      by_cases h10 : F (i + 1) = 10
      · have HR : Hid (brk F n i = false) := by simp [Hid, brk, h13, h10]; omega
        have t2 : (((F (i + 1) : Nat) : Int) == 10) = true := by simp [h10]
        clear HC HB
        generalize F i = x at *
        generalize F (i + 1) = y at *
        go_enter Try.func31, Try.ntmps31
        go_wp2_with fail
        go_ret
        exact ⟨ret_bool (Eq.symm (HR.out.trans (by first | rfl | (simp [bne, *]; done)))), rfl⟩
      · have HR : Hid (brk F n i = true) := by simp [Hid, brk, h13, h10]
        have t2 : (((F (i + 1) : Nat) : Int) == 10) = false := by simp; omega
        clear HC HB
        generalize F i = x at *
        generalize F (i + 1) = y at *
        go_enter Try.func31, Try.ntmps31
        go_wp2_with fail
        go_ret
        exact ⟨ret_bool (Eq.symm (HR.out.trans (by first | rfl | (simp [bne, *]; done)))), rfl⟩
    · have HR : Hid (brk F n i = true) := by simp [Hid, brk, h13]; omega
      have d1 : decide ((n : Int) ≤ (i : Int) + 1) = true := by simp; omega
      clear HC HB
      generalize F i = x at *
      go_enter Try.func31, Try.ntmps31
      go_wp2_with fail
      go_ret
      exact ⟨ret_bool (Eq.symm (HR.out.trans (by first | rfl | (simp [bne, *]; done)))), rfl⟩
  have t1 : (((F i : Nat) : Int) == 13) = false := by simp; omega
  by_cases h194 : F i = 194
  · have t3 : (((F i : Nat) : Int) == 194) = true := by simp [h194]
    by_cases hl : i + 1 < n
    · have c1 := HC.out (i + 1) hl
      have d1 : decide ((i : Int) + 1 < (n : Int)) = true := by simp; omega
      by_cases h10 : F (i + 1) = 133
      · have HR : Hid (brk F n i = true) := by simp [Hid, brk, h194, h10]; omega
        have t2 : (((F (i + 1) : Nat) : Int) == 133) = true := by simp [h10]
        clear HC HB
        generalize F i = x at *
        generalize F (i + 1) = y at *
        go_enter Try.func31, Try.ntmps31
        go_wp2_with fail
        go_ret
        exact ⟨ret_bool (Eq.symm (HR.out.trans (by first | rfl | (simp [bne, *]; done)))), rfl⟩
      · have HR : Hid (brk F n i = false) := by simp [Hid, brk, h194, h10]
        have t2 : (((F (i + 1) : Nat) : Int) == 133) = false := by simp; omega
        clear HC HB
        generalize F i = x at *
        generalize F (i + 1) = y at *
        go_enter Try.func31, Try.ntmps31
        go_wp2_with fail
        go_ret
        exact ⟨ret_bool (Eq.symm (HR.out.trans (by first | rfl | (simp [bne, *]; done)))), rfl⟩
    · have HR : Hid (brk F n i = false) := by simp [Hid, brk, h194]; omega
      have d1 : decide ((i : Int) + 1 < (n : Int)) = false := by simp; omega
      clear HC HB
      generalize F i = x at *
      go_enter Try.func31, Try.ntmps31
      go_wp2_with fail
      go_ret
      exact ⟨ret_bool (Eq.symm (HR.out.trans (by first | rfl | (simp [bne, *]; done)))), rfl⟩
  have t3 : (((F i : Nat) : Int) == 194) = false := by simp; omega
  by_cases h226 : F i = 226
  · have t4 : (((F i : Nat) : Int) == 226) = true := by simp [h226]
    by_cases hl : i + 2 < n
    · have c1 := HC.out (i + 1) (by omega)
      have c2 := HC.out (i + 2) hl
      have d1 : decide ((i : Int) + 2 < (n : Int)) = true := by simp; omega
      by_cases h128 : F (i + 1) = 128
      · have t5 : (((F (i + 1) : Nat) : Int) == 128) = true := by simp [h128]
        by_cases h168 : F (i + 2) = 168
        · have HR : Hid (brk F n i = true) := by simp [Hid, brk, h226, h128, h168]; omega
          have t6 : (((F (i + 2) : Nat) : Int) == 168) = true := by simp [h168]
          clear HC HB
          generalize F i = x at *
          generalize F (i + 1) = y at *
          generalize F (i + 2) = z at *
          go_enter Try.func31, Try.ntmps31
          go_wp2_with fail
          go_ret
          exact ⟨ret_bool (Eq.symm (HR.out.trans (by first | rfl | (simp [bne, *]; done)))), rfl⟩
        · have t6 : (((F (i + 2) : Nat) : Int) == 168) = false := by simp; omega
          by_cases h169 : F (i + 2) = 169
          · have HR : Hid (brk F n i = true) := by simp [Hid, brk, h226, h128, h169]; omega
            have t7 : (((F (i + 2) : Nat) : Int) == 169) = true := by simp [h169]
            clear HC HB
            generalize F i = x at *
            generalize F (i + 1) = y at *
            generalize F (i + 2) = z at *
            go_enter Try.func31, Try.ntmps31
            go_wp2_with fail
            go_ret
            exact ⟨ret_bool (Eq.symm (HR.out.trans (by first | rfl | (simp [bne, *]; done)))), rfl⟩
          · have HR : Hid (brk F n i = false) := by simp [Hid, brk, h226, h168, h169]
            have t7 : (((F (i + 2) : Nat) : Int) == 169) = false := by simp; omega
            clear HC HB
            generalize F i = x at *
            generalize F (i + 1) = y at *
            generalize F (i + 2) = z at *
            go_enter Try.func31, Try.ntmps31
            go_wp2_with fail
            go_ret
            exact ⟨ret_bool (Eq.symm (HR.out.trans (by first | rfl | (simp [bne, *]; done)))), rfl⟩
      · have HR : Hid (brk F n i = false) := by simp [Hid, brk, h226, h128]
        have t5 : (((F (i + 1) : Nat) : Int) == 128) = false := by simp; omega
        clear HC HB
        generalize F i = x at *
        generalize F (i + 1) = y at *
        generalize F (i + 2) = z at *
        go_enter Try.func31, Try.ntmps31
        go_wp2_with fail
        go_ret
        exact ⟨ret_bool (Eq.symm (HR.out.trans (by first | rfl | (simp [bne, *]; done)))), rfl⟩
    · have HR : Hid (brk F n i = false) := by simp [Hid, brk, h226]; omega
      have d1 : decide ((i : Int) + 2 < (n : Int)) = false := by simp; omega
      clear HC HB
      generalize F i = x at *
      go_enter Try.func31, Try.ntmps31
      go_wp2_with fail
      go_ret
      exact ⟨ret_bool (Eq.symm (HR.out.trans (by first | rfl | (simp [bne, *]; done)))), rfl⟩
  have t4 : (((F i : Nat) : Int) == 226) = false := by simp; omega
  have HR : Hid (brk F n i = false) := by simp [Hid, brk, h13, h194, h226]
  clear HC HB
  generalize F i = x at *
  go_enter Try.func31, Try.ntmps31
  go_wp2_with fail
  go_ret
  exact ⟨ret_bool (Eq.symm (HR.out.trans (by first | rfl | (simp [bne, *]; done)))), rfl⟩
end Go.Proofs.Qxb6603337a

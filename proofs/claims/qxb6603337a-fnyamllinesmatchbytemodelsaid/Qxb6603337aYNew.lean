/-
  THE WALK of newYAMLLines: rune by rune, the two rows as the bytes say.
-/
import Derived.Test.Qxb6603337aYModel
import Derived.Laws.RangeString
import Derived.Below
namespace Go.Proofs.Qxb6603337a
open Go.RowKit
set_option linter.unusedVariables false

theorem str_of (s : ByteArray) : strOfNums ((List.range s.size).map fun k => ((bt s k : Nat) : Int)) = s := by
  cases s with
  | mk d =>
    unfold strOfNums
    congr 1
    apply Array.ext'
    apply List.ext_getElem?
    intro j
    by_cases h : j < d.size
    · have h2 : j < (ByteArray.mk d).size := h
      simp [h2, bt, ByteArray.get!, h]
    · have h2 : ¬ j < (ByteArray.mk d).size := h
      simp [h2, h]

theorem conv_text {w : World} {a : Option Addr} {s : ByteArray} (h : TextAt w a s.size (bt s)) (c : Nat) : (convert 24 9 (.slice a s.size c)).run Try.prog w = .ok (.string s) w := by
  have e := str_of s
  by_cases h0 : 0 < s.size
  · obtain ⟨b, off, rfl, hc⟩ := h h0
    have := run_convert_bytes_arg (P := Try.prog) w 24 5 Try.underlying24 Try.underlying5 b off s.size c ((List.range s.size).map fun k => ((bt s k : Nat) : Int)) (by simp) (fun i hi => by rw [hc i hi]; simp [hi]) 9 Try.underlying9
    rw [this, e]
  · have hs : s.size = 0 := by omega
    rw [hs] at e ⊢
    have e' : strOfNums [] = s := e
    cases a with
    | none =>
      have := run_convert_bytes_nil (P := Try.prog) w 24 5 Try.underlying24 Try.underlying5 0 c 9 Try.underlying9
      rw [this, ← e']; rfl
    | some x =>
      rw [run_convert_bytes_string (P := Try.prog) w 24 9 5 _ 0 c Try.underlying24 Try.underlying5 Try.underlying9]
      have hl : (loadCells x 0).run Try.prog w = .ok (([] : List Int).map (Value.int .u8)).toArray w := by
        simpa using run_loadCells_list (P := Try.prog) w x [] (by simp)
      rw [run_bytesToString (P := Try.prog) w x 0 c [] hl, ← e']; rfl

/-- the loop's world: the struct l in block B + 1, the reader of the string in B + 2, the result's place in B -/
structure Y (B : Nat) (w wr : World) (s : ByteArray) (p : Nat) (v1 v2 : Value) (e1 e2 : List Int) : Prop where
  l : wr.heap[B + 1]? = some (.cells #[v1, v2] 43 (0, 0))
  it : wr.heap[B + 2]? = some (.stringIter s p)
  r : wr.heap[B]? = some (.cells #[.slice none 0 0, .slice none 0 0] 43 (0, 0))
  o1 : Own wr (B + 3) v1 e1
  o2 : Own wr (B + 3) v2 e2
  ap : ∀ k, v1.ownBlock = some k → v2.ownBlock ≠ some k
  bel : Below B w wr
  sz : B + 3 ≤ wr.heap.size

theorem Y.next {B : Nat} {w wr : World} {s : ByteArray} {p q : Nat} {v1 v2 : Value} {e1 e2 : List Int} (h : Y B w wr s p v1 v2 e1 e2) : Y B w (wr.iterAt (B + 2) s q) s q v1 v2 e1 e2 := by
  have hk : ∀ v xs, Own wr (B + 3) v xs → Own (wr.iterAt (B + 2) s q) (B + 3) v xs := fun v xs ho =>
    World.ownsRow.kept (row := some (B + 2)) ho ⟨rfl, rfl, rfl, by rw [Lib.iterAt_size]; exact Nat.le_refl _, fun k hk hne => Lib.iterAt_other wr (B + 2) k s q (fun e => hne (by rw [e]))⟩ (by
      cases hv : v.ownBlock with
      | none => exact .inl rfl
      | some g => exact .inr (fun e => by cases e; have := (World.ownsRow.lt ho _ hv).1; omega))
  refine ⟨?_, Lib.iterAt_heap wr (B + 2) s p q h.it, ?_, hk _ _ h.o1, hk _ _ h.o2, h.ap, Lib.below_iterAt h.bel (by omega) s q, by rw [Lib.iterAt_size]; exact h.sz⟩
  · rw [Lib.iterAt_other _ _ _ _ _ (by omega)]; exact h.l
  · rw [Lib.iterAt_other _ _ _ _ _ (by omega)]; exact h.r

theorem Y.app1 {B : Nat} {w wr w2 : World} {s : ByteArray} {p : Nat} {v1 v2 v' : Value} {e1 e2 : List Int} {z : Int} {o : Obj} (h : Y B w wr s p v1 v2 e1 e2)
    (ho : Own w2 (B + 3) v' (e1 ++ [z])) (hg : (wr.alloc o).grownBy w2 v1.ownBlock) (hat : v'.ownBlock = v1.ownBlock ∨ v'.ownBlock = some (wr.alloc o).heap.size) :
    Y B w (w2.setCell ⟨B + 1, 0, none⟩ v') s p v' v2 (e1 ++ [z]) e2 := by
  have hsz := h.sz
  have hblk : ∀ k, k < B + 3 → w2.heap[k]? = wr.heap[k]? := by
    intro k hk
    rw [hg.block k (by simp; omega) (by
      intro e
      have := (World.ownsRow.lt h.o1 k e.symm).1
      omega)]
    exact Below.heap_alloc _ _ _ (by omega)
  have ho2 : Own w2 (B + 3) v2 e2 := World.ownsRow.kept (Own.later h.o2 (below_alloc wr o)) hg (by
    cases hv : v2.ownBlock with
    | none => exact .inl rfl
    | some g => exact .inr (fun e => h.ap g e.symm hv))
  refine ⟨?_, ?_, ?_, ownsRow_setCell_below ho (by simp) _, ownsRow_setCell_below ho2 (by simp) _, fun k hk hk2 => ?_, ?_, ?_⟩
  · have := heap_setCell_same w2 (B + 1) 0 #[v1, v2] 43 v' (by rw [hblk _ (by omega)]; exact h.l)
    simpa using this
  · rw [heap_setCell_other _ _ _ _ (by simp), hblk _ (by omega)]; exact h.it
  · rw [heap_setCell_other _ _ _ _ (by simp), hblk _ (by omega)]; exact h.r
  · have hlt := (World.ownsRow.lt h.o2 k hk2).2
    rcases hat with e | e
    · exact h.ap k (by rw [← e]; exact hk) hk2
    · rw [hk] at e; simp at e; omega
  · refine Below.setCell ?_ (by simp) _
    exact (h.bel.alloc (by omega) _).grown hg (by simp; omega) (fun k hk => by have := (World.ownsRow.lt h.o1 k hk).1; omega)
  · have := hg.size; simp at this; simpa [World.setCell] using (by omega : B + 3 ≤ w2.heap.size)

theorem Y.app2 {B : Nat} {w wr w2 : World} {s : ByteArray} {p : Nat} {v1 v2 v' : Value} {e1 e2 : List Int} {z : Int} {o : Obj} (h : Y B w wr s p v1 v2 e1 e2)
    (ho : Own w2 (B + 3) v' (e2 ++ [z])) (hg : (wr.alloc o).grownBy w2 v2.ownBlock) (hat : v'.ownBlock = v2.ownBlock ∨ v'.ownBlock = some (wr.alloc o).heap.size) :
    Y B w (w2.setCell ⟨B + 1, 1, none⟩ v') s p v1 v' e1 (e2 ++ [z]) := by
  have hsz := h.sz
  have hblk : ∀ k, k < B + 3 → w2.heap[k]? = wr.heap[k]? := by
    intro k hk
    rw [hg.block k (by simp; omega) (by
      intro e
      have := (World.ownsRow.lt h.o2 k e.symm).1
      omega)]
    exact Below.heap_alloc _ _ _ (by omega)
  have ho1 : Own w2 (B + 3) v1 e1 := World.ownsRow.kept (Own.later h.o1 (below_alloc wr o)) hg (by
    cases hv : v1.ownBlock with
    | none => exact .inl rfl
    | some g => exact .inr (fun e => h.ap g hv e.symm))
  refine ⟨?_, ?_, ?_, ownsRow_setCell_below ho1 (by simp) _, ownsRow_setCell_below ho (by simp) _, fun k hk hk2 => ?_, ?_, ?_⟩
  · have := heap_setCell_same w2 (B + 1) 1 #[v1, v2] 43 v' (by rw [hblk _ (by omega)]; exact h.l)
    simpa using this
  · rw [heap_setCell_other _ _ _ _ (by simp), hblk _ (by omega)]; exact h.it
  · rw [heap_setCell_other _ _ _ _ (by simp), hblk _ (by omega)]; exact h.r
  · have hlt := (World.ownsRow.lt h.o1 k hk).2
    rcases hat with e | e
    · exact h.ap k hk (by rw [← e]; exact hk2)
    · rw [hk2] at e; simp at e; omega
  · refine Below.setCell ?_ (by simp) _
    exact (h.bel.alloc (by omega) _).grown hg (by simp; omega) (fun k hk => by have := (World.ownsRow.lt h.o2 k hk).1; omega)
  · have := hg.size; simp at this; simpa [World.setCell] using (by omega : B + 3 ≤ w2.heap.size)

theorem Y.blk1 {B : Nat} {w wr w2 : World} {s : ByteArray} {p : Nat} {v1 v2 : Value} {e1 e2 : List Int} {o : Obj} (h : Y B w wr s p v1 v2 e1 e2) (hg : (wr.alloc o).grownBy w2 v1.ownBlock) : w2.heap[B + 1]? = some (.cells #[v1, v2] 43 (0, 0)) := by
  have hsz := h.sz
  rw [hg.block _ (by simp; omega) (by intro e; have := (World.ownsRow.lt h.o1 _ e.symm).1; omega), Below.heap_alloc _ _ _ (by omega)]; exact h.l
theorem Y.blk2 {B : Nat} {w wr w2 : World} {s : ByteArray} {p : Nat} {v1 v2 : Value} {e1 e2 : List Int} {o : Obj} (h : Y B w wr s p v1 v2 e1 e2) (hg : (wr.alloc o).grownBy w2 v2.ownBlock) : w2.heap[B + 1]? = some (.cells #[v1, v2] 43 (0, 0)) := by
  have hsz := h.sz
  rw [hg.block _ (by simp; omega) (by intro e; have := (World.ownsRow.lt h.o2 _ e.symm).1; omega), Below.heap_alloc _ _ _ (by omega)]; exact h.l
theorem two_cells {w : World} {b : Nat} {v1 v2 : Value} {t : TypeId} (h : w.heap[b]? = some (.cells #[v1, v2] t (0, 0))) : w.cell? ⟨b, 0, none⟩ = some v1 ∧ w.cell? ⟨b, 1, none⟩ = some v2 ∧ w.frozen? ⟨b, 0, none⟩ = false ∧ w.frozen? ⟨b, 1, none⟩ = false := by
  refine ⟨?_, ?_, frozen_of_row w b 0 _ _ h, frozen_of_row w b 1 _ _ h⟩ <;> simp [World.cell?, h]

theorem heap_alloc_new' (w : World) (o : Obj) {g : Nat} (h : g = w.heap.size) : (w.alloc o).heap[g]? = some o := by subst h; exact heap_alloc_new w o

/-- what newYAMLLines leaves -/
def NewPost (w : World) (s : ByteArray) (e : Ending) (w' : World) : Prop :=
  ∃ v1 v2 B, e = .returned (.agg #[v1, v2]) ∧ Own w' B v1 (endsAll (bt s) s.size) ∧ Own w' B v2 (partTo (bt s) s.size s.size) ∧ Below w.heap.size w w'
/-- the return: the struct is copied to the result's place -/
theorem Y.ret {B : Nat} {w wr : World} {s : ByteArray} {p : Nat} {v1 v2 : Value} {e1 e2 : List Int} (h : Y B w wr s p v1 v2 e1 e2) :
    Own ((wr.setCell ⟨B, 0, none⟩ v1).setCell ⟨B, 1, none⟩ v2) (B + 3) v1 e1 ∧ Own ((wr.setCell ⟨B, 0, none⟩ v1).setCell ⟨B, 1, none⟩ v2) (B + 3) v2 e2 ∧ Below B w ((wr.setCell ⟨B, 0, none⟩ v1).setCell ⟨B, 1, none⟩ v2) ∧
      ((wr.setCell ⟨B, 0, none⟩ v1).setCell ⟨B, 1, none⟩ v2).heap[B]? = some (.cells #[v1, v2] 43 (0, 0)) := by
  refine ⟨ownsRow_setCell_below (ownsRow_setCell_below h.o1 (by simp) _) (by simp) _, ownsRow_setCell_below (ownsRow_setCell_below h.o2 (by simp) _) (by simp) _, (h.bel.setCell (by simp) _).setCell (by simp) _, ?_⟩
  have h1 := heap_setCell_same wr B 0 _ 43 v1 h.r
  have h2 := heap_setCell_same _ B 1 _ 43 v2 h1
  simpa using h2

/-- the parser's line -/
def pl (F : Nat → Nat) (n p : Nat) : Nat := 1 + lfTo F p + (partTo F n p).length

set_option maxRecDepth 100000 in
set_option maxHeartbeats 4000000 in
theorem newLines_any (w : World) (a : Option Addr) (c : Nat) (s : ByteArray) (hn : s.size ≤ 1048576) (hf : TextAt w a s.size (bt s)) :
    Calls Try.prog 30 #[.slice a s.size c] w (NewPost w s) := by
  have HF := Lib.hid hf
  have hcv : ∀ w', Below w.heap.size w w' → (convert 24 9 (.slice a s.size c)).run Try.prog w' = .ok (.string s) w' := fun w' h => conv_text (HF.out.later h) c
  have HCV := Lib.hid hcv
  clear hf hcv
  go_enter Try.func30, Try.ntmps30
  go_upto_region 3 with fail
  obtain ⟨w2, hw2⟩ : ∃ w2, w2 = (w.alloc (.cells #[.slice none 0 0, .slice none 0 0] 43)).alloc (.cells #[.slice none 0 0, .slice none 0 0] 43) := ⟨_, rfl⟩
  rw [← hw2]
  have hb2 : Below w.heap.size w w2 := by rw [hw2]; exact ((Below.refl _ _).alloc (Nat.le_refl _) _).alloc (by simp) _
  have hs2 : w2.heap.size = w.heap.size + 2 := by rw [hw2]; simp
  have hcv := HCV.out w2 hb2
  have HY0 : Hid (Y w.heap.size w (w2.iter s 0) s 0 (.slice none 0 0) (.slice none 0 0) (endsTo (bt s) 0) (partTo (bt s) s.size 0)) := by
    refine ⟨?_, ?_, ?_, own_nil _ _, own_nil _ _, (fun k hk => by cases hk), ?_, ?_⟩
    · rw [World.iter, Below.heap_alloc _ _ _ (by omega), hw2]
      exact heap_alloc_new' _ _ (by simp)
    · have := World.iter_heap w2 s 0
      rwa [hs2] at this
    · rw [World.iter, Below.heap_alloc _ _ _ (by omega), hw2, Below.heap_alloc _ _ _ (by simp)]
      exact heap_alloc_new' _ _ rfl
    · exact hb2.alloc (by omega) _
    · simp [World.iter, hs2]
  clear hw2
  go_wp2_with fail
  go_loopg [4, 5, 6] s.size (fun gg t4 t5 t6 wr => ∃ (p : Nat) (v1 v2 : Value), p ≤ s.size ∧ gg = s.size - p ∧ t4 = .int .i64 (pl (bt s) s.size p : Nat) ∧ Hid (Y w.heap.size w wr s p v1 v2 (endsTo (bt s) p) (partTo (bt s) s.size p)))
  case atStart => exact ⟨0, _, _, Nat.zero_le _, rfl, rfl, HY0⟩
  case round =>
    obtain ⟨p, v1, v2, hp, hg, rfl, hY⟩ := hrel
    clear HY0 hcv hb2 hs2
    by_cases hlt : p < s.size
    · have hnext := fun ty => Lib.run_next_any_at (P := Try.prog) wr (w.heap.size + 2) s p ty hY.out.it hlt
      have R := rune_of s p hlt
      obtain ⟨cc, hcc⟩ : ∃ cc, cc = (Utf8.decode s p).1 := ⟨_, rfl⟩
      obtain ⟨wd, hwd⟩ : ∃ wd, wd = (Utf8.decode s p).2 := ⟨_, rfl⟩
      rw [← hcc, ← hwd] at hnext R
      have HY1 : Hid (Y w.heap.size w (wr.iterAt (w.heap.size + 2) s (p + wd)) s (p + wd) v1 v2 (endsTo (bt s) p) (partTo (bt s) s.size p)) := hY.out.next
      generalize wr.iterAt (w.heap.size + 2) s (p + wd) = w1 at *
      obtain ⟨st1, st2, st3⟩ := step R
      have hbr := brk_rune R
      have hle := R.le
      have hpos := R.pos
      have hcs := R.small
      have hel := endsTo_len (bt s) p
      have hpl := partTo_len (bt s) s.size p
      have hll := lfTo_le (bt s) p
      have hsz1 := HY1.out.sz
      obtain ⟨q0, q1, q2, q3⟩ := two_cells HY1.out.l
      have HPL : Hid (pl (bt s) s.size p = 1 + lfTo (bt s) p + (partTo (bt s) s.size p).length) := rfl
      have hplb : pl (bt s) s.size p ≤ 4000000 := by rw [HPL.out]; omega
      have HST1 := Lib.hid st1
      have HST2 := Lib.hid st2
      have HST3 := Lib.hid st3
      have HBR := Lib.hid hbr
      clear hcc hwd R st1 st2 st3 hbr hY
      by_cases h10 : cc = 10
      · subst h10
        have HN : Hid (brk (bt s) s.size p = false) := by
          cases hb : brk (bt s) s.size p with
          | false => rfl
          | true => rcases HBR.out.1 hb with ⟨h, _⟩ | h | h | h <;> omega
        have HP2 : Hid (pl (bt s) s.size p + 1 = pl (bt s) s.size (p + wd)) := by
          show _ = _
          unfold pl
          rw [HST2.out, HST3.out, HN.out]; simp; omega
        go_upto_region 9 with (at_builtin; refine wpList_int _ rfl (.tmp 18) (.tmp 21) rfl (w.heap.size + 3) v1 (endsTo (bt s) p) rfl (HY1.out.o1.later (below_alloc _ _)) (by simp; omega) w1.heap.size ((p + 1 : Nat) : Int) rfl (by simp) (by omega) ?_; intro v3 w3 hown3 hgrow3 hat3; obtain ⟨a3, c3, rfl, hc3, _⟩ := Own.ints hown3; have HAT := Lib.hid hat3; have HO3 := Lib.hid hown3; have HG3 := Lib.hid hgrow3; clear hat3 hown3; obtain ⟨k0, k1, k2, k3⟩ := two_cells (HY1.out.blk1 hgrow3))
        have HE1 : Hid (endsTo (bt s) (p + wd) = endsTo (bt s) p ++ [((p + 1 : Nat) : Int)]) := by show _ = _; rw [HST1.out]; rfl
        have HE2 : Hid (partTo (bt s) s.size (p + wd) = partTo (bt s) s.size p) := by show _ = _; rw [HST3.out, HN.out]; simp
        clear hgrow3 k0 k1 k2 k3
        go_wp2_with fail
        go_roundg (s.size - (p + wd))
        case measure => omega
        case rel =>
          refine ⟨p + wd, .slice a3 ((endsTo (bt s) p).length + 1) c3, v2, hle, rfl, ?_, ?_⟩
          · rw [← HP2.out]; go_num
          · have h := HY1.out.app1 HO3.out HG3.out HAT.out
            show Y _ _ _ _ _ _ _ _ _
            rw [HE1.out, HE2.out]
            simpa using h
      · have t10 : (((cc : Nat) : Int) == 10) = false := by simp; omega
        by_cases h13 : cc = 13
        · subst h13
          have h10 : ¬ (13 = 10) := by omega
          by_cases hl : p + 1 < s.size
          · obtain ⟨b, off, rfl, hc⟩ := (HF.out.later HY1.out.bel) (by omega)
            have c1 := hc (p + 1) hl
            have d1 : decide ((p : Int) + 1 < (s.size : Int)) = true := by simp; omega
            by_cases hx : bt s (p + 1) = 10
            · have HN : Hid (brk (bt s) s.size p = false) := by
                cases hb : brk (bt s) s.size p with
                | false => rfl
                | true =>
                  rcases HBR.out.1 hb with ⟨_, h⟩ | h | h | h
                  · exact absurd ⟨hl, hx⟩ h
                  · omega
                  · omega
                  · omega
              have t1 : (((bt s (p + 1) : Nat) : Int) == 10) = true := by simp [hx]
              clear hc hx
              have HP2 : Hid (pl (bt s) s.size p = pl (bt s) s.size (p + wd)) := by
                show _ = _
                unfold pl
                rw [HST2.out, HST3.out, HN.out, if_neg h10]; simp
              have HE1 : Hid (endsTo (bt s) (p + wd) = endsTo (bt s) p) := by show _ = _; rw [HST1.out, if_neg h10]; simp
              have HE2 : Hid (partTo (bt s) s.size (p + wd) = partTo (bt s) s.size p) := by show _ = _; rw [HST3.out, HN.out]; simp
              go_wp2_with fail
              go_roundg (s.size - (p + wd))
              case measure => omega
              case rel =>
                refine ⟨p + wd, v1, v2, hle, rfl, ?_, ?_⟩
                · rw [← HP2.out]
                · show Y _ _ _ _ _ _ _ _ _
                  rw [HE1.out, HE2.out]
                  exact HY1.out
            · have HN : Hid (brk (bt s) s.size p = true) := HBR.out.2 (.inl ⟨rfl, fun h => hx h.2⟩)
              have t1 : (((bt s (p + 1) : Nat) : Int) == 10) = false := by simp; omega
              clear hc hx
              have HP2 : Hid (pl (bt s) s.size p + 1 = pl (bt s) s.size (p + wd)) := by
                show _ = _
                unfold pl
                rw [HST2.out, HST3.out, HN.out, if_neg h10]; simp; omega
              have HE1 : Hid (endsTo (bt s) (p + wd) = endsTo (bt s) p) := by show _ = _; rw [HST1.out, if_neg h10]; simp
              have HE2 : Hid (partTo (bt s) s.size (p + wd) = partTo (bt s) s.size p ++ [((pl (bt s) s.size p + 1 : Nat) : Int)]) := by
                show _ = _
                rw [HST3.out, HN.out, if_pos rfl]
                congr 3
                unfold pl
                omega
              go_wp2_with (at_builtin; refine wpList_int _ rfl (.tmp 51) (.tmp 53) rfl (w.heap.size + 3) v2 (partTo (bt s) s.size p) rfl (HY1.out.o2.later (below_alloc _ _)) (by simp; omega) w1.heap.size ((pl (bt s) s.size p + 1 : Nat) : Int) rfl (by simp) (by omega) ?_; intro v3 w3 hown3 hgrow3 hat3; obtain ⟨a3, c3, rfl, hc3, _⟩ := Own.ints hown3; have HAT := Lib.hid hat3; have HO3 := Lib.hid hown3; have HG3 := Lib.hid hgrow3; clear hat3 hown3; obtain ⟨k0, k1, k2, k3⟩ := two_cells (HY1.out.blk2 hgrow3))
              go_roundg (s.size - (p + wd))
              case measure => omega
              case rel =>
                refine ⟨p + wd, v1, .slice a3 ((partTo (bt s) s.size p).length + 1) c3, hle, rfl, ?_, ?_⟩
                · rw [← HP2.out]; go_num
                · have h := HY1.out.app2 HO3.out HG3.out HAT.out
                  show Y _ _ _ _ _ _ _ _ _
                  rw [HE1.out, HE2.out]
                  simpa using h
          · have HN : Hid (brk (bt s) s.size p = true) := HBR.out.2 (.inl ⟨rfl, fun h => hl h.1⟩)
            have d1 : decide ((p : Int) + 1 < (s.size : Int)) = false := by simp; omega
            have HP2 : Hid (pl (bt s) s.size p + 1 = pl (bt s) s.size (p + wd)) := by
              show _ = _
              unfold pl
              rw [HST2.out, HST3.out, HN.out, if_neg h10]; simp; omega
            have HE1 : Hid (endsTo (bt s) (p + wd) = endsTo (bt s) p) := by show _ = _; rw [HST1.out, if_neg h10]; simp
            have HE2 : Hid (partTo (bt s) s.size (p + wd) = partTo (bt s) s.size p ++ [((pl (bt s) s.size p + 1 : Nat) : Int)]) := by
              show _ = _
              rw [HST3.out, HN.out, if_pos rfl]
              congr 3
              unfold pl
              omega
            go_wp2_with (at_builtin; refine wpList_int _ rfl (.tmp 51) (.tmp 53) rfl (w.heap.size + 3) v2 (partTo (bt s) s.size p) rfl (HY1.out.o2.later (below_alloc _ _)) (by simp; omega) w1.heap.size ((pl (bt s) s.size p + 1 : Nat) : Int) rfl (by simp) (by omega) ?_; intro v3 w3 hown3 hgrow3 hat3; obtain ⟨a3, c3, rfl, hc3, _⟩ := Own.ints hown3; have HAT := Lib.hid hat3; have HO3 := Lib.hid hown3; have HG3 := Lib.hid hgrow3; clear hat3 hown3; obtain ⟨k0, k1, k2, k3⟩ := two_cells (HY1.out.blk2 hgrow3))
            go_roundg (s.size - (p + wd))
            case measure => omega
            case rel =>
              refine ⟨p + wd, v1, .slice a3 ((partTo (bt s) s.size p).length + 1) c3, hle, rfl, ?_, ?_⟩
              · rw [← HP2.out]; go_num
              · have h := HY1.out.app2 HO3.out HG3.out HAT.out
                show Y _ _ _ _ _ _ _ _ _
                rw [HE1.out, HE2.out]
                simpa using h
        have t13 : (((cc : Nat) : Int) == 13) = false := by simp; omega
        by_cases h133 : cc = 133
        · have HN : Hid (brk (bt s) s.size p = true) := HBR.out.2 (.inr (.inl h133))
          have t133 : (((cc : Nat) : Int) == 133) = true := by simp [h133]
          clear h133
          have HP2 : Hid (pl (bt s) s.size p + 1 = pl (bt s) s.size (p + wd)) := by
            show _ = _
            unfold pl
            rw [HST2.out, HST3.out, HN.out, if_neg h10]; simp; omega
          have HE1 : Hid (endsTo (bt s) (p + wd) = endsTo (bt s) p) := by show _ = _; rw [HST1.out, if_neg h10]; simp
          have HE2 : Hid (partTo (bt s) s.size (p + wd) = partTo (bt s) s.size p ++ [((pl (bt s) s.size p + 1 : Nat) : Int)]) := by
            show _ = _
            rw [HST3.out, HN.out, if_pos rfl]
            congr 3
            unfold pl
            omega
          go_wp2_with (at_builtin; refine wpList_int _ rfl (.tmp 51) (.tmp 53) rfl (w.heap.size + 3) v2 (partTo (bt s) s.size p) rfl (HY1.out.o2.later (below_alloc _ _)) (by simp; omega) w1.heap.size ((pl (bt s) s.size p + 1 : Nat) : Int) rfl (by simp) (by omega) ?_; intro v3 w3 hown3 hgrow3 hat3; obtain ⟨a3, c3, rfl, hc3, _⟩ := Own.ints hown3; have HAT := Lib.hid hat3; have HO3 := Lib.hid hown3; have HG3 := Lib.hid hgrow3; clear hat3 hown3; obtain ⟨k0, k1, k2, k3⟩ := two_cells (HY1.out.blk2 hgrow3))
          go_roundg (s.size - (p + wd))
          case measure => omega
          case rel =>
            refine ⟨p + wd, v1, .slice a3 ((partTo (bt s) s.size p).length + 1) c3, hle, rfl, ?_, ?_⟩
            · rw [← HP2.out]; go_num
            · have h := HY1.out.app2 HO3.out HG3.out HAT.out
              show Y _ _ _ _ _ _ _ _ _
              rw [HE1.out, HE2.out]
              simpa using h
        have t133 : (((cc : Nat) : Int) == 133) = false := by simp; omega
        by_cases h8232 : cc = 8232
        · have HN : Hid (brk (bt s) s.size p = true) := HBR.out.2 (.inr (.inr (.inl h8232)))
          have t8232 : (((cc : Nat) : Int) == 8232) = true := by simp [h8232]
          clear h8232
          have HP2 : Hid (pl (bt s) s.size p + 1 = pl (bt s) s.size (p + wd)) := by
            show _ = _
            unfold pl
            rw [HST2.out, HST3.out, HN.out, if_neg h10]; simp; omega
          have HE1 : Hid (endsTo (bt s) (p + wd) = endsTo (bt s) p) := by show _ = _; rw [HST1.out, if_neg h10]; simp
          have HE2 : Hid (partTo (bt s) s.size (p + wd) = partTo (bt s) s.size p ++ [((pl (bt s) s.size p + 1 : Nat) : Int)]) := by
            show _ = _
            rw [HST3.out, HN.out, if_pos rfl]
            congr 3
            unfold pl
            omega
          go_wp2_with (at_builtin; refine wpList_int _ rfl (.tmp 51) (.tmp 53) rfl (w.heap.size + 3) v2 (partTo (bt s) s.size p) rfl (HY1.out.o2.later (below_alloc _ _)) (by simp; omega) w1.heap.size ((pl (bt s) s.size p + 1 : Nat) : Int) rfl (by simp) (by omega) ?_; intro v3 w3 hown3 hgrow3 hat3; obtain ⟨a3, c3, rfl, hc3, _⟩ := Own.ints hown3; have HAT := Lib.hid hat3; have HO3 := Lib.hid hown3; have HG3 := Lib.hid hgrow3; clear hat3 hown3; obtain ⟨k0, k1, k2, k3⟩ := two_cells (HY1.out.blk2 hgrow3))
          go_roundg (s.size - (p + wd))
          case measure => omega
          case rel =>
            refine ⟨p + wd, v1, .slice a3 ((partTo (bt s) s.size p).length + 1) c3, hle, rfl, ?_, ?_⟩
            · rw [← HP2.out]; go_num
            · have h := HY1.out.app2 HO3.out HG3.out HAT.out
              show Y _ _ _ _ _ _ _ _ _
              rw [HE1.out, HE2.out]
              simpa using h
        have t8232 : (((cc : Nat) : Int) == 8232) = false := by simp; omega
        by_cases h8233 : cc = 8233
        · have HN : Hid (brk (bt s) s.size p = true) := HBR.out.2 (.inr (.inr (.inr h8233)))
          have t8233 : (((cc : Nat) : Int) == 8233) = true := by simp [h8233]
          clear h8233
          have HP2 : Hid (pl (bt s) s.size p + 1 = pl (bt s) s.size (p + wd)) := by
            show _ = _
            unfold pl
            rw [HST2.out, HST3.out, HN.out, if_neg h10]; simp; omega
          have HE1 : Hid (endsTo (bt s) (p + wd) = endsTo (bt s) p) := by show _ = _; rw [HST1.out, if_neg h10]; simp
          have HE2 : Hid (partTo (bt s) s.size (p + wd) = partTo (bt s) s.size p ++ [((pl (bt s) s.size p + 1 : Nat) : Int)]) := by
            show _ = _
            rw [HST3.out, HN.out, if_pos rfl]
            congr 3
            unfold pl
            omega
          go_wp2_with (at_builtin; refine wpList_int _ rfl (.tmp 51) (.tmp 53) rfl (w.heap.size + 3) v2 (partTo (bt s) s.size p) rfl (HY1.out.o2.later (below_alloc _ _)) (by simp; omega) w1.heap.size ((pl (bt s) s.size p + 1 : Nat) : Int) rfl (by simp) (by omega) ?_; intro v3 w3 hown3 hgrow3 hat3; obtain ⟨a3, c3, rfl, hc3, _⟩ := Own.ints hown3; have HAT := Lib.hid hat3; have HO3 := Lib.hid hown3; have HG3 := Lib.hid hgrow3; clear hat3 hown3; obtain ⟨k0, k1, k2, k3⟩ := two_cells (HY1.out.blk2 hgrow3))
          go_roundg (s.size - (p + wd))
          case measure => omega
          case rel =>
            refine ⟨p + wd, v1, .slice a3 ((partTo (bt s) s.size p).length + 1) c3, hle, rfl, ?_, ?_⟩
            · rw [← HP2.out]; go_num
            · have h := HY1.out.app2 HO3.out HG3.out HAT.out
              show Y _ _ _ _ _ _ _ _ _
              rw [HE1.out, HE2.out]
              simpa using h
        have t8233 : (((cc : Nat) : Int) == 8233) = false := by simp; omega
        have HN : Hid (brk (bt s) s.size p = false) := by
          cases hb : brk (bt s) s.size p with
          | false => rfl
          | true => rcases HBR.out.1 hb with ⟨h, _⟩ | h | h | h <;> omega
        have HP2 : Hid (pl (bt s) s.size p = pl (bt s) s.size (p + wd)) := by
          show _ = _
          unfold pl
          rw [HST2.out, HST3.out, HN.out, if_neg h10]; simp
        have HE1 : Hid (endsTo (bt s) (p + wd) = endsTo (bt s) p) := by show _ = _; rw [HST1.out, if_neg h10]; simp
        have HE2 : Hid (partTo (bt s) s.size (p + wd) = partTo (bt s) s.size p) := by show _ = _; rw [HST3.out, HN.out]; simp
        go_wp2_with fail
        go_roundg (s.size - (p + wd))
        case measure => omega
        case rel =>
          refine ⟨p + wd, v1, v2, hle, rfl, ?_, ?_⟩
          · rw [← HP2.out]
          · show Y _ _ _ _ _ _ _ _ _
            rw [HE1.out, HE2.out]
            exact HY1.out
    · obtain rfl : p = s.size := by omega
      have hnext := fun ty => Lib.run_next_end_at (P := Try.prog) wr (w.heap.size + 2) s s.size ty hY.out.it (by omega)
      have hel := endsTo_len (bt s) s.size
      have HL := Lib.hid (ends_last (bt s) s.size)
      obtain ⟨a1, c1, rfl, hc1, hi1⟩ := hY.out.o1.ints
      obtain ⟨a2, c2, rfl, hc2, hi2⟩ := hY.out.o2.ints
      have hsz1 := hY.out.sz
      obtain ⟨q0, q1, q2, q3⟩ := two_cells hY.out.l
      have HY := hY
      have HI1 := Lib.hid hi1
      clear hY hi1 hi2 hlt hg hp
      by_cases hL : (endsTo (bt s) s.size).length = 0
      · have he : endsTo (bt s) s.size = [] := List.eq_nil_of_length_eq_zero hL
        have HE : Hid (endsAll (bt s) s.size = [] ++ [((s.size : Nat) : Int)]) := by
          show _ = _
          unfold endsAll lastEnd
          rw [if_pos (HL.out.1 (.inl hL)), he]
        have HYE : Hid (Y w.heap.size w wr s s.size (.slice a1 0 c1) (.slice a2 (partTo (bt s) s.size s.size).length c2) [] (partTo (bt s) s.size s.size)) := by
          have h := HY.out
          rw [he] at h
          exact h
        rw [he] at q0
        replace q0 : wr.cell? ⟨w.heap.size + 1, 0, none⟩ = some (.slice a1 0 c1) := q0
        clear HL HI1 HY hL he hel hc1
        go_upto_region 19 with (at_builtin; refine wpList_int _ rfl (.tmp 74) (.tmp 77) rfl (w.heap.size + 3) _ [] rfl (HYE.out.o1.later (below_alloc _ _)) (by simp; omega) wr.heap.size ((s.size : Nat) : Int) rfl (by simp) (by simp) ?_; intro v3 w3 hown3 hgrow3 hat3; obtain ⟨a3, c3, rfl, hc3, _⟩ := Own.ints hown3; have HAT := Lib.hid hat3; have HO3 := Lib.hid hown3; have HG3 := Lib.hid hgrow3; clear hat3 hown3; obtain ⟨k0, k1, k2, k3⟩ := two_cells (HYE.out.blk1 hgrow3))
        have hY2 := HYE.out.app1 HO3.out HG3.out HAT.out
        have hlen : ([] ++ [((s.size : Nat) : Int)]).length = 1 := rfl
        rw [hlen, ← HE.out] at hY2
        replace hY2 : Y w.heap.size w (w3.setCell ⟨w.heap.size + 1, 0, none⟩ (.slice a3 1 c3)) s s.size (.slice a3 1 c3) (.slice a2 (partTo (bt s) s.size s.size).length c2) (endsAll (bt s) s.size) (partTo (bt s) s.size s.size) := hY2
        obtain ⟨W3, hW3⟩ : ∃ W3, W3 = w3.setCell ⟨w.heap.size + 1, 0, none⟩ (.slice a3 1 c3) := ⟨_, rfl⟩
        rw [← hW3] at hY2 ⊢
        clear hW3 k0 k1 k2 k3 hgrow3 HO3 HG3 HAT q0 q1 q2 q3 hnext
        obtain ⟨q0, q1, q2, q3⟩ := two_cells hY2.l
        obtain ⟨r0, r1, r2, r3⟩ := two_cells hY2.r
        have HY2 := Lib.hid hY2
        clear hY2
        go_wp2_with fail
        obtain ⟨y1, y2, y3, y4⟩ := HY2.out.ret
        obtain ⟨z0, z1, _, _⟩ := two_cells y4
        exact bodyPost_ret (v := .agg #[_, _]) (by simp [results, Try.results30, go_sem, z0, z1]) rfl ⟨_, _, _, rfl, y1, y2, y3⟩
      · obtain ⟨b1, o1, rfl, hcell⟩ := HI1.out (by omega)
        have t0 : (((endsTo (bt s) s.size).length : Int) == 0) = false := by rw [beq_eq_false_iff_ne]; omega
        have c9 := hcell ((endsTo (bt s) s.size).length - 1) (by omega)
        obtain ⟨x, hx⟩ : ∃ x, x = (endsTo (bt s) s.size).getD ((endsTo (bt s) s.size).length - 1) 0 := ⟨_, rfl⟩
        rw [← hx] at c9
        have hki : (((endsTo (bt s) s.size).length : Int) - 1).toNat = (endsTo (bt s) s.size).length - 1 := by omega
        by_cases hxl : x < (s.size : Int)
        · have HW : Hid (lastEnd (bt s) s.size = [(s.size : Int)]) := by
            show _ = _
            unfold lastEnd
            rw [if_pos (HL.out.1 (.inr (by rw [← hx]; exact hxl)))]
          have d1 : decide (x < (s.size : Int)) = true := by simp [hxl]
          clear hcell hx HI1
          have HE : Hid (endsAll (bt s) s.size = endsTo (bt s) s.size ++ [((s.size : Nat) : Int)]) := by show _ = _; unfold endsAll; rw [HW.out]
          go_upto_region 19 with (at_builtin; refine wpList_int _ rfl (.tmp 74) (.tmp 77) rfl (w.heap.size + 3) _ (endsTo (bt s) s.size) rfl (HY.out.o1.later (below_alloc _ _)) (by simp; omega) wr.heap.size ((s.size : Nat) : Int) rfl (by simp) (by omega) ?_; intro v3 w3 hown3 hgrow3 hat3; obtain ⟨a3, c3, rfl, hc3, _⟩ := Own.ints hown3; have HAT := Lib.hid hat3; have HO3 := Lib.hid hown3; have HG3 := Lib.hid hgrow3; clear hat3 hown3; obtain ⟨k0, k1, k2, k3⟩ := two_cells (HY.out.blk1 hgrow3))
          have hY2 := HY.out.app1 HO3.out HG3.out HAT.out
          have hlen : (endsTo (bt s) s.size ++ [((s.size : Nat) : Int)]).length = (endsTo (bt s) s.size).length + 1 := by simp
          rw [hlen, ← HE.out] at hY2
          obtain ⟨W3, hW3⟩ : ∃ W3, W3 = w3.setCell ⟨w.heap.size + 1, 0, none⟩ (.slice a3 ((endsTo (bt s) s.size).length + 1) c3) := ⟨_, rfl⟩
          rw [← hW3] at hY2 ⊢
          clear hW3 k0 k1 k2 k3 hgrow3 HO3 HG3 HAT q0 q1 q2 q3 hnext
          obtain ⟨q0, q1, q2, q3⟩ := two_cells hY2.l
          obtain ⟨r0, r1, r2, r3⟩ := two_cells hY2.r
          have HY2 := Lib.hid hY2
          clear hY2
          go_wp2_with fail
          obtain ⟨y1, y2, y3, y4⟩ := HY2.out.ret
          obtain ⟨z0, z1, _, _⟩ := two_cells y4
          exact bodyPost_ret (v := .agg #[_, _]) (by simp [results, Try.results30, go_sem, z0, z1]) rfl ⟨_, _, _, rfl, y1, y2, y3⟩
        · have HE : Hid (endsAll (bt s) s.size = endsTo (bt s) s.size) := by
            show _ = _
            unfold endsAll lastEnd
            rw [if_neg (fun h => by
              rcases HL.out.2 h with h1 | h1
              · omega
              · rw [← hx] at h1; omega)]
            simp
          have d1 : decide (x < (s.size : Int)) = false := by simp; omega
          clear hcell hx HI1
          go_upto_region 19 with fail
          have hY2 := HY.out
          have HE9 := HE
          clear q0 q1 q2 q3 hnext
          obtain ⟨q0, q1, q2, q3⟩ := two_cells hY2.l
          obtain ⟨r0, r1, r2, r3⟩ := two_cells hY2.r
          have HY2 := Lib.hid hY2
          clear hY2
          go_wp2_with fail
          obtain ⟨y1, y2, y3, y4⟩ := HY2.out.ret
          obtain ⟨z0, z1, _, _⟩ := two_cells y4
          exact bodyPost_ret (v := .agg #[.slice (some ⟨b1, o1, none⟩) (endsTo (bt s) s.size).length c1, .slice a2 (partTo (bt s) s.size s.size).length c2]) (by simp [results, Try.results30, go_sem, z0, z1]) rfl ⟨_, _, w.heap.size + 3, rfl, (by rw [HE9.out]; exact y1), y2, y3⟩
end Go.Proofs.Qxb6603337a

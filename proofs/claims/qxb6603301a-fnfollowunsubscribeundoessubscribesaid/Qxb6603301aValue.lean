/-
  THE WALK of buildValue.
-/
import Derived.Test.Qxb6603301aElems
namespace Go.Proofs.Qxb6603301a
open Go.RowKit Go.Maps
set_option linter.unusedVariables false

/-- element j of a row of Values; its text's bytes lie in the world w0 -/
def VAt (w0 w : World) (b off j : Nat) (E : El) : Prop :=
  ∃ sa sc, w.cell? ⟨b, off + j * 4, none⟩ = some (.int .u8 E.kind) ∧ w.cell? ⟨b, off + j * 4 + 1, none⟩ = some (.slice sa E.len sc) ∧ w.cell? ⟨b, off + j * 4 + 2, none⟩ = some (.int .i64 E.num) ∧
    w.cell? ⟨b, off + j * 4 + 3, none⟩ = some (.slice none 0 0) ∧ E.len ≤ sc ∧ BytesAt w0 sa E.len E.txt

theorem VAt.later {w0 w w' : World} {b off j : Nat} {E : El} (h : VAt w0 w b off j E) (hb : Below w.heap.size w w') : VAt w0 w' b off j E := by
  obtain ⟨sa, sc, h1, h2, h3, h4, h5, h6⟩ := h
  exact ⟨sa, sc, cellLater hb h1, cellLater hb h2, cellLater hb h3, cellLater hb h4, h5, h6⟩
theorem VAt.setCell {w0 w : World} {b off j : Nat} {E : El} (h : VAt w0 w b off j E) {x : Addr} (hx : x.block = b → x.spot = none → off + j * 4 + 3 < x.off) (u : Value) : VAt w0 (w.setCell x u) b off j E := by
  obtain ⟨sa, sc, h1, h2, h3, h4, h5, h6⟩ := h
  refine ⟨sa, sc, ?_, ?_, ?_, ?_, h5, h6⟩
  · rw [World.cell?_setCell_other _ _ _ _ (by intro e; rw [e] at hx; simp at hx; omega)]; exact h1
  · rw [World.cell?_setCell_other _ _ _ _ (by intro e; rw [e] at hx; simp at hx)]; exact h2
  · rw [World.cell?_setCell_other _ _ _ _ (by intro e; rw [e] at hx; simp at hx)]; exact h3
  · rw [World.cell?_setCell_other _ _ _ _ (by intro e; rw [e] at hx; simp at hx)]; exact h4

def VsAt (B : Nat) (w : World) (a : Option Addr) (n : Nat) (E : Nat → El) : Prop :=
  0 < n → ∃ b off, B ≤ b ∧ a = some ⟨b, off, none⟩ ∧ ∀ j, j < n → VAt w w b off j (E j)

theorem VsAt.later {B : Nat} {w w' : World} {a : Option Addr} {n : Nat} {E : Nat → El} (h : VsAt B w a n E) (hb : Below w.heap.size w w') : VsAt B w' a n E := fun h0 => by
  obtain ⟨b, off, h1, e, hc⟩ := h h0
  refine ⟨b, off, h1, e, fun j hj => ?_⟩
  obtain ⟨sa, sc, h1, h2, h3, h4, h5, h6⟩ := (hc j hj).later hb
  exact ⟨sa, sc, h1, h2, h3, h4, h5, h6.later hb⟩

theorem Try.info51 : (Try.prog.info? 51).map (fun i => (i.zero, i.size, i.bytes)) = some (some (.agg #[.int .u8 0, .slice none 0 0, .int .i64 0, .slice none 0 0]), 4, 64) := by kernel_rfl

set_option maxHeartbeats 1000000 in
theorem buildValue_any (w : World) (k : Int) (sa : Option Addr) (sn sc : Nat) (m : Int) (ea : Option Addr) (en ec : Nat) (E : Nat → El)
    (he : ea = none → en = 0 ∧ ec = 0) (hen : en ≤ 1048576) (hE : ElsAt 0 w ea en E) :
    Calls Try.prog 15 #[.agg #[.int .u8 k, .slice sa sn sc, .int .i64 m, .slice ea en ec]] w fun e w' => ∃ va, e = .returned (.agg #[.int .u8 k, .slice sa sn sc, .int .i64 m, .slice va en en]) ∧ VsAt w.heap.size w' va en E ∧ Below w.heap.size w w' := by
  cases ea with
  | none =>
    obtain ⟨rfl, rfl⟩ := he rfl
    have hnil := fun (wx : World) => run_neq_slice_nil_any (P := Try.prog) wx 29 55 none 0 0 0 0 Try.underlying29
    go_enter Try.func15, Try.ntmps15
    go_wp2_with fail
    refine (zzvalue_any _ _ _ _ _ _ _ _ _).mono ?_
    rintro e w1 ⟨rfl, hb1⟩
    obtain ⟨hcc, hff⟩ := bcell hb1
    have hz := hb1.size
    simp only [World.size_alloc] at hz
    have hz1 : w.heap.size + 1 < w1.heap.size := by omega
    go_wp2_with fail
    refine bodyPost_ret (v := .agg #[.int .u8 k, .slice sa sn sc, .int .i64 m, .slice none 0 0]) ?_ rfl ?_
    · simp [results, Try.results15, go_sem, hcc]
    · refine ⟨none, rfl, fun h => by omega, ?_⟩
      iterate 4 refine Below.setCell ?_ (by simp) _
      exact (((Below.refl _ _).alloc (Nat.le_refl _) _).alloc (by simp) _).trans (hb1.mono (by simp; omega))
  | some x =>
    obtain ⟨i0, hi, hz0, hz1, hz2⟩ := info_parts Try.info51
    have hnil := fun (wx : World) => run_neq_slice_nil_any (P := Try.prog) wx 29 55 (some x) en ec 0 0 Try.underlying29
    go_enter Try.func15, Try.ntmps15
    go_wp2_with (at_make; refine wpList_make_full _ rfl (.tmp 11) (.tmp 11) 49 rfl (w.heap.size + 2) 51 i0 (.agg #[.int .u8 0, .slice none 0 0, .int .i64 0, .slice none 0 0]) 4 Try.underlying49 hi hz0 hz1 .i64 .i64 en en en rfl rfl rfl rfl (by rw [hz2]; omega) (by unfold maxLen; omega) (by simp) ?_; intro w1 hown hgrow)
    have HS1 : Hid (w1.heap[w.heap.size]? = some (.cells #[.int .u8 k, .slice sa sn sc, .int .i64 m, .slice (some x) en ec] 31 (0, 0))) := by
      refine (hgrow.block _ (by simp; omega) (by simp)).trans ?_
      rw [Below.heap_alloc _ _ _ (by simp)]; exact heap_new_at _ _ rfl
    have HR1 : Hid (w1.heap[w.heap.size + 1]? = some (.cells #[.int .u8 0, .slice none 0 0, .int .i64 0, .slice none 0 0] 51 (0, 0))) := by
      refine (hgrow.block _ (by simp) (by simp)).trans ?_
      exact heap_new_at _ _ (by simp)
    have HG1 : Hid (∃ cur : Array Value, w1.heap[w.heap.size + 1 + 1]? = some (.cells cur 51 (0, 0)) ∧ cur.size = en * 4) := by
      rcases hown.2 with ⟨h', _⟩ | ⟨g', cap', cur, h', _, hg, _, _, hcs, _⟩
      · simp at h'
      · simp only [Value.slice.injEq, Option.some.injEq, Addr.mk.injEq, and_true, true_and] at h'
        obtain ⟨rfl, rfl⟩ := h'
        exact ⟨cur, by simpa using hg, hcs⟩
    have HB1 : Hid (Below w.heap.size w w1) := (((Below.refl _ _).alloc (Nat.le_refl _) _).alloc (by simp) _).grown hgrow (by simp; omega) (by simp)
    clear hgrow hown
    go_loopg [4, 5] en (fun g t _ wr => ∃ (q : Nat) (cur : Array Value), q ≤ en ∧ g = en - q ∧ t = .int .i64 q ∧
      wr.heap[w.heap.size]? = some (.cells #[.int .u8 k, .slice sa sn sc, .int .i64 m, .slice (some x) en ec] 31 (0, 0)) ∧
      wr.heap[w.heap.size + 1]? = some (.cells #[.int .u8 0, .slice none 0 0, .int .i64 0, .slice none 0 0] 51 (0, 0)) ∧
      wr.heap[w.heap.size + 1 + 1]? = some (.cells cur 51 (0, 0)) ∧ cur.size = en * 4 ∧ (∀ j, j < q → VAt w wr (w.heap.size + 1 + 1) 0 j (E j)) ∧ Below w.heap.size w wr)
    case atStart =>
      obtain ⟨cur, h1, h2⟩ := HG1.out
      exact ⟨0, cur, Nat.zero_le _, rfl, rfl, HS1.out, HR1.out, h1, h2, fun j hj => by omega, HB1.out⟩
    case round =>
      obtain ⟨q, cur, hq, hg, rfl, hS, hR, hG, hcur, hV, hbr⟩ := hrel
      have cS : wr.cell? ⟨w.heap.size, 3, none⟩ = some (.slice (some x) en ec) := cell_of_row wr _ 3 _ _ _ hS
      have hlg : w.heap.size + 1 + 1 < wr.heap.size := lt_of_block hG
      by_cases hlt : q < en
      · obtain ⟨b, off, _, ex, hEs⟩ := hE (by omega)
        obtain rfl : x = ⟨b, off, none⟩ := by simpa using ex
        obtain ⟨ya, yc, y1, y2, y3, y4, y5, y6⟩ := hEs q hlt
        replace y1 := cellLater hbr y1
        replace y2 := cellLater hbr y2
        replace y3 := cellLater hbr y3
        have HS2 : Hid (wr.heap[w.heap.size]? = some (.cells #[.int .u8 k, .slice sa sn sc, .int .i64 m, .slice (some ⟨b, off, none⟩) en ec] 31 (0, 0))) := hS
        have HR2 : Hid (wr.heap[w.heap.size + 1]? = some (.cells #[.int .u8 0, .slice none 0 0, .int .i64 0, .slice none 0 0] 51 (0, 0))) := hR
        have HG2 : Hid (wr.heap[w.heap.size + 1 + 1]? = some (.cells cur 51 (0, 0))) := hG
        have HV : Hid (∀ j, j < q → VAt w wr (w.heap.size + 1 + 1) 0 j (E j)) := hV
        clear hS hR hG hEs ex HS1 HR1 HG1 HB1 hV
        go_wp2_with fail
        refine (zzvalue_any _ _ _ _ _ _ _ _ _).mono ?_
        rintro e w2 ⟨rfl, hb2⟩
        have hb3 : Below wr.heap.size wr w2 := ((Below.refl _ _).alloc (Nat.le_refl _) _).trans (hb2.mono (by simp))
        have hz2 := hb3.size
        have hG3 : w2.heap[w.heap.size + 1 + 1]? = some (.cells cur 51 (0, 0)) := (hb3.block _ hlg).trans HG2.out
        have HG3 : Hid (w2.heap[w.heap.size + 1 + 1]? = some (.cells cur 51 (0, 0))) := hG3
        have hcell : ∀ j, j < 4 → (∃ v, w2.cell? ⟨w.heap.size + 1 + 1, q * 4 + j, none⟩ = some v) ∧ w2.frozen? ⟨w.heap.size + 1 + 1, q * 4 + j, none⟩ = false := by
          intro j hj
          refine ⟨⟨cur[q * 4 + j]'(by omega), ?_⟩, frozen_of_row w2 _ _ _ _ hG3⟩
          rw [cell_of_row w2 _ _ _ _ _ hG3]; simp
        obtain ⟨⟨g0, c0⟩, f0⟩ := hcell 0 (by omega)
        obtain ⟨⟨g1, c1⟩, f1⟩ := hcell 1 (by omega)
        obtain ⟨⟨g2, c2⟩, f2⟩ := hcell 2 (by omega)
        obtain ⟨⟨g3, c3⟩, f3⟩ := hcell 3 (by omega)
        simp only [Nat.add_zero] at c0 f0
        clear hcell hG3 cS y1 y2 y3
        go_wp2_with fail
        go_roundg (en - (q + 1))
        case measure => omega
        case rel =>
          have g1' := heap_setCell_same w2 (w.heap.size + 1 + 1) (q * 4) _ 51 (.int .u8 (E q).kind) HG3.out
          have g2' := heap_setCell_same _ (w.heap.size + 1 + 1) (q * 4 + 1) _ 51 (.slice ya (E q).len yc) g1'
          have g3' := heap_setCell_same _ (w.heap.size + 1 + 1) (q * 4 + 2) _ 51 (.int .i64 (E q).num) g2'
          have g4' := heap_setCell_same _ (w.heap.size + 1 + 1) (q * 4 + 3) _ 51 (.slice none 0 0) g3'
          refine ⟨q + 1, _, by omega, rfl, by go_num, ?_, ?_, g4', by simp [hcur], ?_, ?_⟩
          · rw [heap_setCell_other _ _ _ _ (by simp; omega), heap_setCell_other _ _ _ _ (by simp; omega), heap_setCell_other _ _ _ _ (by simp; omega), heap_setCell_other _ _ _ _ (by simp; omega)]
            exact (hb3.block _ (by omega)).trans HS2.out
          · rw [heap_setCell_other _ _ _ _ (by simp), heap_setCell_other _ _ _ _ (by simp), heap_setCell_other _ _ _ _ (by simp), heap_setCell_other _ _ _ _ (by simp)]
            exact (hb3.block _ (by omega)).trans HR2.out
          · intro j hj
            by_cases hjq : j = q
            · subst hjq
              refine ⟨ya, yc, ?_, ?_, ?_, ?_, y5, y6.at⟩
              · rw [Nat.zero_add, World.cell?_setCell_other _ _ _ _ (by simp), World.cell?_setCell_other _ _ _ _ (by simp), World.cell?_setCell_other _ _ _ _ (by simp), World.cell?_setCell_same _ _ _ c0]
              · rw [Nat.zero_add, World.cell?_setCell_other _ _ _ _ (by simp), World.cell?_setCell_other _ _ _ _ (by simp)]
                refine World.cell?_setCell_same _ _ _ (u := g1) ?_
                rw [World.cell?_setCell_other _ _ _ _ (by simp)]; exact c1
              · rw [Nat.zero_add, World.cell?_setCell_other _ _ _ _ (by simp)]
                refine World.cell?_setCell_same _ _ _ (u := g2) ?_
                rw [World.cell?_setCell_other _ _ _ _ (by simp), World.cell?_setCell_other _ _ _ _ (by simp)]; exact c2
              · rw [Nat.zero_add]
                refine World.cell?_setCell_same _ _ _ (u := g3) ?_
                rw [World.cell?_setCell_other _ _ _ _ (by simp), World.cell?_setCell_other _ _ _ _ (by simp), World.cell?_setCell_other _ _ _ _ (by simp)]; exact c3
            · have h1 := (HV.out j (by omega)).later hb3
              exact (((h1.setCell (by intro _ _; simp; omega) _).setCell (by intro _ _; simp; omega) _).setCell (by intro _ _; simp; omega) _).setCell (by intro _ _; simp; omega) _
          · exact ((((below_step hbr (Nat.le_refl _) hb3).setCell (by simp; omega) _).setCell (by simp; omega) _).setCell (by simp; omega) _).setCell (by simp; omega) _
      · obtain rfl : q = en := by omega
        have b0 : wr.cell? ⟨w.heap.size, 0, none⟩ = some (.int .u8 k) := cell_of_row wr _ 0 _ _ _ hS
        have b1 : wr.cell? ⟨w.heap.size, 1, none⟩ = some (.slice sa sn sc) := cell_of_row wr _ 1 _ _ _ hS
        have b2 : wr.cell? ⟨w.heap.size, 2, none⟩ = some (.int .i64 m) := cell_of_row wr _ 2 _ _ _ hS
        have HR2 : Hid (wr.heap[w.heap.size + 1]? = some (.cells #[.int .u8 0, .slice none 0 0, .int .i64 0, .slice none 0 0] 51 (0, 0))) := hR
        have HV : Hid (∀ j, j < q → VAt w wr (w.heap.size + 1 + 1) 0 j (E j)) := hV
        clear hS hR hG HS1 HR1 HG1 HB1 hV
        go_wp2_with fail
        refine (zzvalue_any _ _ _ _ _ _ _ _ _).mono ?_
        rintro e w3 ⟨rfl, hb3⟩
        have hR3 : w3.heap[w.heap.size + 1]? = some (.cells #[.int .u8 0, .slice none 0 0, .int .i64 0, .slice none 0 0] 51 (0, 0)) := (hb3.block _ (by omega)).trans HR2.out
        have r0 : w3.cell? ⟨w.heap.size + 1, 0, none⟩ = some (.int .u8 0) := cell_of_row w3 _ 0 _ _ _ hR3
        have z0 : w3.frozen? ⟨w.heap.size + 1, 0, none⟩ = false := frozen_of_row w3 _ 0 _ _ hR3
        have r1 : w3.cell? ⟨w.heap.size + 1, 1, none⟩ = some (.slice none 0 0) := cell_of_row w3 _ 1 _ _ _ hR3
        have z1 : w3.frozen? ⟨w.heap.size + 1, 1, none⟩ = false := frozen_of_row w3 _ 1 _ _ hR3
        have r2 : w3.cell? ⟨w.heap.size + 1, 2, none⟩ = some (.int .i64 0) := cell_of_row w3 _ 2 _ _ _ hR3
        have z2 : w3.frozen? ⟨w.heap.size + 1, 2, none⟩ = false := frozen_of_row w3 _ 2 _ _ hR3
        have r3 : w3.cell? ⟨w.heap.size + 1, 3, none⟩ = some (.slice none 0 0) := cell_of_row w3 _ 3 _ _ _ hR3
        have z3 : w3.frozen? ⟨w.heap.size + 1, 3, none⟩ = false := frozen_of_row w3 _ 3 _ _ hR3
        clear hR3 b0 b1 b2 cS
        go_wp2_with fail
        refine bodyPost_ret (v := .agg #[.int .u8 k, .slice sa sn sc, .int .i64 m, .slice (some ⟨w.heap.size + 1 + 1, 0, none⟩) q q]) ?_ rfl ?_
        · simp [results, Try.results15, go_sem, r0, r1, r2, r3]
        · refine ⟨some ⟨w.heap.size + 1 + 1, 0, none⟩, rfl, fun _ => ⟨w.heap.size + 1 + 1, 0, by omega, rfl, fun j hj => ?_⟩, ?_⟩
          · have h1 := (HV.out j hj).later hb3
            have h2 := (((h1.setCell (x := ⟨w.heap.size + 1, 0, none⟩) (by intro h; simp at h) (.int .u8 k)).setCell (x := ⟨w.heap.size + 1, 1, none⟩) (by intro h; simp at h) (.slice sa sn sc)).setCell (x := ⟨w.heap.size + 1, 2, none⟩) (by intro h; simp at h) (.int .i64 m)).setCell (x := ⟨w.heap.size + 1, 3, none⟩) (by intro h; simp at h) (.slice (some ⟨w.heap.size + 1 + 1, 0, none⟩) q q)
            obtain ⟨ta, tc, t1, t2, t3, t4, t5, t6⟩ := h2
            refine ⟨ta, tc, t1, t2, t3, t4, t5, t6.later ?_⟩
            iterate 4 refine Below.setCell ?_ (by simp) _
            exact below_step hbr (Nat.le_refl _) hb3
          · iterate 4 refine Below.setCell ?_ (by simp) _
            exact below_step hbr (Nat.le_refl _) hb3
end Go.Proofs.Qxb6603301a

/-
  THE WALKS of follow where the family's map is nil; ZZFollow.
-/
import Derived.Test.Qxb6603301aFollow
namespace Go.Proofs.Qxb6603301a
open Go.RowKit Go.Maps
set_option linter.unusedVariables false

set_option maxHeartbeats 1000000 in
theorem follow_unsub_nil (w : World) (sb kb F : Nat) (nm : ByteArray) (mv : Nat → Value) (k m : Int) (sa : Option Addr) (sn sc : Nat) (va : Option Addr) (en vc : Nat) (E : Nat → El) (hen : 2 ≤ en) (hF : F < 3)
    (hsb : w.heap[sb]? = some (.cells (three mv) 42 (0, 0))) (hkb : w.heap[kb]? = some (.cells #[.string nm, .int .u8 F, .int .u8 2] 67 (0, 0))) (hV : VsAt 0 w va en E) (hE : ElOk (E 1)) (hm : mv F = .map none) :
    Calls Try.prog 25 #[.pointer (some ⟨sb, 0, none⟩), .pointer (some ⟨kb, 0, none⟩), .agg #[.int .u8 k, .slice sa sn sc, .int .i64 m, .slice va en vc]] w fun e w' => e = .returned (.tuple #[]) ∧
      Below w.heap.size w w' := by
  have k1 : w.cell? ⟨kb, 1, none⟩ = some (.int .u8 F) := cell_of_row w _ 1 _ _ _ hkb
  have k2 : w.cell? ⟨kb, 2, none⟩ = some (.int .u8 2) := cell_of_row w _ 2 _ _ _ hkb
  have s1 : w.cell? ⟨sb, F, none⟩ = some (.map none) := by rw [← hm]; exact (cell_of_row w _ F _ _ _ hsb).trans (three_get mv F hF)
  obtain ⟨vb, vo, _, rfl, hvs⟩ := hV (by omega)
  obtain ⟨ya, yc, y1, y2, y3, y4, y5, y6⟩ := hvs 1 (by omega)
  have hnil := fun (wx : World) => run_eql_map_nil (P := Try.prog) wx 40 9 63 none Try.underlying40
  have HSB : Hid (w.heap[sb]? = some (.cells (three mv) 42 (0, 0))) := hsb
  have HM : Hid (mv F = .map none) := hm
  clear hkb hsb hm hvs hV
  go_enter Try.func25, Try.ntmps25
  go_wp2_with (go_at_call 28; refine (vElems_any _ _ _ _ _ _ _).mono ?_; rintro e w1 ⟨rfl, hb1⟩; have hb2 := (((Below.refl w.heap.size w).alloc (Nat.le_refl _) _).trans (hb1.mono (by simp))); have k11 := cellLater hb2 k1; have k21 := cellLater hb2 k2; have s11 := cellLater hb2 s1)
  go_quiet (fail)
  go_wp2_with fail
  have hbW : Below w.heap.size w (w1.drewN nq) := below_drewN hb2 nq
  generalize w1.drewN nq = W at *
  have q0 : W.cell? ⟨vb, vo + 4, none⟩ = some (.int .u8 (E 1).kind) := cellLater hbW y1
  have q1 : W.cell? ⟨vb, vo + 4 + 1, none⟩ = some (.slice ya (E 1).len yc) := cellLater hbW y2
  have q2 : W.cell? ⟨vb, vo + 4 + 2, none⟩ = some (.int .i64 (E 1).num) := cellLater hbW y3
  have q3 : W.cell? ⟨vb, vo + 4 + 3, none⟩ = some (.slice none 0 0) := cellLater hbW y4
  have q4 : W.cell? ⟨sb, F, none⟩ = some (.map none) := cellLater hbW s1
  have y6W := y6.later hbW
  have hkey := key_of _ (elName_size (E 1) hE)
  have h2en : (1 : Int) < (en : Int) := by omega
  clear hb1 hb2 k11 k21 s11 y1 y2 y3 y4 y6 k1 k2 s1 hnil
  go_region_held (fun w' => w'.cell? ⟨vb, vo + 4, none⟩ = some (.int .u8 (E 1).kind) ∧ w'.cell? ⟨vb, vo + 4 + 1, none⟩ = some (.slice ya (E 1).len yc) ∧ w'.cell? ⟨vb, vo + 4 + 2, none⟩ = some (.int .i64 (E 1).num) ∧ w'.cell? ⟨vb, vo + 4 + 3, none⟩ = some (.slice none 0 0) ∧ w'.cell? ⟨sb, F, none⟩ = some (.map none)) (go_keep)
    ((go_at_call 29; refine (vBytes_any _ _ _ _ _ _ _ hE.1 hE.2).mono ?_; rintro e w2 ⟨rfl, hb3⟩; have hb4 : Below W.heap.size W w2 := ((Below.refl W.heap.size W).drew.trans hb3); have t0 := cellLater hb4 q0; have t1 := cellLater hb4 q1; have t2 := cellLater hb4 q2; have t3 := cellLater hb4 q3; have t4 := cellLater hb4 q4; have hcv : (convert 28 9 (.slice (subA (E 1).kind ya yc (E 1).num) ((E 1).len - subO (E 1).kind (E 1).num) (yc - subO (E 1).kind (E 1).num))).run Try.prog w2 = .ok (.string (elName (E 1))) w2 := conv_any (sub_bytes (y6W.later hb4) y5) _; have hrun := Maps.drop_nil (w := w2) law Try.underlying40 hkey 0))
  go_wp2_with fail
  go_end0
  exact ⟨rfl, below_step hbW (Nat.le_refl _) hb4⟩

set_option maxHeartbeats 1000000 in
theorem follow_sub_nil (w : World) (sb kb F : Nat) (nm : ByteArray) (mv : Nat → Value) (k m : Int) (sa : Option Addr) (sn sc : Nat) (va : Option Addr) (en vc : Nat) (E : Nat → El) (hen : 2 ≤ en) (hF : F < 3)
    (hsb : w.heap[sb]? = some (.cells (three mv) 42 (0, 0))) (hkb : w.heap[kb]? = some (.cells #[.string nm, .int .u8 F, .int .u8 1] 67 (0, 0))) (hV : VsAt 0 w va en E) (hE : ElOk (E 1)) (hm : mv F = .map none) (hmap : ∀ j, j < 3 → ∃ r, mv j = .map r) :
    Calls Try.prog 25 #[.pointer (some ⟨sb, 0, none⟩), .pointer (some ⟨kb, 0, none⟩), .agg #[.int .u8 k, .slice sa sn sc, .int .i64 m, .slice va en vc]] w fun e w' => e = .returned (.tuple #[]) ∧
      ∃ b', w.heap.size ≤ b' ∧ w'.heap[sb]? = some (.cells (three (fun i => if i = F then .map (some b') else mv i)) 42 (0, 0)) ∧ w'.ownsMap Try.prog 9 unitElem b' 1 ((DataW.map [] : DataW Unit).put (key (elName (E 1))) (.agg [])) ∧ Keeps (fun x => x = sb) w w' := by
  have k1 : w.cell? ⟨kb, 1, none⟩ = some (.int .u8 F) := cell_of_row w _ 1 _ _ _ hkb
  have k2 : w.cell? ⟨kb, 2, none⟩ = some (.int .u8 1) := cell_of_row w _ 2 _ _ _ hkb
  have s1 : w.cell? ⟨sb, F, none⟩ = some (.map none) := by rw [← hm]; exact (cell_of_row w _ F _ _ _ hsb).trans (three_get mv F hF)
  obtain ⟨vb, vo, _, rfl, hvs⟩ := hV (by omega)
  obtain ⟨ya, yc, y1, y2, y3, y4, y5, y6⟩ := hvs 1 (by omega)
  have hnil := fun (wx : World) => run_eql_map_nil (P := Try.prog) wx 40 9 63 none Try.underlying40
  have HSB : Hid (w.heap[sb]? = some (.cells (three mv) 42 (0, 0))) := hsb
  have HM : Hid (mv F = .map none) := hm
  have hfz : w.frozen? ⟨sb, F, none⟩ = false := frozen_of_row w _ F _ _ hsb
  have hmm := @run_makeMap Try.prog
  have HMAP : Hid (∀ j, j < 3 → ∃ r, mv j = .map r) := hmap
  clear hkb hsb hm hvs hV hmap
  go_enter Try.func25, Try.ntmps25
  go_wp2_with (go_at_call 28; refine (vElems_any _ _ _ _ _ _ _).mono ?_; rintro e w1 ⟨rfl, hb1⟩; have hb2 := (((Below.refl w.heap.size w).alloc (Nat.le_refl _) _).trans (hb1.mono (by simp))); have k11 := cellLater hb2 k1; have k21 := cellLater hb2 k2; have s11 := cellLater hb2 s1; have z11 := (hb2.frozen (p := ⟨sb, F, none⟩) (World.block_lt_of_cell? _ _ s1)).trans hfz; have hsl := Nat.lt_of_lt_of_le (World.block_lt_of_cell? _ _ s1) hb2.size)
  go_quiet (fail)
  have hbW : Below w.heap.size w (w1.drewN nq) := below_drewN hb2 nq
  have kW1 : (w1.drewN nq).cell? ⟨kb, 1, none⟩ = some (.int .u8 F) := cellLater hbW k1
  have kW2 : (w1.drewN nq).cell? ⟨kb, 2, none⟩ = some (.int .u8 1) := cellLater hbW k2
  generalize w1.drewN nq = W at *
  have q0 : W.cell? ⟨vb, vo + 4, none⟩ = some (.int .u8 (E 1).kind) := cellLater hbW y1
  have q1 : W.cell? ⟨vb, vo + 4 + 1, none⟩ = some (.slice ya (E 1).len yc) := cellLater hbW y2
  have q2 : W.cell? ⟨vb, vo + 4 + 2, none⟩ = some (.int .i64 (E 1).num) := cellLater hbW y3
  have q3 : W.cell? ⟨vb, vo + 4 + 3, none⟩ = some (.slice none 0 0) := cellLater hbW y4
  have q4 : W.cell? ⟨sb, F, none⟩ = some (.map none) := cellLater hbW s1
  have hsW : sb < W.heap.size := World.block_lt_of_cell? _ _ q4
  have hvW : vb < W.heap.size := World.block_lt_of_cell? _ _ q0
  have zW : W.frozen? ⟨sb, F, none⟩ = false := (hbW.frozen (p := ⟨sb, F, none⟩) (World.block_lt_of_cell? _ _ s1)).trans hfz
  have n2 : vb ≠ sb := by
    intro e
    have h1 := (cell_of_row w sb (vo + 1 * 4) _ _ _ HSB.out)
    rw [← e, y1] at h1
    have h2 : vo + 1 * 4 < 3 := by
      have := Array.getElem?_eq_some_iff.1 h1.symm
      obtain ⟨h, _⟩ := this
      simpa [three] using h
    omega
  have y6W := y6.later hbW
  have hkey := key_of _ (elName_size (E 1) hE)
  have h2en : (1 : Int) < (en : Int) := by omega
  have HO : Hid ((W.alloc (.map #[] 0)).ownsMap Try.prog 9 unitElem W.heap.size 0 (.map [] : DataW Unit)) := World.ownsMap_made _ _ _ _
  clear hb1 hb2 k11 k21 s11 z11 hsl y1 y2 y3 y4 y6 k1 k2 s1 hfz
  go_wp2_with fail
  obtain ⟨W2, hW2⟩ : ∃ W2, W2 = (W.setCell ⟨sb, F, none⟩ (.map (some W.heap.size))).alloc (.map #[] 0) := ⟨_, rfl⟩
  rw [← hW2]
  have hcl : ∀ b o v, b ≠ sb → W.cell? ⟨b, o, none⟩ = some v → W2.cell? ⟨b, o, none⟩ = some v := by
    intro b o v hb h
    rw [hW2]
    refine cellLater ((Below.refl _ _).alloc (Nat.le_refl _) _) ?_
    rw [World.cell?_setCell_other _ _ _ _ (by intro e; apply hb; cases e; rfl)]; exact h
  have p0 := hcl _ _ _ n2 q0
  have p1 := hcl _ _ _ n2 q1
  have p2 := hcl _ _ _ n2 q2
  have p3 := hcl _ _ _ n2 q3
  have p4 : W2.cell? ⟨sb, F, none⟩ = some (.map (some W.heap.size)) := by rw [hW2]; exact cellLater ((Below.refl _ _).alloc (Nat.le_refl _) _) (World.cell?_setCell_same _ _ _ q4)
  have hown : W2.ownsMap Try.prog 9 unitElem W.heap.size 0 (.map [] : DataW Unit) := by
    rw [hW2]
    have h := World.ownsMap_made (H := Unit) (W.setCell ⟨sb, F, none⟩ (.map (some W.heap.size))) Try.prog 9 unitElem
    have e : (W.setCell ⟨sb, F, none⟩ (.map (some W.heap.size))).heap.size = W.heap.size := by simp [World.setCell]
    rw [e] at h; exact h
  have hkW : Keeps (fun x => x = sb) w W2 := by
    rw [hW2]
    exact (Keeps.setCell (S := fun x => x = sb) (a := ⟨sb, F, none⟩) (Keeps.of_below hbW) rfl _).trans (Keeps.of_below ((Below.refl _ _).alloc (Nat.le_refl _) _))
  have HSB2 : Hid (W2.heap[sb]? = some (.cells (three (fun i => if i = F then .map (some W.heap.size) else mv i)) 42 (0, 0))) := by
    show _ = _
    rw [hW2, ← three_set mv F hF, Below.heap_alloc _ _ _ (by simpa [World.setCell] using hsW)]
    refine heap_setCell_same _ sb F _ 42 _ ?_
    exact (hbW.block _ (lt_of_block HSB.out)).trans HSB.out
  have y6W2 : BytesAt W2 ya (E 1).len (E 1).txt := by
    intro h0
    obtain ⟨tb, tof, e, hc⟩ := y6W h0
    refine ⟨tb, tof, e, fun i hi => ?_⟩
    by_cases hts : tb = sb
    · exfalso
      have h1 := hc i hi
      have hs2 : W.heap[sb]? = some (.cells (three mv) 42 (0, 0)) := (hbW.block _ (lt_of_block HSB.out)).trans HSB.out
      rw [hts, cell_of_row W sb _ _ _ _ hs2] at h1
      have h3 : tof + i < 3 := by
        obtain ⟨h, _⟩ := Array.getElem?_eq_some_iff.1 h1
        simpa [three] using h
      rw [three_get mv _ h3] at h1
      obtain ⟨r, hr⟩ := HMAP.out _ h3
      rw [hr] at h1; simp at h1
    · exact hcl _ _ _ hts (hc i hi)
  clear hcl
  have hwl : w.heap.size ≤ W.heap.size := hbW.size
  have hW2s : W.heap.size < W2.heap.size := hown.lt
  clear hW2 q0 q1 q2 q3 q4 zW y6W HO hbW hmm hnil
  go_region_held (fun w' => w'.cell? ⟨vb, vo + 4, none⟩ = some (.int .u8 (E 1).kind) ∧ w'.cell? ⟨vb, vo + 4 + 1, none⟩ = some (.slice ya (E 1).len yc) ∧ w'.cell? ⟨vb, vo + 4 + 2, none⟩ = some (.int .i64 (E 1).num) ∧ w'.cell? ⟨vb, vo + 4 + 3, none⟩ = some (.slice none 0 0) ∧ w'.cell? ⟨sb, F, none⟩ = some (.map (some W.heap.size))) (go_keep)
    ((go_at_call 29; refine (vBytes_any _ _ _ _ _ _ _ hE.1 hE.2).mono ?_; rintro e w2 ⟨rfl, hb3⟩; have hb4 : Below W2.heap.size W2 w2 := ((Below.refl W2.heap.size W2).drew.trans hb3); have t0 := cellLater hb4 p0; have t1 := cellLater hb4 p1; have t2 := cellLater hb4 p2; have t3 := cellLater hb4 p3; have t4 := cellLater hb4 p4; have hcv : (convert 28 9 (.slice (subA (E 1).kind ya yc (E 1).num) ((E 1).len - subO (E 1).kind (E 1).num) (yc - subO (E 1).kind (E 1).num))).run Try.prog w2 = .ok (.string (elName (E 1))) w2 := conv_any (sub_bytes (y6W2.later hb4) y5) _; have hown2 := hown.kept (grown_of_below hb4) (by simp); obtain ⟨w3, hrun, hown3, hturn⟩ := hown2.store law Try.underlying40 (by unfold maxLen; omega) hkey (unitElem_mk (H := Unit)); have hg3 := hturn.grown; have u0 := hg3.cell t0 (by simp; omega); have u1 := hg3.cell t1 (by simp; omega); have u2 := hg3.cell t2 (by simp; omega); have u3 := hg3.cell t3 (by simp; omega); have u4 := hg3.cell t4 (by simp; omega)))
  go_wp2_with fail
  go_end0
  refine ⟨rfl, W.heap.size, hwl, ?_, hown3, ?_⟩
  · rw [hg3.block _ (Nat.lt_of_lt_of_le (Nat.lt_trans hsW hW2s) hb4.size) (by simp; omega), hb4.block _ (by omega)]; exact HSB2.out
  · exact ⟨hg3.os.trans (hb4.os.trans hkW.os), hg3.tape.trans (hb4.tape.trans hkW.tape), hg3.output.trans (hb4.output.trans hkW.output), Nat.le_trans hkW.size (Nat.le_trans hb4.size hg3.size), fun x hx hs => by
      have hx2 := Nat.lt_of_lt_of_le hx hkW.size
      rw [hg3.block _ (Nat.lt_of_lt_of_le hx2 hb4.size) (by simp; omega), hb4.block _ hx2]; exact hkW.block _ hx hs⟩
end Go.Proofs.Qxb6603301a

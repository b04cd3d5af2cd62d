import Derived.Test.Qxb6602948aNq
import Derived.Test.Qxb6602948aAq
import Derived.Test.Qxb6602948aZc
import Derived.Deep.RegionLaw
import Derived.Deep.RegionHeld3
import Derived.Deep.AppendLies
namespace Go.Proofs.Qxb6602948a
open Go.RowKit Go.Kx Go.Uf Go.Maps
set_option linter.unusedVariables false

set_option maxRecDepth 100000 in
set_option maxHeartbeats 40000000 in
theorem ns_any (H : Nat) (a0 : Option Addr) (n c0 items : Nat) (imp : Bool) (a3 : Option Addr) (c3 : Nat) (Bq M : Nat) (a6 : Option Addr) (c6 : Nat) (a7 : Option Addr) (N c7 : Nat) (rS rI rw wS wI : Nat → Int) (w : World)
    (hb : Hb w H a0 n c0 items imp a3 c3 Bq M a6 c6 a7 N c7 rS rI rw wS wI) (hf : Fine n items M N rS rI wS wI) (hc7 : N ≤ c7 ∧ c7 ≤ 1048576) (hwf : ∀ j, wfp (rI j, rw j)) :
    Calls Try.prog 33 #[.pointer (some ⟨H, 0, none⟩)] w fun e w' => NsPost H n items rS rI rw wS wI w e w' := by
  have ch := hb.h.cell
  have ln := hf.ln
  have li := hf.li
  have hm24 := mk24n n (by omega)
  have hm41 := mk41 n (by omega)
  have hm41i := mk41 items li
  have hm22 := mk22n n (by omega)
  have hm22s := mk22 n ln
  have HB : Hid (Hb w H a0 n c0 items imp a3 c3 Bq M a6 c6 a7 N c7 rS rI rw wS wI) := hb
  clear hb
  go_enter Try.func33, Try.ntmps33
  go_upto_region 2 with fail
  go_cut [4] from 24 to 42 (fun v wc => ∃ L x, R2 n items H w L x wc ∧ L 19 = true ∧ v = x 4)
  case first =>
    rename_i J K' hJ hK
    generalize hbase : (Act.mk _ _) = base
    have hsz : base.tmps.size = 236 := by rw [← hbase]; rfl
    have e0 : base.eval (.tmp 0) = .pointer (some ⟨H, 0, none⟩) := by rw [← hbase]; rfl
    have e3 : base.eval (.tmp 3) = .int .i64 (n : Int) := by rw [← hbase]; rfl
    have hD : ([4, 24, 25, 26, 27, 28, 29, 30, 31, 32, 33, 34, 35, 36, 37, 38, 39, 40, 41, 42] : List Nat).Nodup := by decide
    refine wp_region_inv (by kernel_rfl) (fun listed a w' => listed.size = 20 ∧ ∃ x, a = fr base x [4, 24, 25, 26, 27, 28, 29, 30, 31, 32, 33, 34, 35, 36, 37, 38, 39, 40, 41, 42] ∧ R2 n items H w (fun i => listed.getD i false) x w') ?start ?step ?stop
    case start =>
      refine ⟨rfl, fun d => base.eval (.tmp d), ?_, ?_⟩
      · exact (fr_self (by rw [hsz]; decide)).symm
      · have : (fun i => (Array.replicate 20 false).getD i false) = fun _ => false := by funext i; simp [Array.getD]
        show R2 n items H w (fun i => (Array.replicate 20 false).getD i false) _ _
        rw [this]
        exact R2.start _ _ _ _ _ _ ((Below.refl _ _).drew)
    case step =>
      rintro listed a w1 i o ⟨hls, x, rfl, R⟩ ho h0 hall
      have hL : ∀ j, j ≠ i → (listed.setIfInBounds i true).getD j false = listed.getD j false := fun j hj => getD_set_ne false (fun e => hj e.symm)
      have hsize : (listed.setIfInBounds i true).size = 20 := by simpa using hls
      have hi : i < 20 := (Array.getElem?_eq_some_iff.1 ho).1
      have h0' : listed.getD i false = false := by simpa [Array.getD, hls, hi] using h0
      have IN : ∀ d, d < 236 → d ∈ ([4, 24, 25, 26, 27, 28, 29, 30, 31, 32, 33, 34, 35, 36, 37, 38, 39, 40, 41, 42] : List Nat) → (fr base x [4, 24, 25, 26, 27, 28, 29, 30, 31, 32, 33, 34, 35, 36, 37, 38, 39, 40, 41, 42]).eval (.tmp d) = x d := fun d h1 h2 => fr_in (by rw [hsz]; exact h1) h2
      have O0 : (fr base x [4, 24, 25, 26, 27, 28, 29, 30, 31, 32, 33, 34, 35, 36, 37, 38, 39, 40, 41, 42]).eval (.tmp 0) = .pointer (some ⟨H, 0, none⟩) := (fr_out (by decide)).trans e0
      have O3 : (fr base x [4, 24, 25, 26, 27, 28, 29, 30, 31, 32, 33, 34, 35, 36, 37, 38, 39, 40, 41, 42]).eval (.tmp 3) = .int .i64 (n : Int) := (fr_out (by decide)).trans e3
      have PT : ∀ d v, d ∈ ([4, 24, 25, 26, 27, 28, 29, 30, 31, 32, 33, 34, 35, 36, 37, 38, 39, 40, 41, 42] : List Nat) → (fr base x [4, 24, 25, 26, 27, 28, 29, 30, 31, 32, 33, 34, 35, 36, 37, 38, 39, 40, 41, 42]).put (some d) v = fr base (upd x d v) [4, 24, 25, 26, 27, 28, 29, 30, 31, 32, 33, 34, 35, 36, 37, 38, 39, 40, 41, 42] := fun d v h => fr_put v hD h
      obtain rfl | rfl | rfl | rfl | rfl | rfl | rfl | rfl | rfl | rfl | rfl | rfl | rfl | rfl | rfl | rfl | rfl | rfl | rfl | rfl : i = 0 ∨ i = 1 ∨ i = 2 ∨ i = 3 ∨ i = 4 ∨ i = 5 ∨ i = 6 ∨ i = 7 ∨ i = 8 ∨ i = 9 ∨ i = 10 ∨ i = 11 ∨ i = 12 ∨ i = 13 ∨ i = 14 ∨ i = 15 ∨ i = 16 ∨ i = 17 ∨ i = 18 ∨ i = 19 := by omega
      · have ho2 : some _ = some o := ho
        injection ho2 with ho3
        subst ho3
        refine wpOp_run ho rfl (v := (.pointer (some ⟨H, 0, none⟩))) (w' := w1) ?_ ⟨hsize, _, PT 24 _ (by decide), R.s0 h0' hL _ rfl⟩
        rw [BigFrame.run_move _ rfl, O0]
      · have ho2 : some _ = some o := ho
        injection ho2 with ho3
        subst ho3
        refine wpOp_run ho rfl (v := (.int .i64 (n : Int))) (w' := w1) ?_ ⟨hsize, _, PT 25 _ (by decide), R.s1 h0' hL _ rfl⟩
        rw [BigFrame.run_move _ rfl, O3]
      · have ho2 : some _ = some o := ho
        injection ho2 with ho3
        subst ho3
        refine wpOp_run ho rfl (v := .slice (some ⟨w1.heap.size, 0, none⟩) n n) (w' := w1.alloc (.cells (rowOf (fun _ => (.bool false)) n) 4)) ?_ ⟨hsize, _, PT 26 _ (by decide), R.s2 h0' hL _ _ (mkOk.new w1 _ _ R.bel.size) rfl⟩
        have q1 := (IN 25 (by decide) (by decide)).trans (R.p1 (hall ⟨1, .data⟩ (by simp) rfl))
        have q2 := hm24 w1
        clear hall ho R IN PT O0 O3 h0 h0' hL ch hm24 hm41 hm41i hm22 hm22s
        generalize (fr base x [4, 24, 25, 26, 27, 28, 29, 30, 31, 32, 33, 34, 35, 36, 37, 38, 39, 40, 41, 42]).eval = ρ at q1 ⊢
        go_simp
      · have ho2 : some _ = some o := ho
        injection ho2 with ho3
        subst ho3
        refine wpOp_run ho rfl (v := (.int .i64 (n : Int))) (w' := w1) ?_ ⟨hsize, _, PT 27 _ (by decide), R.s3 h0' hL _ rfl⟩
        rw [BigFrame.run_move _ rfl, O3]
      · have ho2 : some _ = some o := ho
        injection ho2 with ho3
        subst ho3
        refine wpOp_run ho rfl (v := .slice (some ⟨w1.heap.size, 0, none⟩) n n) (w' := w1.alloc (.cells (rowOf (fun _ => (.slice none 0 0)) n) 22)) ?_ ⟨hsize, _, PT 28 _ (by decide), R.s4 h0' hL _ _ (mkOk.new w1 _ _ R.bel.size) rfl⟩
        have q1 := (IN 27 (by decide) (by decide)).trans (R.p3 (hall ⟨3, .data⟩ (by simp) rfl))
        have q2 := hm41 w1
        clear hall ho R IN PT O0 O3 h0 h0' hL ch hm24 hm41 hm41i hm22 hm22s
        generalize (fr base x [4, 24, 25, 26, 27, 28, 29, 30, 31, 32, 33, 34, 35, 36, 37, 38, 39, 40, 41, 42]).eval = ρ at q1 ⊢
        go_simp
      · have ho2 : some _ = some o := ho
        injection ho2 with ho3
        subst ho3
        refine wpOp_run ho rfl (v := (.int .i64 (n : Int))) (w' := w1) ?_ ⟨hsize, _, PT 29 _ (by decide), R.s5 h0' hL _ rfl⟩
        rw [BigFrame.run_move _ rfl, O3]
      · have ho2 : some _ = some o := ho
        injection ho2 with ho3
        subst ho3
        refine wpOp_run ho rfl (v := .slice (some ⟨w1.heap.size, 0, none⟩) n n) (w' := w1.alloc (.cells (rowOf (fun _ => (.slice none 0 0)) n) 22)) ?_ ⟨hsize, _, PT 30 _ (by decide), R.s6 h0' hL _ _ (mkOk.new w1 _ _ R.bel.size) rfl⟩
        have q1 := (IN 29 (by decide) (by decide)).trans (R.p5 (hall ⟨5, .data⟩ (by simp) rfl))
        have q2 := hm41 w1
        clear hall ho R IN PT O0 O3 h0 h0' hL ch hm24 hm41 hm41i hm22 hm22s
        generalize (fr base x [4, 24, 25, 26, 27, 28, 29, 30, 31, 32, 33, 34, 35, 36, 37, 38, 39, 40, 41, 42]).eval = ρ at q1 ⊢
        go_simp
      · have ho2 : some _ = some o := ho
        injection ho2 with ho3
        subst ho3
        refine wpOp_run ho rfl (v := (.int .i64 (n : Int))) (w' := w1) ?_ ⟨hsize, _, PT 31 _ (by decide), R.s7 h0' hL _ rfl⟩
        rw [BigFrame.run_move _ rfl, O3]
      · have ho2 : some _ = some o := ho
        injection ho2 with ho3
        subst ho3
        refine wpOp_run ho rfl (v := (.int .i64 ((n : Int) + 1))) (w' := w1) ?_ ⟨hsize, _, PT 32 _ (by decide), R.s8 h0' hL _ rfl⟩
        have q1 := (IN 31 (by decide) (by decide)).trans (R.p7 (hall ⟨7, .data⟩ (by simp) rfl))
        clear hall ho R IN PT O0 O3 h0 h0' hL ch
        have q2 : (fr base x [4, 24, 25, 26, 27, 28, 29, 30, 31, 32, 33, 34, 35, 36, 37, 38, 39, 40, 41, 42]).eval (.const (.int .i64 1)) = .int .i64 1 := rfl
        generalize (fr base x [4, 24, 25, 26, 27, 28, 29, 30, 31, 32, 33, 34, 35, 36, 37, 38, 39, 40, 41, 42]).eval = ρ at q1 q2 ⊢
        go_simp
        rw [IntKind.wrap_i64]
        omega
      · have ho2 : some _ = some o := ho
        injection ho2 with ho3
        subst ho3
        refine wpOp_run ho rfl (v := .slice (some ⟨w1.heap.size, 0, none⟩) (n + 1) (n + 1)) (w' := w1.alloc (.cells (rowOf (fun _ => (.int .i64 0)) (n + 1)) 3)) ?_ ⟨hsize, _, PT 33 _ (by decide), R.s9 h0' hL _ _ (mkOk.new w1 _ _ R.bel.size) rfl⟩
        have q1 := (IN 32 (by decide) (by decide)).trans (R.p8 (hall ⟨8, .data⟩ (by simp) rfl))
        have q2 := hm22s w1
        clear hall ho R IN PT O0 O3 h0 h0' hL ch hm24 hm41 hm41i hm22 hm22s
        generalize (fr base x [4, 24, 25, 26, 27, 28, 29, 30, 31, 32, 33, 34, 35, 36, 37, 38, 39, 40, 41, 42]).eval = ρ at q1 ⊢
        go_simp
      · have ho2 : some _ = some o := ho
        injection ho2 with ho3
        subst ho3
        refine wpOp_run ho rfl (v := (.pointer (some ⟨H, 0, none⟩))) (w' := w1) ?_ ⟨hsize, _, PT 34 _ (by decide), R.s10 h0' hL _ rfl⟩
        rw [BigFrame.run_move _ rfl, O0]
      · have ho2 : some _ = some o := ho
        injection ho2 with ho3
        subst ho3
        refine wpOp_run ho rfl (v := (.pointer (some ⟨H, 0, none⟩))) (w' := w1) ?_ ⟨hsize, _, PT 35 _ (by decide), R.s11 h0' hL _ rfl⟩
        have q1 := (IN 34 (by decide) (by decide)).trans (R.p10 (hall ⟨10, .data⟩ (by simp) rfl))
        clear hall ho R IN PT O0 O3 h0 h0' hL ch
        generalize (fr base x [4, 24, 25, 26, 27, 28, 29, 30, 31, 32, 33, 34, 35, 36, 37, 38, 39, 40, 41, 42]).eval = ρ at q1 ⊢
        go_simp
      · have ho2 : some _ = some o := ho
        injection ho2 with ho3
        subst ho3
        refine wpOp_run ho rfl (v := (.pointer (some ⟨H, 1, none⟩))) (w' := w1) ?_ ⟨hsize, _, PT 36 _ (by decide), R.s12 h0' hL _ rfl⟩
        have q1 := (IN 35 (by decide) (by decide)).trans (R.p11 (hall ⟨11, .data⟩ (by simp) rfl))
        clear hall ho R IN PT O0 O3 h0 h0' hL ch
        generalize (fr base x [4, 24, 25, 26, 27, 28, 29, 30, 31, 32, 33, 34, 35, 36, 37, 38, 39, 40, 41, 42]).eval = ρ at q1 ⊢
        go_simp
      · have ho2 : some _ = some o := ho
        injection ho2 with ho3
        subst ho3
        refine wpOp_run ho rfl (v := (.int .i64 (items : Int))) (w' := w1) ?_ ⟨hsize, _, PT 37 _ (by decide), R.s13 h0' hL _ rfl⟩
        have q1 := (IN 36 (by decide) (by decide)).trans (R.p12 (hall ⟨12, .data⟩ (by simp) rfl))
        have q2 : w1.cell? ⟨H, 1, none⟩ = some (.int .i64 (items : Int)) := ((HB.out.h.later R.bel).cell 1)
        clear hall ho R IN PT O0 O3 h0 h0' hL ch
        generalize (fr base x [4, 24, 25, 26, 27, 28, 29, 30, 31, 32, 33, 34, 35, 36, 37, 38, 39, 40, 41, 42]).eval = ρ at q1 ⊢
        go_simp
      · have ho2 : some _ = some o := ho
        injection ho2 with ho3
        subst ho3
        refine wpOp_run ho rfl (v := .slice (some ⟨w1.heap.size, 0, none⟩) items items) (w' := w1.alloc (.cells (rowOf (fun _ => (.slice none 0 0)) items) 22)) ?_ ⟨hsize, _, PT 38 _ (by decide), R.s14 h0' hL _ _ (mkOk.new w1 _ _ R.bel.size) rfl⟩
        have q1 := (IN 37 (by decide) (by decide)).trans (R.p13 (hall ⟨13, .data⟩ (by simp) rfl))
        have q2 := hm41i w1
        clear hall ho R IN PT O0 O3 h0 h0' hL ch hm24 hm41 hm41i hm22 hm22s
        generalize (fr base x [4, 24, 25, 26, 27, 28, 29, 30, 31, 32, 33, 34, 35, 36, 37, 38, 39, 40, 41, 42]).eval = ρ at q1 ⊢
        go_simp
      · have ho2 : some _ = some o := ho
        injection ho2 with ho3
        subst ho3
        refine wpOp_run ho rfl (v := (.int .i64 (n : Int))) (w' := w1) ?_ ⟨hsize, _, PT 39 _ (by decide), R.s15 h0' hL _ rfl⟩
        rw [BigFrame.run_move _ rfl, O3]
      · have ho2 : some _ = some o := ho
        injection ho2 with ho3
        subst ho3
        refine wpOp_run ho rfl (v := .slice (some ⟨w1.heap.size, 0, none⟩) n n) (w' := w1.alloc (.cells (rowOf (fun _ => (.int .i64 0)) n) 3)) ?_ ⟨hsize, _, PT 40 _ (by decide), R.s16 h0' hL _ _ (mkOk.new w1 _ _ R.bel.size) rfl⟩
        have q1 := (IN 39 (by decide) (by decide)).trans (R.p15 (hall ⟨15, .data⟩ (by simp) rfl))
        have q2 := hm22 w1
        clear hall ho R IN PT O0 O3 h0 h0' hL ch hm24 hm41 hm41i hm22 hm22s
        generalize (fr base x [4, 24, 25, 26, 27, 28, 29, 30, 31, 32, 33, 34, 35, 36, 37, 38, 39, 40, 41, 42]).eval = ρ at q1 ⊢
        go_simp
      · have ho2 : some _ = some o := ho
        injection ho2 with ho3
        subst ho3
        refine wpOp_run ho rfl (v := .agg (scells (x 24) (x 26) (x 28) (x 30) (x 33) (x 38) (x 40))) (w' := w1) ?_ ⟨hsize, _, PT 41 _ (by decide), R.s17 h0' hL _ rfl ⟨hall ⟨0, .data⟩ (by simp) rfl, hall ⟨2, .data⟩ (by simp) rfl, hall ⟨4, .data⟩ (by simp) rfl, hall ⟨6, .data⟩ (by simp) rfl, hall ⟨9, .data⟩ (by simp) rfl, hall ⟨14, .data⟩ (by simp) rfl, hall ⟨16, .data⟩ (by simp) rfl⟩⟩
        have q24 := (IN 24 (by decide) (by decide)).trans (R.p0 (hall ⟨0, .data⟩ (by simp) rfl))
        have f24 := R.p0 (hall ⟨0, .data⟩ (by simp) rfl)
        obtain ⟨b26, f26, _, _⟩ := R.m2 (hall ⟨2, .data⟩ (by simp) rfl)
        have q26 := (IN 26 (by decide) (by decide)).trans f26
        obtain ⟨b28, f28, _, _⟩ := R.m4 (hall ⟨4, .data⟩ (by simp) rfl)
        have q28 := (IN 28 (by decide) (by decide)).trans f28
        obtain ⟨b30, f30, _, _⟩ := R.m6 (hall ⟨6, .data⟩ (by simp) rfl)
        have q30 := (IN 30 (by decide) (by decide)).trans f30
        obtain ⟨b33, f33, _, _⟩ := R.m9 (hall ⟨9, .data⟩ (by simp) rfl)
        have q33 := (IN 33 (by decide) (by decide)).trans f33
        obtain ⟨b38, f38, _, _⟩ := R.m14 (hall ⟨14, .data⟩ (by simp) rfl)
        have q38 := (IN 38 (by decide) (by decide)).trans f38
        obtain ⟨b40, f40, _, _⟩ := R.m16 (hall ⟨16, .data⟩ (by simp) rfl)
        have q40 := (IN 40 (by decide) (by decide)).trans f40
        clear hall ho R IN PT O0 O3 h0 h0' hL ch
        generalize (fr base x [4, 24, 25, 26, 27, 28, 29, 30, 31, 32, 33, 34, 35, 36, 37, 38, 39, 40, 41, 42]).eval = ρ at q24 q26 q28 q30 q33 q38 q40 ⊢
        go_simp
      · have ho2 : some _ = some o := ho
        injection ho2 with ho3
        subst ho3
        have l17 : listed.getD 17 false = true := hall ⟨17, .data⟩ (by simp) rfl
        refine wpOp_run ho rfl (v := .pointer (some ⟨w1.heap.size, 0, none⟩)) (w' := w1.alloc (.cells (scells (x 24) (x 26) (x 28) (x 30) (x 33) (x 38) (x 40)) 67)) ?_ ⟨hsize, _, PT 42 _ (by decide), R.s18 h0' hL _ _ rfl rfl l17⟩
        have q1 := (IN 41 (by decide) (by decide)).trans (R.p17 l17)
        clear hall ho R IN PT O0 O3 h0 h0' hL ch
        generalize (fr base x [4, 24, 25, 26, 27, 28, 29, 30, 31, 32, 33, 34, 35, 36, 37, 38, 39, 40, 41, 42]).eval = ρ at q1 ⊢
        go_simp
      · have ho2 : some _ = some o := ho
        injection ho2 with ho3
        subst ho3
        have l18 : listed.getD 18 false = true := hall ⟨18, .data⟩ (by simp) rfl
        refine wpOp_run ho rfl (v := x 42) (w' := w1) ?_ ⟨hsize, _, PT 4 _ (by decide), R.s19 h0' hL _ rfl l18⟩
        rw [BigFrame.run_assign _ rfl, IN 42 (by decide) (by decide)]
    case stop =>
      rintro listed a w1 ⟨hls, x, rfl, R⟩ hr
      subst hbase
      have NR : ∀ i o, i < 20 → (∀ e ∈ o.after, Region.binds .any e = true → listed.getD e.on false = true) → ∀ ops : Array Oper, Region.ready .any ops listed = [] → ops[i]? = some o → listed.getD i false = true := fun i o hi hal ops hr' ho => by
        cases q : listed.getD i false with
        | true => rfl
        | false =>
          have := mem_ready.2 ⟨show listed.getD i true = false by simpa [Array.getD, hls, hi] using q, o, ho, hal⟩
          rw [hr'] at this
          cases this
      have l0 := NR 0 _ (by decide) (fun e he hb => by simp at he) _ hr rfl
      have l1 := NR 1 _ (by decide) (fun e he hb => by simp at he) _ hr rfl
      have l2 := NR 2 _ (by decide) (fun e he hb => by simp at he; rcases he with rfl <;> assumption) _ hr rfl
      have l3 := NR 3 _ (by decide) (fun e he hb => by simp at he) _ hr rfl
      have l4 := NR 4 _ (by decide) (fun e he hb => by simp at he; rcases he with rfl <;> assumption) _ hr rfl
      have l5 := NR 5 _ (by decide) (fun e he hb => by simp at he) _ hr rfl
      have l6 := NR 6 _ (by decide) (fun e he hb => by simp at he; rcases he with rfl <;> assumption) _ hr rfl
      have l7 := NR 7 _ (by decide) (fun e he hb => by simp at he) _ hr rfl
      have l8 := NR 8 _ (by decide) (fun e he hb => by simp at he; rcases he with rfl <;> assumption) _ hr rfl
      have l9 := NR 9 _ (by decide) (fun e he hb => by simp at he; rcases he with rfl <;> assumption) _ hr rfl
      have l10 := NR 10 _ (by decide) (fun e he hb => by simp at he) _ hr rfl
      have l11 := NR 11 _ (by decide) (fun e he hb => by simp at he; rcases he with rfl <;> assumption) _ hr rfl
      have l12 := NR 12 _ (by decide) (fun e he hb => by simp at he; rcases he with rfl <;> assumption) _ hr rfl
      have l13 := NR 13 _ (by decide) (fun e he hb => by simp at he; rcases he with rfl <;> assumption) _ hr rfl
      have l14 := NR 14 _ (by decide) (fun e he hb => by simp at he; rcases he with rfl <;> assumption) _ hr rfl
      have l15 := NR 15 _ (by decide) (fun e he hb => by simp at he) _ hr rfl
      have l16 := NR 16 _ (by decide) (fun e he hb => by simp at he; rcases he with rfl <;> assumption) _ hr rfl
      have l17 := NR 17 _ (by decide) (fun e he hb => by simp at he; rcases he with rfl | rfl | rfl | rfl | rfl | rfl | rfl <;> assumption) _ hr rfl
      have l18 := NR 18 _ (by decide) (fun e he hb => by simp at he; rcases he with rfl <;> assumption) _ hr rfl
      have l19 := NR 19 _ (by decide) (fun e he hb => by simp at he; rcases he with rfl | rfl | rfl | rfl | rfl | rfl | rfl | rfl | rfl | rfl | rfl | rfl | rfl | rfl | rfl | rfl | rfl | rfl | rfl | rfl <;> assumption) _ hr rfl
      refine hK _ _ (hJ _ _ ⟨x 4, x 24, x 25, x 26, x 27, x 28, x 29, x 30, x 31, x 32, x 33, x 34, x 35, x 36, x 37, x 38, x 39, x 40, x 41, x 42, ⟨_, x, R, l19, rfl⟩, ?_⟩)
      simp only [fr, Act.put, List.setIfInBounds_toArray, List.set_cons_succ, List.set_cons_zero]
  case rest =>
  clear hm24 hm41 hm41i hm22 hm22s
  obtain ⟨L, x, hR, hL, rfl⟩ := hcut
  obtain ⟨S, bp, bs, bt, bf, bq, bd, hv, hN⟩ := hR.nst hL
  rw [hv]
  obtain ⟨Bm, hBm⟩ : ∃ Bm, Bm = wc.heap.size := ⟨_, rfl⟩
  rw [← hBm] at hN
  have hwb : w.heap.size ≤ Bm := by rw [hBm]; exact hR.bel.size
  obtain ⟨p, hp⟩ : ∃ p : Nat → Int × Int, p = fun j => (rI ((rS 0).toNat + j), rw ((rS 0).toNat + j)) := ⟨_, rfl⟩
  have HP : Hid (p = fun j => (rI ((rS 0).toNat + j), rw ((rS 0).toNat + j))) := hp
  have WF : Hid (∀ j, wfp (p j)) := by rw [hp]; exact fun j => hwf _
  have HF : Hid (Fine n items M N rS rI wS wI) := hf
  have NS : Hid (Nst w (wc.alloc (.map #[] 0)) H n items S bp bs bt bf bq bd Bm (fun _ => .slice none 0 0) (fun _ => .slice none 0 0) (fun _ => []) (fun _ => 0) (.slice none 0 0) (.slice none 0 0)) := hN
  have OW : Hid (Omap (wc.alloc (.map #[] 0)) Bm 0 (.map [])) := by
    show Omap _ _ _ _
    rw [hBm]
    exact Omap.made _
  have hmm := @run_makeMap Try.prog
  have lM := hf.lM
  have lN := hf.lN
  obtain ⟨i3, hi3, hx0, hx1, hx2⟩ := info_parts info3
  clear hR hL hv hN hp hf hwf
  clear x L ch
  go_wp2
  rw [← hBm]
  clear hmm hBm
  obtain ⟨q0, hq0⟩ : ∃ q0, q0 = (rS 0).toNat := ⟨_, rfl⟩
  have HQ : Hid (rS 0 = (q0 : Int)) := by show _ = _; have := HF.out.rs.zero; omega
  rw [← hq0] at HP
  clear hq0
  go_loopw [6, 45] (fun v s wr => ∃ (t r : Nat) (us : Nat → Value) (ls : Nat → List Int) (frd : Nat → Int) (D : DataW Unit), t ≤ n ∧ s = .int .i64 t ∧ v = us (n + 2) ∧ rS t = ((q0 + r : Nat) : Int) ∧ N1 w wr H n items S bp bs bt bf bq bd Bm us ls frd D rS rw p t 0 r ∧ ∀ j, j < t → frd j = rS j - (q0 : Int)) (fun _ s _ => n - (intOf s).toNat)
  case atStart => exact ⟨0, 0, _, _, _, _, Nat.zero_le _, rfl, rfl, HQ.out, ⟨NS.out, OW.out, Mv.start p, Lsp.start n rS rw p⟩, fun j hj => by omega⟩
  case round =>
  clear NS OW
  obtain ⟨t, r, us, ls, frd, D, ht, rfl, rfl, hrt, hn1, hfr⟩ := hrel
  obtain ⟨wa, hwa⟩ : ∃ wa, wa = wr := ⟨_, rfl⟩
  subst hwa
  have HRT : Hid (rS t = ((q0 + r : Nat) : Int)) := hrt
  have HN : Hid (N1 w wa H n items S bp bs bt bf bq bd Bm us ls frd D rS rw p t 0 r) := hn1
  have HFR : Hid (∀ j, j < t → frd j = rS j - (q0 : Int)) := hfr
  clear hrt hn1 hfr
  by_cases hlt : t < n
  ·
    have kt : (t : Int) < (n : Int) := by omega
    have kt1 : (t : Int) < (n : Int) + 1 := by omega
    obtain ⟨ar, cr, hur⟩ := ownsRow_shape (HN.out.ns.fam.row n (by omega))
    have hlr : (ls n).length = r := (HN.out.lsp.lens (r := r) (k := 0) HF.out ht HQ.out HRT.out).1
    rw [hlr] at hur
    have cS4 := HN.out.ns.bS.cell 4
    have cS5 : wa.cell? ⟨S, 5, none⟩ = some (.slice ar r cr) := by rw [HN.out.ns.bS.cell 5]; show some (us n) = _; rw [hur]
    have cf := (HN.out.ns.bf.cell t).trans (rowOf_get _ (by omega))
    have ff1 := HN.out.ns.bf.free t
    have nbf : S ≠ bf := fun e => HN.out.ns.dis.S'.2.2.2.1 e.symm
    obtain ⟨rlo, nr, re1, re2, re3⟩ := HF.out.rs.at' hlt
    have hrq : rlo = q0 + r := by have := HRT.out; omega
    have NS1 : Hid (Nst w (wa.setCell ⟨bf, t, none⟩ (.int .i64 (r : Int))).drew H n items S bp bs bt bf bq bd Bm us us ls (upd frd t (r : Int)) (.slice none 0 0) (.slice none 0 0)) := (HN.out.ns.first t (r : Int)).drew
    go_wp2
    go_region
    obtain ⟨wb, hwb'⟩ : ∃ wb, wb = (wa.setCell ⟨bf, t, none⟩ (.int .i64 (r : Int))).drew := ⟨_, rfl⟩
    rw [← hwb'] at NS1 ⊢
    have lbf := HN.out.ns.dis.lf
    have hN2 : N1 w wb H n items S bp bs bt bf bq bd Bm us ls (upd frd t (r : Int)) D rS rw p t 0 r := ⟨NS1.out, HN.out.om.same (by rw [hwb']; exact heap_setCell_other wa _ Bm _ (by simp; omega)), HN.out.mv, HN.out.lsp⟩
    have HN2 : Hid (N1 w wb H n items S bp bs bt bf bq bd Bm us ls (upd frd t (r : Int)) D rS rw p t 0 r) := hN2
    have HFR2 : Hid (∀ j, j < t + 1 → upd frd t (r : Int) j = rS j - (q0 : Int)) := fun j hj => by
      by_cases e : j = t
      · subst e; rw [upd_same, HRT.out]; omega
      · rw [upd_ne _ _ e]; exact HFR.out j (by omega)
    have HRE : Hid (rS t = (rlo : Int) ∧ rS (t + 1) = ((rlo + nr : Nat) : Int)) := ⟨re1, re2⟩
    clear hN2 NS1 hwb' cS4 cS5 cf ff1 nbf hur hlr HN HFR re1 re2
    have ch2 := (HB.out.h.later HN2.out.ns.bel).cell
    go_wp2_with fail
    refine (of40 a3 (n + 1) c3 rS (some ⟨Bq, 0, none⟩) M M t rlo (rlo + nr) (ints .i32 rI) (ints .i32 rw) _ (HB.out.rs.later HN2.out.ns.bel) (by simp) (Nat.le_refl _) (by omega) (by omega) (by omega) HRE.out.1 HRE.out.2 (by omega) re3).mono ?_
    rintro e wc2 ⟨av, cv, rfl, hrw2, hbv⟩
    rw [show rlo + nr - rlo = nr by omega] at hrw2 ⊢
    have HN3 : Hid (N1 w wc2 H n items S bp bs bt bf bq bd Bm us ls (upd frd t (r : Int)) D rS rw p t 0 r) := HN2.out.later hbv hwb
    have RV : Hid (∀ W, Below w.heap.size w W → Rw2 W av nr cv (fun j => ints .i32 rI (rlo + j)) (fun j => ints .i32 rw (rlo + j))) := fun W hW => hrw2 W (HB.out.ri.later hW)
    obtain ⟨fr2, hfr2⟩ : ∃ fr2, fr2 = upd frd t (r : Int) := ⟨_, rfl⟩
    rw [← hfr2] at HN3 HFR2
    clear HN2 hrw2 hbv ch2 hfr2
    go_wp2
    go_loopw [6, 66] (fun v s wr => ∃ (k : Nat) (us : Nat → Value) (ls : Nat → List Int) (D : DataW Unit), k ≤ nr ∧ s = .int .i64 k ∧ v = us (n + 2) ∧ N1 w wr H n items S bp bs bt bf bq bd Bm us ls fr2 D rS rw p t k (r + k)) (fun _ s _ => nr - (intOf s).toNat)
    case atStart => exact ⟨0, us, ls, D, Nat.zero_le _, rfl, rfl, HN3.out⟩
    case round =>
    clear HN3
    obtain ⟨k, us, ls, D, hk, rfl, rfl, hn1⟩ := hrel
    obtain ⟨wd, hwd⟩ : ∃ wd, wd = wr := ⟨_, rfl⟩
    subst hwd
    have HN : Hid (N1 w wd H n items S bp bs bt bf bq bd Bm us ls fr2 D rS rw p t k (r + k)) := hn1
    clear hn1
    by_cases hltk : k < nr
    · have kk : (k : Int) < (nr : Int) := by omega
      obtain ⟨bv, ov, rfl, lbv, dv⟩ := (RV.out wd HN.out.ns.bel).plain (by omega)
      obtain ⟨xx, hxx⟩ : ∃ xx, xx = rI (rlo + k) := ⟨_, rfl⟩
      obtain ⟨yy, hyy⟩ : ∃ yy, yy = rw (rlo + k) := ⟨_, rfl⟩
      have d1 : wd.cell? ⟨bv, ov + k * 2, none⟩ = some (.int .i32 xx) := by rw [(dv k hltk).1, hxx]
      have d2 : wd.cell? ⟨bv, ov + k * 2 + 1, none⟩ = some (.int .i32 yy) := by rw [(dv k hltk).2, hyy]
      have PX : Hid (p (r + k) = (xx, yy)) := by
        show _ = _
        rw [HP.out, hxx, hyy]
        show (rI (q0 + (r + k)), rw (q0 + (r + k))) = _
        rw [show q0 + (r + k) = rlo + k by omega]
      have YY : Hid (yy = rw (rlo + k)) := hyy
      have WFK : Hid (wfp (xx, yy)) := by show wfp _; rw [← PX.out]; exact WF.out _
      have hyb : -2147483648 ≤ yy ∧ yy ≤ 2147483647 := by have := bounds_i32 WFK.out.2; omega
      have hyw : IntKind.i64.wrap yy = yy := by rw [IntKind.wrap_i64]; omega
      clear dv hxx hyy
      have OA : Hid (Omap (wd.alloc (.cells #[.int .i32 xx, .int .i32 yy] 59)) Bm (r + k) D) := HN.out.om.same (Below.heap_alloc _ _ _ (by have := HN.out.ns.sz; omega))
      have B9 : Hid (Blk (wd.alloc (.cells #[.int .i32 xx, .int .i32 yy] 59)) wd.heap.size #[.int .i32 xx, .int .i32 yy] 59) := Blk.new wd _ 59
      have NA : Hid (Nst w (wd.alloc (.cells #[.int .i32 xx, .int .i32 yy] 59)) H n items S bp bs bt bf bq bd Bm us us ls fr2 (.slice none 0 0) (.slice none 0 0)) := HN.out.ns.alloc _
      have MV : Hid (Mv D p (r + k)) := HN.out.mv
      have LS : Hid (Lsp n rS rw p t k (r + k) ls) := HN.out.lsp
      have LE : Hid ((ls n).length = r + k ∧ (ls (n + 1)).length ≤ r + k ∧ (ls (n + 2)).length = r + k) := HN.out.lsp.lens HF.out ht HQ.out HRT.out
      have FB0 : Hid (∀ j, j < 2 * n + 3 → (us j).ownBlock ≠ some wd.heap.size) := fun j hj e => by have := ((HN.out.ns.fam.row j hj).lt _ e).2; omega
      have nb9 : Bm < wd.heap.size := by have := HN.out.ns.sz; omega
      clear HN
      have lr : r + k ≤ 16384 := by omega
      go_upto_region 12 with fail
      obtain ⟨we, hwe⟩ : ∃ we, we = wd.alloc (.cells #[.int .i32 xx, .int .i32 yy] 59) := ⟨_, rfl⟩
      have hsw : wd.heap.size < we.heap.size := by rw [hwe]; simp
      rw [← hwe] at OA B9 NA ⊢
      obtain ⟨b9, hb9⟩ : ∃ b9, b9 = wd.heap.size := ⟨_, rfl⟩
      rw [← hb9] at B9 hsw FB0 nb9 ⊢
      clear d1 d2 hwe hb9
      have e0 := B9.out.cell 0
      have e1 := B9.out.cell 1
      obtain ⟨KL, hKL⟩ : ∃ KL, KL = kl (xx, yy) := ⟨_, rfl⟩
      have key : keyOf Try.prog 59 (.agg #[.int .i32 xx, .int .i32 yy]) = some KL := by rw [hKL]; exact kl_key WFK.out
      have KEY : Hid (keyOf Try.prog 59 (.agg #[.int .i32 xx, .int .i32 yy]) = some KL) := key
      have HKL : Hid (KL = kl (xx, yy)) := hKL
      have ow : we.ownsMap Try.prog 59 (plainElem (H := Unit) Try.prog 3) Bm (r + k) D := OA.out
      have OWM : Hid (we.ownsMap Try.prog 59 (plainElem (H := Unit) Try.prog 3) Bm (r + k) D) := ow
      clear key hKL ow
      go_cut [10, 11] from 70 to 75 (fun v10 v11 wx => wx = we ∧ ∃ c, v10 = .int .i64 c ∧ v11 = .bool (Maps.has D KL) ∧ D.atKey KL (.lit (.int .i64 0)) = .lit (.int .i64 c))
      case first =>
        go_wp2_with (at_lookup; refine wpList_lookup_own_ok_int _ rfl _ _ 78 rfl 59 3 .i64 klaw59 Try.underlying78 Try.underlying3 (zero3 _) Bm (r + k) D rfl OWM.out (.agg #[.int .i32 xx, .int .i32 yy]) KL rfl KEY.out ?_; intro c hat hwc)
        go_meet
        case rel => exact ⟨rfl, c, rfl, rfl, hat⟩
      case rest =>
      obtain ⟨hwx, c, rfl, rfl, hat⟩ := hcut
      obtain rfl : we = wc := hwx.symm
      have HAT : Hid (D.atKey KL (.lit (.int .i64 0)) = .lit (.int .i64 c)) := hat
      have DB : Hid (Dis w.heap.size Bm S bp bs bt bf bq bd) := NA.out.dis
      clear hat hwx
      go_upto_if 77 with fail
      go_cut [10, 11] from 70 to 97 (fun v10 _ wx => AfterIf w H n items S bp bs bt bf bq bd Bm us ls fr2 p (r + k) b9 xx yy v10 wx)
      case first =>
        by_cases hold : ∃ j, j < r + k ∧ p j = p (r + k)
        · have hh : Maps.has D KL = true := by rw [HKL.out]; exact (MV.out.has (xx, yy) WFK.out).2 (by rw [← PX.out]; exact hold)
          have hid : c = ((idv p (r + k) : Nat) : Int) := by
            obtain ⟨j, hj, e⟩ := hold
            have h1 := MV.out.at' j hj
            rw [e, PX.out, ← HKL.out, HAT.out] at h1
            simp at h1
            rw [h1, idv_same p e]
          subst hid
          have HO : Hid (∃ j, j < r + k ∧ p j = p (r + k)) := hold
          clear hold
          rw [hh]
          clear hh
          go_wp2
          go_meet
          case rel => exact afterOld NA.out FB0.out B9.out OA.out MV.out LS.out HO.out
        · have hh : Maps.has D KL = false := by
            rw [HKL.out]
            cases q : Maps.has D (kl (xx, yy)) with
            | false => rfl
            | true => exact absurd ((MV.out.has (xx, yy) WFK.out).1 q) (by rw [← PX.out]; exact hold)
          have HO : Hid (¬ ∃ j, j < r + k ∧ p j = p (r + k)) := hold
          clear hold
          obtain ⟨aw, cw, huw⟩ := ownsRow_shape (NA.out.fam.row (n + 1) (by omega))
          obtain ⟨lw, hlw⟩ : ∃ lw, lw = (ls (n + 1)).length := ⟨_, rfl⟩
          have hlw2 : lw ≤ r + k := by rw [hlw]; exact LE.out.2.1
          have HLW : Hid (lw = (fo p (r + k)).length) := by show _ = _; rw [hlw, LS.out.wr, List.length_map]
          rw [← hlw] at huw
          have c9 : we.cell? ⟨S, 9, none⟩ = some (.slice aw lw cw) := by rw [NA.out.bS.cell 9]; show some (us (n + 1)) = _; rw [huw]
          have hwl : (Lit.int .i64 ((lw : Nat) : Int)).wf = true := WalkArith.wf_i64 (by omega)
          have HUW : Hid (us (n + 1) = .slice aw lw cw) := huw
          have HL2 : Hid (lw = (ls (n + 1)).length) := hlw
          rw [hh]
          clear hh huw hlw
          go_wp2_with (at_mapUpdate; refine wpList_mapUpdate_own _ rfl _ _ _ 78 rfl 59 3 klaw59 Try.underlying78 _ Bm (r + k) D rfl OWM.out (by unfold maxLen; omega) (.agg #[.int .i32 xx, .int .i32 yy]) (.int .i64 ((lw : Nat) : Int)) KL rfl rfl KEY.out (.lit (.int .i64 ((lw : Nat) : Int))) [] (plainElem_int Try.underlying3 hwl) ?_)
          intro w7 hown7 hgrow7
          have N7 : Hid (Nst w w7 H n items S bp bs bt bf bq bd Bm us us ls fr2 (.slice none 0 0) (.slice none 0 0)) := NA.out.same (fun b hb hlt => hgrow7.block b hlt (by simp; exact fun e => hb e)) ⟨hgrow7.os, hgrow7.tape, hgrow7.output⟩ hgrow7.size hwb
          have O7 : Hid (Omap w7 Bm (r + k + 1) (D.put KL (.lit (.int .i64 ((lw : Nat) : Int))))) := hown7
          have B7 : Hid (Blk w7 b9 #[.int .i32 xx, .int .i32 yy] 59) := (hgrow7.block b9 (by omega) (by simp; omega)).trans B9.out
          have q9 : w7.cell? ⟨S, 9, none⟩ = some (.slice aw lw cw) := by rw [N7.out.bS.cell 9]; show some (us (n + 1)) = _; rw [HUW.out]
          have q1 := B7.out.cell 1
          have s7 := N7.out.sz
          have l7 : b9 < w7.heap.size := B7.out.lt
          have lS7 : S < w7.heap.size := N7.out.bS.lt
          have nS7 : S ≠ w7.heap.size := by omega
          have nb7 : b9 ≠ w7.heap.size := by omega
          have FR : Hid (w7.ownsRow (Bm + 1) 3 1 (.slice aw lw cw) lw ((ls (n + 1)).map (Value.int .i64))) := by
            have h := N7.out.fam.row (n + 1) (by omega)
            rw [HUW.out, ← HL2.out] at h
            exact h
          clear hown7 hgrow7 c9 e0 e1
          go_wp2
          go_region_law (refine step_append_lies _ (by rfl) (.tmp 90) (.tmp 94) 22 (by rfl) (Bm + 1) 3 i3 (.int .i64 0) 1 8 Try.underlying22 hi3 hx0 hx1 hx2 rfl (by decide) (.slice aw lw cw) lw ((ls (n + 1)).map (Value.int .i64)) (by rfl) (own_heap (FR.out.alloc (.cells #[.int .i64 yy] 3)) rfl) ⟨w7.heap.size, 0, none⟩ 1 1 [.int .i64 yy] (by rfl) rfl (cell_one_new w7 (.int .i64 yy) 3) (by intro u hu; simp at hu; subst hu; rfl) (by omega) (by unfold maxLen; omega) (by omega) (by simp; omega) (w7.heap.size + 1) (by simp) ?_; intro g cap w8 h8 hg8 hat8 hlt8; have N8 := N7.out.grow (w' := w8) (j := n + 1) (u' := .slice (some ⟨g, 0, none⟩) (lw + 1) cap) (z := yy) (o := .cells #[.int .i64 yy] 3) (by omega) (by rw [← HL2.out]; exact h8) (by rw [HUW.out]; exact ⟨hg8.os, hg8.tape, hg8.output, hg8.size, hg8.block⟩) (by rw [HUW.out, World.size_alloc]; rcases hat8 with e | e; exact .inl e.symm; exact .inr (by simp [Value.ownBlock, e])); have z9 := N8.bS.cell 9; have zf := N8.bS.free 9)
          all_goals
            go_wp2_with fail
            go_meet
            exact afterNew N8 FB0.out B7.out O7.out MV.out LS.out HO.out WF.out HUW.out HLW.out PX.out HKL.out nb9 l7 hat8 (fun b hb hne => (hg8.block b (by simp; omega) (fun e => hne e.symm)).trans (Below.heap_alloc _ _ _ hb)) (fun b e => (FR.out.lt b e).1)
      case rest =>
      clear OA NA B9 OWM FB0 e0 e1 HAT
      obtain ⟨us1, D1, rfl, hv6, hF1, hB1, hN1, hO1, hM1⟩ := hcut
      rw [← hv6]
      obtain ⟨ls1, hls1⟩ : ∃ ls1, ls1 = upd ls (n + 1) ((fo p (r + k + 1)).map (fun j => (p j).2)) := ⟨_, rfl⟩
      rw [← hls1] at hN1
      have LS1 : Hid (ls1 = upd ls (n + 1) ((fo p (r + k + 1)).map (fun j => (p j).2))) := hls1
      have F1 : Hid (∀ j, j < 2 * n + 3 → (us1 j).ownBlock ≠ some b9) := hF1
      have B1 : Hid (Blk wc b9 #[.int .i32 xx, .int .i32 yy] 59) := hB1
      have N1' : Hid (Nst w wc H n items S bp bs bt bf bq bd Bm us1 us1 ls1 fr2 (.slice none 0 0) (.slice none 0 0)) := hN1
      have O1 : Hid (Omap wc Bm (r + k + 1) D1) := hO1
      have M1 : Hid (Mv D1 p (r + k + 1)) := hM1
      have PS : Hid (Pst w wc H n items S bp bs bt bf bq bd Bm us1 us1 ls1 fr2 b9 xx yy (r + k + 1) D1) := ⟨hN1, hF1, hB1, hO1, nb9⟩
      clear hls1 hF1 hB1 hN1 hO1 hM1 hv6 F1 B1 O1
      have len1 : (ls1 n).length = r + k := by rw [LS1.out, upd_ne _ _ (by omega)]; exact LE.out.1
      have len2 : (ls1 (n + 2)).length = r + k := by rw [LS1.out, upd_ne _ _ (by omega)]; exact LE.out.2.2
      obtain ⟨ar1, cr1, hur1⟩ := ownsRow_shape (N1'.out.fam.row n (by omega))
      rw [len1] at hur1
      have FR1 : Hid (wc.ownsRow (Bm + 1) 3 1 (.slice ar1 (r + k) cr1) (r + k) ((ls1 n).map (Value.int .i64))) := by
        have h := N1'.out.fam.row n (by omega)
        rw [hur1, len1] at h
        exact h
      have q5 : wc.cell? ⟨S, 5, none⟩ = some (.slice ar1 (r + k) cr1) := by rw [N1'.out.bS.cell 5]; show some (us1 n) = _; rw [hur1]
      have HU1 : Hid (us1 n = .slice ar1 (r + k) cr1) := hur1
      have HL1 : Hid ((ls1 n).length = r + k ∧ (ls1 (n + 2)).length = r + k) := ⟨len1, len2⟩
      have sz1 := N1'.out.sz
      have lS1 : S < wc.heap.size := N1'.out.bS.lt
      clear hur1 len1 len2
      go_wp2_with (at_builtin; refine wpList_append_own_at _ rfl (.tmp 102) (.tmp 104) 22 rfl (Bm + 1) 3 i3 (.int .i64 0) 1 8 Try.underlying22 hi3 hx0 hx1 hx2 rfl (by decide) (.slice ar1 (r + k) cr1) (r + k) ((ls1 n).map (Value.int .i64)) rfl (FR1.out.alloc _) ⟨wc.heap.size, 0, none⟩ 1 1 [.int .i64 ((t : Nat) : Int)] rfl rfl ?d1 ?d2 ?d3 ?d4 ?d5 ?_)
      case d1 => exact cell_one_new _ _ _
      case d2 => intro u hu; simp at hu; subst hu; rfl
      case d3 => unfold maxLen; omega
      case d4 => omega
      case d5 => simp; omega
      intro u9 w9 hown9 hg9 _ hloc9
      have P9 := PS.out.grow (w' := w9) (j := n) (by omega) HU1.out HL1.out.1 hown9 hg9 (by simpa using hloc9)
      have FR2 : Hid (w9.ownsRow (Bm + 1) 3 1 (us1 (n + 2)) (r + k) ((ls1 (n + 2)).map (Value.int .i64))) := by
        have h := P9.ns.fam.row (n + 2) (by omega)
        rw [upd_ne _ _ (by omega), upd_ne _ _ (by omega), HL1.out.2] at h
        exact h
      obtain ⟨a9, c9, hu9⟩ := ownsRow_shape hown9
      subst hu9
      obtain ⟨us2, hus2⟩ : ∃ us2, us2 = upd us1 n (.slice a9 (r + k + 1) c9) := ⟨_, rfl⟩
      obtain ⟨ls2, hls2⟩ : ∃ ls2, ls2 = upd ls1 n (ls1 n ++ [((t : Nat) : Int)]) := ⟨_, rfl⟩
      have z5 := P9.ns.bS.cell 5
      have zf5 := P9.ns.bS.free 5
      have P10 := P9.setR
      rw [← hus2, ← hls2] at P10
      obtain ⟨w10, hw10⟩ : ∃ w10, w10 = w9.setCell ⟨S, 5, none⟩ (.slice a9 (r + k + 1) c9) := ⟨_, rfl⟩
      rw [← hw10] at P10
      have FR3 : Hid (w10.ownsRow (Bm + 1) 3 1 (us1 (n + 2)) (r + k) ((ls1 (n + 2)).map (Value.int .i64))) := by
        have h := P10.ns.fam.row (n + 2) (by omega)
        rw [hus2, hls2, upd_ne _ _ (by omega), upd_ne _ _ (by omega), HL1.out.2] at h
        exact h
      have U2 : Hid (us2 = upd us1 n (.slice a9 (r + k + 1) c9)) := hus2
      have L2 : Hid (ls2 = upd ls1 n (ls1 n ++ [((t : Nat) : Int)])) := hls2
      have PT : Hid (Pst w w10 H n items S bp bs bt bf bq bd Bm us2 us2 ls2 fr2 b9 xx yy (r + k + 1) D1) := P10
      have W10 : Hid (w10 = w9.setCell ⟨S, 5, none⟩ (.slice a9 (r + k + 1) c9)) := hw10
      have sz10 := P10.ns.sz
      clear hown9 hg9 hloc9 P9 P10 hus2 hls2 hw10 q5 FR2 FR1 HU1
      go_upto_region 18 with fail
      rw [← W10.out]
      clear z5 zf5
      go_wp2_with (at_builtin; refine wpList_append_own_at _ rfl (.tmp 108) (.tmp 110) 22 rfl (Bm + 1) 3 i3 (.int .i64 0) 1 8 Try.underlying22 hi3 hx0 hx1 hx2 rfl (by decide) (us1 (n + 2)) (r + k) ((ls1 (n + 2)).map (Value.int .i64)) rfl (FR3.out.alloc _) ⟨w10.heap.size, 0, none⟩ 1 1 [.int .i64 ((idv p (r + k) : Nat) : Int)] rfl rfl ?d1 ?d2 ?d3 ?d4 ?d5 ?_)
      case d1 => exact cell_one_new _ _ _
      case d2 => intro u hu; simp at hu; subst hu; rfl
      case d3 => unfold maxLen; omega
      case d4 => omega
      case d5 => simp; omega
      intro u9 w11 hown9 hg9 _ hloc9
      have e2l : ls2 (n + 2) = ls1 (n + 2) := by rw [L2.out, upd_ne _ _ (by omega)]
      have P11 := (PT.out.grow (w' := w11) (j := n + 2) (by omega) (show us2 (n + 2) = us1 (n + 2) by rw [U2.out, upd_ne _ _ (by omega)]) (show (ls2 (n + 2)).length = r + k by rw [e2l]; exact HL1.out.2) (by rw [e2l]; exact hown9) hg9 (by simpa using hloc9)).setV
      obtain ⟨us3, hus3⟩ : ∃ us3, us3 = upd us2 (n + 2) u9 := ⟨_, rfl⟩
      obtain ⟨ls3, hls3⟩ : ∃ ls3, ls3 = upd ls2 (n + 2) (ls2 (n + 2) ++ [((idv p (r + k) : Nat) : Int)]) := ⟨_, rfl⟩
      rw [← hus3, ← hls3] at P11
      have U3 : Hid (u9 = us3 (n + 2)) := by show _ = _; rw [hus3, upd_same]
      have L3 : Hid (ls3 = upd ls2 (n + 2) (ls2 (n + 2) ++ [((idv p (r + k) : Nat) : Int)])) := hls3
      have PU : Hid (Pst w w11 H n items S bp bs bt bf bq bd Bm us3 us3 ls3 fr2 b9 xx yy (r + k + 1) D1) := P11
      have T3 : Hid (ls3 t = ls t) := by show _ = _; rw [hls3, upd_ne _ _ (by omega), L2.out, upd_ne _ _ (by omega), LS1.out, upd_ne _ _ (by omega)]
      obtain ⟨as3, cs3, hus⟩ := ownsRow_shape (P11.ns.fam.row t (by omega))
      obtain ⟨lsn, hlsn⟩ : ∃ lsn, lsn = (ls3 t).length := ⟨_, rfl⟩
      rw [← hlsn] at hus
      have hlsb : lsn ≤ k := by rw [hlsn, T3.out, LS.out.cur hlt]; exact srcN_len _ _
      have hlsm : lsn ≤ 1048576 := by omega
      have x2 := P11.ns.bS.cell 2
      have x3 : w11.cell? ⟨bs, t, none⟩ = some (.slice as3 lsn cs3) := by rw [P11.ns.bs.cell t, rowOf_get _ hlt, hus]
      have x4 := P11.b.cell 1
      have RS : Hid (Rw w11 as3 lsn cs3 (ints .i64 (fun i => (ls3 t).getD i 0))) := by
        have h := P11.ns.fam.row t (by omega)
        rw [hus, ← hlsn] at h
        exact fam_rw h
      have US3 : Hid (us3 t = .slice as3 lsn cs3) := hus
      have LN3 : Hid (lsn = (ls3 t).length) := hlsn
      have sz11 := P11.ns.sz
      rw [U3.out]
      clear hown9 hg9 hloc9 P11 hus3 hls3 hus hlsn e2l
      have STEP : Hid ((yy ∈ ls t → Lsp n rS rw p t (k + 1) (r + k + 1) ls3) ∧ (yy ∉ ls t → Lsp n rS rw p t (k + 1) (r + k + 1) (upd ls3 t (ls3 t ++ [yy])))) := LS.out.step hlt (by rw [HRE.out.1, YY.out]; rfl) LS1.out L2.out L3.out
      by_cases hin : yy ∈ ls t
      · have HIN : Hid (yy ∈ ls t) := hin
        have hbt : ∃ i, i < lsn ∧ (ls3 t).getD i 0 = yy := by
          rw [← T3.out] at hin
          obtain ⟨i, hi, e⟩ := List.getElem_of_mem hin
          exact ⟨i, by rw [LN3.out]; exact hi, by simp [List.getD, hi, e]⟩
        have HBT : Hid (∃ i, i < lsn ∧ (ls3 t).getD i 0 = yy) := hbt
        clear hin hbt
        go_wp2
        go_quiet (exact has_quiet as3 lsn cs3 (fun i => (ls3 t).getD i 0) yy w11 _ RS.out hlsm true ⟨fun _ => HBT.out, fun _ => rfl⟩)
        go_wp2
        go_roundw
        case rel => exact ⟨k + 1, us3, ls3, D1, by omega, by go_num, rfl, ⟨(PU.out.drewN _).ns, (PU.out.drewN _).om, M1.out, STEP.out.1 HIN.out⟩⟩
        case measure => simp [intOf]; omega
      ·
        have HIN : Hid (yy ∉ ls t) := hin
        have hbt : ¬ ∃ i, i < lsn ∧ (ls3 t).getD i 0 = yy := by
          rintro ⟨i, hi, e⟩
          rw [← T3.out] at hin
          rw [LN3.out] at hi
          exact hin (by rw [← e]; simp only [List.getD, List.getElem?_eq_getElem hi, Option.getD_some]; exact List.getElem_mem hi)
        have HBT : Hid (NoIdx lsn (ls3 t) yy) := hbt
        clear hin hbt
        go_wp2
        go_quiet (exact has_quiet_no as3 lsn cs3 (ls3 t) yy w11 _ RS.out hlsm HBT.out)
        go_wp2
        obtain ⟨w12, hw12⟩ : ∃ w12, w12 = w11.drewN nq := ⟨_, rfl⟩
        rw [← hw12]
        have PV : Hid (Pst w w12 H n items S bp bs bt bf bq bd Bm us3 us3 ls3 fr2 b9 xx yy (r + k + 1) D1) := by rw [hw12]; exact PU.out.drewN _
        have FR : Hid (w12.ownsRow (Bm + 1) 3 1 (.slice as3 lsn cs3) lsn ((ls3 t).map (Value.int .i64))) := by
          have h := PV.out.ns.fam.row t (by omega)
          rw [US3.out, ← LN3.out] at h
          exact h
        clear x2 x3 x4 hw12
        have y2 := PV.out.ns.bS.cell 2
        have y3 : w12.cell? ⟨bs, t, none⟩ = some (.slice as3 lsn cs3) := by rw [PV.out.ns.bs.cell t, rowOf_get _ hlt, US3.out]
        have y4 := PV.out.b.cell 1
        have l12 : b9 < w12.heap.size := PV.out.b.lt
        have lS12 : S < w12.heap.size := PV.out.ns.bS.lt
        have ls12 : bs < w12.heap.size := PV.out.ns.bs.lt
        have nS12 : S ≠ w12.heap.size := by omega
        have ns12 : bs ≠ w12.heap.size := by omega
        have nb12 : b9 ≠ w12.heap.size := by omega
        have s12 := PV.out.ns.sz
        have nSs : S ≠ bs := fun e => DB.out.S'.2.1 e.symm
        have nbs : b9 ≠ bs := by have := DB.out.ls; omega
        obtain ⟨VV, hVV⟩ : ∃ VV : Nat → Option Value, VV = fun i => match i with | 0 => some ((.pointer (some ⟨S, 0, none⟩))) | 1 => some ((.pointer (some ⟨S, 0, none⟩))) | 2 => some (.pointer (some ⟨S, 2, none⟩)) | 3 => some (.slice (some ⟨bs, 0, none⟩) n n) | 4 => some (.int .i64 (t : Int)) | 5 => some ((.pointer (some ⟨S, 0, none⟩))) | 6 => some ((.pointer (some ⟨S, 0, none⟩))) | 7 => some (.pointer (some ⟨S, 2, none⟩)) | 8 => some (.slice (some ⟨bs, 0, none⟩) n n) | 9 => some (.int .i64 (t : Int)) | 10 => some (.pointer (some ⟨bs, t, none⟩)) | 11 => some (.slice as3 lsn cs3) | 12 => some (.pointer (some ⟨b9, 1, none⟩)) | 13 => some (.int .i32 yy) | 14 => some (.int .i64 yy) | 17 => some (.pointer (some ⟨bs, t, none⟩)) | _ => none := ⟨_, rfl⟩
        have v0 : VV 0 = some ((.pointer (some ⟨S, 0, none⟩))) := by rw [hVV]; rfl
        have v1 : VV 1 = some ((.pointer (some ⟨S, 0, none⟩))) := by rw [hVV]; rfl
        have v2 : VV 2 = some (.pointer (some ⟨S, 2, none⟩)) := by rw [hVV]; rfl
        have v3 : VV 3 = some (.slice (some ⟨bs, 0, none⟩) n n) := by rw [hVV]; rfl
        have v4 : VV 4 = some (.int .i64 (t : Int)) := by rw [hVV]; rfl
        have v5 : VV 5 = some ((.pointer (some ⟨S, 0, none⟩))) := by rw [hVV]; rfl
        have v6 : VV 6 = some ((.pointer (some ⟨S, 0, none⟩))) := by rw [hVV]; rfl
        have v7 : VV 7 = some (.pointer (some ⟨S, 2, none⟩)) := by rw [hVV]; rfl
        have v8 : VV 8 = some (.slice (some ⟨bs, 0, none⟩) n n) := by rw [hVV]; rfl
        have v9 : VV 9 = some (.int .i64 (t : Int)) := by rw [hVV]; rfl
        have v10 : VV 10 = some (.pointer (some ⟨bs, t, none⟩)) := by rw [hVV]; rfl
        have v11 : VV 11 = some (.slice as3 lsn cs3) := by rw [hVV]; rfl
        have v12 : VV 12 = some (.pointer (some ⟨b9, 1, none⟩)) := by rw [hVV]; rfl
        have v13 : VV 13 = some (.int .i32 yy) := by rw [hVV]; rfl
        have v14 : VV 14 = some (.int .i64 yy) := by rw [hVV]; rfl
        have v17 : VV 17 = some (.pointer (some ⟨bs, t, none⟩)) := by rw [hVV]; rfl
        have vB : VV 15 = none := by rw [hVV]; rfl
        have vA : VV 16 = none := by rw [hVV]; rfl
        have vS : VV 18 = none := by rw [hVV]; rfl
        clear hVV
        obtain ⟨GG, hGG⟩ : ∃ GG : Value → World → Prop, GG = fun v w8 => ∃ g cap, v = .slice (some ⟨g, 0, none⟩) (lsn + 1) cap ∧ Pst w w8 H n items S bp bs bt bf bq bd Bm us3 (upd us3 t v) (upd ls3 t (ls3 t ++ [yy])) fr2 b9 xx yy (r + k + 1) D1 := ⟨_, rfl⟩
        have HGG : Hid (GG = fun v w8 => ∃ g cap, v = .slice (some ⟨g, 0, none⟩) (lsn + 1) cap ∧ Pst w w8 H n items S bp bs bt bf bq bd Bm us3 (upd us3 t v) (upd ls3 t (ls3 t ++ [yy])) fr2 b9 xx yy (r + k + 1) D1) := hGG
        clear hGG
        have KT : (t : Int) < (n : Int) := kt
        obtain ⟨CC, hCC⟩ : ∃ CC : World → Prop, CC = fun W => W.cell? ⟨S, 2, none⟩ = some (.slice (some ⟨bs, 0, none⟩) n n) ∧ W.cell? ⟨b9, 1, none⟩ = some (.int .i32 yy) ∧ W.cell? ⟨bs, t, none⟩ = some (.slice as3 lsn cs3) := ⟨_, rfl⟩
        have CCI : ∀ W, CC W → W.cell? ⟨S, 2, none⟩ = some (.slice (some ⟨bs, 0, none⟩) n n) ∧ W.cell? ⟨b9, 1, none⟩ = some (.int .i32 yy) ∧ W.cell? ⟨bs, t, none⟩ = some (.slice as3 lsn cs3) := by rw [hCC]; exact fun W h => h
        have CC0 : CC w12.drew := by rw [hCC]; exact PV.out.drew.src hlt US3.out
        have CC1 : CC (w12.drew.alloc (.cells #[.int .i64 yy] 3)) := by rw [hCC]; have h := PV.out.drew.src hlt US3.out; have hb : Below w12.drew.heap.size w12.drew (w12.drew.alloc (.cells #[.int .i64 yy] 3)) := below_alloc (Below.refl _ _) _; exact ⟨cell_later hb h.1, cell_later hb h.2.1, cell_later hb h.2.2⟩
        have CC2 : ∀ v w8, GG v w8 → CC w8 := by rw [HGG.out, hCC]; rintro v w8 ⟨g, cap, _, h⟩; exact h.src hlt US3.out
        have RUN : Hid (∃ g cap w8, (Builtin.append_ #[22, 22] 22 #[.slice as3 lsn cs3, .slice (some ⟨w12.drew.heap.size, 0, none⟩) 1 1]).run Try.prog (w12.drew.alloc (.cells #[.int .i64 yy] 3)) = .ok (.slice (some ⟨g, 0, none⟩) (lsn + 1) cap) w8 ∧ GG (.slice (some ⟨g, 0, none⟩) (lsn + 1) cap) w8) := by
          obtain ⟨g, cap, w8, h1, h2, h3, h4⟩ := run_app PV.out.drew.ns yy (show t < 2 * n + 3 by omega) US3.out LN3.out.symm hlsm
          exact ⟨g, cap, w8, h1, by rw [HGG.out]; exact ⟨g, cap, rfl, PV.out.drew.grow (by omega) US3.out LN3.out.symm h2 h3 h4⟩⟩
        have STO : Hid (∀ v w8, GG v w8 → ∃ g cap, v = .slice (some ⟨g, 0, none⟩) (lsn + 1) cap ∧ ∃ u0, w8.cell? ⟨bs, t, none⟩ = some u0 ∧ w8.frozen? ⟨bs, t, none⟩ = false) := by
          rw [HGG.out]
          rintro v w8 ⟨g, cap, e, h⟩
          exact ⟨g, cap, e, _, (h.src hlt US3.out).2.2, h.ns.bs.free t⟩
        have FIN : Hid (∀ v w8, GG v w8 → ∃ g cap, v = .slice (some ⟨g, 0, none⟩) (lsn + 1) cap ∧ Pst w (w8.setCell ⟨bs, t, none⟩ v) H n items S bp bs bt bf bq bd Bm (upd us3 t v) (upd us3 t v) (upd ls3 t (ls3 t ++ [yy])) fr2 b9 xx yy (r + k + 1) D1) := by
          rw [HGG.out]
          rintro v w8 ⟨g, cap, e, h⟩
          exact ⟨g, cap, e, h.setS hlt⟩
        clear hCC
        generalize hbase : (Act.mk _ _) = base
        have hsz : base.tmps.size = 236 := by rw [← hbase]; rfl
        have e4 : base.eval (.tmp 4) = .pointer (some ⟨S, 0, none⟩) := by rw [← hbase]; rfl
        have e7 : base.eval (.tmp 7) = .int .i64 (t : Int) := by rw [← hbase]; rfl
        have e9 : base.eval (.tmp 9) = .pointer (some ⟨b9, 0, none⟩) := by rw [← hbase]; rfl
        have hD : ([124, 125, 126, 127, 128, 129, 130, 131, 132, 133, 134, 135, 136, 137, 138, 139, 140, 141] : List Nat).Nodup := by decide
        refine wp_region_inv (by kernel_rfl) (fun listed a w' => listed.size = 19 ∧ (listed.getD 18 false = true → ∀ j, j < 18 → listed.getD j false = true) ∧ ∃ x, a = fr base x [124, 125, 126, 127, 128, 129, 130, 131, 132, 133, 134, 135, 136, 137, 138, 139, 140, 141] ∧ Ap (cstV VV 124) 15 16 18 (124 + 15) (124 + 16) w12.drew (.cells #[.int .i64 yy] 3) GG (fun v w8 => w8.setCell ⟨bs, t, none⟩ v) (fun i => listed.getD i false) x w') ?start ?step ?stop
        case start =>
          refine ⟨rfl, fun h => ?_, fun d => base.eval (.tmp d), ?_, ?_⟩
          · exfalso; revert h; show ¬ ((Array.replicate 19 false).getD 18 false = true); simp [Array.getD]
          · exact (fr_self (by rw [hsz]; decide)).symm
          · have e0 : (fun i => (Array.replicate 19 false).getD i false) = fun _ => false := by funext i; simp [Array.getD]
            show Ap (cstV VV 124) 15 16 18 (124 + 15) (124 + 16) w12.drew (.cells #[.int .i64 yy] 3) GG (fun v w8 => w8.setCell ⟨bs, t, none⟩ v) (fun i => (Array.replicate 19 false).getD i false) _ _
            rw [e0]
            exact Ap.start _ _
        case step =>
          rintro listed a w1 i o ⟨hls, hlast, x, rfl, A⟩ ho h0 hall
          have hL : ∀ j, j ≠ i → (listed.setIfInBounds i true).getD j false = listed.getD j false := fun j hj => getD_set_ne false (fun e => hj e.symm)
          have hsize : (listed.setIfInBounds i true).size = 19 := by simpa using hls
          have hi : i < 19 := (Array.getElem?_eq_some_iff.1 ho).1
          have h0' : listed.getD i false = false := by simpa [Array.getD, hls, hi] using h0
          have hT : (listed.setIfInBounds i true).getD i false = true := by simp [Array.getD, hls, hi]
          have hS : i ≠ 18 → listed.getD 18 false = false := fun hne => by
            cases q : listed.getD 18 false with
            | false => rfl
            | true => have q2 := hlast q i (by omega); rw [h0'] at q2; cases q2
          have ALL : i ≠ 18 → (listed.setIfInBounds i true).getD 18 false = true → ∀ j, j < 18 → (listed.setIfInBounds i true).getD j false = true := fun hne q => by rw [hL 18 (fun e => hne e.symm), hS hne] at q; cases q
          have IN : ∀ d, d < 236 → d ∈ ([124, 125, 126, 127, 128, 129, 130, 131, 132, 133, 134, 135, 136, 137, 138, 139, 140, 141] : List Nat) → (fr base x [124, 125, 126, 127, 128, 129, 130, 131, 132, 133, 134, 135, 136, 137, 138, 139, 140, 141]).eval (.tmp d) = x d := fun d h1 h2 => fr_in (by rw [hsz]; exact h1) h2
          have O4 : (fr base x [124, 125, 126, 127, 128, 129, 130, 131, 132, 133, 134, 135, 136, 137, 138, 139, 140, 141]).eval (.tmp 4) = .pointer (some ⟨S, 0, none⟩) := (fr_out (by decide)).trans e4
          have O7 : (fr base x [124, 125, 126, 127, 128, 129, 130, 131, 132, 133, 134, 135, 136, 137, 138, 139, 140, 141]).eval (.tmp 7) = .int .i64 (t : Int) := (fr_out (by decide)).trans e7
          have O9 : (fr base x [124, 125, 126, 127, 128, 129, 130, 131, 132, 133, 134, 135, 136, 137, 138, 139, 140, 141]).eval (.tmp 9) = .pointer (some ⟨b9, 0, none⟩) := (fr_out (by decide)).trans e9
          have PT : ∀ d v, d ∈ ([124, 125, 126, 127, 128, 129, 130, 131, 132, 133, 134, 135, 136, 137, 138, 139, 140, 141] : List Nat) → (fr base x [124, 125, 126, 127, 128, 129, 130, 131, 132, 133, 134, 135, 136, 137, 138, 139, 140, 141]).put (some d) v = fr base (upd x d v) [124, 125, 126, 127, 128, 129, 130, 131, 132, 133, 134, 135, 136, 137, 138, 139, 140, 141] := fun d v h => fr_put v hD h
          have CW : i ≠ 18 → CC w1 := fun hne => Go.Proofs.Qxb6602948a.Ap.within A (hS hne) CC0 CC1 CC2
          obtain rfl | rfl | rfl | rfl | rfl | rfl | rfl | rfl | rfl | rfl | rfl | rfl | rfl | rfl | rfl | rfl | rfl | rfl | rfl : i = 0 ∨ i = 1 ∨ i = 2 ∨ i = 3 ∨ i = 4 ∨ i = 5 ∨ i = 6 ∨ i = 7 ∨ i = 8 ∨ i = 9 ∨ i = 10 ∨ i = 11 ∨ i = 12 ∨ i = 13 ∨ i = 14 ∨ i = 15 ∨ i = 16 ∨ i = 17 ∨ i = 18 := by omega
          · have ho2 : some _ = some o := ho
            injection ho2 with ho3
            subst ho3
            exact wpOp_run ho rfl (v := (.pointer (some ⟨S, 0, none⟩))) (w' := w1) (ex_move _ _ _ _ _ _ _ _ O4) ⟨hsize, ALL (by decide), _, PT 124 _ (by decide), apv_const A 0 v0 ⟨by decide, by decide, by decide⟩ hL⟩
          · have ho2 : some _ = some o := ho
            injection ho2 with ho3
            subst ho3
            exact wpOp_run ho rfl (v := (.pointer (some ⟨S, 0, none⟩))) (w' := w1) (ex_nilc _ _ _ _ _ _ 124 _ ((IN 124 (by decide) (by decide)).trans (apv_known A 0 v0 (hall ⟨0, .data⟩ (by simp) rfl)))) ⟨hsize, ALL (by decide), _, PT 125 _ (by decide), apv_const A 1 v1 ⟨by decide, by decide, by decide⟩ hL⟩
          · have ho2 : some _ = some o := ho
            injection ho2 with ho3
            subst ho3
            exact wpOp_run ho rfl (v := .pointer (some ⟨S, 2, none⟩)) (w' := w1) (ex_field2 _ _ _ _ _ _ 125 _ ((IN 125 (by decide) (by decide)).trans (apv_known A 1 v1 (hall ⟨1, .data⟩ (by simp) rfl)))) ⟨hsize, ALL (by decide), _, PT 126 _ (by decide), apv_const A 2 v2 ⟨by decide, by decide, by decide⟩ hL⟩
          · have ho2 : some _ = some o := ho
            injection ho2 with ho3
            subst ho3
            exact wpOp_run ho rfl (v := .slice (some ⟨bs, 0, none⟩) n n) (w' := w1) (ex_load41 _ _ _ _ _ _ 126 S 2 n (some ⟨bs, 0, none⟩) n ((IN 126 (by decide) (by decide)).trans (apv_known A 2 v2 (hall ⟨2, .data⟩ (by simp) rfl))) (CCI _ (CW (by decide))).1) ⟨hsize, ALL (by decide), _, PT 127 _ (by decide), apv_const A 3 v3 ⟨by decide, by decide, by decide⟩ hL⟩
          · have ho2 : some _ = some o := ho
            injection ho2 with ho3
            subst ho3
            exact wpOp_run ho rfl (v := .int .i64 (t : Int)) (w' := w1) (ex_move _ _ _ _ _ _ _ _ O7) ⟨hsize, ALL (by decide), _, PT 128 _ (by decide), apv_const A 4 v4 ⟨by decide, by decide, by decide⟩ hL⟩
          · have ho2 : some _ = some o := ho
            injection ho2 with ho3
            subst ho3
            exact wpOp_run ho rfl (v := (.pointer (some ⟨S, 0, none⟩))) (w' := w1) (ex_move _ _ _ _ _ _ _ _ O4) ⟨hsize, ALL (by decide), _, PT 129 _ (by decide), apv_const A 5 v5 ⟨by decide, by decide, by decide⟩ hL⟩
          · have ho2 : some _ = some o := ho
            injection ho2 with ho3
            subst ho3
            exact wpOp_run ho rfl (v := (.pointer (some ⟨S, 0, none⟩))) (w' := w1) (ex_nilc _ _ _ _ _ _ 129 _ ((IN 129 (by decide) (by decide)).trans (apv_known A 5 v5 (hall ⟨5, .data⟩ (by simp) rfl)))) ⟨hsize, ALL (by decide), _, PT 130 _ (by decide), apv_const A 6 v6 ⟨by decide, by decide, by decide⟩ hL⟩
          · have ho2 : some _ = some o := ho
            injection ho2 with ho3
            subst ho3
            exact wpOp_run ho rfl (v := .pointer (some ⟨S, 2, none⟩)) (w' := w1) (ex_field2 _ _ _ _ _ _ 130 _ ((IN 130 (by decide) (by decide)).trans (apv_known A 6 v6 (hall ⟨6, .data⟩ (by simp) rfl)))) ⟨hsize, ALL (by decide), _, PT 131 _ (by decide), apv_const A 7 v7 ⟨by decide, by decide, by decide⟩ hL⟩
          · have ho2 : some _ = some o := ho
            injection ho2 with ho3
            subst ho3
            exact wpOp_run ho rfl (v := .slice (some ⟨bs, 0, none⟩) n n) (w' := w1) (ex_load41 _ _ _ _ _ _ 131 S 2 n (some ⟨bs, 0, none⟩) n ((IN 131 (by decide) (by decide)).trans (apv_known A 7 v7 (hall ⟨7, .data⟩ (by simp) rfl))) (CCI _ (CW (by decide))).1) ⟨hsize, ALL (by decide), _, PT 132 _ (by decide), apv_const A 8 v8 ⟨by decide, by decide, by decide⟩ hL⟩
          · have ho2 : some _ = some o := ho
            injection ho2 with ho3
            subst ho3
            exact wpOp_run ho rfl (v := .int .i64 (t : Int)) (w' := w1) (ex_move _ _ _ _ _ _ _ _ O7) ⟨hsize, ALL (by decide), _, PT 133 _ (by decide), apv_const A 9 v9 ⟨by decide, by decide, by decide⟩ hL⟩
          · have ho2 : some _ = some o := ho
            injection ho2 with ho3
            subst ho3
            exact wpOp_run ho rfl (v := .pointer (some ⟨bs, t, none⟩)) (w' := w1) (ex_index _ _ _ _ _ _ 132 133 _ _ _ ((IN 132 (by decide) (by decide)).trans (apv_known A 8 v8 (hall ⟨8, .data⟩ (by simp) rfl))) ((IN 133 (by decide) (by decide)).trans (apv_known A 9 v9 (hall ⟨9, .data⟩ (by simp) rfl))) KT) ⟨hsize, ALL (by decide), _, PT 134 _ (by decide), apv_const A 10 v10 ⟨by decide, by decide, by decide⟩ hL⟩
          · have ho2 : some _ = some o := ho
            injection ho2 with ho3
            subst ho3
            exact wpOp_run ho rfl (v := .slice as3 lsn cs3) (w' := w1) (ex_load22 _ _ _ _ _ _ 134 bs t lsn as3 cs3 ((IN 134 (by decide) (by decide)).trans (apv_known A 10 v10 (hall ⟨10, .data⟩ (by simp) rfl))) (CCI _ (CW (by decide))).2.2) ⟨hsize, ALL (by decide), _, PT 135 _ (by decide), apv_const A 11 v11 ⟨by decide, by decide, by decide⟩ hL⟩
          · have ho2 : some _ = some o := ho
            injection ho2 with ho3
            subst ho3
            exact wpOp_run ho rfl (v := .pointer (some ⟨b9, 1, none⟩)) (w' := w1) (ex_field59 _ _ _ _ _ _ 9 _ O9) ⟨hsize, ALL (by decide), _, PT 136 _ (by decide), apv_const A 12 v12 ⟨by decide, by decide, by decide⟩ hL⟩
          · have ho2 : some _ = some o := ho
            injection ho2 with ho3
            subst ho3
            exact wpOp_run ho rfl (v := .int .i32 yy) (w' := w1) (ex_load21 _ _ _ _ _ _ 136 b9 1 yy ((IN 136 (by decide) (by decide)).trans (apv_known A 12 v12 (hall ⟨12, .data⟩ (by simp) rfl))) (CCI _ (CW (by decide))).2.1) ⟨hsize, ALL (by decide), _, PT 137 _ (by decide), apv_const A 13 v13 ⟨by decide, by decide, by decide⟩ hL⟩
          · have ho2 : some _ = some o := ho
            injection ho2 with ho3
            subst ho3
            exact wpOp_run ho rfl (v := .int .i64 yy) (w' := w1) (ex_conv _ _ _ _ _ _ 137 _ ((IN 137 (by decide) (by decide)).trans (apv_known A 13 v13 (hall ⟨13, .data⟩ (by simp) rfl))) hyw) ⟨hsize, ALL (by decide), _, PT 138 _ (by decide), apv_const A 14 v14 ⟨by decide, by decide, by decide⟩ hL⟩
          · have ho2 : some _ = some o := ho
            injection ho2 with ho3
            subst ho3
            obtain ⟨hw1, AB⟩ := A.build h0' (apv_no vB) (by unfold cstV; rw [vB]; rfl) (by decide) (by decide) (by decide) hL hT
            subst hw1
            exact wpOp_run ho rfl (ex_build _ _ _ _ _ _ 138 yy ((IN 138 (by decide) (by decide)).trans (apv_known A 14 v14 (hall ⟨14, .data⟩ (by simp) rfl)))) ⟨hsize, ALL (by decide), _, PT 139 _ (by decide), AB⟩
          · have ho2 : some _ = some o := ho
            injection ho2 with ho3
            subst ho3
            obtain ⟨⟨hw1, hxB⟩, AA⟩ := A.append h0' (hall ⟨15, .data⟩ (by simp) rfl) (apv_no vA) (by unfold cstV; rw [vA]; rfl) (by decide) (by decide) hL hT
            subst hw1
            obtain ⟨g, cap, w8, hrun, hG⟩ := RUN.out
            exact wpOp_run ho rfl (ex_append _ _ _ _ _ _ 135 139 _ _ _ _ ((IN 135 (by decide) (by decide)).trans (apv_known A 11 v11 (hall ⟨11, .data⟩ (by simp) rfl))) ((IN 139 (by decide) (by decide)).trans hxB) hrun) ⟨hsize, ALL (by decide), _, PT 140 _ (by decide), AA _ _ hG⟩
          · have ho2 : some _ = some o := ho
            injection ho2 with ho3
            subst ho3
            exact wpOp_run ho rfl (v := .pointer (some ⟨bs, t, none⟩)) (w' := w1) (ex_index _ _ _ _ _ _ 127 128 _ _ _ ((IN 127 (by decide) (by decide)).trans (apv_known A 3 v3 (hall ⟨3, .data⟩ (by simp) rfl))) ((IN 128 (by decide) (by decide)).trans (apv_known A 4 v4 (hall ⟨4, .data⟩ (by simp) rfl))) KT) ⟨hsize, ALL (by decide), _, PT 141 _ (by decide), apv_const A 17 v17 ⟨by decide, by decide, by decide⟩ hL⟩
          · have ho2 : some _ = some o := ho
            injection ho2 with ho3
            subst ho3
            have hA : listed.getD 16 false = true := hall ⟨16, .data⟩ (by simp) rfl
            obtain ⟨hG, AS⟩ := A.store h0' hA (by unfold cstV; rw [vS]; rfl) (by decide) (by decide) hL hT
            obtain ⟨g, cap, hxA, u0, hc, hf⟩ := STO.out _ _ hG
            refine wpOp_skip ho rfl (ex_store _ _ _ _ _ _ 141 140 bs t (some ⟨g, 0, none⟩) (lsn + 1) cap u0 ((IN 141 (by decide) (by decide)).trans (apv_known A 17 v17 (hall ⟨17, .data⟩ (by simp) rfl))) ((IN 140 (by decide) (by decide)).trans hxA) hc hf) ⟨hsize, fun _ j hj => ?_, x, put_none _ _, by rw [hxA] at AS; exact AS⟩
            by_cases e : j = 17
            · subst e; rw [hL 17 (by decide)]; exact hall ⟨17, .data⟩ (by simp) rfl
            · rw [hL j (by omega)]
              obtain rfl | rfl | rfl | rfl | rfl | rfl | rfl | rfl | rfl | rfl | rfl | rfl | rfl | rfl | rfl | rfl | rfl : j = 0 ∨ j = 1 ∨ j = 2 ∨ j = 3 ∨ j = 4 ∨ j = 5 ∨ j = 6 ∨ j = 7 ∨ j = 8 ∨ j = 9 ∨ j = 10 ∨ j = 11 ∨ j = 12 ∨ j = 13 ∨ j = 14 ∨ j = 15 ∨ j = 16 := by omega
              · exact hall ⟨0, .phase⟩ (by simp) rfl
              · exact hall ⟨1, .phase⟩ (by simp) rfl
              · exact hall ⟨2, .phase⟩ (by simp) rfl
              · exact hall ⟨3, .phase⟩ (by simp) rfl
              · exact hall ⟨4, .phase⟩ (by simp) rfl
              · exact hall ⟨5, .phase⟩ (by simp) rfl
              · exact hall ⟨6, .phase⟩ (by simp) rfl
              · exact hall ⟨7, .phase⟩ (by simp) rfl
              · exact hall ⟨8, .phase⟩ (by simp) rfl
              · exact hall ⟨9, .phase⟩ (by simp) rfl
              · exact hall ⟨10, .phase⟩ (by simp) rfl
              · exact hall ⟨11, .phase⟩ (by simp) rfl
              · exact hall ⟨12, .phase⟩ (by simp) rfl
              · exact hall ⟨13, .phase⟩ (by simp) rfl
              · exact hall ⟨14, .phase⟩ (by simp) rfl
              · exact hall ⟨15, .phase⟩ (by simp) rfl
              · exact hall ⟨16, .phase⟩ (by simp) rfl
        case stop =>
          rintro listed a w1 ⟨hls, hlast, x, rfl, A⟩ hr
          have NR : ∀ i o, i < 19 → (∀ e ∈ o.after, Region.binds .any e = true → listed.getD e.on false = true) → ∀ ops : Array Oper, Region.ready .any ops listed = [] → ops[i]? = some o → listed.getD i false = true := fun i o hi hal ops hr' ho => by
            cases q : listed.getD i false with
            | true => rfl
            | false =>
              have h9 := mem_ready.2 ⟨show listed.getD i true = false by simpa [Array.getD, hls, hi] using q, o, ho, hal⟩
              rw [hr'] at h9
              cases h9
          have l0 := NR 0 _ (by decide) (fun e he hb => by simp at he) _ hr rfl
          have l1 := NR 1 _ (by decide) (fun e he hb => by simp at he; rcases he with rfl <;> assumption) _ hr rfl
          have l2 := NR 2 _ (by decide) (fun e he hb => by simp at he; rcases he with rfl <;> assumption) _ hr rfl
          have l3 := NR 3 _ (by decide) (fun e he hb => by simp at he; rcases he with rfl <;> assumption) _ hr rfl
          have l4 := NR 4 _ (by decide) (fun e he hb => by simp at he) _ hr rfl
          have l5 := NR 5 _ (by decide) (fun e he hb => by simp at he) _ hr rfl
          have l6 := NR 6 _ (by decide) (fun e he hb => by simp at he; rcases he with rfl <;> assumption) _ hr rfl
          have l7 := NR 7 _ (by decide) (fun e he hb => by simp at he; rcases he with rfl <;> assumption) _ hr rfl
          have l8 := NR 8 _ (by decide) (fun e he hb => by simp at he; rcases he with rfl <;> assumption) _ hr rfl
          have l9 := NR 9 _ (by decide) (fun e he hb => by simp at he) _ hr rfl
          have l10 := NR 10 _ (by decide) (fun e he hb => by simp at he; rcases he with rfl | rfl <;> assumption) _ hr rfl
          have l11 := NR 11 _ (by decide) (fun e he hb => by simp at he; rcases he with rfl <;> assumption) _ hr rfl
          have l12 := NR 12 _ (by decide) (fun e he hb => by simp at he) _ hr rfl
          have l13 := NR 13 _ (by decide) (fun e he hb => by simp at he; rcases he with rfl <;> assumption) _ hr rfl
          have l14 := NR 14 _ (by decide) (fun e he hb => by simp at he; rcases he with rfl <;> assumption) _ hr rfl
          have l15 := NR 15 _ (by decide) (fun e he hb => by simp at he; rcases he with rfl <;> assumption) _ hr rfl
          have l16 := NR 16 _ (by decide) (fun e he hb => by simp at he; rcases he with rfl | rfl <;> assumption) _ hr rfl
          have l17 := NR 17 _ (by decide) (fun e he hb => by simp at he; rcases he with rfl | rfl | rfl | rfl | rfl | rfl | rfl | rfl | rfl | rfl | rfl | rfl | rfl | rfl | rfl | rfl | rfl | rfl | rfl <;> assumption) _ hr rfl
          have l18 := NR 18 _ (by decide) (fun e he hb => by simp at he; rcases he with rfl | rfl | rfl | rfl | rfl | rfl | rfl | rfl | rfl | rfl | rfl | rfl | rfl | rfl | rfl | rfl | rfl | rfl | rfl | rfl <;> assumption) _ hr rfl
          obtain ⟨w8, hG, hw8⟩ := A.s3 l18
          subst hw8
          subst hbase
          obtain ⟨g, cap, hxA, hfin⟩ := FIN.out _ _ hG
          have FIN2 : Hid (Pst w (w8.setCell ⟨bs, t, none⟩ (x 140)) H n items S bp bs bt bf bq bd Bm (upd us3 t (x 140)) (upd us3 t (x 140)) (upd ls3 t (ls3 t ++ [yy])) fr2 b9 xx yy (r + k + 1) D1) := hfin
          clear hr NR A hG hls hlast RUN STO FIN CC0 CC1 CC2 v0 v1 v2 v3 v4 v5 v6 v7 v8 v9 v10 v11 v12 v13 v14 v17 vB vA vS l0 l1 l2 l3 l4 l5 l6 l7 l8 l9 l10 l11 l12 l13 l14 l15 l16 l17 l18
          rw [hxA] at FIN2 ⊢
          simp only [fr, Act.put, List.setIfInBounds_toArray, List.set_cons_succ, List.set_cons_zero]
          generalize x 124 = y124
          generalize x 125 = y125
          generalize x 126 = y126
          generalize x 127 = y127
          generalize x 128 = y128
          generalize x 129 = y129
          generalize x 130 = y130
          generalize x 131 = y131
          generalize x 132 = y132
          generalize x 133 = y133
          generalize x 134 = y134
          generalize x 135 = y135
          generalize x 136 = y136
          generalize x 137 = y137
          generalize x 138 = y138
          generalize x 139 = y139
          generalize x 140 = y140
          generalize x 141 = y141
          clear hxA
          go_wp2
          go_roundw
          case rel => exact ⟨k + 1, upd us3 t (.slice (some ⟨g, 0, none⟩) (lsn + 1) cap), upd ls3 t (ls3 t ++ [yy]), D1, by omega, by go_num, (upd_ne _ _ (by omega)).symm, ⟨FIN2.out.ns, FIN2.out.om, M1.out, STEP.out.2 HIN.out⟩⟩
          case measure => simp [intOf]; omega
    · obtain rfl : nr = k := by omega
      have kk : ¬ ((nr : Int) < (nr : Int)) := by omega
      have LN : Hid (Lsp n rS rw p (t + 1) 0 (r + nr) ls) := HN.out.lsp.next hlt (by rw [HRE.out.1, HRE.out.2]; omega)
      go_wp2
      go_roundw
      case rel => exact ⟨t + 1, r + nr, us, ls, fr2, D, by omega, by go_num, rfl, by rw [HRE.out.2]; omega, ⟨HN.out.ns, HN.out.om, HN.out.mv, LN.out⟩, HFR2.out⟩
      case measure => simp [intOf]; omega
  · obtain rfl : n = t := by omega
    have kt : ¬ ((n : Int) < (n : Int)) := by omega
    have kt1 : (n : Int) < (n : Int) + 1 := by omega
    obtain ⟨ar, cr, hur⟩ := ownsRow_shape (HN.out.ns.fam.row n (by omega))
    obtain ⟨aw, cw, huw⟩ := ownsRow_shape (HN.out.ns.fam.row (n + 1) (by omega))
    obtain ⟨av, cv, huv⟩ := ownsRow_shape (HN.out.ns.fam.row (n + 2) (by omega))
    obtain ⟨hlr, hlw0, hlv⟩ := HN.out.lsp.lens (r := r) (k := 0) HF.out ht HQ.out HRT.out
    obtain ⟨lw, hlw⟩ : ∃ lw, lw = (ls (n + 1)).length := ⟨_, rfl⟩
    have hlw2 : lw ≤ r := by rw [hlw]; exact hlw0
    have HLW : Hid (lw = (fo p r).length) := by show _ = _; rw [hlw, HN.out.lsp.wr, List.length_map]
    have lr : r ≤ 16384 := by
      have h1 := HF.out.rs.last
      have h2 := HRT.out
      omega
    simp only [Nat.add_zero] at hlr hlw0 hlv
    rw [hlr] at hur
    rw [hlv] at huv
    rw [← hlw] at huw
    have HUV : Hid (us (n + 2) = .slice av r cv) := huv
    have cS4 := HN.out.ns.bS.cell 4
    have cS5 : wa.cell? ⟨S, 5, none⟩ = some (.slice ar r cr) := by rw [HN.out.ns.bS.cell 5]; show some (us n) = _; rw [hur]
    have cf := (HN.out.ns.bf.cell n).trans (rowOf_get _ (by omega))
    have ff1 := HN.out.ns.bf.free n
    have nbf : S ≠ bf := fun e => HN.out.ns.dis.S'.2.2.2.1 e.symm
    have NS1 : Hid (Nst w (wa.setCell ⟨bf, n, none⟩ (.int .i64 (r : Int))).drew H n items S bp bs bt bf bq bd Bm us us ls (upd frd n (r : Int)) (.slice none 0 0) (.slice none 0 0)) := (HN.out.ns.first n (r : Int)).drew
    have c5' : (wa.setCell ⟨bf, n, none⟩ (.int .i64 (r : Int))).drew.cell? ⟨S, 5, none⟩ = some (.slice ar r cr) := by rw [NS1.out.bS.cell 5]; show some (us n) = _; rw [hur]
    have c9' : (wa.setCell ⟨bf, n, none⟩ (.int .i64 (r : Int))).drew.cell? ⟨S, 9, none⟩ = some (.slice aw lw cw) := by rw [NS1.out.bS.cell 9]; show some (us (n + 1)) = _; rw [huw]
    rw [huv]
    clear hur huw huv hlr hlw hlv hlw0
    go_wp2
    go_region
    obtain ⟨wb, hwb'⟩ : ∃ wb, wb = (wa.setCell ⟨bf, n, none⟩ (.int .i64 (r : Int))).drew := ⟨_, rfl⟩
    rw [← hwb'] at NS1 c5' c9' ⊢
    have lbf := HN.out.ns.dis.lf
    have OM : Hid (Omap wb Bm r D) := HN.out.om.same (by rw [hwb']; exact heap_setCell_other wa _ Bm _ (by simp; omega))
    have MV : Hid (Mv D p r) := HN.out.mv
    have LSP : Hid (Lsp n rS rw p n 0 r ls) := HN.out.lsp
    have HFR2 : Hid (∀ j, j ≤ n → upd frd n (r : Int) j = rS j - (q0 : Int)) := fun j hj => by
      by_cases e : j = n
      · subst e; rw [upd_same, HRT.out]; omega
      · rw [upd_ne _ _ e]; exact HFR.out j (by omega)
    obtain ⟨fr2, hfr2⟩ : ∃ fr2, fr2 = upd frd n (r : Int) := ⟨_, rfl⟩
    rw [← hfr2] at NS1 HFR2
    clear hfr2 hwb' cS4 cS5 cf ff1 nbf HN HFR
    have lSb : S < wb.heap.size := NS1.out.bS.lt
    have HKK : Hid (r + lw ≤ 1048576) := show r + lw ≤ 1048576 by omega
    have hwrap : IntKind.i64.wrap ((r : Int) + (lw : Int)) = (r : Int) + (lw : Int) := by rw [IntKind.wrap_i64]; omega
    go_upto_region 24 with fail
    go_cut [] from 155 to 169 (fun wx => ∃ vn vp, Qst w wx H n items S bp bs bt bf bq bd Bm us us ls fr2 D r (r + lw) vn vp (fun j => if j < r + lw then j else 0) (fun j => if j < r + lw then j else 0))
    case first =>
      clear HB HP WF HF HQ HRT HFR2 MV LSP
      go_region_with (go_at_call 42; refine (reset_sum S r lw (.pointer (some ⟨H, 0, none⟩)) (sl bp n) (sl bs n) (sl bt n) (sl bf (n + 1)) (us n) (sl bq items) (us (n + 1)) (sl bd n) wb.drew NS1.out.drew.bS HKK.out).mono ?_; rintro e wR ⟨vn, vp, rfl, hSR, hbut, h0, h1⟩)
      all_goals (go_wp2_with fail; go_meet; exact ⟨vn, vp, Qst.start NS1.out.drew OM.out hSR hbut h0 h1⟩)
    case rest =>
    obtain ⟨vn, vp, hq⟩ := hcut
    obtain ⟨wl, hwl⟩ : ∃ wl, wl = wc := ⟨_, rfl⟩
    rw [← hwl] at hq ⊢
    have HQS : Hid (Qst w wl H n items S bp bs bt bf bq bd Bm us us ls fr2 D r (r + lw) vn vp (fun j => if j < r + lw then j else 0) (fun j => if j < r + lw then j else 0)) := hq
    have VER : Hid (ls (n + 2) = (List.range r).map (fun j => (idv p j : Int))) := LSP.out.ver
    have HID : Hid (∀ j, j < r → idv p j < lw) := fun j hj => by rw [HLW.out]; exact (idv_at p hj).1
    clear hq hwl NS1 c5' c9' OM lSb
    go_wp2
    go_loopw [172] (fun s wr => ∃ (k : Nat) (N P : Nat → Nat), k ≤ r ∧ s = .int .i64 k ∧ Qst w wr H n items S bp bs bt bf bq bd Bm us us ls fr2 D r (r + lw) vn vp N P ∧ NPis r (r + lw) (idv p) k N P) (fun s _ => r - (intOf s).toNat)
    case atStart => exact ⟨0, _, _, Nat.zero_le _, rfl, HQS.out, NPis.start _ _ _⟩
    case round =>
    clear HQS
    obtain ⟨k, NN, PP, hk, rfl, hq, hnp⟩ := hrel
    obtain ⟨wd, hwd⟩ : ∃ wd, wd = wr := ⟨_, rfl⟩
    subst hwd
    have HQS : Hid (Qst w wd H n items S bp bs bt bf bq bd Bm us us ls fr2 D r (r + lw) vn vp NN PP) := hq
    have HNP : Hid (NPis r (r + lw) (idv p) k NN PP) := hnp
    clear hq hnp
    by_cases hltk : k < r
    ·
      have kk : (k : Int) < (r : Int) := by omega
      obtain ⟨id, hid⟩ : ∃ id, id = idv p k := ⟨_, rfl⟩
      have hidl : id < lw := by rw [hid]; exact HID.out k hltk
      have RV : Rw wd av r cv (ints .i64 (fun i => (ls (n + 2)).getD i 0)) := by
        have h := HQS.out.ns.fam.row (n + 2) (by omega)
        rw [HUV.out, VER.out, List.length_map, List.length_range, ← VER.out] at h
        exact fam_rw h
      obtain ⟨bv, ov, rfl, lbv, dv⟩ := RV.plain (by omega)
      have d1 : wd.cell? ⟨bv, ov + k, none⟩ = some (.int .i64 ((id : Nat) : Int)) := by
        rw [dv k hltk]
        show some (Value.int .i64 ((ls (n + 2)).getD k 0)) = _
        rw [VER.out, hid]
        simp [List.getD, hltk]
      obtain ⟨ar, cr, hur⟩ := ownsRow_shape (HQS.out.ns.fam.row n (by omega))
      have hlr : (ls n).length = r := (LSP.out.lens (r := r) (k := 0) HF.out ht HQ.out HRT.out).1
      rw [hlr] at hur
      have c5 : wd.cell? ⟨S, 5, none⟩ = some (.slice ar r cr) := by rw [HQS.out.ns.bS.cell 5]; show some (us n) = _; rw [hur]
      rcases HQS.out.rg with ⟨e0, _⟩ | ⟨bn, bpp, cn, cp, e1, e2, hrg, l1, l2, hd⟩
      · omega
      have c6 : wd.cell? ⟨S, 6, none⟩ = some (.slice (some ⟨bn, 0, none⟩) (r + lw) cn) := by rw [HQS.out.ns.bS.cell 6]; exact congrArg some e1
      have c7 : wd.cell? ⟨S, 7, none⟩ = some (.slice (some ⟨bpp, 0, none⟩) (r + lw) cp) := by rw [HQS.out.ns.bS.cell 7]; exact congrArg some e2
      have hok := np_ok r lw (idv p) HID.out hltk
      have hPu := (HNP.out (r + id) (by omega)).2
      rw [← hid] at hok
      have HE : Hid (vn = .slice (some ⟨bn, 0, none⟩) (r + lw) cn ∧ vp = .slice (some ⟨bpp, 0, none⟩) (r + lw) cp) := ⟨e1, e2⟩
      have HRG : Hid (Rg wd.drew bn bpp (r + lw) cn cp NN PP) := show Rg wd.drew bn bpp (r + lw) cn cp NN PP from ⟨hrg.n, hrg.p, hrg.ln, hrg.lp, hrg.ne⟩
      have HDD : Hid (∀ j, j < 2 * n + 3 → (us j).ownBlock ≠ some bn ∧ (us j).ownBlock ≠ some bpp) := hd
      have HOK : Hid (PP (r + id) < r + lw ∧ PP (r + id) ≠ k) := by show _ ∧ _; rw [hPu]; exact hok
      have HNS : Hid (NPis r (r + lw) (idv p) (k + 1) (insN NN PP (r + id) k) (insP NN PP (r + id) k)) := by
        have h := HNP.out.step (show r + idv p k < r + lw by rw [← hid]; omega)
        rw [← hid] at h
        exact h
      have HIN : Hid (r + id < r + lw ∧ k < r + lw ∧ r + id ≠ k) := show _ ∧ _ ∧ _ from ⟨by omega, by omega, by omega⟩
      clear dv hur hlr RV e1 e2 hrg hd hok hPu hid
      have hwrap : IntKind.i64.wrap ((r : Int) + ((id : Nat) : Int)) = (r : Int) + ((id : Nat) : Int) := by rw [IntKind.wrap_i64]; omega
      go_upto_region 28 with fail
      go_region_with (go_at_call 43; refine (insert_sum bn bpp (r + lw) cn cp r id k NN PP wd.drew HRG.out HIN.out.1 HIN.out.2.1 HOK.out.1 HKK.out HIN.out.2.2 HOK.out.2).mono ?_; rintro e wI hI; obtain rfl := hI.1)
      all_goals
        have HQ2 : Hid (Qst w wI H n items S bp bs bt bf bq bd Bm us us ls fr2 D r (r + lw) vn vp (insN NN PP (r + id) k) (insP NN PP (r + id) k)) := Qst.insert HQS.out.drew HE.out.1 HE.out.2 l1 l2 HDD.out hI
        clear hI
        go_wp2
        go_roundw
        case rel => exact ⟨k + 1, _, _, by omega, by go_num, HQ2.out, HNS.out⟩
        case measure => simp [intOf]; omega
    · obtain rfl : r = k := by omega
      have kk : ¬ ((r : Int) < (r : Int)) := by omega
      go_wp2
      go_loopw [192] (fun s wr => ∃ (t : Nat) (us : Nat → Value) (ls' : Nat → List Int), t ≤ n ∧ s = .int .i64 t ∧ Qst w wr H n items S bp bs bt bf bq bd Bm us us ls' fr2 D r (r + lw) vn vp NN PP ∧ Wsp n r wS wI p ls t 0 ls') (fun s _ => n - (intOf s).toNat)
      case atStart => exact ⟨0, us, ls, Nat.zero_le _, rfl, HQS.out, Wsp.start LSP.out.wts⟩
      case round =>
      clear HQS
      obtain ⟨t, us, ls', ht', rfl, hq, hws⟩ := hrel
      obtain ⟨wd, hwd⟩ : ∃ wd, wd = wr := ⟨_, rfl⟩
      subst hwd
      have HQS : Hid (Qst w wd H n items S bp bs bt bf bq bd Bm us us ls' fr2 D r (r + lw) vn vp NN PP) := hq
      have WS : Hid (Wsp n r wS wI p ls t 0 ls') := hws
      clear hq hws
      by_cases hltt : t < n
      ·
        have ktt : (t : Int) < (n : Int) := by omega
        obtain ⟨wlo, nw, we1, we2, we3⟩ := HF.out.ws.at' hltt
        have HWE : Hid (wS t = (wlo : Int) ∧ wS (t + 1) = ((wlo + nw : Nat) : Int)) := ⟨we1, we2⟩
        clear we1 we2
        have ch2 := (HB.out.h.later HQS.out.ns.bel).cell
        go_wp2_with fail
        refine (of34 a6 (n + 1) c6 wS a7 N c7 t wlo (wlo + nw) (ints .i32 wI) _ (HB.out.ws.later HQS.out.ns.bel) ?hn hc7.1 hc7.2 (by omega) (by omega) HWE.out.1 HWE.out.2 (by omega) we3).mono ?_
        case hn => exact fun e => (HB.out.wi.1 e)
        rintro e wc2 ⟨av2, cv2, rfl, hrw2, hbv⟩
        rw [show wlo + nw - wlo = nw by omega] at hrw2 ⊢
        have HQ3 : Hid (Qst w wc2 H n items S bp bs bt bf bq bd Bm us us ls' fr2 D r (r + lw) vn vp NN PP) := HQS.out.later hbv hwb
        have RV : Hid (∀ W, Below w.heap.size w W → Rw W av2 nw cv2 (fun j => ints .i32 wI (wlo + j))) := fun W hW => hrw2 W (HB.out.wi.later hW)
        clear HQS hrw2 hbv ch2
        go_wp2
        go_loopw [202] (fun s wr => ∃ (k : Nat) (us : Nat → Value) (ls' : Nat → List Int), k ≤ nw ∧ s = .int .i64 k ∧ Qst w wr H n items S bp bs bt bf bq bd Bm us us ls' fr2 D r (r + lw) vn vp NN PP ∧ Wsp n r wS wI p ls t k ls') (fun s _ => nw - (intOf s).toNat)
        case atStart => exact ⟨0, us, ls', Nat.zero_le _, rfl, HQ3.out, WS.out⟩
        case round =>
        clear HQ3 WS
        obtain ⟨k, us, ls', hk', rfl, hq, hws⟩ := hrel
        obtain ⟨wd, hwd⟩ : ∃ wd, wd = wr := ⟨_, rfl⟩
        subst hwd
        have HQS : Hid (Qst w wd H n items S bp bs bt bf bq bd Bm us us ls' fr2 D r (r + lw) vn vp NN PP) := hq
        have WS : Hid (Wsp n r wS wI p ls t k ls') := hws
        clear hq hws
        by_cases hltk2 : k < nw
        · have kk2 : (k : Int) < (nw : Int) := by omega
          obtain ⟨bv, ov, rfl, lbv, dv⟩ := (RV.out wd HQS.out.ns.bel).plain (by omega)
          obtain ⟨xx, hxx⟩ : ∃ xx, xx = wI (wlo + k) := ⟨_, rfl⟩
          have d1 : wd.cell? ⟨bv, ov + k, none⟩ = some (.int .i32 xx) := by rw [dv k hltk2, hxx]
          have hxb := HF.out.wi (wlo + k) (by omega)
          rw [← hxx] at hxb
          have XX : Hid (xx = wI (wlo + k)) := hxx
          have WFK : Hid (wfp (xx, ((t : Nat) : Int))) := ⟨wf_i32' (by omega) (by omega), wf_i32' (by omega) (by omega)⟩
          have htw : IntKind.i32.wrap ((t : Nat) : Int) = ((t : Nat) : Int) := by rw [IntKind.wrap_i32]; omega
          obtain ⟨KL, hKL⟩ : ∃ KL, KL = kl (xx, ((t : Nat) : Int)) := ⟨_, rfl⟩
          have KEY : Hid (keyOf Try.prog 59 (.agg #[.int .i32 xx, .int .i32 ((t : Nat) : Int)]) = some KL) := by show _ = _; rw [hKL]; exact kl_key WFK.out
          have HKL : Hid (KL = kl (xx, ((t : Nat) : Int))) := hKL
          have OWM : Hid (wd.ownsMap Try.prog 59 (plainElem (H := Unit) Try.prog 3) Bm r D) := HQS.out.om
          obtain ⟨z, hz⟩ : ∃ z, z = wid p r (xx, ((t : Nat) : Int)) := ⟨_, rfl⟩
          have HZ : Hid (z = wid p r (xx, ((t : Nat) : Int))) := hz
          clear dv hxx hKL hz
          go_upto_region 36 with fail
          go_cut [17, 18] from 206 to 214 (fun v17 v18 wx => wx = wd ∧ ∃ c, v17 = .int .i64 c ∧ v18 = .bool (Maps.has D KL) ∧ D.atKey KL (.lit (.int .i64 0)) = .lit (.int .i64 c))
          case first =>
            go_wp2_with (at_lookup; refine wpList_lookup_own_ok_int _ rfl _ _ 78 rfl 59 3 .i64 klaw59 Try.underlying78 Try.underlying3 (zero3 _) Bm r D rfl OWM.out (.agg #[.int .i32 xx, .int .i32 ((t : Nat) : Int)]) KL rfl KEY.out ?_; intro c hat hwc)
            go_meet
            case rel => exact ⟨rfl, c, rfl, rfl, hat⟩
          case rest =>
          obtain ⟨hwx, c, rfl, rfl, hat⟩ := hcut
          obtain rfl : wd = wc := hwx.symm
          have HAT : Hid (D.atKey KL (.lit (.int .i64 0)) = .lit (.int .i64 c)) := hat
          clear hat hwx d1 htw
          go_upto_if 216 with fail
          go_cut [17, 18] from 206 to 216 (fun v17 _ wx => wx = wd ∧ v17 = .int .i64 z)
          case first =>
            by_cases hold : ∃ j, j < r ∧ p j = (xx, ((t : Nat) : Int))
            · have hh : Maps.has D KL = true := by rw [HKL.out]; exact (MV.out.has _ WFK.out).2 hold
              have hid : c = z := by
                obtain ⟨j, hj, e⟩ := hold
                have h1 := MV.out.at' j hj
                rw [e, ← HKL.out, HAT.out] at h1
                simp at h1
                rw [h1, HZ.out, wid_has hj e]
              subst hid
              clear hold
              rw [hh]
              clear hh
              go_wp2
              go_meet
              case rel => exact ⟨rfl, rfl⟩
            · have hh : Maps.has D KL = false := by
                rw [HKL.out]
                cases q : Maps.has D (kl (xx, ((t : Nat) : Int))) with
                | false => rfl
                | true => exact absurd ((MV.out.has _ WFK.out).1 q) hold
              have hz : z = -1 := by rw [HZ.out]; exact wid_no hold
              have HZZ : Hid (z = -1) := hz
              clear hold hz
              rw [hh]
              clear hh
              go_wp2
              go_meet
              case rel => exact ⟨rfl, by rw [HZZ.out]⟩
          case rest =>
          obtain ⟨hwx, rfl⟩ := hcut
          obtain rfl : wd = wc := hwx.symm
          clear hwx HAT
          obtain ⟨as3, cs3, hus⟩ := ownsRow_shape (HQS.out.ns.fam.row (n + 3 + t) (by omega))
          obtain ⟨lsn, hlsn⟩ : ∃ lsn, lsn = (ls' (n + 3 + t)).length := ⟨_, rfl⟩
          rw [← hlsn] at hus
          have hlsb : lsn ≤ k := by rw [hlsn, WS.out.cur hltt, wrow_len]; omega
          have hlsm : lsn ≤ 1048576 := by omega
          have US3 : Hid (us (n + 3 + t) = .slice as3 lsn cs3) := hus
          have LN3 : Hid (lsn = (ls' (n + 3 + t)).length) := hlsn
          have FR : Hid (wd.ownsRow (Bm + 1) 3 1 (.slice as3 lsn cs3) lsn ((ls' (n + 3 + t)).map (Value.int .i64))) := by
            have h := HQS.out.ns.fam.row (n + 3 + t) (by omega)
            rw [US3.out, ← LN3.out] at h
            exact h
          have STEP : Hid (Wsp n r wS wI p ls t (k + 1) (upd ls' (n + 3 + t) (ls' (n + 3 + t) ++ [z]))) := WS.out.step hltt (by rw [HZ.out, XX.out, HWE.out.1]; rfl)
          have DB : Hid (Dis w.heap.size Bm S bp bs bt bf bq bd) := HQS.out.ns.dis
          clear hus hlsn
          have y2 := HQS.out.ns.bS.cell 3
          have y3 : wd.cell? ⟨bt, t, none⟩ = some (.slice as3 lsn cs3) := by rw [HQS.out.ns.bt.cell t, rowOf_get _ hltt, US3.out]
          have lS12 : S < wd.heap.size := HQS.out.ns.bS.lt
          have ls12 : bt < wd.heap.size := HQS.out.ns.bt.lt
          have nS12 : S ≠ wd.heap.size := by omega
          have ns12 : bt ≠ wd.heap.size := by omega
          have s12 := HQS.out.ns.sz
          have nSs : S ≠ bt := fun e => DB.out.S'.2.2.1 e.symm
          go_wp2
          obtain ⟨VV, hVV⟩ : ∃ VV : Nat → Option Value, VV = fun i => match i with | 0 => some ((.pointer (some ⟨S, 0, none⟩))) | 1 => some ((.pointer (some ⟨S, 0, none⟩))) | 2 => some (.pointer (some ⟨S, 3, none⟩)) | 3 => some (.slice (some ⟨bt, 0, none⟩) n n) | 4 => some (.int .i64 (t : Int)) | 5 => some ((.pointer (some ⟨S, 0, none⟩))) | 6 => some ((.pointer (some ⟨S, 0, none⟩))) | 7 => some (.pointer (some ⟨S, 3, none⟩)) | 8 => some (.slice (some ⟨bt, 0, none⟩) n n) | 9 => some (.int .i64 (t : Int)) | 10 => some (.pointer (some ⟨bt, t, none⟩)) | 11 => some (.slice as3 lsn cs3) | 12 => some (.int .i64 z) | 15 => some (.pointer (some ⟨bt, t, none⟩)) | _ => none := ⟨_, rfl⟩
          have v0 : VV 0 = some ((.pointer (some ⟨S, 0, none⟩))) := by rw [hVV]; rfl
          have v1 : VV 1 = some ((.pointer (some ⟨S, 0, none⟩))) := by rw [hVV]; rfl
          have v2 : VV 2 = some (.pointer (some ⟨S, 3, none⟩)) := by rw [hVV]; rfl
          have v3 : VV 3 = some (.slice (some ⟨bt, 0, none⟩) n n) := by rw [hVV]; rfl
          have v4 : VV 4 = some (.int .i64 (t : Int)) := by rw [hVV]; rfl
          have v5 : VV 5 = some ((.pointer (some ⟨S, 0, none⟩))) := by rw [hVV]; rfl
          have v6 : VV 6 = some ((.pointer (some ⟨S, 0, none⟩))) := by rw [hVV]; rfl
          have v7 : VV 7 = some (.pointer (some ⟨S, 3, none⟩)) := by rw [hVV]; rfl
          have v8 : VV 8 = some (.slice (some ⟨bt, 0, none⟩) n n) := by rw [hVV]; rfl
          have v9 : VV 9 = some (.int .i64 (t : Int)) := by rw [hVV]; rfl
          have v10 : VV 10 = some (.pointer (some ⟨bt, t, none⟩)) := by rw [hVV]; rfl
          have v11 : VV 11 = some (.slice as3 lsn cs3) := by rw [hVV]; rfl
          have v12 : VV 12 = some (.int .i64 z) := by rw [hVV]; rfl
          have v15 : VV 15 = some (.pointer (some ⟨bt, t, none⟩)) := by rw [hVV]; rfl
          have vB : VV 13 = none := by rw [hVV]; rfl
          have vA : VV 14 = none := by rw [hVV]; rfl
          have vS : VV 16 = none := by rw [hVV]; rfl
          clear hVV
          obtain ⟨GG, hGG⟩ : ∃ GG : Value → World → Prop, GG = fun v w8 => ∃ g cap, v = .slice (some ⟨g, 0, none⟩) (lsn + 1) cap ∧ Qst w w8 H n items S bp bs bt bf bq bd Bm us (upd us (n + 3 + t) v) (upd ls' (n + 3 + t) (ls' (n + 3 + t) ++ [z])) fr2 D r (r + lw) vn vp NN PP := ⟨_, rfl⟩
          have HGG : Hid (GG = fun v w8 => ∃ g cap, v = .slice (some ⟨g, 0, none⟩) (lsn + 1) cap ∧ Qst w w8 H n items S bp bs bt bf bq bd Bm us (upd us (n + 3 + t) v) (upd ls' (n + 3 + t) (ls' (n + 3 + t) ++ [z])) fr2 D r (r + lw) vn vp NN PP) := hGG
          clear hGG
          have KT : (t : Int) < (n : Int) := ktt
          obtain ⟨CC, hCC⟩ : ∃ CC : World → Prop, CC = fun W => W.cell? ⟨S, 3, none⟩ = some (.slice (some ⟨bt, 0, none⟩) n n) ∧ W.cell? ⟨bt, t, none⟩ = some (.slice as3 lsn cs3) := ⟨_, rfl⟩
          have CCI : ∀ W, CC W → W.cell? ⟨S, 3, none⟩ = some (.slice (some ⟨bt, 0, none⟩) n n) ∧ W.cell? ⟨bt, t, none⟩ = some (.slice as3 lsn cs3) := by rw [hCC]; exact fun W h => h
          have CC0 : CC wd.drew := by rw [hCC]; exact ⟨HQS.out.ns.bS.cell 3, by rw [HQS.out.drew.ns.bt.cell t, rowOf_get _ hltt, US3.out]⟩
          have CC1 : CC (wd.drew.alloc (.cells #[.int .i64 z] 3)) := by rw [hCC]; have h := HQS.out.drew.ns.alloc (.cells #[.int .i64 z] 3); exact ⟨h.bS.cell 3, by rw [h.bt.cell t, rowOf_get _ hltt, US3.out]⟩
          have CC2 : ∀ v w8, GG v w8 → CC w8 := by rw [HGG.out, hCC]; rintro v w8 ⟨g, cap, _, h⟩; exact ⟨h.ns.bS.cell 3, by rw [h.ns.bt.cell t, rowOf_get _ hltt, US3.out]⟩
          have RUN : Hid (∃ g cap w8, (Builtin.append_ #[22, 22] 22 #[.slice as3 lsn cs3, .slice (some ⟨wd.drew.heap.size, 0, none⟩) 1 1]).run Try.prog (wd.drew.alloc (.cells #[.int .i64 z] 3)) = .ok (.slice (some ⟨g, 0, none⟩) (lsn + 1) cap) w8 ∧ GG (.slice (some ⟨g, 0, none⟩) (lsn + 1) cap) w8) := by
            obtain ⟨g, cap, w8, h1, h2, h3, h4⟩ := run_app HQS.out.drew.ns z (show n + 3 + t < 2 * n + 3 by omega) US3.out LN3.out.symm hlsm
            exact ⟨g, cap, w8, h1, by rw [HGG.out]; exact ⟨g, cap, rfl, HQS.out.drew.grow (by omega) US3.out LN3.out.symm h2 h3 h4⟩⟩
          have STO : Hid (∀ v w8, GG v w8 → ∃ g cap, v = .slice (some ⟨g, 0, none⟩) (lsn + 1) cap ∧ ∃ u0, w8.cell? ⟨bt, t, none⟩ = some u0 ∧ w8.frozen? ⟨bt, t, none⟩ = false) := by
            rw [HGG.out]
            rintro v w8 ⟨g, cap, e, h⟩
            exact ⟨g, cap, e, _, h.ns.bt.cell t |>.trans (rowOf_get _ hltt), h.ns.bt.free t⟩
          have FIN : Hid (∀ v w8, GG v w8 → ∃ g cap, v = .slice (some ⟨g, 0, none⟩) (lsn + 1) cap ∧ Qst w (w8.setCell ⟨bt, t, none⟩ v) H n items S bp bs bt bf bq bd Bm (upd us (n + 3 + t) v) (upd us (n + 3 + t) v) (upd ls' (n + 3 + t) (ls' (n + 3 + t) ++ [z])) fr2 D r (r + lw) vn vp NN PP) := by
            rw [HGG.out]
            rintro v w8 ⟨g, cap, e, h⟩
            exact ⟨g, cap, e, h.setT hltt⟩
          clear hCC
          generalize hbase : (Act.mk _ _) = base
          have hsz : base.tmps.size = 236 := by rw [← hbase]; rfl
          have e4 : base.eval (.tmp 4) = .pointer (some ⟨S, 0, none⟩) := by rw [← hbase]; rfl
          have e14 : base.eval (.tmp 14) = .int .i64 (t : Int) := by rw [← hbase]; rfl
          have e17 : base.eval (.tmp 17) = .int .i64 z := by rw [← hbase]; rfl
          have hD : ([217, 218, 219, 220, 221, 222, 223, 224, 225, 226, 227, 228, 229, 230, 231, 232] : List Nat).Nodup := by decide
          refine wp_region_inv (by kernel_rfl) (fun listed a w' => listed.size = 17 ∧ (listed.getD 16 false = true → ∀ j, j < 16 → listed.getD j false = true) ∧ ∃ x, a = fr base x [217, 218, 219, 220, 221, 222, 223, 224, 225, 226, 227, 228, 229, 230, 231, 232] ∧ Ap (cstV VV 217) 13 14 16 (217 + 13) (217 + 14) wd.drew (.cells #[.int .i64 z] 3) GG (fun v w8 => w8.setCell ⟨bt, t, none⟩ v) (fun i => listed.getD i false) x w') ?start ?step ?stop
          case start =>
            refine ⟨rfl, fun h => ?_, fun d => base.eval (.tmp d), ?_, ?_⟩
            · exfalso; revert h; show ¬ ((Array.replicate 17 false).getD 16 false = true); simp [Array.getD]
            · exact (fr_self (by rw [hsz]; decide)).symm
            · have e0 : (fun i => (Array.replicate 17 false).getD i false) = fun _ => false := by funext i; simp [Array.getD]
              show Ap (cstV VV 217) 13 14 16 (217 + 13) (217 + 14) wd.drew (.cells #[.int .i64 z] 3) GG (fun v w8 => w8.setCell ⟨bt, t, none⟩ v) (fun i => (Array.replicate 17 false).getD i false) _ _
              rw [e0]
              exact Ap.start _ _
          case step =>
            rintro listed a w1 i o ⟨hls, hlast, x, rfl, A⟩ ho h0 hall
            have hL : ∀ j, j ≠ i → (listed.setIfInBounds i true).getD j false = listed.getD j false := fun j hj => getD_set_ne false (fun e => hj e.symm)
            have hsize : (listed.setIfInBounds i true).size = 17 := by simpa using hls
            have hi : i < 17 := (Array.getElem?_eq_some_iff.1 ho).1
            have h0' : listed.getD i false = false := by simpa [Array.getD, hls, hi] using h0
            have hT : (listed.setIfInBounds i true).getD i false = true := by simp [Array.getD, hls, hi]
            have hS : i ≠ 16 → listed.getD 16 false = false := fun hne => by
              cases q : listed.getD 16 false with
              | false => rfl
              | true => have q2 := hlast q i (by omega); rw [h0'] at q2; cases q2
            have ALL : i ≠ 16 → (listed.setIfInBounds i true).getD 16 false = true → ∀ j, j < 16 → (listed.setIfInBounds i true).getD j false = true := fun hne q => by rw [hL 16 (fun e => hne e.symm), hS hne] at q; cases q
            have IN : ∀ d, d < 236 → d ∈ ([217, 218, 219, 220, 221, 222, 223, 224, 225, 226, 227, 228, 229, 230, 231, 232] : List Nat) → (fr base x [217, 218, 219, 220, 221, 222, 223, 224, 225, 226, 227, 228, 229, 230, 231, 232]).eval (.tmp d) = x d := fun d h1 h2 => fr_in (by rw [hsz]; exact h1) h2
            have O4 : (fr base x [217, 218, 219, 220, 221, 222, 223, 224, 225, 226, 227, 228, 229, 230, 231, 232]).eval (.tmp 4) = .pointer (some ⟨S, 0, none⟩) := (fr_out (by decide)).trans e4
            have O14 : (fr base x [217, 218, 219, 220, 221, 222, 223, 224, 225, 226, 227, 228, 229, 230, 231, 232]).eval (.tmp 14) = .int .i64 (t : Int) := (fr_out (by decide)).trans e14
            have O17 : (fr base x [217, 218, 219, 220, 221, 222, 223, 224, 225, 226, 227, 228, 229, 230, 231, 232]).eval (.tmp 17) = .int .i64 z := (fr_out (by decide)).trans e17
            have PT : ∀ d v, d ∈ ([217, 218, 219, 220, 221, 222, 223, 224, 225, 226, 227, 228, 229, 230, 231, 232] : List Nat) → (fr base x [217, 218, 219, 220, 221, 222, 223, 224, 225, 226, 227, 228, 229, 230, 231, 232]).put (some d) v = fr base (upd x d v) [217, 218, 219, 220, 221, 222, 223, 224, 225, 226, 227, 228, 229, 230, 231, 232] := fun d v h => fr_put v hD h
            have CW : i ≠ 16 → CC w1 := fun hne => Go.Proofs.Qxb6602948a.Ap.within A (hS hne) CC0 CC1 CC2
            obtain rfl | rfl | rfl | rfl | rfl | rfl | rfl | rfl | rfl | rfl | rfl | rfl | rfl | rfl | rfl | rfl | rfl : i = 0 ∨ i = 1 ∨ i = 2 ∨ i = 3 ∨ i = 4 ∨ i = 5 ∨ i = 6 ∨ i = 7 ∨ i = 8 ∨ i = 9 ∨ i = 10 ∨ i = 11 ∨ i = 12 ∨ i = 13 ∨ i = 14 ∨ i = 15 ∨ i = 16 := by omega
            · have ho2 : some _ = some o := ho
              injection ho2 with ho3
              subst ho3
              exact wpOp_run ho rfl (v := (.pointer (some ⟨S, 0, none⟩))) (w' := w1) (ex_move _ _ _ _ _ _ _ _ O4) ⟨hsize, ALL (by decide), _, PT 217 _ (by decide), apv_const A 0 v0 ⟨by decide, by decide, by decide⟩ hL⟩
            · have ho2 : some _ = some o := ho
              injection ho2 with ho3
              subst ho3
              exact wpOp_run ho rfl (v := (.pointer (some ⟨S, 0, none⟩))) (w' := w1) (ex_nilc _ _ _ _ _ _ 217 _ ((IN 217 (by decide) (by decide)).trans (apv_known A 0 v0 (hall ⟨0, .data⟩ (by simp) rfl)))) ⟨hsize, ALL (by decide), _, PT 218 _ (by decide), apv_const A 1 v1 ⟨by decide, by decide, by decide⟩ hL⟩
            · have ho2 : some _ = some o := ho
              injection ho2 with ho3
              subst ho3
              exact wpOp_run ho rfl (v := .pointer (some ⟨S, 3, none⟩)) (w' := w1) (ex_field3 _ _ _ _ _ _ 218 _ ((IN 218 (by decide) (by decide)).trans (apv_known A 1 v1 (hall ⟨1, .data⟩ (by simp) rfl)))) ⟨hsize, ALL (by decide), _, PT 219 _ (by decide), apv_const A 2 v2 ⟨by decide, by decide, by decide⟩ hL⟩
            · have ho2 : some _ = some o := ho
              injection ho2 with ho3
              subst ho3
              exact wpOp_run ho rfl (v := .slice (some ⟨bt, 0, none⟩) n n) (w' := w1) (ex_load41 _ _ _ _ _ _ 219 S 3 n (some ⟨bt, 0, none⟩) n ((IN 219 (by decide) (by decide)).trans (apv_known A 2 v2 (hall ⟨2, .data⟩ (by simp) rfl))) (CCI _ (CW (by decide))).1) ⟨hsize, ALL (by decide), _, PT 220 _ (by decide), apv_const A 3 v3 ⟨by decide, by decide, by decide⟩ hL⟩
            · have ho2 : some _ = some o := ho
              injection ho2 with ho3
              subst ho3
              exact wpOp_run ho rfl (v := .int .i64 (t : Int)) (w' := w1) (ex_move _ _ _ _ _ _ _ _ O14) ⟨hsize, ALL (by decide), _, PT 221 _ (by decide), apv_const A 4 v4 ⟨by decide, by decide, by decide⟩ hL⟩
            · have ho2 : some _ = some o := ho
              injection ho2 with ho3
              subst ho3
              exact wpOp_run ho rfl (v := (.pointer (some ⟨S, 0, none⟩))) (w' := w1) (ex_move _ _ _ _ _ _ _ _ O4) ⟨hsize, ALL (by decide), _, PT 222 _ (by decide), apv_const A 5 v5 ⟨by decide, by decide, by decide⟩ hL⟩
            · have ho2 : some _ = some o := ho
              injection ho2 with ho3
              subst ho3
              exact wpOp_run ho rfl (v := (.pointer (some ⟨S, 0, none⟩))) (w' := w1) (ex_nilc _ _ _ _ _ _ 222 _ ((IN 222 (by decide) (by decide)).trans (apv_known A 5 v5 (hall ⟨5, .data⟩ (by simp) rfl)))) ⟨hsize, ALL (by decide), _, PT 223 _ (by decide), apv_const A 6 v6 ⟨by decide, by decide, by decide⟩ hL⟩
            · have ho2 : some _ = some o := ho
              injection ho2 with ho3
              subst ho3
              exact wpOp_run ho rfl (v := .pointer (some ⟨S, 3, none⟩)) (w' := w1) (ex_field3 _ _ _ _ _ _ 223 _ ((IN 223 (by decide) (by decide)).trans (apv_known A 6 v6 (hall ⟨6, .data⟩ (by simp) rfl)))) ⟨hsize, ALL (by decide), _, PT 224 _ (by decide), apv_const A 7 v7 ⟨by decide, by decide, by decide⟩ hL⟩
            · have ho2 : some _ = some o := ho
              injection ho2 with ho3
              subst ho3
              exact wpOp_run ho rfl (v := .slice (some ⟨bt, 0, none⟩) n n) (w' := w1) (ex_load41 _ _ _ _ _ _ 224 S 3 n (some ⟨bt, 0, none⟩) n ((IN 224 (by decide) (by decide)).trans (apv_known A 7 v7 (hall ⟨7, .data⟩ (by simp) rfl))) (CCI _ (CW (by decide))).1) ⟨hsize, ALL (by decide), _, PT 225 _ (by decide), apv_const A 8 v8 ⟨by decide, by decide, by decide⟩ hL⟩
            · have ho2 : some _ = some o := ho
              injection ho2 with ho3
              subst ho3
              exact wpOp_run ho rfl (v := .int .i64 (t : Int)) (w' := w1) (ex_move _ _ _ _ _ _ _ _ O14) ⟨hsize, ALL (by decide), _, PT 226 _ (by decide), apv_const A 9 v9 ⟨by decide, by decide, by decide⟩ hL⟩
            · have ho2 : some _ = some o := ho
              injection ho2 with ho3
              subst ho3
              exact wpOp_run ho rfl (v := .pointer (some ⟨bt, t, none⟩)) (w' := w1) (ex_index _ _ _ _ _ _ 225 226 _ _ _ ((IN 225 (by decide) (by decide)).trans (apv_known A 8 v8 (hall ⟨8, .data⟩ (by simp) rfl))) ((IN 226 (by decide) (by decide)).trans (apv_known A 9 v9 (hall ⟨9, .data⟩ (by simp) rfl))) KT) ⟨hsize, ALL (by decide), _, PT 227 _ (by decide), apv_const A 10 v10 ⟨by decide, by decide, by decide⟩ hL⟩
            · have ho2 : some _ = some o := ho
              injection ho2 with ho3
              subst ho3
              exact wpOp_run ho rfl (v := .slice as3 lsn cs3) (w' := w1) (ex_load22 _ _ _ _ _ _ 227 bt t lsn as3 cs3 ((IN 227 (by decide) (by decide)).trans (apv_known A 10 v10 (hall ⟨10, .data⟩ (by simp) rfl))) (CCI _ (CW (by decide))).2) ⟨hsize, ALL (by decide), _, PT 228 _ (by decide), apv_const A 11 v11 ⟨by decide, by decide, by decide⟩ hL⟩
            · have ho2 : some _ = some o := ho
              injection ho2 with ho3
              subst ho3
              exact wpOp_run ho rfl (v := .int .i64 z) (w' := w1) (ex_move _ _ _ _ _ _ _ _ O17) ⟨hsize, ALL (by decide), _, PT 229 _ (by decide), apv_const A 12 v12 ⟨by decide, by decide, by decide⟩ hL⟩
            · have ho2 : some _ = some o := ho
              injection ho2 with ho3
              subst ho3
              obtain ⟨hw1, AB⟩ := A.build h0' (apv_no vB) (by unfold cstV; rw [vB]; rfl) (by decide) (by decide) (by decide) hL hT
              subst hw1
              exact wpOp_run ho rfl (ex_build _ _ _ _ _ _ 229 z ((IN 229 (by decide) (by decide)).trans (apv_known A 12 v12 (hall ⟨12, .data⟩ (by simp) rfl)))) ⟨hsize, ALL (by decide), _, PT 230 _ (by decide), AB⟩
            · have ho2 : some _ = some o := ho
              injection ho2 with ho3
              subst ho3
              obtain ⟨⟨hw1, hxB⟩, AA⟩ := A.append h0' (hall ⟨13, .data⟩ (by simp) rfl) (apv_no vA) (by unfold cstV; rw [vA]; rfl) (by decide) (by decide) hL hT
              subst hw1
              obtain ⟨g, cap, w8, hrun, hG⟩ := RUN.out
              exact wpOp_run ho rfl (ex_append _ _ _ _ _ _ 228 230 _ _ _ _ ((IN 228 (by decide) (by decide)).trans (apv_known A 11 v11 (hall ⟨11, .data⟩ (by simp) rfl))) ((IN 230 (by decide) (by decide)).trans hxB) hrun) ⟨hsize, ALL (by decide), _, PT 231 _ (by decide), AA _ _ hG⟩
            · have ho2 : some _ = some o := ho
              injection ho2 with ho3
              subst ho3
              exact wpOp_run ho rfl (v := .pointer (some ⟨bt, t, none⟩)) (w' := w1) (ex_index _ _ _ _ _ _ 220 221 _ _ _ ((IN 220 (by decide) (by decide)).trans (apv_known A 3 v3 (hall ⟨3, .data⟩ (by simp) rfl))) ((IN 221 (by decide) (by decide)).trans (apv_known A 4 v4 (hall ⟨4, .data⟩ (by simp) rfl))) KT) ⟨hsize, ALL (by decide), _, PT 232 _ (by decide), apv_const A 15 v15 ⟨by decide, by decide, by decide⟩ hL⟩
            · have ho2 : some _ = some o := ho
              injection ho2 with ho3
              subst ho3
              have hA : listed.getD 14 false = true := hall ⟨14, .data⟩ (by simp) rfl
              obtain ⟨hG, AS⟩ := A.store h0' hA (by unfold cstV; rw [vS]; rfl) (by decide) (by decide) hL hT
              obtain ⟨g, cap, hxA, u0, hc, hf⟩ := STO.out _ _ hG
              refine wpOp_skip ho rfl (ex_store _ _ _ _ _ _ 232 231 bt t (some ⟨g, 0, none⟩) (lsn + 1) cap u0 ((IN 232 (by decide) (by decide)).trans (apv_known A 15 v15 (hall ⟨15, .data⟩ (by simp) rfl))) ((IN 231 (by decide) (by decide)).trans hxA) hc hf) ⟨hsize, fun _ j hj => ?_, x, put_none _ _, by rw [hxA] at AS; exact AS⟩
              by_cases e : j = 15
              · subst e; rw [hL 15 (by decide)]; exact hall ⟨15, .data⟩ (by simp) rfl
              · rw [hL j (by omega)]
                obtain rfl | rfl | rfl | rfl | rfl | rfl | rfl | rfl | rfl | rfl | rfl | rfl | rfl | rfl | rfl : j = 0 ∨ j = 1 ∨ j = 2 ∨ j = 3 ∨ j = 4 ∨ j = 5 ∨ j = 6 ∨ j = 7 ∨ j = 8 ∨ j = 9 ∨ j = 10 ∨ j = 11 ∨ j = 12 ∨ j = 13 ∨ j = 14 := by omega
                · exact hall ⟨0, .phase⟩ (by simp) rfl
                · exact hall ⟨1, .phase⟩ (by simp) rfl
                · exact hall ⟨2, .phase⟩ (by simp) rfl
                · exact hall ⟨3, .phase⟩ (by simp) rfl
                · exact hall ⟨4, .phase⟩ (by simp) rfl
                · exact hall ⟨5, .phase⟩ (by simp) rfl
                · exact hall ⟨6, .phase⟩ (by simp) rfl
                · exact hall ⟨7, .phase⟩ (by simp) rfl
                · exact hall ⟨8, .phase⟩ (by simp) rfl
                · exact hall ⟨9, .phase⟩ (by simp) rfl
                · exact hall ⟨10, .phase⟩ (by simp) rfl
                · exact hall ⟨11, .phase⟩ (by simp) rfl
                · exact hall ⟨12, .phase⟩ (by simp) rfl
                · exact hall ⟨13, .phase⟩ (by simp) rfl
                · exact hall ⟨14, .phase⟩ (by simp) rfl
          case stop =>
            rintro listed a w1 ⟨hls, hlast, x, rfl, A⟩ hr
            have NR : ∀ i o, i < 17 → (∀ e ∈ o.after, Region.binds .any e = true → listed.getD e.on false = true) → ∀ ops : Array Oper, Region.ready .any ops listed = [] → ops[i]? = some o → listed.getD i false = true := fun i o hi hal ops hr' ho => by
              cases q : listed.getD i false with
              | true => rfl
              | false =>
                have h9 := mem_ready.2 ⟨show listed.getD i true = false by simpa [Array.getD, hls, hi] using q, o, ho, hal⟩
                rw [hr'] at h9
                cases h9
            have l0 := NR 0 _ (by decide) (fun e he hb => by simp at he) _ hr rfl
            have l1 := NR 1 _ (by decide) (fun e he hb => by simp at he; rcases he with rfl <;> assumption) _ hr rfl
            have l2 := NR 2 _ (by decide) (fun e he hb => by simp at he; rcases he with rfl <;> assumption) _ hr rfl
            have l3 := NR 3 _ (by decide) (fun e he hb => by simp at he; rcases he with rfl <;> assumption) _ hr rfl
            have l4 := NR 4 _ (by decide) (fun e he hb => by simp at he) _ hr rfl
            have l5 := NR 5 _ (by decide) (fun e he hb => by simp at he) _ hr rfl
            have l6 := NR 6 _ (by decide) (fun e he hb => by simp at he; rcases he with rfl <;> assumption) _ hr rfl
            have l7 := NR 7 _ (by decide) (fun e he hb => by simp at he; rcases he with rfl <;> assumption) _ hr rfl
            have l8 := NR 8 _ (by decide) (fun e he hb => by simp at he; rcases he with rfl <;> assumption) _ hr rfl
            have l9 := NR 9 _ (by decide) (fun e he hb => by simp at he) _ hr rfl
            have l10 := NR 10 _ (by decide) (fun e he hb => by simp at he; rcases he with rfl | rfl <;> assumption) _ hr rfl
            have l11 := NR 11 _ (by decide) (fun e he hb => by simp at he; rcases he with rfl <;> assumption) _ hr rfl
            have l12 := NR 12 _ (by decide) (fun e he hb => by simp at he) _ hr rfl
            have l13 := NR 13 _ (by decide) (fun e he hb => by simp at he; rcases he with rfl <;> assumption) _ hr rfl
            have l14 := NR 14 _ (by decide) (fun e he hb => by simp at he; rcases he with rfl | rfl <;> assumption) _ hr rfl
            have l15 := NR 15 _ (by decide) (fun e he hb => by simp at he; rcases he with rfl | rfl | rfl | rfl | rfl | rfl | rfl | rfl | rfl | rfl | rfl | rfl | rfl | rfl | rfl | rfl | rfl <;> assumption) _ hr rfl
            have l16 := NR 16 _ (by decide) (fun e he hb => by simp at he; rcases he with rfl | rfl | rfl | rfl | rfl | rfl | rfl | rfl | rfl | rfl | rfl | rfl | rfl | rfl | rfl | rfl | rfl | rfl <;> assumption) _ hr rfl
            obtain ⟨w8, hG, hw8⟩ := A.s3 l16
            subst hw8
            subst hbase
            obtain ⟨g, cap, hxA, hfin⟩ := FIN.out _ _ hG
            have FIN2 : Hid (Qst w (w8.setCell ⟨bt, t, none⟩ (x 231)) H n items S bp bs bt bf bq bd Bm (upd us (n + 3 + t) (x 231)) (upd us (n + 3 + t) (x 231)) (upd ls' (n + 3 + t) (ls' (n + 3 + t) ++ [z])) fr2 D r (r + lw) vn vp NN PP) := hfin
            clear hr NR A hG hls hlast RUN STO FIN CC0 CC1 CC2 v0 v1 v2 v3 v4 v5 v6 v7 v8 v9 v10 v11 v12 v15 vB vA vS l0 l1 l2 l3 l4 l5 l6 l7 l8 l9 l10 l11 l12 l13 l14 l15 l16
            rw [hxA] at FIN2 ⊢
            simp only [fr, Act.put, List.setIfInBounds_toArray, List.set_cons_succ, List.set_cons_zero]
            generalize x 217 = y217
            generalize x 218 = y218
            generalize x 219 = y219
            generalize x 220 = y220
            generalize x 221 = y221
            generalize x 222 = y222
            generalize x 223 = y223
            generalize x 224 = y224
            generalize x 225 = y225
            generalize x 226 = y226
            generalize x 227 = y227
            generalize x 228 = y228
            generalize x 229 = y229
            generalize x 230 = y230
            generalize x 231 = y231
            generalize x 232 = y232
            clear hxA
            go_wp2
            go_roundw
            case rel => exact ⟨k + 1, upd us (n + 3 + t) (.slice (some ⟨g, 0, none⟩) (lsn + 1) cap), upd ls' (n + 3 + t) (ls' (n + 3 + t) ++ [z]), by omega, by go_num, FIN2.out, STEP.out⟩
            case measure => simp [intOf]; omega
        · obtain rfl : nw = k := by omega
          have kk2 : ¬ ((nw : Int) < (nw : Int)) := by omega
          have WN : Hid (Wsp n r wS wI p ls (t + 1) 0 ls') := WS.out.next (by rw [HWE.out.1, HWE.out.2]; omega)
          go_wp2
          go_roundw
          case rel => exact ⟨t + 1, us, ls', by omega, by go_num, HQS.out, WN.out⟩
          case measure => simp [intOf]; omega
      · obtain rfl : n = t := by omega
        have ktt : ¬ ((n : Int) < (n : Int)) := by omega
        go_wp2
        refine bodyPost_ret (v := .pointer (some ⟨S, 0, none⟩)) (by simp [results, Try.results33]) rfl ?_
        exact ns_post HP.out HQ.out HRT.out HFR2.out LSP.out HLW.out HNP.out HQS.out WS.out
end Go.Proofs.Qxb6602948a

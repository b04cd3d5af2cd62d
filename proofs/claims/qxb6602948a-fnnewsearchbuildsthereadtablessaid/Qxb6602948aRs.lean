import Derived.Test.Qxb6602948aRi
import Derived.Deep.DeepCutAuto
import Derived.Deep.RegionWith
namespace Go.Proofs.Qxb6602948a
open Go.RowKit Go.Kx Go.Uf
set_option linter.unusedVariables false

/-- w' is w but for what block g holds, and what is new -/
structure But (g : Nat) (w w' : World) : Prop where
  os : w'.os = w.os
  tape : w'.tape = w.tape
  output : w'.output = w.output
  size : w.heap.size ≤ w'.heap.size
  block : ∀ k, k ≠ g → k < w.heap.size → w'.heap[k]? = w.heap[k]?
theorem But.of_below {g : Nat} {w w' : World} (h : Below w.heap.size w w') : But g w w' := ⟨h.os, h.tape, h.output, h.size, fun k _ hk => h.block k hk⟩
theorem But.trans {g : Nat} {w w' w'' : World} (h : But g w w') (k : But g w' w'') : But g w w'' := ⟨k.os.trans h.os, k.tape.trans h.tape, k.output.trans h.output, Nat.le_trans h.size k.size, fun i h1 h2 => (k.block i h1 (Nat.lt_of_lt_of_le h2 h.size)).trans (h.block i h1 h2)⟩
theorem But.set {g : Nat} {w w' : World} (h : But g w w') (p : Addr) (v : Value) (hp : p.block = g ∨ w.heap.size ≤ p.block) : But g w (w'.setCell p v) :=
  ⟨h.os, h.tape, h.output, by simpa using h.size, fun k h1 h2 => (heap_setCell_other w' p k v (by rcases hp with e | e; rw [e]; exact h1; omega)).trans (h.block k h1 h2)⟩
theorem But.drew {g : Nat} {w w' : World} (h : But g w w') : But g w w'.drew := ⟨h.os, h.tape, h.output, h.size, h.block⟩
theorem But.below {g B : Nat} {w w' : World} (h : But g w w') (hB : B ≤ g) (hw : B ≤ w.heap.size) : Below B w w' := ⟨h.os, h.tape, h.output, h.size, fun k hk => h.block k (by omega) (by omega)⟩

/-- behind the first statement of reset -/
structure Rz (w : World) (S K cn cp : Nat) (cells : Array Value) (wc : World) : Prop where
  s : Blk wc S cells 67
  n : Blk wc w.heap.size (rowOf (fun _ => .int .i64 0) cn) 3
  p : Blk wc (w.heap.size + 1) (rowOf (fun _ => .int .i64 0) cp) 3
  ln : K ≤ cn
  lp : K ≤ cp
  but : But S w wc

theorem rz_of {w wA wB : World} {S K capA capB : Nat} {v0 v1 v2 v3 v4 v5 v8 v9 v10 : Value} (hS : S < w.heap.size) (hbA : Below w.drew.heap.size w.drew wA) (hbB : Below wA.heap.size wA wB) (hsA : wA.heap.size = w.drew.heap.size + 1) (hgeA : K ≤ capA) (hgeB : K ≤ capB)
    (hA2 : Blk wB w.drew.heap.size (rowOf (fun _ => .int .i64 0) capA) 3) (hBB : Blk wB wA.heap.size (rowOf (fun _ => .int .i64 0) capB) 3) (hSB : Blk wB S #[v0, v1, v2, v3, v4, v5, .slice none 0 0, .slice none 0 0, v8, v9, v10] 67) :
    Rz w S K capA capB #[v0, v1, v2, v3, v4, v5, .slice (some ⟨w.heap.size, 0, none⟩) K capA, .slice (some ⟨w.heap.size + 1, 0, none⟩) K capB, v8, v9, v10] ((wB.setCell ⟨S, 6, none⟩ (.slice (some ⟨w.heap.size, 0, none⟩) K capA)).setCell ⟨S, 7, none⟩ (.slice (some ⟨w.heap.size + 1, 0, none⟩) K capB)) := by
  have hsA' : wA.heap.size = w.heap.size + 1 := hsA
  rw [hsA'] at hBB
  have hA3 : Blk wB w.heap.size (rowOf (fun _ => .int .i64 0) capA) 3 := hA2
  refine ⟨?_, (hA3.other _ _ (by simp; omega)).other _ _ (by simp; omega), (hBB.other _ _ (by simp; omega)).other _ _ (by simp; omega), hgeA, hgeB, ?_⟩
  · exact ((hSB.set 6 _).set 7 _).congr (by simp)
  · have h1 : But S w wA := ⟨hbA.os, hbA.tape, hbA.output, hbA.size, fun k _ hk => hbA.block k hk⟩
    exact ((h1.trans (But.of_below hbB)).set _ _ (.inl rfl)).set _ _ (.inl rfl)

def ResetPost (S K : Nat) (v0 v1 v2 v3 v4 v5 v8 v9 v10 : Value) (w : World) (e : Ending) (w' : World) : Prop :=
  ∃ (vn vp : Value), e = .returned (.tuple #[]) ∧ Blk w' S #[v0, v1, v2, v3, v4, v5, vn, vp, v8, v9, v10] 67 ∧ But S w w' ∧ (K = 0 → vn = .slice none 0 0 ∧ vp = .slice none 0 0) ∧
    (0 < K → ∃ cn cp, vn = .slice (some ⟨w.heap.size, 0, none⟩) K cn ∧ vp = .slice (some ⟨w.heap.size + 1, 0, none⟩) K cp ∧ Rg w' w.heap.size (w.heap.size + 1) K cn cp (fun j => if j < K then j else 0) (fun j => if j < K then j else 0))

theorem upTo_step (cn k : Nat) : rowOf (nats (upd (fun j => if j < k then j else 0) k k)) cn = rowOf (nats (fun j => if j < k + 1 then j else 0)) cn := by
  apply rowOf_congr
  intro j _
  by_cases e : j = k
  · subst e; simp [upd]
  · by_cases e2 : j < k
    · simp [upd, e, e2, show j < k + 1 by omega]
    · simp [upd, e, e2, show ¬ j < k + 1 by omega]

set_option maxRecDepth 100000 in
set_option maxHeartbeats 2000000 in
theorem reset_pos (S K : Nat) (v0 v1 v2 v3 v4 v5 v8 v9 v10 : Value) (w : World) (hS : Blk w S #[v0, v1, v2, v3, v4, v5, .slice none 0 0, .slice none 0 0, v8, v9, v10] 67) (hK : K ≤ 1048576) (h0 : 0 < K) :
    Calls Try.prog 42 #[.pointer (some ⟨S, 6, none⟩), .int .i64 (K : Nat)] w fun e w' => ResetPost S K v0 v1 v2 v3 v4 v5 v8 v9 v10 w e w' := by
  have c6 := hS.cell 6
  have c7 := hS.cell 7
  have f6 := hS.free 6
  have f7 := hS.free 7
  have hSl := hS.lt
  have kk : (0 : Int) ≤ (K : Int) := by omega
  go_enter Try.func42, Try.ntmps42
  go_upto_region 0 with fail
  go_cut [] from 5 to 28 (fun wc => ∃ cn cp, Rz w S K cn cp #[v0, v1, v2, v3, v4, v5, .slice (some ⟨w.heap.size, 0, none⟩) K cn, .slice (some ⟨w.heap.size + 1, 0, none⟩) K cp, v8, v9, v10] wc)
  case first =>
    go_region_with (go_at_call 45; refine (grow_any K _ hK).mono ?_; first | (rintro e wB ⟨aB, capB, rfl, hgeB, hzB, hpB, hbB⟩; obtain ⟨rfl, hBB, hsB⟩ := hpB h0; clear hzB hpB; have hA2 := Blk.later hBA hbB; have hSB := Blk.later hSA hbB; have q6 := hSB.cell 6; have q7 := hSB.cell 7; have g6 := hSB.free 6; have g7 := hSB.free 7; have kB : (K : Int) ≤ (capB : Int) := by omega) | (rintro e wA ⟨aA, capA, rfl, hgeA, hzA, hpA, hbA⟩; obtain ⟨rfl, hBA, hsA⟩ := hpA h0; clear hzA hpA; have hSA := Blk.later (W := w.drew) hS hbA; have p6 := hSA.cell 6; have p7 := hSA.cell 7; have kA : (K : Int) ≤ (capA : Int) := by omega))
    all_goals (go_wp2_with fail; go_meet; exact ⟨_, _, rz_of hSl hbA hbB hsA hgeA hgeB hA2 hBB hSB⟩)
  case rest =>
    obtain ⟨cn, cp, hz⟩ := hcut
    have HZ : Hid (Rz w S K cn cp #[v0, v1, v2, v3, v4, v5, .slice (some ⟨w.heap.size, 0, none⟩) K cn, .slice (some ⟨w.heap.size + 1, 0, none⟩) K cp, v8, v9, v10] wc) := hz
    have lcn := hz.ln
    have lcp := hz.lp
    clear hz c6 c7 f6 f7 hS
    go_wp2
    go_loopw [30] (fun s wr => ∃ k : Nat, k ≤ K ∧ s = .int .i64 k ∧ Rg wr w.heap.size (w.heap.size + 1) K cn cp (fun j => if j < k then j else 0) (fun j => if j < k then j else 0) ∧ Blk wr S #[v0, v1, v2, v3, v4, v5, .slice (some ⟨w.heap.size, 0, none⟩) K cn, .slice (some ⟨w.heap.size + 1, 0, none⟩) K cp, v8, v9, v10] 67 ∧ But S w wr) (fun s _ => K - (intOf s).toNat)
    case atStart => exact ⟨0, Nat.zero_le _, rfl, ⟨HZ.out.n.congr (rowOf_congr fun j _ => by simp), HZ.out.p.congr (rowOf_congr fun j _ => by simp), HZ.out.ln, HZ.out.lp, by omega⟩, HZ.out.s, HZ.out.but⟩
    case round =>
      clear HZ
      obtain ⟨k, hk, rfl, hr, hs, hb⟩ := hrel
      by_cases hlt : k < K
      · have kl : (k : Int) < (K : Int) := by omega
        have s6 := hs.cell 6
        have s7 := hs.cell 7
        have n1 := (hr.n.cell k).trans (rowOf_get _ (by omega))
        have n2 := hr.n.free k
        have p1 := (hr.p.cell k).trans (rowOf_get _ (by omega))
        have p2 := hr.p.free k
        have nb1 : S ≠ w.heap.size := by omega
        have nb2 : S ≠ w.heap.size + 1 := by omega
        have HR : Hid (Rg wr w.heap.size (w.heap.size + 1) K cn cp (fun j => if j < k then j else 0) (fun j => if j < k then j else 0)) := hr
        have HSS : Hid (Blk wr S #[v0, v1, v2, v3, v4, v5, .slice (some ⟨w.heap.size, 0, none⟩) K cn, .slice (some ⟨w.heap.size + 1, 0, none⟩) K cp, v8, v9, v10] 67) := hs
        have HBB : Hid (But S w wr) := hb
        clear hr hs hb
        go_wp2
        go_region
        go_wp2
        go_roundw
        case rel =>
          refine ⟨k + 1, by omega, by go_num, ⟨?_, ?_, HR.out.ln, HR.out.lp, HR.out.ne⟩, ?_, ?_⟩
          · exact ((((HR.out.n.set k _).congr (nats_set _ cn k k)).other _ _ (by simp)).drew).congr (upTo_step cn k)
          · exact (((HR.out.p.other _ _ (by simp)).set k _).congr (nats_set _ cp k k)).drew.congr (upTo_step cp k)
          · exact ((HSS.out.other _ _ (by simp; omega)).other _ _ (by simp; omega)).drew
          · exact ((HBB.out.set _ _ (.inr (by simp))).set _ _ (.inr (by simp))).drew
        case measure => simp [intOf]; omega
      · obtain rfl : K = k := by omega
        have kl : ¬ ((K : Int) < (K : Int)) := by omega
        have HR : Hid (Rg wr w.heap.size (w.heap.size + 1) K cn cp (fun j => if j < K then j else 0) (fun j => if j < K then j else 0)) := hr
        have HSS : Hid (Blk wr S #[v0, v1, v2, v3, v4, v5, .slice (some ⟨w.heap.size, 0, none⟩) K cn, .slice (some ⟨w.heap.size + 1, 0, none⟩) K cp, v8, v9, v10] 67) := hs
        have HBB : Hid (But S w wr) := hb
        clear hr hs hb
        go_wp2
        exact bodyPost_ret (v := .tuple #[]) (by simp [results, Try.results42]) rfl ⟨_, _, rfl, HSS.out, HBB.out, fun h => by omega, fun _ => ⟨cn, cp, rfl, rfl, HR.out⟩⟩
end Go.Proofs.Qxb6602948a

import Derived.Test.Qxb6602948aNq
/- THE SEARCH AS THE LAW SEES IT -/
namespace Go.Proofs.Qxb6602948a
open Go.RowKit Go.Kx Go.Maps
set_option linter.unusedVariables false

theorem rw_congr {W : World} {a : Option Addr} {n c : Nat} {f g : Nat → Value} (h : Rw W a n c f) (e : ∀ j, j < n → f j = g j) : Rw W a n c g := ⟨h.1, fun x hx j hj => by rw [h.2 x hx j hj, e j hj]⟩

def pp (rS rI rw : Nat → Int) : Nat → Int × Int := fun j => (rI ((rS 0).toNat + j), rw ((rS 0).toNat + j))
def srcs (rS rw : Nat → Int) (j : Nat) : List Int := srcN (fun i => rw ((rS j).toNat + i)) (rS (j + 1) - rS j).toNat
def wcount (wS : Nat → Int) (j : Nat) : Nat := (wS (j + 1) - wS j).toNat

structure Lx (W : World) (n items rn vn bp bs bt bf bq bd : Nat) (us : Nat → Value) (ar : Option Addr) (cr : Nat) (an : Option Addr) (cn : Nat) (ap : Option Addr) (cp : Nat) (aw : Option Addr) (cw : Nat) (rS rw wS wI : Nat → Int) (p : Nat → Int × Int) : Prop where
  pl : Rw W (some ⟨bp, 0, none⟩) n n (fun _ => .bool false)
  de : Rw W (some ⟨bd, 0, none⟩) n n (fun _ => .int .i64 0)
  pw : Rw W (some ⟨bq, 0, none⟩) items items (fun _ => .slice none 0 0)
  fr : Rw W (some ⟨bf, 0, none⟩) (n + 1) (n + 1) (ints .i64 (fun j => rS j - rS 0))
  so : Rw W (some ⟨bs, 0, none⟩) n n us
  wt : Rw W (some ⟨bt, 0, none⟩) n n (fun j => us (n + 3 + j))
  rd : Rw W ar rn cr (ints .i64 (fun i => (rdl rS n).getD i 0))
  wr : Rw W aw vn cw (ints .i64 (fun v => (p ((fo p rn).getD v 0)).2))
  nx : Rw W an (rn + vn) cn (ints .i64 (fun j => ((np rn (idv p) rn).1 j : Int)))
  pv : Rw W ap (rn + vn) cp (ints .i64 (fun j => ((np rn (idv p) rn).2 j : Int)))
  sr : ∀ j, j < n → ∃ a c, us j = .slice a (srcs rS rw j).length c ∧ (a = none ↔ srcs rS rw j = []) ∧ Rw W a (srcs rS rw j).length c (ints .i64 (fun i => (srcs rS rw j).getD i 0))
  ws : ∀ j, j < n → ∃ a c, us (n + 3 + j) = .slice a (wcount wS j) c ∧ (a = none ↔ wcount wS j = 0) ∧ Rw W a (wcount wS j) c (ints .i64 (fun i => wid p rn (wI ((wS j).toNat + i), (j : Int))))

section
variable {W W' : World} {n items rn vn bp bs bt bf bq bd : Nat} {us : Nat → Value} {ar : Option Addr} {cr : Nat} {an : Option Addr} {cn : Nat} {ap : Option Addr} {cp : Nat} {aw : Option Addr} {cw : Nat} {rS rw wS wI : Nat → Int} {p : Nat → Int × Int}
theorem Lx.later (h : Lx W n items rn vn bp bs bt bf bq bd us ar cr an cn ap cp aw cw rS rw wS wI p) (hb : Below W.heap.size W W') : Lx W' n items rn vn bp bs bt bf bq bd us ar cr an cn ap cp aw cw rS rw wS wI p :=
  ⟨h.pl.later hb, h.de.later hb, h.pw.later hb, h.fr.later hb, h.so.later hb, h.wt.later hb, h.rd.later hb, h.wr.later hb, h.nx.later hb, h.pv.later hb, fun j hj => by obtain ⟨a, c, e1, e2, e3⟩ := h.sr j hj; exact ⟨a, c, e1, e2, e3.later hb⟩, fun j hj => by obtain ⟨a, c, e1, e2, e3⟩ := h.ws j hj; exact ⟨a, c, e1, e2, e3.later hb⟩⟩
end

/-- the law's world: the search, and its arguments' clones -/
structure Lw (w W : World) (M N : Nat) (a3 : Option Addr) (c3 : Nat) (a4 : Option Addr) (c4 : Nat) (a5 : Option Addr) (c5 : Nat) (a6 : Option Addr) (c6 : Nat) (a7 : Option Addr) (n items rn vn bp bs bt bf bq bd : Nat) (us : Nat → Value) (ar : Option Addr) (cr : Nat) (an : Option Addr) (cn : Nat) (ap : Option Addr) (cp : Nat) (aw : Option Addr) (cw : Nat) (rS rI rw wS wI : Nat → Int) (p : Nat → Int × Int) : Prop where
  bel : Below w.heap.size w W
  lx : Lx W n items rn vn bp bs bt bf bq bd us ar cr an cn ap cp aw cw rS rw wS wI p
  r3 : Rw W a3 (n + 1) c3 (ints .i64 rS)
  r4 : Rw W a4 M c4 (ints .i32 rI)
  r5 : Rw W a5 M c5 (ints .i32 rw)
  r6 : Rw W a6 (n + 1) c6 (ints .i64 wS)
  r7 : Rw W a7 N N (ints .i32 wI)
theorem Lw.later {w W W' : World} {M N : Nat} {a3 : Option Addr} {c3 : Nat} {a4 : Option Addr} {c4 : Nat} {a5 : Option Addr} {c5 : Nat} {a6 : Option Addr} {c6 : Nat} {a7 : Option Addr} {n items rn vn bp bs bt bf bq bd : Nat} {us : Nat → Value} {ar : Option Addr} {cr : Nat} {an : Option Addr} {cn : Nat} {ap : Option Addr} {cp : Nat} {aw : Option Addr} {cw : Nat} {rS rI rw wS wI : Nat → Int} {p : Nat → Int × Int}
    (h : Lw w W M N a3 c3 a4 c4 a5 c5 a6 c6 a7 n items rn vn bp bs bt bf bq bd us ar cr an cn ap cp aw cw rS rI rw wS wI p) (hb : Below W.heap.size W W') : Lw w W' M N a3 c3 a4 c4 a5 c5 a6 c6 a7 n items rn vn bp bs bt bf bq bd us ar cr an cn ap cp aw cw rS rI rw wS wI p :=
  ⟨below_next h.bel hb, h.lx.later hb, h.r3.later hb, h.r4.later hb, h.r5.later hb, h.r6.later hb, h.r7.later hb⟩

theorem row_nil {w : World} {base m : Nat} {us : Nat → Value} {ls : Nat → List Int} (h : Fam w base m us ls) {j : Nat} (hj : j < m) : ∃ a c, us j = .slice a (ls j).length c ∧ (a = none ↔ ls j = []) ∧ Rw w a (ls j).length c (ints .i64 (fun i => (ls j).getD i 0)) := by
  have hr := h.row j hj
  obtain ⟨a, c, e⟩ := ownsRow_shape hr
  refine ⟨a, c, e, ?_, ?_⟩
  · constructor
    · intro ha
      subst ha
      rw [e] at hr
      have := (fam_rw hr).1 rfl
      exact List.length_eq_zero_iff.1 this.1
    · intro hn
      have h2 := h.emp j hj hn
      rw [e] at h2
      simp at h2
      exact h2.1
  · rw [e] at hr
    exact fam_rw hr

theorem lx_of {H n items M N0 : Nat} {rS rI rw wS wI : Nat → Int} {w w' : World} {e : Ending} (h : NsPost H n items rS rI rw wS wI w e w') (hf : Fine n items M N0 rS rI wS wI) :
    ∃ (S bp bs bt bf bq bd rn vn : Nat) (us : Nat → Value) (ar : Option Addr) (cr : Nat) (an : Option Addr) (cn : Nat) (ap : Option Addr) (cp : Nat) (aw : Option Addr) (cw : Nat), e = .returned (.pointer (some ⟨S, 0, none⟩)) ∧
      Blk w' S #[.pointer (some ⟨H, 0, none⟩), sl bp n, sl bs n, sl bt n, sl bf (n + 1), .slice ar rn cr, .slice an (rn + vn) cn, .slice ap (rn + vn) cp, sl bq items, .slice aw vn cw, sl bd n] 67 ∧ Below w.heap.size w w' ∧ rS n = rS 0 + (rn : Int) ∧ vn = (fo (pp rS rI rw) rn).length ∧
      Lx w' n items rn vn bp bs bt bf bq bd us ar cr an cn ap cp aw cw rS rw wS wI (pp rS rI rw) := by
  obtain ⟨S, bp, bs, bt, bf, bq, bd, Bm, rn, us, ls, frd, D, nv, pv, N, P, p, rfl, hp, hrn, hfr, hsrc, hrd, hwr, hwt, hnp, hQ⟩ := h
  obtain rfl : p = pp rS rI rw := hp
  obtain ⟨vn, hvn⟩ : ∃ vn, vn = (fo (pp rS rI rw) rn).length := ⟨_, rfl⟩
  rw [← hvn] at hnp hQ
  have hns := hQ.ns
  obtain ⟨ar, cr, er1, _, er3⟩ := row_nil hns.fam (show n < 2 * n + 3 by omega)
  obtain ⟨aw, cw, ew1, _, ew3⟩ := row_nil hns.fam (show n + 1 < 2 * n + 3 by omega)
  have lr : (ls n).length = rn := by
    have h1 := rdl_len hf n (Nat.le_refl _)
    rw [hrd]; omega
  have lw : (ls (n + 1)).length = vn := by rw [hwr, List.length_map, hvn]
  rw [lr] at er1 er3
  rw [lw] at ew1 ew3
  have hring : ∃ an cn ap cp, nv = .slice an (rn + vn) cn ∧ pv = .slice ap (rn + vn) cp ∧ Rw w' an (rn + vn) cn (ints .i64 (fun j => ((np rn (idv (pp rS rI rw)) rn).1 j : Int))) ∧ Rw w' ap (rn + vn) cp (ints .i64 (fun j => ((np rn (idv (pp rS rI rw)) rn).2 j : Int))) := by
    rcases hQ.rg with ⟨h0, e1, e2⟩ | ⟨bn, bpp, cn, cp, e1, e2, hrg, _, _, _⟩
    · refine ⟨none, 0, none, 0, by rw [h0]; exact e1, by rw [h0]; exact e2, ⟨fun _ => ⟨h0, rfl⟩, by simp⟩, ⟨fun _ => ⟨h0, rfl⟩, by simp⟩⟩
    · refine ⟨_, cn, _, cp, e1, e2, rw_congr (Rw.of_blk hrg.n hrg.ln) fun j hj => ?_, rw_congr (Rw.of_blk hrg.p hrg.lp) fun j hj => ?_⟩
      · show Value.int .i64 (N j : Nat) = Value.int .i64 _
        rw [(hnp j hj).1]
      · show Value.int .i64 (P j : Nat) = Value.int .i64 _
        rw [(hnp j hj).2]
  obtain ⟨an, cn, ap, cp, en1, ep1, en3, ep3⟩ := hring
  have hS := hns.bS
  refine ⟨S, bp, bs, bt, bf, bq, bd, rn, vn, us, ar, cr, an, cn, ap, cp, aw, cw, rfl, ?_, hns.bel, hrn, hvn, ?_⟩
  · exact hS.congr (by show scs H n items bp bs bt bf bq bd us nv pv = _; unfold scs; rw [er1, ew1, en1, ep1])
  · refine ⟨Rw.of_blk hns.bp (Nat.le_refl _), Rw.of_blk hns.bd (Nat.le_refl _), Rw.of_blk hns.bq (Nat.le_refl _), rw_congr (Rw.of_blk hns.bf (Nat.le_refl _)) fun j hj => ?_, Rw.of_blk hns.bs (Nat.le_refl _), Rw.of_blk hns.bt (Nat.le_refl _), rw_congr er3 fun j hj => by rw [hrd], rw_congr ew3 fun j hj => ?_, en3, ep3, fun j hj => ?_, fun j hj => ?_⟩
    · show Value.int .i64 (frd j) = Value.int .i64 _
      rw [hfr j (by omega)]
    · show Value.int .i64 _ = Value.int .i64 _
      rw [hwr]
      have : j < (fo (pp rS rI rw) rn).length := by omega
      simp [List.getD, this]
    · obtain ⟨a, c, e1, e2, e3⟩ := row_nil hns.fam (show j < 2 * n + 3 by omega)
      have hs : ls j = srcs rS rw j := hsrc j hj
      rw [hs] at e1 e2 e3
      exact ⟨a, c, e1, e2, e3⟩
    · obtain ⟨a, c, e1, e2, e3⟩ := row_nil hns.fam (show n + 3 + j < 2 * n + 3 by omega)
      have hs : ls (n + 3 + j) = wrow (pp rS rI rw) rn wS wI j (wcount wS j) := hwt j hj
      rw [hs] at e1 e2 e3
      rw [wrow_len] at e1 e3
      refine ⟨a, c, e1, e2.trans ⟨fun hn => ?_, fun hn => ?_⟩, rw_congr e3 fun i hi => ?_⟩
      · have := congrArg List.length hn
        rw [wrow_len] at this
        exact this
      · rw [hn]; rfl
      · show Value.int .i64 _ = Value.int .i64 _
        simp [wrow, List.getD, hi]

/-! ### plain facts for the law -/
theorem rdl_at {n items M N : Nat} {rS rI wS wI : Nat → Int} (hf : Fine n items M N rS rI wS wI) : ∀ m, m ≤ n → ∀ t, t < m → ∀ i : Nat, rS t - rS 0 ≤ (i : Int) → (i : Int) < rS (t + 1) - rS 0 → (rdl rS m).getD i 0 = (t : Int)
  | 0, _, t, h, _, _, _ => by omega
  | m + 1, hm, t, ht, i, h1, h2 => by
    have hl := rdl_len hf m (by omega)
    show (rdl rS m ++ List.replicate (rS (m + 1) - rS m).toNat (m : Int)).getD i 0 = _
    by_cases e : t = m
    · subst e
      have h3 : (rdl rS t).length ≤ i := by omega
      simp only [List.getD, List.getElem?_append, show ¬ i < (rdl rS t).length by omega, if_false]
      rw [List.getElem?_replicate]
      simp only [show i - (rdl rS t).length < (rS (t + 1) - rS t).toNat by omega, if_true]
      rfl
    · have h4 : rS (t + 1) ≤ rS m := hf.rs.le (by omega) (by omega)
      have h3 : i < (rdl rS m).length := by omega
      have ih := rdl_at hf m (by omega) t (by omega) i h1 h2
      rw [← ih]
      simp only [List.getD, List.getElem?_append, h3, if_true]

/-- where a version comes up first -/
theorem ff_found {p : Nat → Int × Int} {r j : Nat} (hj : j < r) (e : p j = p r) (hno : ∀ i, i < j → p i ≠ p r) : ff p r = j := by
  obtain ⟨h1, h2, h3⟩ := ff_spec p r
  rcases Nat.lt_trichotomy (ff p r) j with q | q | q
  · exact absurd h2 (hno _ q)
  · exact q
  · exact absurd e (h3 j q)

/-- the row of the numbers, r of them known -/
def idr (p : Nat → Int × Int) (r : Nat) : Nat → Int := fun j => if j < r then (idv p j : Int) else 0
theorem idr_step (p : Nat → Int × Int) (r m : Nat) : rowOf (ints .i64 (upd (idr p r) r (idv p r : Int))) m = rowOf (ints .i64 (idr p (r + 1))) m := by
  apply rowOf_congr
  intro j _
  show Value.int .i64 _ = Value.int .i64 _
  unfold idr
  by_cases e : j = r
  · subst e; rw [upd_same]; simp
  · rw [upd_ne _ _ e]
    by_cases e2 : j < r
    · rw [if_pos e2, if_pos (by omega)]
    · rw [if_neg e2, if_neg (by omega)]
end Go.Proofs.Qxb6602948a

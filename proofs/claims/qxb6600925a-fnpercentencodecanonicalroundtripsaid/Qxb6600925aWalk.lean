import Derived.Test.Qxb6600925aLaw
namespace Go.Proofs.Qxb6600925a
open Go.RowKit
set_option linter.unusedVariables false

/-- where the encoding of byte k starts -/
def pre (s : ByteArray) (k : Nat) : Nat := (enc (s.data.toList.take k)).length

theorem enc_full (s : ByteArray) : enc (s.data.toList.take s.size) = enc s.data.toList := by
  rw [List.take_of_length_le (by rw [Array.length_toList]; exact Nat.le_refl _)]

theorem enc_at (s : ByteArray) (k : Nat) (h : k < s.size) : ∃ R, enc s.data.toList = enc (s.data.toList.take k) ++ (encB (s[k]'h) ++ R) := by
  refine ⟨enc (s.data.toList.drop (k + 1)), ?_⟩
  rw [← List.append_assoc, ← enc_step s k h, ← enc_append, List.take_append_drop]

theorem pre_next (s : ByteArray) (k : Nat) (h : k < s.size) : pre s (k + 1) = pre s k + (encB (s[k]'h)).length := by
  unfold pre; rw [enc_step s k h, List.length_append]

theorem pre_le (s : ByteArray) (k : Nat) (h : k < s.size) : pre s (k + 1) ≤ (enc s.data.toList).length := by
  obtain ⟨R, hR⟩ := enc_at s k h
  rw [pre_next s k h, hR]
  simp [pre]

theorem E_at (s : ByteArray) (E : ByteArray) (hE : E = ⟨(enc s.data.toList).toArray⟩) (k : Nat) (h : k < s.size) (j : Nat) (hj : j < (encB (s[k]'h)).length) (hp : pre s k + j < E.size) : E[pre s k + j]'hp = (encB (s[k]'h))[j] := by
  subst hE
  show ((enc s.data.toList).toArray)[pre s k + j] = _
  obtain ⟨R, hR⟩ := enc_at s k h
  rw [List.getElem_toArray]
  have : (enc s.data.toList)[pre s k + j]? = some (encB (s[k]'h))[j] := by
    rw [hR, List.getElem?_append_right (by unfold pre; omega)]
    rw [show pre s k + j - (enc (s.data.toList.take k)).length = j by unfold pre; omega]
    rw [List.getElem?_append_left hj, List.getElem?_eq_getElem hj]
  exact Option.some.inj ((List.getElem?_eq_getElem _).symm.trans this)

/-- what stands at byte k -/
def Stands (s E : ByteArray) (k p p' : Nat) : Prop :=
  ∃ x : Nat, x < 256 ∧ (∀ h : k < s.size, (s[k]'h).toNat = x) ∧
    ((unN x = true ∧ x ≠ 37 ∧ p' = p + 1 ∧ p + 1 ≤ E.size ∧ ∀ h : p < E.size, (E[p]'h).toNat = x) ∨
     (unN x = false ∧ ∃ hi lo : Nat, hi < 16 ∧ lo < 16 ∧ x = hi * 16 + lo ∧ p' = p + 3 ∧ p + 3 ≤ E.size ∧ (∀ h : p < E.size, (E[p]'h).toNat = 37) ∧ (∀ h : p + 1 < E.size, (E[p + 1]'h).toNat = (hexd hi).toNat) ∧ (∀ h : p + 2 < E.size, (E[p + 2]'h).toNat = (hexd lo).toNat)))

theorem stands (s E : ByteArray) (hE : E = ⟨(enc s.data.toList).toArray⟩) (k : Nat) (h : k < s.size) : Stands s E k (pre s k) (pre s (k + 1)) := by
  have hx : (s[k]'h).toNat < 256 := UInt8.toNat_lt _
  have hl := pre_next s k h
  have hle := pre_le s k h
  have hsz : E.size = (enc s.data.toList).length := by subst hE; exact List.size_toArray
  have hat := E_at s E hE k h
  rw [← hsz] at hle
  refine ⟨_, hx, fun _ => rfl, ?_⟩
  cases hu : unN (s[k]'h).toNat with
  | true =>
    have e : encB (s[k]'h) = [s[k]'h] := by unfold encB; rw [if_pos hu]
    rw [e] at hl hat
    refine .inl ⟨rfl, fun h37 => ?_, hl, by simp at hl; omega, fun hp => ?_⟩
    · rw [h37] at hu; revert hu; decide
    · have := hat 0 (by simp) hp
      simp at this
      rw [this]
  | false =>
    have e : encB (s[k]'h) = [37, hexd ((s[k]'h).toNat / 16), hexd ((s[k]'h).toNat % 16)] := by unfold encB; rw [hu]; rfl
    rw [e] at hl hat
    refine .inr ⟨rfl, (s[k]'h).toNat / 16, (s[k]'h).toNat % 16, by omega, by omega, by omega, hl, by simp at hl; omega, fun hp => ?_, fun hp => ?_, fun hp => ?_⟩
    · have := hat 0 (by simp) hp
      simp at this
      rw [this]; rfl
    · have := hat 1 (by simp) hp
      simp at this
      rw [this]
    · have := hat 2 (by simp) hp
      simp at this
      rw [this]

set_option maxRecDepth 100000 in
set_option maxHeartbeats 2000000 in
theorem law (s : ByteArray) (w : World) : Calls Try.prog 3 #[.string s] w fun e w' => e = .returned (.bool true) ∧ Below w.heap.size w w' := by
  go_enter Try.func3, Try.ntmps3
  go_wp2_with fail
  refine (bytes_any s _).mono ?_
  rintro e w1 ⟨b, rfl, rfl, hb⟩
  cases b with
  | false =>
    go_wp2
    go_ret
    exact ⟨rfl, Below.refl _ _⟩
  | true =>
  have hs := hb rfl
  clear hb
  have k0 : ¬ ((1048576 : Int) < (s.size : Int)) := by omega
  go_wp2_with fail
  refine (zz_any s hs _).mono ?_
  rintro e w2 ⟨rfl, hb⟩
  obtain ⟨E, hE⟩ : ∃ E : ByteArray, E = ⟨(enc s.data.toList).toArray⟩ := ⟨_, rfl⟩
  rw [← hE]
  have hsz : E.size = (enc s.data.toList).length := by subst hE; exact List.size_toArray
  have hel : E.size ≤ 3 * s.size := by
    rw [hsz]
    have := enc_len s.data.toList
    rw [Array.length_toList] at this
    exact this
  have HE : Hid' (E = ⟨(enc s.data.toList).toArray⟩) := ⟨hE⟩
  have HS : Hid' (E.size = (enc s.data.toList).length) := ⟨hsz⟩
  clear hE hsz
  have k2 : ¬ (3 * (s.size : Int) < (E.size : Int)) := by omega
  go_wp2
  go_loop [4, 5] (fun a b => ∃ k p : Nat, k ≤ s.size ∧ a = .int .i64 k ∧ b = .int .i64 p ∧ p = pre s k ∧ p ≤ E.size) (fun a _ => s.size - (intOf a).toNat)
  case atStart => exact ⟨0, 0, Nat.zero_le _, rfl, rfl, rfl, Nat.zero_le _⟩
  case round =>
    obtain ⟨k, p, hk, rfl, rfl, hp, hpe⟩ := hrel
    by_cases hlt : k < s.size
    · have hst := stands s E HE.out k hlt
      rw [← hp] at hst
      have HP : Hid' (p = pre s k) := ⟨hp⟩
      clear hp
      obtain ⟨x, hx, qs, hst⟩ := hst
      have ks : (k : Int) < (s.size : Int) := by omega
      rcases hst with ⟨hu, h37, hn, hle, q0⟩ | ⟨hu, hi, lo, hhi, hlo, hxe, hn, hle, q0, q1, q2⟩
      · have qs0 := qs hlt
        have hp0 : p < E.size := by omega
        have q00 := q0 hp0
        have kp : (p : Int) < (E.size : Int) := by omega
        have c37 : ((x : Int) == 37) = false := by simp; omega
        have HU : Hid' (unN x = true) := ⟨hu⟩
        have HN : Hid' (pre s (k + 1) = p + 1) := ⟨hn⟩
        clear qs q0 hu hn
        go_wp2_with fail
        refine (un_any x hx _).mono ?_
        rintro e w3 ⟨rfl, rfl⟩
        rw [HU.out]
        go_wp2
        go_round
        case rel => exact ⟨k + 1, p + 1, by omega, by go_num, by go_num, HN.out.symm, by omega⟩
        case measure => simp [intOf]; omega
      · have qs0 := qs hlt
        have hp0 : p < E.size := by omega
        have hp1 : p + 1 < E.size := by omega
        have hp2 : p + 2 < E.size := by omega
        have q00 := q0 hp0
        have q10 := q1 hp1
        have q20 := q2 hp2
        have kp : (p : Int) < (E.size : Int) := by omega
        have kp1 : (p : Int) + 1 < (E.size : Int) := by omega
        have kp2 : (p : Int) + 2 < (E.size : Int) := by omega
        have cv : IntKind.u8.wrap ((hi : Int) * 16 + (lo : Int)) = (x : Int) := by rw [IntKind.wrap_u8]; omega
        have HU : Hid' (unN x = false) := ⟨hu⟩
        have HN : Hid' (pre s (k + 1) = p + 3) := ⟨hn⟩
        have HXE : Hid' (x = hi * 16 + lo) := ⟨hxe⟩
        clear qs q0 q1 q2 hu hn hxe
        go_wp2_with fail
        refine (hex_any hi hhi _).mono ?_
        rintro e w3 ⟨rfl, rfl⟩
        go_wp2_with fail
        refine (hex_any lo hlo _).mono ?_
        rintro e w4 ⟨rfl, rfl⟩
        go_wp2_with fail
        refine (un_any x hx _).mono ?_
        rintro e w5 ⟨rfl, rfl⟩
        rw [HU.out]
        go_wp2
        go_round
        case rel => exact ⟨k + 1, p + 3, by omega, by go_num, by go_num, HN.out.symm, by omega⟩
        case measure => simp [intOf]; omega
    · obtain rfl : k = s.size := by omega
      have hpE : p = E.size := by rw [hp, HS.out]; unfold pre; rw [enc_full]
      subst hpE
      clear hp
      go_wp2
      go_ret
      exact ⟨by simp, hb⟩
end Go.Proofs.Qxb6600925a

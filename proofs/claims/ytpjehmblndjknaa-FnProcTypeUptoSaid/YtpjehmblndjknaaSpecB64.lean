/-
  Walk: spec.Base64.
-/
import Derived.Test.YtpjehmblndjknaaSolidB
import Derived.Test.YtpjehmblndjknaaB64
import Derived.StillTailTactics
import Derived.Deep.DeepCutAuto
namespace Go.Proofs.Ytpjehmblndjknaa
open Go.RowKit
set_option linter.unusedSimpArgs false
set_option linter.unusedVariables false

/-- The number of the first bytes, in threes. -/
def vAt (d : List UInt8) : Nat → Nat
  | 0 => 0
  | j + 1 => vAt d j * 256 + (d.getD j 0).toNat
def quadAt (d : List UInt8) (j : Nat) : UInt8 := if d.length < j then 61 else aq (vAt d 3 / 2 ^ (18 - 6 * j))
def quads (d : List UInt8) : List UInt8 := [quadAt d 0, quadAt d 1, quadAt d 2, quadAt d 3]
theorem vAt_lt (d : List UInt8) : ∀ j, vAt d j < 256 ^ j
  | 0 => by simp [vAt]
  | j + 1 => by
    have h1 := vAt_lt d j
    have h2 := (d.getD j 0).toNat_lt
    rw [vAt, Nat.pow_succ]
    omega
theorem aq_eq {m n : Nat} (h : m % 64 = n % 64) : aq m = aq n := by rw [← aq_mod m, ← aq_mod n, h]
theorem aq_4 {a b c d a' b' c' d' : Nat} (h1 : a % 64 = a' % 64) (h2 : b % 64 = b' % 64) (h3 : c % 64 = c' % 64) (h4 : d % 64 = d' % 64) : [aq a, aq b, aq c, aq d] = [aq a', aq b', aq c', aq d'] := by
  rw [aq_eq h1, aq_eq h2, aq_eq h3, aq_eq h4]
theorem b64_quads (d : List UInt8) (h : d ≠ []) : b64 (d.take 3) = quads d := by
  match d, h with
  | [a], _ =>
    have ha := a.toNat_lt
    show [aq (a.toNat / 4), aq (a.toNat % 4 * 16), 61, 61] = [aq ((((0 * 256 + a.toNat) * 256 + 0) * 256 + 0) / 2 ^ 18), aq ((((0 * 256 + a.toNat) * 256 + 0) * 256 + 0) / 2 ^ 12), 61, 61]
    rw [aq_eq (m := a.toNat / 4) (n := (((0 * 256 + a.toNat) * 256 + 0) * 256 + 0) / 2 ^ 18) (by omega), aq_eq (m := a.toNat % 4 * 16) (n := (((0 * 256 + a.toNat) * 256 + 0) * 256 + 0) / 2 ^ 12) (by omega)]
  | [a, b], _ =>
    have ha := a.toNat_lt; have hb := b.toNat_lt
    show [aq (a.toNat / 4), aq (a.toNat % 4 * 16 + b.toNat / 16), aq (b.toNat % 16 * 4), 61] = [aq ((((0 * 256 + a.toNat) * 256 + b.toNat) * 256 + 0) / 2 ^ 18), aq ((((0 * 256 + a.toNat) * 256 + b.toNat) * 256 + 0) / 2 ^ 12), aq ((((0 * 256 + a.toNat) * 256 + b.toNat) * 256 + 0) / 2 ^ 6), 61]
    have h := aq_4 (a := a.toNat / 4) (b := a.toNat % 4 * 16 + b.toNat / 16) (c := b.toNat % 16 * 4) (d := 0) (a' := (((0 * 256 + a.toNat) * 256 + b.toNat) * 256 + 0) / 2 ^ 18) (b' := (((0 * 256 + a.toNat) * 256 + b.toNat) * 256 + 0) / 2 ^ 12) (c' := (((0 * 256 + a.toNat) * 256 + b.toNat) * 256 + 0) / 2 ^ 6) (d' := 0) (by omega) (by omega) (by omega) rfl
    simp only [List.cons.injEq, and_true] at h
    rw [h.1, h.2.1, h.2.2]
  | a :: b :: c :: r, _ =>
    have ha := a.toNat_lt; have hb := b.toNat_lt; have hc := c.toNat_lt
    have e : quads (a :: b :: c :: r) = [aq ((((0 * 256 + a.toNat) * 256 + b.toNat) * 256 + c.toNat) / 2 ^ 18), aq ((((0 * 256 + a.toNat) * 256 + b.toNat) * 256 + c.toNat) / 2 ^ 12), aq ((((0 * 256 + a.toNat) * 256 + b.toNat) * 256 + c.toNat) / 2 ^ 6), aq ((((0 * 256 + a.toNat) * 256 + b.toNat) * 256 + c.toNat) / 2 ^ 0)] := by
      unfold quads quadAt
      rw [if_neg (by simp), if_neg (by simp), if_neg (by simp), if_neg (by simp)]
      rfl
    rw [e]
    exact aq_4 (by omega) (by omega) (by omega) (by omega)
theorem b64_step (l : List UInt8) (k : Nat) (h : 3 * k < l.length) : b64 (l.take (3 * (k + 1))) = b64 (l.take (3 * k)) ++ quads (l.drop (3 * k)) := by
  rw [← b64_quads _ (by intro e; have := congrArg List.length e; simp at this; omega), show 3 * (k + 1) = 3 * k + 3 by omega, List.take_add, b64_append k _ _ (by rw [List.length_take]; omega)]

theorem wraps_sp (n : Int) (h₀ : 0 ≤ n) (h₁ : n < 2 ^ 63) : IntKind.i64.wrap n = n := by rw [IntKind.wrap_i64]; omega
theorem or_i (x y : Nat) (hx : x ≤ 16777215) (hy : y ≤ 255) : bits .or .i64 ((x * 256 : Nat) : Int) (y : Int) = ((x * 256 + y : Nat) : Int) := by
  have h2 := bits_join .i64 63 (by decide) wraps_sp 8 ((x * 256 : Nat) : Int) (y : Int) (by omega) (by omega) (by omega) (by omega) (by omega) (by omega)
  rw [h2]; omega
theorem and_i (x : Nat) (h : x ≤ 16777215) : bits .and .i64 (x : Int) 63 = ((x % 64 : Nat) : Int) := by
  have h2 := bits_mask .i64 63 (by decide) wraps_sp 6 (by decide) (x : Int) (by omega) (by omega)
  have e : ((2 : Int) ^ 6 - 1) = 63 := by decide
  rw [e] at h2
  rw [h2]; omega
def alphaB : ByteArray := ⟨#[65, 66, 67, 68, 69, 70, 71, 72, 73, 74, 75, 76, 77, 78, 79, 80, 81, 82, 83, 84, 85, 86, 87, 88, 89, 90, 97, 98, 99, 100, 101, 102, 103, 104, 105, 106, 107, 108, 109, 110, 111, 112, 113, 114, 115, 116, 117, 118, 119, 120, 121, 122, 48, 49, 50, 51, 52, 53, 54, 55, 56, 57, 43, 47]⟩
set_option maxRecDepth 100000 in
theorem alphaB_get : ∀ (N : Nat) (h : N < 64), alphaB[N]'(show N < alphaB.size from h) = aq N := by decide

set_option maxRecDepth 100000 in
set_option maxHeartbeats 4000000 in
theorem specB64_any (v : Value) (l : List UInt8) (w : World) (hs : Sl w v l) (hm : l.length ≤ 35184372088832) :
    Calls Try.prog 30 #[v] w fun e w' => e = .returned (.string (bs (b64 l))) ∧ Below w.heap.size w w' := by
  obtain ⟨i0, hi, hz0, hz1, hz2⟩ := info_parts info_u8
  obtain ⟨p, cap, rfl, hlc, hc⟩ := hs
  have HC := hide hc
  have HM := hide hm
  have hm63 : l.length ≤ 140737488355328 := by omega
  clear hm hc hlc
  go_enter Try.func30, Try.ntmps30
  go_wp2
  go_loopw [3, 4] (fun v i wr => ∃ k : Nat, 3 * k ≤ l.length + 2 ∧ i = .int .i64 ((3 * k : Nat) : Int) ∧ wr.ownsRow w.heap.size 5 1 v (b64 (l.take (3 * k))).length ((b64 (l.take (3 * k))).map bv) ∧ Below w.heap.size w wr) (fun _ i _ => l.length - (intOf i).toNat)
  case atStart => exact ⟨0, by omega, rfl, by simpa [b64] using World.ownsRow_nil w w.heap.size 5 1, Below.refl _ _⟩
  case round =>
    obtain ⟨k, hk, rfl, hown, hbw⟩ := hrel
    obtain ⟨K, hK⟩ : ∃ K, K = 3 * k := ⟨_, rfl⟩
    rw [← hK] at hown hk ⊢
    have HK := hide hK
    clear hK
    by_cases hlt : K < l.length
    · obtain ⟨b, o, rfl, hcell⟩ := unhide HC (by rintro rfl; simp at hlt)
      have HCELL := hide hcell
      clear hcell
      go_wp2_with fail
      go_loop [5, 14] (fun vn vj => ∃ j : Nat, j ≤ 3 ∧ vj = .int .i64 (j : Int) ∧ vn = .int .i64 (vAt (l.drop K) j : Int)) (fun _ vj => 3 - (intOf vj).toNat)
      case atStart => exact ⟨0, Nat.zero_le _, rfl, rfl⟩
      case round =>
        obtain ⟨j, hj, rfl, rfl⟩ := hrel
        by_cases hj3 : j < 3
        · have hV : vAt (l.drop K) j ≤ 65535 := by
            have h1 := vAt_lt (l.drop K) j
            have h2 : 256 ^ j ≤ 256 ^ 2 := Nat.pow_le_pow_right (by omega) (by omega)
            omega
          by_cases hjl : K + j < l.length
          · obtain ⟨x, hx⟩ : ∃ x, l[K + j]? = some x := ⟨_, List.getElem?_eq_getElem hjl⟩
            have hbx := bounds_byte x
            have hcx := unhide HCELL (K + j) x hx
            have hcw : wr.cell? ⟨b, o + (K + j), none⟩ = some (.int .u8 (x.toNat : Int)) := by
              rw [hbw.cell (p := ⟨b, o + (K + j), none⟩) (World.block_lt_of_cell? w _ hcx)]; exact hcx
            have hval : Hid (vAt (l.drop K) (j + 1) = vAt (l.drop K) j * 256 + x.toNat) := by
              show _ = _
              rw [vAt, List.getD_eq_getElem?_getD, List.getElem?_drop, hx]; rfl
            have hor := or_i (vAt (l.drop K) j) x.toNat (by omega) (by omega)
            generalize vAt (l.drop K) j = V at hV hval hor ⊢
            rw [Int.natCast_mul] at hor
            clear hcx hx
            go_wp2
            refine ⟨⟨j + 1, by omega, by go_num, ?_⟩, ?_⟩
            · rw [unhide hval]; exact congrArg _ hor
            · simp [intOf]; omega
          · have hval : Hid (vAt (l.drop K) (j + 1) = vAt (l.drop K) j * 256) := by
              show _ = _
              rw [vAt, List.getD_eq_getElem?_getD, List.getElem?_drop, List.getElem?_eq_none (by omega)]; rfl
            generalize vAt (l.drop K) j = V at hV hval ⊢
            go_wp2
            refine ⟨⟨j + 1, by omega, by go_num, ?_⟩, ?_⟩
            · rw [unhide hval]; rfl
            · simp [intOf]; omega
        · obtain rfl : j = 3 := by omega
          go_wp2_with fail
          go_loopw [3, 35] (fun v vj wr => ∃ j : Nat, j ≤ 4 ∧ vj = .int .i64 (j : Int) ∧ wr.ownsRow w.heap.size 5 1 v (b64 (l.take K) ++ (quads (l.drop K)).take j).length ((b64 (l.take K) ++ (quads (l.drop K)).take j).map bv) ∧ Below w.heap.size w wr) (fun _ vj _ => 4 - (intOf vj).toNat)
          case atStart => exact ⟨0, Nat.zero_le _, rfl, by simpa using hown, hbw⟩
          case round =>
            clear hown hbw
            obtain ⟨j, hj, rfl, hown, hbw⟩ := hrel
            have hlen : (b64 (l.take K) ++ (quads (l.drop K)).take j).length ≤ 140737488355320 := by
              rw [List.length_append, b64_length, List.length_take, List.length_take]
              have := unhide HM
              have : min j (quads (l.drop K)).length ≤ 4 := Nat.le_trans (Nat.min_le_left _ _) (by omega)
              omega
            by_cases hj4 : j < 4
            · have hq : (quads (l.drop K))[j]? = some (quadAt (l.drop K) j) := by
                match j, hj4 with
                | 0, _ => rfl
                | 1, _ => rfl
                | 2, _ => rfl
                | 3, _ => rfl
              have E : Hid (b64 (l.take K) ++ (quads (l.drop K)).take (j + 1) = b64 (l.take K) ++ (quads (l.drop K)).take j ++ [quadAt (l.drop K) j]) := by
                show _ = _
                rw [List.take_add_one, hq, List.append_assoc]; rfl
              by_cases hjp : l.length - K < j
              · have hi1 : ((l.length : Int) - (K : Int)) < (j : Int) := by omega
                have hqa : Hid (quadAt (l.drop K) j = 61) := by
                  show _ = _
                  unfold quadAt
                  rw [if_pos (by rw [List.length_drop]; exact hjp)]
                generalize vAt (l.drop K) 3 = V
                go_wp2_with (at_builtin; go_must (refine wpList_append_own _ rfl _ _ 22 rfl w.heap.size 5 i0 (.int .u8 0) 1 1 Try.underlying22 hi hz0 hz1 hz2 rfl (by decide) _ _ _ rfl (hown.alloc _) ⟨wr.heap.size, 0, none⟩ 1 1 [.int .u8 61] rfl rfl (cell_one_new _ _ _) (by simp [Value.oneCell']) (by unfold maxLen; omega) (by omega) (by have := hbw.size; simp; omega) ?_); intro v' w2 hown' hgrow _)
                have hb2 : Below w.heap.size w w2 := Below.grown (hbw.alloc hbw.size _) hgrow (by have := hbw.size; simp; omega) (fun j hj => (hown.lt j hj).1)
                refine ⟨⟨j + 1, by omega, by go_num, ?_, hb2⟩, ?_⟩
                · rw [unhide E, List.length_append, List.map_append, unhide hqa]
                  exact hown'
                · simp [intOf]; omega
              · have hi1 : ¬ ((l.length : Int) - (K : Int)) < (j : Int) := by omega
                have hqa : Hid (quadAt (l.drop K) j = aq (vAt (l.drop K) 3 / 2 ^ (18 - 6 * j))) := by
                  show _ = _
                  unfold quadAt
                  rw [if_neg (by rw [List.length_drop]; exact hjp)]
                have hV := vAt_lt (l.drop K) 3
                generalize vAt (l.drop K) 3 = V at hqa hV ⊢
                have hdl : V / 2 ^ (18 - 6 * j) ≤ 16777215 := Nat.le_trans (Nat.div_le_self _ _) (by omega)
                have hbits : bits .and .i64 ((V : Int) / 2 ^ (18 - 6 * j)) 63 = ((V / 2 ^ (18 - 6 * j) % 64 : Nat) : Int) := by
                  rw [← and_i _ hdl]; simp
                have hN : V / 2 ^ (18 - 6 * j) % 64 < 64 := Nat.mod_lt _ (by decide)
                have hA : Hid (alphaB[V / 2 ^ (18 - 6 * j) % 64]'(show _ < alphaB.size from hN) = aq (V / 2 ^ (18 - 6 * j))) := by
                  show _ = _
                  rw [alphaB_get _ hN, aq_mod]
                go_wp2_with (at_builtin; go_must (refine wpList_append_own _ rfl _ _ 22 rfl w.heap.size 5 i0 (.int .u8 0) 1 1 Try.underlying22 hi hz0 hz1 hz2 rfl (by decide) _ _ _ rfl (hown.alloc _) ⟨wr.heap.size, 0, none⟩ 1 1 [_] rfl rfl (cell_one_new _ _ _) (by simp [Value.oneCell']) (by unfold maxLen; omega) (by omega) (by have := hbw.size; simp; omega) ?_); intro v' w2 hown' hgrow _)
                have hb2 : Below w.heap.size w w2 := Below.grown (hbw.alloc hbw.size _) hgrow (by have := hbw.size; simp; omega) (fun j hj => (hown.lt j hj).1)
                refine ⟨⟨j + 1, by omega, by go_num, ?_, hb2⟩, ?_⟩
                · rw [unhide E, List.length_append, List.map_append, unhide hqa]
                  rw [← unhide hA]
                  exact hown'
                · simp [intOf]; omega
            · obtain rfl : j = 4 := by omega
              have E : Hid (b64 (l.take (3 * (k + 1))) = b64 (l.take K) ++ (quads (l.drop K)).take 4) := by
                show _ = _
                rw [b64_step l k (by rw [← unhide HK]; exact hlt), ← unhide HK]; rfl
              go_wp2_with fail
              refine ⟨⟨k + 1, by have := unhide HK; omega, ?_, by rw [unhide E]; exact hown, hbw⟩, ?_⟩
              · rw [unhide HK]; go_num
              · simp [intOf]; omega
    · rw [List.take_of_length_le (by omega)] at hown
      have hcv := run_conv_sl (Sl.of_owns hown) 22 5 9 Try.underlying22 Try.underlying5 Try.underlying9
      clear hown
      go_wp2
      go_ret
      exact ⟨rfl, hbw⟩
end Go.Proofs.Ytpjehmblndjknaa

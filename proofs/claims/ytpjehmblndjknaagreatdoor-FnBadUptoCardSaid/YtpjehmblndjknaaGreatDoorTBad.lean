/-
  The law FnBad, where what is handed in is of the given bulk at most: for every two blocks, every number and every rest the call returns true and what was handed in reads as it did.
  Its one condition is the second form's own: the bulk of what is handed in. The card.
-/
import Derived.Test.YtpjehmblndjknaaGreatDoorTCom
import Derived.Test.YtpjehmblndjknaaGreatDoorSolidB
import Derived.Test.YtpjehmblndjknaaGreatDoorB64
import Derived.StillTailTactics
import Derived.Deep.DeepCutAuto
import Derived.Test.YtpjehmblndjknaaGreatDoorStr
import Derived.Test.YtpjehmblndjknaaGreatDoorPlain
import Derived.Test.YtpjehmblndjknaaGreatDoorRows
import Derived.Handy
import Derived.Outline
import Derived.Test.YtpjehmblndjknaaGreatDoorDecP
import Derived.Test.YtpjehmblndjknaaGreatDoorPem
import Derived.Test.YtpjehmblndjknaaGreatDoorCards
import Derived.Test.YtpjehmblndjknaaGreatDoorTie

namespace Go.Proofs.YtpjehmblndjknaaGreatDoor
open Go.RowKit
set_option linter.unusedSimpArgs false
set_option linter.unusedVariables false

theorem wpList_append_tx (w : World) {ops : Array Oper} {rest : List Oper} {o : Oper} {a : Act} {Q : Exit → Act → World → Prop} (hgd : o.guard = none) (s x : Operand) (t tx : TypeId)
    (ho : o.op = .call { callee := .builtin .append, args := #[s, x], argTypes := #[t, tx] }) (v u : Value) (hs : a.eval s = v) (hx : a.eval x = u) {v' : Value} {w' : World}
    (hr : (Builtin.append_ #[t, tx] o.type #[v, u]).run Tryz.prog w = .ok v' w') (h : wpList Tryz.prog ops Q rest (a.put o.dst v') w') : wpList Tryz.prog ops Q (o :: rest) a w :=
  wpList_plain hgd fun _ hK => by
    unfold Oper.wp execOp
    simp only [ho, resolve, invoke, builtin, Sem.run_bind, Sem.run_pure, Result.andThen_ok, List.map_toArray, List.map_cons, List.map_nil, hs, hx, hr]
    exact hK _ _ h
end Go.Proofs.YtpjehmblndjknaaGreatDoor

namespace Go.Proofs.YtpjehmblndjknaaGreatDoor
open Go.RowKit
set_option linter.unusedSimpArgs false
set_option linter.unusedVariables false

/-- The number of the first bytes, in threes. -/
def vAt (d : List UInt8) : Nat → Nat
  | 0 => 0
  | j + 1 => vAt d j * 256 + (d.getD j 0).toNat
def quadAt (d : List UInt8) (j : Nat) : UInt8 := if d.length < j then 61 else aq (vAt d 3 / 2 ^ (18 - 6 * j))
def quads (d : List UInt8) : List UInt8 := [quadAt d 0, quadAt d 1, quadAt d 2, quadAt d 3]
theorem vAt_lt (d : List UInt8) : ∀ j, vAt d j < 256 ^ j
  | 0 => by simp [vAt]
  | j + 1 => by
    have h1 := vAt_lt d j
    have h2 := (d.getD j 0).toNat_lt
    rw [vAt, Nat.pow_succ]
    omega
theorem aq_eq {m n : Nat} (h : m % 64 = n % 64) : aq m = aq n := by rw [← aq_mod m, ← aq_mod n, h]
theorem aq_4 {a b c d a' b' c' d' : Nat} (h1 : a % 64 = a' % 64) (h2 : b % 64 = b' % 64) (h3 : c % 64 = c' % 64) (h4 : d % 64 = d' % 64) : [aq a, aq b, aq c, aq d] = [aq a', aq b', aq c', aq d'] := by
  rw [aq_eq h1, aq_eq h2, aq_eq h3, aq_eq h4]
theorem b64_quads (d : List UInt8) (h : d ≠ []) : b64 (d.take 3) = quads d := by
  match d, h with
  | [a], _ =>
    have ha := a.toNat_lt
    show [aq (a.toNat / 4), aq (a.toNat % 4 * 16), 61, 61] = [aq ((((0 * 256 + a.toNat) * 256 + 0) * 256 + 0) / 2 ^ 18), aq ((((0 * 256 + a.toNat) * 256 + 0) * 256 + 0) / 2 ^ 12), 61, 61]
    rw [aq_eq (m := a.toNat / 4) (n := (((0 * 256 + a.toNat) * 256 + 0) * 256 + 0) / 2 ^ 18) (by omega), aq_eq (m := a.toNat % 4 * 16) (n := (((0 * 256 + a.toNat) * 256 + 0) * 256 + 0) / 2 ^ 12) (by omega)]
  | [a, b], _ =>
    have ha := a.toNat_lt; have hb := b.toNat_lt
    show [aq (a.toNat / 4), aq (a.toNat % 4 * 16 + b.toNat / 16), aq (b.toNat % 16 * 4), 61] = [aq ((((0 * 256 + a.toNat) * 256 + b.toNat) * 256 + 0) / 2 ^ 18), aq ((((0 * 256 + a.toNat) * 256 + b.toNat) * 256 + 0) / 2 ^ 12), aq ((((0 * 256 + a.toNat) * 256 + b.toNat) * 256 + 0) / 2 ^ 6), 61]
    have h := aq_4 (a := a.toNat / 4) (b := a.toNat % 4 * 16 + b.toNat / 16) (c := b.toNat % 16 * 4) (d := 0) (a' := (((0 * 256 + a.toNat) * 256 + b.toNat) * 256 + 0) / 2 ^ 18) (b' := (((0 * 256 + a.toNat) * 256 + b.toNat) * 256 + 0) / 2 ^ 12) (c' := (((0 * 256 + a.toNat) * 256 + b.toNat) * 256 + 0) / 2 ^ 6) (d' := 0) (by omega) (by omega) (by omega) rfl
    simp only [List.cons.injEq, and_true] at h
    rw [h.1, h.2.1, h.2.2]
  | a :: b :: c :: r, _ =>
    have ha := a.toNat_lt; have hb := b.toNat_lt; have hc := c.toNat_lt
    have e : quads (a :: b :: c :: r) = [aq ((((0 * 256 + a.toNat) * 256 + b.toNat) * 256 + c.toNat) / 2 ^ 18), aq ((((0 * 256 + a.toNat) * 256 + b.toNat) * 256 + c.toNat) / 2 ^ 12), aq ((((0 * 256 + a.toNat) * 256 + b.toNat) * 256 + c.toNat) / 2 ^ 6), aq ((((0 * 256 + a.toNat) * 256 + b.toNat) * 256 + c.toNat) / 2 ^ 0)] := by
      unfold quads quadAt
      rw [if_neg (by simp), if_neg (by simp), if_neg (by simp), if_neg (by simp)]
      rfl
    rw [e]
    exact aq_4 (by omega) (by omega) (by omega) (by omega)
theorem b64_step (l : List UInt8) (k : Nat) (h : 3 * k < l.length) : b64 (l.take (3 * (k + 1))) = b64 (l.take (3 * k)) ++ quads (l.drop (3 * k)) := by
  rw [← b64_quads _ (by intro e; have := congrArg List.length e; simp at this; omega), show 3 * (k + 1) = 3 * k + 3 by omega, List.take_add, b64_append k _ _ (by rw [List.length_take]; omega)]

theorem wraps_sp (n : Int) (h₀ : 0 ≤ n) (h₁ : n < 2 ^ 63) : IntKind.i64.wrap n = n := by rw [IntKind.wrap_i64]; omega
theorem or_i (x y : Nat) (hx : x ≤ 16777215) (hy : y ≤ 255) : bits .or .i64 ((x * 256 : Nat) : Int) (y : Int) = ((x * 256 + y : Nat) : Int) := by
  have h2 := bits_join .i64 63 (by decide) wraps_sp 8 ((x * 256 : Nat) : Int) (y : Int) (by omega) (by omega) (by omega) (by omega) (by omega) (by omega)
  rw [h2]; omega
theorem and_i (x : Nat) (h : x ≤ 16777215) : bits .and .i64 (x : Int) 63 = ((x % 64 : Nat) : Int) := by
  have h2 := bits_mask .i64 63 (by decide) wraps_sp 6 (by decide) (x : Int) (by omega) (by omega)
  have e : ((2 : Int) ^ 6 - 1) = 63 := by decide
  rw [e] at h2
  rw [h2]; omega
def alphaB : ByteArray := ⟨#[65, 66, 67, 68, 69, 70, 71, 72, 73, 74, 75, 76, 77, 78, 79, 80, 81, 82, 83, 84, 85, 86, 87, 88, 89, 90, 97, 98, 99, 100, 101, 102, 103, 104, 105, 106, 107, 108, 109, 110, 111, 112, 113, 114, 115, 116, 117, 118, 119, 120, 121, 122, 48, 49, 50, 51, 52, 53, 54, 55, 56, 57, 43, 47]⟩
set_option maxRecDepth 100000 in
theorem alphaB_get : ∀ (N : Nat) (h : N < 64), alphaB[N]'(show N < alphaB.size from h) = aq N := by decide

set_option maxRecDepth 100000 in
set_option maxHeartbeats 4000000 in
theorem specB64_any (v : Value) (l : List UInt8) (w : World) (hs : Sl w v l) (hm : l.length ≤ 35184372088832) :
    Calls Tryz.prog 18 #[v] w fun e w' => e = .returned (.string (bs (b64 l))) ∧ Below w.heap.size w w' := by
  obtain ⟨i0, hi, hz0, hz1, hz2⟩ := info_parts info_u8
  obtain ⟨p, cap, rfl, hlc, hc⟩ := hs
  have HC := hide hc
  have HM := hide hm
  have hm63 : l.length ≤ 140737488355328 := by omega
  clear hm hc hlc
  go_enter Tryz.func18, Tryz.ntmps18
  go_wp2
  go_loopw [3, 4] (fun v i wr => ∃ k : Nat, 3 * k ≤ l.length + 2 ∧ i = .int .i64 ((3 * k : Nat) : Int) ∧ wr.ownsRow w.heap.size 5 1 v (b64 (l.take (3 * k))).length ((b64 (l.take (3 * k))).map bv) ∧ Below w.heap.size w wr) (fun _ i _ => l.length - (intOf i).toNat)
  case atStart => exact ⟨0, by omega, rfl, by simpa [b64] using World.ownsRow_nil w w.heap.size 5 1, Below.refl _ _⟩
  case round =>
    obtain ⟨k, hk, rfl, hown, hbw⟩ := hrel
    obtain ⟨K, hK⟩ : ∃ K, K = 3 * k := ⟨_, rfl⟩
    rw [← hK] at hown hk ⊢
    have HK := hide hK
    clear hK
    by_cases hlt : K < l.length
    · obtain ⟨b, o, rfl, hcell⟩ := unhide HC (by rintro rfl; simp at hlt)
      have HCELL := hide hcell
      clear hcell
      go_wp2_with fail
      go_loop [5, 14] (fun vn vj => ∃ j : Nat, j ≤ 3 ∧ vj = .int .i64 (j : Int) ∧ vn = .int .i64 (vAt (l.drop K) j : Int)) (fun _ vj => 3 - (intOf vj).toNat)
      case atStart => exact ⟨0, Nat.zero_le _, rfl, rfl⟩
      case round =>
        obtain ⟨j, hj, rfl, rfl⟩ := hrel
        by_cases hj3 : j < 3
        · have hV : vAt (l.drop K) j ≤ 65535 := by
            have h1 := vAt_lt (l.drop K) j
            have h2 : 256 ^ j ≤ 256 ^ 2 := Nat.pow_le_pow_right (by omega) (by omega)
            omega
          by_cases hjl : K + j < l.length
          · obtain ⟨x, hx⟩ : ∃ x, l[K + j]? = some x := ⟨_, List.getElem?_eq_getElem hjl⟩
            have hbx := bounds_byte x
            have hcx := unhide HCELL (K + j) x hx
            have hcw : wr.cell? ⟨b, o + (K + j), none⟩ = some (.int .u8 (x.toNat : Int)) := by
              rw [hbw.cell (p := ⟨b, o + (K + j), none⟩) (World.block_lt_of_cell? w _ hcx)]; exact hcx
            have hval : Hid (vAt (l.drop K) (j + 1) = vAt (l.drop K) j * 256 + x.toNat) := by
              show _ = _
              rw [vAt, List.getD_eq_getElem?_getD, List.getElem?_drop, hx]; rfl
            have hor := or_i (vAt (l.drop K) j) x.toNat (by omega) (by omega)
            generalize vAt (l.drop K) j = V at hV hval hor ⊢
            rw [Int.natCast_mul] at hor
            clear hcx hx
            go_wp2
            refine ⟨⟨j + 1, by omega, by go_num, ?_⟩, ?_⟩
            · rw [unhide hval]; exact congrArg _ hor
            · simp [intOf]; omega
          · have hval : Hid (vAt (l.drop K) (j + 1) = vAt (l.drop K) j * 256) := by
              show _ = _
              rw [vAt, List.getD_eq_getElem?_getD, List.getElem?_drop, List.getElem?_eq_none (by omega)]; rfl
            generalize vAt (l.drop K) j = V at hV hval ⊢
            go_wp2
            refine ⟨⟨j + 1, by omega, by go_num, ?_⟩, ?_⟩
            · rw [unhide hval]; rfl
            · simp [intOf]; omega
        · obtain rfl : j = 3 := by omega
          go_wp2_with fail
          go_loopw [3, 35] (fun v vj wr => ∃ j : Nat, j ≤ 4 ∧ vj = .int .i64 (j : Int) ∧ wr.ownsRow w.heap.size 5 1 v (b64 (l.take K) ++ (quads (l.drop K)).take j).length ((b64 (l.take K) ++ (quads (l.drop K)).take j).map bv) ∧ Below w.heap.size w wr) (fun _ vj _ => 4 - (intOf vj).toNat)
          case atStart => exact ⟨0, Nat.zero_le _, rfl, by simpa using hown, hbw⟩
          case round =>
            clear hown hbw
            obtain ⟨j, hj, rfl, hown, hbw⟩ := hrel
            have hlen : (b64 (l.take K) ++ (quads (l.drop K)).take j).length ≤ 140737488355320 := by
              rw [List.length_append, b64_length, List.length_take, List.length_take]
              have := unhide HM
              have : min j (quads (l.drop K)).length ≤ 4 := Nat.le_trans (Nat.min_le_left _ _) (by omega)
              omega
            by_cases hj4 : j < 4
            · have hq : (quads (l.drop K))[j]? = some (quadAt (l.drop K) j) := by
                match j, hj4 with
                | 0, _ => rfl
                | 1, _ => rfl
                | 2, _ => rfl
                | 3, _ => rfl
              have E : Hid (b64 (l.take K) ++ (quads (l.drop K)).take (j + 1) = b64 (l.take K) ++ (quads (l.drop K)).take j ++ [quadAt (l.drop K) j]) := by
                show _ = _
                rw [List.take_add_one, hq, List.append_assoc]; rfl
              by_cases hjp : l.length - K < j
              · have hi1 : ((l.length : Int) - (K : Int)) < (j : Int) := by omega
                have hqa : Hid (quadAt (l.drop K) j = 61) := by
                  show _ = _
                  unfold quadAt
                  rw [if_pos (by rw [List.length_drop]; exact hjp)]
                generalize vAt (l.drop K) 3 = V
                go_wp2_with (at_builtin; go_must (refine wpList_append_own _ rfl _ _ 23 rfl w.heap.size 5 i0 (.int .u8 0) 1 1 Tryz.underlying23 hi hz0 hz1 hz2 rfl (by decide) _ _ _ rfl (hown.alloc _) ⟨wr.heap.size, 0, none⟩ 1 1 [.int .u8 61] rfl rfl (cell_one_new _ _ _) (by simp [Value.oneCell']) (by unfold maxLen; omega) (by omega) (by have := hbw.size; simp; omega) ?_); intro v' w2 hown' hgrow _)
                have hb2 : Below w.heap.size w w2 := Below.grown (hbw.alloc hbw.size _) hgrow (by have := hbw.size; simp; omega) (fun j hj => (hown.lt j hj).1)
                refine ⟨⟨j + 1, by omega, by go_num, ?_, hb2⟩, ?_⟩
                · rw [unhide E, List.length_append, List.map_append, unhide hqa]
                  exact hown'
                · simp [intOf]; omega
              · have hi1 : ¬ ((l.length : Int) - (K : Int)) < (j : Int) := by omega
                have hqa : Hid (quadAt (l.drop K) j = aq (vAt (l.drop K) 3 / 2 ^ (18 - 6 * j))) := by
                  show _ = _
                  unfold quadAt
                  rw [if_neg (by rw [List.length_drop]; exact hjp)]
                have hV := vAt_lt (l.drop K) 3
                generalize vAt (l.drop K) 3 = V at hqa hV ⊢
                have hdl : V / 2 ^ (18 - 6 * j) ≤ 16777215 := Nat.le_trans (Nat.div_le_self _ _) (by omega)
                have hbits : bits .and .i64 ((V : Int) / 2 ^ (18 - 6 * j)) 63 = ((V / 2 ^ (18 - 6 * j) % 64 : Nat) : Int) := by
                  rw [← and_i _ hdl]; simp
                have hN : V / 2 ^ (18 - 6 * j) % 64 < 64 := Nat.mod_lt _ (by decide)
                have hA : Hid (alphaB[V / 2 ^ (18 - 6 * j) % 64]'(show _ < alphaB.size from hN) = aq (V / 2 ^ (18 - 6 * j))) := by
                  show _ = _
                  rw [alphaB_get _ hN, aq_mod]
                go_wp2_with (at_builtin; go_must (refine wpList_append_own _ rfl _ _ 23 rfl w.heap.size 5 i0 (.int .u8 0) 1 1 Tryz.underlying23 hi hz0 hz1 hz2 rfl (by decide) _ _ _ rfl (hown.alloc _) ⟨wr.heap.size, 0, none⟩ 1 1 [_] rfl rfl (cell_one_new _ _ _) (by simp [Value.oneCell']) (by unfold maxLen; omega) (by omega) (by have := hbw.size; simp; omega) ?_); intro v' w2 hown' hgrow _)
                have hb2 : Below w.heap.size w w2 := Below.grown (hbw.alloc hbw.size _) hgrow (by have := hbw.size; simp; omega) (fun j hj => (hown.lt j hj).1)
                refine ⟨⟨j + 1, by omega, by go_num, ?_, hb2⟩, ?_⟩
                · rw [unhide E, List.length_append, List.map_append, unhide hqa]
                  rw [← unhide hA]
                  exact hown'
                · simp [intOf]; omega
            · obtain rfl : j = 4 := by omega
              have E : Hid (b64 (l.take (3 * (k + 1))) = b64 (l.take K) ++ (quads (l.drop K)).take 4) := by
                show _ = _
                rw [b64_step l k (by rw [← unhide HK]; exact hlt), ← unhide HK]; rfl
              go_wp2_with fail
              refine ⟨⟨k + 1, by have := unhide HK; omega, ?_, by rw [unhide E]; exact hown, hbw⟩, ?_⟩
              · rw [unhide HK]; go_num
              · simp [intOf]; omega
    · rw [List.take_of_length_le (by omega)] at hown
      have hcv := run_conv_sl (Sl.of_owns hown) 23 5 9 Tryz.underlying23 Tryz.underlying5 Tryz.underlying9
      clear hown
      go_wp2
      go_ret
      exact ⟨rfl, hbw⟩
end Go.Proofs.YtpjehmblndjknaaGreatDoor

namespace Go.Proofs.YtpjehmblndjknaaGreatDoor
open Go.RowKit
set_option linter.unusedSimpArgs false
set_option linter.unusedVariables false

def lenOf : Value → Nat | .string s => s.size | _ => 0

set_option maxRecDepth 100000 in
set_option maxHeartbeats 400000 in
theorem specLines_any (l : List UInt8) (w : World) (hm : l.length ≤ 281474976710656) :
    Calls Tryz.prog 19 #[.string (bs l)] w fun e w' => e = .returned (.string (bs (lines64 l))) ∧ w = w' := by
  have HM := hide hm
  clear hm
  go_enter Tryz.func19, Tryz.ntmps19
  go_wp2
  go_loop [0, 3] (fun vs vo => ∃ x o : List UInt8, vs = .string (bs x) ∧ vo = .string (bs o) ∧ Hid (o ++ lines64 x = lines64 l) ∧ x.length ≤ l.length ∧ o.length ≤ 2 * (l.length - x.length)) (fun vs _ => lenOf vs)
  case atStart => exact ⟨l, [], rfl, rfl, rfl, Nat.le_refl _, by simp⟩
  case round =>
    obtain ⟨x, o, rfl, rfl, HE, hx, ho⟩ := hrel
    have hb1 : x.length ≤ 281474976710656 := by have := unhide HM; omega
    have hb2 : o.length ≤ 562949953421312 := by have := unhide HM; omega
    by_cases h64 : 64 < x.length
    · have hi : (64 : Int) < (x.length : Int) := by omega
      go_wp2
      refine ⟨⟨_, _, rfl, rfl, ?_, ?_, ?_⟩, ?_⟩
      · have e := unhide HE
        rw [lines64, dif_pos h64] at e
        show _ = _
        rw [← e]; simp
      · rw [List.length_drop]; omega
      · rw [List.length_append, List.length_append, List.length_take, List.length_drop]; simp; omega
      · simp only [lenOf, bs_size, List.length_drop]; omega
    · have hi : ¬ (64 : Int) < (x.length : Int) := by omega
      by_cases h0 : x = []
      · subst h0
        have e := unhide HE
        rw [lines64, dif_neg (by simp), if_pos rfl, List.append_nil] at e
        have HE2 := hide e
        clear e HE
        go_wp2
        go_ret
        exact ⟨by rw [← unhide HE2]; rfl, rfl⟩
      · have hne : (x == []) = false := by simpa using h0
        have hne2 : (!x.isEmpty) = true := by simpa using h0
        have e := unhide HE
        rw [lines64, dif_neg h64, if_neg h0] at e
        have HE2 := hide e
        clear e HE
        go_wp2
        go_ret
        exact ⟨by rw [← unhide HE2]; rfl, rfl⟩

end Go.Proofs.YtpjehmblndjknaaGreatDoor

namespace Go.Proofs.YtpjehmblndjknaaGreatDoor
set_option linter.unusedSimpArgs false
set_option linter.unusedVariables false

theorem lines64_big {x : List UInt8} (h : 64 < x.length) : lines64 x = x.take 64 ++ 10 :: lines64 (x.drop 64) := by rw [lines64, dif_pos h]
theorem lines64_one {x : List UInt8} (h : ¬ 64 < x.length) (h0 : x ≠ []) : lines64 x = x ++ [10] := by rw [lines64, dif_neg h, if_neg h0]
theorem lines64_set {x : List UInt8} {j : Nat} (c : UInt8) (h1 : j < 64) (h2 : j < x.length) : lines64 (x.set j c) = (lines64 x).set j c := by
  by_cases h : 64 < x.length
  · rw [lines64_big h, lines64_big (by rw [List.length_set]; exact h), List.set_append_left _ _ (by rw [List.length_take]; omega), List.take_set, List.drop_set_of_lt h1]
  · have hne : x ≠ [] := by rintro rfl; simp at h2
    have hne2 : x.set j c ≠ [] := by intro e; have := congrArg List.length e; rw [List.length_set] at this; exact hne (List.eq_nil_of_length_eq_zero this)
    rw [lines64_one h hne, lines64_one (by rw [List.length_set]; exact h) hne2, List.set_append_left _ _ h2]
theorem blockT_nil (ty x q : List UInt8) : blockT [10] ty [] x q = (begP ++ (ty ++ (dashP ++ [10]))) ++ (lines64 x ++ (endP ++ q)) := by
  unfold blockT bodyL hlinesL
  simp only [List.flatMap_nil, mapE_nil, mapE_lf, List.nil_append, if_true, List.append_assoc]
theorem lines64_ge {x : List UInt8} : min 64 x.length ≤ (lines64 x).length := by
  rw [lines64]
  split
  · rw [List.length_append, List.length_take]; omega
  · split
    · rename_i h; subst h; simp
    · rw [List.length_append]; omega
/-- One character of the bytes turned into a mark of exclamation. -/
theorem bad_text {ty d : List UInt8} (ht : plainS ty = true) {j : Nat} (hj : j < min 64 (b64 d).length) (r : List UInt8) :
    (writtenP ty [] d).set (17 + ty.length + j) 33 ++ r = blockT [10] ty [] ((b64 d).set j 33) (goodQ [10] ty r) := by
  have h := written_block (ls := []) (b := d) ht []
  rw [List.append_nil, blockT_nil] at h
  have hp : (begP ++ (ty ++ (dashP ++ [10]))).length = 17 + ty.length := by
    have e1 : begP.length = 11 := rfl
    have e2 : (dashP ++ [10]).length = 6 := rfl
    rw [List.length_append, List.length_append, e1, e2]; omega
  have hl := lines64_ge (x := b64 d)
  rw [h, blockT_nil, lines64_set 33 (by omega) (by omega), List.set_append_right _ _ (by rw [hp]; omega), hp, show 17 + ty.length + j - (17 + ty.length) = j by omega, List.set_append_left _ _ (by omega)]
  unfold goodQ
  simp only [List.append_assoc, List.append_nil, List.nil_append]
theorem bad_body {d : List UInt8} {j : Nat} : bodyC ((b64 d).set j 33) := by
  intro c hc
  rcases List.mem_or_eq_of_mem_set hc with h | h
  · exact b64_body d c h
  · subst h; decide
theorem bad_none {d : List UInt8} {j : Nat} (hj : j < (b64 d).length) : d64 ((b64 d).set j 33) = none :=
  d64_none (c := 33) (List.mem_iff_getElem?.2 ⟨j, by rw [List.getElem?_set_self hj]⟩) isA_33 (by decide)
theorem law_bad2 {ty d ty2 b2 rest : List UInt8} {ls2 : Hdrs} {o : Option Res} {j : Nat} (ht : plainS ty = true) (hj : j < min 64 (b64 d).length) (ht2 : plainS ty2 = true) (hl2 : PlainH ls2)
    (h : Dec ((writtenP ty [] d).set (17 + ty.length + j) 33 ++ (writtenP ty2 ls2 b2 ++ rest)) o) : o = some ⟨ty2, ls2, b2, rest⟩ := by
  rw [bad_text ht hj] at h
  exact law_bad ht bad_body (bad_none (by omega)) ht2 hl2 h
theorem law_type2 {ty d ty2 b2 rest : List UInt8} {ls2 : Hdrs} {o : Option Res} (ht : plainS ty = true) (ht2 : plainS ty2 = true) (hl2 : PlainH ls2)
    (h : Dec ((begP ++ (ty ++ (dashP ++ [10]))) ++ (lines64 (b64 d) ++ (endP ++ (ty ++ (120 :: (dashP ++ [10]))))) ++ (writtenP ty2 ls2 b2 ++ rest)) o) : o = some ⟨ty2, ls2, b2, rest⟩ := by
  refine law_type (x := b64 d) ht (b64_body d) ht2 hl2 ?_
  rw [blockT_nil]
  have e : (begP ++ (ty ++ (dashP ++ [10]))) ++ (lines64 (b64 d) ++ (endP ++ (ty ++ (120 :: (dashP ++ [10]))))) ++ (writtenP ty2 ls2 b2 ++ rest) = (begP ++ (ty ++ (dashP ++ [10]))) ++ (lines64 (b64 d) ++ (endP ++ (ty ++ 120 :: (dashP ++ [10] ++ (writtenP ty2 ls2 b2 ++ rest))))) := by
    simp only [List.append_assoc, List.cons_append]
  rw [e] at h
  exact h
end Go.Proofs.YtpjehmblndjknaaGreatDoor

namespace Go.Proofs.YtpjehmblndjknaaGreatDoor
open Go.RowKit Go.Maps
set_option linter.unusedSimpArgs false
set_option linter.unusedVariables false

theorem Apd.set {w : World} {B g k n cap : Nat} {l : List UInt8} (h : Apd w B (.slice (some ⟨g, 0, none⟩) n cap) l) (hk : k < l.length) (c : UInt8) : Apd (w.setCell ⟨g, k, none⟩ (bv c)) B (.slice (some ⟨g, 0, none⟩) n cap) (l.set k c) := by
  rcases h with ⟨h, _⟩ | ⟨g', cap', h, h1, h2, hl, hc, hr⟩
  · cases h
  · injection h with e1 e2 e3
    injection e1 with e1
    injection e1 with e1 _ _
    subst e1; subst e2; subst e3
    have hcell : ∀ j, j < cap → ∃ v, w.cell? ⟨g, j, none⟩ = some v := fun j hj => Option.isSome_iff_exists.1 (hr j hj).1
    obtain ⟨v0, hv0⟩ := hcell k (by omega)
    refine .inr ⟨g, cap, by rw [List.length_set], h1, by rw [World.size_setCell]; exact h2, by rw [List.length_set]; exact hl, fun i x hx => ?_, fun j hj => ⟨?_, ?_⟩⟩
    · by_cases e : k = i
      · subst e
        rw [List.getElem?_set_self hk] at hx
        rw [← Option.some.inj hx]
        exact World.cell?_setCell_same _ _ _ hv0
      · rw [List.getElem?_set_ne e] at hx
        rw [World.cell?_setCell_other _ _ _ _ (fun e2 => by injection e2 with _ e2; exact e e2)]
        exact hc i x hx
    · by_cases e : k = j
      · subst e
        rw [World.cell?_setCell_same _ _ _ hv0]; rfl
      · rw [World.cell?_setCell_other _ _ _ _ (fun e2 => by injection e2 with _ e2; exact e e2)]
        exact (hr j hj).1
    · rw [World.frozen?_setCell]; exact (hr j hj).2

set_option maxRecDepth 100000 in
set_option maxHeartbeats 8000000 in
theorem fnBad_main (hpem : PemOK) (ty d ty2 d2 rest : List UInt8) (hv hv2 : Value) (q q2 qr : Option Addr) (bc bc2 rc : Nat) (hs2 : Hdrs) (at_ : Nat) (w : World) (hT : Tabs w) (hH : Hd w hv []) (hS : Sl w (.slice q d.length bc) d) (hbc : bc ≤ 9223372036854775807)
   (hH2 : Hd w hv2 hs2) (hS2 : Sl w (.slice q2 d2.length bc2) d2) (hbc2 : bc2 ≤ 9223372036854775807) (hR : Sl w (.slice qr rest.length rc) rest)
   (h1 : ty.length ≤ 1048576) (hd : d.length ≤ 1048576) (h2 : ty2.length ≤ 1048576) (hn2 : hs2.length ≤ 1048576) (hx2 : ∀ p ∈ hs2, p.1.length ≤ 1048576 ∧ p.2.length ≤ 1048576) (hd2 : d2.length ≤ 1048576) (hr : rest.length ≤ 1048576) (hat : at_ ≤ 9223372036854775807)
   (hp1 : properB ty [] d = true) (hp2 : properB ty2 hs2 d2 = true) (hd0 : d ≠ []) :
    Calls Tryz.prog 6 #[.agg #[.string (bs ty), hv, .slice q d.length bc], .agg #[.string (bs ty2), hv2, .slice q2 d2.length bc2], .int .i64 (at_ : Int), .slice qr rest.length rc] w fun e w' => e = .returned (.bool true) ∧ Below w.heap.size w w' := by
  obtain ⟨p, cap, rfl, -⟩ := id hH
  obtain ⟨p2, cap2, rfl, -⟩ := id hH2
  obtain ⟨W0, hW0⟩ : ∃ W0, W0 = (w.alloc (.cells #[.string (bs ty), .slice p 0 cap, .slice q d.length bc] 25)).alloc (.cells #[.string (bs ty2), .slice p2 hs2.length cap2, .slice q2 d2.length bc2] 25) := ⟨_, rfl⟩
  have hb0 : Below w.heap.size w W0 := by rw [hW0]; exact balloc (balloc (Below.refl _ _) _) _
  have hz0 : W0.heap.size = w.heap.size + 1 + 1 := by rw [hW0, World.size_alloc, World.size_alloc]
  have hblkA : W0.heap[w.heap.size]? = some (.cells #[.string (bs ty), .slice p 0 cap, .slice q d.length bc] 25 (0, 0)) := by
    rw [hW0]; exact (Below.heap_alloc _ _ _ (by rw [World.size_alloc]; omega)).trans (heap_new w _)
  have hblkB : W0.heap[w.heap.size + 1]? = some (.cells #[.string (bs ty2), .slice p2 hs2.length cap2, .slice q2 d2.length bc2] 25 (0, 0)) := by
    have h := heap_new (w.alloc (.cells #[.string (bs ty), .slice p 0 cap, .slice q d.length bc] 25)) (.cells #[.string (bs ty2), .slice p2 hs2.length cap2, .slice q2 d2.length bc2] 25)
    rw [World.size_alloc] at h
    rw [hW0]; exact h
  have HKP : Hid (∀ W, Below W0.heap.size W0 W → W.heap[w.heap.size]? = some (.cells #[.string (bs ty), .slice p 0 cap, .slice q d.length bc] 25 (0, 0)) ∧ W.heap[w.heap.size + 1]? = some (.cells #[.string (bs ty2), .slice p2 hs2.length cap2, .slice q2 d2.length bc2] 25 (0, 0)) ∧ Below w.heap.size w W) :=
    fun W hW => ⟨(hW.block _ (lt_of_heap hblkA)).trans hblkA, (hW.block _ (lt_of_heap hblkB)).trans hblkB, bstep hb0 hW⟩
  have hfit1 := zzFits1_any ty d _ _ [] W0 (hH.below hb0) (hS.below hb0) (by omega) (by simp) (by omega) (fun p hp => by cases hp)
  rw [fits_sm h1 (by simp) (fun p hp => by cases hp) hd] at hfit1
  have hpl1 : (pemOut ty [] d).length ≤ 10000000 := by have := pemOut_bulk (ty := ty) (d := d) (hs := []); simp only [bulk] at this; omega
  have hpl2 : (pemOut ty2 hs2 d2).length ≤ 3000000000000 := pemOut_bound h2 (by omega) hd2 hx2
  have HF1 := hide hfit1
  have HH := hide (And.intro hH (And.intro hS (And.intro hH2 (And.intro hS2 hR))))
  have HX2 := hide hx2
  have HT := hide hT
  have HP := hide (And.intro hp1 hp2)
  have hdl0 : 0 < d.length := List.length_pos_iff.2 hd0
  have hdlI : ¬ (d.length : Int) = 0 := by omega
  have hdlN : ¬ d.length = 0 := by omega
  have hdlB : ((d.length : Int) == 0) = false := by rw [beq_eq_false_iff_ne]; omega
  have hdlB2 : (d.length == 0) = false := by rw [beq_eq_false_iff_ne]; omega
  have hatb : decide ((at_ : Int) < 0) = false := by simp
  have hatn : ¬ (at_ : Int) < 0 := by omega
  have HB0 := hide (And.intro hb0 hz0)
  have HW0 := hide hW0
  have hF2 : Hid (∀ W, Below W0.heap.size W0 W → Calls Tryz.prog 11 #[.agg #[.string (bs ty2), .slice p2 hs2.length cap2, .slice q2 d2.length bc2]] W fun e w' => e = .returned (.bool true) ∧ Below W.heap.size W w') := fun W hW => by
    have hb := bstep hb0 hW
    have h := zzFits1_any ty2 d2 _ _ hs2 W (hH2.below hb) (hS2.below hb) (by omega) (by omega) (by omega) (fun p hp => by have := hx2 p hp; omega)
    rw [fits_sm h2 hn2 hx2 hd2] at h
    exact h
  rw [hW0] at HF1
  clear hfit1 hb0 hz0 hblkA hblkB hH hS hH2 hS2 hR hx2 hT hp1 hp2 hd0 hW0
  go_enter Tryz.func6, Tryz.ntmps6
  go_wp2_with fail
  refine (unhide HF1).mono ?_
  rintro e w1 ⟨rfl, hb1⟩
  rw [← unhide HW0] at hb1
  have HZ1 := hide hb1
  obtain ⟨kA, kB, -⟩ := unhide HKP w1 hb1
  obtain ⟨a0, a1, a2, -⟩ := cells3 kA
  obtain ⟨b0, b1, b2, -⟩ := cells3 kB
  have hf2 := hide (unhide hF2 w1 hb1)
  clear HF1 hb1 hF2 kA kB
  go_wp2_with fail
  refine (unhide hf2).mono ?_
  rintro e w2 ⟨rfl, hb2⟩
  have hz2 := bstep (unhide HZ1) hb2
  have HZ2 := hide hz2
  obtain ⟨kA, kB, hw2⟩ := unhide HKP w2 hz2
  obtain ⟨a0, a1, a2, -⟩ := cells3 kA
  obtain ⟨b0, b1, b2, -⟩ := cells3 kB
  have henc1 := hide (encoded_any ty d (.slice p 0 cap) q bc [] w2 ((unhide HH).1.below hw2) ((unhide HH).2.1.below hw2) hbc (fun p hp => by cases hp) (by simp) (by omega) (fun _ => by omega))
  clear hf2 hb2 hz2 kA kB HZ1 hw2
  go_wp2_with fail
  refine (unhide henc1).mono ?_
  rintro e w3 ⟨hb3, hcase⟩
  rcases hcase with ⟨-, rfl⟩ | ⟨hno, -⟩
  rotate_left
  · rw [(unhide HP).1] at hno; cases hno
  have hz3 := bstep (unhide HZ2) hb3
  have HZ3 := hide hz3
  obtain ⟨kA, kB, hw3⟩ := unhide HKP w3 hz3
  obtain ⟨a0, a1, a2, -⟩ := cells3 kA
  obtain ⟨b0, b1, b2, -⟩ := cells3 kB
  have henc2 := hide (encoded_any ty2 d2 (.slice p2 hs2.length cap2) q2 bc2 hs2 w3 ((unhide HH).2.2.1.below hw3) ((unhide HH).2.2.2.1.below hw3) hbc2 (fun p hp => by have := unhide HX2 p hp; omega) (by omega) (by omega) (fun _ => by omega))
  clear henc1 hb3 hz3 kA kB HZ2 hw3
  go_wp2_with fail
  refine (unhide henc2).mono ?_
  rintro e w4 ⟨hb4, hcase⟩
  rcases hcase with ⟨-, rfl⟩ | ⟨hno, -⟩
  rotate_left
  · rw [(unhide HP).2] at hno; cases hno
  have hz4 := bstep (unhide HZ3) hb4
  have HZ4 := hide hz4
  obtain ⟨kA, kB, hw4⟩ := unhide HKP w4 hz4
  obtain ⟨a0, a1, a2, -⟩ := cells3 kA
  obtain ⟨b0, b1, b2, -⟩ := cells3 kB
  obtain ⟨hty, -, -⟩ := plainH_of (unhide HP).1
  obtain ⟨hty2, hph2, hnd2⟩ := plainH_of (unhide HP).2
  obtain ⟨y, hy⟩ : ∃ y, y = b64 d := ⟨_, rfl⟩
  obtain ⟨L, hL⟩ : ∃ L, L = y.length := ⟨_, rfl⟩
  have hL4 : 4 ≤ L ∧ L ≤ 2000000 := by rw [hL, hy, b64_length]; omega
  obtain ⟨m, hm⟩ : ∃ m, m = min 64 L := ⟨_, rfl⟩
  have hm1 : 4 ≤ m ∧ m ≤ 64 := by omega
  obtain ⟨j, hj⟩ : ∃ j, j = at_ % m := ⟨_, rfl⟩
  have hjm : j < m := by rw [hj]; exact Nat.mod_lt _ (by omega)
  have hXl : 17 + ty.length + j < (pemOut ty [] d).length := by
    have e := written_block (ls := []) (b := d) hty []
    rw [List.append_nil, blockT_nil] at e
    rw [pemOut_written, wlist_nil.2 rfl, e]
    have e1 : begP.length = 11 := rfl
    have e2 : (dashP ++ [10]).length = 6 := rfl
    have := lines64_ge (x := b64 d)
    rw [← hy] at this ⊢
    simp only [List.length_append] at e2 ⊢
    simp only [List.length_append, e1]
    omega
  have HLAW1 : Hid (∀ o, Dec ((pemOut ty [] d).set (17 + ty.length + j) 33 ++ (pemOut ty2 hs2 d2 ++ rest)) o → o = some ⟨ty2, wlist hs2, d2, rest⟩) := fun o ho => law_bad2 hty (by rw [← hy, ← hL, ← hm]; exact hjm) hty2 hph2 (by rw [pemOut_written, wlist_nil.2 rfl, pemOut_written] at ho; exact ho)
  have HLAW2 : Hid (∀ o, Dec ((begP ++ (ty ++ (dashP ++ [10]))) ++ (lines64 y ++ (endP ++ (ty ++ (120 :: (dashP ++ [10]))))) ++ (pemOut ty2 hs2 d2 ++ rest)) o → o = some ⟨ty2, wlist hs2, d2, rest⟩) := fun o ho => law_type2 hty hty2 hph2 (by rw [pemOut_written, hy] at ho; exact ho)
  have HND := hide hnd2
  have hbB : Below w4.heap.size w4 (Lib.bytesWorld w4 5 (bs (pemOut ty [] d))) := bytesWorld_below _ _ _
  have haB := Apd.conv w4 (pemOut ty [] d)
  have hcv := conv_bl (pemOut ty [] d) w4
  have hzB := bstep hz4 hbB
  obtain ⟨kA2, kB2, hwB⟩ := unhide HKP _ hzB
  obtain ⟨a0', a1', a2', -⟩ := cells3 kA2
  have hb64' := specB64_any _ d _ ((unhide HH).2.1.below hwB) (by omega)
  rw [← hy] at hb64'
  have hb64 := hide hb64'
  have HY := hide hy
  have HZB := hide hzB
  have HAB := hide haB
  generalize pemOut ty [] d = X at *
  generalize pemOut ty2 hs2 d2 = X2 at *
  have HL := hide (And.intro hL (And.intro hm hj))
  have hLI : (y.length : Int) = (L : Int) := by omega
  have hmI : min (64 : Int) (L : Int) = (m : Int) := by omega
  have hm0 : (0 : Int) < (m : Int) := by omega
  have hjI : (at_ : Int) % (m : Int) = (j : Int) := by rw [hj]; rfl
  have hjI2 : (at_ : Int).tmod (m : Int) = (j : Int) := by rw [Int.tmod_eq_emod_of_nonneg (by omega)]; exact hjI
  have hyN : y.length = L := hL.symm
  have hix : (17 : Int) + (ty.length : Int) + (j : Int) < (X.length : Int) := by omega
  have hjm2 : (j : Int) ≤ 64 := by omega
  clear henc2 hb4 hz4 kA kB HZ3 hw4 hty hty2 hph2 hnd2 hbB haB hzB kA2 kB2 hwB hL hm hj HP
  clear hy hb64'
  have hsome := (show (Lib.bytesWorld w4 5 (bs X)).heap.size = w4.heap.size + 1 from Lib.bytesWorld_size _ _ _)
  clear hsome
  go_wp2_with fail
  refine (unhide hb64).mono ?_
  rintro e w5 ⟨rfl, hb5⟩
  have ha5 := (unhide HAB).below hb5
  have hcl : (w5.cell? ⟨w4.heap.size, 17 + ty.length + j, none⟩).isSome = true ∧ w5.frozen? ⟨w4.heap.size, 17 + ty.length + j, none⟩ = false := by
    rcases ha5 with ⟨h, _⟩ | ⟨g', cap', h, _, _, hl, _, hr⟩
    · cases h
    · injection h with e1 e2 e3
      injection e1 with e1
      injection e1 with e1 _ _
      subst e1
      exact hr _ (by omega)
  obtain ⟨v0, hv0⟩ := Option.isSome_iff_exists.1 hcl.1
  have hf0 := hcl.2
  have hz5 := bstep (unhide HZB) hb5
  have ha6 := ha5.set hXl 33
  rw [show bv 33 = .int .u8 33 from rfl] at ha6
  have hz6 : Below W0.heap.size W0 (w5.setCell ⟨w4.heap.size, 17 + ty.length + j, none⟩ (.int .u8 33)) := hz5.setCell (unhide HZ4).size _
  have hs6 : w4.heap.size ≤ (w5.setCell ⟨w4.heap.size, 17 + ty.length + j, none⟩ (.int .u8 33)).heap.size := by
    rw [World.size_setCell]
    have h8 := hb5.size
    rw [Lib.bytesWorld_size] at h8
    omega
  have hsl : (X.set (17 + ty.length + j) 33).length = X.length := List.length_set
  obtain ⟨v7, w7, hr7, ha7, hb7⟩ := append_apd 23 ha6 (src_str _ X2) hs6 (by rw [hsl]; omega)
  have hz7 : Below W0.heap.size W0 w7 := hz6.trans (hb7.mono (unhide HZ4).size)
  obtain ⟨kA, kB, hw7⟩ := unhide HKP w7 hz7
  obtain ⟨v8, w8, hr8, ha8, hb8⟩ := append_apd 23 ha7 (src_sl ((unhide HH).2.2.2.2.below hw7)) (Nat.le_trans hs6 hb7.size) (by rw [List.length_append, hsl]; omega)
  have hz8 : Below W0.heap.size W0 w8 := hz7.trans (hb8.mono (unhide HZ4).size)
  obtain ⟨kA8, kB8, hw8⟩ := unhide HKP w8 hz8
  obtain ⟨a80, a81, a82, -⟩ := cells3 kA8
  have hdec1 := hide (decode_found hpem v8 _ w8 ha8.sl (by rw [List.length_append, List.length_append, hsl]; omega) ((unhide HT).below hw8) (ty := ty2) (d := d2) (rest := rest) (unhide HND) (by omega) (fun o ho => unhide HLAW1 o (by rw [List.append_assoc] at ho; exact ho)))
  have HZ8 := hide hz8
  clear ha5 hcl hz5 ha6 hz6 hs6 hsl ha7 hb7 hz7 kA kB hw7 ha8 hb8 hz8 kA8 kB8 hw8 hb64 hb5 HAB HZB HLAW1
  go_wp2_with (first
    | (at_builtin; refine wpList_append_tx _ rfl _ _ 23 9 rfl _ _ rfl rfl hr7 ?_)
    | (at_builtin; refine Lib.wpList_append_run_sl _ rfl _ _ 23 rfl _ _ rfl rfl hr8 ?_)
    | fail)
  refine (unhide hdec1).mono ?_
  rintro e w9 ⟨hb9, hv5, rv, q5, bc5, ls5, rfl, g1, g2, g3, g4, g5⟩
  clear hdec1 hr7 hr8 hcv
  obtain ⟨p5, cap5, rfl, hc5⟩ := g1
  have g1 : Hd w9 (.slice p5 ls5.length cap5) ls5 := ⟨p5, cap5, rfl, hc5⟩
  clear hc5
  have hb10 : Below w9.heap.size w9 (w9.alloc (.cells #[.string (bs ty2), .slice p5 ls5.length cap5, .slice q5 d2.length bc5] 25)) := balloc (Below.refl _ _) _
  have hz10 : Below W0.heap.size W0 (w9.alloc (.cells #[.string (bs ty2), .slice p5 ls5.length cap5, .slice q5 d2.length bc5] 25)) := bstep (bstep (unhide HZ8) hb9) hb10
  have hgot := heap_new w9 (.cells #[.string (bs ty2), .slice p5 ls5.length cap5, .slice q5 d2.length bc5] 25)
  obtain ⟨kA, kB, hw10⟩ := unhide HKP _ hz10
  have hb64b := fun W (hW : Below w.heap.size w W) => specB64_any _ d W ((unhide HH).2.1.below hW) (by omega)
  rw [← unhide HY] at hb64b
  have HB64B := hide hb64b
  have hlns := hide (fun W => specLines_any y W (by omega))
  have hlnl : (lines64 y).length ≤ 4000000 := by have := lines64_length _ y (Nat.le_refl _); omega
  have HG := hide (And.intro (g3.below hb10) (And.intro (g4.below hb10) (And.intro (g1.below hb10) (And.intro g2 g5))))
  go_upto_region 11 with (fail)
  generalize hw10e : w9.alloc (.cells #[.string (bs ty2), .slice p5 ls5.length cap5, .slice q5 d2.length bc5] 25) = w10 at HG hz10 hgot kA kB hw10 ⊢
  generalize w9.heap.size = g at hgot ⊢
  have HGOT := hide hgot
  have HZ10 := hide hz10
  have hgotlt : g < w10.heap.size := lt_of_heap hgot
  clear hw10e hb10 g1 g2 g3 g4 g5 hb64b hb9 hgot hz10
  obtain ⟨Z, hZ⟩ : ∃ Z, Z = (begP ++ (ty ++ (dashP ++ [10]))) ++ (lines64 y ++ (endP ++ (ty ++ (120 :: (dashP ++ [10]))))) := ⟨_, rfl⟩
  have hZl : Z.length ≤ 9000000 := by
    rw [hZ]
    have e1 : begP.length = 11 := rfl
    have e2 : (dashP ++ [10]).length = 6 := rfl
    have e3 : endP.length = 9 := rfl
    simp only [List.length_append, List.length_cons] at e2 ⊢
    simp only [e1, e3]
    omega
  have HLAW3 : Hid (∀ o, Dec (Z ++ (X2 ++ rest)) o → o = some ⟨ty2, wlist hs2, d2, rest⟩) := fun o ho => unhide HLAW2 o (by rw [← hZ]; exact ho)
  have HZE := hide hZ
  clear hZ
  go_cut [18] (fun v18 w' => v18 = .string (bs Z) ∧ Hid (Below w10.heap.size w10 w'))
  case first =>
    have HSA : Hid (∀ W, Below w10.heap.size w10 W → W.cell? ⟨w.heap.size, 0, none⟩ = some (.string (bs ty)) ∧ W.cell? ⟨w.heap.size, 2, none⟩ = some (.slice q d.length bc)) := fun W hW => by
      obtain ⟨c0, -, c2, -⟩ := cells3 ((hW.block _ (lt_of_heap kA)).trans kA)
      exact ⟨c0, c2⟩
    have HW10 := hide hw10
    obtain ⟨s0, s2⟩ := unhide HSA _ (Below.refl _ _)
    have n1 : ¬ 9223372036854775807 < 11 + ty.length := by omega
    have n2 : ¬ 9223372036854775807 < ty.length + 1 + 1 + 1 + 1 + 1 + 1 + 1 + 1 + 1 + 1 + 1 + 6 := by omega
    have n3 : ¬ 9223372036854775807 < ty.length + 6 + 1 + 1 + 1 + 1 + 1 + 1 + 1 + 1 + 1 + 1 + 1 + (lines64 y).length := by omega
    have n4 : ¬ 9223372036854775807 < ty.length + ((lines64 y).length + 1 + 1 + 1 + 1 + 1 + 1) + 1 + 1 + 1 + 1 + 1 + 1 + 1 + 1 + 1 + 1 + 1 + 9 := by omega
    have n5 : ¬ 9223372036854775807 < ty.length + ((lines64 y).length + 9 + 1 + 1 + 1 + 1 + 1 + 1) + 1 + 1 + 1 + 1 + 1 + 1 + 1 + 1 + 1 + 1 + 1 + ty.length := by omega
    have n6 : ¬ 9223372036854775807 < ty.length + ((lines64 y).length + (ty.length + 1 + 1 + 1 + 1 + 1 + 1 + 1 + 1 + 1) + 1 + 1 + 1 + 1 + 1 + 1) + 1 + 1 + 1 + 1 + 1 + 1 + 1 + 1 + 1 + 1 + 1 + 7 := by omega
    clear kA kB hw10
    go_region_held3 (fun w' => w'.cell? ⟨w.heap.size, 0, none⟩ = some (.string (bs ty)) ∧ w'.cell? ⟨w.heap.size, 2, none⟩ = some (.slice q d.length bc))
      (first | exact unhide HSA _ (unhide HBc) | exact unhide HSA _ (drewN_below w10 1) | go_keep)
      (first
        | (go_at_call 18
           refine (unhide HB64B _ (bstep (unhide HW10) (drewN_below w10 1))).mono ?_
           rintro e wA ⟨rfl, hbA⟩
           have HBc : Hid (Below w10.heap.size w10 wA) := bstep (drewN_below w10 1) hbA
           clear hbA)
        | (go_at_call 19
           refine (unhide hlns _).mono ?_
           rintro e wL ⟨rfl, rfl⟩))
    all_goals (
      go_wp2_with fail
      go_meet
      refine ⟨?_, unhide HBc⟩
      congr 2
      rw [unhide HZE]
      simp [begP, dashP, endP])
  case rest =>
    obtain ⟨rfl, HB11⟩ := hcut
    have hz11 : Below W0.heap.size W0 wc := bstep (unhide HZ10) (unhide HB11)
    obtain ⟨Y, hY⟩ : ∃ Y, Y = Z ++ X2 := ⟨_, rfl⟩
    have hYl : Y.length ≤ 3000009000000 := by rw [hY, List.length_append]; omega
    have hcvY : (convert 9 23 (.string (bs (Z ++ X2)))).run Tryz.prog wc = .ok (.slice (some ⟨wc.heap.size, 0, none⟩) Y.length (grownCap wc Y.length 0 5)) (Lib.bytesWorld wc 5 (bs Y)) := by rw [← hY]; exact conv_bl Y wc
    have hbY : Below wc.heap.size wc (Lib.bytesWorld wc 5 (bs Y)) := bytesWorld_below _ _ _
    have hzY := bstep hz11 hbY
    obtain ⟨-, -, hwY⟩ := unhide HKP _ hzY
    obtain ⟨v13, w13, hr13, ha13, hb13⟩ := append_apd 23 (Apd.conv wc Y) (src_sl ((unhide HH).2.2.2.2.below hwY)) (by rw [Lib.bytesWorld_size]; omega) (by omega)
    have hb13' : Below wc.heap.size wc w13 := hbY.trans hb13
    have hz13 := bstep hz11 hb13'
    obtain ⟨-, -, hw13⟩ := unhide HKP _ hz13
    have hdec2 := hide (decode_found hpem v13 _ w13 ha13.sl (by rw [List.length_append]; omega) ((unhide HT).below hw13) (ty := ty2) (d := d2) (rest := rest) (unhide HND) (by omega) (fun o ho => unhide HLAW3 o (by rw [hY, List.append_assoc] at ho; exact ho)))
    have HZ13 := hide hz13
    have HB13 := hide (bstep (unhide HB11) hb13')
    clear hz11 hY hbY hzY hwY ha13 hb13 hb13' hz13 hw13 HLAW3 HLAW2 kA kB hw10
    go_wp2_with (first
      | (at_builtin; refine Lib.wpList_append_run_sl _ rfl _ _ 23 rfl _ _ rfl rfl hr13 ?_)
      | fail)
    refine (unhide hdec2).mono ?_
    rintro e w14 ⟨hb14, hv6, rv6, q6, bc6, ls6, rfl, g1, g2, g3, g4, g5⟩
    clear hdec2 hr13 hcvY
    obtain ⟨p6, cap6, rfl, hc6⟩ := g1
    have g1 : Hd w14 (.slice p6 ls6.length cap6) ls6 := ⟨p6, cap6, rfl, hc6⟩
    clear hc6
    have hb15 : Below w14.heap.size w14 (w14.alloc (.cells #[.string (bs ty2), .slice p6 ls6.length cap6, .slice q6 d2.length bc6] 25)) := balloc (Below.refl _ _) _
    have hz15 : Below W0.heap.size W0 (w14.alloc (.cells #[.string (bs ty2), .slice p6 ls6.length cap6, .slice q6 d2.length bc6] 25)) := bstep (bstep (unhide HZ13) hb14) hb15
    have hb10f : Below w10.heap.size w10 (w14.alloc (.cells #[.string (bs ty2), .slice p6 ls6.length cap6, .slice q6 d2.length bc6] 25)) := bstep (bstep (unhide HB13) hb14) hb15
    have hgot2 := heap_new w14 (.cells #[.string (bs ty2), .slice p6 ls6.length cap6, .slice q6 d2.length bc6] 25)
    have hgot1 := (hb10f.block _ hgotlt).trans (unhide HGOT)
    obtain ⟨-, kB, hw15⟩ := unhide HKP _ hz15
    have i1 := (unhide HG).1.below hb10f
    have i2 := (unhide HG).2.1.below hb10f
    have i3 := (unhide HG).2.2.1.below hb10f
    have i4 := g3.below hb15
    have i5 := g4.below hb15
    have i6 := g1.below hb15
    have i7 := (unhide HH).2.2.1.below hw15
    have i8 := (unhide HH).2.2.2.1.below hw15
    have i9 := (unhide HH).2.2.2.2.below hw15
    have hn5 : ls5.length ≤ 4294967295 := by rw [sameH_len (unhide HG).2.2.2.1]; omega
    have hn6 : ls6.length ≤ 4294967295 := by rw [sameH_len g2]; omega
    have GS := hide (And.intro (unhide HG).2.2.2.1 g2)
    go_upto_region 13 with (fail)
    generalize hw15e : w14.alloc (.cells #[.string (bs ty2), .slice p6 ls6.length cap6, .slice q6 d2.length bc6] 25) = w15 at hgot2 hgot1 kB hw15 i1 i2 i3 i4 i5 i6 i7 i8 i9 ⊢
    generalize w14.heap.size = g6 at hgot2 ⊢
    have HI := hide (And.intro i1 (And.intro i2 (And.intro i3 (And.intro i4 (And.intro i5 (And.intro i6 (And.intro i7 (And.intro i8 i9))))))))
    have HW15 := hide hw15
    have HSP : ∀ W, Below w15.heap.size w15 W → W.cell? ⟨g, 0, none⟩ = some (.string (bs ty2)) ∧ W.cell? ⟨g, 1, none⟩ = some (.slice p5 ls5.length cap5) ∧ W.cell? ⟨g, 2, none⟩ = some (.slice q5 d2.length bc5) ∧ W.cell? ⟨g6, 0, none⟩ = some (.string (bs ty2)) ∧ W.cell? ⟨g6, 1, none⟩ = some (.slice p6 ls6.length cap6) ∧ W.cell? ⟨g6, 2, none⟩ = some (.slice q6 d2.length bc6) ∧
        W.cell? ⟨w.heap.size + 1, 0, none⟩ = some (.string (bs ty2)) ∧ W.cell? ⟨w.heap.size + 1, 1, none⟩ = some (.slice p2 hs2.length cap2) ∧ W.cell? ⟨w.heap.size + 1, 2, none⟩ = some (.slice q2 d2.length bc2) ∧
        (convert 23 9 rv).run Tryz.prog W = .ok (.string (bs rest)) W ∧ (convert 23 9 rv6).run Tryz.prog W = .ok (.string (bs rest)) W ∧ (convert 23 9 (.slice qr rest.length rc)).run Tryz.prog W = .ok (.string (bs rest)) W := fun W hW => by
      obtain ⟨c0, c1, c2, -⟩ := cells3 ((hW.block _ (lt_of_heap hgot1)).trans hgot1)
      obtain ⟨e0, e1, e2, -⟩ := cells3 ((hW.block _ (lt_of_heap hgot2)).trans hgot2)
      obtain ⟨f0, f1, f2, -⟩ := cells3 ((hW.block _ (lt_of_heap kB)).trans kB)
      exact ⟨c0, c1, c2, e0, e1, e2, f0, f1, f2, conv_sl2 i2 W hW, conv_sl2 i5 W hW, conv_sl2 i9 W hW⟩
    have HSP' := hide HSP
    obtain ⟨c0, c1, c2, e0, e1, e2, f0, f1, f2, k1, k2, k3⟩ := HSP _ (Below.refl _ _)
    clear HSP hw15e hgot2 hgot1 kB hw15 i1 i2 i3 i4 i5 i6 i7 i8 i9 g1 g2 g3 g4 hb14 hb15 hz15 hb10f HG HGOT HB11 HB13 HZ13 HZ10
    go_cut [8] (fun v4 w' => v4 = .bool true ∧ Hid (Below w.heap.size w w'))
    case first =>
      go_region_held3 (fun w' => w'.cell? ⟨g, 0, none⟩ = some (.string (bs ty2)) ∧ w'.cell? ⟨g, 1, none⟩ = some (.slice p5 ls5.length cap5) ∧ w'.cell? ⟨g, 2, none⟩ = some (.slice q5 d2.length bc5) ∧ w'.cell? ⟨g6, 0, none⟩ = some (.string (bs ty2)) ∧ w'.cell? ⟨g6, 1, none⟩ = some (.slice p6 ls6.length cap6) ∧ w'.cell? ⟨g6, 2, none⟩ = some (.slice q6 d2.length bc6) ∧
          w'.cell? ⟨w.heap.size + 1, 0, none⟩ = some (.string (bs ty2)) ∧ w'.cell? ⟨w.heap.size + 1, 1, none⟩ = some (.slice p2 hs2.length cap2) ∧ w'.cell? ⟨w.heap.size + 1, 2, none⟩ = some (.slice q2 d2.length bc2) ∧
          (convert 23 9 rv).run Tryz.prog w' = .ok (.string (bs rest)) w' ∧ (convert 23 9 rv6).run Tryz.prog w' = .ok (.string (bs rest)) w' ∧ (convert 23 9 (.slice qr rest.length rc)).run Tryz.prog w' = .ok (.string (bs rest)) w')
        (first | exact unhide HSP' _ (unhide HBd) | exact unhide HSP' _ (unhide HBe) | exact unhide HSP' _ (unhide HBc) | exact unhide HSP' _ (unhide HBb) | exact unhide HSP' _ (unhide HBa) | exact unhide HSP' _ (drewN_below w15 1) | go_keep)
        (first
          | (go_at_call_of 17 (Value.slice p5 ls5.length cap5)
             refine (block_any ty2 _ ls5 q5 d2.length bc5 _ ((unhide HI).2.2.1.below (by first | exact drewN_below w15 1 | exact unhide HBb)) hn5).mono ?_
             rintro e wA ⟨vA, rfl, hA, hbA⟩
             have HBa : Hid (Below w15.heap.size w15 wA) := by first | exact bstep (drewN_below w15 1) hbA | exact bstep (unhide HBb) hbA
             have HA := hide hA
             have HBA := hide hbA
             clear hA hbA)
          | (go_at_call_of 17 (Value.slice p6 ls6.length cap6)
             refine (block_any ty2 _ ls6 q6 d2.length bc6 _ ((unhide HI).2.2.2.2.2.1.below (by first | exact unhide HBc | exact unhide HBb)) hn6).mono ?_
             rintro e wD ⟨vD, rfl, hD, hbD⟩
             have HBd : Hid (Below w15.heap.size w15 wD) := by first | exact bstep (unhide HBc) hbD | exact bstep (unhide HBb) hbD
             have HD := hide hD
             have HBD := hide hbD
             clear hD hbD)
          | (go_at_call_of 17 (Value.slice p2 hs2.length cap2)
             refine (block_any ty2 _ hs2 q2 d2.length bc2 _ ((unhide HI).2.2.2.2.2.2.1.below (by first | exact unhide HBd | exact unhide HBc | exact drewN_below w15 1 | exact unhide HBa)) (by omega)).mono ?_
             rintro e wB ⟨vB, rfl, hB, hbB⟩
             have HBb : Hid (Below w15.heap.size w15 wB) := by first | exact bstep (unhide HBd) hbB | exact bstep (unhide HBc) hbB | exact bstep (drewN_below w15 1) hbB | exact bstep (unhide HBa) hbB
             have HB := hide hB
             have HBB := hide hbB
             clear hB hbB)
          | (go_at_call_of 16 vD
             refine (sameB_any ty2 d2 vD vB q6 q2 bc6 bc2 ls6 hs2 _ (by first | exact unhide HD | exact (unhide HD).below (unhide HBB)) (by first | exact unhide HB | exact (unhide HB).below (unhide HBD)) ((unhide HI).2.2.2.1.below (by first | exact unhide HBd | exact unhide HBb)) ((unhide HI).2.2.2.2.2.2.2.1.below (by first | exact unhide HBd | exact unhide HBb)) hn6 (by omega) (unhide GS).2).mono ?_
             rintro e wE ⟨rfl, hbE⟩
             have HBe : Hid (Below w15.heap.size w15 wE) := by first | exact bstep (unhide HBb) hbE | exact bstep (unhide HBd) hbE
             clear hbE)
          | (go_at_call_of 16 vA
             refine (sameB_any ty2 d2 vA vB q5 q2 bc5 bc2 ls5 hs2 _ (by first | exact unhide HA | exact (unhide HA).below (unhide HBB)) (by first | exact unhide HB | exact (unhide HB).below (unhide HBA)) ((unhide HI).1.below (by first | exact unhide HBa | exact unhide HBb)) ((unhide HI).2.2.2.2.2.2.2.1.below (by first | exact unhide HBa | exact unhide HBb)) hn5 (by omega) (unhide GS).1).mono ?_
             rintro e wC ⟨rfl, hbC⟩
             have HBc : Hid (Below w15.heap.size w15 wC) := by first | exact bstep (unhide HBb) hbC | exact bstep (unhide HBa) hbC
             clear hbC))
      all_goals (
        have HF := hide (bstep (unhide HW15) (unhide HBe))
        go_wp2_with fail
        go_meet
        exact ⟨rfl, unhide HF⟩)
    case rest =>
      obtain ⟨rfl, HF⟩ := hcut
      go_wp2_with fail
      go_ret
      exact ⟨rfl, unhide HF⟩

-- the other cases
set_option maxRecDepth 100000 in
set_option maxHeartbeats 8000000 in
theorem fnBad_other (hpem : PemOK) (ty d ty2 d2 rest : List UInt8) (hv hv2 : Value) (q q2 qr : Option Addr) (bc bc2 rc : Nat) (hs1 hs2 : Hdrs) (at_ : Int) (w : World) (hT : Tabs w) (hH : Hd w hv hs1) (hS : Sl w (.slice q d.length bc) d) (hbc : bc ≤ 9223372036854775807)
   (hH2 : Hd w hv2 hs2) (hS2 : Sl w (.slice q2 d2.length bc2) d2) (hbc2 : bc2 ≤ 9223372036854775807) (hR : Sl w (.slice qr rest.length rc) rest)
   (h1 : ty.length ≤ 1048576) (hd : d.length ≤ 1048576) (h2 : ty2.length ≤ 1048576) (hn2 : hs2.length ≤ 1048576) (hx2 : ∀ p ∈ hs2, p.1.length ≤ 1048576 ∧ p.2.length ≤ 1048576) (hd2 : d2.length ≤ 1048576) (hr : rest.length ≤ 1048576) (hn1 : hs1.length ≤ 1048576) (hx1 : ∀ p ∈ hs1, p.1.length ≤ 1048576 ∧ p.2.length ≤ 1048576)
   (hno : ¬ (hs1 = [] ∧ properB ty hs1 d = true ∧ properB ty2 hs2 d2 = true ∧ d ≠ [] ∧ 0 ≤ at_)) :
    Calls Tryz.prog 6 #[.agg #[.string (bs ty), hv, .slice q d.length bc], .agg #[.string (bs ty2), hv2, .slice q2 d2.length bc2], .int .i64 at_, .slice qr rest.length rc] w fun e w' => e = .returned (.bool true) ∧ Below w.heap.size w w' := by
  obtain ⟨p, cap, rfl, -⟩ := id hH
  obtain ⟨p2, cap2, rfl, -⟩ := id hH2
  obtain ⟨W0, hW0⟩ : ∃ W0, W0 = (w.alloc (.cells #[.string (bs ty), .slice p hs1.length cap, .slice q d.length bc] 25)).alloc (.cells #[.string (bs ty2), .slice p2 hs2.length cap2, .slice q2 d2.length bc2] 25) := ⟨_, rfl⟩
  have hb0 : Below w.heap.size w W0 := by rw [hW0]; exact balloc (balloc (Below.refl _ _) _) _
  have hz0 : W0.heap.size = w.heap.size + 1 + 1 := by rw [hW0, World.size_alloc, World.size_alloc]
  have hblkA : W0.heap[w.heap.size]? = some (.cells #[.string (bs ty), .slice p hs1.length cap, .slice q d.length bc] 25 (0, 0)) := by
    rw [hW0]; exact (Below.heap_alloc _ _ _ (by rw [World.size_alloc]; omega)).trans (heap_new w _)
  have hblkB : W0.heap[w.heap.size + 1]? = some (.cells #[.string (bs ty2), .slice p2 hs2.length cap2, .slice q2 d2.length bc2] 25 (0, 0)) := by
    have h := heap_new (w.alloc (.cells #[.string (bs ty), .slice p hs1.length cap, .slice q d.length bc] 25)) (.cells #[.string (bs ty2), .slice p2 hs2.length cap2, .slice q2 d2.length bc2] 25)
    rw [World.size_alloc] at h
    rw [hW0]; exact h
  have HKP : Hid (∀ W, Below W0.heap.size W0 W → W.heap[w.heap.size]? = some (.cells #[.string (bs ty), .slice p hs1.length cap, .slice q d.length bc] 25 (0, 0)) ∧ W.heap[w.heap.size + 1]? = some (.cells #[.string (bs ty2), .slice p2 hs2.length cap2, .slice q2 d2.length bc2] 25 (0, 0)) ∧ Below w.heap.size w W) :=
    fun W hW => ⟨(hW.block _ (lt_of_heap hblkA)).trans hblkA, (hW.block _ (lt_of_heap hblkB)).trans hblkB, bstep hb0 hW⟩
  have hfit1 := zzFits1_any ty d _ _ hs1 W0 (hH.below hb0) (hS.below hb0) (by omega) (by omega) (by omega) (fun p hp => by have := hx1 p hp; omega)
  rw [fits_sm h1 hn1 hx1 hd] at hfit1
  have hpl1 : (pemOut ty hs1 d).length ≤ 3000000000000 := pemOut_bound h1 (by omega) hd hx1
  have hpl2 : (pemOut ty2 hs2 d2).length ≤ 3000000000000 := pemOut_bound h2 (by omega) hd2 hx2
  have HF1 := hide hfit1
  have HH := hide (And.intro hH (And.intro hS (And.intro hH2 (And.intro hS2 hR))))
  have HX2 := hide hx2
  have HT := hide hT
  have HX1 := hide hx1
  have HNO := hide hno
  have HB0 := hide (And.intro hb0 hz0)
  have HW0 := hide hW0
  have hF2 : Hid (∀ W, Below W0.heap.size W0 W → Calls Tryz.prog 11 #[.agg #[.string (bs ty2), .slice p2 hs2.length cap2, .slice q2 d2.length bc2]] W fun e w' => e = .returned (.bool true) ∧ Below W.heap.size W w') := fun W hW => by
    have hb := bstep hb0 hW
    have h := zzFits1_any ty2 d2 _ _ hs2 W (hH2.below hb) (hS2.below hb) (by omega) (by omega) (by omega) (fun p hp => by have := hx2 p hp; omega)
    rw [fits_sm h2 hn2 hx2 hd2] at h
    exact h
  rw [hW0] at HF1
  clear hfit1 hb0 hz0 hblkA hblkB hH hS hH2 hS2 hR hx2 hx1 hno hT hW0
  go_enter Tryz.func6, Tryz.ntmps6
  go_wp2_with fail
  refine (unhide HF1).mono ?_
  rintro e w1 ⟨rfl, hb1⟩
  rw [← unhide HW0] at hb1
  have HZ1 := hide hb1
  obtain ⟨kA, kB, -⟩ := unhide HKP w1 hb1
  obtain ⟨a0, a1, a2, -⟩ := cells3 kA
  obtain ⟨b0, b1, b2, -⟩ := cells3 kB
  have hf2 := hide (unhide hF2 w1 hb1)
  clear HF1 hb1 hF2 kA kB
  go_wp2_with fail
  refine (unhide hf2).mono ?_
  rintro e w2 ⟨rfl, hb2⟩
  have hz2 := bstep (unhide HZ1) hb2
  have HZ2 := hide hz2
  obtain ⟨kA, kB, hw2⟩ := unhide HKP w2 hz2
  obtain ⟨a0, a1, a2, -⟩ := cells3 kA
  obtain ⟨b0, b1, b2, -⟩ := cells3 kB
  have henc1 := hide (encoded_any ty d (.slice p hs1.length cap) q bc hs1 w2 ((unhide HH).1.below hw2) ((unhide HH).2.1.below hw2) hbc (fun p hp => by have := unhide HX1 p hp; omega) (by omega) (by omega) (fun _ => by omega))
  clear hf2 hb2 hz2 kA kB HZ1 hw2
  go_wp2_with fail
  refine (unhide henc1).mono ?_
  rintro e w3 ⟨hb3, hcase⟩
  have hz3 := bstep (unhide HZ2) hb3
  have HZ3 := hide hz3
  obtain ⟨kA, kB, hw3⟩ := unhide HKP w3 hz3
  obtain ⟨a0, a1, a2, -⟩ := cells3 kA
  obtain ⟨b0, b1, b2, -⟩ := cells3 kB
  have henc2 := hide (encoded_any ty2 d2 (.slice p2 hs2.length cap2) q2 bc2 hs2 w3 ((unhide HH).2.2.1.below hw3) ((unhide HH).2.2.2.1.below hw3) hbc2 (fun p hp => by have := unhide HX2 p hp; omega) (by omega) (by omega) (fun _ => by omega))
  clear henc1 hb3 hz3 kA kB HZ2 hw3
  rcases hcase with ⟨hp1, rfl⟩ | ⟨hp1, s1, rfl⟩
  · have HP1 := hide hp1
    clear hp1
    go_wp2_with fail
    refine (unhide henc2).mono ?_
    rintro e w4 ⟨hb4, hcase⟩
    have hz4 := bstep (unhide HZ3) hb4
    obtain ⟨kA, kB, hw4⟩ := unhide HKP w4 hz4
    obtain ⟨a0, a1, a2, -⟩ := cells3 kA
    obtain ⟨b0, b1, b2, -⟩ := cells3 kB
    have HW4 := hide hw4
    clear henc2 hb4 hz4 kA kB hw4
    rcases hcase with ⟨hp2, rfl⟩ | ⟨hp2, s2, rfl⟩
    · by_cases e1 : hs1 = []
      · by_cases e2 : d = []
        · subst e1
          subst e2
          clear hp2
          have hwk := hide (works_any w4)
          go_wp2_with fail
          refine (unhide hwk).mono ?_
          rintro e w7 ⟨rfl, hb7⟩
          have HB7 : Hid (Below w.heap.size w w7) := bstep (unhide HW4) hb7
          clear hb7 hwk
          go_wp2
          go_ret
          exact ⟨rfl, unhide HB7⟩
        · have e3 : at_ < 0 := by
            rcases Int.lt_or_le at_ 0 with h | h
            · exact h
            · exact absurd ⟨e1, unhide HP1, hp2, e2, h⟩ (unhide HNO)
          have e3b : decide (at_ < 0) = true := decide_eq_true e3
          clear hp2
          subst e1
          have hwk := hide (works_any w4)
          go_wp2_with fail
          refine (unhide hwk).mono ?_
          rintro e w7 ⟨rfl, hb7⟩
          have HB7 : Hid (Below w.heap.size w w7) := bstep (unhide HW4) hb7
          clear hb7 hwk
          go_wp2
          go_ret
          exact ⟨rfl, unhide HB7⟩
      · have hpos : (0 : Int) < (hs1.length : Int) := by have := List.length_pos_iff.2 e1; omega
        have hposN : 0 < hs1.length := List.length_pos_iff.2 e1
        have hne : ¬ hs1.length = 0 := by omega
        have hneq : ¬ hs1 = [] := e1
        clear e1 hp2
        have hwk := hide (works_any w4)
        go_wp2_with fail
        refine (unhide hwk).mono ?_
        rintro e w7 ⟨rfl, hb7⟩
        have HB7 : Hid (Below w.heap.size w w7) := bstep (unhide HW4) hb7
        clear hb7 hwk
        go_wp2
        go_ret
        exact ⟨rfl, unhide HB7⟩
    · clear hp2
      have hwk := hide (works_any w4)
      go_wp2_with fail
      refine (unhide hwk).mono ?_
      rintro e w7 ⟨rfl, hb7⟩
      have HB7 : Hid (Below w.heap.size w w7) := bstep (unhide HW4) hb7
      clear hb7 hwk
      go_wp2
      go_ret
      exact ⟨rfl, unhide HB7⟩
  · clear hp1
    go_wp2_with fail
    refine (unhide henc2).mono ?_
    rintro e w4 ⟨hb4, hcase⟩
    have hz4 := bstep (unhide HZ3) hb4
    obtain ⟨kA, kB, hw4⟩ := unhide HKP w4 hz4
    have HW4 := hide hw4
    clear henc2 hb4 hz4 kA kB hw4 a0 a1 a2 b0 b1 b2
    rcases hcase with ⟨hp2, rfl⟩ | ⟨hp2, s2, rfl⟩
    · clear hp2
      have hwk := hide (works_any w4)
      go_wp2_with fail
      refine (unhide hwk).mono ?_
      rintro e w7 ⟨rfl, hb7⟩
      have HB7 : Hid (Below w.heap.size w w7) := bstep (unhide HW4) hb7
      clear hb7 hwk
      go_wp2
      go_ret
      exact ⟨rfl, unhide HB7⟩
    · clear hp2
      have hwk := hide (works_any w4)
      go_wp2_with fail
      refine (unhide hwk).mono ?_
      rintro e w7 ⟨rfl, hb7⟩
      have HB7 : Hid (Below w.heap.size w w7) := bstep (unhide HW4) hb7
      clear hb7 hwk
      go_wp2
      go_ret
      exact ⟨rfl, unhide HB7⟩
set_option maxRecDepth 100000 in
/-- FnBad. -/
theorem fnBad_walk (hpem : PemOK) (ty d ty2 d2 rest : List UInt8) (hv hv2 : Value) (q q2 qr : Option Addr) (bc bc2 rc : Nat) (hs1 hs2 : Hdrs) (at_ : Int) (w : World) (hT : Tabs w) (hH : Hd w hv hs1) (hS : Sl w (.slice q d.length bc) d) (hbc : bc ≤ 9223372036854775807)
   (hH2 : Hd w hv2 hs2) (hS2 : Sl w (.slice q2 d2.length bc2) d2) (hbc2 : bc2 ≤ 9223372036854775807) (hR : Sl w (.slice qr rest.length rc) rest)
   (h1 : ty.length ≤ 1048576) (hn1 : hs1.length ≤ 1048576) (hx1 : ∀ p ∈ hs1, p.1.length ≤ 1048576 ∧ p.2.length ≤ 1048576) (hd : d.length ≤ 1048576) (h2 : ty2.length ≤ 1048576) (hn2 : hs2.length ≤ 1048576) (hx2 : ∀ p ∈ hs2, p.1.length ≤ 1048576 ∧ p.2.length ≤ 1048576) (hd2 : d2.length ≤ 1048576) (hr : rest.length ≤ 1048576) (hat : at_ ≤ 9223372036854775807) :
    Calls Tryz.prog 6 #[.agg #[.string (bs ty), hv, .slice q d.length bc], .agg #[.string (bs ty2), hv2, .slice q2 d2.length bc2], .int .i64 at_, .slice qr rest.length rc] w fun e w' => e = .returned (.bool true) ∧ Below w.heap.size w w' := by
  by_cases h : hs1 = [] ∧ properB ty hs1 d = true ∧ properB ty2 hs2 d2 = true ∧ d ≠ [] ∧ 0 ≤ at_
  · obtain ⟨rfl, hp1, hp2, hd0, h0⟩ := h
    obtain ⟨n, rfl⟩ := Int.eq_ofNat_of_zero_le h0
    exact fnBad_main hpem ty d ty2 d2 rest hv hv2 q q2 qr bc bc2 rc hs2 n w hT hH hS hbc hH2 hS2 hbc2 hR h1 hd h2 hn2 hx2 hd2 hr (by omega) hp1 hp2 hd0
  · exact fnBad_other hpem ty d ty2 d2 rest hv hv2 q q2 qr bc bc2 rc hs1 hs2 at_ w hT hH hS hbc hH2 hS2 hbc2 hR h1 hd h2 hn2 hx2 hd2 hr hn1 hx1 h
end Go.Proofs.YtpjehmblndjknaaGreatDoor

namespace Go.Proofs.YtpjehmblndjknaaGreatDoor.fnBad
open Go.ChangeShapes Go.WideShapes Go.ChangeAt Go.RowKit
open Go.ChangeMaps (open_string shut_string)
set_option linter.unusedVariables false

theorem own : ownKnob Tryz.prog.godebug = none := by kernel_rfl
theorem laidOut : laidOutB Tryz.prog = true := by kernel_rfl

set_option maxRecDepth 100000 in
theorem contract (H : Type) (enc : TypeId × Value → H) (W : World) (base : Nat) (args : Array Value) (ds gs : List (DataW H)) (before : List MemPlace)
    (hval0 : ∀ (j : Nat) t v, Tryz.f6.params[j]? = some t → args[j]? = some v → Value.okWide Tryz.prog W .any base t v)
    (hW : DataW.Whole enc Tryz.prog Tryz.f6.params.toList Rows.fnBadSpec.vars false W args.toList ds gs before) (hk : Rows.uptoSmall H (ds ++ gs) = true) (hL : laidMetH Tryz.prog laidL W) :
    Calls Tryz.prog 6 args W fun e W' => ∃ v, e = .returned v ∧ Rows.fnBadSpec.post enc Tryz.prog Tryz.f6 false true false false W args v W' := by
  have hval : ∀ (j : Nat) t v, Tryz.f6.params[j]? = some t → args[j]? = some v → Value.okWide Tryz.prog W .any base t v := hval0
  have hW' := hW
  obtain ⟨p, q, hA0, hV, rfl, hfz, hnd⟩ := hW
  have hA : DataW.TrodAll enc Tryz.prog W 0 (fun _ => true) true Tryz.f6.params.toList args.toList ds p := hA0
  rw [Tryz.params6] at hA hval
  obtain ⟨v0, vs0, d0, ds0, p0, pq0, hargs, rfl, rfl, h0, r0⟩ := trodAll_cons hA
  obtain ⟨v1, vs1, d1, ds1, p1, pq1, rfl, rfl, rfl, h1, r1⟩ := trodAll_cons r0
  obtain ⟨v2, vs2, d2, ds2, p2, pq2, rfl, rfl, rfl, h2, r2⟩ := trodAll_cons r1
  obtain ⟨v3, vs3, d3, ds3, p3, pq3, rfl, rfl, rfl, h3, r3⟩ := trodAll_cons r2
  obtain ⟨rfl, rfl, rfl⟩ := trodAll_nil r3
  obtain rfl : args = #[v0, v1, v2, v3] := by cases args; simp_all
  obtain ⟨rfl, rfl⟩ := trodVars_none hV
  have k0 := h0
  have lt0 : ∀ x ∈ p0, x.block < W.heap.size := by obtain ⟨m, hm⟩ := k0; exact DataW.trod_lt m _ _ _ hm
  have k1 := h1
  have lt1 : ∀ x ∈ p1, x.block < W.heap.size := by obtain ⟨m, hm⟩ := k1; exact DataW.trod_lt m _ _ _ hm
  have k2 := h2
  have lt2 : ∀ x ∈ p2, x.block < W.heap.size := by obtain ⟨m, hm⟩ := k2; exact DataW.trod_lt m _ _ _ hm
  have k3 := h3
  have lt3 : ∀ x ∈ p3, x.block < W.heap.size := by obtain ⟨m, hm⟩ := k3; exact DataW.trod_lt m _ _ _ hm
  obtain ⟨ty0, by0, hv0, q0, bc0, hs0, rfl, o01, o02, o03, o04, o05, o06, o07⟩ := open_block_u (hval 0 25 v0 rfl rfl) h0
  obtain ⟨ty1, by1, hv1, q1, bc1, hs1, rfl, o11, o12, o13, o14, o15, o16, o17⟩ := open_block_u (hval 1 25 v1 rfl rfl) h1
  obtain ⟨n2, rfl, e21, e22, w2⟩ := open_int Tryz.underlying3 (hval 2 3 v2 rfl rfl) h2
  have wb2 : -9223372036854775808 ≤ n2 ∧ n2 ≤ 9223372036854775807 := by simpa [Lit.wf, IntKind.min, IntKind.max, IntKind.signed, IntKind.bits] using w2
  obtain ⟨q3, bc3, l3, rfl, e31, e32, e34, e35⟩ := open_bytes_arg (hval 3 23 v3 rfl rfl) h3
  have e33 : l3.length ≤ 9223372036854775807 := by omega
  have hbulk : Rows.uptoBulk d0 + Rows.uptoBulk d1 + Rows.uptoBulk d2 + Rows.uptoBulk d3 ≤ 1048576 := by
    have h2 := of_decide_eq_true hk
    simp only [List.append_nil, Rows.uptoBulkAll] at h2
    omega
  clear hA0 hval0
  have hw := fnBad_walk (fun v data w hs hl hT => pemDecode_any v data w hs hl hT) ty0 by0 ty1 by1 l3 hv0 hv1 q0 q1 q3 bc0 bc1 bc3 hs0 hs1 n2 W (tabs_of hL) o01 o02 o03 o11 o12 o13 e31 (by omega) (by omega) (fun p hp => by have := o07 p hp; omega) (by omega) (by omega) (by omega) (fun p hp => by have := o17 p hp; omega) (by omega) (by omega) wb2.2
  refine hw.mono fun e W' ⟨he, bel⟩ => ?_
  subst he
  have t0 := Below.trod laidOut (by kernel_rfl) (of_decide_eq_true (by kernel_rfl)) k0 bel lt0
  have t1 := Below.trod laidOut (by kernel_rfl) (of_decide_eq_true (by kernel_rfl)) k1 bel lt1
  have t2 := Below.trod laidOut (by kernel_rfl) (of_decide_eq_true (by kernel_rfl)) k2 bel lt2
  have t3 := Below.trod laidOut (by kernel_rfl) (of_decide_eq_true (by kernel_rfl)) k3 bel lt3
  exact ⟨_, rfl, _, _, _, [], _, [], hW', trodAll_mk1 (shut_bool Tryz.underlying4 _), (trodAll_cons_mk t0 (trodAll_cons_mk t1 (trodAll_cons_mk t2 (trodAll_cons_mk t3 trodAll_mk0)))), rfl, bel.frame _, fun h => by cases h⟩

theorem reads (os : Os) {H : Type} (enc : TypeId × Value → H) : ∃ places, DataW.whole enc Tryz.prog ((laidWorld os).forCall (fun _ _ => 0) ⟨#[], #[.agg #[.string ⟨#[]⟩, .slice none 0 0, .slice none 0 0], .agg #[.string ⟨#[]⟩, .slice none 0 0, .slice none 0 0], .int .i64 0, .slice none 0 0], []⟩).memory Tryz.f6.params.toList Rows.fnBadSpec.vars false #[Value.agg #[.string ⟨#[]⟩, .slice none 0 0, .slice none 0 0], .agg #[.string ⟨#[]⟩, .slice none 0 0, .slice none 0 0], .int .i64 0, .slice none 0 0].toList 8 = some ([.agg [.lit (.string []), .nil, .nil], .agg [.lit (.string []), .nil, .nil], .lit (.int .i64 0), .nil], [], places) :=
  ⟨[], by kernel_rfl⟩

set_option maxRecDepth 100000 in
theorem lifted (os : Os) (started : os.Started) (H : Type) (enc : TypeId × Value → H) (F : Stop.Interp) :
    ReturnsInHanded {} Tryz.checked os 6 .any ((Rows.OpenSpec.upto Rows.fnBadSpec).preRow enc Tryz.prog Tryz.f6 Rows.fnBadUptoRow.domain false Rows.fnBadUptoRow.laid) (((Rows.OpenSpec.upto Rows.fnBadSpec).at F).post enc Tryz.prog Tryz.f6 false true false false) := by
  obtain ⟨places, hx⟩ := reads os enc
  refine returnsInHanded_of_row (C := Tryz.checked) (s := Rows.OpenSpec.upto Rows.fnBadSpec) own started (by kernel_rfl) Tryz.func6
    (witness_row_atRef (enc := enc) (C := Tryz.checked) false (laidWorld os) #[.agg #[.string ⟨#[]⟩, .slice none 0 0, .slice none 0 0], .agg #[.string ⟨#[]⟩, .slice none 0 0, .slice none 0 0], .int .i64 0, .slice none 0 0] rfl (by kernel_rfl) (by kernel_rfl) (by kernel_rfl)
      (OpenSpec.preRow_of_cond 8 hx (by kernel_rfl) (fun k hk => by cases hk; kernel_rfl) (by kernel_rfl) (laid_met os _))) ?_
  intro W base args ds gs before hval hW _ hcond _ hL _ _
  exact contract H enc W base args ds gs before hval hW (hcond _ rfl) hL

theorem said : Rows.FnBadUptoSaid :=
  OpenClaim.holds_of_cond 6 Tryz.f6 rfl rfl rfl rfl rfl rfl rfl ⟨rfl, rfl, rfl, rfl, rfl⟩ rfl rfl rfl rfl rfl (by kernel_rfl) Tryz.func6 (by kernel_rfl)
    (of_decide_eq_true (by kernel_rfl)) (by unfold Func.isWrapper; first | (rw [if_pos (by decide +kernel)]; kernel_rfl) | (rw [if_neg (by decide +kernel)]; exact ⟨rfl, rfl⟩))
    (fun os started H enc _ F => by rw [OpenClaim.pre_eq_preRow]; exact lifted os started H enc F)

set_option maxRecDepth 100000 in
/-- No parameter wants a stand-in; the program's own looks are off: what the card asks. -/
theorem plain (f : FuncId) (fn : Func) (hf : Tryz.pinned.checked.prog.funcNamed "pemblocks/laws.FnBad" = some f) (hfn : Tryz.pinned.checked.prog.funcs[f]? = some fn) :
    false = Tryz.pinned.checked.prog.looks [] ∧ ∀ (j : Nat) t, fn.params[j]? = some t → Tryz.pinned.checked.prog.wantsStandIn t = false := by
  obtain rfl : f = 6 := Option.some.inj ((show Tryz.prog.funcNamed "pemblocks/laws.FnBad" = some 6 by kernel_rfl).symm.trans hf) |>.symm
  obtain rfl : fn = Tryz.f6 := (Option.some.inj (Tryz.func6.symm.trans hfn)).symm
  refine ⟨by kernel_rfl, fun j t ht => ?_⟩
  rw [Tryz.params6] at ht
  have hm := Array.mem_of_getElem? ht
  simp at hm
  rcases hm with rfl | rfl | rfl
  · exact (show Tryz.prog.wantsStandIn 25 = false by kernel_rfl)
  · exact (show Tryz.prog.wantsStandIn 3 = false by kernel_rfl)
  · exact (show Tryz.prog.wantsStandIn 23 = false by kernel_rfl)
end Go.Proofs.YtpjehmblndjknaaGreatDoor.fnBad
namespace Go.Proofs.YtpjehmblndjknaaGreatDoor
theorem fnBadUpto_card : Rows.FnBadUptoCardSaid :=
  Claim7.holds_tied_plain_at .later [] _ _ _ _ fnBad.said (fun _ h => by cases h) (by kernel_rfl) (fun _ h => by cases h) fnBadUpto_row_tie rfl ⟨rfl, rfl⟩ (by kernel_rfl) rfl fnBad.plain (by kernel_rfl)
#print axioms fnBadUpto_card
end Go.Proofs.YtpjehmblndjknaaGreatDoor

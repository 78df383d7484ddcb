/-
  Walk: bytes.TrimSpace, whatever the bytes: what it cuts where all are ASCII; else some piece.
-/
import Derived.Test.YtpjehmblndjknaaDoorShelf
import Derived.Test.YtpjehmblndjknaaDoorArr
import Derived.Test.YtpjehmblndjknaaDoorRows
import Derived.Test.YtpjehmblndjknaaDoorDecP
import Derived.Handy
import Derived.Outline
import Derived.Lib.Space
import Derived.Lib.LaidTab
import Derived.Shelf.Unicode.DecodeSlow
namespace Go.Proofs.YtpjehmblndjknaaDoor
open Go.RowKit
set_option linter.unusedSimpArgs false
set_option linter.unusedVariables false

/-- The table of the ASCII blanks. -/
def Asc (w : World) : Prop := ∀ c : UInt8, w.cell? ⟨0, c.toNat, none⟩ = some (.int .u8 (if Lib.isSp c then 1 else 0))

theorem dropW_at {l : List UInt8} {k : Nat} (h : ∀ (j : Nat) c, l[j]? = some c → j < k → Lib.isSp c = true) {c : UInt8} (hk : l[k]? = some c) (hc : Lib.isSp c = false) : l.dropWhile Lib.isSp = l.drop k := by
  induction k generalizing l with
  | zero =>
    cases l with
    | nil => simp at hk
    | cons x r =>
      simp at hk; subst hk
      rw [List.dropWhile_cons, hc]; rfl
  | succ k ih =>
    cases l with
    | nil => simp at hk
    | cons x r =>
      rw [List.dropWhile_cons, h 0 x rfl (by omega), if_pos rfl, List.drop_succ_cons]
      exact ih (fun j c hj hjk => h (j + 1) c hj (by omega)) hk
theorem dropW_all {l : List UInt8} (h : ∀ c ∈ l, Lib.isSp c = true) : l.dropWhile Lib.isSp = [] := by
  induction l with
  | nil => rfl
  | cons x r ih =>
    rw [List.dropWhile_cons, h x (by simp), if_pos rfl]
    exact ih fun c hc => h c (List.mem_cons_of_mem _ hc)
theorem rdropW_at {l : List UInt8} {m : Nat} (h : ∀ (j : Nat) c, l[j]? = some c → m < j → Lib.isSp c = true) {c : UInt8} (hm : l[m]? = some c) (hc : Lib.isSp c = false) : (l.reverse.dropWhile Lib.isSp).reverse = l.take (m + 1) := by
  have hml : m < l.length := (List.getElem?_eq_some_iff.1 hm).1
  have e : l = l.take m ++ c :: l.drop (m + 1) := by
    have h1 := List.getElem_cons_drop hml
    rw [(List.getElem?_eq_some_iff.1 hm).2] at h1
    rw [h1, List.take_append_drop]
  have e2 : l.take (m + 1) = l.take m ++ [c] := by rw [List.take_add_one, hm]; rfl
  rw [e2]
  conv => lhs; rw [e]
  rw [List.reverse_append, List.reverse_cons, List.append_assoc]
  have hall : ∀ x ∈ (l.drop (m + 1)).reverse, Lib.isSp x = true := by
    intro x hx
    rw [List.mem_reverse] at hx
    obtain ⟨j, hj, rfl⟩ := List.getElem_of_mem hx
    exact h (m + 1 + j) _ (by rw [← List.getElem?_drop]; exact List.getElem?_eq_getElem hj) (by omega)
  rw [List.dropWhile_append_of_pos hall]
  rw [List.singleton_append, List.dropWhile_cons, hc]
  simp

/-- What is asked of the trim by a function on runes. -/
def TrimFuncOK : Prop := ∀ (v : Value) (l : List UInt8) (w : World), Sl w v l → l ≠ [] → l.length ≤ 4611686018427387904 → Lib.WhiteTab 2 w → Lib.Utf8Tabs 3 4 w →
  Calls Tryd.prog 34 #[v, .func (.func 35) #[] #[]] w fun e w' => ∃ v' l', e = .returned v' ∧ Sl w v' l' ∧ l'.length ≤ l.length ∧ Below w.heap.size w w'

set_option maxRecDepth 100000 in
set_option maxHeartbeats 4000000 in
theorem trimSpace_any (htf : TrimFuncOK) (v : Value) (l : List UInt8) (w : World) (hs : Sl w v l) (hl : l.length ≤ 4611686018427387904) (hA : Asc w) (hW : Lib.WhiteTab 2 w) (hU : Lib.Utf8Tabs 3 4 w) :
    Calls Tryd.prog 21 #[v] w fun e w' => ∃ v' l', e = .returned v' ∧ Sl w v' l' ∧ Trims l l' ∧ Below w.heap.size w w' := by
  have HTF := hide (fun v l (h : Sl w v l) (hn : l ≠ []) (hl : l.length ≤ 4611686018427387904) => htf v l w h hn hl hW hU)
  have HA := hide hA
  have HS := hide hs
  obtain ⟨p, cap, rfl, hlc, hc⟩ := hs
  have hcap : l.length ≤ cap := hlc
  have HC := hide hc
  clear hc hlc hW hU htf hA
  go_enter Tryd.func21, Tryd.ntmps21
  go_wp2_with fail
  go_loop [0, 9] (fun vs vi => ∃ k : Nat, k ≤ l.length ∧ vs = .slice p l.length cap ∧ vi = .int .i64 (k : Int) ∧ Hid (∀ (j : Nat) c, l[j]? = some c → j < k → Lib.isSp c = true ∧ c.toNat < 128)) (fun _ vi => l.length - (intOf vi).toNat)
  case atStart => exact ⟨0, Nat.zero_le _, rfl, rfl, fun j c _ h => absurd h (by omega)⟩
  case round =>
    obtain ⟨k, hk, rfl, rfl, HK⟩ := hrel
    by_cases hlt : k < l.length
    · obtain ⟨x, hx⟩ : ∃ x, l[k]? = some x := ⟨_, List.getElem?_eq_getElem hlt⟩
      obtain ⟨b, o, rfl, hcell⟩ := unhide HC (by rintro rfl; simp at hlt)
      have hk1 := hcell k x hx
      have hbx := bounds_byte x
      have ha := unhide HA x
      have HX := hide hx
      have HCELL := hide hcell
      obtain ⟨v1, hv1, hs1⟩ := (unhide HS).cutLo k (by omega)
      have HS1 := hide hs1
      clear hx hcell hs1
      by_cases h128 : 128 ≤ (x.toNat : Int)
      · have htf := hide (unhide HTF v1 (l.drop k) (unhide HS1) (by intro e; have := congrArg List.length e; rw [List.length_drop, List.length_nil] at this; omega) (by rw [List.length_drop]; omega))
        clear ha
        go_wp2_with fail
        refine (unhide htf).mono ?_
        rintro e w' ⟨v', l', rfl, h1, h2, h3⟩
        have HF := hide (And.intro h1 (And.intro h2 h3))
        clear h1 h2 h3 htf
        go_wp2
        go_ret
        obtain ⟨h1, h2, h3⟩ := unhide HF
        refine ⟨_, l', rfl, h1, ⟨by rw [List.length_drop] at h2; omega, fun ha => ?_⟩, h3⟩
        have := ha x (List.mem_of_getElem? (unhide HX))
        omega
      · cases hsp : Lib.isSp x with
        | true =>
          rw [hsp, if_pos rfl] at ha
          have HK2 : Hid (∀ (j : Nat) c, l[j]? = some c → j < k + 1 → Lib.isSp c = true ∧ c.toNat < 128) := by
            intro j c hc hj
            by_cases e : j = k
            · subst e; rw [unhide HX] at hc; cases hc; exact ⟨hsp, by omega⟩
            · exact unhide HK j c hc (by omega)
          clear hsp
          go_wp2_with fail
          refine ⟨⟨k + 1, by omega, rfl, by go_num, HK2⟩, ?_⟩
          simp [intOf]; omega
        | false =>
          rw [hsp, if_neg (by simp)] at ha
          have HSP := hide hsp
          have hdw : Hid (l.dropWhile Lib.isSp = l.drop k) := dropW_at (fun j c hc hj => (unhide HK j c hc hj).1) (unhide HX) hsp
          have HL0 : Hid ((l.drop k)[0]? = some x) := by show _ = _; rw [List.getElem?_drop, Nat.add_zero]; exact unhide HX
          obtain ⟨L, hL⟩ : ∃ L, L = l.drop k := ⟨_, rfl⟩
          have hLl : L.length = l.length - k := by rw [hL, List.length_drop]
          rw [← hL] at HS1 hdw HL0
          have HLE := hide hL
          obtain ⟨p1, c1, e1, hl1, hc1⟩ := unhide HS1
          obtain ⟨b1, o1, e2, hcell1⟩ := hc1 (by intro e; rw [e] at hLl; rw [List.length_nil] at hLl; omega)
          subst e2
          have hLp : 0 < L.length := by omega
          have hl1 : L.length ≤ c1 := hl1
          subst e1
          have HC1 := hide hcell1
          have hLb : L.length ≤ l.length := by omega
          clear hsp hL hc1 hcell1 hLl
          have ek : ((L.length - 1 : Nat) : Int) = (L.length : Int) - 1 := by omega
          go_wp2_with fail
          go_loop [5] (fun vi => ∃ m : Nat, m < L.length ∧ vi = .int .i64 (m : Int) ∧ Hid (∀ (j : Nat) c, L[j]? = some c → m < j → Lib.isSp c = true ∧ c.toNat < 128)) (fun vi => (intOf vi + 1).toNat)
          case atStart => exact ⟨L.length - 1, by omega, by rw [ek], fun j c hc hj => absurd (List.getElem?_eq_some_iff.1 hc).1 (by omega)⟩
          case round =>
            obtain ⟨m, hm, rfl, HM⟩ := hrel
            obtain ⟨y, hy⟩ : ∃ y, L[m]? = some y := ⟨_, List.getElem?_eq_getElem hm⟩
            have hky := unhide HC1 m y hy
            have hby := bounds_byte y
            have hay := unhide HA y
            have HY := hide hy
            obtain ⟨v2, hv2, hs2⟩ := (unhide HS1).cutTo (m + 1) (by omega)
            have ec : ((m + 1 : Nat) : Int) = (m : Int) + 1 := by omega
            rw [ec] at hv2
            have HS2 := hide hs2
            clear hy hs2 ec
            by_cases h128 : 128 ≤ (y.toNat : Int)
            · have htf := hide (unhide HTF v2 (L.take (m + 1)) (unhide HS2) (by intro e; have := congrArg List.length e; rw [List.length_take, List.length_nil] at this; omega) (by rw [List.length_take]; omega))
              clear hay
              go_wp2_with fail
              refine (unhide htf).mono ?_
              rintro e w' ⟨v', l', rfl, h1, h2, h3⟩
              have HF := hide (And.intro h1 (And.intro h2 h3))
              clear h1 h2 h3 htf
              go_wp2
              go_ret
              obtain ⟨h1, h2, h3⟩ := unhide HF
              refine ⟨_, l', rfl, h1, ⟨by rw [List.length_take] at h2; omega, fun ha => ?_⟩, h3⟩
              have := ha y (by
                have h4 := List.mem_of_getElem? (unhide HY)
                rw [unhide HLE] at h4
                exact List.mem_of_mem_drop h4)
              omega
            · cases hsp : Lib.isSp y with
              | false =>
                rw [hsp, if_neg (by simp)] at hay
                have HF : Hid (Trims l (L.take (m + 1))) := by
                  refine ⟨by rw [List.length_take]; omega, fun _ => ?_⟩
                  unfold Lib.trimSpace
                  rw [unhide hdw, rdropW_at (fun j c hc hj => (unhide HM j c hc hj).1) (unhide HY) hsp]
                clear hsp
                go_wp2
                go_ret
                exact ⟨_, rfl, _, unhide HS2, unhide HF, Below.refl _ _⟩
              | true =>
                rw [hsp, if_pos rfl] at hay
                have hm0 : 0 < m := by
                  rcases Nat.eq_zero_or_pos m with h0 | h0
                  · subst h0
                    have h5 := unhide HY
                    rw [unhide HL0] at h5
                    cases h5
                    rw [unhide HSP] at hsp; cases hsp
                  · exact h0
                have HM2 : Hid (∀ (j : Nat) c, L[j]? = some c → m - 1 < j → Lib.isSp c = true ∧ c.toNat < 128) := by
                  intro j c hc hj
                  by_cases e : j = m
                  · subst e; rw [unhide HY] at hc; cases hc; exact ⟨hsp, by omega⟩
                  · exact unhide HM j c hc (by omega)
                have em : ((m - 1 : Nat) : Int) = (m : Int) - 1 := by omega
                clear hsp
                go_wp2_with fail
                refine ⟨⟨m - 1, by omega, by rw [em], HM2⟩, ?_⟩
                simp [intOf] <;> omega
    · have HF : Hid (Trims l []) := by
        refine ⟨Nat.zero_le _, fun _ => ?_⟩
        have h0 : l.dropWhile Lib.isSp = [] := dropW_all fun c hc => by
          obtain ⟨j, hj, rfl⟩ := List.getElem_of_mem hc
          exact (unhide HK j _ (List.getElem?_eq_getElem hj) (by omega)).1
        unfold Lib.trimSpace
        rw [h0]; rfl
      go_wp2
      go_ret
      exact ⟨_, rfl, [], Sl.nil _, unhide HF, Below.refl _ _⟩
end Go.Proofs.YtpjehmblndjknaaDoor

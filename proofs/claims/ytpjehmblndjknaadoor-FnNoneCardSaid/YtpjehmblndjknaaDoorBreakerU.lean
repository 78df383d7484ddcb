/-
  lineBreaker.Write over whatever writer, whatever its argument: the full lines are written, the rest is kept.
-/
import Derived.Test.YtpjehmblndjknaaDoorBreakerV
namespace Go.Proofs.YtpjehmblndjknaaDoor
open Go.RowKit
set_option linter.unusedSimpArgs false
set_option linter.unusedVariables false

def BrkPost (W : Wr) (b : Nat) (acc x : List UInt8) (w : World) (ev : Value) (w' : World) : Prop :=
  FrL W.B [W.bb, b] w w' ∧ ((Fits W.lim (acc ++ fullLines x).length ∧ ev = .nilIface ∧ W.Inv (acc ++ fullLines x) w' ∧ Brk w' b W.T W.v (remPart x)) ∨
    (¬ Fits W.lim (acc ++ fullLines x).length ∧ ev = W.ev ∧ W.Fin (cut W.lim (acc ++ fullLines x)) w'))

theorem not_fits_mono {lim : Option Nat} {n k : Nat} (h : ¬ Fits lim n) (hk : n ≤ k) : ¬ Fits lim k := fun f => h (f.mono hk)

theorem cut_prefix {lim : Option Nat} {a r l : List UInt8} (h : ¬ Fits lim a.length) (hl : l = a ++ r) : ¬ Fits lim l.length ∧ cut lim l = cut lim a := by
  subst hl
  exact ⟨not_fits_mono h (by rw [List.length_append]; omega), cut_append h r⟩

theorem brk_write (W : Wr) (hw : WrOK W) (b : Nat) (hne : b ≠ W.bb) (hBb : W.B ≤ b) (n : Nat) : ∀ (d acc pend : List UInt8) (p : Option Addr) (sb so c : Nat) (w : World), d.length ≤ n → (d ≠ [] → p = some ⟨sb, so, none⟩) → W.Inv acc w → Brk w b W.T W.v pend →
    Src w sb so d → (d ≠ [] → Stay W.B [W.bb, b] w sb) → d.length ≤ c → acc.length + 2 * (pend.length + d.length) ≤ 70368744177664 →
    Calls Tryd.prog 115 #[.pointer (some ⟨b, 0, none⟩), .slice p d.length c] w fun e w' => ∃ (n : Int) (ev : Value), e = .returned (.tuple #[.int .i64 n, ev]) ∧ BrkPost W b acc (pend ++ d) w ev w' := by
  induction n with
  | zero =>
    intro d acc pend p sb so c w hn hp hI hb hs hst hdc hsz
    obtain rfl : d = [] := List.eq_nil_of_length_eq_zero (by omega)
    refine (brk_zero W.bb W.B b W.T W.v pend p c w hb hBb hne).mono ?_
    rintro e w' ⟨rfl, hb', hK, hF⟩
    have hl := hb.lt
    refine ⟨0, _, rfl, hF, .inl ⟨?_, rfl, ?_, ?_⟩⟩
    · rw [List.append_nil, fullLines_small hl, List.append_nil]; exact hw.fits _ _ hI
    · rw [List.append_nil, fullLines_small hl, List.append_nil]; exact hw.keep _ _ _ hI hK
    · rw [List.append_nil, remPart_small hl]; exact hb'
  | succ n ih =>
    intro d acc pend p sb so c w hn hp hI hb hs hst hdc hsz
    by_cases h0 : d = []
    · subst h0
      refine (brk_zero W.bb W.B b W.T W.v pend p c w hb hBb hne).mono ?_
      rintro e w' ⟨rfl, hb', hK, hF⟩
      have hl := hb.lt
      refine ⟨0, _, rfl, hF, .inl ⟨?_, rfl, ?_, ?_⟩⟩
      · rw [List.append_nil, fullLines_small hl, List.append_nil]; exact hw.fits _ _ hI
      · rw [List.append_nil, fullLines_small hl, List.append_nil]; exact hw.keep _ _ _ hI hK
      · rw [List.append_nil, remPart_small hl]; exact hb'
    · obtain rfl := hp h0
      have hst := hst h0
      have hd0 : 0 < d.length := List.length_pos_iff.2 h0
      by_cases hlt : pend.length + d.length < 64
      · refine (brk_small W.bb W.B b W.T W.v pend d sb so c w hb hs hd0 hlt hBb hne).mono ?_
        rintro e w' ⟨rfl, hb', hK, hF⟩
        have hl : (pend ++ d).length < 64 := by rw [List.length_append]; exact hlt
        refine ⟨_, _, rfl, hF, .inl ⟨?_, rfl, ?_, ?_⟩⟩
        · rw [fullLines_small hl, List.append_nil]; exact hw.fits _ _ hI
        · rw [fullLines_small hl, List.append_nil]; exact hw.keep _ _ _ hI hK
        · rw [remPart_small hl]; exact hb'
      · have hge : 64 ≤ pend.length + d.length := by omega
        have hlp := hb.lt
        obtain ⟨f1, f2, f3, f4⟩ := big_facts hlp hge
        have hx : 64 ≤ (pend ++ d).length := by rw [List.length_append]; exact hge
        have e1 : (pend ++ d).take 64 = pend ++ d.take (64 - pend.length) := by rw [List.take_append, List.take_of_length_le (by omega)]
        have e2 : (pend ++ d).drop 64 = d.drop (64 - pend.length) := by rw [List.drop_append, List.drop_of_length_le (by omega)]; rfl
        have e3 : acc ++ fullLines (pend ++ d) = acc ++ pend ++ d.take (64 - pend.length) ++ [10] ++ fullLines (d.drop (64 - pend.length)) := by
          rw [fullLines_big hx, e1, e2]; simp
        have e4 : remPart (pend ++ d) = remPart (d.drop (64 - pend.length)) := by rw [remPart_big hx, e2]
        have hsz2 : acc.length + (pend.length + d.length) ≤ 70368744177664 := by omega
        by_cases g1 : Fits W.lim (acc.length + pend.length)
        · by_cases g2 : Fits W.lim (acc.length + (pend.length + (64 - pend.length)))
          · by_cases g3 : Fits W.lim (acc.length + (pend.length + (64 - pend.length + 1)))
            · refine (brk_step W hw b acc pend d sb so c w hI hb hne hBb hs hst hdc hge hsz2 g1 g2 g3 (fun ev w' => BrkPost W b acc (pend ++ d) w ev w') ?_)
              intro w6 so' hI6 hb6 hF6 hso
              have hl2 : (d.drop (64 - pend.length)).length = d.length - (64 - pend.length) := List.length_drop
              have hrec := ih (d.drop (64 - pend.length)) (acc ++ pend ++ d.take (64 - pend.length) ++ [10]) [] (some ⟨sb, so', none⟩) sb so' (c - (64 - pend.length)) w6 (by omega) (fun _ => rfl) hI6 hb6 ?_ (fun _ => hst.fr hF6) (by omega) (by simp only [List.length_append, f3, List.length_cons, List.length_nil]; omega)
              · rw [hl2] at hrec
                refine hrec.mono ?_
                rintro e w' ⟨n', ev', rfl, hF7, hp7⟩
                refine ⟨n', ev', rfl, hF6.trans hF7, ?_⟩
                rw [e3, e4]
                exact hp7
              · by_cases hlt2 : 64 - pend.length < d.length
                · rw [hso hlt2]
                  exact (hs.stay hst hF6).drop _
                · rw [List.drop_of_length_le (by omega)]
                  exact Src.nil _ _ _
            · refine (brk_no3 W hw b acc pend d sb so c w hI hb hne hBb hs hst hdc hge hsz2 g1 g2 g3).mono ?_
              rintro e w' ⟨n', rfl, hI', hF'⟩
              obtain ⟨q1, q2⟩ := cut_prefix (lim := W.lim) (a := acc ++ pend ++ d.take (64 - pend.length) ++ [10]) (by simp only [List.length_append, f3, List.length_cons, List.length_nil]; simpa [Nat.add_assoc] using g3) e3
              exact ⟨n', _, rfl, hF', .inr ⟨q1, rfl, by rw [q2]; exact hI'⟩⟩
          · refine (brk_no2 W hw b acc pend d sb so c w hI hb hne hBb hs hst hdc hge hsz2 g1 g2).mono ?_
            rintro e w' ⟨n', rfl, hI', hF'⟩
            obtain ⟨q1, q2⟩ := cut_prefix (lim := W.lim) (a := acc ++ pend ++ d.take (64 - pend.length)) (by simp only [List.length_append, f3]; simpa [Nat.add_assoc] using g2) (e3.trans (List.append_assoc _ _ _))
            exact ⟨n', _, rfl, hF', .inr ⟨q1, rfl, by rw [q2]; exact hI'⟩⟩
        · refine (brk_no1 W hw b acc pend d (some ⟨sb, so, none⟩) c w hI hb hne hge hsz2 g1).mono ?_
          rintro e w' ⟨n', rfl, hI', hF'⟩
          obtain ⟨q1, q2⟩ := cut_prefix (lim := W.lim) (a := acc ++ pend) (r := d.take (64 - pend.length) ++ [10] ++ fullLines (d.drop (64 - pend.length))) (by simpa using g1) (e3.trans (by simp only [List.append_assoc]))
          exact ⟨n', _, rfl, hF'.toL (by simp), .inr ⟨q1, rfl, by rw [q2]; exact hI'⟩⟩
end Go.Proofs.YtpjehmblndjknaaDoor

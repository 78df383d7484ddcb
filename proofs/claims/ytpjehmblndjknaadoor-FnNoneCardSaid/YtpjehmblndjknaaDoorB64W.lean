/-
  Walk: (*base64.Encoding).Encode: it writes b64 of its source's bytes at its destination's beginning.
-/
import Derived.Test.YtpjehmblndjknaaDoorB64
namespace Go.Proofs.YtpjehmblndjknaaDoor
open Go.RowKit
set_option linter.unusedSimpArgs false
set_option linter.unusedVariables false

theorem and18 (V i : Nat) (hV : V ≤ 16777215) (h : V / 262144 % 64 = i) : bits .and .u64 ((V : Int) / 262144) 63 = (i : Int) := by
  have h2 := u64_and63 (V / 262144) (by omega)
  rw [h] at h2
  rw [show ((V : Int) / 262144) = ((V / 262144 : Nat) : Int) by omega]; exact h2
theorem and12 (V i : Nat) (hV : V ≤ 16777215) (h : V / 4096 % 64 = i) : bits .and .u64 ((V : Int) / 4096) 63 = (i : Int) := by
  have h2 := u64_and63 (V / 4096) (by omega)
  rw [h] at h2
  rw [show ((V : Int) / 4096) = ((V / 4096 : Nat) : Int) by omega]; exact h2
theorem and6 (V i : Nat) (hV : V ≤ 16777215) (h : V / 64 % 64 = i) : bits .and .u64 ((V : Int) / 64) 63 = (i : Int) := by
  have h2 := u64_and63 (V / 64) (by omega)
  rw [h] at h2
  rw [show ((V : Int) / 64) = ((V / 64 : Nat) : Int) by omega]; exact h2
theorem and0 (V i : Nat) (hV : V ≤ 16777215) (h : V % 64 = i) : bits .and .u64 (V : Int) 63 = (i : Int) := by
  have := u64_and63 V (by omega)
  rw [h] at this
  exact this

theorem there_cell {w : World} {b o n : Nat} (h : w.there b o n) (j : Nat) (hj : j < n) : ∃ y, w.cell? ⟨b, o + j, none⟩ = some y := Option.isSome_iff_exists.1 (h j hj).1

set_option maxRecDepth 100000 in
set_option maxHeartbeats 1600000 in
theorem encode_any (eb db do_ sb so : Nat) (p : Option Addr) (l : List UInt8) (dl dc sc : Nat) (w : World) (he : Enc w eb) (hne : eb ≠ db)
   (hp : l ≠ [] → p = some ⟨sb, so, none⟩) (hs : Src w sb so l) (hap : sb ≠ db ∨ so + l.length ≤ do_) (ht : w.there db do_ dl) (hf : ∀ j, w.frozen? ⟨db, j, none⟩ = false)
   (hdl : (b64 l).length ≤ dl) (hdc : dl ≤ dc) (hsc : l.length ≤ sc) (hm : sc ≤ 9223372036854775807) (hmd : dc ≤ 9223372036854775807) :
    Calls Tryd.prog 120 #[.pointer (some ⟨eb, 0, none⟩), .slice (some ⟨db, do_, none⟩) dl dc, .slice p l.length sc] w fun e w' => e = .returned (.tuple #[]) ∧ SC w db do_ (b64 l) w' := by
  by_cases h0 : l = []
  · subst h0
    clear hs he ht hf
    go_enter Tryd.func120, Tryd.ntmps120
    go_wp2
    go_returns
    exact ⟨rfl, SC.refl _ _ _⟩
  · obtain rfl := hp h0
    have hl0 : 0 < l.length := List.length_pos_iff.2 h0
    have hlen := b64_length l
    have HE := hide he
    have HS := hide hs
    have HT := hide ht
    have HF := hide hf
    have HN := hide hne
    have HAP := hide hap
    have HD := hide (And.intro hdl (And.intro hdc hlen))
    clear he hs ht hf hne hap hdl hdc hlen hp
    go_enter Tryd.func120, Tryd.ntmps120
    go_wp2_with (refine wpList_load_mid rfl 78 (.tmp 14) rfl eb 0 rfl alphaV _ (unhide HE).range Tryd.underlying78 rfl alphaV_len ?_)
    go_simp
    go_loopw [1, 2] (fun vd vs wr => ∃ k o1 o2 : Nat, 3 * k ≤ l.length ∧ vs = .slice (some ⟨sb, o1, none⟩) (l.length - 3 * k) (sc - 3 * k) ∧ vd = .slice (some ⟨db, o2, none⟩) (dl - 4 * k) (dc - 4 * k) ∧ Hid ((3 * k < l.length → o1 = so + 3 * k) ∧ (4 * k < dl → o2 = do_ + 4 * k) ∧ SC w db do_ (b64 (l.take (3 * k))) wr)) (fun _ vs _ => match vs with | .slice _ n _ => n | _ => 0)
    case atStart => exact ⟨0, so, do_, by omega, rfl, rfl, fun _ => rfl, fun _ => rfl, SC.refl _ _ _⟩
    case round =>
      obtain ⟨k, o1, o2, hk, rfl, rfl, HR⟩ := hrel
      by_cases h3 : 3 ≤ l.length - 3 * k
      · obtain ⟨a, hxa⟩ : ∃ a, l[3 * k]? = some a := ⟨_, List.getElem?_eq_getElem (by omega)⟩
        obtain ⟨b, hxb⟩ : ∃ b, l[3 * k + 1]? = some b := ⟨_, List.getElem?_eq_getElem (by omega)⟩
        obtain ⟨c, hxc⟩ : ∃ c, l[3 * k + 2]? = some c := ⟨_, List.getElem?_eq_getElem (by omega)⟩
        have ba := bounds_byte a
        have bb := bounds_byte b
        have bc := bounds_byte c
        obtain ⟨r1, r2, r3⟩ := unhide HR
        obtain ⟨d1, d2, d3⟩ := unhide HD
        have q1 := r1 (by omega)
        have q2 := r2 (by omega)
        have hlk : (b64 (l.take (3 * k))).length = 4 * k := b64_length3 k _ (by rw [List.length_take]; omega)
        have hap := unhide HAP
        -- the source's bytes
        have hs0 : wr.cell? ⟨sb, o1, none⟩ = some (.int .u8 (a.toNat : Int)) := by
          rw [r3.cell sb o1 (by rcases hap with h | h; exact .inl h; exact .inr (by omega)), q1]; exact unhide HS _ _ hxa
        have hs1 : wr.cell? ⟨sb, o1 + 1, none⟩ = some (.int .u8 (b.toNat : Int)) := by
          rw [r3.cell sb _ (by rcases hap with h | h; exact .inl h; exact .inr (by omega)), q1]; exact unhide HS _ _ hxb
        have hs2 : wr.cell? ⟨sb, o1 + 2, none⟩ = some (.int .u8 (c.toNat : Int)) := by
          rw [r3.cell sb _ (by rcases hap with h | h; exact .inl h; exact .inr (by omega)), q1]; exact unhide HS _ _ hxc
        -- the places
        have htw := r3.there (unhide HT)
        obtain ⟨y0, hd0⟩ := there_cell htw (4 * k) (by omega)
        obtain ⟨y1, hd1⟩ := there_cell htw (4 * k + 1) (by omega)
        obtain ⟨y2, hd2⟩ := there_cell htw (4 * k + 2) (by omega)
        obtain ⟨y3, hd3⟩ := there_cell htw (4 * k + 3) (by omega)
        rw [show do_ + 4 * k = o2 by omega] at hd0
        rw [show do_ + (4 * k + 1) = o2 + 1 by omega] at hd1
        rw [show do_ + (4 * k + 2) = o2 + 2 by omega] at hd2
        rw [show do_ + (4 * k + 3) = o2 + 3 by omega] at hd3
        have hf : ∀ j, wr.frozen? ⟨db, j, none⟩ = false := fun j => by rw [r3.frozen]; exact unhide HF j
        have hne := unhide HN
        -- the characters
        obtain ⟨V, hV⟩ : ∃ V, V = a.toNat * 65536 + b.toNat * 256 + c.toNat := ⟨_, rfl⟩
        have hv := or_all a b c
        rw [← hV] at hv
        have hVm : V ≤ 16777215 := by omega
        obtain ⟨e1, e2, e3, e4⟩ := quad a.toNat b.toNat c.toNat V (by omega) (by omega) (by omega) hV
        obtain ⟨i0, hi0⟩ : ∃ i, i = V / 262144 % 64 := ⟨_, rfl⟩
        obtain ⟨i1, hi1⟩ : ∃ i, i = V / 4096 % 64 := ⟨_, rfl⟩
        obtain ⟨i2, hi2⟩ : ∃ i, i = V / 64 % 64 := ⟨_, rfl⟩
        obtain ⟨i3, hi3⟩ : ∃ i, i = V % 64 := ⟨_, rfl⟩
        have h18 := and18 V i0 hVm hi0.symm
        have h12 := and12 V i1 hVm hi1.symm
        have h6 := and6 V i2 hVm hi2.symm
        have h00 := and0 V i3 hVm hi3.symm
        have hc (i : Nat) (hi : i < 64) : wr.cell? ⟨eb, i, none⟩ = some (.int .u8 ((aq i).toNat : Int)) := by
          rw [r3.cell eb i (.inl hne)]; exact (unhide HE).c i hi
        have hc0 := hc i0 (by omega)
        have hc1 := hc i1 (by omega)
        have hc2 := hc i2 (by omega)
        have hc3 := hc i3 (by omega)
        have HQ : Hid (b64 (l.take (3 * (k + 1))) = b64 (l.take (3 * k)) ++ [aq i0] ++ [aq i1] ++ [aq i2] ++ [aq i3]) := by
          show _ = _
          rw [b64_round l k a b c hxa hxb hxc, ← e1, ← e2, ← e3, ← e4, ← hi0, ← hi1, ← hi2]
          rw [show V % 64 = i3 from hi3.symm]
        have HI := hide (And.intro (show i0 < 64 by omega) (And.intro (show i1 < 64 by omega) (And.intro (show i2 < 64 by omega) (show i3 < 64 by omega))))
        have z0 : i0 < 64 := (unhide HI).1
        have z1 : i1 < 64 := (unhide HI).2.1
        have z2 : i2 < 64 := (unhide HI).2.2.1
        have z3 : i3 < 64 := (unhide HI).2.2.2
        generalize hX0 : aq i0 = x0 at hc0 HQ
        generalize hX1 : aq i1 = x1 at hc1 HQ
        generalize hX2 : aq i2 = x2 at hc2 HQ
        generalize hX3 : aq i3 = x3 at hc3 HQ
        have bx0 := bounds_byte x0
        have bx1 := bounds_byte x1
        have bx2 := bounds_byte x2
        have bx3 := bounds_byte x3
        have HL := hide (And.intro hlk (And.intro q2 (And.intro d1 (And.intro d2 d3))))
        obtain ⟨o1', hsl1, hso1⟩ := slice_lo sb o1 (l.length - 3 * k) (sc - 3 * k) 3 h3 (by omega)
        obtain ⟨o2', hsl2, hso2⟩ := slice_lo db o2 (dl - 4 * k) (dc - 4 * k) 4 (by omega) (by omega)
        have HO := hide (And.intro hso1 (And.intro hso2 q1))
        have g1 : 4 ≤ dl - 4 * k := by omega
        have g2 : dl - 4 * k ≤ 9223372036854775807 := by omega
        clear hX0 hX1 hX2 hX3 hi0 hi1 hi2 hi3 e1 e2 e3 e4 hV HI hc hlk hap htw r1 r2 r3 d1 d2 d3 q1 q2 hxa hxb hxc hso1 hso2
        go_wp2_with fail
        go_quiet (fail)
        go_wp2
        obtain ⟨r1, r2, r3⟩ := unhide HR
        obtain ⟨hlk, q2, d1, d2, d3⟩ := unhide HL
        obtain ⟨hso1, hso2, q1⟩ := unhide HO
        refine ⟨⟨k + 1, if sc - 3 * k = 3 then o1 else o1 + 3, if dc - 4 * k = 4 then o2 else o2 + 4, by omega, ?_, ?_, hide ⟨?_, ?_, ?_⟩⟩, ?_⟩
        · rw [show l.length - 3 * k - 3 = l.length - 3 * (k + 1) by omega, show sc - 3 * k - 3 = sc - 3 * (k + 1) by omega]
          by_cases h : sc - 3 * k = 3
          · rw [if_pos h, if_pos h]
          · rw [if_neg h, if_neg h]
        · rw [show dl - 4 * k - 4 = dl - 4 * (k + 1) by omega, show dc - 4 * k - 4 = dc - 4 * (k + 1) by omega]
          by_cases h : dc - 4 * k = 4
          · rw [if_pos h, if_pos h]
          · rw [if_neg h, if_neg h]
        · intro h; rw [if_neg (by omega)]; omega
        · intro h; rw [if_neg (by omega)]; omega
        · rw [unhide HQ]
          exact ((((r3.drewN nq).snoc x0 (by omega)).snoc x1 (by rw [List.length_append, hlk, List.length_singleton]; omega)).snoc x2 (by simp only [List.length_append, hlk, List.length_singleton]; omega)).snoc x3 (by simp only [List.length_append, hlk, List.length_singleton]; omega)
        · show l.length - 3 * k - 3 < l.length - 3 * k
          omega
      · by_cases hr0 : l.length - 3 * k = 0
        · obtain ⟨r1, r2, r3⟩ := unhide HR
          have HX : Hid (SC w db do_ (b64 l) wr) := by
            rw [List.take_of_length_le (show l.length ≤ 3 * k by omega)] at r3
            exact r3
          clear r1 r2 r3
          rw [hr0]
          go_wp2
          go_returns
          exact ⟨rfl, unhide HX⟩
        · by_cases hr1 : l.length - 3 * k = 1
          · rw [hr1]
            obtain ⟨a, hxa⟩ : ∃ a, l[3 * k]? = some a := ⟨_, List.getElem?_eq_getElem (by omega)⟩
            have ba := bounds_byte a
            obtain ⟨r1, r2, r3⟩ := unhide HR
            obtain ⟨d1, d2, d3⟩ := unhide HD
            have q1 := r1 (by omega)
            have q2 := r2 (by omega)
            have hlk : (b64 (l.take (3 * k))).length = 4 * k := b64_length3 k _ (by rw [List.length_take]; omega)
            have hap := unhide HAP
            have htw := r3.there (unhide HT)
            obtain ⟨y0, hd0⟩ := there_cell htw (4 * k) (by omega)
            obtain ⟨y1, hd1⟩ := there_cell htw (4 * k + 1) (by omega)
            obtain ⟨y2, hd2⟩ := there_cell htw (4 * k + 2) (by omega)
            obtain ⟨y3, hd3⟩ := there_cell htw (4 * k + 3) (by omega)
            rw [show do_ + 4 * k = o2 by omega] at hd0
            rw [show do_ + (4 * k + 1) = o2 + 1 by omega] at hd1
            rw [show do_ + (4 * k + 2) = o2 + 2 by omega] at hd2
            rw [show do_ + (4 * k + 3) = o2 + 3 by omega] at hd3
            have hf : ∀ j, wr.frozen? ⟨db, j, none⟩ = false := fun j => by rw [r3.frozen]; exact unhide HF j
            have hne := unhide HN
            have hpad : wr.cell? ⟨eb, 320, none⟩ = some (.int .i32 61) := by rw [r3.cell eb 320 (.inl hne)]; exact (unhide HE).pad
            have hc (i : Nat) (hi : i < 64) : wr.cell? ⟨eb, i, none⟩ = some (.int .u8 ((aq i).toNat : Int)) := by
              rw [r3.cell eb i (.inl hne)]; exact (unhide HE).c i hi
            have hs0 : wr.cell? ⟨sb, o1, none⟩ = some (.int .u8 (a.toNat : Int)) := by
              rw [r3.cell sb o1 (by rcases hap with h | h; exact .inl h; exact .inr (by omega)), q1]; exact unhide HS _ _ hxa
            obtain ⟨i0, hi0⟩ : ∃ i, i = a.toNat * 65536 / 262144 % 64 := ⟨_, rfl⟩
            obtain ⟨i1, hi1⟩ : ∃ i, i = a.toNat * 65536 / 4096 % 64 := ⟨_, rfl⟩
            have h18 := and18 (a.toNat * 65536) i0 (by omega) hi0.symm
            have h12 := and12 (a.toNat * 65536) i1 (by omega) hi1.symm
            rw [show ((a.toNat * 65536 : Nat) : Int) = (a.toNat : Int) * 65536 by omega] at h18 h12
            have hc0 := hc i0 (by omega)
            have hc1 := hc i1 (by omega)
            have HQ : Hid (b64 l = b64 (l.take (3 * k)) ++ [aq i0] ++ [aq i1] ++ [61] ++ [61]) := by
              show _ = _
              have e : l = l.take (3 * k) ++ [a] := by
                have h := List.take_add_one (l := l) (i := 3 * k)
                rw [hxa, List.take_of_length_le (by omega)] at h
                exact h
              have e2 := b64_append k (l.take (3 * k)) [a] (by rw [List.length_take]; omega)
              rw [← e] at e2
              rw [e2, show i0 = a.toNat / 4 by omega, show i1 = a.toNat % 4 * 16 by omega]
              simp [b64]
            have z0 : i0 < 64 := by omega
            have z1 : i1 < 64 := by omega
            generalize hX0 : aq i0 = x0 at hc0 HQ
            generalize hX1 : aq i1 = x1 at hc1 HQ
            have bx0 := bounds_byte x0
            have bx1 := bounds_byte x1
            have HL := hide (And.intro hlk (And.intro q2 r3))
            have g1 : 4 ≤ dl - 4 * k := by omega
            have g2 : dl - 4 * k ≤ 9223372036854775807 := by omega
            clear hX0 hX1 hi0 hi1 hc hlk hap htw r1 r2 r3 d1 d2 d3 q1 q2 hxa
            go_wp2
            go_returns
            obtain ⟨hlk, q2, r3⟩ := unhide HL
            refine ⟨rfl, ?_⟩
            rw [unhide HQ]
            exact (((r3.snoc x0 (by omega)).snoc x1 (by rw [List.length_append, hlk, List.length_singleton]; omega)).snoc 61 (by simp only [List.length_append, hlk, List.length_singleton]; omega)).snoc 61 (by simp only [List.length_append, hlk, List.length_singleton]; omega)
          · have hr2 : l.length - 3 * k = 2 := by omega
            rw [hr2]
            obtain ⟨a, hxa⟩ : ∃ a, l[3 * k]? = some a := ⟨_, List.getElem?_eq_getElem (by omega)⟩
            obtain ⟨b, hxb⟩ : ∃ b, l[3 * k + 1]? = some b := ⟨_, List.getElem?_eq_getElem (by omega)⟩
            have ba := bounds_byte a
            have bb := bounds_byte b
            obtain ⟨r1, r2, r3⟩ := unhide HR
            obtain ⟨d1, d2, d3⟩ := unhide HD
            have q1 := r1 (by omega)
            have q2 := r2 (by omega)
            have hlk : (b64 (l.take (3 * k))).length = 4 * k := b64_length3 k _ (by rw [List.length_take]; omega)
            have hap := unhide HAP
            have htw := r3.there (unhide HT)
            obtain ⟨y0, hd0⟩ := there_cell htw (4 * k) (by omega)
            obtain ⟨y1, hd1⟩ := there_cell htw (4 * k + 1) (by omega)
            obtain ⟨y2, hd2⟩ := there_cell htw (4 * k + 2) (by omega)
            obtain ⟨y3, hd3⟩ := there_cell htw (4 * k + 3) (by omega)
            rw [show do_ + 4 * k = o2 by omega] at hd0
            rw [show do_ + (4 * k + 1) = o2 + 1 by omega] at hd1
            rw [show do_ + (4 * k + 2) = o2 + 2 by omega] at hd2
            rw [show do_ + (4 * k + 3) = o2 + 3 by omega] at hd3
            have hf : ∀ j, wr.frozen? ⟨db, j, none⟩ = false := fun j => by rw [r3.frozen]; exact unhide HF j
            have hne := unhide HN
            have hpad : wr.cell? ⟨eb, 320, none⟩ = some (.int .i32 61) := by rw [r3.cell eb 320 (.inl hne)]; exact (unhide HE).pad
            have hc (i : Nat) (hi : i < 64) : wr.cell? ⟨eb, i, none⟩ = some (.int .u8 ((aq i).toNat : Int)) := by
              rw [r3.cell eb i (.inl hne)]; exact (unhide HE).c i hi
            have hs0 : wr.cell? ⟨sb, o1, none⟩ = some (.int .u8 (a.toNat : Int)) := by
              rw [r3.cell sb o1 (by rcases hap with h | h; exact .inl h; exact .inr (by omega)), q1]; exact unhide HS _ _ hxa
            have hs1 : wr.cell? ⟨sb, o1 + 1, none⟩ = some (.int .u8 (b.toNat : Int)) := by
              rw [r3.cell sb _ (by rcases hap with h | h; exact .inl h; exact .inr (by omega)), q1]; exact unhide HS _ _ hxb
            obtain ⟨V, hV⟩ : ∃ V, V = a.toNat * 65536 + b.toNat * 256 := ⟨_, rfl⟩
            have hv := or_8 a.toNat b.toNat (by omega) (by omega)
            rw [← hV] at hv
            have hVm : V ≤ 16777215 := by omega
            obtain ⟨i0, hi0⟩ : ∃ i, i = V / 262144 % 64 := ⟨_, rfl⟩
            obtain ⟨i1, hi1⟩ : ∃ i, i = V / 4096 % 64 := ⟨_, rfl⟩
            obtain ⟨i2, hi2⟩ : ∃ i, i = V / 64 % 64 := ⟨_, rfl⟩
            have h18 := and18 V i0 hVm hi0.symm
            have h12 := and12 V i1 hVm hi1.symm
            have h6 := and6 V i2 hVm hi2.symm
            have hc0 := hc i0 (by omega)
            have hc1 := hc i1 (by omega)
            have hc2 := hc i2 (by omega)
            have HQ : Hid (b64 l = b64 (l.take (3 * k)) ++ [aq i0] ++ [aq i1] ++ [aq i2] ++ [61]) := by
              show _ = _
              have e : l = l.take (3 * k) ++ [a, b] := by
                have h := List.take_add_one (l := l) (i := 3 * k + 1)
                rw [List.take_of_length_le (show l.length ≤ 3 * k + 1 + 1 by omega), List.take_add_one, hxa, hxb] at h
                simpa using h
              have e2 := b64_append k (l.take (3 * k)) [a, b] (by rw [List.length_take]; omega)
              rw [← e] at e2
              rw [e2, show i0 = a.toNat / 4 by omega, show i1 = a.toNat % 4 * 16 + b.toNat / 16 by omega, show i2 = b.toNat % 16 * 4 by omega]
              simp [b64]
            have z0 : i0 < 64 := by omega
            have z1 : i1 < 64 := by omega
            have z2 : i2 < 64 := by omega
            generalize hX0 : aq i0 = x0 at hc0 HQ
            generalize hX1 : aq i1 = x1 at hc1 HQ
            generalize hX2 : aq i2 = x2 at hc2 HQ
            have bx0 := bounds_byte x0
            have bx1 := bounds_byte x1
            have bx2 := bounds_byte x2
            have HL := hide (And.intro hlk (And.intro q2 r3))
            have g1 : 4 ≤ dl - 4 * k := by omega
            have g2 : dl - 4 * k ≤ 9223372036854775807 := by omega
            clear hX0 hX1 hX2 hi0 hi1 hi2 hV hc hlk hap htw r1 r2 r3 d1 d2 d3 q1 q2 hxa hxb
            go_wp2_with fail
            go_quiet (fail)
            go_wp2
            go_returns
            obtain ⟨hlk, q2, r3⟩ := unhide HL
            refine ⟨rfl, ?_⟩
            rw [unhide HQ]
            exact ((((r3.drewN nq).snoc x0 (by omega)).snoc x1 (by rw [List.length_append, hlk, List.length_singleton]; omega)).snoc x2 (by simp only [List.length_append, hlk, List.length_singleton]; omega)).snoc 61 (by simp only [List.length_append, hlk, List.length_singleton]; omega)
end Go.Proofs.YtpjehmblndjknaaDoor

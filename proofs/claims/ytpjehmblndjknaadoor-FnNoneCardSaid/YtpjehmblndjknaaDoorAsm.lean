/-
  Walks: base64's assemble32, assemble64, DecodedLen; byteorder's BEPutUint32, BEPutUint64.
-/
import Derived.Test.YtpjehmblndjknaaDoorDecP
import Derived.Test.YtpjehmblndjknaaDoorArr
import Derived.Laws.BitsAllLaws
import Derived.Handy
import Derived.Outline
namespace Go.Proofs.YtpjehmblndjknaaDoor
open Go.RowKit
set_option linter.unusedSimpArgs false
set_option linter.unusedVariables false

/-- A character's number, or 255. -/
def V6 (x : Nat) : Prop := x < 64 ∨ x = 255
theorem or255 : ∀ y, y < 256 → 255 ||| y = 255 ∧ y ||| 255 = 255 := by decide +kernel
theorem V6.lt {x : Nat} (h : V6 x) : x < 256 := by rcases h with h | h <;> omega
theorem V6.or {x y : Nat} (hx : V6 x) (hy : V6 y) : V6 (x ||| y) ∧ (x ||| y = 255 ↔ x = 255 ∨ y = 255) := by
  rcases hx with h1 | rfl
  · rcases hy with h2 | rfl
    · have h3 : x ||| y < 2 ^ 6 := Nat.or_lt_two_pow h1 h2
      have h3 : x ||| y < 64 := h3
      exact ⟨.inl h3, by omega⟩
    · rw [(or255 x (by omega)).2]; exact ⟨.inr rfl, by simp⟩
  · rw [(or255 y hy.lt).1]; exact ⟨.inr rfl, by simp⟩
theorem v6_dmv (c : UInt8) : V6 (dmv c) := by
  rcases dmk_lt c.toNat 64 (Nat.le_refl _) with h | h
  · exact .inr h
  · exact .inl h
theorem or8 {x y : Nat} (hx : x < 256) (hy : y < 256) : bits .or .u8 (x : Int) (y : Int) = ((x ||| y : Nat) : Int) := u8_or_nat x y hx hy
theorem or4 {a b c d : Nat} (ha : V6 a) (hb : V6 b) (hc : V6 c) (hd : V6 d) : ∃ v : Nat, bits .or .u8 (bits .or .u8 (bits .or .u8 (a : Int) (b : Int)) (c : Int)) (d : Int) = (v : Int) ∧ V6 v ∧ (v = 255 ↔ a = 255 ∨ b = 255 ∨ c = 255 ∨ d = 255) := by
  obtain ⟨h1, e1⟩ := ha.or hb
  obtain ⟨h2, e2⟩ := h1.or hc
  obtain ⟨h3, e3⟩ := h2.or hd
  refine ⟨a ||| b ||| c ||| d, ?_, h3, ?_⟩
  · rw [or8 ha.lt hb.lt, or8 h1.lt hc.lt, or8 h2.lt hd.lt]
  · rw [e3, e2, e1, or_assoc, or_assoc]
theorem or_u32 {x y i : Nat} (hi : i ≤ 32) (h1 : x % 2 ^ i = 0) (h2 : y < 2 ^ i) (h3 : x < 4294967296) : bits .or .u32 (x : Int) (y : Int) = ((x + y : Nat) : Int) := by
  have hy : y < 4294967296 := Nat.lt_of_lt_of_le h2 (Nat.pow_le_pow_right (n := 2) (by decide) hi)
  have := bits_join .u32 32 (by decide) (fun n h₀ h₁ => by rw [IntKind.wrap_u32]; omega) i (x : Int) (y : Int) (by omega) (by exact_mod_cast h1) (by omega) (by omega) (by exact_mod_cast h2) (by omega)
  rw [this]; omega
theorem or_u64 {x y i : Nat} (hi : i ≤ 64) (h1 : x % 2 ^ i = 0) (h2 : y < 2 ^ i) (h3 : x < 18446744073709551616) : bits .or .u64 (x : Int) (y : Int) = ((x + y : Nat) : Int) := by
  have hy : y < 18446744073709551616 := Nat.lt_of_lt_of_le h2 (Nat.pow_le_pow_right (n := 2) (by decide) hi)
  have := bits_join .u64 64 (by decide) (fun n h₀ h₁ => by rw [IntKind.wrap_u64]; omega) i (x : Int) (y : Int) (by omega) (by exact_mod_cast h1) (by omega) (by omega) (by exact_mod_cast h2) (by omega)
  rw [this]; omega
theorem join32 {a b c d : Nat} (ha : a < 64) (hb : b < 64) (hc : c < 64) (hd : d < 64) :
    bits .or .u32 (bits .or .u32 (bits .or .u32 ((a : Int) * 67108864) ((b : Int) * 1048576)) ((c : Int) * 16384)) ((d : Int) * 256) = ((qv a b c d * 256 : Nat) : Int) := by
  have e1 : ((a : Int) * 67108864) = ((a * 67108864 : Nat) : Int) := by omega
  have e2 : ((b : Int) * 1048576) = ((b * 1048576 : Nat) : Int) := by omega
  have e3 : ((c : Int) * 16384) = ((c * 16384 : Nat) : Int) := by omega
  have e4 : ((d : Int) * 256) = ((d * 256 : Nat) : Int) := by omega
  rw [e1, e2, e3, e4, or_u32 (i := 26) (by decide) (by show _ % 67108864 = 0; omega) (by show _ < 67108864; omega) (by omega), or_u32 (i := 20) (by decide) (by show _ % 1048576 = 0; omega) (by show _ < 1048576; omega) (by omega),
    or_u32 (i := 14) (by decide) (by show _ % 16384 = 0; omega) (by show _ < 16384; omega) (by omega)]
  unfold qv
  omega

set_option maxRecDepth 100000 in
set_option maxHeartbeats 1600000 in
theorem asm32_any (a b c d : Nat) (ha : V6 a) (hb : V6 b) (hc : V6 c) (hd : V6 d) (w : World) :
    Calls Tryd.prog 42 #[.int .u8 (a : Int), .int .u8 (b : Int), .int .u8 (c : Int), .int .u8 (d : Int)] w fun e w' => e = .returned (if a = 255 ∨ b = 255 ∨ c = 255 ∨ d = 255 then .tuple #[.int .u32 0, .bool false] else .tuple #[.int .u32 ((qv a b c d * 256 : Nat) : Int), .bool true]) ∧ w = w' := by
  obtain ⟨v, hv, hv6, hiff⟩ := or4 ha hb hc hd
  have a1 := ha.lt
  have a2 := hb.lt
  have a3 := hc.lt
  have a4 := hd.lt
  by_cases h : a = 255 ∨ b = 255 ∨ c = 255 ∨ d = 255
  · rw [if_pos h]
    obtain rfl : v = 255 := hiff.2 h
    clear ha hb hc hd h hiff hv6
    go_enter Tryd.func42, Tryd.ntmps42
    go_wp2
    go_ret2
    exact ⟨rfl, rfl⟩
  · rw [if_neg h]
    have hne : ¬ v = 255 := fun e => h (hiff.1 e)
    have b1 : a < 64 := by rcases ha with h1 | h1; exact h1; exact absurd (.inl h1) h
    have b2 : b < 64 := by rcases hb with h1 | h1; exact h1; exact absurd (.inr (.inl h1)) h
    have b3 : c < 64 := by rcases hc with h1 | h1; exact h1; exact absurd (.inr (.inr (.inl h1))) h
    have b4 : d < 64 := by rcases hd with h1 | h1; exact h1; exact absurd (.inr (.inr (.inr h1))) h
    have hj := join32 b1 b2 b3 b4
    have hne2 : ((v : Int) == 255) = false := by rw [beq_eq_false_iff_ne]; omega
    clear ha hb hc hd h hiff hv6 hne
    go_enter Tryd.func42, Tryd.ntmps42
    go_wp2
    go_ret2
    exact ⟨rfl, rfl⟩

theorem or_8v {a b c d e f g h : Nat} (ha : V6 a) (hb : V6 b) (hc : V6 c) (hd : V6 d) (he : V6 e) (hf : V6 f) (hg : V6 g) (hh : V6 h) :
    ∃ v : Nat, bits .or .u8 (bits .or .u8 (bits .or .u8 (bits .or .u8 (bits .or .u8 (bits .or .u8 (bits .or .u8 (a : Int) (b : Int)) (c : Int)) (d : Int)) (e : Int)) (f : Int)) (g : Int)) (h : Int) = (v : Int) ∧ V6 v ∧ (v = 255 ↔ a = 255 ∨ b = 255 ∨ c = 255 ∨ d = 255 ∨ e = 255 ∨ f = 255 ∨ g = 255 ∨ h = 255) := by
  obtain ⟨h1, e1⟩ := ha.or hb
  obtain ⟨h2, e2⟩ := h1.or hc
  obtain ⟨h3, e3⟩ := h2.or hd
  obtain ⟨h4, e4⟩ := h3.or he
  obtain ⟨h5, e5⟩ := h4.or hf
  obtain ⟨h6, e6⟩ := h5.or hg
  obtain ⟨h7, e7⟩ := h6.or hh
  refine ⟨a ||| b ||| c ||| d ||| e ||| f ||| g ||| h, ?_, h7, ?_⟩
  · rw [or8 ha.lt hb.lt, or8 h1.lt hc.lt, or8 h2.lt hd.lt, or8 h3.lt he.lt, or8 h4.lt hf.lt, or8 h5.lt hg.lt, or8 h6.lt hh.lt]
  · rw [e7, e6, e5, e4, e3, e2, e1]
    simp only [or_assoc]
theorem join64 {a b c d e f g h : Nat} (ha : a < 64) (hb : b < 64) (hc : c < 64) (hd : d < 64) (he : e < 64) (hf : f < 64) (hg : g < 64) (hh : h < 64) :
    bits .or .u64 (bits .or .u64 (bits .or .u64 (bits .or .u64 (bits .or .u64 (bits .or .u64 (bits .or .u64 ((a : Int) * 288230376151711744) ((b : Int) * 4503599627370496)) ((c : Int) * 70368744177664)) ((d : Int) * 1099511627776)) ((e : Int) * 17179869184)) ((f : Int) * 268435456)) ((g : Int) * 4194304)) ((h : Int) * 65536)
      = (((qv a b c d * 16777216 + qv e f g h) * 65536 : Nat) : Int) := by
  have e1 : ((a : Int) * 288230376151711744) = ((a * 288230376151711744 : Nat) : Int) := by omega
  have e2 : ((b : Int) * 4503599627370496) = ((b * 4503599627370496 : Nat) : Int) := by omega
  have e3 : ((c : Int) * 70368744177664) = ((c * 70368744177664 : Nat) : Int) := by omega
  have e4 : ((d : Int) * 1099511627776) = ((d * 1099511627776 : Nat) : Int) := by omega
  have e5 : ((e : Int) * 17179869184) = ((e * 17179869184 : Nat) : Int) := by omega
  have e6 : ((f : Int) * 268435456) = ((f * 268435456 : Nat) : Int) := by omega
  have e7 : ((g : Int) * 4194304) = ((g * 4194304 : Nat) : Int) := by omega
  have e8 : ((h : Int) * 65536) = ((h * 65536 : Nat) : Int) := by omega
  rw [e1, e2, e3, e4, e5, e6, e7, e8,
    or_u64 (i := 58) (by decide) (by show _ % 288230376151711744 = 0; omega) (by show _ < 288230376151711744; omega) (by omega),
    or_u64 (i := 52) (by decide) (by show _ % 4503599627370496 = 0; omega) (by show _ < 4503599627370496; omega) (by omega),
    or_u64 (i := 46) (by decide) (by show _ % 70368744177664 = 0; omega) (by show _ < 70368744177664; omega) (by omega),
    or_u64 (i := 40) (by decide) (by show _ % 1099511627776 = 0; omega) (by show _ < 1099511627776; omega) (by omega),
    or_u64 (i := 34) (by decide) (by show _ % 17179869184 = 0; omega) (by show _ < 17179869184; omega) (by omega),
    or_u64 (i := 28) (by decide) (by show _ % 268435456 = 0; omega) (by show _ < 268435456; omega) (by omega),
    or_u64 (i := 22) (by decide) (by show _ % 4194304 = 0; omega) (by show _ < 4194304; omega) (by omega)]
  unfold qv
  omega

def BadV (a b c d e f g h : Nat) : Prop := a = 255 ∨ b = 255 ∨ c = 255 ∨ d = 255 ∨ e = 255 ∨ f = 255 ∨ g = 255 ∨ h = 255
theorem lt_of_v6 {x : Nat} (h : V6 x) (h2 : ¬ x = 255) : x < 64 := by rcases h with h | h; exact h; exact absurd h h2
set_option maxRecDepth 100000 in
set_option maxHeartbeats 1600000 in
theorem asm64_no (a b c d e f g h : Nat) (ha : V6 a) (hb : V6 b) (hc : V6 c) (hd : V6 d) (he : V6 e) (hf : V6 f) (hg : V6 g) (hh : V6 h) (w : World) (hbad : BadV a b c d e f g h) :
    Calls Tryd.prog 39 #[.int .u8 (a : Int), .int .u8 (b : Int), .int .u8 (c : Int), .int .u8 (d : Int), .int .u8 (e : Int), .int .u8 (f : Int), .int .u8 (g : Int), .int .u8 (h : Int)] w fun r w' => r = .returned (.tuple #[.int .u64 0, .bool false]) ∧ w = w' := by
  obtain ⟨v, hv, hv6, hiff⟩ := or_8v ha hb hc hd he hf hg hh
  have a1 := ha.lt
  have a2 := hb.lt
  have a3 := hc.lt
  have a4 := hd.lt
  have a5 := he.lt
  have a6 := hf.lt
  have a7 := hg.lt
  have a8 := hh.lt
  obtain rfl : v = 255 := hiff.2 hbad
  clear ha hb hc hd he hf hg hh hiff hv6 hbad
  go_enter Tryd.func39, Tryd.ntmps39
  go_wp2
  go_ret2
  exact ⟨rfl, rfl⟩
set_option maxRecDepth 100000 in
set_option maxHeartbeats 1600000 in
theorem asm64_yes (a b c d e f g h : Nat) (ha : V6 a) (hb : V6 b) (hc : V6 c) (hd : V6 d) (he : V6 e) (hf : V6 f) (hg : V6 g) (hh : V6 h) (w : World) (hbad : ¬ BadV a b c d e f g h) :
    Calls Tryd.prog 39 #[.int .u8 (a : Int), .int .u8 (b : Int), .int .u8 (c : Int), .int .u8 (d : Int), .int .u8 (e : Int), .int .u8 (f : Int), .int .u8 (g : Int), .int .u8 (h : Int)] w fun r w' => r = .returned (.tuple #[.int .u64 (((qv a b c d * 16777216 + qv e f g h) * 65536 : Nat) : Int), .bool true]) ∧ w = w' := by
  obtain ⟨v, hv, hv6, hiff⟩ := or_8v ha hb hc hd he hf hg hh
  have hne : ¬ v = 255 := fun e => hbad (hiff.1 e)
  unfold BadV at hbad
  have b1 := lt_of_v6 ha (by intro h; apply hbad; simp [h])
  have b2 := lt_of_v6 hb (by intro h; apply hbad; simp [h])
  have b3 := lt_of_v6 hc (by intro h; apply hbad; simp [h])
  have b4 := lt_of_v6 hd (by intro h; apply hbad; simp [h])
  have b5 := lt_of_v6 he (by intro h; apply hbad; simp [h])
  have b6 := lt_of_v6 hf (by intro h; apply hbad; simp [h])
  have b7 := lt_of_v6 hg (by intro h; apply hbad; simp [h])
  have b8 := lt_of_v6 hh (by intro h; apply hbad; simp [h])
  have hj := join64 b1 b2 b3 b4 b5 b6 b7 b8
  have hne2 : ((v : Int) == 255) = false := by rw [beq_eq_false_iff_ne]; omega
  clear ha hb hc hd he hf hg hh hiff hv6 hbad hne
  go_enter Tryd.func39, Tryd.ntmps39
  go_wp2
  go_ret2
  exact ⟨rfl, rfl⟩

set_option maxRecDepth 100000 in
set_option maxHeartbeats 1600000 in
theorem put32_any (b o n c : Nat) (v : Nat) (hv : v < 4294967296) (hn : 4 ≤ n) (x0 x1 x2 x3 : Value) (w : World)
    (c0 : w.cell? ⟨b, o, none⟩ = some x0) (c1 : w.cell? ⟨b, o + 1, none⟩ = some x1) (c2 : w.cell? ⟨b, o + 2, none⟩ = some x2) (c3 : w.cell? ⟨b, o + 3, none⟩ = some x3) (hf : ∀ j, w.frozen? ⟨b, j, none⟩ = false) :
    Calls Tryd.prog 43 #[.slice (some ⟨b, o, none⟩) n c, .int .u32 (v : Int)] w fun e w' => e = .returned (.tuple #[]) ∧
      w' = (((w.setCell ⟨b, o, none⟩ (.int .u8 ((v : Int) / 16777216))).setCell ⟨b, o + 1, none⟩ (.int .u8 ((v : Int) / 65536 % 256))).setCell ⟨b, o + 2, none⟩ (.int .u8 ((v : Int) / 256 % 256))).setCell ⟨b, o + 3, none⟩ (.int .u8 ((v : Int) % 256)) := by
  have hv1 : (v : Int) < 4294967296 := by omega
  go_enter Tryd.func43, Tryd.ntmps43
  go_wp2
  go_end0
  exact ⟨rfl, rfl⟩
set_option maxRecDepth 100000 in
set_option maxHeartbeats 1600000 in
theorem put64_any (b o n c : Nat) (v : Nat) (hv : v < 18446744073709551616) (hn : 8 ≤ n) (x0 x1 x2 x3 x4 x5 x6 x7 : Value) (w : World)
    (c0 : w.cell? ⟨b, o, none⟩ = some x0) (c1 : w.cell? ⟨b, o + 1, none⟩ = some x1) (c2 : w.cell? ⟨b, o + 2, none⟩ = some x2) (c3 : w.cell? ⟨b, o + 3, none⟩ = some x3)
    (c4 : w.cell? ⟨b, o + 4, none⟩ = some x4) (c5 : w.cell? ⟨b, o + 5, none⟩ = some x5) (c6 : w.cell? ⟨b, o + 6, none⟩ = some x6) (c7 : w.cell? ⟨b, o + 7, none⟩ = some x7) (hf : ∀ j, w.frozen? ⟨b, j, none⟩ = false) :
    Calls Tryd.prog 40 #[.slice (some ⟨b, o, none⟩) n c, .int .u64 (v : Int)] w fun e w' => e = .returned (.tuple #[]) ∧
      w' = (((((((w.setCell ⟨b, o, none⟩ (.int .u8 ((v : Int) / 72057594037927936))).setCell ⟨b, o + 1, none⟩ (.int .u8 ((v : Int) / 281474976710656 % 256))).setCell ⟨b, o + 2, none⟩ (.int .u8 ((v : Int) / 1099511627776 % 256))).setCell ⟨b, o + 3, none⟩ (.int .u8 ((v : Int) / 4294967296 % 256))).setCell ⟨b, o + 4, none⟩ (.int .u8 ((v : Int) / 16777216 % 256))).setCell ⟨b, o + 5, none⟩ (.int .u8 ((v : Int) / 65536 % 256))).setCell ⟨b, o + 6, none⟩ (.int .u8 ((v : Int) / 256 % 256))).setCell ⟨b, o + 7, none⟩ (.int .u8 ((v : Int) % 256)) := by
  have hv1 : (v : Int) < 18446744073709551616 := by omega
  go_enter Tryd.func40, Tryd.ntmps40
  go_wp2
  go_end0
  exact ⟨rfl, rfl⟩
end Go.Proofs.YtpjehmblndjknaaDoor

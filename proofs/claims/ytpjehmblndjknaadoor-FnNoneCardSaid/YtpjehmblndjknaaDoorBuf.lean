/-
  bytes.Buffer as a writer.
-/
import Derived.Test.YtpjehmblndjknaaDoorShelf
import Derived.Test.YtpjehmblndjknaaDoorBreakerU
namespace Go.Proofs.YtpjehmblndjknaaDoor
open Go.RowKit
set_option linter.unusedSimpArgs false
set_option linter.unusedVariables false

def bufWr (B b : Nat) : Wr where
  T := 71
  v := .pointer (some ⟨b, 0, none⟩)
  F := 108
  bb := b
  B := B
  lim := none
  ev := .iface 71 (.pointer (some ⟨b, 0, none⟩))
  Inv := fun acc w => Lib.IsBuffer 69 5 B b (acc.map bv) w
  Fin := fun _ _ => True

theorem isBuffer_keep {B b : Nat} {bs : List Value} {w w' : World} (h : Lib.IsBuffer 69 5 B b bs w) (hk : KeepW b w w') : Lib.IsBuffer 69 5 B b bs w' := by
  obtain ⟨hB, v, lr, hb, hown, hne⟩ := h
  refine ⟨hB, v, lr, hk b _ hb (.inl rfl), ?_, hne⟩
  obtain ⟨h1, h2⟩ := hown
  refine ⟨h1, ?_⟩
  rcases h2 with h2 | ⟨g, cap, cur, e1, e2, e3, r⟩
  · exact .inl h2
  · exact .inr ⟨g, cap, cur, e1, e2, hk g _ e3 (.inr ⟨cur, (0, 0), rfl⟩), r⟩

theorem buf_meth (b : Nat) (w : World) : (method methFuel 71 (.pointer (some ⟨b, 0, none⟩)) "Write").run Tryd.prog w = .ok (108, .pointer (some ⟨b, 0, none⟩)) w := by kernel_rfl
theorem buf_call (args : Array Value) (w : World) : (callFunc 108 args).run Tryd.prog w = .ok (.enter 108 args) w := by kernel_rfl

theorem bufOK (B b : Nat) (hB : B ≤ b) : WrOK (bufWr B b) where
  meth := buf_meth b
  call := buf_call
  keep := fun acc w w' h hk => isBuffer_keep h hk
  keepF := fun _ _ _ _ _ => trivial
  size := fun acc w h => Nat.le_of_lt (Nat.lt_of_le_of_lt hB (by obtain ⟨_, v, lr, hb, _⟩ := h; exact lt_of_heap hb))
  base := hB
  lt := fun acc w h => by obtain ⟨_, v, lr, hb, _⟩ := h; exact lt_of_heap hb
  fits := fun _ _ _ m hm => by cases hm
  ev_ne := ⟨_, _, rfl⟩
  ok := fun acc l sb so c w hI hs hne hlc hsz hf => by
    have hBw : B ≤ w.heap.size := Nat.le_of_lt (Nat.lt_of_le_of_lt hB (by obtain ⟨_, v, lr, hb, _⟩ := hI; exact lt_of_heap hb))
    refine (Tryd.Buffer_Write_any B b (acc.map bv) (l.map bv) ⟨sb, so, none⟩ l.length c w hI hBw (bv_one acc) (List.length_map _) hne ?_ (bv_one l) (by rw [List.length_map]; exact hsz)).mono ?_
    · intro j v hj
      rw [List.getElem?_map] at hj
      obtain ⟨x, hx, rfl⟩ := Option.map_eq_some_iff.1 hj
      rw [addr_add]
      exact hs j x hx
    · rintro e w' ⟨rfl, h1, h2, h3⟩
      exact ⟨rfl, by show Lib.IsBuffer _ _ _ _ _ _; rw [List.map_append]; exact h1, h2, h3⟩
  no := fun acc l sb so c w hI hs hne hlc hsz hf => absurd (fun m hm => by cases hm) hf
end Go.Proofs.YtpjehmblndjknaaDoor

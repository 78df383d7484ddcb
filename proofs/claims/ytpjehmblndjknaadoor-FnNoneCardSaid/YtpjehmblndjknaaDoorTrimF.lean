/-
  bytes.TrimFunc at unicode.IsSpace, off the shelf: its text laid at this dump; bytes.TrimSpace without a condition on it.
-/
import Derived.Test.YtpjehmblndjknaaDoorTrimSp
import Derived.Shelf.Spec.BytesTrimFunc
namespace Go.Proofs.YtpjehmblndjknaaDoor
open Go.RowKit
set_option linter.unusedSimpArgs false
set_option linter.unusedVariables false

def trimRen : Go.Shelf.Ren := ⟨fun | 32 => 67 | 33 => 61 | 42 => 34 | 43 => 57 | 44 => 56 | 49 => 83 | 50 => 71 | 55 => 68 | 56 => 66 | n => n,
  fun | 0 => 0 | 3 => 3 | 4 => 4 | 5 => 5 | 21 => 21 | 25 => 117 | 30 => 22 | 33 => 121 | 48 => 74 | 66 => 75 | 68 => 165 | 69 => 166 | n => n,
  fun | 2 => 3 | 3 => 4 | n => n⟩
theorem trimLays : Go.Proofs.Lays7.n42 Tryd.prog trimRen := {
  mixed := by kernel_rfl
  f32 := Tryd.func67.trans (congrArg some (by kernel_rfl))
  f33 := Tryd.func61.trans (congrArg some (by kernel_rfl))
  f42 := Tryd.func34.trans (congrArg some (by kernel_rfl))
  f43 := Tryd.func57.trans (congrArg some (by kernel_rfl))
  f44 := Tryd.func56.trans (congrArg some (by kernel_rfl))
  f49 := Tryd.func83.trans (congrArg some (by kernel_rfl))
  f50 := Tryd.func71.trans (congrArg some (by kernel_rfl))
  f55 := Tryd.func68.trans (congrArg some (by kernel_rfl))
  f56 := Tryd.func66.trans (congrArg some (by kernel_rfl))
  t0 := Tryd.underlying0
  a0 := Tryd.isAgg0
  z0 := Tryd.sizeOf0
  v0 := Tryd.zeroValue0
  i0 := by kernel_rfl
  t3 := Tryd.underlying3
  a3 := Tryd.isAgg3
  z3 := Tryd.sizeOf3
  v3 := Tryd.zeroValue3
  i3 := by kernel_rfl
  t4 := Tryd.underlying4
  a4 := Tryd.isAgg4
  z4 := Tryd.sizeOf4
  v4 := Tryd.zeroValue4
  i4 := by kernel_rfl
  t5 := Tryd.underlying5
  a5 := Tryd.isAgg5
  z5 := Tryd.sizeOf5
  v5 := Tryd.zeroValue5
  i5 := by kernel_rfl
  t21 := Tryd.underlying21
  a21 := Tryd.isAgg21
  z21 := Tryd.sizeOf21
  v21 := Tryd.zeroValue21
  i21 := by kernel_rfl
  t25 := Tryd.underlying117
  a25 := Tryd.isAgg117
  z25 := Tryd.sizeOf117
  v25 := Tryd.zeroValue117
  i25 := by kernel_rfl
  t30 := Tryd.underlying22
  a30 := Tryd.isAgg22
  z30 := Tryd.sizeOf22
  v30 := Tryd.zeroValue22
  i30 := by kernel_rfl
  t33 := Tryd.underlying121
  a33 := Tryd.isAgg121
  z33 := Tryd.sizeOf121
  v33 := Tryd.zeroValue121
  i33 := by kernel_rfl
  t48 := Tryd.underlying74
  a48 := Tryd.isAgg74
  z48 := Tryd.sizeOf74
  v48 := Tryd.zeroValue74
  i48 := by kernel_rfl
  t66 := Tryd.underlying75
  a66 := Tryd.isAgg75
  z66 := Tryd.sizeOf75
  t68 := Tryd.underlying165
  a68 := Tryd.isAgg165
  z68 := Tryd.sizeOf165
  v68 := Tryd.zeroValue165
  i68 := by kernel_rfl
  t69 := Tryd.underlying166
  a69 := Tryd.isAgg166
  z69 := Tryd.sizeOf166
  v69 := Tryd.zeroValue166
  i69 := by kernel_rfl
  g2 := by kernel_rfl
  g3 := by kernel_rfl }

theorem isSpace_enters (args : Array Value) (w : World) : (callFunc 35 args).run Tryd.prog w = .ok (.enter 35 args) w := by kernel_rfl
theorem WhiteTab_below {g : Nat} {w w' : World} (h : Lib.WhiteTab g w) (hb : Below w.heap.size w w') : Lib.WhiteTab g w' := by
  obtain ⟨T, oT, R, oR, h1, h2, h3, h4, h5⟩ := h
  have k : ∀ b o v, w.cell? ⟨b, o, none⟩ = some v → w'.cell? ⟨b, o, none⟩ = some v := fun b o v hv => (hb.cell (p := ⟨b, o, none⟩) (World.block_lt_of_cell? w _ hv)).trans hv
  exact ⟨T, oT, R, oR, k _ _ _ h1, k _ _ _ h2, k _ _ _ h3, k _ _ _ h4, fun i hi => k _ _ _ (h5 i hi)⟩
theorem isSpace_grows {w : World} (hW : Lib.WhiteTab 2 w) : PredGrows Tryd.prog 35 #[] Lib.isSpaceR w := by
  intro W x hx hb
  have h := Tryd.unicode_IsSpace_any (x : Int) W (by omega) (by omega) (WhiteTab_below hW hb)
  refine h.mono ?_
  rintro e w' ⟨rfl, h2⟩
  exact ⟨by rw [Lib.isSpaceZ_nat], h2⟩
theorem rightEnd_le (p : Nat → Bool) (s : ByteArray) : Lib.rightEndF p s ≤ s.size := by
  unfold Lib.rightEndF
  split
  · rename_i h
    have h1 := lastIdx_lt p false s s.size s.size (Nat.le_refl _)
    have h2 := Lib.decodeGo_le_size (s.extract (Lib.lastIdxFunc p false s).toNat s.size)
    rw [Lib.tail_size] at h2
    have e : Lib.lastIdxFunc p false s = Lib.lastIdxFuncFrom p false s s.size s.size := rfl
    rw [← e] at h1
    change (Lib.decodeGoB _).2 ≤ _ at h2
    rcases h1 with h1 | ⟨_, h1⟩ <;> omega
  · exact Nat.zero_le _
theorem trimFuncOK : TrimFuncOK := by
  intro v l w hs hne hl hW hU
  obtain ⟨p, cap, rfl, hlc, hc⟩ := hs
  obtain ⟨b, o, rfl, hcell⟩ := hc hne
  have hB : BytesAt (bs l) b o w := by
    intro j hj
    rw [bs_size] at hj
    have h1 := hcell j (l[j]'hj) (List.getElem?_eq_getElem hj)
    rw [h1]
    congr 2
    show ((l[j]'hj).toNat : Int) = (((bs l).get! j).toNat : Int)
    congr 2
    show _ = (bs l).data[j]!
    unfold bs
    simp [hj]
  have h := Any7.bytes_TrimFunc trimLays 35 #[] isSpace_enters Lib.isSpaceR (bs l) b o cap w (by rw [bs_size]; exact hlc) (by rw [bs_size]; omega) hB hU (isSpace_grows hW)
  rw [bs_size] at h
  refine h.mono ?_
  rintro e w' ⟨rfl, hb⟩
  have hrg := Lib.idxFuncFrom_range Lib.isSpaceR false (bs l) (bs l).size 0
  have ei : Lib.idxFuncFrom Lib.isSpaceR false (bs l) (bs l).size 0 = Lib.idxFunc Lib.isSpaceR false (bs l) := rfl
  rw [ei] at hrg
  unfold trimCut
  split
  · exact ⟨_, [], rfl, Sl.nil _, Nat.zero_le _, hb⟩
  · rename_i h1
    have h2 : 0 ≤ Lib.idxFunc Lib.isSpaceR false (bs l) ∧ Lib.idxFunc Lib.isSpaceR false (bs l) ≤ l.length := by
      rcases hrg with h3 | ⟨h3, h4⟩
      · exact absurd h3 h1
      · rw [bs_size] at h4; exact ⟨h3, by omega⟩
    obtain ⟨i, hi⟩ := Int.eq_ofNat_of_zero_le h2.1
    rw [hi] at h2
    have h5 := rightEnd_le Lib.isSpaceR ((bs l).extract (Lib.idxFunc Lib.isSpaceR false (bs l)).toNat (bs l).size)
    rw [Lib.tail_size, bs_size, hi, Int.toNat_natCast] at h5
    unfold rightCut
    rw [hi, Int.toNat_natCast, bs_size]
    generalize Lib.rightEndF Lib.isSpaceR ((bs l).extract i l.length) = m at h5
    refine ⟨_, (l.drop i).take m, rfl, ⟨_, cap - i, ?_, ?_, fun _ => ⟨b, o + i, rfl, fun j x hx => ?_⟩⟩, ?_, hb⟩
    · rw [List.length_take, List.length_drop, Nat.min_eq_left h5]
    · rw [List.length_take, List.length_drop]; omega
    · rw [List.getElem?_take] at hx
      split at hx
      · rw [List.getElem?_drop] at hx
        rw [Nat.add_assoc]; exact hcell _ _ hx
      · cases hx
    · rw [List.length_take, List.length_drop]; omega
theorem trim_any (v : Value) (l : List UInt8) (w : World) (hs : Sl w v l) (hl : l.length ≤ 4611686018427387904) (hA : Asc w) (hW : Lib.WhiteTab 2 w) (hU : Lib.Utf8Tabs 3 4 w) :
    Calls Tryd.prog 21 #[v] w fun e w' => ∃ v' l', e = .returned v' ∧ Sl w v' l' ∧ Trims l l' ∧ Below w.heap.size w w' :=
  trimSpace_any trimFuncOK v l w hs hl hA hW hU
end Go.Proofs.YtpjehmblndjknaaDoor

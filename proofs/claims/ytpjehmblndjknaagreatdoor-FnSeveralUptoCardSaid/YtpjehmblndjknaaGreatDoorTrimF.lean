/-
  bytes.TrimFunc at unicode.IsSpace, off the shelf: its text laid at this dump; bytes.TrimSpace without a condition on it.
-/
import Derived.Test.YtpjehmblndjknaaGreatDoorTrimSp
import Derived.Shelf.Spec.BytesTrimFunc
namespace Go.Proofs.YtpjehmblndjknaaGreatDoor
open Go.RowKit
set_option linter.unusedSimpArgs false
set_option linter.unusedVariables false

def trimRen : Go.Shelf.Ren := ⟨fun | 32 => 83 | 33 => 80 | 42 => 50 | 43 => 73 | 44 => 72 | 49 => 99 | 50 => 98 | 55 => 84 | 56 => 82 | n => n,
  fun | 0 => 0 | 3 => 3 | 4 => 4 | 5 => 5 | 21 => 21 | 25 => 63 | 30 => 23 | 33 => 147 | 48 => 91 | 66 => 92 | 68 => 181 | 69 => 182 | n => n,
  fun | 2 => 3 | 3 => 4 | n => n⟩
theorem trimLays : Go.Proofs.Lays7.n42 Tryz.prog trimRen := {
  mixed := by kernel_rfl
  f32 := Tryz.func83.trans (congrArg some (by kernel_rfl))
  f33 := Tryz.func80.trans (congrArg some (by kernel_rfl))
  f42 := Tryz.func50.trans (congrArg some (by kernel_rfl))
  f43 := Tryz.func73.trans (congrArg some (by kernel_rfl))
  f44 := Tryz.func72.trans (congrArg some (by kernel_rfl))
  f49 := Tryz.func99.trans (congrArg some (by kernel_rfl))
  f50 := Tryz.func98.trans (congrArg some (by kernel_rfl))
  f55 := Tryz.func84.trans (congrArg some (by kernel_rfl))
  f56 := Tryz.func82.trans (congrArg some (by kernel_rfl))
  t0 := Tryz.underlying0
  a0 := Tryz.isAgg0
  z0 := Tryz.sizeOf0
  v0 := Tryz.zeroValue0
  i0 := by kernel_rfl
  t3 := Tryz.underlying3
  a3 := Tryz.isAgg3
  z3 := Tryz.sizeOf3
  v3 := Tryz.zeroValue3
  i3 := by kernel_rfl
  t4 := Tryz.underlying4
  a4 := Tryz.isAgg4
  z4 := Tryz.sizeOf4
  v4 := Tryz.zeroValue4
  i4 := by kernel_rfl
  t5 := Tryz.underlying5
  a5 := Tryz.isAgg5
  z5 := Tryz.sizeOf5
  v5 := Tryz.zeroValue5
  i5 := by kernel_rfl
  t21 := Tryz.underlying21
  a21 := Tryz.isAgg21
  z21 := Tryz.sizeOf21
  v21 := Tryz.zeroValue21
  i21 := by kernel_rfl
  t25 := Tryz.underlying63
  a25 := Tryz.isAgg63
  z25 := Tryz.sizeOf63
  v25 := Tryz.zeroValue63
  i25 := by kernel_rfl
  t30 := Tryz.underlying23
  a30 := Tryz.isAgg23
  z30 := Tryz.sizeOf23
  v30 := Tryz.zeroValue23
  i30 := by kernel_rfl
  t33 := Tryz.underlying147
  a33 := Tryz.isAgg147
  z33 := Tryz.sizeOf147
  v33 := Tryz.zeroValue147
  i33 := by kernel_rfl
  t48 := Tryz.underlying91
  a48 := Tryz.isAgg91
  z48 := Tryz.sizeOf91
  v48 := Tryz.zeroValue91
  i48 := by kernel_rfl
  t66 := Tryz.underlying92
  a66 := Tryz.isAgg92
  z66 := Tryz.sizeOf92
  t68 := Tryz.underlying181
  a68 := Tryz.isAgg181
  z68 := Tryz.sizeOf181
  v68 := Tryz.zeroValue181
  i68 := by kernel_rfl
  t69 := Tryz.underlying182
  a69 := Tryz.isAgg182
  z69 := Tryz.sizeOf182
  v69 := Tryz.zeroValue182
  i69 := by kernel_rfl
  g2 := by kernel_rfl
  g3 := by kernel_rfl }

theorem isSpace_enters (args : Array Value) (w : World) : (callFunc 51 args).run Tryz.prog w = .ok (.enter 51 args) w := by kernel_rfl
theorem WhiteTab_below {g : Nat} {w w' : World} (h : Lib.WhiteTab g w) (hb : Below w.heap.size w w') : Lib.WhiteTab g w' := by
  obtain ⟨T, oT, R, oR, h1, h2, h3, h4, h5⟩ := h
  have k : ∀ b o v, w.cell? ⟨b, o, none⟩ = some v → w'.cell? ⟨b, o, none⟩ = some v := fun b o v hv => (hb.cell (p := ⟨b, o, none⟩) (World.block_lt_of_cell? w _ hv)).trans hv
  exact ⟨T, oT, R, oR, k _ _ _ h1, k _ _ _ h2, k _ _ _ h3, k _ _ _ h4, fun i hi => k _ _ _ (h5 i hi)⟩
theorem isSpace_grows {w : World} (hW : Lib.WhiteTab 2 w) : PredGrows Tryz.prog 51 #[] Lib.isSpaceR w := by
  intro W x hx hb
  have h := Tryz.unicode_IsSpace_any (x : Int) W (by omega) (by omega) (WhiteTab_below hW hb)
  refine h.mono ?_
  rintro e w' ⟨rfl, h2⟩
  exact ⟨by rw [Lib.isSpaceZ_nat], h2⟩
theorem rightEnd_le (p : Nat → Bool) (s : ByteArray) : Lib.rightEndF p s ≤ s.size := by
  unfold Lib.rightEndF
  split
  · rename_i h
    have h1 := lastIdx_lt p false s s.size s.size (Nat.le_refl _)
    have h2 := Lib.decodeGo_le_size (s.extract (Lib.lastIdxFunc p false s).toNat s.size)
    rw [Lib.tail_size] at h2
    have e : Lib.lastIdxFunc p false s = Lib.lastIdxFuncFrom p false s s.size s.size := rfl
    rw [← e] at h1
    change (Lib.decodeGoB _).2 ≤ _ at h2
    rcases h1 with h1 | ⟨_, h1⟩ <;> omega
  · exact Nat.zero_le _
theorem trimFuncOK : TrimFuncOK := by
  intro v l w hs hne hl hW hU
  obtain ⟨p, cap, rfl, hlc, hc⟩ := hs
  obtain ⟨b, o, rfl, hcell⟩ := hc hne
  have hB : BytesAt (bs l) b o w := by
    intro j hj
    rw [bs_size] at hj
    have h1 := hcell j (l[j]'hj) (List.getElem?_eq_getElem hj)
    rw [h1]
    congr 2
    show ((l[j]'hj).toNat : Int) = (((bs l).get! j).toNat : Int)
    congr 2
    show _ = (bs l).data[j]!
    unfold bs
    simp [hj]
  have h := Any7.bytes_TrimFunc trimLays 51 #[] isSpace_enters Lib.isSpaceR (bs l) b o cap w (by rw [bs_size]; exact hlc) (by rw [bs_size]; omega) hB hU (isSpace_grows hW)
  rw [bs_size] at h
  refine h.mono ?_
  rintro e w' ⟨rfl, hb⟩
  have hrg := Lib.idxFuncFrom_range Lib.isSpaceR false (bs l) (bs l).size 0
  have ei : Lib.idxFuncFrom Lib.isSpaceR false (bs l) (bs l).size 0 = Lib.idxFunc Lib.isSpaceR false (bs l) := rfl
  rw [ei] at hrg
  unfold trimCut
  split
  · exact ⟨_, [], rfl, Sl.nil _, Nat.zero_le _, hb⟩
  · rename_i h1
    have h2 : 0 ≤ Lib.idxFunc Lib.isSpaceR false (bs l) ∧ Lib.idxFunc Lib.isSpaceR false (bs l) ≤ l.length := by
      rcases hrg with h3 | ⟨h3, h4⟩
      · exact absurd h3 h1
      · rw [bs_size] at h4; exact ⟨h3, by omega⟩
    obtain ⟨i, hi⟩ := Int.eq_ofNat_of_zero_le h2.1
    rw [hi] at h2
    have h5 := rightEnd_le Lib.isSpaceR ((bs l).extract (Lib.idxFunc Lib.isSpaceR false (bs l)).toNat (bs l).size)
    rw [Lib.tail_size, bs_size, hi, Int.toNat_natCast] at h5
    unfold rightCut
    rw [hi, Int.toNat_natCast, bs_size]
    generalize Lib.rightEndF Lib.isSpaceR ((bs l).extract i l.length) = m at h5
    refine ⟨_, (l.drop i).take m, rfl, ⟨_, cap - i, ?_, ?_, fun _ => ⟨b, o + i, rfl, fun j x hx => ?_⟩⟩, ?_, hb⟩
    · rw [List.length_take, List.length_drop, Nat.min_eq_left h5]
    · rw [List.length_take, List.length_drop]; omega
    · rw [List.getElem?_take] at hx
      split at hx
      · rw [List.getElem?_drop] at hx
        rw [Nat.add_assoc]; exact hcell _ _ hx
      · cases hx
    · rw [List.length_take, List.length_drop]; omega
theorem trim_any (v : Value) (l : List UInt8) (w : World) (hs : Sl w v l) (hl : l.length ≤ 4611686018427387904) (hA : Asc w) (hW : Lib.WhiteTab 2 w) (hU : Lib.Utf8Tabs 3 4 w) :
    Calls Tryz.prog 37 #[v] w fun e w' => ∃ v' l', e = .returned v' ∧ Sl w v' l' ∧ Trims l l' ∧ Below w.heap.size w w' :=
  trimSpace_any trimFuncOK v l w hs hl hA hW hU
end Go.Proofs.YtpjehmblndjknaaGreatDoor

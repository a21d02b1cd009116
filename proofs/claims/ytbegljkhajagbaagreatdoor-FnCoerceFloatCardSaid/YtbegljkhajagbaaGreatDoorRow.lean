/- FnCoerceFloat: rows of values in memory, and parts of them; the reference's among answers. No condition. -/
import Derived.Test.YtbegljkhajagbaaGreatDoorVal
import Derived.Test.YtbegljkhajagbaaGreatDoorU8
import Derived.Deep.Slices
namespace Go.Proofs.YtbegljkhajagbaaGreatDoor.PFnCoerceFloat
open Go.RowKit Go.Proofs.YtbegljkhajagbaaGreatDoorW.PrintWords Go.Proofs.YtbegljkhajagbaaGreatDoorW.PrintLast Go.Proofs.YtbegljkhajagbaaGreatDoorW.PrintMore
set_option linter.unusedVariables false
set_option linter.unusedSimpArgs false
theorem C_part {w : World} {ad : Addr} {n : Nat} {l : List V} (h : Kd.C kV w (some ad) n l) (k m : Nat) (hm : k + m ≤ n) : Kd.C kV w (some (ad.add (k * 4))) m ((l.drop k).take m) := by
  obtain ⟨h1, h2, h3⟩ := h
  refine ⟨by rw [List.length_take, List.length_drop]; omega, by omega, fun hp => ⟨_, rfl, fun j p hj => ?_⟩⟩
  obtain ⟨ad', e, h4⟩ := h3 (by omega)
  obtain rfl := Option.some.inj e
  obtain ⟨hj1, hj2⟩ := List.getElem?_eq_some_iff.1 hj
  rw [List.length_take, List.length_drop] at hj1
  obtain ⟨c, hc1, hc2, hc3⟩ := h4 (k + j) p (by
    rw [List.getElem?_take, if_pos (by omega), List.getElem?_drop] at hj
    exact hj)
  refine ⟨c, hc1, hc2, fun i u hu => ?_⟩
  have h5 : w.cell? (ad.add ((k + j) * 4 + i)) = some u := hc3 i u hu
  have h6 : ((ad.add (k * 4)).add (j * 4 + i)) = ad.add ((k + j) * 4 + i) := by rw [Deep.add_add]; congr 1; omega
  exact (congrArg w.cell? h6).trans h5
theorem cellsI {w : World} {ad : Addr} {n : Nat} {l : List V} (h : Kd.C kV w (some ad) n l) (k : Nat) (hk : k < n) : w.cell? (ad.add (k * 4)) = some (.int .i64 (l.getD k zV).f0) ∧ w.cell? ⟨(ad.add (k * 4)).block, (ad.add (k * 4)).off + 1, none⟩ = some (.float .f64 (l.getD k zV).f1) ∧ w.cell? ⟨(ad.add (k * 4)).block, (ad.add (k * 4)).off + 2, none⟩ = some (.string (l.getD k zV).f2) ∧ w.cell? ⟨(ad.add (k * 4)).block, (ad.add (k * 4)).off + 3, none⟩ = some (.int .i64 (l.getD k zV).f3) := by
  obtain ⟨ad', e, h1, h2, h3, h4⟩ := atI h (k : Int) (by omega) (by omega)
  obtain rfl := Option.some.inj e
  exact ⟨h1, h2, h3, h4⟩
theorem cells0 {w : World} {ad : Addr} {n : Nat} {l : List V} (h : Kd.C kV w (some ad) n l) (hn : 0 < n) : w.cell? ad = some (.int .i64 (l.getD 0 zV).f0) ∧ w.cell? ⟨ad.block, ad.off + 1, none⟩ = some (.float .f64 (l.getD 0 zV).f1) ∧ w.cell? ⟨ad.block, ad.off + 2, none⟩ = some (.string (l.getD 0 zV).f2) ∧ w.cell? ⟨ad.block, ad.off + 3, none⟩ = some (.int .i64 (l.getD 0 zV).f3) := by
  cases l with
  | nil => have := h.1; simp at this; omega
  | cons x xs =>
    obtain ⟨ad', e, h1, h2, h3, h4⟩ := at0 h
    obtain rfl := Option.some.inj e
    exact ⟨h1, h2, h3, h4⟩
theorem among_l0 (l : List ByteArray) (a : ByteArray) (hl : l.length ≤ 2147483647) (d : Nat) : ∀ (k i : Nat), l.length - i ≤ d → d < k → ∃ b, spec_among.l0 k l a (i : Int) = some b := by
  induction d with
  | zero =>
    intro k i hd hk
    obtain ⟨k, rfl⟩ : ∃ m, k = m + 1 := ⟨k - 1, by omega⟩
    exact ⟨false, by simp only [spec_among.l0]; rw [if_neg (by omega)]⟩
  | succ d ih =>
    intro k i hd hk
    obtain ⟨k, rfl⟩ : ∃ m, k = m + 1 := ⟨k - 1, by omega⟩
    simp only [spec_among.l0]
    by_cases hi : (i : Int) < (l.length : Int)
    · rw [if_pos hi, if_pos (by omega)]
      by_cases he : (rdOf ByteArray.empty l (i : Int)).toList = a.toList
      · rw [if_pos he]; exact ⟨_, rfl⟩
      · rw [if_neg he, w64 (by omega) (by omega), show ((i : Int) + 1) = ((i + 1 : Nat) : Int) from by omega]
        exact ih k (i + 1) (by omega) (by omega)
    · rw [if_neg hi]; exact ⟨_, rfl⟩
theorem among_some (l : List ByteArray) (a : ByteArray) (hl : l.length ≤ 2147483647) : ∃ b, spec_among.f (l.length + 1) l a = some b :=
  among_l0 l a hl l.length (l.length + 1) 0 (by omega) (by omega)
end Go.Proofs.YtbegljkhajagbaaGreatDoor.PFnCoerceFloat

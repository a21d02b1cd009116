/- What the printed Go functions of FnPathOf answer: true for every list of parts. No condition. -/
import Derived.Test.YtmlochnckplalaaPFnPathOfx2
namespace Go.Proofs.Ytmlochnckplalaa.Pure
open Go.RowKit Go.Proofs.Ytmlochnckplalaa.PFnPathOf Go.Proofs.YtmlochnckplalaaW.PrintWords Go.Proofs.YtmlochnckplalaaW.PrintLast

theorem wrapS {i n : Nat} (h : i < n) (hn : n ≤ 2147483647) : wrap64 ((i : Int) + 1) = ((i + 1 : Nat) : Int) := by
  unfold wrap64; omega

theorem fits (l : List S28) (hn : l.length ≤ 2147483647) (d : Nat) : ∀ (k i : Nat), i ≤ l.length → l.length - i = d → d < k →
    ∃ b, laws_zzFits6.l0 k l (l.length : Int) (i : Int) = some b := by
  induction d with
  | zero =>
    intro k i h1 hd hk
    obtain ⟨k, rfl⟩ : ∃ m, k = m + 1 := ⟨k - 1, by omega⟩
    exact ⟨true, by simp only [laws_zzFits6.l0]; rw [if_neg (by omega)]⟩
  | succ d ih =>
    intro k i h1 hd hk
    obtain ⟨k, rfl⟩ : ∃ m, k = m + 1 := ⟨k - 1, by omega⟩
    obtain ⟨b, hb⟩ := ih k (i + 1) (by omega) (by omega) (by omega)
    simp only [laws_zzFits6.l0]
    rw [if_pos (by omega), if_pos (by omega), if_pos (by omega), wrapS (show i < l.length by omega) hn]
    unfold laws_zzFits7.f
    by_cases h : (((rd_T28 l (i : Int)).f0).size : Int) > 2147483647
    · exact ⟨false, by rw [if_pos h]; rfl⟩
    · exact ⟨b, by rw [if_neg h]; simpa using hb⟩

theorem same (l : List S28) (hn : l.length ≤ 60) (d : Nat) : ∀ (k i : Nat), i ≤ l.length → l.length - i = d → d < k →
    spec_SamePath.l0 k l l (i : Int) = some true := by
  induction d with
  | zero =>
    intro k i h1 hd hk
    obtain ⟨k, rfl⟩ : ∃ m, k = m + 1 := ⟨k - 1, by omega⟩
    simp only [spec_SamePath.l0]; rw [if_neg (by omega)]
  | succ d ih =>
    intro k i h1 hd hk
    obtain ⟨k, rfl⟩ : ∃ m, k = m + 1 := ⟨k - 1, by omega⟩
    simp only [spec_SamePath.l0]
    rw [if_pos (by omega), if_pos (by omega), if_pos (by omega), if_neg (by simp), wrapS (show i < l.length by omega) (by omega)]
    exact ih k (i + 1) (by omega) (by omega) (by omega)

theorem sameF (l : List S28) (hn : l.length ≤ 60) (k : Nat) (hk : 60 < k) : spec_SamePath.f k l l = some true := by
  unfold spec_SamePath.f
  rw [if_pos rfl]
  exact same l hn l.length k 0 (by omega) (by omega) (by omega)

theorem empty_of {s : ByteArray} (h : s.data.toList = []) : s = ⟨#[]⟩ := by
  apply ByteArray.ext
  apply Array.ext'
  rw [h]

theorem rd_nat (l : List S28) (i : Nat) (h : i < l.length) : rd_T28 l (i : Int) = l[i] := by
  simp [rd_T28, List.getD_eq_getElem?_getD, h]

theorem norm_all (l : List S28) (h : ∀ j (hj : j < l.length), normP l[j] = l[j]) : l.map normP = l := by
  apply List.ext_getElem
  · simp
  · intro i h1 h2
    rw [List.getElem_map]
    exact h i h2

theorem lawL (l : List S28) (hn : l.length ≤ 60) (d : Nat) : ∀ (k i : Nat), i ≤ l.length → l.length - i = d → d + 61 < k → (∀ j (hj : j < l.length), j < i → normP l[j] = l[j]) →
    laws_FnPathOf.l0 k l (i : Int) = some true := by
  induction d with
  | zero =>
    intro k i h1 hd hk hj
    obtain ⟨k, rfl⟩ : ∃ m, k = m + 1 := ⟨k - 1, by omega⟩
    simp only [laws_FnPathOf.l0]
    rw [if_neg (by omega)]
    have hm := norm_all l fun j hjl => hj j hjl (by omega)
    have ha : impl_PathOf.f l = some l := by unfold impl_PathOf.f; rw [if_pos hn, hm]
    have hone : impl_PathOf.f [(⟨(⟨#[97]⟩ : ByteArray), 0⟩ : S28)] = some [(⟨(⟨#[97]⟩ : ByteArray), 0⟩ : S28)] := by
      unfold impl_PathOf.f
      rw [if_pos (by simp)]
      simp [normP]
    simp only [Option.bind_some, ha, hone, sameF l hn k (by omega), sameF [(⟨(⟨#[97]⟩ : ByteArray), 0⟩ : S28)] (by simp) k (by omega), if_true]
  | succ d ih =>
    intro k i h1 hd hk hj
    obtain ⟨k, rfl⟩ : ∃ m, k = m + 1 := ⟨k - 1, by omega⟩
    have hlt : i < l.length := by omega
    have step : normP l[i] = l[i] → laws_FnPathOf.l0 k l ((i + 1 : Nat) : Int) = some true := fun hg =>
      ih k (i + 1) (by omega) (by omega) (by omega) fun j hjl hji => by
        by_cases e : j = i
        · subst e; exact hg
        · exact hj j hjl (by omega)
    simp only [laws_FnPathOf.l0]
    rw [if_pos (by omega), if_pos (by omega), rd_nat l i hlt, wrapS hlt (by omega)]
    by_cases hneg : l[i].f1 < 0
    · rw [if_pos hneg]
    · rw [if_neg hneg]
      by_cases he : l[i].f0.toList = []
      · rw [if_pos he]
        refine step ?_
        have he' : l[i].f0.data.toList = [] := by rw [← ByteArray.toList_eq]; exact he
        rw [normP_nil he', ← empty_of he']
      · rw [if_neg he]
        by_cases h0 : l[i].f1 = 0
        · rw [if_pos h0]
          refine step ?_
          have he' : ¬ l[i].f0.data.toList = [] := by rw [← ByteArray.toList_eq]; exact he
          rw [normP_cons he', ← h0]
        · rw [if_neg h0]

theorem FnPathOf (l : List S28) : ∃ k, laws_FnPathOf.f k l = some true := by
  by_cases hb : (l.length : Int) > 2147483647
  · refine ⟨1, ?_⟩
    unfold laws_FnPathOf.f laws_zzFits6.f
    rw [if_pos hb]; simp
  · have hn : l.length ≤ 2147483647 := by omega
    obtain ⟨b, hf⟩ := fits l hn l.length (l.length + 122) 0 (by omega) (by omega) (by omega)
    refine ⟨l.length + 122, ?_⟩
    unfold laws_FnPathOf.f laws_zzFits6.f
    rw [if_neg hb]
    have hf' : laws_zzFits6.l0 (l.length + 122) l (l.length : Int) 0 = some b := hf
    rw [hf']
    simp only [Option.bind_some]
    by_cases hbb : b = true
    · rw [if_pos hbb]
      by_cases h60 : (l.length : Int) > 60
      · rw [if_pos h60]
      · rw [if_neg h60]
        exact lawL l (by omega) l.length _ 0 (by omega) (by omega) (by omega) fun j _ hj => by omega
    · rw [if_neg hbb]

end Go.Proofs.Ytmlochnckplalaa.Pure

/- What the printed Go functions of FnIndent answer: zzIndent and the law's own loop write the same text, two blanks behind each line feed, for every text of at most 2000 bytes; longer texts are let through. Condition: a text of at most 2^47 - 4096 bytes. -/
import Derived.Test.YtmlochnckplalaaPFnIndentx1
import Derived.Lib.LazyBuf
namespace Go.Proofs.Ytmlochnckplalaa.Pure
open Go.RowKit Go.Proofs.Ytmlochnckplalaa.PFnIndent Go.Proofs.YtmlochnckplalaaW.PrintWords Go.Proofs.YtmlochnckplalaaW.PrintLast

/-- Two blanks behind each line feed. -/
def ind : List UInt8 → List UInt8
  | [] => []
  | c :: t => (if c = 10 then [10, 32, 32] else [c]) ++ ind t
def B (l : List UInt8) : List Int := l.map fun b => (b.toNat : Int)

theorem ind_append (a b : List UInt8) : ind (a ++ b) = ind a ++ ind b := by
  induction a with
  | nil => rfl
  | cons c t ih => simp [ind, ih]

theorem ind_length (a : List UInt8) : (ind a).length ≤ 3 * a.length := by
  induction a with
  | nil => simp [ind]
  | cons c t ih => simp only [ind, List.length_append, List.length_cons]; split <;> simp <;> omega

theorem wrap1 {i : Nat} {n : Nat} (h : i < n) (hn : n ≤ 140737488351232) : wrap64 ((i : Int) + 1) = ((i + 1 : Nat) : Int) := by
  unfold wrap64; omega

theorem take_snoc (s : ByteArray) (k : Nat) (h : k < s.size) : s.data.toList.take (k + 1) = s.data.toList.take k ++ [s[k]] := by
  rw [List.take_succ_eq_append_getElem (by simpa using h)]; rfl

theorem bt_nat (s : ByteArray) (i : Nat) (h : i < s.size) : bt s (i : Int) = (s[i].toNat : Int) := by
  simp [bt, h]

theorem ind_take_len (s : ByteArray) (i : Nat) (h : i ≤ s.size) : (ind (s.data.toList.take i)).length ≤ 3 * s.size := by
  have h1 := ind_length (s.data.toList.take i)
  have h2 : (s.data.toList.take i).length ≤ i := List.length_take_le _ _
  omega

theorem ind_succ (s : ByteArray) (i : Nat) (h : i < s.size) : ind (s.data.toList.take (i + 1)) = ind (s.data.toList.take i) ++ (if s[i] = 10 then [10, 32, 32] else [s[i]]) := by
  rw [take_snoc s i h, ind_append]; simp [ind]

theorem u8_10 (c : UInt8) : ((c.toNat : Int) = 10) ↔ c = 10 := by
  constructor
  · intro h
    apply UInt8.toNat_inj.mp
    have : c.toNat = 10 := by omega
    rw [this]; rfl
  · rintro rfl; rfl

theorem zz (s : ByteArray) (hn : s.size ≤ 2000) (d : Nat) : ∀ (k i : Nat), i ≤ s.size → s.size - i = d → d < k →
    printer_zzIndent.l0 k s (B (ind (s.data.toList.take i))) (i : Int) = some ⟨(ind s.data.toList).toArray⟩ := by
  induction d with
  | zero =>
    intro k i h1 hd hk
    obtain ⟨k, rfl⟩ : ∃ m, k = m + 1 := ⟨k - 1, by omega⟩
    simp only [printer_zzIndent.l0]
    rw [if_neg (by omega)]
    have e : s.data.toList.take i = s.data.toList := List.take_of_length_le (by simp; omega)
    rw [e]; unfold B; rw [Go.Lib.Lz.strOfNums_map]
  | succ d ih =>
    intro k i h1 hd hk
    obtain ⟨k, rfl⟩ : ∃ m, k = m + 1 := ⟨k - 1, by omega⟩
    have hlt : i < s.size := by omega
    have hl := ind_take_len s i h1
    have e1 := wrap1 hlt (by omega)
    have ih' := ih k (i + 1) (by omega) (by omega) (by omega)
    have hB : (B (ind (s.data.toList.take i))).length ≤ 6000 := by unfold B; rw [List.length_map]; omega
    simp only [printer_zzIndent.l0]
    rw [if_pos (by omega), if_pos (by omega), if_pos (by omega), bt_nat s i hlt]
    simp only [Option.bind_some]
    rw [ind_succ s i hlt] at ih'
    by_cases hc : s[i] = 10
    · rw [if_pos ((u8_10 _).mpr hc), if_pos (by rw [List.length_append]; simp; omega), e1]
      rw [if_pos hc] at ih'
      rw [← ih', hc]; simp [B]
    · rw [if_neg (fun h => hc ((u8_10 _).mp h)), e1]
      rw [if_neg hc] at ih'
      rw [← ih']; simp [B]

theorem zzf (s : ByteArray) (hn : s.size ≤ 2000) (k : Nat) (hk : 2001 < k) : printer_zzIndent.f k s = some ⟨(ind s.data.toList).toArray⟩ := by
  have := zz s hn s.size k 0 (by omega) (by omega) (by omega)
  simpa [printer_zzIndent.f, B, ind] using this

theorem ext1 (s : ByteArray) (i : Nat) (h : i < s.size) : s.extract i (i + 1) = ⟨#[s[i]]⟩ := by
  apply ByteArray.ext
  apply Array.ext'
  rw [ByteArray.data_extract, Array.toList_extract, List.extract_eq_take_drop]
  have h' : i < s.data.toList.length := by simpa using h
  rw [List.drop_eq_getElem_cons h']
  simp
  rfl

theorem mk_append (a b : List UInt8) : (⟨a.toArray⟩ : ByteArray) ++ ⟨b.toArray⟩ = ⟨(a ++ b).toArray⟩ := by
  simp [ByteArray.mk_append_mk]

theorem lw (s : ByteArray) (hn : s.size ≤ 2000) (d : Nat) : ∀ (k i : Nat), i ≤ s.size → s.size - i = d → d + 2003 < k →
    laws_FnIndent.l0 k s ⟨(ind (s.data.toList.take i)).toArray⟩ (i : Int) = some true := by
  induction d with
  | zero =>
    intro k i h1 hd hk
    obtain ⟨k, rfl⟩ : ∃ m, k = m + 1 := ⟨k - 1, by omega⟩
    simp only [laws_FnIndent.l0]
    rw [if_neg (by omega)]
    have e : s.data.toList.take i = s.data.toList := List.take_of_length_le (by simp; omega)
    rw [e]
    unfold impl_Indent.f printer_Indent.f
    obtain ⟨k, rfl⟩ : ∃ m, k = m + 1 := ⟨k - 1, by omega⟩
    have h10 := zz (⟨#[10]⟩ : ByteArray) (by decide) 1 (k + 1) 0 (by decide) (by decide) (by omega)
    rw [zzf s hn (k + 1) (by omega)]
    simp only [Option.bind_some, if_true]
    have h10' : printer_zzIndent.f (k + 1) (⟨#[10]⟩ : ByteArray) = some ⟨#[10, 32, 32]⟩ := by
      simpa [printer_zzIndent.f, B, ind] using h10
    rw [h10']
    simp only [Option.bind_some]
    exact congrArg some (beq_iff_eq.mpr (by rw [Go.Lib.toList_data]))
  | succ d ih =>
    intro k i h1 hd hk
    obtain ⟨k, rfl⟩ : ∃ m, k = m + 1 := ⟨k - 1, by omega⟩
    have hlt : i < s.size := by omega
    have hl := ind_take_len s i h1
    have e1 := wrap1 hlt (by omega)
    have ih' := ih k (i + 1) (by omega) (by omega) (by omega)
    simp only [laws_FnIndent.l0, e1, Int.toNat_natCast, ext1 s i hlt, bt_nat s i hlt]
    have sz : (⟨(ind (s.data.toList.take i)).toArray⟩ : ByteArray).size ≤ 6000 := by
      have : (⟨(ind (s.data.toList.take i)).toArray⟩ : ByteArray).size = (ind (s.data.toList.take i)).length := by simp [ByteArray.size]
      omega
    have s1 : (⟨#[s[i]]⟩ : ByteArray).size = 1 := rfl
    have ha : (⟨(ind (s.data.toList.take i)).toArray⟩ : ByteArray) ++ ⟨#[s[i]]⟩ = ⟨(ind (s.data.toList.take i) ++ [s[i]]).toArray⟩ := mk_append _ [s[i]]
    have sa : ((⟨(ind (s.data.toList.take i)).toArray⟩ : ByteArray) ++ ⟨#[s[i]]⟩).size ≤ 6001 := by
      rw [ByteArray.size_append, s1]; omega
    rw [if_pos (by omega), if_pos (by omega), if_pos (by omega), if_pos (by omega), if_pos (by rw [s1]; omega)]
    rw [ind_succ s i hlt] at ih'
    by_cases hc : s[i] = 10
    · rw [if_pos ((u8_10 _).mpr hc), if_pos (by omega)]
      rw [if_pos hc] at ih'
      rw [← ih', ha, hc]
      congr 1
      exact (mk_append _ [32, 32]).trans (by simp)
    · rw [if_neg (fun h => hc ((u8_10 _).mp h))]
      rw [if_neg hc] at ih'
      rw [← ih', ha]

theorem pieces (s : ByteArray) (hn : s.size ≤ 140737488351232) (k : Nat) : laws_pieces9.f (k + 2) [s] = some (decide ((s.size : Int) ≤ 2000)) := by
  have e : wrap64 (s.size : Int) = s.size := by unfold wrap64; omega
  have e1 : wrap64 (1 : Int) = 1 := by unfold wrap64; omega
  simp only [laws_pieces9.f, laws_pieces9.l0, rdOf, List.length_cons, List.length_nil]
  simp [e, e1]

theorem FnIndent : laws_FnIndent.Pure := by
  intro s hn
  refine ⟨5002, ?_⟩
  unfold laws_FnIndent.f
  by_cases h0 : (s.size : Int) > 2147483647
  · rw [if_pos h0]
  · rw [if_neg h0, pieces s hn 5000]
    simp only [Option.bind_some]
    by_cases h1 : (s.size : Int) ≤ 2000
    · rw [if_pos (by simpa using h1)]
      have := lw s (by omega) s.size 5002 0 (by omega) (by omega) (by omega)
      simpa [ind] using this
    · rw [if_neg (by simpa using h1)]

end Go.Proofs.Ytmlochnckplalaa.Pure

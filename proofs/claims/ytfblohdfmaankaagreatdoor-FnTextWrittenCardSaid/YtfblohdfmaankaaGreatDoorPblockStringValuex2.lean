/- blockStringValue: the Go functions that the law reaches as Lean functions, and that the Go code answers what these answer, for every input and in every world that the statements name. Written by this session's program extprint.py over hand-written contracts of some functions. -/
import Derived.Test.YtfblohdfmaankaaGreatDoorPblockStringValuex0
namespace Go.Proofs.YtfblohdfmaankaaGreatDoor.PblockStringValue
open Go.RowKit Go.Proofs.YtfblohdfmaankaaGreatDoorW.PrintWords Go.Proofs.YtfblohdfmaankaaGreatDoorW.PrintLast Go.Proofs.YtfblohdfmaankaaGreatDoorW.PrintMore
attribute [local go_sem] max2_int min2_int max_two min_two max_three min_three max_four min_four   -- for this text's walks alone
set_option linter.unusedVariables false
set_option linter.unusedSimpArgs false

/-! ### lexer_leadingWhitespaceLen: told by hand: a range over a string -/
/-- How many blanks and tabs a text begins with. -/
def lead : List UInt8 → Nat
  | [] => 0
  | c :: t => if c = 32 ∨ c = 9 then lead t + 1 else 0
theorem lead_le (l : List UInt8) : lead l ≤ l.length := by
  induction l with
  | nil => simp [lead]
  | cons c t ih => simp only [lead, List.length_cons]; split <;> omega
theorem lead_drop (s : ByteArray) (k : Nat) (h : k < s.size) : lead (s.data.toList.drop k) = if s[k] = 32 ∨ s[k] = 9 then lead (s.data.toList.drop (k + 1)) + 1 else 0 := by
  have h' : k < s.data.toList.length := by simpa using h
  rw [List.drop_eq_getElem_cons h']
  rfl
theorem u8eq (c : UInt8) (n : Nat) (hn : n < 256) : ((c.toNat : Int) = (n : Int)) ↔ c = UInt8.ofNat n := by
  constructor
  · intro h
    apply UInt8.toNat_inj.mp
    simp; omega
  · rintro rfl; simp; omega

set_option maxRecDepth 100000 in
theorem lexer_lead_walk (s : ByteArray) (w : World) (hs : s.size ≤ 9223372036854775807) :
    Calls Tryz.prog 113 #[.string s] w fun e w' => e = .returned (.int .i64 (lead s.data.toList)) ∧ Below w.heap.size w w' := by
  go_enter Tryz.func113, Tryz.ntmps113
  go_wp2
  go_loopw [2] (fun v2 wr => ∃ k : Nat, k ≤ s.size ∧ wr = w.iter s k ∧ v2 = .int .i64 k ∧ Aside0 (lead s.data.toList = k + lead (s.data.toList.drop k))) (fun _ wr => s.size - wr.iterPos w.heap.size)
  case atStart => exact ⟨0, Nat.zero_le _, rfl, rfl, ⟨by simp⟩⟩
  case round =>
    obtain ⟨k, hk, rfl, rfl, HL⟩ := hrel
    have hbel : ∀ j, Below w.heap.size w (w.iter s j) := fun j => Below.alloc (Below.refl _ _) (Nat.le_refl _) _
    have HB := Aside0.mk hbel
    clear hbel
    by_cases hlt : k < s.size
    · have HD := Aside0.mk (lead_drop s k hlt)
      by_cases hc : s[k] = 32 ∨ s[k] = 9
      · have ha : (s[k]'hlt).toNat < 128 := by rcases hc with h | h <;> rw [h] <;> decide
        have hnx : ∀ ty, (Instr.next (.pointer (some ⟨w.heap.size, 0, none⟩)) true ty).run Tryz.prog (w.iter s k) = _ := fun ty => run_next_ascii w s k ty hlt ha
        have HC := Aside0.mk hc
        rcases hc with h | h
        · have e : ((s[k]'hlt).toNat : Int) = 32 := by rw [h]; rfl
          rw [e] at hnx
          clear e h ha
          go_wp2
          go_roundw
          case rel => exact ⟨k + 1, by omega, rfl, by go_num, ⟨by rw [HL.out, HD.out, if_pos HC.out]; omega⟩⟩
          case measure => simp; omega
        · have e : ((s[k]'hlt).toNat : Int) = 9 := by rw [h]; rfl
          rw [e] at hnx
          clear e h ha
          go_wp2
          go_roundw
          case rel => exact ⟨k + 1, by omega, rfl, by go_num, ⟨by rw [HL.out, HD.out, if_pos HC.out]; omega⟩⟩
          case measure => simp; omega
      · obtain ⟨r, n, hnx, h1, h2⟩ : ∃ (r : Int) (n : Nat), (∀ ty, (Instr.next (.pointer (some ⟨w.heap.size, 0, none⟩)) true ty).run Tryz.prog (w.iter s k) = .ok (.tuple #[.bool true, .int .i64 k, .int .i32 r]) (w.iter s n)) ∧ r ≠ 32 ∧ r ≠ 9 := by
          refine ⟨_, _, fun ty => run_next_any w s k ty hlt, ?_⟩
          by_cases ha : (s[k]'hlt).toNat < 128
          · rw [decode_ascii s k hlt ha]
            refine ⟨fun h => hc (.inl ?_), fun h => hc (.inr ?_)⟩
            · exact (u8eq _ 32 (by omega)).1 h
            · exact (u8eq _ 9 (by omega)).1 h
          · have := decode_high s k hlt (by omega)
            exact ⟨by omega, by omega⟩
        have b1 : (r == 32) = false := beq_eq_false_iff_ne.2 h1
        have b2 : (r == 9) = false := beq_eq_false_iff_ne.2 h2
        have HC := Aside0.mk hc
        clear h1 h2 hc
        go_wp2
        go_ret
        exact ⟨by rw [HL.out, HD.out, if_neg HC.out]; simp, HB.out _⟩
    · have hnx : ∀ ty, (Instr.next (.pointer (some ⟨w.heap.size, 0, none⟩)) true ty).run Tryz.prog (w.iter s k) = _ := fun ty => run_next_end w s k ty hlt
      have HD := Aside0.mk (show s.data.toList.drop k = [] from List.drop_eq_nil_of_le (by simp; omega))
      go_wp2
      go_ret
      exact ⟨by rw [HL.out, HD.out]; simp [lead], HB.out _⟩
def lexer_leadingWhitespaceLen.f (a0 : ByteArray) : Option (Int) := if a0.size ≤ 9223372036854775807 then (some (lead a0.data.toList : Int)) else (none)
theorem lexer_leadingWhitespaceLen.calls (a0 : ByteArray) (r : Int) (w : World) (h : lexer_leadingWhitespaceLen.f a0 = some r) :
    Calls Tryz.prog 113 #[.string a0] w fun e w' => e = .returned (.int .i64 r) ∧ Below w.heap.size w w' := by
  unfold lexer_leadingWhitespaceLen.f at h
  by_cases hn : a0.size ≤ 9223372036854775807
  · rw [if_pos hn] at h
    obtain rfl := Option.some.inj h
    exact lexer_lead_walk a0 w hn
  · rw [if_neg hn] at h
    cases h

/-! ### lexer_lineIsBlank: function 114 -/
def lexer_lineIsBlank.f (a0 : ByteArray) : Option (Bool) := (lexer_leadingWhitespaceLen.f a0).bind fun t107 => (some (t107 == (a0.size : Int)))
set_option maxHeartbeats 8000000 in
set_option maxRecDepth 100000 in
theorem lexer_lineIsBlank.calls (a0 : ByteArray) (r : Bool) (w : World) (h : lexer_lineIsBlank.f a0 = some r) :
    Calls Tryz.prog 114 #[.string a0] w fun e w' => e = .returned (.bool r) ∧ Below w.heap.size w w' := by
  have HB := Aside0.mk (Below.refl w.heap.size w)
  have H : ((lexer_leadingWhitespaceLen.f a0).bind fun t107 => (some (t107 == (a0.size : Int)))) = some r := h
  clear h
  replace H := Option.bind_eq_some_iff.mp H
  obtain ⟨t107, A20, H⟩ := H
  replace H : (some (t107 == (a0.size : Int))) = some r := H
  have A2 := Aside0.mk A20
  clear A20
  obtain rfl := Option.some.inj H
  go_enter Tryz.func114, Tryz.ntmps114
  go_wp2_with (first | ((with_reducible refine gate_callee (f := 113) rfl ?_); refine goesL_ (some 4) rfl rfl Tryz.func113 (by kernel_rfl) rfl #[.string a0] rfl (by (try simp only [List.map_toArray, List.map_cons, List.map_nil]); first | done | rfl | (simp only [List.length_drop, List.length_take]; rfl)) ?_; (with_reducible refine (lexer_leadingWhitespaceLen.calls a0 t107 _ A2.out).mono ?_); rintro e w3 ⟨rfl, hb⟩; refine ⟨_, rfl, ?_⟩; have n0_ := Aside0.mk (below_step (by repeat (first | (with_reducible first | exact HB.out | apply below_alloc | apply pw_below_drewN | apply below_drew1) | exact HB.out)) hb); clear HB; have HB := n0_; clear n0_; (try clear hb); (try clear hb2); (try clear hk); (try clear hi)))
  go_ret
  exact ⟨by first | rfl | (simp [errW_none, errW_some] <;> rfl) | (simp [*, errW_none, errW_some] <;> rfl), by repeat (first | (with_reducible first | exact HB.out | apply below_alloc | apply pw_below_drewN | apply below_drew1) | exact HB.out)⟩

-- NOT PRINTED: function 138 (abi_NoEscape)

-- NOT PRINTED: function 136 (strings_Builder_copyCheck)

-- NOT PRINTED: function 139 (bytealg_MakeNoZero)

-- NOT PRINTED: function 137 (strings_Builder_grow)

-- NOT PRINTED: function 127 (strings_Builder_Grow)

-- NOT PRINTED: function 128 (strings_Builder_WriteString)

-- NOT PRINTED: function 129 (strings_Builder_String)

/-! ### strings_Join: told by the shelf's contract -/
def strings_Join.f (l0 : List (ByteArray)) (a1 : ByteArray) : Option (ByteArray) := if l0.length ≤ 140737488355328 ∧ (Lib.join (l0.map (·.data.toList)) a1.data.toList).length ≤ 140737488355328 then (some ⟨(Lib.join (l0.map (·.data.toList)) a1.data.toList).toArray⟩) else (none)
theorem strings_Join.calls (A0 : Option Addr) (c0 : Nat) (l0 : List (ByteArray)) (a1 : ByteArray) (r : ByteArray) (w : World) (hr0 : Kd.C Kd.string w A0 l0.length l0) (hc0 : l0.length ≤ c0) (h : strings_Join.f l0 a1 = some r) :
    Calls Tryz.prog 115 #[.slice A0 l0.length c0, .string a1] w fun e w' => e = .returned (.string r) ∧ Below w.heap.size w w' := by
  unfold strings_Join.f at h
  by_cases hn : l0.length ≤ 140737488355328 ∧ (Lib.join (l0.map (·.data.toList)) a1.data.toList).length ≤ 140737488355328
  · rw [if_pos hn] at h
    obtain rfl := Option.some.inj h
    by_cases h0 : l0 = []
    · subst h0
      refine (Tryz.strings_Join_none A0 c0 a1 w).mono fun e w' ⟨he, hw⟩ => ?_
      subst hw
      exact ⟨by rw [he]; rfl, Below.refl _ _⟩
    · have hp : 0 < l0.length := by cases l0 with | nil => exact absurd rfl h0 | cons => simp
      obtain ⟨ad, e0, _⟩ := Kd.at_string hr0 0 (Int.le_refl _) (by omega)
      have hall : ∀ (j : Nat) x, l0[j]? = some x → w.cell? (ad.add j) = some (.string x) := by
        intro j x hx
        obtain ⟨hj, hxx⟩ := List.getElem?_eq_some_iff.1 hx
        obtain ⟨ad1, e1, hc⟩ := Kd.at_string hr0 (j : Int) (by omega) (by omega)
        rw [e0] at e1
        obtain rfl := Option.some.inj e1
        simp only [Int.toNat_natCast, rdOf, List.getD_eq_getElem?_getD, hx, Option.getD_some] at hc
        exact hc
      subst e0
      obtain ⟨bk, o, sp⟩ := ad
      have hc0' := hall 0 l0[0] (by simp [hp])
      have hsp : sp = none := by simpa [Addr.add] using World.cell?_spot hc0'
      subst hsp
      have hbk : bk < w.heap.size := by simpa [Addr.add] using World.block_lt_of_cell? w _ hc0'
      refine (Tryz.strings_Join bk o c0 l0 a1 w (fun j x hx => by have := hall j x hx; rwa [Addr.add_lit] at this) hbk hn.1 hc0 hn.2)
  · rw [if_neg hn] at h
    cases h

end Go.Proofs.YtfblohdfmaankaaGreatDoor.PblockStringValue

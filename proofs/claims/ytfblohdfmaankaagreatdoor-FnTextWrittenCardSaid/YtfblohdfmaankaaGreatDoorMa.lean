/- FnTextWritten: several texts in one, in build order. utf8.DecodeRune at this program's numbers: what it hands back of a slice of bytes, in every world that holds Go's two tables. Condition: the tables (Glob). | FnTextWritten: what Block writes of a text without three quotes in a row: the text between two lines of three quotes. Condition: a text of at most 2000 bytes. | FnTextWritten: what the decoder passes over at a byte of 128 or more: such bytes alone. No condition. | FnTextWritten: the package's runeAt, walked in the program. Condition: Go's tables of UTF-8 lie in the world; the text lies in the slice's block from its beginning on. | FnTextWritten: runes at high bytes; char2hex and uniCharCode, walked. Conditions: a byte of 128 or more; digits as Quote writes them. | FnTextWritten: what stands in a written string, piece by piece: a relation of bytes, and what runeAt says at each piece. No condition. | FnTextWritten: the package's positionAfterWhitespace where nothing is passed over, walked. Condition: a source's text in the world; a place at the end, or at a double quote. | FnTextWritten: makeToken, and readToken at the end of a text: the token of the end. Condition: a source in the world. | FnTextWritten: NewLocation and NewStringValue: copies of what they are handed. Condition: that lies in the world. | FnTextWritten: NewSource: the source gets its name. Condition: it lies in the world without a name. | FnTextWritten: the parser's loc, walked. Condition: a parser in the world that keeps places and sources. -/
import Derived.Test.YtfblohdfmaankaaGreatDoorProg
import Derived.Shelf.Spec.DecodeRune
import Derived.Shelf.Spec.NilArms
import Derived.KernelRfl
import Derived.Test.YtfblohdfmaankaaGreatDoorPFnTextWrittenx10
import Derived.Laws.RangeAny
import Derived.Lib.DecodeN
import Derived.Shelf.Unicode.DecodeSlow
import Derived.Lib.RuneBytes
import Derived.Deep.RegionHeld3
namespace Go.Proofs.YtfblohdfmaankaaGreatDoor
open Go.RowKit
def decRen : Go.Shelf.Ren := ⟨fun | 32 => 93 | 49 => 109 | n => n, fun | 0 => 0 | 3 => 3 | 4 => 4 | 5 => 5 | 21 => 21 | 25 => 51 | 30 => 58 | 33 => 167 | 66 => 219 | 68 => 221 | 69 => 222 | n => n, fun | 2 => 0 | 3 => 1 | n => n⟩
theorem decLays : Go.Proofs.Lays7.n32 Tryz.prog decRen := {
  mixed := by kernel_rfl
  f32 := Tryz.func93.trans (congrArg some (by kernel_rfl))
  f49 := Tryz.func109.trans (congrArg some (by kernel_rfl))
  t0 := by kernel_rfl
  a0 := fun w => by kernel_rfl
  z0 := fun w => by kernel_rfl
  v0 := fun w => by kernel_rfl
  i0 := by kernel_rfl
  t3 := by kernel_rfl
  a3 := fun w => by kernel_rfl
  z3 := fun w => by kernel_rfl
  v3 := fun w => by kernel_rfl
  i3 := by kernel_rfl
  t4 := by kernel_rfl
  a4 := fun w => by kernel_rfl
  z4 := fun w => by kernel_rfl
  v4 := fun w => by kernel_rfl
  i4 := by kernel_rfl
  t5 := by kernel_rfl
  a5 := fun w => by kernel_rfl
  z5 := fun w => by kernel_rfl
  v5 := fun w => by kernel_rfl
  i5 := by kernel_rfl
  t21 := by kernel_rfl
  a21 := fun w => by kernel_rfl
  z21 := fun w => by kernel_rfl
  v21 := fun w => by kernel_rfl
  i21 := by kernel_rfl
  t25 := by kernel_rfl
  a25 := fun w => by kernel_rfl
  z25 := fun w => by kernel_rfl
  v25 := fun w => by kernel_rfl
  i25 := by kernel_rfl
  t30 := by kernel_rfl
  a30 := fun w => by kernel_rfl
  z30 := fun w => by kernel_rfl
  v30 := fun w => by kernel_rfl
  i30 := by kernel_rfl
  t33 := by kernel_rfl
  a33 := fun w => by kernel_rfl
  z33 := fun w => by kernel_rfl
  v33 := fun w => by kernel_rfl
  i33 := by kernel_rfl
  t66 := by kernel_rfl
  a66 := fun w => by kernel_rfl
  z66 := fun w => by kernel_rfl
  t68 := by kernel_rfl
  a68 := fun w => by kernel_rfl
  z68 := fun w => by kernel_rfl
  v68 := fun w => by kernel_rfl
  i68 := by kernel_rfl
  t69 := by kernel_rfl
  a69 := fun w => by kernel_rfl
  z69 := fun w => by kernel_rfl
  v69 := fun w => by kernel_rfl
  i69 := by kernel_rfl
  g2 := by kernel_rfl
  g3 := by kernel_rfl }
/-- Go's tables of UTF-8 lie in the world as the library's text lays them. -/
def Glob (w : World) : Prop := Go.Lib.Utf8Tabs 0 1 w
theorem decodeRune (s : ByteArray) (b off cap : Nat) (w : World) (hT : Glob w) (hp : ∀ j, j < s.size → w.cell? ⟨b, off + j, none⟩ = some (.int .u8 (s.get! j).toNat)) :
    Calls Tryz.prog 93 #[.slice (some ⟨b, off, none⟩) s.size cap] w fun e w' => e = .returned (.tuple #[.int .i32 (Go.Lib.decodeGo s).1, .int .i64 (Go.Lib.decodeGo s).2]) ∧ Below w.heap.size w w' :=
  Go.Proofs.Any7.utf8_DecodeRune decLays s b off cap w hT hp
end Go.Proofs.YtfblohdfmaankaaGreatDoor
namespace Go.Proofs.YtfblohdfmaankaaGreatDoor.PFnTextWritten
open Go.RowKit Go.Proofs.YtfblohdfmaankaaGreatDoorW.PrintWords Go.Proofs.YtfblohdfmaankaaGreatDoorW.PrintLast Go.Proofs.YtfblohdfmaankaaGreatDoorW.PrintMore
set_option linter.unusedVariables false
set_option linter.unusedSimpArgs false
theorem w64 {x : Int} (h : -9223372036854775808 ≤ x) (h' : x ≤ 9223372036854775807) : wrap64 x = x := by unfold wrap64; omega
/-- Three quotes stand nowhere in a text. -/
def NoQ (s : ByteArray) : Prop := ∀ i : Nat, i < s.size → spec_starts.f s (i : Int) (⟨#[34, 34, 34]⟩ : ByteArray) = some false
theorem extract_step (s : ByteArray) (i : Nat) (h : i < s.size) : s.extract 0 i ++ s.extract i (i + 1) = s.extract 0 (i + 1) := by
  rw [ByteArray.extract_append_extract]
  simp
theorem block_l0 (s : ByteArray) (hs : s.size ≤ 2000) (hq : NoQ s) (p : ByteArray) (hp : p.size ≤ 100) (d : Nat) : ∀ (k i : Nat), i ≤ s.size → s.size - i ≤ d → d < k →
    spec_Block.l0 k s (p ++ s.extract 0 i) (i : Int) = some ((p ++ s) ++ (⟨#[10, 34, 34, 34]⟩ : ByteArray)) := by
  induction d with
  | zero =>
    intro k i hi hd hk
    obtain ⟨k, rfl⟩ : ∃ m, k = m + 1 := ⟨k - 1, by omega⟩
    have e : i = s.size := by omega
    subst e
    simp only [spec_Block.l0]
    rw [if_neg (by omega), ByteArray.extract_zero_size]
    rw [if_pos (by rw [ByteArray.size_append]; omega)]
  | succ d ih =>
    intro k i hi hd hk
    obtain ⟨k, rfl⟩ : ∃ m, k = m + 1 := ⟨k - 1, by omega⟩
    by_cases hlt : i < s.size
    · simp only [spec_Block.l0]
      have e1 : wrap64 ((i : Int) + 1) = ((i + 1 : Nat) : Int) := by rw [w64 (by omega) (by omega)]; omega
      rw [if_pos (by omega), hq i hlt]
      simp only [Option.bind_some, Bool.false_eq_true, if_false, e1, Int.toNat_natCast]
      rw [if_pos (by omega), if_pos (by omega), if_pos (by omega), if_pos (by simp only [ByteArray.size_append, ByteArray.size_extract]; omega)]
      rw [ByteArray.append_assoc, extract_step s i hlt]
      exact ih k (i + 1) (by omega) (by omega) (by omega)
    · have e : i = s.size := by omega
      subst e
      simp only [spec_Block.l0]
      rw [if_neg (by omega), ByteArray.extract_zero_size]
      rw [if_pos (by rw [ByteArray.size_append]; omega)]
theorem block_f (s : ByteArray) (hs : s.size ≤ 2000) (hq : NoQ s) (k : Nat) (hk : s.size < k) : spec_Block.f k s = some (((⟨#[34, 34, 34, 10]⟩ : ByteArray) ++ s) ++ (⟨#[10, 34, 34, 34]⟩ : ByteArray)) := by
  have h := block_l0 s hs hq (⟨#[34, 34, 34, 10]⟩ : ByteArray) (by decide) s.size k 0 (by omega) (by omega) hk
  have e : ((⟨#[34, 34, 34, 10]⟩ : ByteArray) ++ s.extract 0 0) = (⟨#[34, 34, 34, 10]⟩ : ByteArray) := by
    rw [show s.extract 0 0 = ByteArray.empty by apply ByteArray.ext; simp, ByteArray.append_empty]
  rw [e] at h
  exact h
end Go.Proofs.YtfblohdfmaankaaGreatDoor.PFnTextWritten
namespace Go.Proofs.YtfblohdfmaankaaGreatDoor.PFnTextWritten
open Go.RowKit Go.Proofs.YtfblohdfmaankaaGreatDoorW.PrintWords Go.Proofs.YtfblohdfmaankaaGreatDoorW.PrintLast Go.Proofs.YtfblohdfmaankaaGreatDoorW.PrintMore
set_option linter.unusedVariables false
set_option linter.unusedSimpArgs false
theorem get_b (t : ByteArray) (j : Nat) (h : j < t.size) : t.get! j = t[j]'h := by
  show t.get! j = _
  simp [ByteArray.get!, getElem!_pos, h]
  rfl
theorem wide_n (n b0 b1 b2 b3 : Nat) (h0 : 128 ≤ b0) (hn : 0 < n) : ∃ k, (Go.Lib.decodeN n b0 b1 b2 b3).2 = k ∧ 1 ≤ k ∧ k ≤ n ∧ k ≤ 4 ∧ (1 < k → 128 ≤ b1) ∧ (2 < k → 128 ≤ b2) ∧ (3 < k → 128 ≤ b3) := by
  refine ⟨_, rfl, ?_⟩
  unfold Go.Lib.decodeN
  repeat' split
  all_goals (simp only; omega)
/-- The width at a place, and that its bytes are high. -/
theorem wide_at (t : ByteArray) (p : Nat) (hp : p < t.size) (hb : 128 ≤ bt t p) : ∃ k : Nat, (Go.Lib.decodeGo (t.extract p t.size)).2 = k ∧ 1 ≤ k ∧ p + k ≤ t.size ∧ ∀ j : Nat, j < k → 128 ≤ bt t ((p + j : Nat) : Int) := by
  have hsz : (t.extract p t.size).size = t.size - p := by rw [ByteArray.size_extract]; omega
  have hx : ∀ j, (hj : p + j < t.size) → (((t.extract p t.size).get! j).toNat : Int) = bt t ((p + j : Nat) : Int) := fun j hj => by
    rw [get_b _ j (by omega), ByteArray.getElem_extract]
    unfold bt
    rw [dif_pos (show ((p + j : Nat) : Int).toNat < t.size by omega)]
    simp only [Int.toNat_natCast]
  unfold Go.Lib.decodeGo
  rw [if_neg (by omega), Go.Lib.decode_at, hsz]
  have h0 := hx 0 (by omega)
  obtain ⟨k, hk, k1, k2, k3, k4, k5, k6⟩ := wide_n (t.size - p - 0) ((t.extract p t.size).get! 0).toNat ((t.extract p t.size).get! (0 + 1)).toNat ((t.extract p t.size).get! (0 + 2)).toNat ((t.extract p t.size).get! (0 + 3)).toNat (by rw [Nat.add_zero] at h0; omega) (by omega)
  refine ⟨k, hk, k1, by omega, fun j hj => ?_⟩
  rw [← hx j (by omega)]
  have hj4 : j = 0 ∨ j = 1 ∨ j = 2 ∨ j = 3 := by omega
  rcases hj4 with rfl | rfl | rfl | rfl
  · rw [Nat.add_zero] at h0; omega
  · have := k4 hj; rw [Nat.zero_add] at this; omega
  · have := k5 hj; rw [Nat.zero_add] at this; omega
  · have := k6 hj; rw [Nat.zero_add] at this; omega
end Go.Proofs.YtfblohdfmaankaaGreatDoor.PFnTextWritten
namespace Go.Proofs.YtfblohdfmaankaaGreatDoor.PFnTextWritten
open Go.RowKit Go.Proofs.YtfblohdfmaankaaGreatDoorW.PrintWords Go.Proofs.YtfblohdfmaankaaGreatDoorW.PrintLast Go.Proofs.YtfblohdfmaankaaGreatDoorW.PrintMore
set_option linter.unusedVariables false
set_option linter.unusedSimpArgs false
theorem bt_lo (s : ByteArray) (i : Int) : 0 ≤ bt s i ∧ bt s i < 256 := by have := bt_range s i; omega
/-- What runeAt hands back. -/
def rn (s : ByteArray) (i : Nat) : Int × Int := if s.size ≤ i then (-1, 65533) else if bt s i < 128 then (bt s i, 1) else (Int.ofNat (Go.Lib.decodeGo (s.extract i s.size)).1, Int.ofNat (Go.Lib.decodeGo (s.extract i s.size)).2)
set_option maxHeartbeats 4000000 in
set_option maxRecDepth 100000 in
theorem runeAt_walk (s : ByteArray) (b cap : Nat) (w : World) (hT : Glob w) (i : Nat) (hi : i ≤ s.size) (hs : s.size ≤ 2147483647) (hc : s.size ≤ cap) (hp : ∀ j : Nat, j < s.size → w.cell? ⟨b, j, none⟩ = some (.int .u8 (bt s j))) :
    Calls Tryz.prog 83 #[.slice (some ⟨b, 0, none⟩) s.size cap, .int .i64 i] w fun e w' => e = .returned (.tuple #[.int .i32 (rn s i).1, .int .i64 (rn s i).2]) ∧ Below w.heap.size w w' ∧ ((i < s.size → bt s i < 128) → w' = w) := by
  have HT := Aside0.mk hT
  have HP := Aside0.mk hp
  clear hT hp
  by_cases h1 : s.size ≤ i
  · have e1 : decide ((s.size : Int) ≤ (i : Int)) = true := decide_eq_true (by omega)
    have er : rn s i = (-1, 65533) := by unfold rn; rw [if_pos h1]
    rw [er]
    clear hc hs hi er
    go_enter Tryz.func83, Tryz.ntmps83
    go_wp2
    repeat (go_quiet (fail); try go_wp2)
    go_ret2
    exact ⟨rfl, by repeat (first | exact Below.refl _ _ | apply below_alloc | apply pw_below_drewN | apply below_drew1), fun _ => rfl⟩
  · have e1 : decide ((s.size : Int) ≤ (i : Int)) = false := decide_eq_false (by omega)
    have hcell := HP.out i (by omega)
    have p1 : (0 ≤ (i : Int)) = True := eq_true (by omega)
    have q1 : ((i : Int) < (s.size : Int)) = True := eq_true (by omega)
    have hb := bt_lo s i
    have hw : wrap32 (bt s (i : Int)) = bt s (i : Int) := by unfold wrap32; omega
    by_cases h2 : bt s i < 128
    · have e2 : decide (bt s (i : Int) < 128) = true := decide_eq_true h2
      have er : rn s i = (bt s i, 1) := by unfold rn; rw [if_neg h1, if_pos h2]
      rw [er]
      clear hc hs hi er hb
      go_enter Tryz.func83, Tryz.ntmps83
      go_wp2
      repeat (go_quiet (fail); try go_wp2)
      go_ret2
      exact ⟨by simp [hw], by repeat (first | exact Below.refl _ _ | apply below_alloc | apply pw_below_drewN | apply below_drew1), fun _ => rfl⟩
    · have e2 : decide (bt s (i : Int) < 128) = false := decide_eq_false h2
      have er : rn s i = (Int.ofNat (Go.Lib.decodeGo (s.extract i s.size)).1, Int.ofNat (Go.Lib.decodeGo (s.extract i s.size)).2) := by unfold rn; rw [if_neg h1, if_neg h2]
      rw [er]
      have hsz : (s.extract i s.size).size = s.size - i := by rw [ByteArray.size_extract]; omega
      have cD : Calls Tryz.prog 93 #[.slice (some ⟨b, i, none⟩) (s.size - i) (cap - i)] w fun e w' => e = .returned (.tuple #[.int .i32 (Go.Lib.decodeGo (s.extract i s.size)).1, .int .i64 (Go.Lib.decodeGo (s.extract i s.size)).2]) ∧ Below w.heap.size w w' := by
        rw [← hsz]
        refine decodeRune (s.extract i s.size) b i (cap - i) w HT.out (fun j hj => ?_)
        rw [HP.out (i + j) (by omega)]
        congr 2
        unfold bt
        rw [dif_pos (show ((i + j : Nat) : Int).toNat < s.size by omega), get_b (s.extract i s.size) j hj]
        simp only [Int.toNat_natCast, ByteArray.getElem_extract]
      have HH := Aside0.mk (And.intro h1 h2)
      clear er hb hsz
      go_enter Tryz.func83, Tryz.ntmps83
      go_wp2_with (first | (go_at_call 93; refine cD.mono ?_; rintro e w' ⟨rfl, hB⟩))
      repeat (go_quiet (fail); try go_wp2)
      go_ret2
      exact ⟨rfl, hB, fun h => absurd (h (by have := HH.out.1; omega)) (by have := HH.out.2; omega)⟩
/-- A source: a pointer to its struct; its text in a block. -/
structure Src (w : World) (g b cap : Nat) (s : ByteArray) : Prop where
  body : w.cell? ⟨g, 0, none⟩ = some (.slice (some ⟨b, 0, none⟩) s.size cap)
  bytes : ∀ j : Nat, j < s.size → w.cell? ⟨b, j, none⟩ = some (.int .u8 (bt s j))
  cap : s.size ≤ cap
  small : s.size ≤ 2000000
  glob : Glob w
theorem tabs_of {g3 g4 : Nat} {w w' : World} (h : Go.Lib.Utf8Tabs g3 g4 w) (hk : ∀ a : Addr, a.block < w.heap.size → w'.cell? a = w.cell? a) : Go.Lib.Utf8Tabs g3 g4 w' := by
  refine ⟨fun c hc => ?_, fun i hi => ⟨?_, ?_⟩⟩
  · rw [hk _ (World.block_lt_of_cell? w _ (h.1 c hc))]; exact h.1 c hc
  · rw [hk _ (World.block_lt_of_cell? w _ (h.2 i hi).1)]; exact (h.2 i hi).1
  · rw [hk _ (World.block_lt_of_cell? w _ (h.2 i hi).2)]; exact (h.2 i hi).2
theorem Glob.below {w w' : World} (h : Glob w) (hb : Below w.heap.size w w') : Glob w' := tabs_of h (fun a ha => hb.cell ha)
theorem Src.below {w w' : World} {g b cap : Nat} {s : ByteArray} (h : Src w g b cap s) (hb : Below w.heap.size w w') : Src w' g b cap s := by
  refine ⟨?_, fun j hj => ?_, h.cap, h.small, Glob.below h.glob hb⟩
  · rw [hb.cell (World.block_lt_of_cell? w _ h.body)]; exact h.body
  · rw [hb.cell (World.block_lt_of_cell? w _ (h.bytes j hj))]; exact h.bytes j hj
theorem runeAt_src {w : World} {g b cap : Nat} {s : ByteArray} (h : Src w g b cap s) (i : Nat) (hi : i ≤ s.size) :
    Calls Tryz.prog 83 #[.slice (some ⟨b, 0, none⟩) s.size cap, .int .i64 i] w fun e w' => e = .returned (.tuple #[.int .i32 (rn s i).1, .int .i64 (rn s i).2]) ∧ Below w.heap.size w w' :=
  (runeAt_walk s b cap w h.glob i hi (by have := h.small; omega) h.cap h.bytes).mono fun e w' h => ⟨h.1, h.2.1⟩
end Go.Proofs.YtfblohdfmaankaaGreatDoor.PFnTextWritten
namespace Go.Proofs.YtfblohdfmaankaaGreatDoor.PFnTextWritten
open Go.RowKit Go.Proofs.YtfblohdfmaankaaGreatDoorW.PrintWords Go.Proofs.YtfblohdfmaankaaGreatDoorW.PrintLast Go.Proofs.YtfblohdfmaankaaGreatDoorW.PrintMore
set_option linter.unusedVariables false
set_option linter.unusedSimpArgs false
theorem high_n (n b0 b1 b2 b3 : Nat) (h0 : 128 ≤ b0) : 128 ≤ (Go.Lib.decodeN n b0 b1 b2 b3).1 := by
  unfold Go.Lib.decodeN
  repeat' split
  all_goals (simp only; omega)
theorem high_at (t : ByteArray) (p : Nat) (hp : p < t.size) (hb : 128 ≤ bt t p) : 128 ≤ (Go.Lib.decodeGo (t.extract p t.size)).1 := by
  have hsz : (t.extract p t.size).size = t.size - p := by rw [ByteArray.size_extract]; omega
  have hx : (((t.extract p t.size).get! 0).toNat : Int) = bt t p := by
    rw [get_b _ 0 (by omega), ByteArray.getElem_extract]
    unfold bt
    rw [dif_pos (show (p : Int).toNat < t.size by omega)]
    simp only [Int.toNat_natCast, Nat.add_zero]
  unfold Go.Lib.decodeGo
  rw [if_neg (by omega), Go.Lib.decode_at, hsz]
  exact high_n _ _ _ _ _ (by omega)
/-- The number of a digit. -/
def hx (a : Int) : Int := if a < 58 then a - 48 else a - 87
set_option maxRecDepth 100000 in
theorem char2hex_walk (a : Int) (h : (48 ≤ a ∧ a ≤ 57) ∨ (97 ≤ a ∧ a ≤ 102)) (w : World) : Calls Tryz.prog 118 #[.int .i32 a] w fun e w' => e = .returned (.int .i64 (hx a)) ∧ w' = w := by
  rcases h with ⟨h1, h2⟩ | ⟨h1, h2⟩
  · have e1 : decide (48 ≤ a) = true := decide_eq_true h1
    have e2 : decide (a ≤ 57) = true := decide_eq_true h2
    have e3 : hx a = a - 48 := by unfold hx; rw [if_pos (by omega)]
    have e4 : wrap64 (a - 48) = a - 48 := by unfold wrap64; omega
    have e5 : wrap64 a = a := by unfold wrap64; omega
    clear h1 h2
    go_enter Tryz.func118, Tryz.ntmps118
    go_wp2
    repeat (go_quiet (fail); try go_wp2)
    go_ret
    exact ⟨by simp [e3, e4, e5], rfl⟩
  · have e1 : decide (48 ≤ a) = true := decide_eq_true (by omega)
    have e2 : decide (a ≤ 57) = false := decide_eq_false (by omega)
    have e6 : decide (65 ≤ a) = true := decide_eq_true (by omega)
    have e7 : decide (a ≤ 70) = false := decide_eq_false (by omega)
    have e8 : decide (97 ≤ a) = true := decide_eq_true h1
    have e9 : decide (a ≤ 102) = true := decide_eq_true h2
    have e3 : hx a = a - 87 := by unfold hx; rw [if_neg (by omega)]
    have e4 : wrap64 (a - 87) = a - 87 := by unfold wrap64; omega
    have e5 : wrap64 a = a := by unfold wrap64; omega
    clear h1 h2
    go_enter Tryz.func118, Tryz.ntmps118
    go_wp2
    repeat (go_quiet (fail); try go_wp2)
    go_ret
    exact ⟨by simp [e3, e4, e5], rfl⟩
/-- What uniCharCode hands back. -/
def uv (a b c d : Int) : Int := wrap32 (Go.bits .or .i64 (Go.bits .or .i64 (Go.bits .or .i64 (wrap64 (hx a * 4096)) (wrap64 (hx b * 256))) (wrap64 (hx c * 16))) (hx d))
set_option maxHeartbeats 4000000 in
set_option maxRecDepth 100000 in
theorem uni_walk (a b c d : Int) (ha : (48 ≤ a ∧ a ≤ 57) ∨ (97 ≤ a ∧ a ≤ 102)) (hb : (48 ≤ b ∧ b ≤ 57) ∨ (97 ≤ b ∧ b ≤ 102)) (hc : (48 ≤ c ∧ c ≤ 57) ∨ (97 ≤ c ∧ c ≤ 102)) (hd : (48 ≤ d ∧ d ≤ 57) ∨ (97 ≤ d ∧ d ≤ 102)) (w : World) : Calls Tryz.prog 99 #[.int .i32 a, .int .i32 b, .int .i32 c, .int .i32 d] w fun e w' => e = .returned (.int .i32 (uv a b c d)) ∧ w' = w := by
  have ca := char2hex_walk a ha w
  have cb := char2hex_walk b hb w
  have cc := char2hex_walk c hc w
  have cd := char2hex_walk d hd w
  clear ha hb hc hd
  go_enter Tryz.func99, Tryz.ntmps99
  go_wp2_with (first | (go_at_call 118; (first | (with_reducible refine ca.mono ?_) | (with_reducible refine cb.mono ?_) | (with_reducible refine cc.mono ?_) | (with_reducible refine cd.mono ?_)); rintro e w' ⟨rfl, rfl⟩))
  go_ret
  exact ⟨rfl, rfl⟩
end Go.Proofs.YtfblohdfmaankaaGreatDoor.PFnTextWritten
namespace Go.Proofs.YtfblohdfmaankaaGreatDoor.PFnTextWritten
open Go.RowKit Go.Proofs.YtfblohdfmaankaaGreatDoorW.PrintWords Go.Proofs.YtfblohdfmaankaaGreatDoorW.PrintLast Go.Proofs.YtfblohdfmaankaaGreatDoorW.PrintMore
set_option linter.unusedVariables false
set_option linter.unusedSimpArgs false
/-- A digit as Quote writes it. -/
def Dg (a : Int) : Prop := (48 ≤ a ∧ a ≤ 57) ∨ (97 ≤ a ∧ a ≤ 102)
/-- A byte that stands for itself. -/
def Pl (b : UInt8) : Prop := 128 ≤ b.toNat ∨ (32 ≤ b.toNat ∧ b.toNat < 127 ∧ b.toNat ≠ 34 ∧ b.toNat ≠ 92)
/-- The number of four digits. -/
def ud (a b c d : UInt8) : Int := uv (a.toNat : Int) (b.toNat : Int) (c.toNat : Int) (d.toNat : Int)
/-- A text, and how it stands in a written string from a place on. -/
inductive Qt : List UInt8 → List UInt8 → Prop
  | done : Qt [] [34]
  | plain {b : UInt8} {x r : List UInt8} : Pl b → Qt x r → Qt (b :: x) (b :: r)
  | esc1 {b : UInt8} {x r : List UInt8} : (b = 34 ∨ b = 92) → Qt x r → Qt (b :: x) (92 :: b :: r)
  | escu {a b c d : UInt8} {x r : List UInt8} : (Dg a.toNat ∧ Dg b.toNat ∧ Dg c.toNat ∧ Dg d.toNat) → (0 ≤ ud a b c d ∧ ud a b c d ≤ 65535) → Qt x r → Qt (Go.Lib.encodeRune (ud a b c d) ++ x) (92 :: 117 :: a :: b :: c :: d :: r)
/-- The bytes of a text behind a place. -/
def dr (t : ByteArray) (p : Nat) : List UInt8 := t.data.toList.drop p
theorem dr_cons (t : ByteArray) (p : Nat) (b : UInt8) (r : List UInt8) (h : dr t p = b :: r) : p < t.size ∧ bt t p = (b.toNat : Int) ∧ dr t (p + 1) = r := by
  unfold dr at h ⊢
  have hl : p < t.data.toList.length := by
    refine Nat.lt_of_not_le fun hn => ?_
    rw [List.drop_eq_nil_of_le hn] at h
    cases h
  rw [List.drop_eq_getElem_cons hl] at h
  injection h with h1 h2
  have hs : p < t.size := by simpa using hl
  refine ⟨hs, ?_, h2⟩
  unfold bt
  rw [dif_pos (show ((p : Nat) : Int).toNat < t.size by omega), ← h1]
  simp only [Int.toNat_natCast]
  rfl
theorem dr_nil (t : ByteArray) (p : Nat) (h : dr t p = []) : t.size ≤ p := by
  unfold dr at h
  have := List.drop_eq_nil_iff.1 h
  simpa using this
theorem dr_byte (t : ByteArray) (p : Nat) (h : p < t.size) : ∃ b, dr t p = b :: dr t (p + 1) := by
  have hl : p < t.data.toList.length := by simpa using h
  exact ⟨_, List.drop_eq_getElem_cons hl⟩
theorem rn_low (t : ByteArray) (p : Nat) (c : Int) (hp : p < t.size) (h : bt t p = c) (hc : c < 128) : rn t p = (c, 1) := by
  unfold rn; rw [if_neg (by omega), if_pos (by omega), h]
theorem rn_high (t : ByteArray) (p : Nat) (hp : p < t.size) (h : 128 ≤ bt t p) : ∃ (c : Int) (k : Nat), rn t p = (c, (k : Int)) ∧ 128 ≤ c ∧ 1 ≤ k ∧ p + k ≤ t.size ∧ ∀ j : Nat, j < k → 128 ≤ bt t ((p + j : Nat) : Int) := by
  obtain ⟨k, h1, h2, h3, h4⟩ := wide_at t p hp h
  have h5 := high_at t p hp h
  refine ⟨Int.ofNat (Go.Lib.decodeGo (t.extract p t.size)).1, k, ?_, by simp only [Int.ofNat_eq_natCast]; omega, h2, h3, h4⟩
  unfold rn
  rw [if_neg (by omega), if_neg (by omega), h1]
  rfl
theorem qt_high (t : ByteArray) : ∀ (k p : Nat) (x : List UInt8), Qt x (dr t p) → p + k ≤ t.size → (∀ j : Nat, j < k → 128 ≤ bt t ((p + j : Nat) : Int)) → ∃ x', x = (dr t p).take k ++ x' ∧ Qt x' (dr t (p + k)) := by
  intro k
  induction k with
  | zero => intro p x h _ _; exact ⟨x, by simp, h⟩
  | succ k ih =>
    intro p x h hk hb
    have h0 := hb 0 (by omega)
    rw [Nat.add_zero] at h0
    obtain ⟨r, hr⟩ : ∃ r, r = dr t p := ⟨_, rfl⟩
    rw [← hr] at h
    cases h with
    | done =>
      have := (dr_cons t p _ _ hr.symm).2.1
      rw [this] at h0; exact absurd h0 (by decide)
    | @plain b x' r' hp hq =>
      obtain ⟨q1, q2, q3⟩ := dr_cons t p _ _ hr.symm
      rw [← q3] at hq
      obtain ⟨y, hy, hz⟩ := ih (p + 1) x' hq (by omega) (fun j hj => by have := hb (j + 1) (by omega); rw [show p + (j + 1) = p + 1 + j by omega] at this; exact this)
      refine ⟨y, ?_, by rw [show p + (k + 1) = p + 1 + k by omega]; exact hz⟩
      rw [← hr, hy, q3]
      rfl
    | esc1 _ _ =>
      have := (dr_cons t p _ _ hr.symm).2.1
      rw [this] at h0; exact absurd h0 (by decide)
    | escu _ _ _ =>
      have := (dr_cons t p _ _ hr.symm).2.1
      rw [this] at h0; exact absurd h0 (by decide)
/-- What a round of readString meets. -/
theorem qt_step (t : ByteArray) (p : Nat) (x : List UInt8) (h : Qt x (dr t p)) :
    (x = [] ∧ p + 1 = t.size ∧ rn t p = (34, 1)) ∨
    (∃ (c : Int) (k : Nat) (x' : List UInt8), rn t p = (c, (k : Int)) ∧ (1 ≤ k ∧ p + k ≤ t.size) ∧ (32 ≤ c ∧ c ≠ 34 ∧ c ≠ 92) ∧ x = (dr t p).take k ++ x' ∧ Qt x' (dr t (p + k))) ∨
    (∃ (b : UInt8) (x' : List UInt8), (b = 34 ∨ b = 92) ∧ rn t p = (92, 1) ∧ rn t (p + 1) = ((b.toNat : Int), 1) ∧ p + 2 ≤ t.size ∧ x = b :: x' ∧ Qt x' (dr t (p + 2))) ∨
    (∃ (a b c d : UInt8) (x' : List UInt8), (Dg a.toNat ∧ Dg b.toNat ∧ Dg c.toNat ∧ Dg d.toNat) ∧ (0 ≤ ud a b c d ∧ ud a b c d ≤ 65535) ∧ rn t p = (92, 1) ∧ rn t (p + 1) = (117, 1) ∧ (bt t ((p + 2 : Nat) : Int) = (a.toNat : Int) ∧ bt t ((p + 3 : Nat) : Int) = (b.toNat : Int) ∧ bt t ((p + 4 : Nat) : Int) = (c.toNat : Int) ∧ bt t ((p + 5 : Nat) : Int) = (d.toNat : Int)) ∧ p + 6 < t.size ∧ x = Go.Lib.encodeRune (ud a b c d) ++ x' ∧ Qt x' (dr t (p + 6))) := by
  obtain ⟨r, hr⟩ : ∃ r, r = dr t p := ⟨_, rfl⟩
  have h' := h
  rw [← hr] at h
  cases h with
  | done =>
    obtain ⟨q1, q2, q3⟩ := dr_cons t p _ _ hr.symm
    exact .inl ⟨rfl, by have := dr_nil _ _ q3; omega, rn_low t p 34 q1 q2 (by decide)⟩
  | @plain b x' r' hp hq =>
    obtain ⟨q1, q2, q3⟩ := dr_cons t p _ _ hr.symm
    rw [← q3] at hq
    refine .inr (.inl ?_)
    rcases hp with hp | ⟨p1, p2, p3, p4⟩
    · obtain ⟨c, k, e1, e2, e3, e4, e5⟩ := rn_high t p q1 (by rw [q2]; omega)
      obtain ⟨y, hy, hz⟩ := qt_high t k p _ h' e4 e5
      exact ⟨c, k, y, e1, ⟨e3, e4⟩, ⟨by omega, by omega, by omega⟩, hy, hz⟩
    · refine ⟨(b.toNat : Int), 1, x', rn_low t p _ q1 q2 (by omega), ⟨by omega, by omega⟩, ⟨by omega, by omega, by omega⟩, ?_, hq⟩
      rw [← hr]; rfl
  | @esc1 b x' r' hp hq =>
    obtain ⟨q1, q2, q3⟩ := dr_cons t p _ _ hr.symm
    obtain ⟨s1, s2, s3⟩ := dr_cons t (p + 1) _ _ q3
    rw [← s3] at hq
    refine .inr (.inr (.inl ⟨b, x', hp, rn_low t p 92 q1 q2 (by decide), rn_low t (p + 1) _ s1 s2 ?_, by omega, rfl, hq⟩))
    rcases hp with rfl | rfl <;> decide
  | @escu a b c d x' r' hd hu hq =>
    obtain ⟨q1, q2, q3⟩ := dr_cons t p _ _ hr.symm
    obtain ⟨s1, s2, s3⟩ := dr_cons t (p + 1) _ _ q3
    obtain ⟨u1, u2, u3⟩ := dr_cons t (p + 1 + 1) _ _ s3
    obtain ⟨v1, v2, v3⟩ := dr_cons t (p + 1 + 1 + 1) _ _ u3
    obtain ⟨w1, w2, w3⟩ := dr_cons t (p + 1 + 1 + 1 + 1) _ _ v3
    obtain ⟨y1, y2, y3⟩ := dr_cons t (p + 1 + 1 + 1 + 1 + 1) _ _ w3
    have hne : p + 6 < t.size := by
      refine Nat.lt_of_not_le fun hn => ?_
      rw [← y3] at hq
      have : dr t (p + 1 + 1 + 1 + 1 + 1 + 1) = [] := List.drop_eq_nil_of_le (by simpa using hn)
      rw [this] at hq; cases hq
    rw [← y3] at hq
    exact .inr (.inr (.inr ⟨a, b, c, d, x', hd, hu, rn_low t p 92 q1 q2 (by decide), rn_low t (p + 1) 117 s1 s2 (by decide), ⟨u2, v2, w2, y2⟩, hne, rfl, hq⟩))
end Go.Proofs.YtfblohdfmaankaaGreatDoor.PFnTextWritten
namespace Go.Proofs.YtfblohdfmaankaaGreatDoor.PFnTextWritten
open Go.RowKit Go.Proofs.YtfblohdfmaankaaGreatDoorW.PrintWords Go.Proofs.YtfblohdfmaankaaGreatDoorW.PrintLast Go.Proofs.YtfblohdfmaankaaGreatDoorW.PrintMore
set_option linter.unusedVariables false
set_option linter.unusedSimpArgs false
set_option maxHeartbeats 8000000 in
set_option maxRecDepth 100000 in
theorem paw_end (s : ByteArray) (b cap : Nat) (w : World) : Calls Tryz.prog 81 #[.slice (some ⟨b, 0, none⟩) s.size cap, .int .i64 s.size] w fun e w' => e = .returned (.tuple #[.int .i64 s.size, .int .i64 s.size]) ∧ Below w.heap.size w w' := by
  go_enter Tryz.func81, Tryz.ntmps81
  go_wp2
  repeat (go_quiet (fail); try go_wp2)
  go_loopw [4, 5] (fun v4 v5 wr => v4 = .int .i64 s.size ∧ v5 = .int .i64 s.size ∧ w = wr) (fun _ _ _ => 0)
  case atStart => exact ⟨rfl, rfl, rfl⟩
  case round =>
    obtain ⟨rfl, rfl, rfl⟩ := hrel
    go_wp2
    repeat (go_quiet (fail); try go_wp2)
    go_ret2
    exact ⟨rfl, Below.refl _ _⟩
set_option maxHeartbeats 8000000 in
set_option maxRecDepth 100000 in
theorem paw_quote (s : ByteArray) (b cap : Nat) (w : World) (hT : Glob w) (hs : s.size ≤ 2000000) (hc : s.size ≤ cap) (hp : ∀ j : Nat, j < s.size → w.cell? ⟨b, j, none⟩ = some (.int .u8 (bt s j))) (h0 : 0 < s.size) (hq : bt s 0 = 34) :
    Calls Tryz.prog 81 #[.slice (some ⟨b, 0, none⟩) s.size cap, .int .i64 0] w fun e w' => e = .returned (.tuple #[.int .i64 0, .int .i64 0]) ∧ Below w.heap.size w w' := by
  have c := runeAt_walk s b cap w hT 0 (by omega) (by omega) hc hp
  have er : rn s 0 = (34, 1) := by unfold rn; rw [if_neg (by omega), if_pos (show bt s ((0 : Nat) : Int) < 128 by rw [show ((0 : Nat) : Int) = 0 from rfl, hq]; omega), show bt s ((0 : Nat) : Int) = 34 from hq]
  rw [er, show ((0 : Nat) : Int) = 0 from rfl] at c
  have hlt : 0 < s.size := h0
  clear hT hs hc hp er hq h0
  go_enter Tryz.func81, Tryz.ntmps81
  go_wp2
  repeat (go_quiet (fail); try go_wp2)
  go_loopw [4, 5] (fun v4 v5 wr => v4 = .int .i64 0 ∧ v5 = .int .i64 0 ∧ w = wr) (fun _ _ _ => 0)
  case atStart => exact ⟨rfl, rfl, rfl⟩
  case round =>
    obtain ⟨rfl, rfl, rfl⟩ := hrel
    go_wp2_with (first | (go_at_call 83; refine c.mono ?_; rintro e w' ⟨rfl, hB, _⟩; have HB := Aside0.mk hB; clear hB))
    repeat (go_quiet (fail); try go_wp2)
    go_ret2
    exact ⟨rfl, HB.out⟩
end Go.Proofs.YtfblohdfmaankaaGreatDoor.PFnTextWritten
namespace Go.Proofs.YtfblohdfmaankaaGreatDoor.PFnTextWritten
open Go.RowKit Go.Proofs.YtfblohdfmaankaaGreatDoorW.PrintWords Go.Proofs.YtfblohdfmaankaaGreatDoorW.PrintLast Go.Proofs.YtfblohdfmaankaaGreatDoorW.PrintMore
set_option linter.unusedVariables false
set_option linter.unusedSimpArgs false
set_option maxRecDepth 100000 in
theorem makeToken_walk (k a z : Int) (v : ByteArray) (w : World) : Calls Tryz.prog 82 #[.int .i64 k, .int .i64 a, .int .i64 z, .string v] w fun e w' => e = .returned (.agg #[.int .i64 k, .int .i64 a, .int .i64 z, .string v]) ∧ Below w.heap.size w w' := by
  go_enter Tryz.func82, Tryz.ntmps82
  go_wp2_with (first | ((with_reducible refine gate_dst (N := 8) rfl ?_); refine box_event ?hg (N := 8) ?hd (cs := #[.int .i64 0, .int .i64 0, .int .i64 0, .string ⟨#[]⟩]) (t := 110) ?hr ?_; (case hd => rfl); (case hg => rfl); (case hr => first | (go_simp; done) | (go_simp; rfl)); intro gb hg w2 hbox hb; have HB := Aside0.mk hb; have GE := Aside0.mk (Nat.le_of_eq hg.symm); have BK := Aside0.mk hbox; clear hb hbox hg; have hz0 : w2.cell? ⟨gb, 0, none⟩ = some (.int .i64 0) := (blk_cell BK.out 0).trans rfl; have hz1 : w2.cell? ⟨gb, 1, none⟩ = some (.int .i64 0) := (blk_cell BK.out 1).trans rfl; have hz2 : w2.cell? ⟨gb, 2, none⟩ = some (.int .i64 0) := (blk_cell BK.out 2).trans rfl; have hz3 : w2.cell? ⟨gb, 3, none⟩ = some (.string ⟨#[]⟩) := (blk_cell BK.out 3).trans rfl; have hf0 := blk_frozen BK.out 0; have hf1 := blk_frozen BK.out 1; have hf2 := blk_frozen BK.out 2; have hf3 := blk_frozen BK.out 3))
  refine bodyPost_ret (results_cell_row rfl _ _ gb 110 #[.int .i64 k, .int .i64 a, .int .i64 z, .string v] (0, 0) _ rfl (by refine blk_put (cs := #[.int .i64 k, .int .i64 a, .int .i64 z, .string ⟨#[]⟩]) ?_ 3 _ rfl; refine blk_put (cs := #[.int .i64 k, .int .i64 a, .int .i64 0, .string ⟨#[]⟩]) ?_ 2 _ rfl; refine blk_put (cs := #[.int .i64 k, .int .i64 0, .int .i64 0, .string ⟨#[]⟩]) ?_ 1 _ rfl; refine blk_put (cs := #[.int .i64 0, .int .i64 0, .int .i64 0, .string ⟨#[]⟩]) ?_ 0 _ rfl; exact BK.out) Tryz.underlying110 rfl (by kernel_rfl)) rfl ?_
  exact ⟨rfl, below_set (below_set (below_set (below_set HB.out GE.out) GE.out) GE.out) GE.out⟩
set_option maxRecDepth 100000 in
theorem readToken_end {w : World} {g b cap : Nat} {s : ByteArray} (h : Src w g b cap s) : Calls Tryz.prog 62 #[.pointer (some ⟨g, 0, none⟩), .int .i64 s.size] w fun e w' => e = .returned (.tuple #[.agg #[.int .i64 1, .int .i64 s.size, .int .i64 s.size, .string ⟨#[]⟩], .nilIface]) ∧ Below w.heap.size w w' := by
  have HS := Aside0.mk h
  clear h
  go_enter Tryz.func62, Tryz.ntmps62
  go_wp2_with (first
    | ((with_reducible refine gate_dst (N := 4) rfl ?_); refine box_event ?hg (N := 4) ?hd (cs := #[.int .i64 0, .int .i64 0, .int .i64 0, .string ⟨#[]⟩]) (t := 110) ?hr ?_; (case hd => rfl); (case hg => rfl); (case hr => first | (go_simp; done) | (go_simp; rfl)); intro gb hg w2 hbox hb; have HB := Aside0.mk hb; have GE := Aside0.mk (Nat.le_of_eq hg.symm); have BK := Aside0.mk hbox; clear hb hbox hg; have hc0 := (HS.out.below HB.out).body)
    | (go_at_call 81; refine (paw_end s b cap _).mono ?_; rintro e w3 ⟨rfl, hB⟩; have n0_ := Aside0.mk (below_step HB.out hB); have n1_ := Aside0.mk (blk_below BK.out hB); clear HB BK hB; have HB := n0_; have BK := n1_; clear n0_ n1_)
    | (go_at_call 82; refine (makeToken_walk 1 s.size s.size ⟨#[]⟩ _).mono ?_; rintro e w4 ⟨rfl, hB⟩; have n0_ := Aside0.mk (below_step HB.out hB); have n1_ := Aside0.mk (blk_below BK.out hB); clear HB BK hB; have HB := n0_; have BK := n1_; clear n0_ n1_; have hz0 : w4.cell? ⟨gb, 0, none⟩ = some (.int .i64 0) := (blk_cell BK.out 0).trans rfl; have hz1 : w4.cell? ⟨gb, 1, none⟩ = some (.int .i64 0) := (blk_cell BK.out 1).trans rfl; have hz2 : w4.cell? ⟨gb, 2, none⟩ = some (.int .i64 0) := (blk_cell BK.out 2).trans rfl; have hz3 : w4.cell? ⟨gb, 3, none⟩ = some (.string ⟨#[]⟩) := (blk_cell BK.out 3).trans rfl; have hf0 := blk_frozen BK.out 0; have hf1 := blk_frozen BK.out 1; have hf2 := blk_frozen BK.out 2; have hf3 := blk_frozen BK.out 3))
  refine bodyPost_ret (results_ct rfl _ _ gb 110 #[.int .i64 1, .int .i64 s.size, .int .i64 s.size, .string ⟨#[]⟩] (0, 0) _ rfl (by refine blk_put (cs := #[.int .i64 1, .int .i64 s.size, .int .i64 s.size, .string ⟨#[]⟩]) ?_ 3 _ rfl; refine blk_put (cs := #[.int .i64 1, .int .i64 s.size, .int .i64 0, .string ⟨#[]⟩]) ?_ 2 _ rfl; refine blk_put (cs := #[.int .i64 1, .int .i64 0, .int .i64 0, .string ⟨#[]⟩]) ?_ 1 _ rfl; refine blk_put (cs := #[.int .i64 0, .int .i64 0, .int .i64 0, .string ⟨#[]⟩]) ?_ 0 _ rfl; exact BK.out) Tryz.underlying110 rfl (by kernel_rfl)) rfl ?_
  exact ⟨rfl, below_set (below_set (below_set (below_set HB.out GE.out) GE.out) GE.out) GE.out⟩
end Go.Proofs.YtfblohdfmaankaaGreatDoor.PFnTextWritten
namespace Go.Proofs.YtfblohdfmaankaaGreatDoor.PFnTextWritten
open Go.RowKit Go.Proofs.YtfblohdfmaankaaGreatDoorW.PrintWords Go.Proofs.YtfblohdfmaankaaGreatDoorW.PrintLast Go.Proofs.YtfblohdfmaankaaGreatDoorW.PrintMore
set_option linter.unusedVariables false
set_option linter.unusedSimpArgs false
set_option maxHeartbeats 4000000 in
set_option maxRecDepth 100000 in
theorem newLoc_walk {w : World} {g : Nat} {a z : Int} {p : Option Addr} (h : w.heap[g]? = some (.cells #[.int .i64 a, .int .i64 z, .pointer p] 130 (0, 0))) :
    Calls Tryz.prog 71 #[.pointer (some ⟨g, 0, none⟩)] w fun e w' => (∃ g' : Nat, e = .returned (.pointer (some ⟨g', 0, none⟩)) ∧ w'.heap[g']? = some (.cells #[.int .i64 a, .int .i64 z, .pointer p] 130 (0, 0))) ∧ Below w.heap.size w w' := by
  have c0 : w.cell? ⟨g, 0, none⟩ = some (.int .i64 a) := (blk_cell h 0).trans rfl
  have c1 : w.cell? ⟨g, 1, none⟩ = some (.int .i64 z) := (blk_cell h 1).trans rfl
  have c2 : w.cell? ⟨g, 2, none⟩ = some (.pointer p) := (blk_cell h 2).trans rfl
  clear h
  go_enter Tryz.func71, Tryz.ntmps71
  go_wp2
  go_region_held3 (fun u => u.cell? ⟨g, 0, none⟩ = some (.int .i64 a) ∧ u.cell? ⟨g, 1, none⟩ = some (.int .i64 z) ∧ u.cell? ⟨g, 2, none⟩ = some (.pointer p)) (go_keep) (fail)
  go_wp2
  go_ret
  exact ⟨⟨_, rfl, heap_alloc_new w _⟩, by repeat (first | exact Below.refl _ _ | apply below_drew1 | apply below_alloc)⟩
set_option maxHeartbeats 4000000 in
set_option maxRecDepth 100000 in
theorem newStr_walk {w : World} {g : Nat} {k v : ByteArray} {p : Option Addr} (h : w.heap[g]? = some (.cells #[.string k, .pointer p, .string v] 78 (0, 0))) :
    Calls Tryz.prog 72 #[.pointer (some ⟨g, 0, none⟩)] w fun e w' => (∃ (g' : Nat) (k' : ByteArray), e = .returned (.pointer (some ⟨g', 0, none⟩)) ∧ w'.heap[g']? = some (.cells #[.string k', .pointer p, .string v] 78 (0, 0))) ∧ Below w.heap.size w w' := by
  have c1 : w.cell? ⟨g, 1, none⟩ = some (.pointer p) := (blk_cell h 1).trans rfl
  have c2 : w.cell? ⟨g, 2, none⟩ = some (.string v) := (blk_cell h 2).trans rfl
  clear h
  go_enter Tryz.func72, Tryz.ntmps72
  go_wp2
  go_region_held3 (fun u => u.cell? ⟨g, 1, none⟩ = some (.pointer p) ∧ u.cell? ⟨g, 2, none⟩ = some (.string v)) (go_keep) (fail)
  go_wp2
  go_ret
  exact ⟨⟨_, _, rfl, heap_alloc_new w _⟩, by repeat (first | exact Below.refl _ _ | apply below_drew1 | apply below_alloc)⟩
end Go.Proofs.YtfblohdfmaankaaGreatDoor.PFnTextWritten
namespace Go.Proofs.YtfblohdfmaankaaGreatDoor.PFnTextWritten
open Go.RowKit Go.Proofs.YtfblohdfmaankaaGreatDoorW.PrintWords Go.Proofs.YtfblohdfmaankaaGreatDoorW.PrintLast Go.Proofs.YtfblohdfmaankaaGreatDoorW.PrintMore
set_option linter.unusedVariables false
set_option linter.unusedSimpArgs false
set_option maxRecDepth 100000 in
theorem newSource_walk {w : World} {g : Nat} {v : Value} (h : w.heap[g]? = some (.cells #[v, .string ⟨#[]⟩] 60 (0, 0))) :
    Calls Tryz.prog 19 #[.pointer (some ⟨g, 0, none⟩)] w fun e w' => e = .returned (.pointer (some ⟨g, 0, none⟩)) ∧ w' = w.setCell ⟨g, 1, none⟩ (.string ⟨#[71, 114, 97, 112, 104, 81, 76]⟩) := by
  have c1 : w.cell? ⟨g, 1, none⟩ = some (.string ⟨#[]⟩) := (blk_cell h 1).trans rfl
  have f1 := blk_frozen h 1
  clear h
  go_enter Tryz.func19, Tryz.ntmps19
  go_wp2
  go_ret
  exact ⟨rfl, rfl⟩
end Go.Proofs.YtfblohdfmaankaaGreatDoor.PFnTextWritten
namespace Go.Proofs.YtfblohdfmaankaaGreatDoor.PFnTextWritten
open Go.RowKit Go.Proofs.YtfblohdfmaankaaGreatDoorW.PrintWords Go.Proofs.YtfblohdfmaankaaGreatDoorW.PrintLast Go.Proofs.YtfblohdfmaankaaGreatDoorW.PrintMore
set_option linter.unusedVariables false
set_option linter.unusedSimpArgs false
set_option maxHeartbeats 4000000 in
set_option maxRecDepth 100000 in
theorem loc_walk {w : World} {g : Nat} {f : Value} {p : Option Addr} {pe k a z : Int} {v : ByteArray} (st : Int) (h : w.heap[g]? = some (.cells #[f, .pointer p, .bool false, .bool false, .int .i64 pe, .int .i64 k, .int .i64 a, .int .i64 z, .string v] 113 (0, 0))) :
    Calls Tryz.prog 46 #[.pointer (some ⟨g, 0, none⟩), .int .i64 st] w fun e w' => (∃ g' : Nat, e = .returned (.pointer (some ⟨g', 0, none⟩)) ∧ w'.heap[g']? = some (.cells #[.int .i64 st, .int .i64 pe, .pointer p] 130 (0, 0))) ∧ Below w.heap.size w w' := by
  have c1 : w.cell? ⟨g, 1, none⟩ = some (.pointer p) := (blk_cell h 1).trans rfl
  have c2 : w.cell? ⟨g, 2, none⟩ = some (.bool false) := (blk_cell h 2).trans rfl
  have c3 : w.cell? ⟨g, 3, none⟩ = some (.bool false) := (blk_cell h 3).trans rfl
  have c4 : w.cell? ⟨g, 4, none⟩ = some (.int .i64 pe) := (blk_cell h 4).trans rfl
  clear h
  go_enter Tryz.func46, Tryz.ntmps46
  go_wp2
  have K0 : ∀ u, Below w.heap.size w u → (u.cell? ⟨g, 1, none⟩ = some (.pointer p) ∧ u.cell? ⟨g, 4, none⟩ = some (.int .i64 pe)) ∧ Below w.heap.size w u := fun u hu => ⟨⟨(hu.cell (World.block_lt_of_cell? w _ c1)).trans c1, (hu.cell (World.block_lt_of_cell? w _ c4)).trans c4⟩, hu⟩
  go_region_held3 (fun u => (u.cell? ⟨g, 1, none⟩ = some (.pointer p) ∧ u.cell? ⟨g, 4, none⟩ = some (.int .i64 pe)) ∧ Below w.heap.size w u) (first | exact K0 _ (below_drew1 (Below.refl _ _)) | exact K0 _ (below_drew1 (below_alloc (Below.refl _ _) _)) | exact hS9 | fail) (first | (go_at_call 71; (first | refine (newLoc_walk (w := World.drew (World.alloc _ _)) (heap_alloc_new _ _)).mono ?_ | refine (newLoc_walk (heap_alloc_new _ _)).mono ?_); rintro e w9 ⟨⟨g9, rfl, hg9⟩, hB9⟩; (first | have hW9 := below_step (below_drew1 (below_alloc (Below.refl w.heap.size w) _)) hB9 | have hW9 := below_step (below_alloc (below_drew1 (Below.refl w.heap.size w)) _) hB9); have hS9 := K0 _ hW9) | fail)
  go_wp2
  go_ret
  exact ⟨⟨g9, rfl, hg9⟩, hW9⟩
end Go.Proofs.YtfblohdfmaankaaGreatDoor.PFnTextWritten

/- FnReadNumber: the package's runeAt, walked in the program. Condition: Go's tables of UTF-8 lie in the world; the text lies in the slice's block from its beginning on. -/
import Derived.Test.YtmlochnckplalaaGreatDoorNum
import Derived.Test.YtmlochnckplalaaGreatDoorDec
namespace Go.Proofs.YtmlochnckplalaaGreatDoor.PFnReadNumber
open Go.RowKit Go.Proofs.YtmlochnckplalaaGreatDoorW.PrintWords Go.Proofs.YtmlochnckplalaaGreatDoorW.PrintLast Go.Proofs.YtmlochnckplalaaGreatDoorW.PrintMore
set_option linter.unusedVariables false
set_option linter.unusedSimpArgs false
theorem get_b (t : ByteArray) (j : Nat) (h : j < t.size) : t.get! j = t[j]'h := by
  show t.get! j = _
  simp [ByteArray.get!, getElem!_pos, h]
  rfl
/-- What runeAt hands back. -/
def rn (s : ByteArray) (i : Nat) : Int × Int := if s.size ≤ i then (-1, 65533) else if bt s i < 128 then (bt s i, 1) else (Int.ofNat (Go.Lib.decodeGo (s.extract i s.size)).1, Int.ofNat (Go.Lib.decodeGo (s.extract i s.size)).2)
set_option maxHeartbeats 4000000 in
set_option maxRecDepth 100000 in
theorem runeAt_walk (s : ByteArray) (b cap : Nat) (w : World) (hT : Glob w) (i : Nat) (hi : i ≤ s.size) (hs : s.size ≤ 2147483647) (hc : s.size ≤ cap) (hp : ∀ j : Nat, j < s.size → w.cell? ⟨b, j, none⟩ = some (.int .u8 (bt s j))) :
    Calls Tryz.prog 15 #[.slice (some ⟨b, 0, none⟩) s.size cap, .int .i64 i] w fun e w' => e = .returned (.tuple #[.int .i32 (rn s i).1, .int .i64 (rn s i).2]) ∧ Below w.heap.size w w' ∧ ((i < s.size → bt s i < 128) → w' = w) := by
  have HT := Aside0.mk hT
  have HP := Aside0.mk hp
  clear hT hp
  by_cases h1 : s.size ≤ i
  · have e1 : decide ((s.size : Int) ≤ (i : Int)) = true := decide_eq_true (by omega)
    have er : rn s i = (-1, 65533) := by unfold rn; rw [if_pos h1]
    rw [er]
    clear hc hs hi er
    go_enter Tryz.func15, Tryz.ntmps15
    go_wp2
    repeat (go_quiet (fail); try go_wp2)
    go_ret2
    exact ⟨rfl, by repeat (first | exact Below.refl _ _ | apply below_alloc | apply pw_below_drewN | apply below_drew1), fun _ => rfl⟩
  · have e1 : decide ((s.size : Int) ≤ (i : Int)) = false := decide_eq_false (by omega)
    have hcell := HP.out i (by omega)
    have p1 : (0 ≤ (i : Int)) = True := eq_true (by omega)
    have q1 : ((i : Int) < (s.size : Int)) = True := eq_true (by omega)
    have hb := bt_lo s i
    have hw : wrap32 (bt s (i : Int)) = bt s (i : Int) := by unfold wrap32; omega
    by_cases h2 : bt s i < 128
    · have e2 : decide (bt s (i : Int) < 128) = true := decide_eq_true h2
      have er : rn s i = (bt s i, 1) := by unfold rn; rw [if_neg h1, if_pos h2]
      rw [er]
      clear hc hs hi er hb
      go_enter Tryz.func15, Tryz.ntmps15
      go_wp2
      repeat (go_quiet (fail); try go_wp2)
      go_ret2
      exact ⟨by simp [hw], by repeat (first | exact Below.refl _ _ | apply below_alloc | apply pw_below_drewN | apply below_drew1), fun _ => rfl⟩
    · have e2 : decide (bt s (i : Int) < 128) = false := decide_eq_false h2
      have er : rn s i = (Int.ofNat (Go.Lib.decodeGo (s.extract i s.size)).1, Int.ofNat (Go.Lib.decodeGo (s.extract i s.size)).2) := by unfold rn; rw [if_neg h1, if_neg h2]
      rw [er]
      have hsz : (s.extract i s.size).size = s.size - i := by rw [ByteArray.size_extract]; omega
      have cD : Calls Tryz.prog 18 #[.slice (some ⟨b, i, none⟩) (s.size - i) (cap - i)] w fun e w' => e = .returned (.tuple #[.int .i32 (Go.Lib.decodeGo (s.extract i s.size)).1, .int .i64 (Go.Lib.decodeGo (s.extract i s.size)).2]) ∧ Below w.heap.size w w' := by
        rw [← hsz]
        refine decodeRune (s.extract i s.size) b i (cap - i) w HT.out (fun j hj => ?_)
        rw [HP.out (i + j) (by omega)]
        congr 2
        unfold bt
        rw [dif_pos (show ((i + j : Nat) : Int).toNat < s.size by omega), get_b (s.extract i s.size) j hj]
        simp only [Int.toNat_natCast, ByteArray.getElem_extract]
      have HH := Aside0.mk (And.intro h1 h2)
      clear er hb hsz
      go_enter Tryz.func15, Tryz.ntmps15
      go_wp2_with (first | (go_at_call 18; refine cD.mono ?_; rintro e w' ⟨rfl, hB⟩))
      repeat (go_quiet (fail); try go_wp2)
      go_ret2
      exact ⟨rfl, hB, fun h => absurd (h (by have := HH.out.1; omega)) (by have := HH.out.2; omega)⟩
/-- A source: a pointer to its struct; its text in a block. -/
structure Src (w : World) (g b cap : Nat) (s : ByteArray) : Prop where
  body : w.cell? ⟨g, 0, none⟩ = some (.slice (some ⟨b, 0, none⟩) s.size cap)
  bytes : ∀ j : Nat, j < s.size → w.cell? ⟨b, j, none⟩ = some (.int .u8 (bt s j))
  cap : s.size ≤ cap
  small : s.size ≤ 2000
  glob : Glob w
theorem tabs_of {g3 g4 : Nat} {w w' : World} (h : Go.Lib.Utf8Tabs g3 g4 w) (hk : ∀ a : Addr, a.block < w.heap.size → w'.cell? a = w.cell? a) : Go.Lib.Utf8Tabs g3 g4 w' := by
  refine ⟨fun c hc => ?_, fun i hi => ⟨?_, ?_⟩⟩
  · rw [hk _ (World.block_lt_of_cell? w _ (h.1 c hc))]; exact h.1 c hc
  · rw [hk _ (World.block_lt_of_cell? w _ (h.2 i hi).1)]; exact (h.2 i hi).1
  · rw [hk _ (World.block_lt_of_cell? w _ (h.2 i hi).2)]; exact (h.2 i hi).2
theorem Glob.below {w w' : World} (h : Glob w) (hb : Below w.heap.size w w') : Glob w' := tabs_of h (fun a ha => hb.cell ha)
theorem Src.below {w w' : World} {g b cap : Nat} {s : ByteArray} (h : Src w g b cap s) (hb : Below w.heap.size w w') : Src w' g b cap s := by
  refine ⟨?_, fun j hj => ?_, h.cap, h.small, Glob.below h.glob hb⟩
  · rw [hb.cell (World.block_lt_of_cell? w _ h.body)]; exact h.body
  · rw [hb.cell (World.block_lt_of_cell? w _ (h.bytes j hj))]; exact h.bytes j hj
theorem runeAt_src {w : World} {g b cap : Nat} {s : ByteArray} (h : Src w g b cap s) (i : Nat) (hi : i ≤ s.size) :
    Calls Tryz.prog 15 #[.slice (some ⟨b, 0, none⟩) s.size cap, .int .i64 i] w fun e w' => e = .returned (.tuple #[.int .i32 (rn s i).1, .int .i64 (rn s i).2]) ∧ Below w.heap.size w w' :=
  (runeAt_walk s b cap w h.glob i hi (by have := h.small; omega) h.cap h.bytes).mono fun e w' h => ⟨h.1, h.2.1⟩
end Go.Proofs.YtmlochnckplalaaGreatDoor.PFnReadNumber

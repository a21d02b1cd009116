/- A part of the proof of the theorem of this claim: Mem, Tka, Tkp. No condition of its own. -/
import Derived.Laws.AppendOwn
import Derived.Deep.RegionLaw
import Derived.Deep.RegionWith
import Derived.Test.YthgcghpcikbnkaaGreatDoorA3
set_option maxHeartbeats 16000000
set_option maxRecDepth 100000
namespace Go.Proofs.YthgcghpcikbnkaaGreatDoor.R
open Go.RowKit Go.Proofs.YthgcghpcikbnkaaGreatDoorW.PrintWords Go.Proofs.YthgcghpcikbnkaaGreatDoorW.PrintLast Go.Proofs.YthgcghpcikbnkaaGreatDoorW.PrintMore
set_option linter.unusedVariables false
set_option linter.unusedSimpArgs false
structure Fr (x y : Nat) (w w' : World) : Prop where
 os : w'.os = w.os
 tape : w'.tape = w.tape
 output : w'.output = w.output
 size : w.heap.size ≤ w'.heap.size
 block : ∀ k, k < w.heap.size → k ≠ x → k ≠ y → w'.heap[k]? = w.heap[k]?
theorem Fr.refl (x y : Nat) (w : World) : Fr x y w w := ⟨rfl, rfl, rfl, Nat.le_refl _, fun _ _ _ _ => rfl⟩
theorem Fr.trans {x y : Nat} {a b c : World} (h : Fr x y a b) (k : Fr x y b c) : Fr x y a c :=
 ⟨k.os.trans h.os, k.tape.trans h.tape, k.output.trans h.output, Nat.le_trans h.size k.size, fun i hi hx hy => (k.block i (Nat.lt_of_lt_of_le hi h.size) hx hy).trans (h.block i hi hx hy)⟩
theorem Fr.of {x y : Nat} {w w' : World} (h : Below w.heap.size w w') : Fr x y w w' := ⟨h.os, h.tape, h.output, h.size, fun k hk _ _ => h.block k hk⟩
theorem Fr.step {x y : Nat} {w w1 w2 : World} (h : Fr x y w w1) (k : Below w1.heap.size w1 w2) : Fr x y w w2 := h.trans (.of k)
theorem Fr.alloc {x y : Nat} {w w1 : World} (h : Fr x y w w1) (o : Obj) : Fr x y w (w1.alloc o) := h.step (below_alloc (Below.refl _ _) o)
theorem Fr.drew {x y : Nat} {w w1 : World} (h : Fr x y w w1) : Fr x y w w1.drew := ⟨h.os, h.tape, h.output, h.size, h.block⟩
theorem Fr.drewN {x y : Nat} {w w1 : World} (h : Fr x y w w1) (n : Nat) : Fr x y w (w1.drewN n) := ⟨h.os, h.tape, h.output, h.size, h.block⟩
theorem Fr.put {x y : Nat} {w w1 : World} (h : Fr x y w w1) {p : Addr} (hp : p.block = x ∨ p.block = y ∨ w.heap.size ≤ p.block) (u : Value) : Fr x y w (w1.setCell p u) :=
 ⟨h.os, h.tape, h.output, Nat.le_trans h.size (by simp [World.setCell]), fun i hi hx hy => (Below.heap_setCell _ _ _ _ (by rcases hp with e | e | e <;> omega)).trans (h.block i hi hx hy)⟩
theorem Fr.blk {x y : Nat} {w w' : World} (h : Fr x y w w') {g : Nat} {o : Obj} (hb : w.heap[g]? = some o) (hx : g ≠ x) (hy : g ≠ y) : w'.heap[g]? = some o := (h.block g (blk_lt hb) hx hy).trans hb
theorem Fr.below {x y B : Nat} {w w' : World} (h : Fr x y w w') (hx : B ≤ x) (hy : B ≤ y) (hB : B ≤ w.heap.size) : Below B w w' :=
 ⟨h.os, h.tape, h.output, h.size, fun k hk => h.block k (by omega) (by omega) (by omega)⟩
theorem Fr.p4 {x y : Nat} {w w1 : World} {g : Nat} {a b c d : Value} (h : Fr x y w w1) (hp : g = x ∨ g = y ∨ w.heap.size ≤ g) : Fr x y w ((((w1.setCell ⟨g, 0, none⟩ a).setCell ⟨g, 1, none⟩ b).setCell ⟨g, 2, none⟩ c).setCell ⟨g, 3, none⟩ d) :=
 (((h.put (p := ⟨g, _, none⟩) hp _).put (p := ⟨g, _, none⟩) hp _).put (p := ⟨g, _, none⟩) hp _).put (p := ⟨g, _, none⟩) hp _
theorem tkz {w : World} {g : Nat} (h : w.heap[g]? = some (.cells #[.int .i64 0, .int .i64 0, .int .i64 0, .string ⟨#[]⟩] 63 (0, 0))) : w.cell? ⟨g, 0, none⟩ = some (.int .i64 0) ∧ w.cell? ⟨g, 1, none⟩ = some (.int .i64 0) ∧ w.cell? ⟨g, 2, none⟩ = some (.int .i64 0) ∧ w.cell? ⟨g, 3, none⟩ = some (.string ⟨#[]⟩) ∧ w.frozen? ⟨g, 0, none⟩ = false ∧ w.frozen? ⟨g, 1, none⟩ = false ∧ w.frozen? ⟨g, 2, none⟩ = false ∧ w.frozen? ⟨g, 3, none⟩ = false :=
 ⟨(blk_cell h 0).trans rfl, (blk_cell h 1).trans rfl, (blk_cell h 2).trans rfl, (blk_cell h 3).trans rfl, blk_frozen h 0, blk_frozen h 1, blk_frozen h 2, blk_frozen h 3⟩
theorem tks {w : World} {g : Nat} {a b c d : Value} {ty : TypeId} (h : w.heap[g]? = some (.cells #[a, b, c, d] ty (0, 0))) : w.cell? ⟨g, 0, none⟩ = some a ∧ w.cell? ⟨g, 1, none⟩ = some b ∧ w.cell? ⟨g, 2, none⟩ = some c ∧ w.cell? ⟨g, 3, none⟩ = some d :=
 ⟨(blk_cell h 0).trans rfl, (blk_cell h 1).trans rfl, (blk_cell h 2).trans rfl, (blk_cell h 3).trans rfl⟩
theorem tkp {w : World} {g : Nat} {a b c d : Value} (h : w.heap[g]? = some (.cells #[.int .i64 0, .int .i64 0, .int .i64 0, .string ⟨#[]⟩] 63 (0, 0))) : ((((w.setCell ⟨g, 0, none⟩ a).setCell ⟨g, 1, none⟩ b).setCell ⟨g, 2, none⟩ c).setCell ⟨g, 3, none⟩ d).heap[g]? = some (.cells #[a, b, c, d] 63 (0, 0)) :=
 blk_put (cs := #[a, b, c, .string ⟨#[]⟩]) (blk_put (cs := #[a, b, .int .i64 0, .string ⟨#[]⟩]) (blk_put (cs := #[a, .int .i64 0, .int .i64 0, .string ⟨#[]⟩]) (blk_put (cs := #[.int .i64 0, .int .i64 0, .int .i64 0, .string ⟨#[]⟩]) h 0 _ rfl) 1 _ rfl) 2 _ rfl) 3 _ rfl
abbrev Ok := Nat → Prop
def Keeps (ok ok' : Ok) (w w' : World) : Prop := ∀ (g : Nat) (o : Obj), ok g → w.heap[g]? = some o → ok' g ∧ w'.heap[g]? = some o
theorem Keeps.refl (ok : Ok) (w : World) : Keeps ok ok w w := fun _ _ h h2 => ⟨h, h2⟩
abbrev from_ (n : Nat) : Ok := fun g => n ≤ g
theorem Fr.keeps {x y m n : Nat} {w w' : World} (hf : Fr x y w w') (hx : x < m) (hy : y < m) (hn : n ≤ m) : Keeps (from_ m) (from_ n) w w' := fun g o hg hb => ⟨Nat.le_trans hn hg, hf.blk hb (Nat.ne_of_gt (Nat.lt_of_lt_of_le hx hg)) (Nat.ne_of_gt (Nat.lt_of_lt_of_le hy hg))⟩
theorem keeps_below {ok ok' : Ok} {w w' : World} (hb : Below w.heap.size w w') (h : ∀ g, ok g → ok' g) : Keeps ok ok' w w' := fun g o hg h1 => ⟨h g hg, blk_below h1 hb⟩
def At (ok : Ok) (w : World) (g : Nat) (cs : Array Value) (t : TypeId) : Prop := ok g ∧ w.heap[g]? = some (.cells cs t (0, 0))
theorem At.fr {ok ok' : Ok} {w w' : World} {g : Nat} {cs : Array Value} {t : TypeId} (h : At ok w g cs t) (hf : Keeps ok ok' w w') : At ok' w' g cs t :=
 hf g _ h.1 h.2
def Own (ok : Ok) (w : World) (e : TypeId) (v : Value) (n : Nat) (xs : List Value) : Prop := w.ownsRow 0 e 1 v n xs ∧ ∀ b, v.ownBlock = some b → ok b
theorem Own.fr {ok ok' : Ok} {w w' : World} {e : TypeId} {n : Nat} {v : Value} {xs : List Value} (h : Own ok w e v n xs) (hf : Keeps ok ok' w w') : Own ok' w' e v n xs := by
 obtain ⟨⟨h1, h2⟩, h3⟩ := h
 rcases h2 with ⟨rfl, h2⟩ | ⟨g, cap, cur, rfl, hg, hh, r⟩
 ·exact ⟨⟨h1, .inl ⟨rfl, h2⟩⟩, fun b hb => by simp [Value.ownBlock] at hb⟩
 ·have hk := hf g _ (h3 g rfl) hh
  exact ⟨⟨h1, .inr ⟨g, cap, cur, rfl, hg, hk.2, r⟩⟩, fun b hb => by simp [Value.ownBlock] at hb; rw [← hb]; exact hk.1⟩
abbrev ptr (g : Nat) : Value := .pointer (some ⟨g, 0, none⟩)
def LocA (ok : Ok) (w : World) (p : Value) : Prop := ∃ (g : Nat) (a z : Int) (s : Value), p = ptr g ∧ At ok w g #[.int .i64 a, .int .i64 z, s] 120
def NameA (ok : Ok) (w : World) (p : Value) (v : ByteArray) : Prop := ∃ (g : Nat) (k : ByteArray) (l : Value), p = ptr g ∧ At ok w g #[.string k, l, .string v] 118
inductive Many (X : Value → List Row → Prop) : List Value → List Row → Prop
 | nil : Many X [] []
 | cons {v : Value} {l : List Value} {a b : List Row} : X v a → Many X l b → Many X (v :: l) (a ++ b)
theorem Many.mono {X Y : Value → List Row → Prop} (h : ∀ v r, X v r → Y v r) {l : List Value} {r : List Row} (m : Many X l r) : Many Y l r := by
 induction m with
 | nil => exact .nil
 | cons a _ ih => exact .cons (h _ _ a) ih
theorem Many.snoc {X : Value → List Row → Prop} {l : List Value} {r : List Row} (m : Many X l r) {v : Value} {b : List Row} (h : X v b) : Many X (l ++ [v]) (r ++ b) := by
 induction m with
 | nil => simpa using Many.cons h Many.nil
 | cons a _ ih => rw [List.append_assoc]; exact .cons a ih
def SlA (ok : Ok) (w : World) (e : TypeId) (X : Value → List Row → Prop) (sl : Value) (r : List Row) : Prop := ∃ (n : Nat) (xs : List Value), n ≤ 1000000 ∧ Own ok w e sl n xs ∧ Many X xs r
theorem SlA.fr {ok ok' : Ok} {w w' : World} {e : TypeId} {X Y : Value → List Row → Prop} {sl : Value} {r : List Row} (h : SlA ok w e X sl r) (hf : Keeps ok ok' w w') (hm : ∀ v r, X v r → Y v r) : SlA ok' w' e Y sl r := by
 obtain ⟨n, xs, h0, h1, h2⟩ := h
 exact ⟨n, xs, h0, h1.fr hf, h2.mono hm⟩
def FldA (ok : Ok) (w : World) (X : Value → List Row → Prop) (p : Value) (r : List Row) : Prop :=
 ∃ (g : Nat) (k v : ByteArray) (n l x : Value) (b : List Row), p = ptr g ∧ At ok w g #[.string k, n, l, x] 151 ∧ LocA ok w l ∧ NameA ok w n v ∧ X x b ∧ r = nd 19 v e0 e0 0 b
inductive ValS (ok : Ok) (w : World) (X : Value → List Row → Prop) : Value → List Row → Prop
 | var {g : Nat} {k v : ByteArray} {l n : Value} : At ok w g #[.string k, l, n] 83 → LocA ok w l → NameA ok w n v → ValS ok w X (.iface 73 (ptr g)) (nd 11 v e0 e0 0 [])
 | int {g : Nat} {k v : ByteArray} {l : Value} : At ok w g #[.string k, l, .string v] 131 → LocA ok w l → ValS ok w X (.iface 130 (ptr g)) (nd 12 e0 e0 v 0 [])
 | flt {g : Nat} {k v : ByteArray} {l : Value} : At ok w g #[.string k, l, .string v] 133 → LocA ok w l → ValS ok w X (.iface 132 (ptr g)) (nd 13 e0 e0 v 0 [])
 | str {g : Nat} {k v : ByteArray} {l : Value} : At ok w g #[.string k, l, .string v] 135 → LocA ok w l → ValS ok w X (.iface 134 (ptr g)) (nd 14 e0 e0 v 0 [])
 | boo {g : Nat} {k : ByteArray} {l : Value} {b : Bool} : At ok w g #[.string k, l, .bool b] 138 → LocA ok w l → ValS ok w X (.iface 136 (ptr g)) (nd 15 e0 e0 e0 (if b = true then 1 else 0) [])
 | enm {g : Nat} {k v : ByteArray} {l : Value} : At ok w g #[.string k, l, .string v] 140 → LocA ok w l → ValS ok w X (.iface 139 (ptr g)) (nd 16 v e0 e0 0 [])
 | lst {g : Nat} {k : ByteArray} {l sl : Value} {r : List Row} : At ok w g #[.string k, l, sl] 144 → LocA ok w l → SlA ok w 77 X sl r → ValS ok w X (.iface 141 (ptr g)) (nd 17 e0 e0 e0 0 r)
 | obj {g : Nat} {k : ByteArray} {l sl : Value} {r : List Row} : At ok w g #[.string k, l, sl] 148 → LocA ok w l → SlA ok w 149 (FldA ok w X) sl r → ValS ok w X (.iface 145 (ptr g)) (nd 18 e0 e0 e0 0 r)
def ValA (ok : Ok) (w : World) : Nat → Value → List Row → Prop
 | 0 => fun _ _ => False
 | n + 1 => ValS ok w (ValA ok w n)
inductive TypS (ok : Ok) (w : World) (X : Value → List Row → Prop) : Value → List Row → Prop
 | named {g : Nat} {k v : ByteArray} {l n : Value} : At ok w g #[.string k, l, n] 123 → LocA ok w l → NameA ok w n v → TypS ok w X (.iface 122 (ptr g)) (nd 20 v e0 e0 0 [])
 | lst {g : Nat} {k : ByteArray} {l t : Value} {r : List Row} : At ok w g #[.string k, l, t] 127 → LocA ok w l → X t r → TypS ok w X (.iface 125 (ptr g)) (nd 21 e0 e0 e0 0 r)
 | non {g : Nat} {k : ByteArray} {l t : Value} {r : List Row} : At ok w g #[.string k, l, t] 129 → LocA ok w l → X t r → TypS ok w X (.iface 128 (ptr g)) (nd 22 e0 e0 e0 0 r)
def TypA (ok : Ok) (w : World) : Nat → Value → List Row → Prop
 | 0 => fun _ _ => False
 | n + 1 => TypS ok w (TypA ok w n)
theorem LocA.fr {ok ok' : Ok} {w w' : World} {p : Value} (h : LocA ok w p) (hf : Keeps ok ok' w w') : LocA ok' w' p := by
 obtain ⟨g, a, z, s, h1, h2⟩ := h; exact ⟨g, a, z, s, h1, h2.fr hf⟩
theorem NameA.fr {ok ok' : Ok} {w w' : World} {p : Value} {v : ByteArray} (h : NameA ok w p v) (hf : Keeps ok ok' w w') : NameA ok' w' p v := by
 obtain ⟨g, k, l, h1, h2⟩ := h; exact ⟨g, k, l, h1, h2.fr hf⟩
theorem FldA.fr {ok ok' : Ok} {w w' : World} {X Y : Value → List Row → Prop} {p : Value} {r : List Row} (h : FldA ok w X p r) (hf : Keeps ok ok' w w') (hm : ∀ v r, X v r → Y v r) : FldA ok' w' Y p r := by
 obtain ⟨g, k, v, n, l, z, b, h1, h2, h3, h4, h5, h6⟩ := h
 exact ⟨g, k, v, n, l, z, b, h1, h2.fr hf, h3.fr hf, h4.fr hf, hm _ _ h5, h6⟩
theorem ValS.fr {ok ok' : Ok} {w w' : World} {X Y : Value → List Row → Prop} {p : Value} {r : List Row} (h : ValS ok w X p r) (hf : Keeps ok ok' w w') (hm : ∀ v r, X v r → Y v r) : ValS ok' w' Y p r := by
 cases h with
 | var a b c => exact .var (a.fr hf) (b.fr hf) (c.fr hf)
 | int a b => exact .int (a.fr hf) (b.fr hf)
 | flt a b => exact .flt (a.fr hf) (b.fr hf)
 | str a b => exact .str (a.fr hf) (b.fr hf)
 | boo a b => exact .boo (a.fr hf) (b.fr hf)
 | enm a b => exact .enm (a.fr hf) (b.fr hf)
 | lst a b c => exact .lst (a.fr hf) (b.fr hf) (c.fr hf hm)
 | obj a b c => exact .obj (a.fr hf) (b.fr hf) (c.fr hf (fun v r h => h.fr hf hm))
theorem ValA.fr {ok ok' : Ok} {w w' : World} (hf : Keeps ok ok' w w') : ∀ (n : Nat) (p : Value) (r : List Row), ValA ok w n p r → ValA ok' w' n p r := by
 intro n
 induction n with
 | zero => intro p r h; exact h
 | succ n ih => intro p r h; exact ValS.fr h hf ih
theorem ValA.up {ok : Ok} {w : World} : ∀ (n : Nat) (p : Value) (r : List Row), ValA ok w n p r → ValA ok w (n + 1) p r := by
 intro n
 induction n with
 | zero => intro p r h; exact h.elim
 | succ n ih => intro p r h; exact ValS.fr h (Keeps.refl _ _) ih
theorem TypS.fr {ok ok' : Ok} {w w' : World} {X Y : Value → List Row → Prop} {p : Value} {r : List Row} (h : TypS ok w X p r) (hf : Keeps ok ok' w w') (hm : ∀ v r, X v r → Y v r) : TypS ok' w' Y p r := by
 cases h with
 | named a b c => exact .named (a.fr hf) (b.fr hf) (c.fr hf)
 | lst a b c => exact .lst (a.fr hf) (b.fr hf) (hm _ _ c)
 | non a b c => exact .non (a.fr hf) (b.fr hf) (hm _ _ c)
theorem TypA.fr {ok ok' : Ok} {w w' : World} (hf : Keeps ok ok' w w') : ∀ (n : Nat) (p : Value) (r : List Row), TypA ok w n p r → TypA ok' w' n p r := by
 intro n
 induction n with
 | zero => intro p r h; exact h
 | succ n ih => intro p r h; exact TypS.fr h hf ih
def rv (x : Row) : List Value := [.int .i64 x.1, .string x.2.1, .string x.2.2.1, .string x.2.2.2.1, .int .i64 x.2.2.2.2.1, .int .i64 x.2.2.2.2.2]
def flat (r : List Row) : List Value := r.flatMap rv
theorem flat_len (r : List Row) : (flat r).length = r.length * 6 := by
 induction r with
 | nil => rfl
 | cons x r ih => simp only [flat, List.flatMap_cons, List.length_append, List.length_cons] at ih ⊢; rw [ih]; simp [rv]; omega
theorem flat_app (a b : List Row) : flat (a ++ b) = flat a ++ flat b := List.flatMap_append
theorem flat_set (a kids : List Row) (k : Int) (nm al tx : ByteArray) (fl : Int) : (flat ((a ++ [(k, nm, al, tx, fl, 0)]) ++ kids)).set (a.length * 6 + 5) (.int .i64 ((kids.length : Int) + 1)) = flat (a ++ nd k nm al tx fl kids) := by
 rw [List.append_assoc, flat_app, flat_app, List.set_append_right _ _ (by rw [flat_len]; omega), flat_len, show a.length * 6 + 5 - a.length * 6 = 5 from by omega, flat_app a (nd k nm al tx fl kids)]
 rfl
structure TF (B : Nat) (w w' : World) : Prop where
 low : Below B w w'
 typ : ∀ (g : Nat) (cs : Array Value) (t : TypeId), w.heap[g]? = some (.cells cs t (0, 0)) → t ≠ 55 → t ≠ 121 → t ≠ 38 → w'.heap[g]? = some (.cells cs t (0, 0))
theorem TF.refl (B : Nat) (w : World) : TF B w w := ⟨Below.refl _ _, fun _ _ _ h _ _ _ => h⟩
theorem TF.trans {B : Nat} {a b c : World} (h : TF B a b) (k : TF B b c) : TF B a c := ⟨h.low.trans k.low, fun g cs t h1 h2 h3 h4 => k.typ g cs t (h.typ g cs t h1 h2 h3 h4) h2 h3 h4⟩
theorem TF.of {B : Nat} {w w' : World} (hB : B ≤ w.heap.size) (h : Below w.heap.size w w') : TF B w w' := ⟨h.mono hB, fun g cs t h1 _ _ _ => blk_below h1 h⟩
theorem TF.step {B : Nat} {w w1 w2 : World} (h : TF B w w1) (hB : B ≤ w1.heap.size) (k : Below w1.heap.size w1 w2) : TF B w w2 := h.trans (.of hB k)
theorem TF.big {B : Nat} {w w' : World} (h : TF B w w') (hB : B ≤ w.heap.size) : B ≤ w'.heap.size := Nat.le_trans hB h.low.size
theorem TF.drewN {B : Nat} {w w1 : World} (h : TF B w w1) (n : Nat) : TF B w (w1.drewN n) := ⟨pw_below_drewN h.low n, h.typ⟩
theorem TF.put {B : Nat} {w w1 : World} (h : TF B w w1) {p : Addr} (hp : B ≤ p.block) {cs : Array Value} {t : TypeId} (hb : w1.heap[p.block]? = some (.cells cs t (0, 0))) (ht : t = 55 ∨ t = 121 ∨ t = 38) (u : Value) : TF B w (w1.setCell p u) :=
 ⟨h.low.setCell hp _, fun g c2 t2 h1 h2 h3 h4 => by
  have h5 := h.typ g c2 t2 h1 h2 h3 h4
  refine blk_far h5 (fun e => ?_) u
  rw [e, hb] at h5
  injection h5 with h5; injection h5 with h6 h7 h8
  rcases ht with rfl | rfl | rfl
  ·exact h2 h7.symm
  ·exact h3 h7.symm
  ·exact h4 h7.symm⟩
theorem own_typ {w w' : World} {base : Nat} {e : TypeId} {s n : Nat} {v : Value} {xs : List Value} (h : w.ownsRow base e s v n xs) (hk : ∀ (g : Nat) (cs : Array Value), w.heap[g]? = some (.cells cs e (0, 0)) → w'.heap[g]? = some (.cells cs e (0, 0))) : w'.ownsRow base e s v n xs := by
 refine ⟨h.1, ?_⟩
 rcases h.2 with h2 | ⟨g, cap, cur, hv, hg, hh, r⟩
 ·exact .inl h2
 ·exact .inr ⟨g, cap, cur, hv, hg, hk _ _ hh, r⟩
theorem own_ty {w : World} {base : Nat} {e t : TypeId} {s n g : Nat} {v : Value} {xs : List Value} {cs : Array Value} (h : w.ownsRow base e s v n xs) (hv : v.ownBlock = some g) (hb : w.heap[g]? = some (.cells cs t (0, 0))) : t = e := by
 obtain ⟨_, ⟨rfl, _⟩ | ⟨g', cap, cur, rfl, hg, hh, _⟩⟩ := h
 ·simp [Value.ownBlock] at hv
 ·simp [Value.ownBlock] at hv
  subst hv
  rw [hb] at hh
  injection hh with hh
  injection hh with h1 h2 h3
theorem grown_typ {w w1 : World} {base : Nat} {e t : TypeId} {s n g : Nat} {v : Value} {xs : List Value} {cs : Array Value} (h : w.ownsRow base e s v n xs) (hg : w.grownBy w1 v.ownBlock) (hb : w.heap[g]? = some (.cells cs t (0, 0))) (hne : t ≠ e) : w1.heap[g]? = some (.cells cs t (0, 0)) :=
 (hg.block g (blk_lt hb) (fun hv => hne (own_ty h hv.symm hb))).trans hb
theorem TF.grown {B : Nat} {w w1 w2 : World} (h : TF B w w1) {e : TypeId} {s n : Nat} {v : Value} {xs : List Value} (ho : w1.ownsRow B e s v n xs) (he : e = 55 ∨ e = 121 ∨ e = 38) (hB : B ≤ w1.heap.size) (hg : w1.grownBy w2 v.ownBlock) : TF B w w2 :=
 ⟨pw_below_grown h.low _ hB hg (fun k hk => (World.ownsRow.lt ho k hk).1), fun g c2 t2 h1 h2 h3 h4 => grown_typ ho hg (h.typ g c2 t2 h1 h2 h3 h4) (fun e' => by rcases he with rfl | rfl | rfl; exact h2 e'; exact h3 e'; exact h4 e')⟩
structure TK (B gt : Nat) (w : World) (rows : List Row) : Prop where
 lo : B ≤ gt
 ex : ∃ (A : Option Addr) (cp : Nat) (A2 : Option Addr) (cp2 : Nat) (xs : List Value), w.heap[gt]? = some (.cells #[.slice A rows.length cp, .slice A2 rows.length cp2, .bool false] 38 (0, 0)) ∧ w.ownsRow B 55 6 (.slice A rows.length cp) rows.length (flat rows) ∧ w.ownsRow B 121 2 (.slice A2 rows.length cp2) rows.length xs
theorem TK.step {B gt : Nat} {w w' : World} {rows : List Row} (h : TK B gt w rows) (hb : Below w.heap.size w w') : TK B gt w' rows := by
 obtain ⟨h0, A, cp, A2, cp2, xs, h1, h2, h3⟩ := h
 exact ⟨h0, A, cp, A2, cp2, xs, blk_below h1 hb, own_typ h2 (fun g cs h => blk_below h hb), own_typ h3 (fun g cs h => blk_below h hb)⟩
def TP (B gt : Nat) (w : World) (rows : List Row) (e : Ending) (w' : World) : Prop := e = .returned (.tuple #[]) ∧ TK B gt w' rows ∧ TF B w w'
def Wi (B gt : Nat) (w : World) (f : Value) (kids : List Row) : Prop :=
 (f = .nilFunc ∧ kids = []) ∨ ∃ (n : Nat) (cs : Array Value), f = .func (.func n) #[] cs ∧ (∀ w : World, Sem.run Tryz.prog (callFunc n cs) w = .ok (.enter n cs) w) ∧ ∀ (w1 : World) (rows : List Row), TF B w w1 → TK B gt w1 rows → rows.length + kids.length ≤ 1000000 → Calls Tryz.prog n cs w1 (TP B gt w1 (rows ++ kids))
abbrev to_ (n : Nat) : Ok := fun g => g < n
theorem TF.keeps {B : Nat} {w w' : World} (h : TF B w w') : Keeps (to_ B) (to_ B) w w' := fun g o hg hb => ⟨hg, (h.low.block g hg).trans hb⟩
theorem keeps_to {n : Nat} {w : World} : Keeps (from_ n) (to_ w.heap.size) w w := fun g o hg hb => ⟨blk_lt hb, hb⟩
theorem info55' : (Tryz.prog.info? 55).map (fun i => (i.zero, i.size, i.bytes)) = some (some (.agg #[.int .i64 0, .string ⟨#[]⟩, .string ⟨#[]⟩, .string ⟨#[]⟩, .int .i64 0, .int .i64 0]), 6, 72) := by kernel_rfl
theorem info121' : (Tryz.prog.info? 121).map (fun i => (i.zero, i.size, i.bytes)) = some (some (.agg #[.int .i64 0, .int .i64 0]), 2, 16) := by kernel_rfl
theorem inf_parts {P : Program} {e : TypeId} {z : Value} {s b : Nat} (h : (P.info? e).map (fun i => (i.zero, i.size, i.bytes)) = some (some z, s, b)) : ∃ i, P.info? e = some i ∧ i.zero = some z ∧ i.size = s ∧ i.bytes = b := by
 obtain ⟨i, hi, h⟩ := Option.map_eq_some_iff.1 h
 simp only [Prod.mk.injEq] at h
 exact ⟨i, hi, h.1, h.2.1, h.2.2⟩
theorem fn_ne (n : Nat) (cs : Array Value) (w : World) : (Sem.run Tryz.prog (binOp BinOp.neq 1 (.func (.func n) #[] cs) Value.nilFunc) w) = .ok (.bool true) w := by kernel_rfl
theorem fn_nil (w : World) : (Sem.run Tryz.prog (binOp BinOp.neq 1 Value.nilFunc Value.nilFunc) w) = .ok (.bool false) w := by kernel_rfl
theorem put_fin {w W : World} {B gt m g4 cp4 cp5 : Nat} {A5 : Option Addr} {zs : List Value} {cur : Array Value} {rows kids : List Row} {k fl : Int} {nm al tx : ByteArray} (lo : B ≤ gt) (q1 : W.heap[gt]? = some (.cells #[.slice (some ⟨g4, 0, none⟩) m cp4, .slice A5 m cp5, .bool false] 38 (0, 0))) (q2 : W.ownsRow B 55 6 (.slice (some ⟨g4, 0, none⟩) m cp4) m (flat ((rows ++ [(k, nm, al, tx, fl, 0)]) ++ kids))) (q3 : W.ownsRow B 121 2 (.slice A5 m cp5) m zs) (hg : W.heap[g4]? = some (.cells cur 55 (0, 0))) (hm : m = rows.length + 1 + kids.length) (hn : m ≤ 1000001) (hF : TF B w W) :
 TP B gt w (rows ++ nd k nm al tx fl kids) (.returned (.tuple #[])) (W.setCell ⟨g4, rows.length * 6 + 5, none⟩ (.int .i64 (IntKind.i64.wrap ((m : Int) - (rows.length : Int))))).drew := by
 have hv : IntKind.i64.wrap ((m : Int) - (rows.length : Int)) = (kids.length : Int) + 1 := (IntWalk.i64_in _ (by omega)).trans (by omega)
 have hl : (rows ++ nd k nm al tx fl kids).length = m := by rw [List.length_append, hm]; simp only [nd, List.length_cons]; omega
 have hB : B ≤ g4 := (World.ownsRow.lt q2 g4 rfl).1
 rw [hv]
 refine ⟨rfl, ⟨lo, some ⟨g4, 0, none⟩, cp4, A5, cp5, zs, ?_, ?_, ?_⟩, ?_⟩
 ·rw [hl]
  exact blk_far (p := ⟨g4, rows.length * 6 + 5, none⟩) q1 (blk_ne q1 hg (by decide)) _
 ·rw [hl, ← flat_set]
  exact own_drew (World.ownsRow.stored q2 _ _).1
 ·rw [hl]
  exact own_drew (own_typ q3 (fun g cs h => blk_far (p := ⟨g4, rows.length * 6 + 5, none⟩) h (blk_ne h hg (by decide)) _))
 ·exact (TF.put hF (p := ⟨g4, rows.length * 6 + 5, none⟩) hB hg (.inl rfl) _).drewN 1
theorem put_walk {w : World} {B gt : Nat} {rows kids : List Row} {k fl : Int} {nm al tx : ByteArray} {l f : Value} (hT : TK B gt w rows) (hL : LocA (to_ B) w l) (hBw : B ≤ w.heap.size) (hn : rows.length + kids.length + 1 ≤ 1000000) (hW : Wi B gt w f kids) :
 Calls Tryz.prog 26 #[ptr gt, l, .agg #[.int .i64 k, .string nm, .string al, .string tx, .int .i64 fl, .int .i64 0], f] w (TP B gt w (rows ++ nd k nm al tx fl kids)) := by
 obtain ⟨gl, a, y, p, rfl, hgl, hL⟩ := hL
 obtain ⟨lo, A, cp, A2, cp2, xs, hT, hD, hS⟩ := hT
 have HT := mkA hT
 have HD := mkA hD
 have HS := mkA hS
 have HL := mkA hL
 have HGL := mkA hgl
 have LO := mkA lo
 have HBW := mkA hBw
 have HN := mkA hn
 have HWI := mkA hW
 have HB := mkA (Below.refl w.heap.size w)
 obtain ⟨i0, hi, hz0, hz1, hz2⟩ := inf_parts info55'
 have hmx : rows.length ≤ 1000000 := by omega
 clear hT hD hS hL hgl lo hBw hn hW
 go_enter Tryz.func26, Tryz.ntmps26
 go_upto_region 2 with (first
  | ((with_reducible refine gate_dst (N := 6) rfl ?_); refine box_event ?hg (N := 6) ?hd (cs := #[.int .i64 k, .string nm, .string al, .string tx, .int .i64 fl, .int .i64 0]) (t := 55) ?hr ?_; (case hd => rfl); (case hg => rfl); (case hr => first | (go_simp; done) | (go_simp; rfl)); intro gx hg w2 hbox hb; have HB2 := mkA hb; have BX := mkA hbox; have BT := mkA (blk_below HT.out hb); have BL := mkA (blk_below HL.out hb); clear hb hbox hg HB; have c0 : w2.cell? ⟨gt, 0, none⟩ = some (.slice A rows.length cp) := (blk_cell BT.out 0).trans rfl))
 have x0 : w2.cell? ⟨gx, 0, none⟩ = some (.int .i64 k) := (blk_cell BX.out 0).trans rfl
 have x1 : w2.cell? ⟨gx, 1, none⟩ = some (.string nm) := (blk_cell BX.out 1).trans rfl
 have x2 : w2.cell? ⟨gx, 2, none⟩ = some (.string al) := (blk_cell BX.out 2).trans rfl
 have x3 : w2.cell? ⟨gx, 3, none⟩ = some (.string tx) := (blk_cell BX.out 3).trans rfl
 have x4 : w2.cell? ⟨gx, 4, none⟩ = some (.int .i64 fl) := (blk_cell BX.out 4).trans rfl
 have x5 : w2.cell? ⟨gx, 5, none⟩ = some (.int .i64 0) := (blk_cell BX.out 5).trans rfl
 have f0 := blk_frozen BT.out 0
 have HD2 := mkA (own_typ HD.out (fun g cs h => blk_below h HB2.out))
 have HS2 := mkA (own_typ HS.out (fun g cs h => blk_below h HB2.out))
 have F2 := mkA (TF.of HBW.out HB2.out)
 have NA := mkA (World.news_of_block (heap_alloc_new w2 (.cells #[.int .i64 k, .string nm, .string al, .string tx, .int .i64 fl, .int .i64 0] 55 (0, 0))))
 have H1 := mkA (show ∀ u ∈ [Value.int .i64 k, .string nm, .string al, .string tx, .int .i64 fl, .int .i64 0], u.oneCell' = true by intro u hu; simp only [List.mem_cons, List.not_mem_nil, or_false] at hu; rcases hu with rfl | rfl | rfl | rfl | rfl | rfl <;> rfl)
 have e0 : ∀ o, (w2.alloc o).cell? ⟨gt, 0, none⟩ = some (.slice A rows.length cp) := fun o => ((below_alloc (Below.refl w2.heap.size w2) o).cell (World.block_lt_of_cell? w2 _ c0)).trans c0
 go_cut [] (fun wc => ∃ (gd cap : Nat), Aside0 (wc.heap[gt]? = some (.cells #[.slice (some ⟨gd, 0, none⟩) (rows.length + 1) cap, .slice A2 rows.length cp2, .bool false] 38 (0, 0))) ∧ Aside0 (wc.ownsRow B 55 6 (.slice (some ⟨gd, 0, none⟩) (rows.length + 1) cap) (rows.length + 1) (flat rows ++ [.int .i64 k, .string nm, .string al, .string tx, .int .i64 fl, .int .i64 0])) ∧ Aside0 (wc.ownsRow B 121 2 (.slice A2 rows.length cp2) rows.length xs) ∧ Aside0 (TF B w wc))
 case first =>
  go_region_law (refine step_append_lies _ rfl (.tmp 18) (.tmp 20) 25 (by rfl) B 55 i0 (.agg #[.int .i64 0, .string ⟨#[]⟩, .string ⟨#[]⟩, .string ⟨#[]⟩, .int .i64 0, .int .i64 0]) 6 72 Tryz.underlying25 hi hz0 hz1 hz2 (by rfl) (by omega) (.slice A rows.length cp) rows.length (flat rows) (by rfl) (own_drew (own_alloc HD2.out _)) ⟨w2.heap.size, 0, none⟩ 1 1 [.int .i64 k, .string nm, .string al, .string tx, .int .i64 fl, .int .i64 0] (by rfl) (by rfl) NA.out H1.out (by omega) (by unfold maxLen; omega) (by omega) (by exact Nat.le_trans (F2.out.big HBW.out) (below_alloc (Below.refl w2.heap.size w2) _).size) _ rfl ?_; intro gd cap w9 hown hgrow hat hlt; have OW := mkA hown; have OS9 := mkA (own_typ (own_drew (own_alloc HS2.out _)) (fun g cs h => grown_typ (own_drew (own_alloc HD2.out _)) hgrow h (by decide))); have F9 := mkA (TF.grown (TF.step F2.out (F2.out.big HBW.out) (below_drew1 (below_alloc (Below.refl w2.heap.size w2) _))) (own_drew (own_alloc HD2.out _)) (.inl rfl) (by exact Nat.le_trans (F2.out.big HBW.out) (below_alloc (Below.refl w2.heap.size w2) _).size) hgrow); have BT9 := mkA (grown_typ (own_drew (own_alloc HD2.out _)) hgrow (blk_below BT.out (below_drew1 (below_alloc (Below.refl w2.heap.size w2) _))) (by decide)); have c9 : w9.cell? ⟨gt, 0, none⟩ = some (.slice A rows.length cp) := (blk_cell BT9.out 0).trans rfl; have f9 := blk_frozen BT9.out 0; clear hown hgrow hat hlt)
  all_goals (try go_wp2)
  all_goals go_meet
  all_goals
   exact ⟨gd, cap, ⟨blk_put (cs := #[.slice A rows.length cp, .slice A2 rows.length cp2, .bool false]) BT9.out 0 _ rfl⟩, ⟨own_typ OW.out (fun g cs h => blk_far h (fun e => by subst e; have := BT9.out; rw [h] at this; injection this with this; injection this with h1 h2 h3; exact absurd h2 (by decide)) _)⟩, ⟨own_typ OS9.out (fun g cs h => blk_far h (fun e => by subst e; have := BT9.out; rw [h] at this; injection this with this; injection this with h1 h2 h3; exact absurd h2 (by decide)) _)⟩, ⟨TF.put F9.out LO.out BT9.out (.inr (.inr rfl)) _⟩⟩
 case rest =>
  obtain ⟨gd, cap, BTc, ODc, OSc, Fc⟩ := hcut
  clear x0 x1 x2 x3 x4 x5 f0 c0 e0 NA H1 hi hz0 hz1 hz2
  have BLc := mkA (Fc.out.typ gl _ _ HL.out (by decide) (by decide) (by decide))
  have HBc := mkA (Fc.out.big HBW.out)
  go_upto_region 5 with (fail)
  obtain ⟨j0, hj, hy0, hy1, hy2⟩ := inf_parts info121'
  have d1 : wc.cell? ⟨gt, 1, none⟩ = some (.slice A2 rows.length cp2) := (blk_cell BTc.out 1).trans rfl
  have l0 : wc.cell? ⟨gl, 0, none⟩ = some (.int .i64 a) := (blk_cell BLc.out 0).trans rfl
  have l1 : wc.cell? ⟨gl, 1, none⟩ = some (.int .i64 y) := (blk_cell BLc.out 1).trans rfl
  have NA := mkA (World.news_of_block (heap_alloc_new wc (.cells #[.int .i64 a, .int .i64 y] 121 (0, 0))))
  have H1 := mkA (show ∀ u ∈ [Value.int .i64 a, .int .i64 y], u.oneCell' = true by intro u hu; simp only [List.mem_cons, List.not_mem_nil, or_false] at hu; rcases hu with rfl | rfl <;> rfl)
  have e1 : ∀ o, (wc.alloc o).cell? ⟨gt, 1, none⟩ = some (.slice A2 rows.length cp2) := fun o => ((below_alloc (Below.refl wc.heap.size wc) o).cell (World.block_lt_of_cell? wc _ d1)).trans d1
  go_cut [] (fun wd => ∃ (A3 : Option Addr) (cp3 : Nat) (ys : List Value), Aside0 (wd.heap[gt]? = some (.cells #[.slice (some ⟨gd, 0, none⟩) (rows.length + 1) cap, .slice A3 (rows.length + 1) cp3, .bool false] 38 (0, 0))) ∧ Aside0 (wd.ownsRow B 55 6 (.slice (some ⟨gd, 0, none⟩) (rows.length + 1) cap) (rows.length + 1) (flat rows ++ [.int .i64 k, .string nm, .string al, .string tx, .int .i64 fl, .int .i64 0])) ∧ Aside0 (wd.ownsRow B 121 2 (.slice A3 (rows.length + 1) cp3) (rows.length + 1) ys) ∧ Aside0 (TF B w wd))
  case first =>
   go_region_law (refine step_append_lies _ rfl (.tmp 32) (.tmp 42) 36 (by rfl) B 121 j0 (.agg #[.int .i64 0, .int .i64 0]) 2 16 Tryz.underlying36 hj hy0 hy1 hy2 (by rfl) (by omega) (.slice A2 rows.length cp2) rows.length xs (by rfl) (own_drew (own_alloc OSc.out _)) ⟨wc.heap.size, 0, none⟩ 1 1 [.int .i64 a, .int .i64 y] (by rfl) (by rfl) NA.out H1.out (by omega) (by unfold maxLen; omega) (by omega) (by exact Nat.le_trans HBc.out (below_alloc (Below.refl wc.heap.size wc) _).size) _ rfl ?_; intro ge cap2 w9 hown hgrow hat hlt; have OW := mkA hown; have OD9 := mkA (own_typ (own_drew (own_alloc ODc.out _)) (fun g cs h => grown_typ (own_drew (own_alloc OSc.out _)) hgrow h (by decide))); have F9 := mkA (TF.grown (TF.step Fc.out HBc.out (below_drew1 (below_alloc (Below.refl wc.heap.size wc) _))) (own_drew (own_alloc OSc.out _)) (.inr (.inl rfl)) (by exact Nat.le_trans HBc.out (below_alloc (Below.refl wc.heap.size wc) _).size) hgrow); have BT9 := mkA (grown_typ (own_drew (own_alloc OSc.out _)) hgrow (blk_below BTc.out (below_drew1 (below_alloc (Below.refl wc.heap.size wc) _))) (by decide)); have c9 : w9.cell? ⟨gt, 1, none⟩ = some (.slice A2 rows.length cp2) := (blk_cell BT9.out 1).trans rfl; have f9 := blk_frozen BT9.out 1; clear hown hgrow hat hlt)
   all_goals (try go_wp2)
   all_goals go_meet
   all_goals
    exact ⟨some ⟨ge, 0, none⟩, cap2, _, ⟨blk_put (cs := #[.slice (some ⟨gd, 0, none⟩) (rows.length + 1) cap, .slice A2 rows.length cp2, .bool false]) BT9.out 1 _ rfl⟩, ⟨own_typ OD9.out (fun g cs h => blk_far h (fun e => by subst e; have := BT9.out; rw [h] at this; injection this with this; injection this with h1 h2 h3; exact absurd h2 (by decide)) _)⟩, ⟨own_typ OW.out (fun g cs h => blk_far h (fun e => by subst e; have := BT9.out; rw [h] at this; injection this with this; injection this with h1 h2 h3; exact absurd h2 (by decide)) _)⟩, ⟨TF.put F9.out LO.out BT9.out (.inr (.inr rfl)) _⟩⟩
  case rest =>
   obtain ⟨A3, cp3, ys, BTd, ODd, OSd, Fd⟩ := hcut
   clear d1 l0 l1 NA H1 e1 hj hy0 hy1 hy2
   have HTK := mkA (show TK B gt wc (rows ++ [(k, nm, al, tx, fl, 0)]) from ⟨LO.out, some ⟨gd, 0, none⟩, cap, A3, cp3, ys, by rw [List.length_append]; exact BTd.out, by rw [List.length_append, flat_app]; exact ODd.out, by rw [List.length_append]; exact OSd.out⟩)
   clear BTd ODd OSd
   have hwi := HWI.out
   rcases hwi with ⟨rfl, rfl⟩ | ⟨n, cs, rfl, hE, hC⟩
   ·have hNil := fn_nil
    have HK := mkA (show TK B gt wc ((rows ++ [(k, nm, al, tx, fl, 0)]) ++ []) by rw [List.append_nil]; exact HTK.out)
    obtain ⟨-, A4, cp4, A5, cp5, zs, q1, q2, q3⟩ := HK.out
    obtain ⟨m, hm⟩ : ∃ m, m = ((rows ++ [(k, nm, al, tx, fl, 0)]) ++ []).length := ⟨_, rfl⟩
    rw [← hm] at q1 q2 q3
    have hm2 : m = rows.length + 1 + ([] : List Row).length := by rw [hm]; simp only [List.length_append, List.length_cons, List.length_nil]; try omega
    clear hm
    obtain ⟨g4, rfl, cur, hg4⟩ : ∃ g4, A4 = some ⟨g4, 0, none⟩ ∧ ∃ cur, wc.heap[g4]? = some (.cells cur 55 (0, 0)) := by
     rcases q2.2 with ⟨_, e⟩ | ⟨g4, cap4, cur, e, _, h4, _⟩
     ·omega
     ·injection e with e1 e2 e3; exact ⟨g4, e1, cur, h4⟩
    have Q1 := mkA q1
    have Q2 := mkA q2
    have Q3 := mkA q3
    have G4 := mkA hg4
    have HM := mkA hm2
    have a0 : wc.cell? ⟨gt, 0, none⟩ = some (.slice (some ⟨g4, 0, none⟩) m cp4) := (blk_cell q1 0).trans rfl
    have b5 := blk_frozen hg4 (rows.length * 6 + 5)
    have hlt : rows.length < m := by omega
    have a5 : wc.cell? ⟨g4, rows.length * 6 + 5, none⟩ = some (.int .i64 0) := by
     have h5 := World.ownsRow.cells q2 (g := g4) rfl (rows.length * 6 + 5) (.int .i64 0) (by rw [flat_app, flat_app, List.append_assoc, List.getElem?_append_right (by rw [flat_len]; omega), flat_len, show rows.length * 6 + 5 - rows.length * 6 = 5 from by omega]; rfl)
     rw [show (⟨g4, 0, none⟩ : Addr).add (rows.length * 6 + 5) = ⟨g4, rows.length * 6 + 5, none⟩ from by unfold Addr.add; split <;> simp_all] at h5
     exact h5
    clear q1 q2 q3 hg4 hm2
    go_upto_region 8 with (fail)
    go_region_law (fail)
    all_goals (try go_wp2)
    all_goals go_end0
    all_goals exact put_fin LO.out Q1.out Q2.out Q3.out G4.out HM.out (by have h1 := HM.out; have h2 := HN.out; (try simp only [List.length_nil] at h1 h2); omega) Fd.out
   ·have hF := fn_ne n cs
    have CW := mkA (hC wc _ Fd.out HTK.out (by have := HN.out; simp only [List.length_append, List.length_cons, List.length_nil] at *; omega))
    clear hC
    go_upto_region 8 with (first
     | ((with_reducible refine CW.out.mono ?_); rintro e w5 ⟨rfl, hK5, hF5⟩; have HK := mkA hK5; have F5 := mkA (Fd.out.trans hF5); clear hK5 hF5))
    obtain ⟨-, A4, cp4, A5, cp5, zs, q1, q2, q3⟩ := HK.out
    obtain ⟨m, hm⟩ : ∃ m, m = ((rows ++ [(k, nm, al, tx, fl, 0)]) ++ kids).length := ⟨_, rfl⟩
    rw [← hm] at q1 q2 q3
    have hm2 : m = rows.length + 1 + kids.length := by rw [hm]; simp only [List.length_append, List.length_cons, List.length_nil]; try omega
    clear hm
    obtain ⟨g4, rfl, cur, hg4⟩ : ∃ g4, A4 = some ⟨g4, 0, none⟩ ∧ ∃ cur, w5.heap[g4]? = some (.cells cur 55 (0, 0)) := by
     rcases q2.2 with ⟨_, e⟩ | ⟨g4, cap4, cur, e, _, h4, _⟩
     ·omega
     ·injection e with e1 e2 e3; exact ⟨g4, e1, cur, h4⟩
    have Q1 := mkA q1
    have Q2 := mkA q2
    have Q3 := mkA q3
    have G4 := mkA hg4
    have HM := mkA hm2
    have a0 : w5.cell? ⟨gt, 0, none⟩ = some (.slice (some ⟨g4, 0, none⟩) m cp4) := (blk_cell q1 0).trans rfl
    have b5 := blk_frozen hg4 (rows.length * 6 + 5)
    have hlt : rows.length < m := by omega
    have a5 : w5.cell? ⟨g4, rows.length * 6 + 5, none⟩ = some (.int .i64 0) := by
     have h5 := World.ownsRow.cells q2 (g := g4) rfl (rows.length * 6 + 5) (.int .i64 0) (by rw [flat_app, flat_app, List.append_assoc, List.getElem?_append_right (by rw [flat_len]; omega), flat_len, show rows.length * 6 + 5 - rows.length * 6 = 5 from by omega]; rfl)
     rw [show (⟨g4, 0, none⟩ : Addr).add (rows.length * 6 + 5) = ⟨g4, rows.length * 6 + 5, none⟩ from by unfold Addr.add; split <;> simp_all] at h5
     exact h5
    clear q1 q2 q3 hg4 hm2
    go_region_law (fail)
    all_goals (try go_wp2)
    all_goals go_end0
    all_goals exact put_fin LO.out Q1.out Q2.out Q3.out G4.out HM.out (by have h1 := HM.out; have h2 := HN.out; (try simp only [List.length_nil] at h1 h2); omega) F5.out
end Go.Proofs.YthgcghpcikbnkaaGreatDoor.R

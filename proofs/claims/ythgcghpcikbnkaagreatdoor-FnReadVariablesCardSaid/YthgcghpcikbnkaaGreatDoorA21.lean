/- A part of the proof of the theorem of this claim: Sbd, Spt, Spv. No condition of its own. -/
import Derived.Test.YthgcghpcikbnkaaGreatDoorA3
set_option maxHeartbeats 16000000
set_option maxRecDepth 100000
namespace Go.Proofs.YthgcghpcikbnkaaGreatDoor.R
open Go.RowKit Go.Proofs.YthgcghpcikbnkaaGreatDoorW.PrintWords Go.Proofs.YthgcghpcikbnkaaGreatDoorW.PrintLast Go.Proofs.YthgcghpcikbnkaaGreatDoorW.PrintMore
set_option linter.unusedVariables false
set_option linter.unusedSimpArgs false
def Pt (s : St) : Nat := s.a + (if s.bad = true then 1 else 0)
theorem pt_n {s : St} (h : s.bad = false) : Pt s = s.a := by unfold Pt; rw [if_neg (by rw [h]; decide)]; rfl
theorem pt_unk (s : St) (b : Bool) : Pt (s.unk b) = Pt s := rfl
theorem pt_leave (s : St) : Pt (leaveF s) = Pt s := rfl
theorem pt_enter (s : St) : Pt s ≤ Pt (enterF s) := by
 unfold enterF
 split
 ·have h1 : Pt (⟨s.a, wrap64 (s.d + 1), true, true⟩ : St) = s.a + 1 := rfl
  unfold Pt at *
  split <;> omega
 ·exact Nat.le_refl _
theorem pt_taken {L : List Tk} {k : Int} {s t : St} {b : Bool} (h : takenF L k s = (b, t)) : (b = true ∧ Pt t = Pt s + 1 ∧ s.bad = false ∧ t.bad = false) ∨ (b = false ∧ t = s) := by
 unfold takenF at h
 split at h
 ·rename_i hc
  injection h with h1 h2
  refine .inl ⟨h1.symm, ?_, hc.1, ?_⟩
  ·rw [← h2, pt_n hc.1, pt_n (show s.nx.bad = false from hc.1)]; rfl
  ·rw [← h2]; exact hc.1
 ·injection h with h1 h2
  exact .inr ⟨h1.symm, h2.symm⟩
theorem pt_must {L : List Tk} (k : Int) (s : St) : Pt s ≤ Pt (mustF L k s) ∧ (s.bad = false → Pt s + 1 ≤ Pt (mustF L k s)) := by
 unfold mustF
 split
 ·rename_i hc
  rw [pt_n hc.1, pt_n (show s.nx.bad = false from hc.1)]
  exact ⟨Nat.le_succ _, fun _ => Nat.le_refl _⟩
 ·have h1 : Pt s.fail = s.a + 1 := rfl
  rw [h1]
  unfold Pt
  refine ⟨by split <;> omega, fun h => ?_⟩
  rw [if_neg (by rw [h]; decide)]; omega
theorem pt_name {L : List Tk} (s : St) : Pt s ≤ Pt (nameF L s).2 ∧ (s.bad = false → Pt s + 1 ≤ Pt (nameF L s).2) := by
 unfold nameF
 split
 ·rename_i hc
  show Pt s ≤ Pt s.nx ∧ (_ → Pt s + 1 ≤ Pt s.nx)
  rw [pt_n hc.1, pt_n (show s.nx.bad = false from hc.1)]
  exact ⟨Nat.le_succ _, fun _ => Nat.le_refl _⟩
 ·have h1 : Pt s.fail = s.a + 1 := rfl
  show Pt s ≤ Pt s.fail ∧ (_ → Pt s + 1 ≤ Pt s.fail)
  rw [h1]
  unfold Pt
  refine ⟨by split <;> omega, fun h => ?_⟩
  rw [if_neg (by rw [h]; decide)]; omega
theorem pt_some {L : List Tk} (k : Int) (s : St) : Pt s ≤ Pt (someF L k s) := by
 unfold someF
 split
 ·rename_i hc
  have h1 : Pt (⟨s.a - 1, s.d, true, s.un⟩ : St) = s.a - 1 + 1 := rfl
  rw [h1, pt_n hc.1]; omega
 ·exact Nat.le_refl _
def Px (s : St) (x : RS) : Prop := x.1.length + Pt s ≤ Pt x.2
def Pa (F : St → Option RS) : Prop := ∀ s x, F s = some x → Px s x
def Pi (F : St → Option RS) : Prop := ∀ s x, s.bad = false → F s = some x → Px s x
theorem Pa.i {F : St → Option RS} (h : Pa F) : Pi F := fun s x _ e => h s x e
theorem nd_ln (k : Int) (nm al tx : ByteArray) (fl : Int) (kids : List Row) : (nd k nm al tx fl kids).length = kids.length + 1 := rfl
theorem bind_some {α β : Type} {o : Option α} {f : α → Option β} {x : β} (h : o.bind f = some x) : ∃ a, o = some a ∧ f a = some x := by
 cases o with
 | none => cases h
 | some a => exact ⟨a, rfl, h⟩
section
variable {L : List Tk}
theorem typ1_p {rec : St → Option RS} (h : Pa rec) : Pi (typ1F L rec) := by
 intro s x hb e
 unfold typ1F at e
 split at e
 ·rename_i s3 ht
  obtain ⟨y, e1, e2⟩ := bind_some e
  injection e2 with e2
  subst e2
  rcases pt_taken ht with ⟨_, p1, _, _⟩ | ⟨p, _⟩
  ·have p2 := h _ _ e1
   have p3 := (pt_must (L := L) 11 (y.2.unk (kd L y.2 != 11))).1
   rw [pt_unk] at p3
   unfold Px at *
   simp only [nd_ln]
   omega
  ·cases p
 ·rename_i s3 ht
  injection e with e2
  subst e2
  rcases pt_taken ht with ⟨p, _⟩ | ⟨_, p1⟩
  ·cases p
  ·subst p1
   have p3 := (pt_name (L := L) s3).2 hb
   unfold Px
   simp only [nd_ln, List.length_nil]
   omega
theorem bang_p (y : RS) (n : Nat) (h : y.1.length + n ≤ Pt y.2) : (bangF L y).1.length + n ≤ Pt (bangF L y).2 := by
 unfold bangF
 split
 ·rename_i s5 ht
  rcases pt_taken ht with ⟨_, p1, _, _⟩ | ⟨p, _⟩
  ·simp only [nd_ln, pt_leave]; omega
  ·cases p
 ·rename_i s5 ht
  rcases pt_taken ht with ⟨p, _⟩ | ⟨_, p1⟩
  ·cases p
  ·subst p1; simp only [pt_leave]; exact h
theorem typed_p : ∀ f, Pa (typedF L f) := by
 intro f
 induction f with
 | zero => intro s x e; cases e
 | succ f ih =>
   intro s x e
   unfold typedF at e
   have p0 := pt_enter s
   split at e
   ·injection e with e; subst e; unfold Px; simpa using p0
   ·rename_i hb
    obtain ⟨y, e1, e2⟩ := bind_some e
    injection e2 with e2
    subst e2
    have p1 := typ1_p ih _ _ (by show (enterF s).bad = false; simpa using hb) e1
    unfold Px at *
    rw [pt_unk] at p1
    exact bang_p y (Pt s) (by omega)
theorem loop_p {item : St → Option RS} {cl : Int} (h : Pi item) : ∀ n, Pa (loopF L item cl n) := by
 intro n
 induction n with
 | zero => intro s x e; cases e
 | succ n ih =>
   intro s x e
   unfold loopF at e
   split at e
   ·injection e with e; subst e; unfold Px; simp
   ·rename_i hb
    split at e
    ·rename_i s1 ht
     injection e with e; subst e
     rcases pt_taken ht with ⟨_, p1, _, _⟩ | ⟨p, _⟩
     ·unfold Px; simp only [List.length_nil]; omega
     ·cases p
    ·rename_i s1 ht
     rcases pt_taken ht with ⟨p, _⟩ | ⟨_, p1⟩
     ·cases p
     ·subst p1
      obtain ⟨y, e1, e2⟩ := bind_some e
      obtain ⟨z, e3, e4⟩ := bind_some e2
      injection e4 with e4; subst e4
      have q1 := h _ _ (by simpa using hb) e1
      have q2 := ih _ _ e3
      unfold Px at *
      simp only [List.length_append]
      omega
theorem loop1_p {item : St → Option RS} {cl : Int} (h : Pi item) (n : Nat) : Pa (loop1F L item cl n) := by
 intro s x e
 unfold loop1F at e
 split at e
 ·injection e with e; subst e; unfold Px; simp
 ·rename_i hb
  obtain ⟨y, e1, e2⟩ := bind_some e
  obtain ⟨z, e3, e4⟩ := bind_some e2
  injection e4 with e4; subst e4
  have q1 := h _ _ (by simpa using hb) e1
  have q2 := loop_p h _ _ _ e3
  unfold Px at *
  simp only [List.length_append]
  omega
theorem nv_p {k : Int} {rec : St → Option RS} (h : Pa rec) : Pi (nvF L k rec) := by
 intro s x hb e
 unfold nvF at e
 obtain ⟨y, e1, e2⟩ := bind_some e
 injection e2 with e2; subst e2
 have q1 := h _ _ e1
 have q2 := (pt_name (L := L) s).2 hb
 have q3 := (pt_must (L := L) 7 (nameF L s).2).1
 unfold Px at *
 simp only [nd_ln]
 omega
theorem nx_p {s : St} (hb : s.bad = false) : Pt s.nx = Pt s + 1 := by rw [pt_n hb, pt_n (show s.nx.bad = false from hb)]; rfl
theorem fail_p (s : St) : Pt s ≤ Pt s.fail := by
 have h1 : Pt s.fail = s.a + 1 := rfl
 rw [h1]; unfold Pt; split <;> omega
theorem here_p {c : Bool} {rec : St → Option RS} (h : Pa rec) (n : Nat) : Pi (hereF L c rec n) := by
 intro s x hb e
 have hn := nx_p hb
 have hf := fail_p s
 unfold hereF at e
 have LEAF : ∀ (k : Int) (nm al tx : ByteArray) (fl : Int), Px s (nd k nm al tx fl [], s.nx) := fun k nm al tx fl => by unfold Px; simp only [nd_ln, List.length_nil]; omega
 have FAIL : Px s ([], s.fail) := by unfold Px; simpa using hf
 split at e
 ·injection e with e; subst e; exact FAIL
 split at e
 ·split at e
  ·injection e with e; subst e; exact FAIL
  ·injection e with e; subst e
   have q2 := (pt_name (L := L) s.nx).1
   unfold Px
   simp only [nd_ln, List.length_nil]
   omega
 split at e
 ·injection e with e; subst e; exact LEAF _ _ _ _ _
 split at e
 ·injection e with e; subst e; exact LEAF _ _ _ _ _
 split at e
 ·injection e with e; subst e; exact LEAF _ _ _ _ _
 split at e
 ·injection e with e; subst e; exact LEAF _ _ _ _ _
 split at e
 ·split at e
  ·injection e with e; subst e; exact LEAF _ _ _ _ _
  split at e
  ·injection e with e; subst e; exact LEAF _ _ _ _ _
  split at e
  ·injection e with e; subst e
   have q := fail_p (s.nx.unk true)
   rw [pt_unk] at q
   unfold Px
   simp only [List.length_nil]
   omega
  ·injection e with e; subst e; exact LEAF _ _ _ _ _
 split at e
 ·obtain ⟨y, e1, e2⟩ := bind_some e
  injection e2 with e2; subst e2
  have q := loop_p h.i _ _ _ e1
  unfold Px at *
  simp only [nd_ln]
  omega
 split at e
 ·obtain ⟨y, e1, e2⟩ := bind_some e
  injection e2 with e2; subst e2
  have q := loop_p (nv_p h) _ _ _ e1
  unfold Px at *
  simp only [nd_ln]
  omega
 ·injection e with e; subst e; exact FAIL
theorem value_p {c : Bool} : ∀ f, Pa (valueF L c f) := by
 intro f
 induction f with
 | zero => intro s x e; cases e
 | succ f ih =>
   intro s x e
   unfold valueF at e
   have p0 := pt_enter s
   split at e
   ·injection e with e; subst e; unfold Px; simpa using p0
   ·rename_i hb
    obtain ⟨y, e1, e2⟩ := bind_some e
    injection e2 with e2; subst e2
    have p1 := here_p ih _ _ _ (by simpa using hb) e1
    unfold Px at *
    simp only [pt_leave]
    omega
theorem args_p (f : Nat) : Pa (argsF L f) := by
 intro s x e
 unfold argsF at e
 split at e
 ·rename_i s1 ht
  injection e with e; subst e
  rcases pt_taken ht with ⟨p, _⟩ | ⟨_, p1⟩
  ·cases p
  ·subst p1; unfold Px; simp
 ·rename_i s1 ht
  rcases pt_taken ht with ⟨_, p1, _, _⟩ | ⟨p, _⟩
  ·have q := loop1_p (nv_p (value_p f)) _ _ _ e
   have q2 := pt_some (L := L) 5 s1
   unfold Px at *
   omega
  ·cases p
theorem def_p (f : Nat) : Pa (defF L f) := by
 intro s x e
 unfold defF at e
 split at e
 ·rename_i s3 ht
  rcases pt_taken ht with ⟨_, p1, _, _⟩ | ⟨p, _⟩
  ·have q := value_p f _ _ e
   unfold Px at *
   omega
  ·cases p
 ·rename_i s3 ht
  injection e with e; subst e
  rcases pt_taken ht with ⟨p, _⟩ | ⟨_, p1⟩
  ·cases p
  ·subst p1; unfold Px; simp
theorem var_p (f : Nat) : Pi (varF L f) := by
 intro s x hb e
 unfold varF at e
 obtain ⟨y, e1, e2⟩ := bind_some e
 obtain ⟨z, e3, e4⟩ := bind_some e2
 injection e4 with e4; subst e4
 have q1 := typed_p f _ _ e1
 have q2 := def_p f _ _ e3
 have q3 := (pt_must (L := L) 3 s).2 hb
 have q4 := (pt_name (L := L) (mustF L 3 s)).1
 have q5 := (pt_must (L := L) 7 (nameF L (mustF L 3 s)).2).1
 unfold Px at *
 simp only [List.length_append, nd_ln, pt_unk]
 omega
theorem vars_p (f : Nat) : Pa (varsF L f) := by
 intro s x e
 unfold varsF at e
 split at e
 ·rename_i s1 ht
  injection e with e; subst e
  rcases pt_taken ht with ⟨p, _⟩ | ⟨_, p1⟩
  ·cases p
  ·subst p1; unfold Px; simp
 ·rename_i s1 ht
  rcases pt_taken ht with ⟨_, p1, _, _⟩ | ⟨p, _⟩
  ·have q := loop1_p (var_p f) _ _ _ e
   have q2 := pt_some (L := L) 5 s1
   unfold Px at *
   omega
  ·cases p
end
section
variable {L tl : List Tk}
theorem unk_false (s : St) : s.unk false = s := by unfold St.unk; rw [Bool.or_false]
theorem unk_true (s : St) : (s.unk true).un = true := by show (s.un || true) = true; rw [Bool.or_true]
theorem nv_ok (T : Tl L tl) {F : St → Option RS} {p : List Tk → O (List Row × List Tk)} {m : Nat} (h : Gm L tl F p m) (k : Int) : Gd L tl (nvF L k F) (pNV k p) m := by
 intro s h1 h2
 have m1 := name_mn (L := L) h1
 have m2 := m1.trans (must_mn 7 (by decide) m1.le)
 obtain ⟨x, x1, x2, x3⟩ := h _ m2.le (by have := m2.up; omega)
 refine ⟨(nd k (nameF L s).1 e0 e0 0 x.1, x.2), by unfold nvF; rw [x1]; rfl, m2.trans x2, (name_pg.mn (must_mn 7 (by decide) m1.le)).mn x2, fun l => ?_⟩
 unfold pNV
 refine rg_bind (name_rn T l) (y := (nd k (nameF L s).1 e0 e0 0 x.1, x.2)) ((must_mn 7 (by decide) m1.le).trans x2) fun l1 d1 => ?_
 rw [← d1]
 refine rs_bind (must_rs T 7 (by decide) l1) (y := (nd k (nameF L s).1 e0 e0 0 x.1, x.2)) x2 fun l2 d2 => ?_
 rw [← d2]
 exact rg_bind (x3 l2) (y := (nd k (nameF L s).1 e0 e0 0 x.1, x.2)) (.refl x2.le) fun l3 d3 => rg_ok (x := (nd k (nameF L s).1 e0 e0 0 x.1, x.2)) l3 d3 (ers_nd _ _ _ _ _ _ (.inr rfl)).symm
theorem bang_ok (T : Tl L tl) (y : RS) (hy : y.2.a ≤ L.length) : Mn L y.2 (bangF L y).2 ∧ ∀ res d, 0 ≤ d → Rl L tl res y (d + 1) → Rl L tl (res.bind fun v => bang v.1 v.2) (bangF L y) d := by
 unfold bangF
 rcases taken_cases T 2 (by decide) y.2 hy with ⟨e, e1, e2, e3⟩ | ⟨e, e1⟩
 ·rw [e]
  refine ⟨(mn_nx e3).trans (leave_mn (mn_nx e3).le), fun res d h0 h => ?_⟩
  refine rg_bind h ((mn_nx e3).trans (leave_mn (mn_nx e3).le)) fun l hd => ?_
  unfold bang
  rw [(hk_rem T l).1, if_pos e2]
  refine rs_bind (adv_rs T l (by rw [e2]; decide)) (leave_mn (mn_nx e3).le) fun l2 hd2 => ?_
  obtain ⟨p, q, r⟩ := leave_lv l2 (hd2.trans hd) h0
  rw [← r]
  exact rg_ok (x := (nd 22 e0 e0 e0 0 y.1, leaveF y.2.nx)) p q (ers_nd _ _ _ _ _ _ (.inr rfl)).symm
 ·rw [e]
  refine ⟨leave_mn hy, fun res d h0 h => ?_⟩
  refine rg_bind h (leave_mn hy) fun l hd => ?_
  unfold bang
  rw [(hk_rem T l).1, if_neg (e1.resolve_left (by rw [l.b]; exact fun h => by cases h))]
  obtain ⟨p, q, r⟩ := leave_lv l hd h0
  rw [← r]
  exact rg_ok (x := (y.1, leaveF y.2)) p q rfl
theorem ptype_eq (f : Nat) (l : List Tk) : pType (f + 1) l = (if hk l = 10 then (adv l).bind fun r => (pType f r).bind fun x => if hk x.2 = 11 then (adv x.2).bind fun r => .ok (nd 21 e0 e0 e0 0 x.1, r) else .out else if hk l = 15 then (pName l).bind fun n => .ok (nd 20 n.1 e0 e0 0 [], n.2) else .out).bind fun v => bang v.1 v.2 := by
 show (if hk l = 10 then _ else _) = _
 by_cases c : hk l = 10
 ·rw [if_pos c, if_pos c]
  cases adv l with
  | out => rfl
  | bad => rfl
  | ok r =>
    simp only [O.bind_ok]
    cases pType f r with
    | out => rfl
    | bad => rfl
    | ok x =>
      simp only [O.bind_ok]
      by_cases c2 : hk x.2 = 11
      ·rw [if_pos c2, if_pos c2]
       cases adv x.2 <;> rfl
      ·rw [if_neg c2, if_neg c2]; rfl
 ·rw [if_neg c, if_neg c]
  by_cases c2 : hk l = 15
  ·rw [if_pos c2, if_pos c2]
   cases pName l <;> rfl
  ·rw [if_neg c2, if_neg c2]; rfl
theorem enter_a (s : St) : (enterF s).a = s.a := by unfold enterF; split <;> rfl
theorem typed_ok (T : Tl L tl) : ∀ f, Gd L tl (typedF L f) (pType f) f := by
 intro f
 induction f with
 | zero => intro s h1 h2; omega
 | succ f ih =>
   intro s h1 h2
   have me := enter_mn (L := L) h1
   unfold typedF
   by_cases hb : (enterF s).bad = true
   ·rw [if_pos hb]
    refine ⟨_, rfl, me, .inl hb, fun l => ?_⟩
    rcases enter_lv l with h | h
    ·exact .inl h.1
    ·rw [h.1.b] at hb; cases hb
   ·rw [if_neg hb]
    have ea := enter_a s
    generalize hs2 : (enterF s).unk (kd L (enterF s) != 10 && kd L (enterF s) != 15) = s2
    have m2 : Mn L s s2 := by rw [← hs2]; exact me.trans (mn_unk _ me.le)
    have a2 : s2.a = s.a := by rw [← hs2]; exact ea
    have key : ∃ y : RS, typ1F L (typedF L f) s2 = some y ∧ Mn L s2 y.2 ∧ Pg s2 y.2 ∧ (Lv L tl s2 → (kd L s2 = 10 ∨ kd L s2 = 15) → Rl L tl (if hk (rem L tl s2) = 10 then (adv (rem L tl s2)).bind fun r => (pType f r).bind fun x => if hk x.2 = 11 then (adv x.2).bind fun r => .ok (nd 21 e0 e0 e0 0 x.1, r) else .out else if hk (rem L tl s2) = 15 then (pName (rem L tl s2)).bind fun n => .ok (nd 20 n.1 e0 e0 0 [], n.2) else .out) y s2.d) := by
     unfold typ1F
     rcases taken_cases T 10 (by decide) s2 m2.le with ⟨e, e1, e2, e3⟩ | ⟨e, e1⟩
     ·rw [e]
      obtain ⟨x, x1, x2, x3, x4⟩ := ih s2.nx (mn_nx e3).le (by show L.length - (s2.a + 1) + 1 < f; omega)
      have mu := mn_unk (L := L) (s := x.2) (kd L x.2 != 11) x2.le
      have mm := must_mn (L := L) 11 (by decide) mu.le
      refine ⟨(nd 21 e0 e0 e0 0 x.1, mustF L 11 (x.2.unk (kd L x.2 != 11))), by show (typedF L f s2.nx).bind _ = _; rw [x1]; rfl, ((mn_nx e3).trans x2).trans (mu.trans mm), ((Pg.mn (.inr (Nat.lt_succ_self _)) x2).mn mu).mn mm, fun l _ => ?_⟩
      rw [(hk_rem T l).1, if_pos e2]
      refine rs_bind (adv_rs T l (by rw [e2]; decide)) (y := (nd 21 e0 e0 e0 0 x.1, mustF L 11 (x.2.unk (kd L x.2 != 11)))) (x2.trans (mu.trans mm)) fun l2 d2 => ?_
      rw [← d2]
      refine rg_bind (x4 l2) (y := (nd 21 e0 e0 e0 0 x.1, mustF L 11 (x.2.unk (kd L x.2 != 11)))) (mu.trans mm) fun l3 d3 => ?_
      rw [← d3]
      by_cases hk : kd L x.2 = 11
      ·have hq : (kd L x.2 != 11) = false := by rw [hk]; rfl
       rw [hq, unk_false, (hk_rem T l3).1, if_pos hk]
       have hr := must_rs T 11 (by decide) l3
       unfold must at hr
       rw [(hk_rem T l3).1, if_pos hk] at hr
       exact rs_bind hr (y := (nd 21 e0 e0 e0 0 x.1, mustF L 11 x.2)) (.refl (must_mn 11 (by decide) x2.le).le) fun l4 d4 => rg_ok (x := (nd 21 e0 e0 e0 0 x.1, mustF L 11 x.2)) l4 d4 (ers_nd _ _ _ _ _ _ (.inr rfl)).symm
      ·refine .inl (mm.u ?_)
       rw [show (kd L x.2 != 11) = true from bne_iff_ne.2 hk]
       exact unk_true _
     ·rw [e]
      refine ⟨_, rfl, name_mn m2.le, name_pg, fun l hc => ?_⟩
      have hn : kd L s2 ≠ 10 := e1.resolve_left (by rw [l.b]; exact fun h => by cases h)
      rw [(hk_rem T l).1, if_neg hn, if_pos (hc.resolve_left hn)]
      exact rg_bind (name_rn T l) (y := (nd 20 (nameF L s2).1 e0 e0 0 [], (nameF L s2).2)) (.refl (name_mn m2.le).le) fun l2 d2 => rg_ok (x := (nd 20 (nameF L s2).1 e0 e0 0 [], (nameF L s2).2)) l2 d2 rfl
    obtain ⟨y, y1, y2, y3, y4⟩ := key
    obtain ⟨z2, z3⟩ := bang_ok T y y2.le
    refine ⟨bangF L y, by rw [y1]; rfl, m2.trans (y2.trans z2), (m2.pg y3).mn z2, fun l => ?_⟩
    rw [ptype_eq]
    rcases enter_lv l with h | ⟨h, hd, hr, _⟩
    ·exact absurd h.2 hb
    ·by_cases hc : kd L (enterF s) = 10 ∨ kd L (enterF s) = 15
     ·have hq : (kd L (enterF s) != 10 && kd L (enterF s) != 15) = false := by rcases hc with hc | hc <;> rw [hc] <;> rfl
      rw [hq, unk_false] at hs2
      subst hs2
      rw [← hr]
      exact z3 _ _ l.d0 (by rw [← hd]; exact y4 h hc)
     ·refine .inl (z2.u (y2.u ?_))
      rw [← hs2, show (kd L (enterF s) != 10 && kd L (enterF s) != 15) = true from by simp only [Bool.and_eq_true, bne_iff_ne]; omega]
      exact unk_true _
end
section
variable {L tl : List Tk}
theorem one_rg (T : Tl L tl) {s : St} (l : Lv L tl s) (hk : kd L s ≠ 1) {r : List Row} {x : List Row} (he : x = ers r) : Rl L tl (one x (rem L tl s)) (r, s.nx) s.d := by
 unfold one
 exact rs_bind (adv_rs T l hk) (y := (r, s.nx)) (.refl (mn_nx (kd_lt hk)).le) fun l2 d2 => rg_ok (x := (r, s.nx)) l2 d2 he
theorem here_ok (T : Tl L tl) (c : Bool) {rec : St → Option RS} {f : Nat} (h : Gd L tl rec (pVal f c) f) (s : St) (h1 : s.a ≤ L.length) (h2 : L.length - s.a < f) : ∃ x, hereF L c rec f s = some x ∧ Mn L s x.2 ∧ Pg s x.2 ∧ (Lv L tl s → Rl L tl (pVal (f + 1) c (rem L tl s)) x s.d) := by
 unfold hereF
 have bad : ∀ P : List Tk → O (List Row × List Tk), (Lv L tl s → P (rem L tl s) = .bad) → ∃ x : RS, some (([] : List Row), s.fail) = some x ∧ Mn L s x.2 ∧ Pg s x.2 ∧ (Lv L tl s → Rl L tl (P (rem L tl s)) x s.d) := fun P hP => ⟨_, rfl, mn_fail h1, .inl rfl, fun l => .inr (.inl ⟨.inl rfl, hP l⟩)⟩
 have one_ : ∀ (r x : List Row), kd L s ≠ 1 → (Lv L tl s → pVal (f + 1) c (rem L tl s) = one x (rem L tl s)) → x = ers r → ∃ y : RS, some (r, s.nx) = some y ∧ Mn L s y.2 ∧ Pg s y.2 ∧ (Lv L tl s → Rl L tl (pVal (f + 1) c (rem L tl s)) y s.d) := fun r x hk hp he => ⟨_, rfl, mn_nx (kd_lt hk), .inr (Nat.lt_succ_self _), fun l => by rw [hp l]; exact one_rg T l hk he⟩
 by_cases c0 : L.length ≤ s.a
 ·rw [if_pos c0]
  refine bad _ fun l => ?_
  have hk := (kd_end c0).1
  unfold pVal
  rw [(hk_rem T l).1, hk]; rfl
 rw [if_neg c0]
 have hlt : s.a < L.length := by omega
 by_cases c3 : kd L s = 3
 ·rw [if_pos c3]
  cases c with
  | true =>
    refine bad _ fun l => ?_
    unfold pVal
    rw [(hk_rem T l).1, c3]; rfl
  | false =>
    refine ⟨_, rfl, (mn_nx hlt).trans (name_mn (mn_nx hlt).le), (Pg.mn (.inr (Nat.lt_succ_self _)) (name_mn (mn_nx hlt).le)), fun l => ?_⟩
    have e : pVal (f + 1) false (rem L tl s) = (pVar (rem L tl s)).bind fun n => .ok (nd 11 n.1 e0 e0 0 [], n.2) := by
     unfold pVal
     rw [(hk_rem T l).1, c3]; rfl
    rw [e]
    unfold pVar must
    rw [(hk_rem T l).1, if_pos c3]
    have hb : ∀ (o : O (List Tk)), ((o.bind fun r => pName r).bind fun n => O.ok (nd 11 n.1 e0 e0 0 [], n.2)) = o.bind fun r => (pName r).bind fun n => .ok (nd 11 n.1 e0 e0 0 [], n.2) := fun o => by cases o <;> rfl
    rw [hb]
    refine rs_bind (adv_rs T l (by rw [c3]; decide)) (y := (nd 11 (nameF L s.nx).1 e0 e0 0 [], (nameF L s.nx).2)) (name_mn (mn_nx hlt).le) fun l2 d2 => ?_
    rw [← d2]
    exact rg_bind (name_rn T l2) (y := (nd 11 (nameF L s.nx).1 e0 e0 0 [], (nameF L s.nx).2)) (.refl (name_mn (mn_nx hlt).le).le) fun l3 d3 => rg_ok (x := (nd 11 (nameF L s.nx).1 e0 e0 0 [], (nameF L s.nx).2)) l3 d3 rfl
 rw [if_neg c3]
 by_cases c16 : kd L s = 16
 ·rw [if_pos c16]
  exact one_ _ (nd 12 e0 e0 (vl L s) 0 []) (by rw [c16]; decide) (fun l => by unfold pVal; rw [(hk_rem T l).1, (hk_rem T l).2, c16]; rfl) rfl
 rw [if_neg c16]
 by_cases c17 : kd L s = 17
 ·rw [if_pos c17]
  exact one_ _ (nd 13 e0 e0 (vl L s) 0 []) (by rw [c17]; decide) (fun l => by unfold pVal; rw [(hk_rem T l).1, (hk_rem T l).2, c17]; rfl) rfl
 rw [if_neg c17]
 by_cases c18 : kd L s = 18
 ·rw [if_pos c18]
  exact one_ _ (nd 14 e0 e0 (vl L s) 0 []) (by rw [c18]; decide) (fun l => by unfold pVal; rw [(hk_rem T l).1, (hk_rem T l).2, c18]; rfl) rfl
 rw [if_neg c18]
 by_cases c19 : kd L s = 19
 ·rw [if_pos c19]
  exact one_ _ (nd 14 e0 e0 (vl L s) 0 []) (by rw [c19]; decide) (fun l => by unfold pVal; rw [(hk_rem T l).1, (hk_rem T l).2, c19]; rfl) rfl
 rw [if_neg c19]
 by_cases c15 : kd L s = 15
 ·rw [if_pos c15]
  have e : ∀ l : Lv L tl s, pVal (f + 1) c (rem L tl s) = (if vl L s = bTrue then one (nd 15 e0 e0 e0 1 []) (rem L tl s) else if vl L s = bFalse then one (nd 15 e0 e0 e0 0 []) (rem L tl s) else if vl L s = bNull then .bad else one (nd 16 (vl L s) e0 e0 0 []) (rem L tl s)) := fun l => by
   unfold pVal; rw [(hk_rem T l).1, (hk_rem T l).2, c15]; rfl
  have k1 : kd L s ≠ 1 := by rw [c15]; decide
  by_cases v1 : vl L s = bTrue
  ·rw [if_pos v1]; exact one_ _ (nd 15 e0 e0 e0 1 []) k1 (fun l => by rw [e l, if_pos v1]) rfl
  rw [if_neg v1]
  by_cases v2 : vl L s = bFalse
  ·rw [if_pos v2]; exact one_ _ (nd 15 e0 e0 e0 0 []) k1 (fun l => by rw [e l, if_neg v1, if_pos v2]) rfl
  rw [if_neg v2]
  by_cases v3 : vl L s = bNull
  ·rw [if_pos v3]
   exact ⟨_, rfl, (mn_nx hlt).trans ((mn_unk true (mn_nx hlt).le).trans (mn_fail (mn_nx hlt).le)), .inl rfl, fun l => .inl (unk_true _)⟩
  rw [if_neg v3]
  exact one_ _ (nd 16 (vl L s) e0 e0 0 []) k1 (fun l => by rw [e l, if_neg v1, if_neg v2, if_neg v3]) rfl
 rw [if_neg c15]
 have lp : ∀ (item : St → Option RS) (p : List Tk → O (List Row × List Tk)) (k cl : Int), Gd L tl item p f → cl ≠ 1 → kd L s ≠ 1 → (Lv L tl s → pVal (f + 1) c (rem L tl s) = (adv (rem L tl s)).bind fun r => (many p cl f r).bind fun x => .ok (nd k e0 e0 e0 0 x.1, x.2)) → ∃ y, ((loopF L item cl f s.nx).bind fun x => some (nd k e0 e0 e0 0 x.1, x.2)) = some y ∧ Mn L s y.2 ∧ Pg s y.2 ∧ (Lv L tl s → Rl L tl (pVal (f + 1) c (rem L tl s)) y s.d) := by
  intro item p k cl hi hc hk hp
  obtain ⟨x, x1, x2, x3⟩ := loop_ok T hi cl hc f s.nx (mn_nx hlt).le (by show L.length - (s.a + 1) + 1 < f; omega) (by show L.length - (s.a + 1) + 1 < f; omega)
  refine ⟨(nd k e0 e0 e0 0 x.1, x.2), by rw [x1]; rfl, (mn_nx hlt).trans x2, Pg.mn (.inr (Nat.lt_succ_self _)) x2, fun l => ?_⟩
  rw [hp l]
  refine rs_bind (adv_rs T l hk) (y := (nd k e0 e0 e0 0 x.1, x.2)) x2 fun l2 d2 => ?_
  rw [← d2]
  exact rg_bind (x3 l2) (y := (nd k e0 e0 e0 0 x.1, x.2)) (.refl x2.le) fun l3 d3 => rg_ok (x := (nd k e0 e0 e0 0 x.1, x.2)) l3 d3 (ers_nd _ _ _ _ _ _ (.inr rfl)).symm
 by_cases c10 : kd L s = 10
 ·rw [if_pos c10]
  exact lp _ _ 17 11 h (by decide) (by rw [c10]; decide) (fun l => by
   show (if hk (rem L tl s) = 10 then _ else _) = _
   rw [(hk_rem T l).1, if_pos c10])
 rw [if_neg c10]
 by_cases c12 : kd L s = 12
 ·rw [if_pos c12]
  exact lp _ _ 18 14 (nv_ok T h.m 19) (by decide) (by rw [c12]; decide) (fun l => by
   show (if hk (rem L tl s) = 10 then _ else if hk (rem L tl s) = 12 then _ else _) = _
   rw [(hk_rem T l).1, if_neg c10, if_pos c12])
 rw [if_neg c12]
 refine bad _ fun l => ?_
 show (if hk (rem L tl s) = 10 then _ else if hk (rem L tl s) = 12 then _ else if hk (rem L tl s) = 16 then _ else if hk (rem L tl s) = 17 then _ else if hk (rem L tl s) = 18 ∨ hk (rem L tl s) = 19 then _ else if hk (rem L tl s) = 15 then _ else if hk (rem L tl s) = 3 ∧ c = false then _ else _) = _
 rw [(hk_rem T l).1, if_neg c10, if_neg c12, if_neg c16, if_neg c17, if_neg (by omega), if_neg c15, if_neg (by omega)]
theorem value_ok (T : Tl L tl) (c : Bool) : ∀ f, Gd L tl (valueF L c f) (pVal f c) f := by
 intro f
 induction f with
 | zero => intro s h1 h2; omega
 | succ f ih =>
   intro s h1 h2
   have me := enter_mn (L := L) h1
   unfold valueF
   by_cases hb : (enterF s).bad = true
   ·rw [if_pos hb]
    refine ⟨_, rfl, me, .inl hb, fun l => ?_⟩
    rcases enter_lv l with h | h
    ·exact .inl h.1
    ·rw [h.1.b] at hb; cases hb
   ·rw [if_neg hb]
    obtain ⟨x, x1, x2, x3, x4⟩ := here_ok T c ih (enterF s) me.le (by rw [enter_a]; omega)
    refine ⟨(x.1, leaveF x.2), by rw [x1]; rfl, me.trans (x2.trans (leave_mn x2.le)), (me.pg x3).mn (leave_mn x2.le), fun l => ?_⟩
    rcases enter_lv l with h | ⟨h, hd, hr, _⟩
    ·exact absurd h.2 hb
    ·rw [← hr]
     exact leave_rl (by rw [← hd]; exact x4 h) l.d0
theorem opt_ok (T : Tl L tl) {item : St → Option RS} {p : List Tk → O (List Row × List Tk)} {f : Nat} (hi : Gd L tl item p f) (op cl : Int) (ho : op ≠ 1) (hc : cl ≠ 1) (F : St → Option RS) (hF : F = fun s => match takenF L op s with
 | (false, s1) => some ([], s1)
 | (true, s1) => loop1F L item cl f (someF L cl s1)) : Gm L tl F (fun l => if hk l = op then some1 p op cl f l else .ok ([], l)) f := by
 intro s h1 h2
 rw [hF]
 rcases taken_cases T op ho s h1 with ⟨e, e1, e2, e3⟩ | ⟨e, e1⟩
 ·obtain ⟨x, x1, x2, _, x3⟩ := loop1_ok T hi op cl ho hc f s e3 e2 (by omega) (by omega)
  refine ⟨x, by simp only [e]; exact x1, x2, fun l => ?_⟩
  simp only [(hk_rem T l).1]
  rw [if_pos e2]; exact x3 l
 ·refine ⟨([], s), by simp only [e], .refl h1, fun l => ?_⟩
  simp only [(hk_rem T l).1]
  rw [if_neg (e1.resolve_left (by rw [l.b]; exact fun h => by cases h))]
  exact rg_ok (x := ([], s)) l rfl rfl
theorem def_ok (T : Tl L tl) (f : Nat) (s : St) (h1 : s.a ≤ L.length) (h2 : L.length - s.a + 1 < f) : ∃ x, defF L f s = some x ∧ Mn L s x.2 ∧ (Lv L tl s → Rl L tl (if hk (rem L tl s) = 8 then (adv (rem L tl s)).bind fun r => pVal f true r else .ok ([], rem L tl s)) x s.d) := by
 unfold defF
 rcases taken_cases T 8 (by decide) s h1 with ⟨e, e1, e2, e3⟩ | ⟨e, e1⟩
 ·rw [e]
  obtain ⟨x, x1, x2, x3, x4⟩ := value_ok T true f s.nx (mn_nx e3).le (by show L.length - (s.a + 1) + 1 < f; omega)
  refine ⟨x, x1, (mn_nx e3).trans x2, fun l => ?_⟩
  rw [(hk_rem T l).1, if_pos e2]
  exact rs_bind (adv_rs T l (by rw [e2]; decide)) x2 fun l2 d2 => by rw [← d2]; exact x4 l2
 ·rw [e]
  refine ⟨_, rfl, .refl h1, fun l => ?_⟩
  rw [(hk_rem T l).1, if_neg (e1.resolve_left (by rw [l.b]; exact fun h => by cases h))]
  exact rg_ok (x := ([], s)) l rfl rfl
theorem vdef_eq (f : Nat) (l : List Tk) : pVarDef f l = (must 3 l).bind fun r0 => (pName r0).bind fun n => (must 7 n.2).bind fun r => (pType f r).bind fun t => (if hk t.2 = 8 then (adv t.2).bind fun r => pVal f true r else .ok ([], t.2)).bind fun v => .ok (nd 4 n.1 e0 e0 0 (t.1 ++ v.1), v.2) := by
 unfold pVarDef pVar
 cases must 3 l with
 | out => rfl
 | bad => rfl
 | ok r0 =>
   simp only [O.bind_ok]
   cases pName r0 with
   | out => rfl
   | bad => rfl
   | ok n =>
     simp only [O.bind_ok]
     cases must 7 n.2 with
     | out => rfl
     | bad => rfl
     | ok r =>
       simp only [O.bind_ok]
       cases pType f r with
       | out => rfl
       | bad => rfl
       | ok t =>
         simp only [O.bind_ok]
         by_cases c : hk t.2 = 8
         ·rw [if_pos c, if_pos c]; cases adv t.2 <;> rfl
         ·rw [if_neg c, if_neg c]; simp only [O.bind_ok, List.append_nil]
theorem var_ok (T : Tl L tl) (f : Nat) : Gd L tl (varF L f) (pVarDef f) f := by
 intro s h1 h2
 have m1 := must_mn (L := L) 3 (by decide) h1
 have m2 := name_mn (L := L) m1.le
 have m3 := must_mn (L := L) 7 (by decide) m2.le
 have m13 := m1.trans (m2.trans m3)
 obtain ⟨t, t1, t2, t3, t4⟩ := typed_ok T f (mustF L 7 (nameF L (mustF L 3 s)).2) m3.le (by have := m13.up; omega)
 obtain ⟨v, v1, v2, v3⟩ := def_ok T f t.2 t2.le (by have := m13.up; have := t2.up; omega)
 have mu := mn_unk (L := L) (s := v.2) (kd L v.2 == 9) v2.le
 refine ⟨(nd 4 (nameF L (mustF L 3 s)).1 e0 e0 0 (t.1 ++ v.1), v.2.unk (kd L v.2 == 9)), by unfold varF; rw [t1]; show (defF L f t.2).bind _ = _; rw [v1]; rfl, m13.trans (t2.trans (v2.trans mu)), (must_pg 3).mn (m2.trans (m3.trans (t2.trans (v2.trans mu)))), fun l => ?_⟩
 generalize hy : (nd 4 (nameF L (mustF L 3 s)).1 e0 e0 0 (t.1 ++ v.1), v.2.unk (kd L v.2 == 9)) = y
 have y2 : y.2 = v.2.unk (kd L v.2 == 9) := by rw [← hy]
 have mu' : Mn L v.2 y.2 := by rw [y2]; exact mu
 rw [vdef_eq]
 refine rs_bind (must_rs T 3 (by decide) l) (m2.trans (m3.trans (t2.trans (v2.trans mu')))) fun l1 d1 => ?_
 refine rg_bind (name_rn T l1) (m3.trans (t2.trans (v2.trans mu'))) fun l2 d2 => ?_
 refine rs_bind (must_rs T 7 (by decide) l2) (t2.trans (v2.trans mu')) fun l3 d3 => ?_
 refine rg_bind (t4 l3) (v2.trans mu') fun l4 d4 => ?_
 refine rg_bind (v3 l4) mu' fun l5 d5 => ?_
 by_cases hk : kd L v.2 = 9
 ·refine .inl ?_
  rw [y2, hk]; exact unk_true _
 ·have hq : (kd L v.2 == 9) = false := beq_eq_false_iff_ne.2 hk
  rw [hq, unk_false] at hy
  subst hy
  exact rg_ok (x := (nd 4 (nameF L (mustF L 3 s)).1 e0 e0 0 (t.1 ++ v.1), v.2)) l5 (d5.trans (d4.trans (d3.trans (d2.trans d1)))) (by rw [ers_nd _ _ _ _ _ _ (.inr rfl), ers_app]; rfl)
theorem vars_ok (T : Tl L tl) (f : Nat) : Gm L tl (varsF L f) (pVars f) f := opt_ok T (var_ok T f) 4 5 (by decide) (by decide) _ rfl
end
end Go.Proofs.YthgcghpcikbnkaaGreatDoor.R

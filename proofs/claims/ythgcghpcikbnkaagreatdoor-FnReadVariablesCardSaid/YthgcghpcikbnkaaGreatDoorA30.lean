/- A part of the proof of the theorem of this claim: Vdf, Vds, Arg. No condition of its own. -/
import Derived.Test.YthgcghpcikbnkaaGreatDoorA29
set_option maxHeartbeats 16000000
set_option maxRecDepth 100000
namespace Go.Proofs.YthgcghpcikbnkaaGreatDoor.R
open Go.RowKit Go.Proofs.YthgcghpcikbnkaaGreatDoorW.PrintWords Go.Proofs.YthgcghpcikbnkaaGreatDoorW.PrintLast Go.Proofs.YthgcghpcikbnkaaGreatDoorW.PrintMore
set_option linter.unusedVariables false
set_option linter.unusedSimpArgs false
def SkpP (C : Cx) (w : World) (res : O (List Tk)) (e : Ending) (w' : World) : Prop :=
 FrC C w w' ∧ match res with
 | .out => True
 | .bad => PB C w' ∧ ∃ (te : TypeId) (x : Value), e = .returned (.tuple #[.bool true, .iface te x])
 | .ok l => ∃ (u : Tk) (r' : List Tk), l = u :: r' ∧ PS C w' u r' ∧ e = .returned (.tuple #[.bool true, .nilIface])
theorem skip_adv {C : Cx} {w : World} {t : Tk} {r : List Tk} (h : PS C w t r) (k : Int) (hk : R.hk (t :: r) = k) (h1 : k ≠ 1) : Calls Tryz.prog 80 #[ptr C.gp, .int .i64 k] w (SkpP C w (adv (t :: r))) := by
 have hk' : t.k = k := hk
 have ht : t.k ≠ 1 := by rw [hk']; exact h1
 refine (skip_yes h k (kb hk') ht).mono ?_
 rintro e w' ⟨hF, hq⟩
 cases r with
 | nil => rw [adv_nil ht]; exact ⟨hF, hq⟩
 | cons u r => rw [adv_cons ht]; exact ⟨hF, u, r, rfl, hq.1, hq.2⟩
theorem skip_no' {C : Cx} {w : World} {t : Tk} {r : List Tk} (h : PS C w t r) (k : Int) (hk : ¬ R.hk (t :: r) = k) : Calls Tryz.prog 80 #[ptr C.gp, .int .i64 k] w fun e w' => e = .returned (.tuple #[.bool false, .nilIface]) ∧ w = w' := skip_no h k (kn hk)
theorem VarA.ptr {ok : Ok} {w : World} {p : Value} {v : ByteArray} (h : VarA ok w p v) : ∃ g, p = R.ptr g := by obtain ⟨g, _, _, _, h, _⟩ := h; exact ⟨g, h⟩
theorem pvar_eq (l : List Tk) : ((must 3 l).bind fun r => (pName r).bind fun n => O.ok (n.1, n.2)) = pVar l := by
 unfold pVar
 cases must 3 l with
 | out => rfl
 | bad => rfl
 | ok l => show (pName l).bind _ = pName l; cases pName l <;> rfl
theorem parseVariable_walk' {C : Cx} {w : World} {t : Tk} {r : List Tk} (h : PS C w t r) : Calls Tryz.prog 82 #[ptr C.gp] w (Got C w (pVar (t :: r)) (fun ok w' v p => VarA ok w' p v)) := by
 have := parseVariable_walk h (by rw [pvar_eq]; exact pVar_ne _)
 rw [pvar_eq] at this
 exact this
def VdfA (ok : Ok) (w : World) (rows : List Row) (p : Value) : Prop := ∃ (g : Nat) (k v : ByteArray) (l x y d : Value) (a b : List Row), p = ptr g ∧ At ok w g #[.string k, l, x, y, d] 79 ∧ LocA ok w l ∧ VarA ok w x v ∧ TypE ok w a y ∧ ((d = .nilIface ∧ b = []) ∨ ValE ok w b d) ∧ rows = nd 4 v e0 e0 0 (a ++ b)
theorem VdfA.fr {ok ok' : Ok} {w w' : World} {r : List Row} {p : Value} (h : VdfA ok w r p) (hf : Keeps ok ok' w w') : VdfA ok' w' r p := by
 obtain ⟨g, k, v, l, x, y, d, a, b, h1, h2, h3, h4, h5, h6, h7⟩ := h
 exact ⟨g, k, v, l, x, y, d, a, b, h1, h2.fr hf, h3.fr hf, h4.fr hf, h5.fr hf, h6.imp id (fun h => h.fr hf), h7⟩
def VdfI (ok : Ok) (w : World) (rows : List Row) (p : Value) : Prop := ∃ q, p = .iface 71 q ∧ VdfA ok w rows q
theorem varDef_walk {C : Cx} {w : World} {t : Tk} {r : List Tk} {f : Nat} (hV : ValSpec C f true) (h : PS C w t r) (hne : (pVarDef f (t :: r)) ≠ .out) : Calls Tryz.prog 50 #[ptr C.gp] w (Got C w (pVarDef f (t :: r)) (VdfI)) := by
 have HP := mkA h
 have OK := mkA h.ok
 have LOW := mkA h.lo
 have c6 := h.cells.2.2.1
 have HB := mkA (Fr.refl C.gp C.gc w)
 have M5 := mkA True.intro
 clear h
 unfold pVarDef at hne ⊢
 cases e_ : pVar (t :: r) with
 | out => rw [e_] at hne; exact absurd rfl hne
 | bad =>
   simp only [O.bind_bad]; have E0 := mkA e_; clear e_ hne
   go_enter Tryz.func50, Tryz.ntmps50
   go_wp2_with (first
    | (go_at_call 82; have c_ := parseVariable_walk' HP.out; rw [E0.out] at c_; (with_reducible refine c_.mono ?_); rintro e w0 ⟨hF, hP, v_, te, x, rfl⟩; have HS_ := mkA HB.out.size; have n_ := mkA (HB.out.trans hF); clear HB; have HB := n_; clear n_; have HP0 := mkA hP; clear hP hF HS_ E0))
   go_ret2
   exact ⟨HB.out, HP0.out, _, te, x, rfl⟩
 | ok a_ =>
   obtain ⟨v0, l0⟩ := a_
   rw [e_] at hne; simp only [O.bind_ok] at hne ⊢; have E0 := mkA e_; clear e_
   cases e_ : must 7 l0 with
   | out => rw [e_] at hne; exact absurd rfl hne
   | bad =>
     simp only [O.bind_bad]; have E1 := mkA e_; clear e_ hne
     go_enter Tryz.func50, Tryz.ntmps50
     go_wp2_with (first
      | (go_at_call 82; have c_ := parseVariable_walk' HP.out; rw [E0.out] at c_; (with_reducible refine c_.mono ?_); rintro e w0 ⟨hF, p0, u0, r0, hl_, hP, hN, rfl⟩; subst hl_; obtain ⟨gv0, rfl⟩ := VarA.ptr hN; have HS_ := mkA HB.out.size; have n_ := mkA (HB.out.trans hF); clear HB; have HB := n_; clear n_; have N0 := mkA (hN.fr (keeps_weak HS_.out)); clear hN; have HP0 := mkA hP; clear hP hF HS_ E0)
      | (go_at_call 79; have c_ := expect_walk HP0.out 7 (by decide); rw [E1.out] at c_; (with_reducible refine c_.mono ?_); rintro e w1 ⟨hF, hP, te, x, rfl⟩; have HS_ := mkA HB.out.size; have n_ := mkA (HB.out.trans hF); clear HB; have HB := n_; clear n_; have n_ := mkA (N0.out.fr (PS.keeps OK.out hF LOW.out (Nat.le_refl _))); clear N0; have N0 := n_; clear n_; have HP1 := mkA hP; clear hP hF HS_ E1))
     go_ret2
     exact ⟨HB.out, HP1.out, _, te, x, rfl⟩
   | ok l1 =>
     rw [e_] at hne; simp only [O.bind_ok] at hne ⊢; have E1 := mkA e_; clear e_
     cases e_ : pType f l1 with
     | out => rw [e_] at hne; exact absurd rfl hne
     | bad =>
       simp only [O.bind_bad]; have E2 := mkA e_; clear e_ hne
       go_enter Tryz.func50, Tryz.ntmps50
       go_wp2_with (first
        | (go_at_call 82; have c_ := parseVariable_walk' HP.out; rw [E0.out] at c_; (with_reducible refine c_.mono ?_); rintro e w0 ⟨hF, p0, u0, r0, hl_, hP, hN, rfl⟩; subst hl_; obtain ⟨gv0, rfl⟩ := VarA.ptr hN; have HS_ := mkA HB.out.size; have n_ := mkA (HB.out.trans hF); clear HB; have HB := n_; clear n_; have N0 := mkA (hN.fr (keeps_weak HS_.out)); clear hN; have HP0 := mkA hP; clear hP hF HS_ E0)
        | (go_at_call 79; have c_ := expect_walk HP0.out 7 (by decide); rw [E1.out] at c_; (with_reducible refine c_.mono ?_); rintro e w1 ⟨hF, u1, r1, hl_, hP, rfl⟩; subst hl_; have HS_ := mkA HB.out.size; have n_ := mkA (HB.out.trans hF); clear HB; have HB := n_; clear n_; have n_ := mkA (N0.out.fr (PS.keeps OK.out hF LOW.out (Nat.le_refl _))); clear N0; have N0 := n_; clear n_; have HP1 := mkA hP; clear hP hF HS_ E1)
        | (go_at_call 83; have c_ := typ_spec f _ _ _ HP1.out (by rw [E2.out]; exact fun e => by cases e); rw [E2.out] at c_; (with_reducible refine c_.mono ?_); rintro e w2 ⟨hF, hP, v_, te, x, rfl⟩; have HS_ := mkA HB.out.size; have n_ := mkA (HB.out.trans hF); clear HB; have HB := n_; clear n_; have n_ := mkA (N0.out.fr (PS.keeps OK.out hF LOW.out (Nat.le_refl _))); clear N0; have N0 := n_; clear n_; have HP2 := mkA hP; clear hP hF HS_ E2))
       go_ret2
       exact ⟨HB.out, HP2.out, _, te, x, rfl⟩
     | ok a_ =>
       obtain ⟨v2, l2⟩ := a_
       rw [e_] at hne; simp only [O.bind_ok] at hne ⊢; have E2 := mkA e_; clear e_
       by_cases hc : R.hk l2 = 8
       ·rw [if_pos hc] at hne ⊢; have HC5 := mkA hc; clear hc
        cases e_ : adv l2 with
        | out => rw [e_] at hne; exact absurd rfl hne
        | bad =>
          simp only [O.bind_bad]; have E3 := mkA e_; clear e_ hne
          go_enter Tryz.func50, Tryz.ntmps50
          go_wp2_with (first
           | (go_at_call 82; have c_ := parseVariable_walk' HP.out; rw [E0.out] at c_; (with_reducible refine c_.mono ?_); rintro e w0 ⟨hF, p0, u0, r0, hl_, hP, hN, rfl⟩; subst hl_; obtain ⟨gv0, rfl⟩ := VarA.ptr hN; have HS_ := mkA HB.out.size; have n_ := mkA (HB.out.trans hF); clear HB; have HB := n_; clear n_; have N0 := mkA (hN.fr (keeps_weak HS_.out)); clear hN; have HP0 := mkA hP; clear hP hF HS_ E0)
           | (go_at_call 79; have c_ := expect_walk HP0.out 7 (by decide); rw [E1.out] at c_; (with_reducible refine c_.mono ?_); rintro e w1 ⟨hF, u1, r1, hl_, hP, rfl⟩; subst hl_; have HS_ := mkA HB.out.size; have n_ := mkA (HB.out.trans hF); clear HB; have HB := n_; clear n_; have n_ := mkA (N0.out.fr (PS.keeps OK.out hF LOW.out (Nat.le_refl _))); clear N0; have N0 := n_; clear n_; have HP1 := mkA hP; clear hP hF HS_ E1)
           | (go_at_call 83; have c_ := typ_spec f _ _ _ HP1.out (by rw [E2.out]; exact fun e => by cases e); rw [E2.out] at c_; (with_reducible refine c_.mono ?_); rintro e w2 ⟨hF, p2, u2, r2, hl_, hP, hN, rfl⟩; subst hl_; obtain ⟨ty2, xy2, rfl⟩ := TypE.shape hN; have HS_ := mkA HB.out.size; have n_ := mkA (HB.out.trans hF); clear HB; have HB := n_; clear n_; have n_ := mkA (N0.out.fr (PS.keeps OK.out hF LOW.out (Nat.le_refl _))); clear N0; have N0 := n_; clear n_; have N2 := mkA (hN.fr (keeps_weak HS_.out)); clear hN; have HP2 := mkA hP; clear hP hF HS_ E2)
           | (go_at_call 80; have c_ := skip_adv HP2.out 8 HC5.out (by decide); rw [E3.out] at c_; (with_reducible refine c_.mono ?_); rintro e w3 ⟨hF, hP, te, x, rfl⟩; have HS_ := mkA HB.out.size; have n_ := mkA (HB.out.trans hF); clear HB; have HB := n_; clear n_; have n_ := mkA (N0.out.fr (PS.keeps OK.out hF LOW.out (Nat.le_refl _))); clear N0; have N0 := n_; clear n_; have n_ := mkA (N2.out.fr (PS.keeps OK.out hF LOW.out (Nat.le_refl _))); clear N2; have N2 := n_; clear n_; have HP3 := mkA hP; clear hP hF HS_ E3))
          go_ret2
          exact ⟨HB.out, HP3.out, _, te, x, rfl⟩
        | ok l3 =>
          rw [e_] at hne; simp only [O.bind_ok] at hne ⊢; have E3 := mkA e_; clear e_
          cases e_ : pVal f true l3 with
          | out => rw [e_] at hne; exact absurd rfl hne
          | bad =>
            simp only [O.bind_bad]; have E4 := mkA e_; clear e_ hne
            go_enter Tryz.func50, Tryz.ntmps50
            go_wp2_with (first
             | (go_at_call 82; have c_ := parseVariable_walk' HP.out; rw [E0.out] at c_; (with_reducible refine c_.mono ?_); rintro e w0 ⟨hF, p0, u0, r0, hl_, hP, hN, rfl⟩; subst hl_; obtain ⟨gv0, rfl⟩ := VarA.ptr hN; have HS_ := mkA HB.out.size; have n_ := mkA (HB.out.trans hF); clear HB; have HB := n_; clear n_; have N0 := mkA (hN.fr (keeps_weak HS_.out)); clear hN; have HP0 := mkA hP; clear hP hF HS_ E0)
             | (go_at_call 79; have c_ := expect_walk HP0.out 7 (by decide); rw [E1.out] at c_; (with_reducible refine c_.mono ?_); rintro e w1 ⟨hF, u1, r1, hl_, hP, rfl⟩; subst hl_; have HS_ := mkA HB.out.size; have n_ := mkA (HB.out.trans hF); clear HB; have HB := n_; clear n_; have n_ := mkA (N0.out.fr (PS.keeps OK.out hF LOW.out (Nat.le_refl _))); clear N0; have N0 := n_; clear n_; have HP1 := mkA hP; clear hP hF HS_ E1)
             | (go_at_call 83; have c_ := typ_spec f _ _ _ HP1.out (by rw [E2.out]; exact fun e => by cases e); rw [E2.out] at c_; (with_reducible refine c_.mono ?_); rintro e w2 ⟨hF, p2, u2, r2, hl_, hP, hN, rfl⟩; subst hl_; obtain ⟨ty2, xy2, rfl⟩ := TypE.shape hN; have HS_ := mkA HB.out.size; have n_ := mkA (HB.out.trans hF); clear HB; have HB := n_; clear n_; have n_ := mkA (N0.out.fr (PS.keeps OK.out hF LOW.out (Nat.le_refl _))); clear N0; have N0 := n_; clear n_; have N2 := mkA (hN.fr (keeps_weak HS_.out)); clear hN; have HP2 := mkA hP; clear hP hF HS_ E2)
             | (go_at_call 80; have c_ := skip_adv HP2.out 8 HC5.out (by decide); rw [E3.out] at c_; (with_reducible refine c_.mono ?_); rintro e w3 ⟨hF, u3, r3, hl_, hP, rfl⟩; subst hl_; have HS_ := mkA HB.out.size; have n_ := mkA (HB.out.trans hF); clear HB; have HB := n_; clear n_; have n_ := mkA (N0.out.fr (PS.keeps OK.out hF LOW.out (Nat.le_refl _))); clear N0; have N0 := n_; clear n_; have n_ := mkA (N2.out.fr (PS.keeps OK.out hF LOW.out (Nat.le_refl _))); clear N2; have N2 := n_; clear n_; have HP3 := mkA hP; clear hP hF HS_ E3)
             | (go_at_call 84; have c_ := hV _ _ _ HP3.out (by rw [E4.out]; exact fun e => by cases e); rw [E4.out] at c_; (with_reducible refine c_.mono ?_); rintro e w4 ⟨hF, hP, v_, te, x, rfl⟩; have HS_ := mkA HB.out.size; have n_ := mkA (HB.out.trans hF); clear HB; have HB := n_; clear n_; have n_ := mkA (N0.out.fr (PS.keeps OK.out hF LOW.out (Nat.le_refl _))); clear N0; have N0 := n_; clear n_; have n_ := mkA (N2.out.fr (PS.keeps OK.out hF LOW.out (Nat.le_refl _))); clear N2; have N2 := n_; clear n_; have HP4 := mkA hP; clear hP hF HS_ E4))
            go_ret2
            exact ⟨HB.out, HP4.out, _, te, x, rfl⟩
          | ok a_ =>
            obtain ⟨v4, l4⟩ := a_
            rw [e_] at hne; simp only [O.bind_ok] at hne ⊢; have E4 := mkA e_; clear e_
            clear hne
            go_enter Tryz.func50, Tryz.ntmps50
            go_wp2_with (first
             | (go_at_call 82; have c_ := parseVariable_walk' HP.out; rw [E0.out] at c_; (with_reducible refine c_.mono ?_); rintro e w0 ⟨hF, p0, u0, r0, hl_, hP, hN, rfl⟩; subst hl_; obtain ⟨gv0, rfl⟩ := VarA.ptr hN; have HS_ := mkA HB.out.size; have n_ := mkA (HB.out.trans hF); clear HB; have HB := n_; clear n_; have N0 := mkA (hN.fr (keeps_weak HS_.out)); clear hN; have HP0 := mkA hP; clear hP hF HS_ E0)
             | (go_at_call 79; have c_ := expect_walk HP0.out 7 (by decide); rw [E1.out] at c_; (with_reducible refine c_.mono ?_); rintro e w1 ⟨hF, u1, r1, hl_, hP, rfl⟩; subst hl_; have HS_ := mkA HB.out.size; have n_ := mkA (HB.out.trans hF); clear HB; have HB := n_; clear n_; have n_ := mkA (N0.out.fr (PS.keeps OK.out hF LOW.out (Nat.le_refl _))); clear N0; have N0 := n_; clear n_; have HP1 := mkA hP; clear hP hF HS_ E1)
             | (go_at_call 83; have c_ := typ_spec f _ _ _ HP1.out (by rw [E2.out]; exact fun e => by cases e); rw [E2.out] at c_; (with_reducible refine c_.mono ?_); rintro e w2 ⟨hF, p2, u2, r2, hl_, hP, hN, rfl⟩; subst hl_; obtain ⟨ty2, xy2, rfl⟩ := TypE.shape hN; have HS_ := mkA HB.out.size; have n_ := mkA (HB.out.trans hF); clear HB; have HB := n_; clear n_; have n_ := mkA (N0.out.fr (PS.keeps OK.out hF LOW.out (Nat.le_refl _))); clear N0; have N0 := n_; clear n_; have N2 := mkA (hN.fr (keeps_weak HS_.out)); clear hN; have HP2 := mkA hP; clear hP hF HS_ E2)
             | (go_at_call 80; have c_ := skip_adv HP2.out 8 HC5.out (by decide); rw [E3.out] at c_; (with_reducible refine c_.mono ?_); rintro e w3 ⟨hF, u3, r3, hl_, hP, rfl⟩; subst hl_; have HS_ := mkA HB.out.size; have n_ := mkA (HB.out.trans hF); clear HB; have HB := n_; clear n_; have n_ := mkA (N0.out.fr (PS.keeps OK.out hF LOW.out (Nat.le_refl _))); clear N0; have N0 := n_; clear n_; have n_ := mkA (N2.out.fr (PS.keeps OK.out hF LOW.out (Nat.le_refl _))); clear N2; have N2 := n_; clear n_; have HP3 := mkA hP; clear hP hF HS_ E3)
             | (go_at_call 84; have c_ := hV _ _ _ HP3.out (by rw [E4.out]; exact fun e => by cases e); rw [E4.out] at c_; (with_reducible refine c_.mono ?_); rintro e w4 ⟨hF, p4, u4, r4, hl_, hP, hN, rfl⟩; subst hl_; obtain ⟨tv4, xv4, rfl⟩ := ValE.shape hN; have HS_ := mkA HB.out.size; have n_ := mkA (HB.out.trans hF); clear HB; have HB := n_; clear n_; have n_ := mkA (N0.out.fr (PS.keeps OK.out hF LOW.out (Nat.le_refl _))); clear N0; have N0 := n_; clear n_; have n_ := mkA (N2.out.fr (PS.keeps OK.out hF LOW.out (Nat.le_refl _))); clear N2; have N2 := n_; clear n_; have N4 := mkA (hN.fr (keeps_weak HS_.out)); clear hN; have HP4 := mkA hP; clear hP hF HS_ E4)
             | (go_at_call 59; (with_reducible refine (loc_ps HP4.out _).mono ?_); rintro e wl ⟨⟨gl, rfl, hgl⟩, hBl⟩; have HL := mkA hgl; have HBl := mkA hBl; clear hgl hBl)
             | (go_at_call 85; (with_reducible refine (newVarDef1 (B := wl.heap.size) (heap_alloc_new wl _) (Nat.le_refl _) (below_alloc (Below.refl wl.heap.size wl) _).size).mono ?_); rintro e w9 ⟨⟨g9, k9, rfl, q1, h91⟩, q4⟩; have HX := mkA ((below_alloc (Below.refl wl.heap.size wl) _).trans q4); have HW := mkA (below_step HBl.out HX.out); have H90 := mkA (Nat.le_trans (Nat.le_trans HB.out.size HBl.out.size) q1); have H91 := mkA h91; clear q1 q4 h91))
            go_ret2
            have KX := keeps_below (ok := from_ w4.heap.size) (ok' := from_ w.heap.size) HX.out (fun g hg => Nat.le_trans HB.out.size hg); have KW := keeps_below (ok := from_ w.heap.size) HW.out (fun g hg => hg); exact ⟨HB.out.step HW.out, _, _, _, rfl, HP4.out.below HW.out, ⟨_, rfl, g9, k9, _, _, _, _, _, _, _, rfl, ⟨H90.out, H91.out⟩, HL.out.fr KX, N0.out.fr KW, N2.out.fr KW, .inr (N4.out.fr KW), rfl⟩, rfl⟩
       ·rw [if_neg hc] at hne ⊢; have HC5 := mkA hc; clear hc
        clear hne
        go_enter Tryz.func50, Tryz.ntmps50
        go_wp2_with (first
         | (go_at_call 82; have c_ := parseVariable_walk' HP.out; rw [E0.out] at c_; (with_reducible refine c_.mono ?_); rintro e w0 ⟨hF, p0, u0, r0, hl_, hP, hN, rfl⟩; subst hl_; obtain ⟨gv0, rfl⟩ := VarA.ptr hN; have HS_ := mkA HB.out.size; have n_ := mkA (HB.out.trans hF); clear HB; have HB := n_; clear n_; have N0 := mkA (hN.fr (keeps_weak HS_.out)); clear hN; have HP0 := mkA hP; clear hP hF HS_ E0)
         | (go_at_call 79; have c_ := expect_walk HP0.out 7 (by decide); rw [E1.out] at c_; (with_reducible refine c_.mono ?_); rintro e w1 ⟨hF, u1, r1, hl_, hP, rfl⟩; subst hl_; have HS_ := mkA HB.out.size; have n_ := mkA (HB.out.trans hF); clear HB; have HB := n_; clear n_; have n_ := mkA (N0.out.fr (PS.keeps OK.out hF LOW.out (Nat.le_refl _))); clear N0; have N0 := n_; clear n_; have HP1 := mkA hP; clear hP hF HS_ E1)
         | (go_at_call 83; have c_ := typ_spec f _ _ _ HP1.out (by rw [E2.out]; exact fun e => by cases e); rw [E2.out] at c_; (with_reducible refine c_.mono ?_); rintro e w2 ⟨hF, p2, u2, r2, hl_, hP, hN, rfl⟩; subst hl_; obtain ⟨ty2, xy2, rfl⟩ := TypE.shape hN; have HS_ := mkA HB.out.size; have n_ := mkA (HB.out.trans hF); clear HB; have HB := n_; clear n_; have n_ := mkA (N0.out.fr (PS.keeps OK.out hF LOW.out (Nat.le_refl _))); clear N0; have N0 := n_; clear n_; have N2 := mkA (hN.fr (keeps_weak HS_.out)); clear hN; have HP2 := mkA hP; clear hP hF HS_ E2)
         | (go_at_call 80; clear M5; (with_reducible refine (skip_no' HP2.out 8 HC5.out).mono ?_); rintro e w_ ⟨rfl, rfl⟩)
         | (go_at_call 59; (with_reducible refine (loc_ps HP2.out _).mono ?_); rintro e wl ⟨⟨gl, rfl, hgl⟩, hBl⟩; have HL := mkA hgl; have HBl := mkA hBl; clear hgl hBl)
         | (go_at_call 85; (with_reducible refine (newVarDef0 (B := wl.heap.size) (heap_alloc_new wl _) (Nat.le_refl _) (below_alloc (Below.refl wl.heap.size wl) _).size).mono ?_); rintro e w9 ⟨⟨g9, k9, rfl, q1, h91⟩, q4⟩; have HX := mkA ((below_alloc (Below.refl wl.heap.size wl) _).trans q4); have HW := mkA (below_step HBl.out HX.out); have H90 := mkA (Nat.le_trans (Nat.le_trans HB.out.size HBl.out.size) q1); have H91 := mkA h91; clear q1 q4 h91))
        go_ret2
        have KX := keeps_below (ok := from_ w2.heap.size) (ok' := from_ w.heap.size) HX.out (fun g hg => Nat.le_trans HB.out.size hg); have KW := keeps_below (ok := from_ w.heap.size) HW.out (fun g hg => hg); exact ⟨HB.out.step HW.out, _, _, _, rfl, HP2.out.below HW.out, ⟨_, rfl, g9, k9, _, _, _, _, _, _, [], rfl, ⟨H90.out, H91.out⟩, HL.out.fr KX, N0.out.fr KW, N2.out.fr KW, .inl ⟨rfl, rfl⟩, by rw [List.append_nil]⟩, rfl⟩
theorem varDef_item {C : Cx} {f : Nat} (hf : f ≤ 1000000) : Item C 50 (pVarDef f) VdfI :=
 ⟨fun w t r h hne => varDef_walk (val_spec f hf) h hne, fun ok w r v h => by obtain ⟨q, h, _⟩ := h; exact ⟨_, _, h⟩, fun ok ok' w w' r v hk h => by obtain ⟨q, h, h2⟩ := h; exact ⟨q, h, h2.fr hk⟩⟩
theorem some1_rev (it : List Tk → O (List Row × List Tk)) (op cl : Int) (f : Nat) (l : List Tk) : some1 it op cl f l = rev true it op cl f l := by
 unfold some1 rev; congr; funext r; simp
theorem info71' : (Tryz.prog.info? 71).map (fun i => (i.zero, i.size, i.bytes)) = some (some (.pointer none), 1, 8) := by kernel_rfl
theorem VdfI.fr {ok ok' : Ok} {w w' : World} {r : List Row} {p : Value} (h : VdfI ok w r p) (hf : Keeps ok ok' w w') : VdfI ok' w' r p := by
 obtain ⟨q, h, h2⟩ := h; exact ⟨q, h, h2.fr hf⟩
theorem VdfA.ptr {ok : Ok} {w : World} {r : List Row} {p : Value} (h : VdfA ok w r p) : ∃ g, p = R.ptr g := by obtain ⟨g, _, _, _, _, _, _, _, _, h, _⟩ := h; exact ⟨g, h⟩
theorem varDefs_walk {C : Cx} {f : Nat} (hf : f ≤ 1000000) {w : World} {t : Tk} {r : List Tk} (h : PS C w t r) (hne : pVars f (t :: r) ≠ .out) : Calls Tryz.prog 24 #[ptr C.gp] w (Got C w (pVars f (t :: r)) (fun ok w' rows sl => SlA ok w' 71 (fun v r => VdfA ok w' r v) sl rows)) := by
 have HP0 := mkA h
 have OK := mkA h.ok
 have LOW := mkA h.lo
 have c6 := h.cells.2.2.1
 by_cases hk4 : t.k = 4
 ·rw [show pVars f (t :: r) = rev true (pVarDef f) 4 5 f (t :: r) from by unfold pVars; rw [if_pos (by exact hk4)]; exact some1_rev _ _ _ _ _] at hne ⊢
  have hpk := kb hk4
  clear hk4
  have CR := mkA (show ∀ o : Obj, Calls Tryz.prog 49 #[ptr C.gp, .int .i64 4, .func (.func 50) #[] #[], .int .i64 5, .bool true] (w.alloc o) (Got C (w.alloc o) (rev true (pVarDef f) 4 5 f (t :: r)) (fun ok w' rows sl => SlA ok w' 20 (fun v r => VdfI ok w' r v) sl rows)) from fun o => rev_walk (by simp) (varDef_item hf) (h.alloc o) true 4 5 (by decide) (by decide) f hf hne)
  clear h hf
  cases e_ : rev true (pVarDef f) 4 5 f (t :: r) with
  | out => exact absurd e_ hne
  | bad =>
    rw [e_] at CR
    clear e_ hne
    go_enter Tryz.func24, Tryz.ntmps24
    go_wp2_with (first
     | (go_at_call 48; (with_reducible refine (peek_walk (HP0.out.alloc _) 4).mono ?_); rintro e w_ ⟨rfl, rfl⟩)
     | (go_at_call 49; (with_reducible refine (CR.out _).mono ?_); rintro e w2 ⟨hF, hP, v_, te, x, rfl⟩; have HF := mkA (((Fr.refl C.gp C.gc w).alloc (.cells #[] 71)).trans hF); have HP := mkA hP; clear hF hP))
    go_ret2
    exact ⟨HF.out, HP.out, _, te, x, rfl⟩
  | ok a_ =>
    obtain ⟨rows, l1⟩ := a_
    rw [e_] at CR
    clear e_ hne
    go_enter Tryz.func24, Tryz.ntmps24
    go_wp2_with (first
     | (go_at_call 48; (with_reducible refine (peek_walk (HP0.out.alloc _) 4).mono ?_); rintro e w_ ⟨rfl, rfl⟩)
     | (go_at_call 49; (with_reducible refine (CR.out _).mono ?_); rintro e w2 ⟨hF, sl, u1, r1, hl_, hP, ⟨n, xs, hn, hO, hM⟩, rfl⟩; subst hl_; have HF := mkA (((Fr.refl C.gp C.gc w).alloc (.cells #[] 71)).trans hF); have HP := mkA hP; have HO := mkA hO; have HM := mkA hM; have HN := mkA hn; have HV := mkA (hF.blk (heap_alloc_new w (.cells #[] 71)) (by have := LOW.out; have := OK.out.pl; omega) (by have := LOW.out; have := OK.out.pl; have := OK.out.cp; omega)); obtain ⟨hxn, hsh⟩ := own_shape hO; have HXN := mkA hxn; clear hF hP hO hM hn hxn; have hsh2 : ∃ (A : Option Addr) (cp : Nat), sl = .slice A n cp := (by rcases hsh with ⟨e1, e2⟩ | ⟨g1, cp, e1, _⟩; exact ⟨none, 0, by rw [e1, e2]⟩; exact ⟨_, cp, e1⟩); have HSH := mkA hsh; clear hsh; obtain ⟨A, cp, rfl⟩ := hsh2))
    go_loopw [4, 25] (fun v4 v25 wr => ∃ (j : Nat) (ys : List Value) (ra rb : List Row), v25 = .int .i64 j ∧ Aside0 (j ≤ n) ∧ Aside0 (wr.ownsRow w.heap.size 71 1 v4 ys.length ys) ∧ Aside0 (ys.length = j) ∧ Aside0 (Many (fun v r => VdfA (okl (w.heap.size + 1) v4) wr r v) ys ra) ∧ Aside0 (Many (fun v r => VdfI (okl (w.heap.size + 1) v4) wr r v) (xs.drop j) rb) ∧ Aside0 (ra ++ rb = rows) ∧ Aside0 (Own (okl (w.heap.size + 1) v4) wr 20 (.slice A n cp) n xs) ∧ Aside0 (FrC C w wr) ∧ Aside0 (PS C wr u1 r1)) (fun _ v25 _ => n - (intOf v25).toNat)
    case atStart =>
     have hst : Keeps (from_ (w.alloc (.cells #[] 71)).heap.size) (okl (w.heap.size + 1) (.slice (some ⟨w.heap.size, 0, none⟩) 0 0)) w2 w2 := fun g o h1 h2 => ⟨⟨by have h3 : (w.alloc (.cells #[] 71)).heap.size ≤ g := h1; rw [World.size_alloc] at h3; exact h3, fun e => by have h3 : (w.alloc (.cells #[] 71)).heap.size ≤ g := h1; rw [World.size_alloc] at h3; simp [Value.ownBlock] at e; omega⟩, h2⟩
     exact ⟨0, [], [], rows, rfl, ⟨Nat.zero_le _⟩, ⟨rfl, .inr ⟨w.heap.size, 0, #[], rfl, Nat.le_refl _, HV.out, Nat.le_refl _, Nat.zero_le _, rfl, rfl⟩⟩, ⟨rfl⟩, ⟨.nil⟩, ⟨by rw [List.drop_zero]; exact HM.out.mono (fun v r h => h.fr hst)⟩, ⟨rfl⟩, ⟨HO.out.fr hst⟩, HF, HP⟩
    case round =>
     obtain ⟨j, ys, ra, rb, rfl, HJ, HOv, HYL, HMa, HMb, HRR, HOs, HBr, HPr⟩ := hrel
     by_cases hlt : j < n
     ·have HLT := mkA hlt
      obtain ⟨x, hx⟩ : ∃ x, xs[j]? = some x := ⟨_, List.getElem?_eq_getElem (by rw [HXN.out]; exact hlt)⟩
      have hd : xs.drop j = x :: xs.drop (j + 1) := by
       obtain ⟨h1, h2⟩ := List.getElem?_eq_some_iff.1 hx
       rw [List.drop_eq_getElem_cons h1, h2]
      have hmb := HMb.out
      rw [hd] at hmb
      obtain ⟨a, b, rfl, hq, hmb2⟩ := many_cons hmb
      have HMb2 := mkA hmb2
      clear hd hmb hmb2 HMb
      have hA : ∃ g1 : Nat, A = some ⟨g1, 0, none⟩ := by
       rcases HSH.out with ⟨_, e⟩ | ⟨g1, cp1, e, _⟩
       ·omega
       ·injection e with e1 e2 e3; exact ⟨g1, e1⟩
      obtain ⟨g1, rfl⟩ := hA
      have hrd := own_read HOs.out hx
      have HX := mkA hx
      clear hx
      obtain ⟨q_, rfl, hq2⟩ := hq
      obtain ⟨gy, rfl⟩ := VdfA.ptr hq2
      have hta : ∀ w, (Instr.typeAssert (.iface 71 (ptr gy)) 20 71 false).run Tryz.prog w = .ok (ptr gy) w := fun w => by kernel_rfl
      have HQ := mkA hq2
      have q0 : (j < n) = True := eq_true hlt
      have hnn : n ≤ 1000000 := HN.out
      have HNW := mkA (show wrap64 ((j : Int) + 1) = ((j + 1 : Nat) : Int) from (w64 (by omega) (by omega)).trans (by omega))
      clear hlt hnn hq2
      go_wp2_with (first
       | (at_builtin; refine print_append (w0 := wr) w.heap.size rfl (.tmp 29) (.tmp 32) 30 71 (.pointer none) 8 rfl Tryz.underlying30 info71' rfl (by decide) u4 ys (ptr gy) rfl rfl rfl HOv.out (Below.refl _ _) HBr.out.size (by have := HYL.out; have := HLT.out; have := HN.out; omega) ?_; intro v6 w6 ho hb hg hat; have HO6 := mkA ho; have HG6 := mkA hg; have HA6 := mkA hat; clear ho hb hg hat))
      go_roundw
      case rel =>
       have hK := okl_keeps (n := w.heap.size + 1) HG6.out HA6.out
       exact ⟨j + 1, ys ++ [(ptr gy)], ra ++ a, b, congrArg (Value.int .i64) HNW.out, ⟨HLT.out⟩, HO6, ⟨by rw [List.length_append, HYL.out]; rfl⟩, ⟨Many.snoc (HMa.out.mono (fun v r h => h.fr hK)) (by have h := HQ.out; exact h.fr hK)⟩, ⟨HMb2.out.mono (fun v r h => h.fr hK)⟩, ⟨by rw [← HRR.out, List.append_assoc]⟩, ⟨HOs.out.fr hK⟩, ⟨fr_grown HBr.out HG6.out (fun b hb => (own_lt HOv.out hb).2)⟩, ⟨ps_grown HPr.out HG6.out (fun b hb => Nat.le_trans LOW.out (own_lt HOv.out hb).2)⟩⟩
      case measure => exact msr_up2 n j HLT.out HN.out
     ·have q0 : (j < n) = False := eq_false hlt
      have hjn : j = n := by have := HJ.out; omega
      have hra : ra = rows := by
       have h1 := HMb.out
       rw [hjn, ← HXN.out, List.drop_length] at h1
       cases h1
       rw [← HRR.out, List.append_nil]
      have HRA := mkA hra
      have HSL := mkA (show SlA (from_ w.heap.size) wr 71 (fun v r => VdfA (from_ w.heap.size) wr r v) u4 ra from ⟨ys.length, ys, by have := HYL.out; have := HN.out; have := HJ.out; omega, own_of HOv.out, HMa.out.mono (fun v r h => (have hK : Keeps (okl (w.heap.size + 1) u4) (from_ w.heap.size) wr wr := (fun g o h1 h2 => ⟨Nat.le_trans (Nat.le_succ _) h1.1, h2⟩); h.fr hK))⟩)
      obtain ⟨A8, cp8, h8⟩ : ∃ (A8 : Option Addr) (cp8 : Nat), u4 = .slice A8 ys.length cp8 := by
       rcases (own_shape (own_of HOv.out)).2 with ⟨e1, e2⟩ | ⟨g8, cp8, e1, _⟩
       ·exact ⟨none, 0, by rw [e1, e2]⟩
       ·exact ⟨_, cp8, e1⟩
      subst h8
      clear hlt hjn hra
      go_wp2
      go_ret2
      exact ⟨HBr.out, _, u1, r1, rfl, HPr.out, by rw [← HRA.out]; exact HSL.out, rfl⟩
 ·rw [show pVars f (t :: r) = .ok ([], t :: r) from by unfold pVars; rw [if_neg (by exact hk4)]]
  have hpk := kn hk4
  clear hk4 hne
  go_enter Tryz.func24, Tryz.ntmps24
  go_wp2_with (first
   | (go_at_call 48; (with_reducible refine (peek_walk (HP0.out.alloc _) 4).mono ?_); rintro e w_ ⟨rfl, rfl⟩))
  go_ret2
  exact ⟨(Fr.refl C.gp C.gc w).alloc _, _, t, r, rfl, HP0.out.alloc _, ⟨0, [], by decide, ⟨⟨rfl, .inr ⟨w.heap.size, 0, #[], rfl, Nat.zero_le _, heap_alloc_new w _, Nat.le_refl _, Nat.zero_le _, rfl, rfl⟩⟩, fun b hb => by simp [Value.ownBlock] at hb; exact Nat.le_of_eq hb⟩, .nil⟩, rfl⟩
theorem SlA.shape {ok : Ok} {w : World} {e : TypeId} {X : Value → List Row → Prop} {sl : Value} {r : List Row} (h : SlA ok w e X sl r) : ∃ (A : Option Addr) (n c : Nat), sl = .slice A n c := by
 obtain ⟨n, xs, _, h, _⟩ := h
 rcases (own_shape h).2 with ⟨e1, e2⟩ | ⟨g1, cp, e1, _⟩
 ·exact ⟨none, 0, 0, e1⟩
 ·exact ⟨_, _, _, e1⟩
end Go.Proofs.YthgcghpcikbnkaaGreatDoor.R

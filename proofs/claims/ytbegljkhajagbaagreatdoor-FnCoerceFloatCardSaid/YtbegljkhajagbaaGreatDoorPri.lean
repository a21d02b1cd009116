/- FnCoerceFloat: the reference's partsOfRight, walked: it answers a Boolean. Condition: the value lies in the world; dataRight, one step less deep, answers. -/
import Derived.Test.YtbegljkhajagbaaGreatDoorDri
import Derived.Test.YtbegljkhajagbaaGreatDoorRow
namespace Go.Proofs.YtbegljkhajagbaaGreatDoor.PFnCoerceFloat
open Go.RowKit Go.Proofs.YtbegljkhajagbaaGreatDoorW.PrintWords Go.Proofs.YtbegljkhajagbaaGreatDoorW.PrintLast Go.Proofs.YtbegljkhajagbaaGreatDoorW.PrintMore
set_option linter.unusedVariables false
set_option linter.unusedSimpArgs false
attribute [local go_sem] run_store_float
theorem info9 : (Tryz.prog.info? 9).map (fun i => (i.zero, i.size, i.bytes)) = some (some (.string ⟨#[]⟩), 1, 16) := by kernel_rfl
/-- What is left of n places behind a place. -/
def lftn (n : Nat) : Value → Nat
  | .int _ a => n - a.toNat
  | _ => 0
theorem lftn_int (n : Nat) (k : IntKind) (a : Int) : lftn n (.int k a) = n - a.toNat := rfl
/-- A part that is looked at: a row of at least one node. -/
def PartAt (w : World) (v : Value) : Prop := ∃ (ad : Addr) (m c : Nat) (l : List V), v = .slice (some ad) m c ∧ 0 < m ∧ m ≤ c ∧ m ≤ 300 ∧ Kd.C kV w (some ad) m l
set_option maxHeartbeats 16000000 in
set_option maxRecDepth 100000 in
theorem pr_walk {w : World} {ad : Addr} {n cap : Nat} {l : List V} (hC : Kd.C kV w (some ad) n l) (hn : 0 < n) (hcap : n ≤ cap) (hn3 : n ≤ 300) (dp : Int) (hdp : 0 ≤ dp) (hd2 : dp ≤ 20) (er : Bool)
    (h11 : ∀ (w' : World) (ad' : Addr) (m c : Nat) (l' : List V), 0 < m → m ≤ c → m ≤ 300 → Kd.C kV w' (some ad') m l' → Calls Tryz.prog 11 #[.slice (some ad') m c, .bool er, .int .i64 (wrap64 (dp - 1))] w' fun e w'' => DRP e True ∧ Below w'.heap.size w' w'') :
    Calls Tryz.prog 21 #[.slice (some ad) n cap, .bool er, .int .i64 dp] w fun e w' => DRP e True ∧ Below w.heap.size w w' := by
  have H11 := Aside0.mk h11
  have HC := Aside0.mk hC
  have HN := Aside0.mk hn
  have HCP := Aside0.mk hcap
  have HN3 := Aside0.mk hn3
  clear h11 hC hdp hd2 hn3
  go_enter Tryz.func21, Tryz.ntmps21
  go_wp2
  go_loopw [7, 8] (fun v7 v8 wr => ∃ (k : Nat) (nm : List ByteArray), v8 = .int .i64 k ∧ Aside0 (1 ≤ k ∧ k ≤ n ∧ nm.length ≤ k) ∧ Aside0 (Kd.S Kd.string 9 wr w.heap.size (fun _ => True) v7 nm) ∧ Aside0 (Below w.heap.size w wr)) (fun _ v8 _ => lftn n v8)
  case atStart => exact ⟨1, [], rfl, ⟨by omega, HN.out, by simp⟩, ⟨Kd.S_nil _ _ _ _ _⟩, ⟨Below.refl _ _⟩⟩
  case round =>
    obtain ⟨k, nm, rfl, HK, HO, HB⟩ := hrel
    by_cases hlt : k < n
    · obtain ⟨ks0, ks1, ks2, ks3⟩ := cellsI (Kd.C_below HC.out HB.out) k hlt
      generalize (l.getD k zV).f0 = kd at ks0
      generalize (l.getD k zV).f1 = nu at ks1
      generalize (l.getD k zV).f2 = tx at ks2
      obtain ⟨sz, hsz⟩ : ∃ s, (l.getD k zV).f3 = s := ⟨_, rfl⟩
      rw [hsz] at ks3
      have HSZ := Aside0.mk hsz
      clear hsz
      have HLT := Aside0.mk hlt
      go_upto_region 6 with (first | ((with_reducible refine gate_dst (N := 9) rfl ?_); refine box_event ?hg (N := 9) ?hd (cs := #[.int .i64 0, .float .f64 0, .string ⟨#[]⟩, .int .i64 0]) (t := 33) ?hr ?_; (case hd => rfl); (case hg => rfl); (case hr => first | (go_simp; done) | (go_simp; rfl)); intro gb hg w2 hbox hb; have n0_ := Aside0.mk (below_step HB.out hb); have GE := Aside0.mk ((by rw [hg]; exact below_size HB.out : w.heap.size ≤ gb)); have n1_ := Aside0.mk (Kd.S_below (Kd.S_elderB HO.out gb (by omega)) hb); clear HB HO; have HB := n0_; have HO := n1_; have BK := Aside0.mk hbox; have hz0 : w2.cell? ⟨gb, 0, none⟩ = some (.int .i64 0) := (blk_cell BK.out 0).trans rfl; have hz1 : w2.cell? ⟨gb, 1, none⟩ = some (.float .f64 0) := (blk_cell BK.out 1).trans rfl; have hz2 : w2.cell? ⟨gb, 2, none⟩ = some (.string ⟨#[]⟩) := (blk_cell BK.out 2).trans rfl; have hz3 : w2.cell? ⟨gb, 3, none⟩ = some (.int .i64 0) := (blk_cell BK.out 3).trans rfl; have hf0 := blk_frozen BK.out 0; have hf1 := blk_frozen BK.out 1; have hf2 := blk_frozen BK.out 2; have hf3 := blk_frozen BK.out 3; clear n0_ n1_ hb hbox hg))
      obtain ⟨wx, hwx⟩ : ∃ wx, wx = (((w2.setCell ⟨gb, 0, none⟩ (.int .i64 kd)).setCell ⟨gb, 1, none⟩ (.float .f64 nu)).setCell ⟨gb, 2, none⟩ (.string tx)).setCell ⟨gb, 3, none⟩ (.int .i64 sz) := ⟨_, rfl⟩
      have HBx := Aside0.mk (show Below w.heap.size w wx by rw [hwx]; exact below_set (below_set (below_set (below_set HB.out GE.out) GE.out) GE.out) GE.out)
      have HOx := Aside0.mk (show Kd.S Kd.string 9 wx w.heap.size (fun _ => True) u7 nm by rw [hwx]; exact Kd.S_mono (Kd.S_far (Kd.S_far (Kd.S_far (Kd.S_far HO.out (fun k hk => hk.2) _) (fun k hk => hk.2) _) (fun k hk => hk.2) _) (fun k hk => hk.2) _) (fun _ _ => trivial))
      have BKx := Aside0.mk (show wx.heap[gb]? = some (.cells #[.int .i64 kd, .float .f64 nu, .string tx, .int .i64 sz] 33 (0, 0)) by rw [hwx]; refine blk_put (cs := #[.int .i64 kd, .float .f64 nu, .string tx, .int .i64 0]) ?_ 3 _ rfl; refine blk_put (cs := #[.int .i64 kd, .float .f64 nu, .string ⟨#[]⟩, .int .i64 0]) ?_ 2 _ rfl; refine blk_put (cs := #[.int .i64 kd, .float .f64 0, .string ⟨#[]⟩, .int .i64 0]) ?_ 1 _ rfl; refine blk_put (cs := #[.int .i64 0, .float .f64 0, .string ⟨#[]⟩, .int .i64 0]) ?_ 0 _ rfl; exact BK.out)
      rw [← hwx]
      clear hwx HB BK HO hz0 hz1 hz2 hz3 hf0 hf1 hf2 hf3 ks0 ks1 ks2 ks3
      have HB := HBx
      have BK := BKx
      have HO := HOx
      clear HBx BKx HOx
      have hx0 : wx.cell? ⟨gb, 0, none⟩ = some (.int .i64 kd) := (blk_cell BK.out 0).trans rfl
      have hx1 : wx.cell? ⟨gb, 1, none⟩ = some (.float .f64 nu) := (blk_cell BK.out 1).trans rfl
      have hx2 : wx.cell? ⟨gb, 2, none⟩ = some (.string tx) := (blk_cell BK.out 2).trans rfl
      have hx3 : wx.cell? ⟨gb, 3, none⟩ = some (.int .i64 sz) := (blk_cell BK.out 3).trans rfl
      by_cases hs1 : sz < 1
      · have e1 : decide (sz < 1) = true := decide_eq_true hs1
        clear hs1
        go_wp2
        all_goals go_ret
        all_goals exact ⟨⟨_, rfl, fun _ => trivial⟩, HB.out⟩
      have e1 : decide (sz < 1) = false := decide_eq_false hs1
      have eW : wrap64 ((n : Int) - (k : Int)) = ((n - k : Nat) : Int) := by have := HN3.out; rw [w64 (by omega) (by omega)]; omega
      by_cases hs2 : sz > ((n - k : Nat) : Int)
      · have e2 : decide (((n - k : Nat) : Int) < sz) = true := decide_eq_true hs2
        have e3 : decide (sz > wrap64 ((n : Int) - (k : Int))) = true := by rw [eW]; exact e2
        have e4 : decide (wrap64 ((n : Int) - (k : Int)) < sz) = true := e3
        clear hs1 hs2 eW
        go_wp2
        all_goals go_ret
        all_goals exact ⟨⟨_, rfl, fun _ => trivial⟩, HB.out⟩
      obtain ⟨m, rfl⟩ : ∃ m : Nat, sz = m := ⟨sz.toNat, by omega⟩
      have hm1 : 1 ≤ m := by omega
      have hm2 : k + m ≤ n := by omega
      have HM := Aside0.mk (And.intro hm1 hm2)
      have e4 : decide (wrap64 ((n : Int) - (k : Int)) < (m : Int)) = false := by rw [eW]; exact decide_eq_false (by omega)
      have eS : wrap64 ((k : Int) + (m : Int)) = ((k + m : Nat) : Int) := by have := HN3.out; rw [w64 (by omega) (by omega)]; omega
      have hkm : k ≤ k + m := by omega
      have hkc : k + m ≤ cap := by have := HCP.out; omega
      obtain ⟨kd0, hk0⟩ : ∃ kd0, (l.getD 0 zV).f0 = kd0 := ⟨_, rfl⟩
      have hv0 : wx.cell? ad = some (.int .i64 kd0) := by rw [← hk0]; exact (cells0 (Kd.C_below HC.out HB.out) HN.out).1
      have HV0 := Aside0.mk hk0
      clear hs1 hs2 eW hk0
      go_upto_if 49 with (fail)
      rw [show k + m - k = m from by omega]
      have HCA := Aside0.mk (C_part HC.out k m hm2)
      go_cut [7, 10] (fun v7 v10 wc => ∃ nm' : List ByteArray, Aside0 (PartAt w v10) ∧ Aside0 (nm'.length ≤ k + 1) ∧ Aside0 (Kd.S Kd.string 9 wc w.heap.size (fun _ => True) v7 nm') ∧ Aside0 (Below w.heap.size w wc))
      case first =>
        by_cases h8 : kd0 = 8
        · subst h8
          go_upto_region 10 with (fail)
          go_cut [80] (fun v80 wc => ∃ b : Bool, v80 = .bool b ∧ Aside0 (b = false → 2 ≤ m) ∧ Aside0 (Kd.S Kd.string 9 wc w.heap.size (fun _ => True) u7 nm) ∧ Aside0 (Below w.heap.size w wc) ∧ Aside0 (wc.heap[gb]? = some (.cells #[.int .i64 kd, .float .f64 nu, .string tx, .int .i64 (m : Int)] 33 (0, 0))))
          case first =>
            have HUT : ∀ w', tx.size ≤ 100 → ∃ b : Bool, Calls Tryz.prog 20 #[.string tx] w' fun e w'' => e = .returned (.bool b) ∧ Drawn0 w' w'' := by
              intro w' ht
              obtain ⟨b, hb⟩ := utf8_some tx (by omega)
              exact ⟨b, spec_UTF8.calls _ tx b w' (hb _ (Nat.le_refl _))⟩
            have HUT := Aside0.mk HUT
            obtain ⟨A7, c7, e7, hl7, hC7⟩ := Kd.S_reads HO.out
            subst e7
            have HAM : ∀ w', Below wx.heap.size wx w' → ∃ b : Bool, Calls Tryz.prog 32 #[.slice A7 nm.length c7, .string tx] w' fun e w'' => e = .returned (.bool b) ∧ Drawn0 w' w'' := by
              intro w' hb'
              obtain ⟨b, hb⟩ := among_some nm tx (by have := HK.out.2.2; have := HK.out.2.1; have := HN3.out; omega)
              exact ⟨b, spec_among.calls _ A7 c7 nm tx b w' (Kd.C_below hC7 hb') hl7 hb⟩
            have HAM := Aside0.mk HAM
            clear hl7 hC7
            by_cases h2 : m < 2
            · have g1 : decide ((m : Int) < 2) = true := decide_eq_true (by omega)
              clear h2 hm1
              go_wp2
              all_goals (go_meet; (case rel => exact ⟨true, by first | rfl | simp, ⟨fun h => by cases h⟩, HO, HB, BK⟩))
            · have g1 : decide ((m : Int) < 2) = false := decide_eq_false (by omega)
              have H2 := Aside0.mk (show ∀ b : Bool, b = false → 2 ≤ m from fun _ _ => by omega)
              clear h2 hm1
              by_cases ht : tx.size ≤ 100
              · have HT := Aside0.mk ht
                have g2 : decide (100 < (tx.size : Int)) = false := decide_eq_false (by omega)
                clear ht
                go_wp2_with (first | (go_at_call 20; obtain ⟨b, hb⟩ := HUT.out _ HT.out; refine hb.mono ?_; rintro e w' ⟨rfl, ⟨nd, rfl⟩⟩) | (go_at_call 32; obtain ⟨b2, hb⟩ := HAM.out _ (pw_below_drewN (Below.refl _ _) _); refine hb.mono ?_; rintro e w' ⟨rfl, ⟨nd2, rfl⟩⟩))
                all_goals (go_meet; (case rel => exact ⟨_, by first | rfl | simp, ⟨H2.out _⟩, ⟨by (with_reducible repeat (first | apply Kd.S_drewN | apply Kd.S_drew)); exact HO.out⟩, ⟨by repeat (first | (with_reducible first | exact HB.out | apply below_alloc | apply pw_below_drewN | apply below_drew1) | exact HB.out)⟩, ⟨by (with_reducible repeat (first | refine blk_drewN ?_ _ | refine blk_drew ?_)); exact BK.out⟩⟩))
              · have g2 : decide (100 < (tx.size : Int)) = true := decide_eq_true (by omega)
                clear ht
                go_wp2
                all_goals (go_meet; (case rel => exact ⟨_, by first | rfl | simp, ⟨H2.out _⟩, HO, HB, BK⟩))
          case rest =>
            clear HB BK HO
            obtain ⟨b, rfl, HBF, HO, HB, BK⟩ := hcut
            cases b with
            | true =>
              go_wp2
              go_ret
              exact ⟨⟨_, rfl, fun _ => trivial⟩, HB.out⟩
            | false =>
              have hm3 : 2 ≤ m := HBF.out rfl
              have HM3 := Aside0.mk hm3
              have hq1 : 1 ≤ m := by omega
              have hx2 : wc.cell? ⟨gb, 2, none⟩ = some (.string tx) := (blk_cell BK.out 2).trans rfl
              have q1 : ((1 : Int) ≤ (m : Int)) = True := eq_true (by omega)
              clear hm1 HBF
              go_wp2_with (first | ((with_reducible refine gate_builtin (b := .append) (xs := #[.tmp 81, .tmp 84]) rfl ?_); (try (refine gate_guard (by rfl) ?_; dsimp only)); at_builtin; refine Kd.S_append Kd.string (w0 := w) w.heap.size rfl (.tmp 81) (.tmp 84) 58 9 (.string ⟨#[]⟩) 16 rfl Tryz.underlying58 info9 rfl (by decide) (by omega) u7 nm tx [.string tx] (fun _ => True) (fun _ => False) rfl ?hx rfl (fun _ hk => hk.elim) (fun _ _ => trivial) ?aO HB.out HB.out.size (by have := HK.out; have := HN3.out; simp; omega) ?_; (case hx => rfl); (case aO => exact Kd.S_mono HO.out (fun k hk => ⟨trivial, fun e => e.elim⟩)); intro v5 w5 ho hb hg hat; have n0_ := Aside0.mk hb; have n1_ := Aside0.mk ho; clear HB HO BK hx2 ho hb hg hat; have HB := n0_; have HO := n1_; clear n0_ n1_))
              go_meet
              case rel => exact ⟨nm ++ [tx], ⟨⟨_, _, _, _, rfl, by have := HM3.out; omega, by have := HM3.out; have := HCP.out; have := HM.out; omega, by have := HN3.out; have := HM.out; omega, C_part HCA.out 1 (m - 1) (by have := HM3.out; omega)⟩⟩, ⟨by have := HK.out; simp; omega⟩, HO, HB⟩
        · have e8 : (kd0 == 8) = false := beq_eq_false_iff_ne.mpr h8
          clear h8
          go_wp2
          go_meet
          case rel => exact ⟨nm, ⟨⟨_, _, _, _, rfl, by have := HM.out; omega, by have := HM.out; have := HCP.out; omega, by have := HN3.out; have := HM.out; omega, HCA.out⟩⟩, ⟨by have := HK.out; omega⟩, HO, HB⟩
      case rest =>
        clear HB BK HO
        obtain ⟨nm', HP, HL, HO, HB⟩ := hcut
        obtain ⟨ad', m', c', l', e10, g1, g2, g3, hCp⟩ := HP.out
        subst e10
        have HP2 := Aside0.mk (And.intro g1 (And.intro g2 (And.intro g3 hCp)))
        clear g1 g2 g3 hCp HP
        go_wp2_with (first | (go_at_call 11; refine (H11.out _ ad' m' c' l' HP2.out.1 HP2.out.2.1 HP2.out.2.2.1 (Kd.C_below HP2.out.2.2.2 HB.out)).mono ?_; rintro e w' ⟨⟨b, rfl, _⟩, hB⟩; have n0_ := Aside0.mk (below_step HB.out hB); have n1_ := Aside0.mk (Kd.S_below HO.out hB); clear HB HO hB; have HB := n0_; have HO := n1_; clear n0_ n1_; have ks3 : w'.cell? ⟨(ad.add (k * 4)).block, (ad.add (k * 4)).off + 3, none⟩ = some (.int .i64 (m : Int)) := by { have := (cellsI (Kd.C_below HC.out HB.out) k HLT.out).2.2.2; rw [HSZ.out] at this; exact this }; cases b))
        · go_ret
          exact ⟨⟨_, rfl, fun _ => trivial⟩, HB.out⟩
        · go_roundw
          case rel => exact ⟨k + m, nm', by first | rfl | (rw [eS]), ⟨by have := HM.out; have := HK.out; have := HL.out; omega⟩, HO, HB⟩
          case measure => have := HM.out; have := HK.out; simp only [lftn_int]; first | omega | (rw [eS]; simp; omega)
    · go_wp2
      go_ret
      exact ⟨⟨_, rfl, fun _ => trivial⟩, HB.out⟩
end Go.Proofs.YtbegljkhajagbaaGreatDoor.PFnCoerceFloat

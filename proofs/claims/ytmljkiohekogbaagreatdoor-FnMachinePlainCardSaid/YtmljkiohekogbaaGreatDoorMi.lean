import Derived.Test.YtmljkiohekogbaaGreatDoorMf
import Derived.Handy
namespace Go.Proofs.YtmljkiohekogbaaGreatDoor
open Go.RowKit Go.Maps
set_option linter.unusedVariables false
set_option linter.unusedSimpArgs false
set_option maxHeartbeats 4000000
set_option maxRecDepth 100000

/-- a parser at block p whose map is at block b -/
def MapAt (w : World) (p b : Nat) : Prop := p ≠ b ∧ ∃ i k ev, w.heap[p]? = some (.cells #[.map (some b), i, k, ev] 51 (0, 0))
theorem MapAt.turn {w w' : World} {p b : Nat} (h : MapAt w p b) (k : OneMap w w' b) : MapAt w' p b := by
  obtain ⟨h1, i, kk, ev, h2⟩ := h
  exact ⟨h1, i, kk, ev, (k.heap h1).trans h2⟩
theorem MapAt.cell {w : World} {p b : Nat} (h : MapAt w p b) : w.cell? ⟨p, 0, none⟩ = some (.map (some b)) := by
  obtain ⟨h1, i, kk, ev, h2⟩ := h
  exact blk_cell h2 0

theorem clearFg_calls (p b : Nat) (c : List Int) (w : World) (hp : MapAt w p b) (hc : CM w b c) :
    Calls Tryz.prog 74 #[.pointer (some ⟨p, 0, none⟩)] w fun e w' => e = .returned (.tuple #[]) ∧ CM w' b (delR 1000 1255 (delR 90 97 (delR 30 37 c))) ∧ OneMap w w' b := by
  have HP := hid hp
  have HC0 := hid hc
  have HO0 := hid (OneMap.refl w b)
  have hz0 := hp.cell
  clear hp hc
  go_enter Tryz.func74, Tryz.ntmps74
  go_wp2_with fail
  clear hz0
  go_loopw [2] (fun v wr => ∃ j : Nat, j ≤ 8 ∧ v = .int .i64 (30 + (j : Int)) ∧ CM wr b (delUp 30 j 0 (c)) ∧ OneMap w wr b) (fun v _ => 38 - (intOf v).toNat)
  case atStart => exact ⟨0, by omega, rfl, by rw [delUp_zero]; exact HC0.out, HO0.out⟩
  case round =>
    obtain ⟨j, hj, rfl, hcm, hom⟩ := hrel
    have hz := (HP.out.turn hom).cell
    by_cases hlt : j < 8
    · have hlt' : 30 + (j : Int) ≤ 37 := by omega
      have HCM := hid hcm
      have HOM := hid hom
      clear hcm hom
      go_wp2_with (at_delete; refine wpList_delC _ rfl _ _ rfl b _ rfl HCM.out _ rfl (wf64 (by omega) (by omega)) ?_; intro w1 hc1 hm1)
      go_roundw
      case rel => exact ⟨j + 1, by omega, by congr 1, by rw [← delUp_succ 30 j 0 _ (by omega)]; exact hc1, HOM.out.trans hm1⟩
      case measure => simp [intOf]; omega
    · have hj8 : j = 8 := by omega
      subst hj8
      have hlt' : ¬ 30 + ((8 : Nat) : Int) ≤ 37 := by omega
      have HC1 : Hid (CM wr b (delR 30 37 (c))) := hid (by have h := delUp_all 30 7 0 (c) (by omega); rw [show ((30 : Int) + ((7 : Nat) : Int)) = 37 from rfl] at h; rw [← h]; exact hcm)
      have HO1 := hid hom
      clear hcm hom hlt hj
      go_wp2_with fail
      clear hz hlt'
      obtain ⟨w2, hw2⟩ : ∃ W, W = wr := ⟨_, rfl⟩
      rw [← hw2] at HC1 HO1 ⊢
      clear hw2
      go_loopw [3] (fun v wr => ∃ j : Nat, j ≤ 8 ∧ v = .int .i64 (90 + (j : Int)) ∧ CM wr b (delUp 90 j 0 (delR 30 37 (c))) ∧ OneMap w wr b) (fun v _ => 98 - (intOf v).toNat)
      case atStart => exact ⟨0, by omega, rfl, by rw [delUp_zero]; exact HC1.out, HO1.out⟩
      case round =>
        obtain ⟨j, hj, rfl, hcm, hom⟩ := hrel
        have hz := (HP.out.turn hom).cell
        by_cases hlt : j < 8
        · have hlt' : 90 + (j : Int) ≤ 97 := by omega
          have HCM := hid hcm
          have HOM := hid hom
          clear hcm hom
          go_wp2_with (at_delete; refine wpList_delC _ rfl _ _ rfl b _ rfl HCM.out _ rfl (wf64 (by omega) (by omega)) ?_; intro w1 hc1 hm1)
          go_roundw
          case rel => exact ⟨j + 1, by omega, by congr 1, by rw [← delUp_succ 90 j 0 _ (by omega)]; exact hc1, HOM.out.trans hm1⟩
          case measure => simp [intOf]; omega
        · have hj8 : j = 8 := by omega
          subst hj8
          have hlt' : ¬ 90 + ((8 : Nat) : Int) ≤ 97 := by omega
          have HC2 : Hid (CM wr b (delR 90 97 (delR 30 37 (c)))) := hid (by have h := delUp_all 90 7 0 (delR 30 37 (c)) (by omega); rw [show ((90 : Int) + ((7 : Nat) : Int)) = 97 from rfl] at h; rw [← h]; exact hcm)
          have HO2 := hid hom
          clear hcm hom hlt hj
          go_wp2_with fail
          clear hz hlt'
          obtain ⟨w3, hw3⟩ : ∃ W, W = wr := ⟨_, rfl⟩
          rw [← hw3] at HC2 HO2 ⊢
          clear hw3
          go_loopw [4] (fun v wr => ∃ j : Nat, j ≤ 256 ∧ v = .int .i64 (1000 + (j : Int)) ∧ CM wr b (delUp 1000 j 0 (delR 90 97 (delR 30 37 (c)))) ∧ OneMap w wr b) (fun v _ => 1256 - (intOf v).toNat)
          case atStart => exact ⟨0, by omega, rfl, by rw [delUp_zero]; exact HC2.out, HO2.out⟩
          case round =>
            obtain ⟨j, hj, rfl, hcm, hom⟩ := hrel
            have hz := (HP.out.turn hom).cell
            by_cases hlt : j < 256
            · have hlt' : 1000 + (j : Int) ≤ 1255 := by omega
              have HCM := hid hcm
              have HOM := hid hom
              clear hcm hom
              go_wp2_with (at_delete; refine wpList_delC _ rfl _ _ rfl b _ rfl HCM.out _ rfl (wf64 (by omega) (by omega)) ?_; intro w1 hc1 hm1)
              go_roundw
              case rel => exact ⟨j + 1, by omega, by congr 1, by rw [← delUp_succ 1000 j 0 _ (by omega)]; exact hc1, HOM.out.trans hm1⟩
              case measure => simp [intOf]; omega
            · have hj8 : j = 256 := by omega
              subst hj8
              have hlt' : ¬ 1000 + ((256 : Nat) : Int) ≤ 1255 := by omega
              have HC3 : Hid (CM wr b (delR 1000 1255 (delR 90 97 (delR 30 37 (c))))) := hid (by have h := delUp_all 1000 255 0 (delR 90 97 (delR 30 37 (c))) (by omega); rw [show ((1000 : Int) + ((255 : Nat) : Int)) = 1255 from rfl] at h; rw [← h]; exact hcm)
              have HO3 := hid hom
              clear hcm hom hlt hj
              go_wp2_with fail
              go_end0
              exact ⟨rfl, HC3.out, HO3.out⟩
theorem clearBg_calls (p b : Nat) (c : List Int) (w : World) (hp : MapAt w p b) (hc : CM w b c) :
    Calls Tryz.prog 75 #[.pointer (some ⟨p, 0, none⟩)] w fun e w' => e = .returned (.tuple #[]) ∧ CM w' b (delR 2000 2255 (delR 100 107 (delR 40 47 c))) ∧ OneMap w w' b := by
  have HP := hid hp
  have HC0 := hid hc
  have HO0 := hid (OneMap.refl w b)
  have hz0 := hp.cell
  clear hp hc
  go_enter Tryz.func75, Tryz.ntmps75
  go_wp2_with fail
  clear hz0
  go_loopw [2] (fun v wr => ∃ j : Nat, j ≤ 8 ∧ v = .int .i64 (40 + (j : Int)) ∧ CM wr b (delUp 40 j 0 (c)) ∧ OneMap w wr b) (fun v _ => 48 - (intOf v).toNat)
  case atStart => exact ⟨0, by omega, rfl, by rw [delUp_zero]; exact HC0.out, HO0.out⟩
  case round =>
    obtain ⟨j, hj, rfl, hcm, hom⟩ := hrel
    have hz := (HP.out.turn hom).cell
    by_cases hlt : j < 8
    · have hlt' : 40 + (j : Int) ≤ 47 := by omega
      have HCM := hid hcm
      have HOM := hid hom
      clear hcm hom
      go_wp2_with (at_delete; refine wpList_delC _ rfl _ _ rfl b _ rfl HCM.out _ rfl (wf64 (by omega) (by omega)) ?_; intro w1 hc1 hm1)
      go_roundw
      case rel => exact ⟨j + 1, by omega, by congr 1, by rw [← delUp_succ 40 j 0 _ (by omega)]; exact hc1, HOM.out.trans hm1⟩
      case measure => simp [intOf]; omega
    · have hj8 : j = 8 := by omega
      subst hj8
      have hlt' : ¬ 40 + ((8 : Nat) : Int) ≤ 47 := by omega
      have HC1 : Hid (CM wr b (delR 40 47 (c))) := hid (by have h := delUp_all 40 7 0 (c) (by omega); rw [show ((40 : Int) + ((7 : Nat) : Int)) = 47 from rfl] at h; rw [← h]; exact hcm)
      have HO1 := hid hom
      clear hcm hom hlt hj
      go_wp2_with fail
      clear hz hlt'
      obtain ⟨w2, hw2⟩ : ∃ W, W = wr := ⟨_, rfl⟩
      rw [← hw2] at HC1 HO1 ⊢
      clear hw2
      go_loopw [3] (fun v wr => ∃ j : Nat, j ≤ 8 ∧ v = .int .i64 (100 + (j : Int)) ∧ CM wr b (delUp 100 j 0 (delR 40 47 (c))) ∧ OneMap w wr b) (fun v _ => 108 - (intOf v).toNat)
      case atStart => exact ⟨0, by omega, rfl, by rw [delUp_zero]; exact HC1.out, HO1.out⟩
      case round =>
        obtain ⟨j, hj, rfl, hcm, hom⟩ := hrel
        have hz := (HP.out.turn hom).cell
        by_cases hlt : j < 8
        · have hlt' : 100 + (j : Int) ≤ 107 := by omega
          have HCM := hid hcm
          have HOM := hid hom
          clear hcm hom
          go_wp2_with (at_delete; refine wpList_delC _ rfl _ _ rfl b _ rfl HCM.out _ rfl (wf64 (by omega) (by omega)) ?_; intro w1 hc1 hm1)
          go_roundw
          case rel => exact ⟨j + 1, by omega, by congr 1, by rw [← delUp_succ 100 j 0 _ (by omega)]; exact hc1, HOM.out.trans hm1⟩
          case measure => simp [intOf]; omega
        · have hj8 : j = 8 := by omega
          subst hj8
          have hlt' : ¬ 100 + ((8 : Nat) : Int) ≤ 107 := by omega
          have HC2 : Hid (CM wr b (delR 100 107 (delR 40 47 (c)))) := hid (by have h := delUp_all 100 7 0 (delR 40 47 (c)) (by omega); rw [show ((100 : Int) + ((7 : Nat) : Int)) = 107 from rfl] at h; rw [← h]; exact hcm)
          have HO2 := hid hom
          clear hcm hom hlt hj
          go_wp2_with fail
          clear hz hlt'
          obtain ⟨w3, hw3⟩ : ∃ W, W = wr := ⟨_, rfl⟩
          rw [← hw3] at HC2 HO2 ⊢
          clear hw3
          go_loopw [4] (fun v wr => ∃ j : Nat, j ≤ 256 ∧ v = .int .i64 (2000 + (j : Int)) ∧ CM wr b (delUp 2000 j 0 (delR 100 107 (delR 40 47 (c)))) ∧ OneMap w wr b) (fun v _ => 2256 - (intOf v).toNat)
          case atStart => exact ⟨0, by omega, rfl, by rw [delUp_zero]; exact HC2.out, HO2.out⟩
          case round =>
            obtain ⟨j, hj, rfl, hcm, hom⟩ := hrel
            have hz := (HP.out.turn hom).cell
            by_cases hlt : j < 256
            · have hlt' : 2000 + (j : Int) ≤ 2255 := by omega
              have HCM := hid hcm
              have HOM := hid hom
              clear hcm hom
              go_wp2_with (at_delete; refine wpList_delC _ rfl _ _ rfl b _ rfl HCM.out _ rfl (wf64 (by omega) (by omega)) ?_; intro w1 hc1 hm1)
              go_roundw
              case rel => exact ⟨j + 1, by omega, by congr 1, by rw [← delUp_succ 2000 j 0 _ (by omega)]; exact hc1, HOM.out.trans hm1⟩
              case measure => simp [intOf]; omega
            · have hj8 : j = 256 := by omega
              subst hj8
              have hlt' : ¬ 2000 + ((256 : Nat) : Int) ≤ 2255 := by omega
              have HC3 : Hid (CM wr b (delR 2000 2255 (delR 100 107 (delR 40 47 (c))))) := hid (by have h := delUp_all 2000 255 0 (delR 100 107 (delR 40 47 (c))) (by omega); rw [show ((2000 : Int) + ((255 : Nat) : Int)) = 2255 from rfl] at h; rw [← h]; exact hcm)
              have HO3 := hid hom
              clear hcm hom hlt hj
              go_wp2_with fail
              go_end0
              exact ⟨rfl, HC3.out, HO3.out⟩
theorem clearRangeF_calls (p b : Nat) (c : List Int) (w : World) (hp : MapAt w p b) (hc : CM w b c) :
    Calls Tryz.prog 57 #[.pointer (some ⟨p, 0, none⟩), .bool true] w fun e w' => e = .returned (.tuple #[]) ∧ CM w' b (delR 90 97 (delR 30 37 c)) ∧ OneMap w w' b := by
  have HP := hid hp
  have HC0 := hid hc
  have HO0 := hid (OneMap.refl w b)
  have hz0 := hp.cell
  clear hp hc
  go_enter Tryz.func57, Tryz.ntmps57
  go_wp2_with fail
  clear hz0
  go_loopw [4] (fun v wr => ∃ j : Nat, j ≤ 8 ∧ v = .int .i64 (30 + (j : Int)) ∧ CM wr b (delUp 30 j 0 (c)) ∧ OneMap w wr b) (fun v _ => 38 - (intOf v).toNat)
  case atStart => exact ⟨0, by omega, rfl, by rw [delUp_zero]; exact HC0.out, HO0.out⟩
  case round =>
    obtain ⟨j, hj, rfl, hcm, hom⟩ := hrel
    have hz := (HP.out.turn hom).cell
    by_cases hlt : j < 8
    · have hlt' : 30 + (j : Int) ≤ 37 := by omega
      have HCM := hid hcm
      have HOM := hid hom
      clear hcm hom
      go_wp2_with (at_delete; refine wpList_delC _ rfl _ _ rfl b _ rfl HCM.out _ rfl (wf64 (by omega) (by omega)) ?_; intro w1 hc1 hm1)
      go_roundw
      case rel => exact ⟨j + 1, by omega, by congr 1, by rw [← delUp_succ 30 j 0 _ (by omega)]; exact hc1, HOM.out.trans hm1⟩
      case measure => simp [intOf]; omega
    · have hj8 : j = 8 := by omega
      subst hj8
      have hlt' : ¬ 30 + ((8 : Nat) : Int) ≤ 37 := by omega
      have HC1 : Hid (CM wr b (delR 30 37 (c))) := hid (by have h := delUp_all 30 7 0 (c) (by omega); rw [show ((30 : Int) + ((7 : Nat) : Int)) = 37 from rfl] at h; rw [← h]; exact hcm)
      have HO1 := hid hom
      clear hcm hom hlt hj
      go_wp2_with fail
      clear hz hlt'
      obtain ⟨w2, hw2⟩ : ∃ W, W = wr := ⟨_, rfl⟩
      rw [← hw2] at HC1 HO1 ⊢
      clear hw2
      go_loopw [5] (fun v wr => ∃ j : Nat, j ≤ 8 ∧ v = .int .i64 (90 + (j : Int)) ∧ CM wr b (delUp 90 j 0 (delR 30 37 (c))) ∧ OneMap w wr b) (fun v _ => 98 - (intOf v).toNat)
      case atStart => exact ⟨0, by omega, rfl, by rw [delUp_zero]; exact HC1.out, HO1.out⟩
      case round =>
        obtain ⟨j, hj, rfl, hcm, hom⟩ := hrel
        have hz := (HP.out.turn hom).cell
        by_cases hlt : j < 8
        · have hlt' : 90 + (j : Int) ≤ 97 := by omega
          have HCM := hid hcm
          have HOM := hid hom
          clear hcm hom
          go_wp2_with (at_delete; refine wpList_delC _ rfl _ _ rfl b _ rfl HCM.out _ rfl (wf64 (by omega) (by omega)) ?_; intro w1 hc1 hm1)
          go_roundw
          case rel => exact ⟨j + 1, by omega, by congr 1, by rw [← delUp_succ 90 j 0 _ (by omega)]; exact hc1, HOM.out.trans hm1⟩
          case measure => simp [intOf]; omega
        · have hj8 : j = 8 := by omega
          subst hj8
          have hlt' : ¬ 90 + ((8 : Nat) : Int) ≤ 97 := by omega
          have HC2 : Hid (CM wr b (delR 90 97 (delR 30 37 (c)))) := hid (by have h := delUp_all 90 7 0 (delR 30 37 (c)) (by omega); rw [show ((90 : Int) + ((7 : Nat) : Int)) = 97 from rfl] at h; rw [← h]; exact hcm)
          have HO2 := hid hom
          clear hcm hom hlt hj
          go_wp2_with fail
          go_end0
          exact ⟨rfl, HC2.out, HO2.out⟩
theorem clearRangeB_calls (p b : Nat) (c : List Int) (w : World) (hp : MapAt w p b) (hc : CM w b c) :
    Calls Tryz.prog 57 #[.pointer (some ⟨p, 0, none⟩), .bool false] w fun e w' => e = .returned (.tuple #[]) ∧ CM w' b (delR 100 107 (delR 40 47 c)) ∧ OneMap w w' b := by
  have HP := hid hp
  have HC0 := hid hc
  have HO0 := hid (OneMap.refl w b)
  have hz0 := hp.cell
  clear hp hc
  go_enter Tryz.func57, Tryz.ntmps57
  go_wp2_with fail
  clear hz0
  go_loopw [6] (fun v wr => ∃ j : Nat, j ≤ 8 ∧ v = .int .i64 (40 + (j : Int)) ∧ CM wr b (delUp 40 j 0 (c)) ∧ OneMap w wr b) (fun v _ => 48 - (intOf v).toNat)
  case atStart => exact ⟨0, by omega, rfl, by rw [delUp_zero]; exact HC0.out, HO0.out⟩
  case round =>
    obtain ⟨j, hj, rfl, hcm, hom⟩ := hrel
    have hz := (HP.out.turn hom).cell
    by_cases hlt : j < 8
    · have hlt' : 40 + (j : Int) ≤ 47 := by omega
      have HCM := hid hcm
      have HOM := hid hom
      clear hcm hom
      go_wp2_with (at_delete; refine wpList_delC _ rfl _ _ rfl b _ rfl HCM.out _ rfl (wf64 (by omega) (by omega)) ?_; intro w1 hc1 hm1)
      go_roundw
      case rel => exact ⟨j + 1, by omega, by congr 1, by rw [← delUp_succ 40 j 0 _ (by omega)]; exact hc1, HOM.out.trans hm1⟩
      case measure => simp [intOf]; omega
    · have hj8 : j = 8 := by omega
      subst hj8
      have hlt' : ¬ 40 + ((8 : Nat) : Int) ≤ 47 := by omega
      have HC1 : Hid (CM wr b (delR 40 47 (c))) := hid (by have h := delUp_all 40 7 0 (c) (by omega); rw [show ((40 : Int) + ((7 : Nat) : Int)) = 47 from rfl] at h; rw [← h]; exact hcm)
      have HO1 := hid hom
      clear hcm hom hlt hj
      go_wp2_with fail
      clear hz hlt'
      obtain ⟨w2, hw2⟩ : ∃ W, W = wr := ⟨_, rfl⟩
      rw [← hw2] at HC1 HO1 ⊢
      clear hw2
      go_loopw [7] (fun v wr => ∃ j : Nat, j ≤ 8 ∧ v = .int .i64 (100 + (j : Int)) ∧ CM wr b (delUp 100 j 0 (delR 40 47 (c))) ∧ OneMap w wr b) (fun v _ => 108 - (intOf v).toNat)
      case atStart => exact ⟨0, by omega, rfl, by rw [delUp_zero]; exact HC1.out, HO1.out⟩
      case round =>
        obtain ⟨j, hj, rfl, hcm, hom⟩ := hrel
        have hz := (HP.out.turn hom).cell
        by_cases hlt : j < 8
        · have hlt' : 100 + (j : Int) ≤ 107 := by omega
          have HCM := hid hcm
          have HOM := hid hom
          clear hcm hom
          go_wp2_with (at_delete; refine wpList_delC _ rfl _ _ rfl b _ rfl HCM.out _ rfl (wf64 (by omega) (by omega)) ?_; intro w1 hc1 hm1)
          go_roundw
          case rel => exact ⟨j + 1, by omega, by congr 1, by rw [← delUp_succ 100 j 0 _ (by omega)]; exact hc1, HOM.out.trans hm1⟩
          case measure => simp [intOf]; omega
        · have hj8 : j = 8 := by omega
          subst hj8
          have hlt' : ¬ 100 + ((8 : Nat) : Int) ≤ 107 := by omega
          have HC2 : Hid (CM wr b (delR 100 107 (delR 40 47 (c)))) := hid (by have h := delUp_all 100 7 0 (delR 40 47 (c)) (by omega); rw [show ((100 : Int) + ((7 : Nat) : Int)) = 107 from rfl] at h; rw [← h]; exact hcm)
          have HO2 := hid hom
          clear hcm hom hlt hj
          go_wp2_with fail
          go_end0
          exact ⟨rfl, HC2.out, HO2.out⟩
end Go.Proofs.YtmljkiohekogbaaGreatDoor

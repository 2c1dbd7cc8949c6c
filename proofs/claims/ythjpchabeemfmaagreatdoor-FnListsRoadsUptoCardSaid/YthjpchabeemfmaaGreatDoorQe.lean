import Derived.Test.YthjpchabeemfmaaGreatDoorQd
import Derived.Test.YthjpchabeemfmaaGreatDoorPx10
namespace Go.Proofs.YthjpchabeemfmaaGreatDoor.P
open Go.RowKit Go.Proofs.YthjpchabeemfmaaGreatDoorW.PrintWords Go.Proofs.YthjpchabeemfmaaGreatDoorW.PrintLast Go.Proofs.YthjpchabeemfmaaGreatDoorW.PrintMore
set_option linter.unusedVariables false
set_option linter.unusedSimpArgs false
set_option maxRecDepth 100000
set_option maxHeartbeats 2000000

theorem sty_facts {s : Sty} (h : lsStyledB s = true) : ShortSt s ∧ s.fmt = 0 ∧ s.newline = [10] ∧ LineSt s ∧ ∀ r ∈ runes ⟨s.vert.toArray⟩, r ≠ 10 ∧ txWide r = false := by
  unfold lsStyledB at h
  simp only [Bool.and_eq_true, List.all_eq_true, decide_eq_true_eq, beq_iff_eq] at h
  obtain ⟨h1, h2, h3, h4⟩ := h
  have g : ∀ t ∈ sty7 s, t.length ≤ 20 ∧ txSimple ⟨t.toArray⟩ false = true := fun t ht => by
    have := h1 t ht
    unfold okT at this
    simp only [Bool.and_eq_true, decide_eq_true_eq] at this
    exact this
  have k : ∀ t ∈ sty7 s, LineT t := fun t ht => LineT.of_simple (g t ht).2
  refine ⟨⟨(g s.single (by simp [sty7])).1, (g s.top (by simp [sty7])).1, (g s.first (by simp [sty7])).1, (g s.middle (by simp [sty7])).1, (g s.vert (by simp [sty7])).1, (g s.bottom (by simp [sty7])).1, by rw [h4]; decide, (g s.pre (by simp [sty7])).1⟩, h3, h4,
    ⟨k s.single (by simp [sty7]), k s.top (by simp [sty7]), k s.first (by simp [sty7]), k s.middle (by simp [sty7]), k s.vert (by simp [sty7]), k s.bottom (by simp [sty7]), k s.pre (by simp [sty7])⟩, fun r hr => ?_⟩
  refine ⟨?_, ?_⟩
  · have := (k s.vert (by simp [sty7])).1 r (by rw [← runes_L]; exact hr)
    exact this.2
  · cases hw : txWide r with
    | false => rfl
    | true =>
      have : ((runes ⟨s.vert.toArray⟩).any fun r => txWide r) = true := List.any_eq_true.2 ⟨r, hr, hw⟩
      rw [this] at h2
      cases h2
theorem clear_sty (p0 : Int) (p1 p2 p3 p4 p5 p6 p7 p8 : ByteArray) (h : lsStyledB (sty9 p0 p1 p2 p3 p4 p5 p6 p7 p8) = true) : ∃ r, Ev (fun k => spec_LsClear.f k p0 p1 p2 p3 p4 p5 p6 p7 p8) r ∧ (r = true → ClearS (sty9 p0 p1 p2 p3 p4 p5 p6 p7 p8)) := by
  obtain ⟨hS, _⟩ := sty_facts h
  have := clear_f (sty9 p0 p1 p2 p3 p4 p5 p6 p7 p8) p0 (bul_len hS) hS.vert
  rwa [show S (sty9 p0 p1 p2 p3 p4 p5 p6 p7 p8).single = p1 from S_L _, show S (sty9 p0 p1 p2 p3 p4 p5 p6 p7 p8).top = p2 from S_L _, show S (sty9 p0 p1 p2 p3 p4 p5 p6 p7 p8).first = p3 from S_L _, show S (sty9 p0 p1 p2 p3 p4 p5 p6 p7 p8).middle = p4 from S_L _, show S (sty9 p0 p1 p2 p3 p4 p5 p6 p7 p8).vert = p5 from S_L _, show S (sty9 p0 p1 p2 p3 p4 p5 p6 p7 p8).bottom = p6 from S_L _, show S (sty9 p0 p1 p2 p3 p4 p5 p6 p7 p8).newline = p7 from S_L _, show S (sty9 p0 p1 p2 p3 p4 p5 p6 p7 p8).pre = p8 from S_L _] at this
/-- a list rendered in a style reads back -/
theorem back_sty (p0 : Int) (p1 p2 p3 p4 p5 p6 p7 p8 : ByteArray) (h : lsStyledB (sty9 p0 p1 p2 p3 p4 p5 p6 p7 p8) = true) (hC : ClearS (sty9 p0 p1 p2 p3 p4 p5 p6 p7 p8)) (its : List It) (hne : its ≠ []) (hn : its.length ≤ 800) (hi : ∀ it ∈ its, it.1 ≤ 200 ∧ it.2.length ≤ 200) (ht : ∀ it ∈ its, LineT it.2 ∧ ∀ b ∈ it.2, b ≠ 10) :
    Ev (fun k => spec_LsBack.f k (S (renderF (sty9 p0 p1 p2 p3 p4 p5 p6 p7 p8) its)) p0 p1 p2 p3 p4 p5 p6 p7 p8) (its.map toI, true) := by
  obtain ⟨hS, _, hnl, hL, hw⟩ := sty_facts h
  have h2 : ∀ it ∈ its, textF (sty9 p0 p1 p2 p3 p4 p5 p6 p7 p8) it.2 = it.2 ∧ LineT it.2 ∧ ∀ b ∈ it.2, b ≠ 10 := fun it hit => ⟨by unfold textF; rw [if_pos hnl], ht it hit⟩
  have := lsBack_f (sty9 p0 p1 p2 p3 p4 p5 p6 p7 p8) p0 hC hS hL its hne hn hi h2 (render_len hS its hn hi fun it hit => ⟨(h2 it hit).1, (h2 it hit).2.2⟩) (width_f _ (by have := hS.vert; omega) hw) (count_pos _ hC.vert.1)
  rwa [show S (sty9 p0 p1 p2 p3 p4 p5 p6 p7 p8).single = p1 from S_L _, show S (sty9 p0 p1 p2 p3 p4 p5 p6 p7 p8).top = p2 from S_L _, show S (sty9 p0 p1 p2 p3 p4 p5 p6 p7 p8).first = p3 from S_L _, show S (sty9 p0 p1 p2 p3 p4 p5 p6 p7 p8).middle = p4 from S_L _, show S (sty9 p0 p1 p2 p3 p4 p5 p6 p7 p8).vert = p5 from S_L _, show S (sty9 p0 p1 p2 p3 p4 p5 p6 p7 p8).bottom = p6 from S_L _, show S (sty9 p0 p1 p2 p3 p4 p5 p6 p7 p8).newline = p7 from S_L _, show S (sty9 p0 p1 p2 p3 p4 p5 p6 p7 p8).pre = p8 from S_L _] at this
theorem listRender_f {xs : List Stp'} (hl : xs.length ≤ 200) (hR : ∀ x ∈ xs, RightX x) (p0 : Int) (p1 p2 p3 p4 p5 p6 p7 p8 : ByteArray) (h : lsStyledB (sty9 p0 p1 p2 p3 p4 p5 p6 p7 p8) = true) : impl_ListRender.f xs p0 p1 p2 p3 p4 p5 p6 p7 p8 = some (S (renderF (sty9 p0 p1 p2 p3 p4 p5 p6 p7 p8) (itemsOf xs))) := by
  obtain ⟨hS, hf, _⟩ := sty_facts h
  unfold impl_ListRender.f
  rw [if_pos ⟨hl, fun x hx => shOk_of (hR x hx), hS, hf⟩]
theorem listMarkdown_f {xs : List Stp'} (hl : xs.length ≤ 200) (hR : ∀ x ∈ xs, RightX x) (p0 : Int) (p1 p2 p3 p4 p5 p6 p7 p8 : ByteArray) : impl_ListMarkdown.f xs p0 p1 p2 p3 p4 p5 p6 p7 p8 = some (S (renderF mdS (itemsOf xs))) := by
  unfold impl_ListMarkdown.f
  rw [if_pos ⟨hl, fun x hx => shOk_of (hR x hx), trivial⟩]
theorem roads_law (l0 : List Stp') (p0 : Int) (p1 p2 p3 p4 p5 p6 p7 p8 : ByteArray) (q0 : Int) (q1 q2 q3 q4 q5 q6 q7 q8 : ByteArray) (hm : weight l0 < 5864062014805) : ∃ k, laws_FnListsRoads.f k l0 p0 p1 p2 p3 p4 p5 p6 p7 p8 q0 q1 q2 q3 q4 q5 q6 q7 q8 = some true := by
  apply Ev.rounds
  have hj0 : Ev (fun k => laws_FnListsRoads.j0 k l0 true p0 p1 p2 p3 p4 p5 p6 p7 p8 q0 q1 q2 q3 q4 q5 q6 q7 q8) true := Ev.step (fun k => laws_FnListsRoads.j0.eq_2 _ _ _ _ _ _ _ _ _ _ _ _ _ _ _ _ _ _ _ _ k) (ev_pos rfl (Ev.now _))
  have hj1 : Ev (fun k => laws_FnListsRoads.j1 k l0 true p0 p1 p2 p3 p4 p5 p6 p7 p8 q0 q1 q2 q3 q4 q5 q6 q7 q8) true := Ev.step (fun k => laws_FnListsRoads.j1.eq_2 _ _ _ _ _ _ _ _ _ _ _ _ _ _ _ _ _ _ _ _ k) (ev_pos rfl (Ev.now _))
  unfold laws_FnListsRoads.f
  obtain ⟨b, hb, hb2⟩ := fits11 l0
  refine ev_bind hb ?_
  cases b with
  | false => exact ev_neg (by simp) hj0
  | true =>
    obtain ⟨hl, _⟩ := hb2 rfl
    refine ev_pos rfl (ev_some (show laws_zzFits14.f p0 p1 p2 p3 p4 p5 p6 p7 p8 = some (fits14B (sty9 p0 p1 p2 p3 p4 p5 p6 p7 p8)) from rfl) ?_)
    cases e1 : fits14B (sty9 p0 p1 p2 p3 p4 p5 p6 p7 p8) with
    | false => exact ev_neg (by simp) hj0
    | true =>
      refine ev_pos rfl (ev_some (show laws_zzFits14.f q0 q1 q2 q3 q4 q5 q6 q7 q8 = some (fits14B (sty9 q0 q1 q2 q3 q4 q5 q6 q7 q8)) from rfl) ?_)
      cases e2 : fits14B (sty9 q0 q1 q2 q3 q4 q5 q6 q7 q8) with
      | false => exact hj0
      | true =>
        obtain ⟨c, hc, hc2⟩ := right_f l0 hl
        refine Ev.step (fun k => laws_FnListsRoads.j0.eq_2 _ _ _ _ _ _ _ _ _ _ _ _ _ _ _ _ _ _ _ _ k) (ev_neg (by simp) (ev_bind (played_f l0 hl hm) (ev_bind hc ?_)))
        cases c with
        | false => exact ev_neg (by simp) hj1
        | true =>
          obtain ⟨hl80, hR⟩ := hc2 rfl
          obtain ⟨i1, i2, i3⟩ := items_facts hl80 hR
          refine ev_pos rfl ?_
          by_cases hz : itemsOf l0 = []
          · exact ev_pos (by simp [hz]) hj1
          refine ev_neg (by rw [List.length_map]; have := List.length_pos_iff.2 hz; omega) ?_
          obtain ⟨nb, hnb, hn2⟩ := names_f (itemsOf l0) (by omega) (fun it hit => by have := i2 it hit; omega)
          refine ev_bind hnb ?_
          cases nb with
          | false => exact ev_neg (by simp) hj1
          | true =>
            have hnm := hn2 rfl
            refine ev_pos rfl (ev_some (show spec_LsStyled.f p0 p1 p2 p3 p4 p5 p6 p7 p8 = some (lsStyledB (sty9 p0 p1 p2 p3 p4 p5 p6 p7 p8)) from rfl) ?_)
            cases e3 : lsStyledB (sty9 p0 p1 p2 p3 p4 p5 p6 p7 p8) with
            | false => exact ev_neg (by simp) hj1
            | true =>
              refine ev_pos rfl (ev_some (show spec_LsStyled.f q0 q1 q2 q3 q4 q5 q6 q7 q8 = some (lsStyledB (sty9 q0 q1 q2 q3 q4 q5 q6 q7 q8)) from rfl) ?_)
              cases e4 : lsStyledB (sty9 q0 q1 q2 q3 q4 q5 q6 q7 q8) with
              | false => exact ev_neg (by simp) hj1
              | true =>
                refine ev_pos rfl ?_
                obtain ⟨r1, hr1, hC1⟩ := clear_sty p0 p1 p2 p3 p4 p5 p6 p7 p8 e3
                refine ev_bind hr1 ?_
                cases r1 with
                | false => exact ev_neg (by simp) hj1
                | true =>
                  obtain ⟨r2, hr2, hC2⟩ := clear_sty q0 q1 q2 q3 q4 q5 q6 q7 q8 e4
                  refine ev_pos rfl (ev_bind hr2 ?_)
                  cases r2 with
                  | false => exact hj1
                  | true =>
                    have hi : ∀ it ∈ itemsOf l0, it.1 ≤ 200 ∧ it.2.length ≤ 200 := fun it hit => by have := i2 it hit; omega
                    have ht : ∀ it ∈ itemsOf l0, LineT it.2 ∧ ∀ b ∈ it.2, b ≠ 10 := fun it hit => ⟨LineT.ascii _ fun b hb => (hnm it hit b hb).line, fun b hb => (hnm it hit b hb).line.2⟩
                    have b1 := back_sty p0 p1 p2 p3 p4 p5 p6 p7 p8 e3 (hC1 rfl) (itemsOf l0) hz i1 hi ht
                    have b2 := back_sty q0 q1 q2 q3 q4 q5 q6 q7 q8 e4 (hC2 rfl) (itemsOf l0) hz i1 hi ht
                    have b3 := mdBack_f (itemsOf l0) hz i1 hi ht
                    have f1 := listHTML_f (by omega) hR (⟨#[]⟩ : ByteArray) (by decide)
                    have eC : clsOf (L (⟨#[]⟩ : ByteArray)) = dflClass := rfl
                    rw [eC] at f1
                    have l1 := lines_html hl80 hR hnm hz dflClass (by
                      intro b hb
                      have : dflClass.all (fun b => decide (lineB b)) = true := by decide
                      exact of_decide_eq_true (List.all_eq_true.1 this b hb)) (by decide) (by decide)
                    have b4 := back_f dflClass (by decide) _ (itemsOf l0) (by omega) (fun it hit => by have := i2 it hit; omega) l1
                    have sm := same_f (itemsOf l0) (by omega)
                    refine Ev.step (fun k => laws_FnListsRoads.j1.eq_2 _ _ _ _ _ _ _ _ _ _ _ _ _ _ _ _ _ _ _ _ k) (ev_neg (by simp) (ev_some (listRender_f (by omega) hR p0 p1 p2 p3 p4 p5 p6 p7 p8 e3) (ev_bind b1 (ev_some (listRender_f (by omega) hR q0 q1 q2 q3 q4 q5 q6 q7 q8 e4) (ev_bind b2 (ev_some (listMarkdown_f (by omega) hR p0 p1 p2 p3 p4 p5 p6 p7 p8) (ev_bind b3 (ev_some f1 (ev_bind b4 ?_)))))))))
                    refine ev_pos rfl (ev_pos rfl (ev_pos rfl (ev_pos rfl (ev_pos ?_ (ev_bind sm (ev_pos rfl (ev_bind sm (ev_pos rfl (ev_bind sm (Ev.now _))))))))))
                    show (0 : Int) < (((itemsOf l0).map toI).length : Int)
                    rw [List.length_map]
                    have := List.length_pos_iff.2 hz
                    omega
theorem roads_upto (l0 : List Stp') (p0 : Int) (p1 p2 p3 p4 p5 p6 p7 p8 : ByteArray) (q0 : Int) (q1 q2 q3 q4 q5 q6 q7 q8 : ByteArray) (hm : (l0.map fun x => x.f1.size + (x.f2.map fun s => s.size + 1).sum + 1).sum + 1 ≤ 1048576) : ∃ k, laws_FnListsRoads.f k l0 p0 p1 p2 p3 p4 p5 p6 p7 p8 q0 q1 q2 q3 q4 q5 q6 q7 q8 = some true :=
  roads_law l0 p0 p1 p2 p3 p4 p5 p6 p7 p8 q0 q1 q2 q3 q4 q5 q6 q7 q8 (by have := weight_bulk l0; omega)
end Go.Proofs.YthjpchabeemfmaaGreatDoor.P

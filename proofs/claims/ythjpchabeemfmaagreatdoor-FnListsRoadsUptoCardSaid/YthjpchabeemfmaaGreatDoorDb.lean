import Derived.Test.YthjpchabeemfmaaGreatDoorDa
namespace Go.Proofs.YthjpchabeemfmaaGreatDoor
open Go.RowKit
set_option linter.unusedVariables false
set_option linter.unusedSimpArgs false
set_option maxHeartbeats 4000000
set_option maxRecDepth 100000
attribute [local go_sem] S_extract S_append run_cut_S run_head_S run_tail_S Nat.add_sub_cancel_left

theorem prefix_calls (w0 : World) (base b bb sb : Nat) (items : List It) (lev : Nat) (cls : List UInt8) (s : Sty) (ap : Int) (sp : List UInt8) (iv : Value) (ps : List Value) (acc : List UInt8) (w : World) (hn : items.length ≤ 1000000) (hi : ∀ it ∈ items, it.1 ≤ 1000000)
    (idx n : Nat) (hk : idx ≤ 1000000) (hn2 : n ≤ 1000000) (hlen : (acc ++ (s.pre ++ linksF s.vert sp (items.drop (idx + 1)) 0 n)).length ≤ 100000000000) (HB : RB w0 w base b bb sb items lev cls s ap sp iv ps acc) :
    Calls Tryz.prog 63 #[.pointer (some ⟨b, 0, none⟩), .pointer (some ⟨bb, 0, none⟩), .int .i64 idx, .int .i64 n] w fun e w' => e = .returned (.tuple #[]) ∧ RB w0 w' base b bb sb items lev cls s ap sp iv ps (acc ++ (s.pre ++ linksF s.vert sp (items.drop (idx + 1)) 0 n)) := by
  have hp5 : w.cell? ⟨b, 5, none⟩ = some (.pointer (some ⟨sb, 0, none⟩)) := blk_cell HB.lb.list.row 5
  have hp8 : w.cell? ⟨sb, 8, none⟩ = some (.string ⟨s.pre.toArray⟩) := blk_cell HB.sty 8
  have HL := hid hlen
  simp only [List.length_append] at hlen
  have hA : acc.length + s.pre.length ≤ 100000000000 := by omega
  clear hlen
  go_enter Tryz.func63, Tryz.ntmps63
  go_upto_if 16 with (fail)
  go_cut [16] from 17 to 25 (fun c16 wx => Hid (RB w0 wx base b bb sb items lev cls s ap sp iv ps (acc ++ s.pre)))
  case first =>
    by_cases hpe : s.pre = []
    · have e1 : s.pre.isEmpty = true := by simpa using hpe
      have e2 : (s.pre == []) = true := by simpa using hpe
      have e3 : (s.pre != []) = false := by simpa using hpe
      have e4 : (!s.pre.isEmpty) = false := by rw [e1]; rfl
      have HX := hid (show acc ++ s.pre = acc by rw [hpe, List.append_nil])
      rw [e4]
      clear hpe
      go_wp2_with fail
      go_meet
      exact hid (by rw [HX.out]; exact HB)
    · have e1 : s.pre.isEmpty = false := by simpa using hpe
      have e2 : (s.pre == []) = false := by simpa using hpe
      have e3 : (s.pre != []) = true := by simpa using hpe
      have e4 : (!s.pre.isEmpty) = true := by rw [e1]; rfl
      rw [e4]
      clear hpe
      go_wp2_with (go_at_call 65; (with_reducible refine (WS_RB HB _ (by omega)).mono ?_); rintro e wn ⟨rfl, HB1⟩)
      go_meet
      exact hid HB1
  case rest =>
    have HB1 := hcut.out
    clear hcut HB
    go_wp2_with fail
    go_loopw [8] (fun v wr => ∃ (l : Nat) (acc2 : List UInt8), v = .int .i64 l ∧ l ≤ n ∧ RB w0 wr base b bb sb items lev cls s ap sp iv ps acc2 ∧ Hid (acc2 ++ linksF s.vert sp (items.drop (idx + 1)) l (n - l) = acc ++ (s.pre ++ linksF s.vert sp (items.drop (idx + 1)) 0 n))) (fun v _ => n - (intOf v).toNat)
    case atStart => exact ⟨0, _, rfl, Nat.zero_le _, HB1, hid (by simp)⟩
    case round =>
      obtain ⟨l, acc2, rfl, hl, HB2, hT⟩ := hrel
      clear HB1
      by_cases hlt : l < n
      · have hlt' : (l : Int) < (n : Int) := by omega
        have KM := hid (fun w' (H : LAt w' base b items lev cls (.pointer (some ⟨sb, 0, none⟩)) ap ⟨sp.toArray⟩ iv ps) => more_calls base b items lev cls _ ap _ iv ps w' H hn hi l idx (by omega) hk)
        have HS := hid (show linksF s.vert sp (items.drop (idx + 1)) l (n - l) = (if moreF l (items.drop (idx + 1)) then s.vert else sp) ++ linksF s.vert sp (items.drop (idx + 1)) (l + 1) (n - (l + 1)) by rw [show n - l = (n - (l + 1)) + 1 by omega, linksF])
        have q5 : wr.cell? ⟨b, 5, none⟩ = some (.pointer (some ⟨sb, 0, none⟩)) := blk_cell HB2.lb.list.row 5
        have q1 : wr.cell? ⟨b, 1, none⟩ = some (.string ⟨sp.toArray⟩) := blk_cell HB2.lb.list.row 1
        have qv : wr.cell? ⟨sb, 5, none⟩ = some (.string ⟨s.vert.toArray⟩) := blk_cell HB2.sty 5
        have HLat := hid HB2.lb.list
        cases hm : moreF l (items.drop (idx + 1)) with
        | true =>
          have HT2 := hid (show acc2 ++ s.vert ++ linksF s.vert sp (items.drop (idx + 1)) (l + 1) (n - (l + 1)) = acc ++ (s.pre ++ linksF s.vert sp (items.drop (idx + 1)) 0 n) by rw [← hT.out, HS.out, hm, if_pos rfl, List.append_assoc])
          have hA2 : acc2.length + s.vert.length ≤ 100000000000 := by
            have h := congrArg List.length HT2.out
            have h2 := HL.out
            simp only [List.length_append] at h h2
            omega
          clear hT HS
          go_wp2_with (first
            | (go_at_call 45; (with_reducible refine (KM.out _ HLat.out).mono ?_); rintro e wn ⟨rfl, rfl⟩)
            | (go_at_call 65; (with_reducible refine (WS_RB HB2 _ (by omega)).mono ?_); rintro e wn ⟨rfl, HB3⟩))
          go_roundw
          case rel => exact ⟨l + 1, _, by go_num, by omega, HB3, HT2⟩
          case measure => simp [intOf]; omega
        | false =>
          have HT2 := hid (show acc2 ++ sp ++ linksF s.vert sp (items.drop (idx + 1)) (l + 1) (n - (l + 1)) = acc ++ (s.pre ++ linksF s.vert sp (items.drop (idx + 1)) 0 n) by rw [← hT.out, HS.out, hm, if_neg (by simp), List.append_assoc])
          have hA2 : acc2.length + sp.length ≤ 100000000000 := by
            have h := congrArg List.length HT2.out
            have h2 := HL.out
            simp only [List.length_append] at h h2
            omega
          clear hT HS
          go_wp2_with (first
            | (go_at_call 45; (with_reducible refine (KM.out _ HLat.out).mono ?_); rintro e wn ⟨rfl, rfl⟩)
            | (go_at_call 65; (with_reducible refine (WS_RB HB2 _ (by omega)).mono ?_); rintro e wn ⟨rfl, HB3⟩))
          go_roundw
          case rel => exact ⟨l + 1, _, by go_num, by omega, HB3, HT2⟩
          case measure => simp [intOf]; omega
      · have hlt' : ¬ (l : Int) < (n : Int) := by omega
        have HF := hid (show acc2 = acc ++ (s.pre ++ linksF s.vert sp (items.drop (idx + 1)) 0 n) by rw [← hT.out, show n - l = 0 by omega, linksF, List.append_nil])
        clear hT
        go_wp2_with fail
        go_end0
        rw [← HF.out]
        exact ⟨rfl, HB2⟩

theorem single_calls (w0 : World) (base b bb sb : Nat) (items : List It) (lev : Nat) (cls : List UInt8) (s : Sty) (ap : Int) (sp : List UInt8) (iv : Value) (ps : List Value) (acc : List UInt8) (w : World) (h : Hint) (hlen : acc.length + (bulletF s h).length ≤ 100000000000) (HB : RB w0 w base b bb sb items lev cls s ap sp iv ps acc) :
    Calls Tryz.prog 82 #[.pointer (some ⟨b, 0, none⟩), .pointer (some ⟨bb, 0, none⟩), h.val] w fun e w' => e = .returned (.tuple #[]) ∧ RB w0 w' base b bb sb items lev cls s ap sp iv ps (acc ++ bulletF s h ++ [32]) := by
  obtain ⟨top, first, only, last, bottom⟩ := h
  have HB1 := HB.call ((Below.refl _ w).alloc (Nat.le_refl _) (.cells #[.bool top, .bool first, .bool only, .bool last, .bool bottom] 79))
  have q5 : (w.alloc (.cells #[.bool top, .bool first, .bool only, .bool last, .bool bottom] 79)).cell? ⟨b, 5, none⟩ = some (.pointer (some ⟨sb, 0, none⟩)) := blk_cell HB1.lb.list.row 5
  have q1 : (w.alloc (.cells #[.bool top, .bool first, .bool only, .bool last, .bool bottom] 79)).cell? ⟨sb, 1, none⟩ = some (.string ⟨s.single.toArray⟩) := blk_cell HB1.sty 1
  have q2 : (w.alloc (.cells #[.bool top, .bool first, .bool only, .bool last, .bool bottom] 79)).cell? ⟨sb, 2, none⟩ = some (.string ⟨s.top.toArray⟩) := blk_cell HB1.sty 2
  have q3 : (w.alloc (.cells #[.bool top, .bool first, .bool only, .bool last, .bool bottom] 79)).cell? ⟨sb, 3, none⟩ = some (.string ⟨s.first.toArray⟩) := blk_cell HB1.sty 3
  have q4 : (w.alloc (.cells #[.bool top, .bool first, .bool only, .bool last, .bool bottom] 79)).cell? ⟨sb, 4, none⟩ = some (.string ⟨s.middle.toArray⟩) := blk_cell HB1.sty 4
  have q6 : (w.alloc (.cells #[.bool top, .bool first, .bool only, .bool last, .bool bottom] 79)).cell? ⟨sb, 6, none⟩ = some (.string ⟨s.bottom.toArray⟩) := blk_cell HB1.sty 6
  have go : ∀ (u : List UInt8), bulletF s ⟨top, first, only, last, bottom⟩ = u → acc.length + u.length ≤ 100000000000 := fun u e => by rw [← e]; exact hlen
  clear hlen HB
  unfold bulletF at go ⊢
  unfold Hint.val
  simp only at go ⊢
  cases only with
  | true =>
    cases top with
    | true =>
      have hA := go s.single (by simp)
      simp only [if_true]
      clear go
      go_enter Tryz.func82, Tryz.ntmps82
      go_wp2_with (first
        | (go_at_call 65; (with_reducible refine (WS_RB HB1 _ (by omega)).mono ?_); rintro e wn ⟨rfl, HB2⟩)
        | (go_at_call 58; (with_reducible refine (WR_RB HB2 32 (by omega) (by omega) (by simp; omega)).mono ?_); rintro e wn ⟨⟨nb, rfl⟩, HB3⟩))
      go_end0
      exact ⟨rfl, HB3⟩
    | false =>
      have hA := go s.bottom (by simp)
      simp only [if_true, Bool.false_eq_true, if_false]
      clear go
      go_enter Tryz.func82, Tryz.ntmps82
      go_wp2_with (first
        | (go_at_call 65; (with_reducible refine (WS_RB HB1 _ (by omega)).mono ?_); rintro e wn ⟨rfl, HB2⟩)
        | (go_at_call 58; (with_reducible refine (WR_RB HB2 32 (by omega) (by omega) (by simp; omega)).mono ?_); rintro e wn ⟨⟨nb, rfl⟩, HB3⟩))
      go_end0
      exact ⟨rfl, HB3⟩
  | false =>
    cases top with
    | true =>
      have hA := go s.top (by simp)
      simp only [if_true, Bool.false_eq_true, if_false]
      clear go
      go_enter Tryz.func82, Tryz.ntmps82
      go_wp2_with (first
        | (go_at_call 65; (with_reducible refine (WS_RB HB1 _ (by omega)).mono ?_); rintro e wn ⟨rfl, HB2⟩)
        | (go_at_call 58; (with_reducible refine (WR_RB HB2 32 (by omega) (by omega) (by simp; omega)).mono ?_); rintro e wn ⟨⟨nb, rfl⟩, HB3⟩))
      go_end0
      exact ⟨rfl, HB3⟩
    | false =>
      cases first with
      | true =>
        have hA := go s.first (by simp)
        simp only [if_true, Bool.false_eq_true, if_false]
        clear go
        go_enter Tryz.func82, Tryz.ntmps82
        go_wp2_with (first
          | (go_at_call 65; (with_reducible refine (WS_RB HB1 _ (by omega)).mono ?_); rintro e wn ⟨rfl, HB2⟩)
          | (go_at_call 58; (with_reducible refine (WR_RB HB2 32 (by omega) (by omega) (by simp; omega)).mono ?_); rintro e wn ⟨⟨nb, rfl⟩, HB3⟩))
        go_end0
        exact ⟨rfl, HB3⟩
      | false =>
        cases bottom with
        | true =>
          have hA := go s.bottom (by simp)
          simp only [if_true, Bool.false_eq_true, if_false]
          clear go
          go_enter Tryz.func82, Tryz.ntmps82
          go_wp2_with (first
            | (go_at_call 65; (with_reducible refine (WS_RB HB1 _ (by omega)).mono ?_); rintro e wn ⟨rfl, HB2⟩)
            | (go_at_call 58; (with_reducible refine (WR_RB HB2 32 (by omega) (by omega) (by simp; omega)).mono ?_); rintro e wn ⟨⟨nb, rfl⟩, HB3⟩))
          go_end0
          exact ⟨rfl, HB3⟩
        | false =>
          cases last with
          | true =>
            have hA := go s.bottom (by simp)
            simp only [if_true, Bool.false_eq_true, if_false]
            clear go
            go_enter Tryz.func82, Tryz.ntmps82
            go_wp2_with (first
              | (go_at_call 65; (with_reducible refine (WS_RB HB1 _ (by omega)).mono ?_); rintro e wn ⟨rfl, HB2⟩)
              | (go_at_call 58; (with_reducible refine (WR_RB HB2 32 (by omega) (by omega) (by simp; omega)).mono ?_); rintro e wn ⟨⟨nb, rfl⟩, HB3⟩))
            go_end0
            exact ⟨rfl, HB3⟩
          | false =>
            have hA := go s.middle (by simp)
            simp only [if_true, Bool.false_eq_true, if_false]
            clear go
            go_enter Tryz.func82, Tryz.ntmps82
            go_wp2_with (first
              | (go_at_call 65; (with_reducible refine (WS_RB HB1 _ (by omega)).mono ?_); rintro e wn ⟨rfl, HB2⟩)
              | (go_at_call 58; (with_reducible refine (WR_RB HB2 32 (by omega) (by omega) (by simp; omega)).mono ?_); rintro e wn ⟨⟨nb, rfl⟩, HB3⟩))
            go_end0
            exact ⟨rfl, HB3⟩

theorem bullet_calls (w0 : World) (base b bb sb : Nat) (items : List It) (lev : Nat) (cls : List UInt8) (s : Sty) (ap : Int) (sp : List UInt8) (iv : Value) (ps : List Value) (acc : List UInt8) (w : World) (h : Hint) (k : Nat) (hlen : acc.length + (markF s sp h k).length ≤ 100000000000) (HB : RB w0 w base b bb sb items lev cls s ap sp iv ps acc) :
    Calls Tryz.prog 64 #[.pointer (some ⟨b, 0, none⟩), .pointer (some ⟨bb, 0, none⟩), .int .i64 k, h.val] w fun e w' => e = .returned (.tuple #[]) ∧ RB w0 w' base b bb sb items lev cls s ap sp iv ps (acc ++ markF s sp h k) := by
  obtain ⟨top, first, only, last, bottom⟩ := h
  have HB1 := HB.call ((Below.refl _ w).alloc (Nat.le_refl _) (.cells #[.bool top, .bool first, .bool only, .bool last, .bool bottom] 79))
  have q5 : (w.alloc (.cells #[.bool top, .bool first, .bool only, .bool last, .bool bottom] 79)).cell? ⟨b, 5, none⟩ = some (.pointer (some ⟨sb, 0, none⟩)) := blk_cell HB1.lb.list.row 5
  have q1 : (w.alloc (.cells #[.bool top, .bool first, .bool only, .bool last, .bool bottom] 79)).cell? ⟨b, 1, none⟩ = some (.string ⟨sp.toArray⟩) := blk_cell HB1.lb.list.row 1
  have qv : (w.alloc (.cells #[.bool top, .bool first, .bool only, .bool last, .bool bottom] 79)).cell? ⟨sb, 5, none⟩ = some (.string ⟨s.vert.toArray⟩) := blk_cell HB1.sty 5
  unfold markF at hlen ⊢
  by_cases hk : k = 0
  · subst hk
    have KS := hid (fun hl => single_calls w0 base b bb sb items lev cls s ap sp iv ps acc _ ⟨top, first, only, last, bottom⟩ hl HB1)
    rw [if_pos rfl] at hlen ⊢
    have hA : acc.length + (bulletF s ⟨top, first, only, last, bottom⟩).length ≤ 100000000000 := by
      rw [List.length_append] at hlen
      omega
    have KS2 := hid (KS.out hA)
    clear hlen KS HB
    unfold Hint.val at KS2 ⊢
    simp only at KS2 ⊢
    generalize bulletF s ⟨top, first, only, last, bottom⟩ = u at *
    go_enter Tryz.func64, Tryz.ntmps64
    go_wp2_with (go_at_call 82; (with_reducible refine KS2.out.mono ?_); rintro e wn ⟨rfl, HB2⟩)
    go_end0
    exact ⟨rfl, by simpa using HB2⟩
  · have hk' : (0 : Int) < (k : Int) := by omega
    rw [if_neg hk] at hlen ⊢
    unfold Hint.val
    simp only at hlen ⊢
    clear hk HB
    cases last with
    | true =>
      simp only [if_true] at hlen ⊢
      go_enter Tryz.func64, Tryz.ntmps64
      go_wp2_with (go_at_call 65; (with_reducible refine (WS_RB HB1 _ (by omega)).mono ?_); rintro e wn ⟨rfl, HB2⟩)
      go_end0
      exact ⟨rfl, HB2⟩
    | false =>
      simp only [Bool.false_eq_true, if_false] at hlen ⊢
      go_enter Tryz.func64, Tryz.ntmps64
      go_wp2_with (go_at_call 65; (with_reducible refine (WS_RB HB1 _ (by omega)).mono ?_); rintro e wn ⟨rfl, HB2⟩)
      go_end0
      exact ⟨rfl, HB2⟩
end Go.Proofs.YthjpchabeemfmaaGreatDoor

import Derived.Test.YthjpchabeemfmaaDoorWe
import Derived.Test.YthjpchabeemfmaaDoorDg
namespace Go.Proofs.YthjpchabeemfmaaDoor
open Go.RowKit
set_option linter.unusedVariables false
set_option linter.unusedSimpArgs false
set_option maxHeartbeats 4000000
set_option maxRecDepth 100000
attribute [local go_sem] S_extract S_append run_cut_S run_head_S run_tail_S Nat.add_sub_cancel_left

theorem textF_nl {s : Sty} (h : s.newline = [10]) (t : List UInt8) : textF s t = t := by unfold textF; rw [if_pos h]
theorem item_lenG {s : Sty} (h : ShortSt s) (hn : s.newline = [10]) (prev : Option Nat) (x : It) (t : List It) (h1 : x.1 ≤ 200) (h2 : x.2.length ≤ 1000) : (itemF s (spacesF s) prev x t).length ≤ 6000000 := by
  have e := textF_nl hn x.2
  have hsn := splitN_len (textF s x.2)
  have ha : (aheadF s (spacesF s) x t).length ≤ 4020 := by
    have := links_len h.vert (spacesF_len h) t x.1 0
    have := h.pre
    unfold aheadF
    rw [List.length_append]
    omega
  have hl := lines_len h (hintF prev x t) _ 4020 ha (splitN (textF s x.2)) 0 1000 (fun l hl => by have := splitN_each _ l hl; rw [e] at this; omega)
  have hm : (splitN (textF s x.2)).length * (4020 + 1000 + 22) ≤ 1001 * (4020 + 1000 + 22) := Nat.mul_le_mul_right _ (by rw [e] at hsn ⊢; omega)
  unfold itemF
  rw [List.length_append]
  split <;> (try simp only [List.length_cons, List.length_nil]) <;> omega
theorem out_lenG {s : Sty} (h : ShortSt s) (hn : s.newline = [10]) : ∀ (l : List It) (prev : Option Nat), (∀ it ∈ l, it.1 ≤ 200 ∧ it.2.length ≤ 1000) → (outF s (spacesF s) prev l).length ≤ 6000000 * l.length
  | [], prev, _ => by simp [outF]
  | x :: t, prev, hi => by
    have ih := out_lenG h hn t (some x.1) (fun it hit => hi it (by simp [hit]))
    have h1 := item_lenG h hn prev x t (hi x (by simp)).1 (hi x (by simp)).2
    rw [outF, List.length_append, List.length_cons]
    omega
/-- steps, each text turned -/
def keyP (p : Stp) : Int × List UInt8 × List (List UInt8) := (p.kind, p.text, p.texts)
def keyM (fx : List UInt8 → List UInt8) (p : Stp) : Int × List UInt8 × List (List UInt8) := (p.kind, fx p.text, p.texts.map fx)
theorem indent_map (fx : List UInt8 → List UInt8) (l : List It) (n : Nat) : indent (mapIt fx l) n = indent l n := by
  unfold indent mapIt
  rw [List.getLast?_map]
  cases l.getLast? <;> rfl
theorem stepP_map (fx : List UInt8 → List UInt8) (q : List It × Nat) (p p' : Stp) (h : keyP p' = keyM fx p) : stepP (mapIt fx q.1, q.2) p' = (mapIt fx (stepP q p).1, (stepP q p).2) := by
  obtain ⟨k, t, ts, v⟩ := p
  obtain ⟨k', t', ts', v'⟩ := p'
  unfold keyP keyM at h
  injection h with h1 h2
  injection h2 with h2 h3
  dsimp only at h1 h2 h3
  subst h1 h2 h3
  unfold stepP
  dsimp only
  split
  · simp [mapIt]
  · split
    · simp [mapIt, Function.comp_def]
    · split
      · rw [indent_map]
      · split
        · rfl
        · split
          · rfl
          · split <;> rfl
theorem play_map (fx : List UInt8 → List UInt8) : ∀ (l l' : List Stp) (q : List It × Nat), l'.map keyP = l.map (keyM fx) → l'.foldl stepP (mapIt fx q.1, q.2) = (mapIt fx (l.foldl stepP q).1, (l.foldl stepP q).2)
  | [], [], q, _ => rfl
  | [], _ :: _, q, h => by simp at h
  | _ :: _, [], q, h => by simp at h
  | p :: l, p' :: l', q, h => by
    rw [List.map_cons, List.map_cons] at h
    injection h with h1 h2
    rw [List.foldl_cons, List.foldl_cons, stepP_map fx q p p' h1]
    exact play_map fx l l' (stepP q p) h2
theorem playK_allG (l : List Stp) : playK l l.length = l.foldl stepP ([], 0) := by unfold playK; rw [List.take_length]
theorem playK_map (fx : List UInt8 → List UInt8) (l l' : List Stp) (h : l'.map keyP = l.map (keyM fx)) : playK l' l'.length = (mapIt fx (playK l l.length).1, (playK l l.length).2) := by
  rw [playK_allG, playK_allG]
  exact play_map fx l l' ([], 0) h
theorem ListRenderG (fx : List UInt8 → List UInt8) (l : List Stp) (v : Value) (s : Sty) (hs : ShortSt s) (hname : s.name = []) (hnw : s.newline = [10]) (w : World) (hl : l.length ≤ 1000) (hok : ∀ p ∈ l, StOk p) (hb : (playK l l.length).1.length ≤ 2000 ∧ ∀ it ∈ (playK l l.length).1, it.1 ≤ 200 ∧ it.2.length ≤ 1000 ∧ (fx it.2).length ≤ 1000) (hAp : ∀ it ∈ (playK l l.length).1, ApOk w.heap.size w s.fmt it.2 (fx it.2)) (h : RdSt w v l) :
    Calls Tryd.prog 11 #[v, .agg #[.int .i64 s.fmt, .string ⟨s.single.toArray⟩, .string ⟨s.top.toArray⟩, .string ⟨s.first.toArray⟩, .string ⟨s.middle.toArray⟩, .string ⟨s.vert.toArray⟩, .string ⟨s.bottom.toArray⟩, .string ⟨s.newline.toArray⟩, .string ⟨s.pre.toArray⟩]] w fun e w' => e = .returned (.string ⟨(renderG fx s (playK l l.length).1).toArray⟩) ∧ Below w.heap.size w w' := by
  obtain ⟨W1, hW1⟩ : ∃ W, W = w.alloc (.cells #[.int .i64 s.fmt, .string ⟨s.single.toArray⟩, .string ⟨s.top.toArray⟩, .string ⟨s.first.toArray⟩, .string ⟨s.middle.toArray⟩, .string ⟨s.vert.toArray⟩, .string ⟨s.bottom.toArray⟩, .string ⟨s.newline.toArray⟩, .string ⟨s.pre.toArray⟩] 24) := ⟨_, rfl⟩
  have hbW : Below w.heap.size w W1 := by rw [hW1]; exact (Below.refl _ w).alloc (Nat.le_refl _) _
  have hzW : W1.heap.size = w.heap.size + 1 := by rw [hW1]; simp
  have KL := hid (listOf_calls l v W1 (by omega) hok (h.below hbW))
  obtain ⟨s1, s2⟩ := hb
  have HB := hid (show W1.heap[w.heap.size]? = some (.cells #[.int .i64 s.fmt, .string ⟨s.single.toArray⟩, .string ⟨s.top.toArray⟩, .string ⟨s.first.toArray⟩, .string ⟨s.middle.toArray⟩, .string ⟨s.vert.toArray⟩, .string ⟨s.bottom.toArray⟩, .string ⟨s.newline.toArray⟩, .string ⟨s.pre.toArray⟩] 24 (0, 0)) by rw [hW1]; exact alloc_heap_new w _)
  generalize hq : playK l l.length = q at *
  obtain ⟨items, lev⟩ := q
  simp only at *
  clear hq
  have hv := hs.vert
  have hp := hs.pre
  have hn := hs.newline
  have KR := hid (fun (st : Value) (iv : Value) (ps : List Value) (w1 : World) (b1 : W1.heap.size ≤ w1.heap.size) (hB : Below W1.heap.size W1 w1) (hst : StOf w1 W1.heap.size st s) (H : LAt w1 W1.heap.size W1.heap.size items lev [] st 0 ⟨#[]⟩ iv ps) =>
    show Calls Tryd.prog 21 #[.pointer (some ⟨W1.heap.size, 0, none⟩)] w1 (fun e w' => e = .returned (.string ⟨(renderG fx s items).toArray⟩) ∧ Below W1.heap.size w1 w') from (RenderG_more fx W1.heap.size W1.heap.size items lev [] st s 0 ⟨#[]⟩ iv ps w1 b1 H hst (by omega) (by omega) (by omega) (by omega) (fun it hit => by have := s2 it hit; omega) (fun it hit => (s2 it hit).2.2) (fun it hit W hW => hAp it hit W (hbW.trans ((hB.trans hW).mono hbW.size)))
      (fun it hit => by rw [textF_nl hnw]; have := s2 it hit; omega) (by
        rw [← render_map]
        have := out_lenG hs hnw (mapIt fx items) none (fun it hit => by
          obtain ⟨x, hx, rfl⟩ := List.mem_map.1 hit
          have := s2 x hx
          exact ⟨this.1, this.2.2⟩)
        have e : (mapIt fx items).length = items.length := by unfold mapIt; rw [List.length_map]
        unfold renderF
        omega)).mono fun e w' h => ⟨h.1, h.2.1⟩)
  have KT := hid (fun (w' : World) => listStyle_calls s hname w')
  have KSt := hid (fun (iv : Value) (ps : List Value) (w1 : World) (b1 : W1.heap.size ≤ w1.heap.size) (H : LAt w1 W1.heap.size W1.heap.size items lev [] (.pointer none) 0 ⟨#[]⟩ iv ps) => SetStyle_calls W1.heap.size W1.heap.size items lev [] (.pointer none) s hname 0 ⟨#[]⟩ iv ps w1 b1 H)
  have HbW := hid hbW
  have HzW := hid hzW
  have HW1 := hid hW1
  rw [hW1] at KL
  clear s1 s2 hok h hv hp hn hbW hzW hW1 hs hAp hnw
  go_enter Tryd.func11, Tryd.ntmps11
  go_wp2_with (first
    | (go_at_call 18; (with_reducible refine KL.out.mono ?_); rintro e w1 ⟨rfl, hb1, iv, ps, H1⟩; rw [← HW1.out] at hb1 H1; have HH := heap_keep HB.out hb1; have z0 : w1.cell? ⟨w.heap.size, 0, none⟩ = some (.int .i64 s.fmt) := blk_cell HH 0; have z1 : w1.cell? ⟨w.heap.size, 1, none⟩ = some (.string ⟨s.single.toArray⟩) := blk_cell HH 1; have z2 : w1.cell? ⟨w.heap.size, 2, none⟩ = some (.string ⟨s.top.toArray⟩) := blk_cell HH 2; have z3 : w1.cell? ⟨w.heap.size, 3, none⟩ = some (.string ⟨s.first.toArray⟩) := blk_cell HH 3; have z4 : w1.cell? ⟨w.heap.size, 4, none⟩ = some (.string ⟨s.middle.toArray⟩) := blk_cell HH 4; have z5 : w1.cell? ⟨w.heap.size, 5, none⟩ = some (.string ⟨s.vert.toArray⟩) := blk_cell HH 5; have z6 : w1.cell? ⟨w.heap.size, 6, none⟩ = some (.string ⟨s.bottom.toArray⟩) := blk_cell HH 6; have z7 : w1.cell? ⟨w.heap.size, 7, none⟩ = some (.string ⟨s.newline.toArray⟩) := blk_cell HH 7; have z8 : w1.cell? ⟨w.heap.size, 8, none⟩ = some (.string ⟨s.pre.toArray⟩) := blk_cell HH 8; have HH1 := hid H1; have Hb1 := hid hb1; clear H1 hb1 HH)
    | (go_at_call 20; (with_reducible refine (KT.out _).mono ?_); rintro e w2 ⟨rfl, hb2⟩; have Hb2 := hid (Hb1.out.trans (hb2.mono Hb1.out.size)); have KS2 := hid (KSt.out iv ps w2 Hb2.out.size (HH1.out.below hb2)); clear hb2)
    | (go_at_call 19; rw [HzW.out] at KS2; (with_reducible refine KS2.out.mono ?_); rintro e w3 ⟨rfl, hb3, sb, hsb, hst, H3⟩; rw [← HzW.out] at hb3 hsb H3; have Hb3 := hid (Hb2.out.trans hb3); have KR3 := hid (KR.out _ iv ps w3 Hb3.out.size Hb3.out (.inr ⟨sb, rfl, hsb, hst⟩) H3); rw [HzW.out] at KR3; clear hb3 hst H3)
    | (go_at_call 21; (with_reducible refine KR3.out.mono ?_); rintro e w4 ⟨rfl, hb4⟩; rw [← HzW.out] at hb4))
  go_ret
  refine ⟨rfl, HbW.out.trans ((Hb3.out.trans hb4).mono (by have := HzW.out; omega))⟩
end Go.Proofs.YthjpchabeemfmaaDoor

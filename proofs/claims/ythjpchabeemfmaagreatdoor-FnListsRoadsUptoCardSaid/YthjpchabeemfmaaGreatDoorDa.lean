import Derived.Test.YthjpchabeemfmaaGreatDoorLg
import Derived.Test.YthjpchabeemfmaaGreatDoorGh
import Derived.Test.YthjpchabeemfmaaGreatDoorGa
import Derived.Test.YthjpchabeemfmaaGreatDoorGb
namespace Go.Proofs.YthjpchabeemfmaaGreatDoor
open Go.RowKit
set_option linter.unusedVariables false
set_option linter.unusedSimpArgs false
set_option maxHeartbeats 4000000
set_option maxRecDepth 100000
attribute [local go_sem] S_extract S_append run_cut_S run_head_S run_tail_S Nat.add_sub_cancel_left

/-! what a list rendered in a style is -/
/-- whether more comes at a level -/
def moreF (lev : Nat) : List It → Bool
  | [] => false
  | x :: t => if x.1 < lev then false else if x.1 = lev then true else moreF lev t
/-- what connects the levels from l on -/
def linksF (vert sp : List UInt8) (t : List It) : Nat → Nat → List UInt8
  | _, 0 => []
  | l, n + 1 => (if moreF l t then vert else sp) ++ linksF vert sp t (l + 1) n
structure Hint where
  top : Bool
  first : Bool
  only : Bool
  last : Bool
  bottom : Bool
def Hint.val (h : Hint) : Value := .agg #[.bool h.top, .bool h.first, .bool h.only, .bool h.last, .bool h.bottom]
def bulletF (s : Sty) (h : Hint) : List UInt8 :=
  if h.only then (if h.top then s.single else s.bottom) else if h.top then s.top else if h.first then s.first else if h.bottom then s.bottom else if h.last then s.bottom else s.middle
/-- a text, parted at each line end -/
def splitN : List UInt8 → List (List UInt8)
  | [] => [[]]
  | b :: t => if b = 10 then [] :: splitN t else match splitN t with
    | [] => [[b]]
    | l :: r => (b :: l) :: r
theorem splitN_ne (l : List UInt8) : splitN l ≠ [] := by
  cases l with
  | nil => simp [splitN]
  | cons b t =>
    unfold splitN
    split
    · simp
    · split <;> simp
def hintF (prev : Option Nat) (x : It) (t : List It) : Hint :=
  let first := match prev with
    | none => true
    | some p => decide (p < x.1)
  let last := !moreF x.1 t
  ⟨prev.isNone, first, first && last, last, t.isEmpty⟩
/-- a text's lines as they are rendered -/
def textF (s : Sty) (t : List UInt8) : List UInt8 := if s.newline = [10] then t else repAll [10] s.newline t
/-- what stands behind what is ahead, in the line k -/
def markF (s : Sty) (sp : List UInt8) (h : Hint) (k : Nat) : List UInt8 := if k = 0 then bulletF s h ++ [32] else if h.last then sp else s.vert
def linesF (s : Sty) (sp : List UInt8) (h : Hint) (ahead : List UInt8) : Nat → List (List UInt8) → List UInt8
  | _, [] => []
  | k, l :: r => (if 0 < k then [10] else []) ++ (ahead ++ (markF s sp h k ++ (l ++ linesF s sp h ahead (k + 1) r)))
def aheadF (s : Sty) (sp : List UInt8) (x : It) (t : List It) : List UInt8 := s.pre ++ linksF s.vert sp t 0 x.1
def itemF (s : Sty) (sp : List UInt8) (prev : Option Nat) (x : It) (t : List It) : List UInt8 :=
  (if prev.isSome then [10] else []) ++ linesF s sp (hintF prev x t) (aheadF s sp x t) 0 (splitN (textF s x.2))
def outF (s : Sty) (sp : List UInt8) : Option Nat → List It → List UInt8
  | _, [] => []
  | prev, x :: t => itemF s sp prev x t ++ outF s sp (some x.1) t
def spacesF (s : Sty) : List UInt8 := List.replicate (Lib.runeCount ⟨s.vert.toArray⟩) 32
def renderF (s : Sty) (items : List It) : List UInt8 := outF s (spacesF s) none items

/-- what is neither a builder nor a row of bytes stays -/
def KeepB (w w' : World) : Prop := ∀ (g : Nat) (cs : Array Value) (t : Nat) (fz : Nat × Nat), w.heap[g]? = some (.cells cs t fz) → t ≠ 72 → t ≠ 5 → w'.heap[g]? = some (.cells cs t fz)
theorem KeepB.refl (w : World) : KeepB w w := fun _ _ _ _ h _ _ => h
theorem KeepB.trans {w w1 w2 : World} (h : KeepB w w1) (h' : KeepB w1 w2) : KeepB w w2 := fun g cs t fz h0 a b => h' g cs t fz (h g cs t fz h0 a b) a b
theorem KeepB.of_below {w w' : World} (h : Below w.heap.size w w') : KeepB w w' := fun g cs t fz h0 _ _ => heap_keep h0 h
theorem KeepB.own {w w' : World} (h : KeepB w w') {base e sz n : Nat} {v : Value} {xs : List Value} (ho : w.ownsRow base e sz v n xs) (h1 : e ≠ 72) (h2 : e ≠ 5) : w'.ownsRow base e sz v n xs :=
  own_step ho fun k hk => by
    obtain ⟨C, fz, hC⟩ := own_typed ho k hk
    exact (h _ _ _ _ hC h1 h2).trans hC.symm

/-! a list with its style, and a builder beside it -/
structure RB (w0 w : World) (base b bb sb : Nat) (items : List It) (lev : Nat) (cls : List UInt8) (s : Sty) (ap : Int) (sp : List UInt8) (iv : Value) (ps : List Value) (acc : List UInt8) : Prop where
  lb : LB w0 w base b bb items lev cls (.pointer (some ⟨sb, 0, none⟩)) ap ⟨sp.toArray⟩ iv ps acc
  sty : w.heap[sb]? = some (.cells (styCells s) 56 (0, 0))
  kept : KeepB w0 w
theorem RB.restart {w0 w : World} {base b bb sb : Nat} {items : List It} {lev : Nat} {cls : List UInt8} {s : Sty} {ap : Int} {sp : List UInt8} {iv : Value} {ps : List Value} {acc : List UInt8} (h : RB w0 w base b bb sb items lev cls s ap sp iv ps acc) : RB w w base b bb sb items lev cls s ap sp iv ps acc :=
  ⟨⟨h.lb.list, h.lb.bld, Below.refl _ _, h.lb.size⟩, h.sty, KeepB.refl _⟩
theorem RB.join {w0 w w' : World} {base b bb sb : Nat} {items : List It} {lev : Nat} {cls : List UInt8} {s : Sty} {ap : Int} {sp : List UInt8} {iv : Value} {ps : List Value} {acc acc' : List UInt8} (h : RB w0 w base b bb sb items lev cls s ap sp iv ps acc) (h' : RB w w' base b bb sb items lev cls s ap sp iv ps acc') : RB w0 w' base b bb sb items lev cls s ap sp iv ps acc' :=
  ⟨⟨h'.lb.list, h'.lb.bld, h.lb.below.trans h'.lb.below, h'.lb.size⟩, h'.sty, h.kept.trans h'.kept⟩
theorem RB.call {w0 w w' : World} {base b bb sb : Nat} {items : List It} {lev : Nat} {cls : List UInt8} {s : Sty} {ap : Int} {sp : List UInt8} {iv : Value} {ps : List Value} {acc : List UInt8} (h : RB w0 w base b bb sb items lev cls s ap sp iv ps acc) (hb : Below w.heap.size w w') : RB w0 w' base b bb sb items lev cls s ap sp iv ps acc :=
  ⟨h.lb.call hb, heap_keep h.sty hb, h.kept.trans (KeepB.of_below hb)⟩
theorem RB.write {w0 w w' : World} {base b bb sb : Nat} {items : List It} {lev : Nat} {cls : List UInt8} {s : Sty} {ap : Int} {sp : List UInt8} {iv : Value} {ps : List Value} {acc acc' : List UInt8} (h : RB w0 w base b bb sb items lev cls s ap sp iv ps acc) (hb : Bld w' base bb acc') (hl : Below base w w') (ho : Lib.OthersKept 5 (some bb) w w') : RB w0 w' base b bb sb items lev cls s ap sp iv ps acc' := by
  obtain ⟨cs, fz, hbb⟩ := h.lb.bld.block
  have hk : KeepB w w' := fun g cs' t fz' h0 a1 a2 => ho g _ h0 (fun e => by injection e with e; exact ty_ne h0 hbb a1 e) (fun c fz'' e => by injection e with _ e2 _; exact a2 e2)
  exact ⟨h.lb.write hb hl ho, hk sb _ _ _ h.sty (by decide) (by decide), h.kept.trans hk⟩
theorem WS_RB {w0 w : World} {base b bb sb : Nat} {items : List It} {lev : Nat} {cls : List UInt8} {st : Sty} {ap : Int} {sp : List UInt8} {iv : Value} {ps : List Value} {acc : List UInt8} (h : RB w0 w base b bb sb items lev cls st ap sp iv ps acc) (s : List UInt8) (hl : acc.length + s.length ≤ 140737488355328) :
    Calls Tryz.prog 65 #[.pointer (some ⟨bb, 0, none⟩), .string ⟨s.toArray⟩] w fun e w' => e = .returned (.tuple #[.int .i64 s.length, .nilIface]) ∧ RB w0 w' base b bb sb items lev cls st ap sp iv ps (acc ++ s) := by
  refine (WriteString_calls base bb acc s w h.lb.bld hl h.lb.size).mono ?_
  rintro e w' ⟨rfl, h1, h2, h3, _⟩
  exact ⟨rfl, h.write h1 h2 h3⟩
theorem WR_RB {w0 w : World} {base b bb sb : Nat} {items : List It} {lev : Nat} {cls : List UInt8} {st : Sty} {ap : Int} {sp : List UInt8} {iv : Value} {ps : List Value} {acc : List UInt8} (h : RB w0 w base b bb sb items lev cls st ap sp iv ps acc) (r : Int) (hr0 : 0 ≤ r) (hr : r < 128) (hl : acc.length + 4 ≤ 140737488355328) :
    Calls Tryz.prog 58 #[.pointer (some ⟨bb, 0, none⟩), .int .i32 r] w fun e w' => (∃ n : Nat, e = .returned (.tuple #[.int .i64 n, .nilIface])) ∧ RB w0 w' base b bb sb items lev cls st ap sp iv ps (acc ++ [r.toNat.toUInt8]) := by
  refine (WriteRune_calls base bb acc r (by omega) (by omega) w h.lb.bld hl h.lb.size).mono ?_
  rintro e w' ⟨h0, h1, h2, h3, _⟩
  rw [Lib.encodeRune, Lib.encodeRuneZ_one (by omega) (by omega)] at h1
  exact ⟨h0, h.write h1 h2 h3⟩

theorem more_calls (base b : Nat) (items : List It) (lev : Nat) (cls : List UInt8) (st : Value) (ap : Int) (sp : ByteArray) (iv : Value) (ps : List Value) (w : World) (H : LAt w base b items lev cls st ap sp iv ps) (hn : items.length ≤ 1000000) (hi : ∀ it ∈ items, it.1 ≤ 1000000) (l k : Nat) (hl : l ≤ 1000000) (hk : k ≤ 1000000) :
    Calls Tryz.prog 45 #[.pointer (some ⟨b, 0, none⟩), .int .i64 l, .int .i64 k] w fun e w' => e = .returned (.bool (moreF l (items.drop (k + 1)))) ∧ w = w' := by
  obtain ⟨A0, c0, rfl, _⟩ := own_slice H.own
  have hc3 : w.cell? ⟨b, 3, none⟩ = some (.slice A0 items.length c0) := blk_cell H.row 3
  go_enter Tryz.func45, Tryz.ntmps45
  go_wp2_with fail
  go_loop [7] (fun v => ∃ j : Nat, v = .int .i64 j ∧ j ≤ 2000000 ∧ Hid (moreF l (items.drop j) = moreF l (items.drop (k + 1)))) (fun v => 2000001 - (intOf v).toNat)
  case atStart => exact ⟨k + 1, by go_num, by omega, hid rfl⟩
  case round =>
    obtain ⟨j, rfl, hj, hT⟩ := hrel
    by_cases hlt : j < items.length
    · have hlt' : (j : Int) < (items.length : Int) := by omega
      obtain ⟨x, hx⟩ : ∃ x, items[j]? = some x := ⟨_, List.getElem?_eq_getElem hlt⟩
      obtain ⟨gx, hpx, _, _⟩ := H.items.2 j x hx
      obtain ⟨gr, cr, hv, _, _, _, _⟩ := own_cells H.own (by omega)
      injection hv with hv1 hv2 hv3
      subst hv1 hv3
      have HDR := hid (show items.drop j = x :: items.drop (j + 1) by rw [List.drop_eq_getElem_cons hlt, (List.getElem?_eq_some_iff.1 hx).2])
      have hx1 := hi x (List.mem_of_getElem? hx)
      have qp : w.cell? ⟨gr, j, none⟩ = some (.pointer (some ⟨gx, 0, none⟩)) := H.cellAt hpx
      have qx0 : w.cell? ⟨gx, 0, none⟩ = some (.int .i64 x.1) := blk_cell (H.itemAt hx hpx) 0
      clear hx hpx
      by_cases h1 : x.1 < l
      · have h1' : (x.1 : Int) < (l : Int) := by omega
        have hF := hid (show moreF l (items.drop (k + 1)) = false by rw [← hT.out, HDR.out, moreF, if_pos h1])
        clear hT HDR
        go_wp2_with fail
        go_ret
        exact ⟨ret_bool hF.out.symm, rfl⟩
      · have h1' : ¬ (x.1 : Int) < (l : Int) := by omega
        by_cases h2 : x.1 = l
        · have h2' : ((x.1 : Int) == (l : Int)) = true := by simp [h2]
          have hF := hid (show moreF l (items.drop (k + 1)) = true by rw [← hT.out, HDR.out, moreF, if_neg h1, if_pos h2])
          clear hT HDR h2
          go_wp2_with fail
          go_ret
          exact ⟨ret_bool hF.out.symm, rfl⟩
        · have h2' : ((x.1 : Int) == (l : Int)) = false := by rw [beq_eq_false_iff_ne]; omega
          have hF := hid (show moreF l (items.drop (j + 1)) = moreF l (items.drop (k + 1)) by rw [← hT.out, HDR.out, moreF, if_neg h1, if_neg h2])
          clear hT HDR h2
          go_wp2_with fail
          go_round
          case rel => exact ⟨j + 1, by go_num, by omega, hF⟩
          case measure => simp [intOf]; omega
    · have hlt' : ¬ (j : Int) < (items.length : Int) := by omega
      have hF := hid (show moreF l (items.drop (k + 1)) = false by rw [← hT.out, List.drop_eq_nil_of_le (by omega)]; rfl)
      clear hT
      go_wp2_with fail
      go_ret
      exact ⟨ret_bool hF.out.symm, rfl⟩
end Go.Proofs.YthjpchabeemfmaaGreatDoor

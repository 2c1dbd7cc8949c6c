import Derived.Test.YthjpchabeemfmaaGreatDoorQc
import Derived.Test.YthjpchabeemfmaaGreatDoorMd
import Derived.Test.YthjpchabeemfmaaGreatDoorPx8
namespace Go.Proofs.YthjpchabeemfmaaGreatDoor.P
open Go.RowKit Go.Proofs.YthjpchabeemfmaaGreatDoorW.PrintWords Go.Proofs.YthjpchabeemfmaaGreatDoorW.PrintLast Go.Proofs.YthjpchabeemfmaaGreatDoorW.PrintMore
set_option linter.unusedVariables false
set_option linter.unusedSimpArgs false
set_option maxRecDepth 100000
set_option maxHeartbeats 2000000

theorem bul_len {s : Sty} (h : ShortSt s) : ∀ z ∈ bul s, z.length ≤ 20 := by
  intro z hz
  simp only [bul, List.mem_cons, List.mem_nil_iff, or_false] at hz
  rcases hz with rfl | rfl | rfl | rfl | rfl
  · exact h.single
  · exact h.top
  · exact h.first
  · exact h.middle
  · exact h.bottom
theorem lineO_len {s : Sty} (h : ShortSt s) (p : Option Nat) (x : It) (t : List It) (h1 : x.1 ≤ 200) (h2 : x.2.length ≤ 200) : (lineO s (spacesF s) p x t).length ≤ 4300 := by
  have h3 := links_len h.vert (spacesF_len h) t x.1 0
  have h4 := bul_len h _ (bul_mem s (hintF p x t))
  have h5 := h.pre
  unfold lineO aheadF
  simp only [List.length_append, List.length_cons]
  omega
theorem outF_len {s : Sty} (h : ShortSt s) : ∀ (l : List It) (prev : Option Nat), (∀ it ∈ l, it.1 ≤ 200 ∧ it.2.length ≤ 200) → (∀ it ∈ l, textF s it.2 = it.2 ∧ ∀ b ∈ it.2, b ≠ 10) → (outF s (spacesF s) prev l).length ≤ 4301 * l.length
  | [], _, _, _ => by simp [outF]
  | x :: t, prev, h1, h2 => by
    have ih := outF_len h t (some x.1) (fun it hit => h1 it (by simp [hit])) (fun it hit => h2 it (by simp [hit]))
    obtain ⟨a1, a2⟩ := h1 x (by simp)
    obtain ⟨b1, b2⟩ := h2 x (by simp)
    have hl := lineO_len h prev x t a1 a2
    have hi : (if prev.isSome then ([10] : List UInt8) else []).length ≤ 1 := by split <;> simp
    rw [outF, item_line s _ prev x t b1 b2]
    simp only [List.length_append, List.length_cons]
    omega
theorem render_len {s : Sty} (h : ShortSt s) (l : List It) (hn : l.length ≤ 800) (h1 : ∀ it ∈ l, it.1 ≤ 200 ∧ it.2.length ≤ 200) (h2 : ∀ it ∈ l, textF s it.2 = it.2 ∧ ∀ b ∈ it.2, b ≠ 10) : (renderF s l).length ≤ 1000000000 := by
  have := outF_len h l none h1 h2
  unfold renderF
  omega

/-! the list of Markdown -/
theorem md_links (t : List It) : ∀ n l, linksF [32, 32] [32, 32] t l n = List.replicate (2 * n) (32 : UInt8)
  | 0, l => rfl
  | n + 1, l => by
    rw [linksF, ite_self, md_links t n (l + 1), show 2 * (n + 1) = 2 * n + 1 + 1 by omega, List.replicate_succ, List.replicate_succ]
    rfl
def mdLine (lev : Nat) (t : List UInt8) : List UInt8 := List.replicate (2 + 2 * lev) 32 ++ 42 :: 32 :: t
theorem md_spaces : spacesF mdS = [32, 32] := by rfl
theorem md_line (p : Option Nat) (x : It) (t : List It) : lineO mdS (spacesF mdS) p x t = mdLine x.1 x.2 := by
  have hb : bulletF mdS (hintF p x t) = [42] := by
    have := bul_mem mdS (hintF p x t)
    rw [show bul mdS = List.replicate 5 [42] from rfl] at this
    exact List.eq_of_mem_replicate this
  unfold lineO aheadF mdLine
  rw [md_spaces, hb]
  show ([32, 32] : List UInt8) ++ linksF [32, 32] [32, 32] t 0 x.1 ++ ([42] ++ 32 :: x.2) = _
  rw [md_links, show 2 + 2 * x.1 = 2 * x.1 + 1 + 1 by omega, List.replicate_succ, List.replicate_succ]
  simp
theorem mdLine_len (lev : Nat) (t : List UInt8) : (mdLine lev t).length = 4 + 2 * lev + t.length := by
  unfold mdLine
  simp only [List.length_append, List.length_replicate, List.length_cons]
  omega
theorem mdLine_blank (lev : Nat) (t : List UInt8) (j : Nat) (h : j < 2 + 2 * lev) : (mdLine lev t)[j]? = some 32 := by
  unfold mdLine
  rw [List.getElem?_append_left (by rw [List.length_replicate]; exact h), List.getElem?_replicate, if_pos h]
theorem mdLine_star (lev : Nat) (t : List UInt8) : (mdLine lev t)[2 + 2 * lev]? = some 42 := by
  unfold mdLine
  rw [List.getElem?_append_right (by rw [List.length_replicate]; exact Nat.le_refl _), List.length_replicate, Nat.sub_self]
  rfl
theorem mdLine_drop (lev : Nat) (t : List UInt8) : (mdLine lev t).drop (2 + 2 * lev) = 42 :: 32 :: t := by
  unfold mdLine
  exact List.drop_left' List.length_replicate
section
variable (LN : List ByteArray)
abbrev MB0 (k : Nat) (out : List Itm) (n : Int) := spec_LtMarkdownBack.l0 k out LN (LN.length : Int) n
abbrev MB1 (k : Nat) (out : List Itm) (line : List UInt8) (j : Int) (n : Int) := spec_LtMarkdownBack.l1 k out (S line) j LN (LN.length : Int) n
theorem md_blanks (R : List Itm × Bool) (lev : Nat) (t : List UInt8) (hlev : lev ≤ 1000) (ht : t.length ≤ 1000) (out : List Itm) (ho : out.length ≤ 1000000) (n : Int) (h : Ev (fun k => MB0 LN k (out ++ [(⟨S t, (lev : Int)⟩ : Itm)]) (wrap64 (n + 1))) R) :
    ∀ d j : Nat, j + d = 2 + 2 * lev → Ev (fun k => MB1 LN k out (mdLine lev t) (j : Int) n) R
  | 0, j, hj => by
    obtain rfl : j = 2 + 2 * lev := by omega
    have hl := mdLine_len lev t
    have hb := bt_get (S (mdLine lev t)) (n := 2 + 2 * lev) (b := 42) (by rw [L_S]; exact mdLine_star lev t)
    refine Ev.step (fun k => spec_LtMarkdownBack.l1.eq_2 _ _ _ _ _ _ k) (ev_pos (by rw [S_sz]; omega) (ev_pos (by omega) (ev_neg (by rw [hb]; decide) (ev_pos (by rw [S_sz]; omega) ?_))))
    have he : (S (mdLine lev t)).extract ((2 + 2 * lev : Nat) : Int).toNat (S (mdLine lev t)).size = S (42 :: 32 :: t) := by
      rw [Int.toNat_natCast, S_ext, S_sz, mdLine_drop, List.take_of_length_le (by simp only [List.length_cons]; omega)]
    rw [he]
    refine ev_some (begins_g (42 :: 32 :: t) [42, 32] (by simp only [List.length_cons]; omega) (by decide)) ?_
    rw [if_pos (show bg (42 :: 32 :: t) [42, 32] from rfl)]
    refine ev_pos rfl (ev_neg (by omega) (ev_neg ?_ (ev_pos (by omega) ?_)))
    · rw [Int.tmod_eq_emod_of_nonneg (by omega)]
      omega
    · have hv : wrap64 (wrap64 (Int.tdiv ((2 + 2 * lev : Nat) : Int) 2) - 1) = (lev : Int) := by
        rw [Int.tdiv_eq_ediv_of_nonneg (by omega)]
        unfold wrap64
        omega
      rw [hv]
      exact h
  | d + 1, j, hj => by
    have hl := mdLine_len lev t
    have ih := md_blanks R lev t hlev ht out ho n h d (j + 1) (by omega)
    have hb := bt_get (S (mdLine lev t)) (n := j) (b := 32) (by rw [L_S]; exact mdLine_blank lev t j (by omega))
    have hw := w1 j (by omega)
    refine Ev.step (fun k => spec_LtMarkdownBack.l1.eq_2 _ _ _ _ _ _ k) (ev_pos (by rw [S_sz]; omega) (ev_pos (by omega) (ev_pos (by rw [hb]; rfl) ?_)))
    rw [hw]
    exact ih
theorem md_all (its : List It) (hn : its.length ≤ 100000) (hi : ∀ it ∈ its, it.1 ≤ 1000 ∧ it.2.length ≤ 1000) (hLN : LN = (linesO mdS (spacesF mdS) none its).map S) :
    ∀ d n : Nat, n + d = its.length → Ev (fun k => MB0 LN k ((its.take n).map toI) (n : Int)) (its.map toI, true)
  | 0, n, hd => by
    have hl : LN.length = its.length := by rw [hLN, List.length_map, linesO_len]
    rw [List.take_of_length_le (by omega)]
    exact Ev.step (fun k => spec_LtMarkdownBack.l0.eq_2 _ _ _ _ k) (ev_neg (by omega) (Ev.now _))
  | d + 1, n, hd => by
    have hl : LN.length = its.length := by rw [hLN, List.length_map, linesO_len]
    have hlt : n < its.length := by omega
    obtain ⟨x, hx⟩ : ∃ x, its[n]? = some x := ⟨_, List.getElem?_eq_getElem hlt⟩
    obtain ⟨hx1, hx2⟩ := hi x (List.mem_of_getElem? hx)
    have ih := md_all its hn hi hLN d (n + 1) (by omega)
    obtain ⟨p, hp⟩ := linesO_get mdS (spacesF mdS) its none n x hx
    have hg : rdOf ByteArray.empty LN (n : Int) = S (mdLine x.1 x.2) := by
      rw [hLN]
      exact rdOf_at (by rw [List.getElem?_map, hp, md_line]; rfl)
    have hw : wrap64 ((n : Int) + 1) = ((n + 1 : Nat) : Int) := w1 n (by omega)
    have htk : (its.take (n + 1)).map toI = (its.take n).map toI ++ [(⟨S x.2, (x.1 : Int)⟩ : Itm)] := by rw [List.take_add_one, hx, List.map_append]; rfl
    refine Ev.step (fun k => spec_LtMarkdownBack.l0.eq_2 _ _ _ _ k) (ev_pos (by omega) (ev_pos (by omega) (ev_pos (by omega) ?_)))
    rw [hg]
    refine md_blanks LN _ x.1 x.2 hx1 hx2 _ (by rw [List.length_map, List.length_take]; omega) (n : Int) ?_ (2 + 2 * x.1) 0 (by omega)
    rw [hw, ← htk]
    exact ih
end
theorem md_lineSt : LineSt mdS := ⟨LineT.ascii _ (by decide), LineT.ascii _ (by decide), LineT.ascii _ (by decide), LineT.ascii _ (by decide), LineT.ascii _ (by decide), LineT.ascii _ (by decide), LineT.ascii _ (by decide)⟩
theorem md_text (t : List UInt8) (h : ∀ b ∈ t, b ≠ 10) : textF mdS t = t := by
  unfold textF
  split
  · rfl
  · exact repAll_no h
/-- a list of Markdown reads back -/
theorem mdBack_f (its : List It) (hne : its ≠ []) (hn : its.length ≤ 800) (hi : ∀ it ∈ its, it.1 ≤ 200 ∧ it.2.length ≤ 200) (ht : ∀ it ∈ its, LineT it.2 ∧ ∀ b ∈ it.2, b ≠ 10) :
    Ev (fun k => spec_LtMarkdownBack.f k (S (renderF mdS its))) (its.map toI, true) := by
  have h2 : ∀ it ∈ its, textF mdS it.2 = it.2 ∧ LineT it.2 ∧ ∀ b ∈ it.2, b ≠ 10 := fun it hit => ⟨md_text _ (ht it hit).2, ht it hit⟩
  refine ev_some (render_linesL md_lineSt md_short its hne hi h2 hn (render_len md_short its hn hi fun it hit => ⟨(h2 it hit).1, (h2 it hit).2.2⟩)) ?_
  exact md_all ((linesO mdS (spacesF mdS) none its).map S) its (by omega) (fun it hit => by have := hi it hit; omega) rfl its.length 0 (by omega)

/-! the width of a connector without wide runes -/
theorem runesFrom_count (s : ByteArray) : ∀ fuel pos, (runesFrom s fuel pos).length = Lib.runeCountFrom s fuel pos
  | 0, _ => rfl
  | fuel + 1, pos => by
    unfold runesFrom Lib.runeCountFrom
    split
    · rw [List.length_cons, runesFrom_count s fuel]; omega
    · rfl
theorem width_L : ∀ l : List Int, (∀ r ∈ l, r ≠ 10 ∧ txWide r = false) → txWidthL l = l.length
  | [], _ => rfl
  | r :: t, h => by
    obtain ⟨h1, h2⟩ := h r (by simp)
    rw [txWidthL, if_neg h1, width_L t fun x hx => h x (by simp [hx]), List.length_cons]
    unfold txColumns
    rw [h2]
    show 1 + t.length = _
    omega
theorem width_f (v : List UInt8) (hv : v.length ≤ 1000) (h : ∀ r ∈ runes ⟨v.toArray⟩, r ≠ 10 ∧ txWide r = false) : spec_TxWidth.f (S v) = some ((Lib.runeCount ⟨v.toArray⟩ : Nat) : Int) := by
  unfold spec_TxWidth.f
  rw [if_pos (by rw [S_sz]; omega)]
  show some ((txWidthL (runes ⟨v.toArray⟩) : Nat) : Int) = _
  rw [width_L _ h]
  unfold runes
  rw [runesFrom_count]
  rfl
theorem count_pos (v : List UInt8) (h : v ≠ []) : Lib.runeCount ⟨v.toArray⟩ ≠ 0 := by
  cases v with
  | nil => exact absurd rfl h
  | cons b t =>
    unfold Lib.runeCount
    have hs : (⟨(b :: t).toArray⟩ : ByteArray).size = t.length + 1 := by rw [S_size]; rfl
    rw [hs, Lib.runeCountFrom, if_pos (by rw [hs]; omega)]
    omega
end Go.Proofs.YthjpchabeemfmaaGreatDoor.P

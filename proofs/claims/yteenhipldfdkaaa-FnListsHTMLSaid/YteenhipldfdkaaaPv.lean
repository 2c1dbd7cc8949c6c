import Derived.Test.YteenhipldfdkaaaPg
import Derived.Test.YteenhipldfdkaaaPx9
namespace Go.Proofs.Yteenhipldfdkaaa.P
open Go.RowKit Go.Proofs.YteenhipldfdkaaaW.PrintWords Go.Proofs.YteenhipldfdkaaaW.PrintLast Go.Proofs.YteenhipldfdkaaaW.PrintMore
set_option linter.unusedVariables false
set_option linter.unusedSimpArgs false
set_option maxRecDepth 100000
set_option maxHeartbeats 2000000

theorem nums_one (n : Nat) (h : n ≤ 9) : strOfNums [(wrap64 (48 + (n : Int))) % 256] = S [UInt8.ofNat (48 + n)] := by
  rw [wi _ (by omega) (by omega)]
  have : ((48 + (n : Int)) % 256).toNat = 48 + n := by omega
  unfold strOfNums S
  simp [this]
theorem dec_f : ∀ (m n : Nat), n ≤ m → n ≤ 1000000 → Ev (fun k => spec_Decimal.f k (n : Int)) (S (Lib.decDigits n))
  | m, n, hm, hn => by
    by_cases h10 : n < 10
    · refine Ev.step (fun k => spec_Decimal.f.eq_2 _ k) (ev_neg (by omega) (ev_pos (by omega) ?_))
      rw [nums_one n (by omega), Lib.decDigits_one h10]
      exact Ev.now _
    · cases m with
      | zero => omega
      | succ m =>
        have ih := dec_f m (n / 10) (by omega) (by omega)
        have e1 : wrap64 (Int.tdiv (n : Int) 10) = ((n / 10 : Nat) : Int) := by
          rw [Int.tdiv_eq_ediv_of_nonneg (by omega), wi _ (by omega) (by omega)]
          omega
        have e2 : Int.tmod (n : Int) 10 = ((n % 10 : Nat) : Int) := by
          rw [Int.tmod_eq_emod_of_nonneg (by omega)]
          omega
        have e3 : Lib.decDigits n = Lib.decDigits (n / 10) ++ [UInt8.ofNat (48 + n % 10)] := by
          conv => lhs; rw [Lib.decDigits, dif_neg h10]
        have hl : (Lib.decDigits (n / 10)).length ≤ 20 := decDigits_len _ (by omega)
        refine Ev.step (fun k => spec_Decimal.f.eq_2 _ k) (ev_neg (by omega) (ev_neg (by omega) ?_))
        rw [e1, e2]
        refine ev_bind ih (ev_some rfl ?_)
        rw [nums_one (n % 10) (by omega)]
        refine ev_pos (by rw [S_sz, S_sz]; simp; omega) ?_
        rw [S_app, ← e3]
        exact Ev.now _
theorem times_pad (n : Nat) (h : n ≤ 1000000) : spec_TxTimes.f (⟨#[32, 32]⟩ : ByteArray) (n : Int) = some (S (pad2 n)) := by
  unfold spec_TxTimes.f
  rw [if_pos ⟨by decide, by omega, by omega⟩]
  rfl

section
variable (cl : List UInt8) (hcl : cl.length ≤ 1000) (items : List Itm) (i : Int) (R : ByteArray)
include hcl
theorem html_opens (t : ByteArray) (lv : Nat) (hlv : lv ≤ 400) : ∀ (n lev : Nat) (acc : List UInt8), lev + n = lv → acc.length + 3000 * n ≤ 1000000000 →
    Ev (fun k => spec_LsHTML.l2 k (S cl) (S (acc ++ opens cl lev n)) (lv : Int) items (items.length : Int) i t (lv : Int)) R →
    Ev (fun k => spec_LsHTML.l1 k (S cl) (S acc) (lev : Int) items (items.length : Int) i t (lv : Int)) R
  | 0, lev, acc, h, ha, hb => by
    obtain rfl : lev = lv := by omega
    refine Ev.step (fun k => spec_LsHTML.l1.eq_2 _ _ _ _ _ _ _ _ k) (ev_neg (by omega) ?_)
    simpa [opens] using hb
  | n + 1, lev, acc, h, ha, hb => by
    have hd := decDigits_len (lev + 1) (by omega)
    have hp := pad2_len (lev + 1)
    have e1 : wrap64 ((lev : Int) + 1) = ((lev + 1 : Nat) : Int) := w1 lev (by omega)
    have eU : ((((((((⟨#[10]⟩ : ByteArray) ++ S (pad2 (lev + 1))) ++ (⟨#[60, 117, 108, 32, 99, 108, 97, 115, 115, 61, 34]⟩ : ByteArray)) ++ S cl) ++ (⟨#[45]⟩ : ByteArray)) ++ S (Lib.decDigits (lev + 1))) ++ (⟨#[34, 62]⟩ : ByteArray))) = S (ulO cl lev) := by
      simp only [lit, S_app]
      unfold ulO
      simp
    have hU : (ulO cl lev).length ≤ 3000 := by
      unfold ulO
      simp only [List.length_append, List.length_cons, List.length_nil]
      omega
    refine Ev.step (fun k => spec_LsHTML.l1.eq_2 _ _ _ _ _ _ _ _ k) (ev_pos (by omega) ?_)
    rw [e1]
    refine ev_some (times_pad (lev + 1) (by omega)) ?_
    refine ev_pos (by rw [S_sz]; omega) ?_
    refine ev_pos (by simp only [lit, S_app, S_sz, List.length_append, List.length_cons, List.length_nil]; omega) ?_
    refine ev_pos (by simp only [lit, S_app, S_sz, List.length_append, List.length_cons, List.length_nil]; omega) ?_
    refine ev_pos (by simp only [lit, S_app, S_sz, List.length_append, List.length_cons, List.length_nil]; omega) ?_
    refine ev_bind (dec_f (lev + 1) (lev + 1) (Nat.le_refl _) (by omega)) ?_
    refine ev_pos (by simp only [lit, S_app, S_sz, List.length_append, List.length_cons, List.length_nil]; omega) ?_
    refine ev_pos (by simp only [lit, S_app, S_sz, List.length_append, List.length_cons, List.length_nil]; omega) ?_
    rw [eU]
    refine ev_pos (by rw [S_sz, S_sz]; omega) ?_
    rw [S_app]
    refine html_opens t lv hlv n (lev + 1) (acc ++ ulO cl lev) (by omega) (by rw [List.length_append]; omega) ?_
    simpa [opens] using hb
end
section
variable (cl : List UInt8) (items : List Itm) (i : Int) (R : ByteArray)
theorem html_closes (t : List UInt8) (ht : t.length ≤ 10000) (lv : Nat) (hlv : lv ≤ 1000) (hi0 : 0 ≤ i) (hi : i < 1000000) : ∀ (n lev : Nat) (acc : List UInt8), lev = lv + n → lev ≤ 1000 → acc.length + 3000 * n + 20000 ≤ 1000000000 →
    Ev (fun k => spec_LsHTML.l0 k (S cl) (S (acc ++ (closes lev n ++ liS lv t))) (lv : Int) items (items.length : Int) (i + 1)) R →
    Ev (fun k => spec_LsHTML.l2 k (S cl) (S acc) (lev : Int) items (items.length : Int) i (S t) (lv : Int)) R
  | 0, lev, acc, h, hlev, ha, hb => by
    obtain rfl : lev = lv := by omega
    have hp := pad2_len (lev + 1)
    have e1 : wrap64 ((lev : Int) + 1) = ((lev + 1 : Nat) : Int) := w1 lev (by omega)
    have eL : ((((⟨#[10]⟩ : ByteArray) ++ S (pad2 (lev + 1))) ++ (⟨#[60, 108, 105, 62]⟩ : ByteArray)) ++ S t) ++ (⟨#[60, 47, 108, 105, 62]⟩ : ByteArray) = S (liS lev t) := by
      simp only [lit, S_app]
      unfold liS
      simp
    have hL : (liS lev t).length ≤ 13000 := by
      unfold liS
      simp only [List.length_append, List.length_cons, List.length_nil]
      omega
    refine Ev.step (fun k => spec_LsHTML.l2.eq_2 _ _ _ _ _ _ _ _ k) (ev_neg (by omega) ?_)
    rw [e1, wi (i + 1) (by omega) (by omega)]
    refine ev_some (times_pad (lev + 1) (by omega)) ?_
    refine ev_pos (by rw [S_sz]; omega) ?_
    refine ev_pos (by simp only [lit, S_app, S_sz, List.length_append, List.length_cons, List.length_nil]; omega) ?_
    refine ev_pos (by simp only [lit, S_app, S_sz, List.length_append, List.length_cons, List.length_nil]; omega) ?_
    refine ev_pos (by simp only [lit, S_app, S_sz, List.length_append, List.length_cons, List.length_nil]; omega) ?_
    rw [eL]
    refine ev_pos (by rw [S_sz, S_sz]; omega) ?_
    rw [S_app]
    simpa [closes] using hb
  | n + 1, lev, acc, h, hlev, ha, hb => by
    have hp := pad2_len lev
    have e1 : wrap64 ((lev : Int) - 1) = ((lev - 1 : Nat) : Int) := by rw [wi _ (by omega) (by omega)]; omega
    have eC : ((⟨#[10]⟩ : ByteArray) ++ S (pad2 lev)) ++ (⟨#[60, 47, 117, 108, 62]⟩ : ByteArray) = S (ulC lev) := by
      simp only [lit, S_app]
      unfold ulC
      simp
    have hC : (ulC lev).length ≤ 3000 := by
      unfold ulC
      simp only [List.length_append, List.length_cons, List.length_nil]
      omega
    refine Ev.step (fun k => spec_LsHTML.l2.eq_2 _ _ _ _ _ _ _ _ k) (ev_pos (by omega) ?_)
    refine ev_some (times_pad lev (by omega)) ?_
    refine ev_pos (by rw [S_sz]; omega) ?_
    refine ev_pos (by simp only [lit, S_app, S_sz, List.length_append, List.length_cons, List.length_nil]; omega) ?_
    rw [eC, e1]
    refine ev_pos (by rw [S_sz, S_sz]; omega) ?_
    rw [S_app]
    refine html_closes t ht lv hlv hi0 hi n (lev - 1) (acc ++ ulC lev) (by omega) (by omega) (by rw [List.length_append]; omega) ?_
    simpa [closes] using hb
end
theorem html_end : ∀ (n : Nat) (acc : List UInt8), n ≤ 1000 → acc.length + 3000 * n + 100 ≤ 1000000000 → Ev (fun k => spec_LsHTML.l3 k (S acc) (n : Int)) (S (acc ++ (closes n n ++ [10, 60, 47, 117, 108, 62])))
  | 0, acc, hn, ha => by
    refine Ev.step (fun k => spec_LsHTML.l3.eq_2 _ _ k) (ev_neg (by omega) (ev_pos (by rw [S_sz]; omega) ?_))
    rw [lit [10, 60, 47, 117, 108, 62], S_app]
    exact Ev.now _
  | n + 1, acc, hn, ha => by
    have hp := pad2_len (n + 1)
    have e1 : wrap64 (((n + 1 : Nat) : Int) - 1) = (n : Int) := by rw [wi _ (by omega) (by omega)]; omega
    have eC : ((⟨#[10]⟩ : ByteArray) ++ S (pad2 (n + 1))) ++ (⟨#[60, 47, 117, 108, 62]⟩ : ByteArray) = S (ulC (n + 1)) := by
      simp only [lit, S_app]
      unfold ulC
      simp
    have hC : (ulC (n + 1)).length ≤ 3000 := by
      unfold ulC
      simp only [List.length_append, List.length_cons, List.length_nil]
      omega
    refine Ev.step (fun k => spec_LsHTML.l3.eq_2 _ _ k) (ev_pos (by omega) ?_)
    refine ev_some (times_pad (n + 1) (by omega)) ?_
    refine ev_pos (by rw [S_sz]; omega) ?_
    refine ev_pos (by simp only [lit, S_app, S_sz, List.length_append, List.length_cons, List.length_nil]; omega) ?_
    rw [eC, e1]
    refine ev_pos (by rw [S_sz, S_sz]; omega) ?_
    rw [S_app]
    have := html_end n (acc ++ ulC (n + 1)) (by omega) (by rw [List.length_append]; omega)
    simpa [closes] using this
theorem html_lines (cl : List UInt8) (hcl : cl.length ≤ 1000) (its : List It) (hi : ∀ it ∈ its, it.1 ≤ 100 ∧ it.2.length ≤ 10000) (hl : its.length ≤ 1000) : ∀ (d n : Nat), n + d = its.length → ∀ (lev : Nat) (acc : List UInt8), lev ≤ 100 → acc.length + 700000 * d + 700000 ≤ 1000000000 →
    Ev (fun k => spec_LsHTML.l0 k (S cl) (S acc) (lev : Int) (its.map toI) ((its.map toI).length : Int) (n : Int)) (S (acc ++ lin cl lev (its.drop n)))
  | 0, n, h, lev, acc, hlev, ha => by
    refine Ev.step (fun k => spec_LsHTML.l0.eq_2 _ _ _ _ _ _ k) (ev_neg (by rw [List.length_map]; omega) ?_)
    rw [List.drop_eq_nil_of_le (by omega)]
    exact html_end lev acc (by omega) (by omega)
  | d + 1, n, h, lev, acc, hlev, ha => by
    obtain ⟨x, hx⟩ : ∃ x, its[n]? = some x := ⟨_, List.getElem?_eq_getElem (by omega)⟩
    have hd : its.drop n = x :: its.drop (n + 1) := by rw [List.drop_eq_getElem_cons (by omega), (List.getElem?_eq_some_iff.1 hx).2]
    obtain ⟨x1, x2⟩ := hi x (List.mem_of_getElem? hx)
    have hrd : rd_T43 (its.map toI) (n : Int) = toI x := rd_it (by rw [List.getElem?_map, hx]; rfl)
    refine Ev.step (fun k => spec_LsHTML.l0.eq_2 _ _ _ _ _ _ k) (ev_pos (by rw [List.length_map]; omega) (ev_pos (by omega) (ev_pos (by rw [List.length_map]; omega) ?_)))
    rw [hrd]
    have key : ∀ (a : Nat) (acc2 : List UInt8), a = max lev x.1 → acc2 = acc ++ opens cl lev (x.1 - lev) → acc2.length ≤ acc.length + 300000 →
        Ev (fun k => spec_LsHTML.l2 k (S cl) (S acc2) (a : Int) (its.map toI) ((its.map toI).length : Int) (n : Int) (S x.2) (x.1 : Int)) (S (acc ++ lin cl lev (its.drop n))) := by
      intro a acc2 ha1 ha2 ha3
      refine html_closes cl (its.map toI) (n : Int) _ x.2 x2 x.1 (by omega) (by omega) (by omega) (lev - x.1) a acc2 (by omega) (by omega) (by omega) ?_
      have hcl2 : (closes a (lev - x.1)).length ≤ 300000 := by
        have : ∀ (m b : Nat), b ≤ 100 → (closes b m).length ≤ 3000 * m := by
          intro m
          induction m with
          | zero => intro b _; simp [closes]
          | succ m ih =>
            intro b hb
            have := ih (b - 1) (by omega)
            simp only [closes, ulC, List.length_append, List.length_cons, List.length_nil, pad2_len]
            omega
        have := this (lev - x.1) a (by omega)
        omega
      have hli : (liS x.1 x.2).length ≤ 20000 := by
        unfold liS
        simp only [List.length_append, List.length_cons, List.length_nil, pad2_len]
        omega
      have ih := html_lines cl hcl its hi hl d (n + 1) (by omega) x.1 (acc2 ++ (closes a (lev - x.1) ++ liS x.1 x.2)) x1 (by simp only [List.length_append]; omega)
      have e : acc2 ++ (closes a (lev - x.1) ++ liS x.1 x.2) ++ lin cl x.1 (its.drop (n + 1)) = acc ++ lin cl lev (its.drop n) := by
        rw [hd, ha2]
        simp only [lin]
        rcases Nat.lt_or_ge lev x.1 with hlt | hge
        · rw [show lev - x.1 = 0 by omega]; simp [closes]
        · rw [show a = lev by omega]; simp
      rw [e] at ih
      exact ih
    rcases Nat.lt_or_ge lev x.1 with hlt | hge
    · refine html_opens cl hcl (its.map toI) (n : Int) _ (S x.2) x.1 (by omega) (x.1 - lev) lev acc (by omega) (by omega) ?_
      have hop : (opens cl lev (x.1 - lev)).length ≤ 300000 := by
        have : ∀ (m b : Nat), b + m ≤ 100 → (opens cl b m).length ≤ 3000 * m := by
          intro m
          induction m with
          | zero => intro b _; simp [opens]
          | succ m ih =>
            intro b hb
            have h1 := ih (b + 1) (by omega)
            have h2 := decDigits_len (b + 1) (by omega)
            simp only [opens, ulO, List.length_append, List.length_cons, List.length_nil, pad2_len]
            omega
        have := this (x.1 - lev) lev (by omega)
        omega
      exact key x.1 _ (by omega) rfl (by rw [List.length_append]; omega)
    · refine Ev.step (fun k => spec_LsHTML.l1.eq_2 _ _ _ _ _ _ _ _ k) (ev_neg (by simp only [toI]; omega) ?_)
      exact key lev acc (by omega) (by rw [show x.1 - lev = 0 by omega]; simp [opens]) (by omega)
theorem lsHTML_f (cl : List UInt8) (hcl : cl.length ≤ 1000) (its : List It) (hi : ∀ it ∈ its, it.1 ≤ 100 ∧ it.2.length ≤ 10000) (hl : its.length ≤ 1000) :
    Ev (fun k => spec_LsHTML.f k (its.map toI) (S cl)) (S ([60, 117, 108, 32, 99, 108, 97, 115, 115, 61, 34] ++ (cl ++ ([34, 62] ++ lin cl 0 its)))) := by
  unfold spec_LsHTML.f
  refine ev_pos (by rw [S_sz]; omega) (ev_pos (by simp only [lit, S_app, S_sz, List.length_append, List.length_cons, List.length_nil]; omega) ?_)
  have := html_lines cl hcl its hi hl its.length 0 (by omega) 0 ([60, 117, 108, 32, 99, 108, 97, 115, 115, 61, 34] ++ (cl ++ [34, 62])) (by omega) (by simp only [List.length_append, List.length_cons, List.length_nil]; omega)
  simp only [lit, S_app]
  simpa using this

/-- an item with its text as HTML has it -/
def htJ (it : It) : It := (it.1, htL (runesL it.2))
theorem htJ_len (it : It) : (htJ it).2.length ≤ 5 * it.2.length := by
  have h1 := flatMap_len htR 5 htR_len (runesL it.2)
  have h2 : (runesL it.2).length ≤ it.2.length := by
    unfold runesL
    generalize it.2.length = n
    generalize it.2 = l
    induction n generalizing l with
    | zero => simp [runesLF]
    | succ n ih =>
      unfold runesLF
      split
      · simp
      · simp only [List.length_cons]
        have := ih (l.drop (Lib.decodeL l).2)
        omega
  have : (htJ it).2 = (runesL it.2).flatMap htR := rfl
  rw [this]
  omega
theorem set_mid {α : Type} (a b : List α) (x y : α) : (a ++ x :: b).set a.length y = a ++ y :: b := by
  rw [List.set_append_right _ _ (Nat.le_refl _), Nat.sub_self]
  rfl
theorem ltHTML_loop (cl : List UInt8) (hcl : cl.length ≤ 1000) (its : List It) (hi : ∀ it ∈ its, it.1 ≤ 100 ∧ it.2.length ≤ 1000) (hl : its.length ≤ 1000) : ∀ (d n : Nat), n + d = its.length →
    Ev (fun k => spec_LtHTML.l0 k (S cl) (((its.take n).map htJ).map toI ++ (its.drop n).map toI) (its.length : Int) (n : Int)) (S ([60, 117, 108, 32, 99, 108, 97, 115, 115, 61, 34] ++ (cl ++ ([34, 62] ++ lin cl 0 (its.map htJ)))))
  | 0, n, h => by
    refine Ev.step (fun k => spec_LtHTML.l0.eq_2 _ _ _ _ k) (ev_neg (by omega) ?_)
    rw [List.drop_eq_nil_of_le (by omega), List.take_of_length_le (by omega), List.map_nil, List.append_nil]
    refine ev_bind (lsHTML_f cl hcl (its.map htJ) (fun it hit => ?_) (by rw [List.length_map]; exact hl)) (Ev.now _)
    obtain ⟨y, hy, rfl⟩ := List.mem_map.1 hit
    have h1 := hi y hy
    have h2 := htJ_len y
    exact ⟨h1.1, by omega⟩
  | d + 1, n, h => by
    have ih := ltHTML_loop cl hcl its hi hl d (n + 1) (by omega)
    obtain ⟨x, hx⟩ : ∃ x, its[n]? = some x := ⟨_, List.getElem?_eq_getElem (by omega)⟩
    have hd : its.drop n = x :: its.drop (n + 1) := by rw [List.drop_eq_getElem_cons (by omega), (List.getElem?_eq_some_iff.1 hx).2]
    obtain ⟨x1, x2⟩ := hi x (List.mem_of_getElem? hx)
    have hln : (((its.take n).map htJ).map toI).length = n := by simp; omega
    have hget : (((its.take n).map htJ).map toI ++ (its.drop n).map toI)[n]? = some (toI x) := by
      rw [List.getElem?_append_right (by omega), hln, Nat.sub_self, hd]
      rfl
    have hlen : (((its.take n).map htJ).map toI ++ (its.drop n).map toI).length = its.length := by
      rw [List.length_append, hln, List.length_map, List.length_drop]; omega
    have hset : (((its.take n).map htJ).map toI ++ (its.drop n).map toI).set n (toI (htJ x)) = ((its.take (n + 1)).map htJ).map toI ++ (its.drop (n + 1)).map toI := by
      rw [hd, List.map_cons]
      have hm := set_mid (((its.take n).map htJ).map toI) ((its.drop (n + 1)).map toI) (toI x) (toI (htJ x))
      rw [hln] at hm
      rw [hm, List.take_add_one, hx]
      simp
    refine Ev.step (fun k => spec_LtHTML.l0.eq_2 _ _ _ _ k) (ev_pos (by omega) (ev_pos (by omega) (ev_pos (by rw [hlen]; omega) ?_)))
    rw [rd_it hget]
    have hf : spec_LtHTMLText.f (toI x).f0 = some (S (htL (runesL x.2))) := by
      unfold spec_LtHTMLText.f
      rw [if_pos (by show (S x.2).size ≤ _; rw [S_sz]; omega), runes_eq]
      show some (S (htL (runesL (L (S x.2))))) = _
      rw [L_S]
    refine ev_some hf ?_
    rw [w1 n (by omega)]
    have he : (⟨S (htL (runesL x.2)), (toI x).f1⟩ : Itm) = toI (htJ x) := rfl
    rw [he, Int.toNat_natCast, hset]
    exact ih
theorem ltHTML_f (cl : List UInt8) (hcl : cl.length ≤ 1000) (its : List It) (hi : ∀ it ∈ its, it.1 ≤ 100 ∧ it.2.length ≤ 1000) (hl : its.length ≤ 1000) (h0 : its ≠ []) :
    Ev (fun k => spec_LtHTML.f k (its.map toI) (S cl)) (S ([60, 117, 108, 32, 99, 108, 97, 115, 115, 61, 34] ++ (cl ++ ([34, 62] ++ lin cl 0 (its.map htJ))))) := by
  have hpos := List.length_pos_iff.2 h0
  unfold spec_LtHTML.f
  refine ev_neg (by rw [List.length_map]; omega) (ev_some rfl (ev_pos (by simp only [List.length_map, List.length_nil]; omega) (ev_some rfl ?_)))
  have := ltHTML_loop cl hcl its hi hl its.length 0 (by omega)
  simpa using this
theorem ltHTML_nil (c : ByteArray) : Ev (fun k => spec_LtHTML.f k [] c) (S []) := by
  unfold spec_LtHTML.f
  exact ev_pos rfl (Ev.now _)

/-! the law -/
/-- what the law holds against each other -/
theorem html_same {xs : List Stp'} (hl : xs.length ≤ 80) (h : ∀ x ∈ xs, RightX x) (cl : List UInt8) (hcl : cl.length ≤ 60) (hesc : escH cl = cl) : Ev (fun k => spec_LtHTML.f k ((itemsOf xs).map toI) (S cl)) (S (htmlOf cl (itemsOf xs))) := by
  obtain ⟨i1, i2, i3⟩ := items_facts hl h
  generalize itemsOf xs = its at *
  cases its with
  | nil => exact ltHTML_nil _
  | cons x t =>
    have e : (x :: t).map htI = (x :: t).map htJ := by
      apply List.map_congr_left
      intro it hit
      have := (i2 it hit).2.2.html
      unfold htI htJ
      rw [this]
    rw [html_lin cl hesc x t i3, e]
    exact ltHTML_f cl (by omega) (x :: t) (fun it hit => by have := i2 it hit; omega) (by omega) (by simp)
theorem html_j2 {xs : List Stp'} (hl : xs.length ≤ 80) (hl2 : xs.length ≤ 2147483647) (h : ∀ x ∈ xs, RightX x) (c : ByteArray) (hc : c.size ≤ 60) (hcl : (clsOf (L c)).length ≤ 60) (hesc : escH (clsOf (L c)) = clsOf (L c)) :
    Ev (fun k => laws_FnListsHTML.j2 k xs c (S (clsOf (L c)))) true := by
  refine Ev.step (fun k => laws_FnListsHTML.j2.eq_2 _ _ _ k) ?_
  refine ev_some (listHTML_f hl h c hc) ?_
  refine ev_bind (played_f xs hl2 (weight_right hl h)) ?_
  refine ev_bind (html_same hl h (clsOf (L c)) hcl hesc) ?_
  refine ev_pos rfl ?_
  have h1 : ∀ x ∈ ([(⟨0, (⟨#[97]⟩ : ByteArray), ([] : List ByteArray)⟩ : Stp')] : List Stp'), RightX x := by
    intro x hx
    simp only [List.mem_singleton] at hx
    subst hx
    exact ⟨by decide, by decide, by decide, fun t ht => by cases ht⟩
  refine ev_some (listHTML_f (by decide) h1 c hc) ?_
  have h2 : itemsOf ([(⟨0, (⟨#[97]⟩ : ByteArray), ([] : List ByteArray)⟩ : Stp')] : List Stp') = [(0, [97])] := by rfl
  rw [h2]
  have h3 : ((S (htmlOf (clsOf (L c)) [(0, [97])])).toList != ([] : List UInt8)) = true := by
    rw [toList_L, L_S]
    rfl
  rw [h3]
  exact Ev.now _
theorem html_law (l0 : List Stp') (a1 : ByteArray) : ∃ k, laws_FnListsHTML.f k l0 a1 = some true := by
  apply Ev.rounds
  have hj0 : Ev (fun k => laws_FnListsHTML.j0 k l0 a1 true) true := Ev.step (fun k => laws_FnListsHTML.j0.eq_2 _ _ _ k) (ev_pos rfl (Ev.now _))
  have hj1 : Ev (fun k => laws_FnListsHTML.j1 k l0 a1 true) true := Ev.step (fun k => laws_FnListsHTML.j1.eq_2 _ _ _ k) (ev_pos rfl (Ev.now _))
  unfold laws_FnListsHTML.f
  obtain ⟨b, hb, hb2⟩ := fits11 l0
  refine ev_bind hb ?_
  cases b with
  | false => exact ev_neg (by simp) hj0
  | true =>
    obtain ⟨hl, _⟩ := hb2 rfl
    refine ev_pos rfl ?_
    by_cases hs : (a1.size : Int) > 2147483647
    · rw [decide_eq_true hs]
      exact hj0
    · rw [decide_eq_false hs]
      obtain ⟨c, hc, hc2⟩ := right_f l0 hl
      refine Ev.step (fun k => laws_FnListsHTML.j0.eq_2 _ _ _ k) (ev_neg (by simp) (ev_bind hc ?_))
      cases c with
      | false => exact ev_neg (by simp) hj1
      | true =>
        obtain ⟨hl80, hR⟩ := hc2 rfl
        refine ev_pos rfl ?_
        by_cases h60 : (a1.size : Int) > 60
        · exact ev_pos h60 hj1
        · refine ev_neg h60 ?_
          by_cases he : a1.toList = ([] : List UInt8)
          · refine ev_pos he (Ev.step (fun k => laws_FnListsHTML.j1.eq_2 _ _ _ k) (ev_neg (by simp) (ev_pos he ?_)))
            have e : clsOf (L a1) = dflClass := by rw [← toList_L, he]; rfl
            have := html_j2 hl80 hl hR a1 (by omega) (by rw [e]; decide) (by rw [e]; decide)
            rw [e] at this
            exact this
          · obtain ⟨d, hd, hd2⟩ := name_f a1 (by omega)
            refine ev_neg he (ev_bind hd ?_)
            cases d with
            | false => exact hj1
            | true =>
              have hN := hd2 rfl
              refine Ev.step (fun k => laws_FnListsHTML.j1.eq_2 _ _ _ k) (ev_neg (by simp) (ev_neg he ?_))
              have e : clsOf (L a1) = L a1 := by unfold clsOf; rw [if_neg hN.2]
              have := html_j2 hl80 hl hR a1 (by omega) (by rw [e, L_len]; omega) (by rw [e]; exact name_esc hN.1)
              rw [e, ← S_eq] at this
              exact this
end Go.Proofs.Yteenhipldfdkaaa.P

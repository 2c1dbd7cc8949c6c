import Derived.Test.YthjpchabeemfmaaGreatDoorPx0
import Derived.Test.YthjpchabeemfmaaGreatDoorGk
import Derived.Test.YthjpchabeemfmaaGreatDoorGb
import Derived.Test.YthjpchabeemfmaaGreatDoorTw
namespace Go.Proofs.YthjpchabeemfmaaGreatDoor.P
open Go.RowKit Go.Proofs.YthjpchabeemfmaaGreatDoorW.PrintWords Go.Proofs.YthjpchabeemfmaaGreatDoorW.PrintLast Go.Proofs.YthjpchabeemfmaaGreatDoorW.PrintMore
set_option linter.unusedVariables false
set_option linter.unusedSimpArgs false
set_option maxHeartbeats 4000000
set_option maxRecDepth 100000
attribute [local go_sem] S_extract S_append run_cut_S run_head_S run_tail_S Nat.add_sub_cancel_left

def S (l : List UInt8) : ByteArray := ⟨l.toArray⟩
def L (s : ByteArray) : List UInt8 := s.data.toList
theorem S_L (s : ByteArray) : (⟨(L s).toArray⟩ : ByteArray) = s := by
  cases s with
  | mk d => show (⟨d.toList.toArray⟩ : ByteArray) = ⟨d⟩; rw [Array.toArray_toList]
theorem L_S (l : List UInt8) : L (S l) = l := by show l.toArray.toList = l; simp only [List.toList_toArray]
theorem L_len (s : ByteArray) : (L s).length = s.size := by show s.data.toList.length = s.data.size; exact Array.length_toList
theorem runes_eq (s : ByteArray) : runes s = runesL (L s) := by
  have := runes_L (L s)
  rw [S_L] at this
  exact this

def spec_TxSimple.f (a0 : ByteArray) (a1 : Bool) : Option Bool := if a0.size ≤ 1000000000 then some (txSimple a0 a1) else none
theorem spec_TxSimple.calls (a0 : ByteArray) (a1 : Bool) (r : Bool) (w : World) (h : spec_TxSimple.f a0 a1 = some r) :
    Calls Tryz.prog 19 #[.string a0, .bool a1] w fun e w' => e = .returned (.bool r) ∧ Below w.heap.size w w' := by
  unfold spec_TxSimple.f at h
  split at h
  · rename_i hs
    injection h with h
    subst h
    exact TxSimple_calls a0 a1 w (by omega)
  · cases h

theorem own_strings {w : World} {base : Nat} {v : Value} {ls : List (List UInt8)} (h : w.ownsRow base 9 1 v ls.length (strs ls)) : Kd.R Kd.string 9 w base (fun _ => True) v (ls.map S) := by
  refine ⟨fun _ _ => trivial, ?_⟩
  refine ⟨strs ls, by rw [List.length_map]; exact h, ?_, fun j p hj => ?_⟩
  · rw [List.length_map]; exact h.1
  · rw [List.getElem?_map] at hj
    cases hl : ls[j]? with
    | none => rw [hl] at hj; cases hj
    | some t =>
      rw [hl] at hj
      injection hj with hj
      subst hj
      show ((strs ls).drop (j * 1)).take 1 = [.string (S t)]
      rw [Nat.mul_one]
      have hs : (strs ls)[j]? = some (.string (S t)) := by simp [strs, hl, S]
      obtain ⟨hlt, he⟩ := List.getElem?_eq_some_iff.1 hs
      rw [List.drop_eq_getElem_cons hlt, he]
      rfl
def spec_TxLines.f (a0 : ByteArray) : Option (List ByteArray) := if a0.size ≤ 1000000000 then some ((linesR [] (runes a0)).map S) else none
theorem spec_TxLines.calls (a0 : ByteArray) (r : List ByteArray) (w : World) (h : spec_TxLines.f a0 = some r) :
    Calls Tryz.prog 25 #[.string a0] w fun e w' => ∃ v0_ : Value, e = .returned (v0_) ∧ Kd.R Kd.string 9 w' w.heap.size (fun _ => True) v0_ r ∧ Below w.heap.size w w' := by
  unfold spec_TxLines.f at h
  split at h
  · rename_i hs
    injection h with h
    subst h
    refine (TxLines_calls a0 w hs).mono ?_
    rintro e w' ⟨v, rfl, h1, h2⟩
    exact ⟨v, rfl, own_strings h1, h2⟩
  · cases h

def spec_TxTimes.f (a0 : ByteArray) (a1 : Int) : Option ByteArray := if a0.size ≤ 1000000 ∧ 0 ≤ a1 ∧ a1 ≤ 1000000 then some (S (Lib.repeatL (L a0) a1.toNat)) else none
theorem spec_TxTimes.calls (a0 : ByteArray) (a1 : Int) (r : ByteArray) (w : World) (h : spec_TxTimes.f a0 a1 = some r) :
    Calls Tryz.prog 23 #[.string a0, .int .i64 a1] w fun e w' => e = .returned (.string r) ∧ Below w.heap.size w w' := by
  unfold spec_TxTimes.f at h
  split at h
  · rename_i hs
    injection h with h
    subst h
    obtain ⟨h1, h2, h3⟩ := hs
    obtain ⟨n, rfl⟩ := Int.eq_ofNat_of_zero_le h2
    have := TxTimes_calls (L a0) n w (by rw [L_len]; exact h1) (by omega)
    rw [S_L] at this
    exact this
  · cases h

/-! LsBegins -/
theorem LsBegins_calls (a b : List UInt8) (w : World) (ha : a.length ≤ 140737488351232) (hb : b.length ≤ 140737488351232) :
    Calls Tryz.prog 22 #[.string ⟨a.toArray⟩, .string ⟨b.toArray⟩] w fun e w' => e = .returned (if a.take b.length = b then .tuple #[.string ⟨(a.drop b.length).toArray⟩, .bool true] else .tuple #[.string ⟨a.toArray⟩, .bool false]) ∧ w = w' := by
  by_cases hlt : a.length < b.length
  · have hne : a.take b.length ≠ b := fun e => by have := congrArg List.length e; rw [List.length_take] at this; omega
    rw [if_neg hne]
    have hlt' : decide (a.length < b.length) = true := by simpa using hlt
    go_enter Tryz.func22, Tryz.ntmps22
    go_wp2_with fail
    go_ret2
    exact ⟨rfl, rfl⟩
  · have hle : (b.length : Int) ≤ (a.length : Int) := by omega
    have hlt' : decide (a.length < b.length) = false := by simpa using hlt
    by_cases he : a.take b.length = b
    · have hb1 : ((a.take b.length) == b) = true := by simpa using he
      have hb2 : ((a.take b.length) != b) = false := by simpa using he
      rw [if_pos he]
      clear he
      go_enter Tryz.func22, Tryz.ntmps22
      go_wp2_with fail
      go_ret2
      exact ⟨(show Ending.returned (.tuple #[.string ⟨((a.drop b.length).take (a.length - b.length)).toArray⟩, .bool true]) = _ by rw [List.take_of_length_le (by simp)]), rfl⟩
    · have hb1 : ((a.take b.length) == b) = false := by simpa using he
      have hb2 : ((a.take b.length) != b) = true := by simpa using he
      rw [if_neg he]
      clear he
      go_enter Tryz.func22, Tryz.ntmps22
      go_wp2_with fail
      go_ret2
      exact ⟨rfl, rfl⟩
def spec_LsBegins.f (a0 : ByteArray) (a1 : ByteArray) : Option (ByteArray × Bool) := if a0.size ≤ 140737488351232 ∧ a1.size ≤ 140737488351232 then some (if (L a0).take (L a1).length = L a1 then (S ((L a0).drop (L a1).length), true) else (a0, false)) else none
theorem spec_LsBegins.calls (a0 : ByteArray) (a1 : ByteArray) (r1 : ByteArray) (r2 : Bool) (w : World) (h : spec_LsBegins.f a0 a1 = some (r1, r2)) :
    Calls Tryz.prog 22 #[.string a0, .string a1] w fun e w' => e = .returned (.tuple #[.string r1, .bool r2]) ∧ Drawn0 w w' := by
  unfold spec_LsBegins.f at h
  split at h
  · rename_i hs
    injection h with h
    have := LsBegins_calls (L a0) (L a1) w (by rw [L_len]; exact hs.1) (by rw [L_len]; exact hs.2)
    rw [S_L, S_L] at this
    refine this.mono ?_
    rintro e w' ⟨rfl, rfl⟩
    refine ⟨?_, Drawn0.refl _⟩
    split at h
    · rename_i he
      rw [if_pos he]
      injection h with h1 h2
      subst h1 h2
      rfl
    · rename_i he
      rw [if_neg he]
      injection h with h1 h2
      subst h1 h2
      rfl
  · cases h

def spec_TxWidth.f (a0 : ByteArray) : Option Int := if a0.size ≤ 1000000000 then some (txWidthL (runes a0) : Int) else none
theorem spec_TxWidth.calls (a0 : ByteArray) (r : Int) (w : World) (h : spec_TxWidth.f a0 = some r) :
    Calls Tryz.prog 24 #[.string a0] w fun e w' => e = .returned (.int .i64 r) ∧ Below w.heap.size w w' := by
  unfold spec_TxWidth.f at h
  split at h
  · rename_i hs
    injection h with h
    subst h
    exact TxWidth_calls a0 w hs
  · cases h
/-! steps -/
theorem pick {α β : Type} : ∀ (xs : List α) (Q : Nat → α → β → Prop), (∀ j p, xs[j]? = some p → ∃ c, Q j p c) → ∃ cs : List β, cs.length = xs.length ∧ ∀ j p, xs[j]? = some p → ∃ c, cs[j]? = some c ∧ Q j p c
  | [], Q, h => ⟨[], rfl, fun j p hj => by simp at hj⟩
  | x :: t, Q, h => by
    obtain ⟨c, hc⟩ := h 0 x rfl
    obtain ⟨cs, h1, h2⟩ := pick t (fun j => Q (j + 1)) (fun j p hj => h (j + 1) p (by simpa using hj))
    refine ⟨c :: cs, by simp [h1], fun j p hj => ?_⟩
    cases j with
    | zero => simp at hj; subst hj; exact ⟨c, rfl, hc⟩
    | succ j =>
      obtain ⟨c', a, b⟩ := h2 j p (by simpa using hj)
      exact ⟨c', by simpa using a, b⟩
theorem spot_none {w : World} {a : Addr} {u : Value} (h : w.cell? a = some u) : a = ⟨a.block, a.off, none⟩ := by
  obtain ⟨b, o, s⟩ := a
  cases s with
  | none => rfl
  | some x =>
    unfold World.cell? at h
    split at h
    · simp at h
    · cases h
theorem rdS_of {w : World} {A : Option Addr} {c : Nat} {xs : List ByteArray} (h : Kd.string.C w A xs.length xs) (hc : xs.length ≤ c) (hn : xs.length ≤ 1000000) : RdS w (.slice A xs.length c) (xs.map L) := by
  refine ⟨by rw [List.length_map]; omega, by simp [strs], A, c, by rw [List.length_map], by rw [List.length_map]; exact hc, trivial, fun h0 => ?_⟩
  rw [List.length_map] at h0
  obtain ⟨ad, rfl, hcell⟩ := h.2.2 (by omega)
  obtain ⟨x0, hx0⟩ : ∃ x, xs[0]? = some x := ⟨_, List.getElem?_eq_getElem (by omega)⟩
  obtain ⟨c0, l0, k0, q0⟩ := hcell 0 x0 hx0
  have hk0 : c0 = [.string x0] := k0
  subst hk0
  have hs := spot_none (a := ad) (by have := q0 0 _ rfl; simpa [Addr.add] using this)
  refine ⟨ad.block, ad.off, by rw [← hs], fun j u hj => ?_⟩
  rw [strs, List.getElem?_map, List.getElem?_map] at hj
  cases hx : xs[j]? with
  | none => rw [hx] at hj; cases hj
  | some x =>
    rw [hx] at hj
    injection hj with hj
    subst hj
    obtain ⟨cj, _, kj, qj⟩ := hcell j x hx
    have hkj : cj = [.string x] := kj
    subst hkj
    have := qj 0 _ rfl
    rw [hs, add_plain, show j * (Kd.string).sz + 0 = j from Nat.mul_one j] at this
    show w.cell? _ = some (Value.string ⟨(L x).toArray⟩)
    rw [S_L]
    exact this
def stOf (x : S39) (v : Value) : Stp := ⟨x.f0, L x.f1, x.f2.map L, v⟩
def st0 (x : S39) : Stp := stOf x (.slice none 0 0)
theorem stpCells_get : ∀ {l : List Stp} {j : Nat} {u : Value}, (stpCells l)[j]? = some u → ∃ i p, l[i]? = some p ∧ ((j = i * 3 ∧ u = .int .i64 p.kind) ∨ (j = i * 3 + 1 ∧ u = .string ⟨p.text.toArray⟩) ∨ (j = i * 3 + 2 ∧ u = p.val))
  | [], j, u, h => by simp [stpCells] at h
  | p :: t, 0, u, h => ⟨0, p, rfl, .inl ⟨rfl, by simp [stpCells] at h; exact h.symm⟩⟩
  | p :: t, 1, u, h => ⟨0, p, rfl, .inr (.inl ⟨rfl, by simp [stpCells] at h; exact h.symm⟩)⟩
  | p :: t, 2, u, h => ⟨0, p, rfl, .inr (.inr ⟨rfl, by simp [stpCells] at h; exact h.symm⟩)⟩
  | p :: t, j + 3, u, h => by
    have h' : (stpCells t)[j]? = some u := by simpa [stpCells] using h
    obtain ⟨i, q, h1, h2⟩ := stpCells_get h'
    refine ⟨i + 1, q, by simpa using h1, ?_⟩
    rcases h2 with ⟨rfl, e⟩ | ⟨rfl, e⟩ | ⟨rfl, e⟩
    · exact .inl ⟨by omega, e⟩
    · exact .inr (.inl ⟨by omega, e⟩)
    · exact .inr (.inr ⟨by omega, e⟩)
theorem stpCells_len (l : List Stp) : (stpCells l).length = l.length * 3 := by
  induction l with
  | nil => rfl
  | cons p t ih =>
    have : stpCells (p :: t) = [.int .i64 p.kind, .string ⟨p.text.toArray⟩, p.val] ++ stpCells t := rfl
    rw [this, List.length_append, ih]
    simp; omega
/-- a slice of steps that is read, in the words of listOf's contract -/
theorem rdSt_of {w : World} {A : Option Addr} {c : Nat} {xs : List S39} (h : Kd.C k39 w A xs.length xs) (hc : xs.length ≤ c) (hn : xs.length ≤ 1000000) (hn2 : ∀ x ∈ xs, x.f2.length ≤ 1000000) :
    ∃ l : List Stp, l.map (fun p => { p with val := .slice none 0 0 }) = xs.map st0 ∧ RdSt w (.slice A xs.length c) l := by
  by_cases h0 : xs.length = 0
  · have : xs = [] := List.eq_nil_of_length_eq_zero h0
    subst this
    exact ⟨[], rfl, ⟨by simp, by simp [stpCells], A, c, rfl, hc, trivial, fun h => absurd rfl h⟩, fun p hp => by cases hp⟩
  · obtain ⟨ad, rfl, hcell⟩ := h.2.2 (by omega)
    obtain ⟨vs, hvl, hvs⟩ := pick xs (fun j p v => (∃ A2 c2, v = .slice A2 p.f2.length c2 ∧ p.f2.length ≤ c2 ∧ Kd.string.C w A2 p.f2.length p.f2) ∧ w.cell? (ad.add (j * 3)) = some (.int .i64 p.f0) ∧ w.cell? (ad.add (j * 3 + 1)) = some (.string p.f1) ∧ w.cell? (ad.add (j * 3 + 2)) = some v) (fun j p hj => by
      obtain ⟨cs, _, hk, hq⟩ := hcell j p hj
      obtain ⟨A2, c2, rfl, l2, g2⟩ := k39_open hk
      exact ⟨.slice A2 p.f2.length c2, ⟨A2, c2, rfl, l2, g2⟩, hq 0 _ rfl, hq 1 _ rfl, hq 2 _ rfl⟩)
    have hs : ad = ⟨ad.block, ad.off, none⟩ := by
      obtain ⟨x0, hx0⟩ : ∃ x, xs[0]? = some x := ⟨_, List.getElem?_eq_getElem (by omega)⟩
      obtain ⟨v, _, _, q0, _⟩ := hvs 0 x0 hx0
      exact spot_none (a := ad) (by simpa [Addr.add] using q0)
    have hget : ∀ (i : Nat) (p : Stp), (List.zipWith stOf xs vs)[i]? = some p → ∃ (x : S39) (v : Value), xs[i]? = some x ∧ vs[i]? = some v ∧ p = stOf x v := by
      intro i p hp
      rw [List.getElem?_zipWith] at hp
      cases hx : xs[i]? with
      | none => rw [hx] at hp; simp at hp
      | some x =>
        cases hv : vs[i]? with
        | none => rw [hx, hv] at hp; simp at hp
        | some v =>
          rw [hx, hv] at hp
          simp at hp
          exact ⟨x, v, rfl, rfl, hp.symm⟩
    have hlz : (List.zipWith stOf xs vs).length = xs.length := by rw [List.length_zipWith, hvl, Nat.min_self]
    refine ⟨List.zipWith stOf xs vs, ?_, ⟨by rw [hlz]; omega, stpCells_len _, some ad, c, by rw [hlz], by rw [hlz]; exact hc, trivial, fun _ => ⟨ad.block, ad.off, by rw [← hs], fun j u hj => ?_⟩⟩, fun p hp => ?_⟩
    · clear hget hlz hvs hcell hs h0 h hn hn2 hc
      induction xs generalizing vs with
      | nil => rfl
      | cons x t ih =>
        cases vs with
        | nil => simp at hvl
        | cons v vt => simp only [List.zipWith_cons_cons, List.map_cons]; rw [ih vt (by simpa using hvl)]; rfl
    · obtain ⟨i, p, hp, hcs⟩ := stpCells_get hj
      obtain ⟨x, v, hx, hv, rfl⟩ := hget i p hp
      obtain ⟨v', hv', _, q0, q1, q2⟩ := hvs i x hx
      rw [hv] at hv'
      injection hv' with hv'
      subst hv'
      rw [hs] at q0 q1 q2
      rw [add_plain] at q0 q1 q2
      rcases hcs with ⟨rfl, rfl⟩ | ⟨rfl, rfl⟩ | ⟨rfl, rfl⟩
      · exact q0
      · have : (.string ⟨(stOf x v).text.toArray⟩ : Value) = .string x.f1 := by show Value.string ⟨(L x.f1).toArray⟩ = _; rw [S_L]
        rw [this]
        exact q1
      · exact q2
    · obtain ⟨i, hi⟩ := List.getElem?_of_mem hp
      obtain ⟨x, v, hx, hv, rfl⟩ := hget i p hi
      obtain ⟨v', hv', ⟨A2, c2, e, l2, g2⟩, _⟩ := hvs i x hx
      rw [hv] at hv'
      injection hv' with hv'
      subst hv'
      subst e
      exact rdS_of g2 l2 (hn2 x (List.mem_of_getElem? hx))

/-- the items that steps make -/
def itemsOf (xs : List S39) : List It := (playK (xs.map st0) xs.length).1
theorem stepP_strip (q : List It × Nat) (p : Stp) : stepP q { p with val := .slice none 0 0 } = stepP q p := rfl
theorem playK_strip (l : List Stp) (k : Nat) : playK (l.map fun p => { p with val := .slice none 0 0 }) k = playK l k := by
  unfold playK
  rw [← List.map_take, List.foldl_map]
  rfl
theorem itemsOf_eq {xs : List S39} {l : List Stp} (h : l.map (fun p => { p with val := .slice none 0 0 }) = xs.map st0) : (playK l l.length).1 = itemsOf xs := by
  have hl : l.length = xs.length := by have := congrArg List.length h; simpa using this
  unfold itemsOf
  rw [← h, playK_strip, hl]
/-- steps whose texts are short and clean -/
def ShOk (x : S39) : Prop := (L x.f1).length ≤ 200 ∧ (∀ b ∈ L x.f1, b ≠ 9 ∧ b ≠ 13) ∧ x.f2.length ≤ 10 ∧ ∀ t ∈ x.f2, (L t).length ≤ 200 ∧ ∀ b ∈ L t, b ≠ 9 ∧ b ≠ 13
instance (x : S39) : Decidable (ShOk x) := by unfold ShOk; infer_instance
theorem stSh_of {xs : List S39} {l : List Stp} (h : l.map (fun p => { p with val := .slice none 0 0 }) = xs.map st0) (hx : ∀ x ∈ xs, ShOk x) : ∀ p ∈ l, StSh p := by
  intro p hp
  have h1 : ({ p with val := .slice none 0 0 } : Stp) ∈ xs.map st0 := by rw [← h]; exact List.mem_map.2 ⟨p, hp, rfl⟩
  obtain ⟨x, hx1, hx2⟩ := List.mem_map.1 h1
  obtain ⟨a1, a2, a3, a4⟩ := hx x hx1
  have e1 : p.text = L x.f1 := by have := congrArg Stp.text hx2; exact this.symm
  have e2 : p.texts = x.f2.map L := by have := congrArg Stp.texts hx2; exact this.symm
  refine ⟨by rw [e1]; exact a1, by rw [e1]; exact a2, by rw [e2, List.length_map]; exact a3, fun t ht => ?_⟩
  rw [e2] at ht
  obtain ⟨t', ht', rfl⟩ := List.mem_map.1 ht
  exact a4 t' ht'

def impl_ListHTML.f (l0 : List S39) (a1 : ByteArray) : Option ByteArray := if l0.length ≤ 200 ∧ (∀ x ∈ l0, ShOk x) ∧ (L a1).length ≤ 60 then some (S (htmlOf (clsOf (L a1)) (itemsOf l0))) else none
theorem impl_ListHTML.calls (A0 : Option Addr) (c0 : Nat) (l0 : List S39) (a1 : ByteArray) (r : ByteArray) (w : World) (hr0 : Kd.C k39 w A0 l0.length l0) (hc0 : l0.length ≤ c0) (h : impl_ListHTML.f l0 a1 = some r) :
    Calls Tryz.prog 16 #[.slice A0 l0.length c0, .string a1] w fun e w' => e = .returned (.string r) ∧ Below w.heap.size w w' := by
  unfold impl_ListHTML.f at h
  split at h
  · rename_i hs
    obtain ⟨h1, h2, h3⟩ := hs
    injection h with h
    subst h
    obtain ⟨l, hl, hR⟩ := rdSt_of hr0 hc0 (by omega) (fun x hx => by have := (h2 x hx).2.2.1; omega)
    have hlen : l.length = l0.length := by have := congrArg List.length hl; simpa using this
    have := ListHTML_calls l _ (L a1) w (by omega) (stSh_of hl h2) h3 hR
    rw [S_L, itemsOf_eq hl] at this
    exact this
  · cases h
end Go.Proofs.YthjpchabeemfmaaGreatDoor.P

import Derived.Test.YtmljkiohekogbaaGreatDoorMk
import Derived.Test.YtmljkiohekogbaaGreatDoorRows
import Derived.Deep.Slices
import Derived.Lib.LaidU8
import Derived.Lib.LaidTab
import Derived.WideShapes
namespace Go.Proofs.YtmljkiohekogbaaGreatDoor
open Go.RowKit Go.ChangeShapes Go.WideShapes Go.Deep
set_option linter.unusedVariables false
set_option linter.unusedSimpArgs false
set_option maxRecDepth 100000
set_option maxHeartbeats 4000000

theorem spotless {w : World} {a : Addr} {u : Value} (h : w.cell? a = some u) : a = ⟨a.block, a.off, none⟩ := by
  obtain ⟨b, o, s⟩ := a
  cases s with
  | none => rfl
  | some x =>
    unfold World.cell? at h
    split at h
    · simp at h
    · cases h
theorem pickL {α : Type} [Inhabited α] : ∀ (n : Nat) (Q : Nat → α → Prop), (∀ j, j < n → ∃ c, Q j c) → ∃ cs : List α, cs.length = n ∧ ∀ j c, cs[j]? = some c → Q j c
  | 0, Q, h => ⟨[], rfl, fun j c hj => by simp at hj⟩
  | n + 1, Q, h => by
    obtain ⟨c, hc⟩ := h 0 (by omega)
    obtain ⟨cs, h1, h2⟩ := pickL n (fun j => Q (j + 1)) (fun j hj => h (j + 1) (by omega))
    refine ⟨c :: cs, by simp [h1], fun j c' hj => ?_⟩
    cases j with
    | zero => simp at hj; subst hj; exact hc
    | succ j => exact h2 j c' (by simpa using hj)
theorem flat_len {α : Type} (cells : α → List Value) (sz : Nat) (hlen : ∀ v, (cells v).length = sz) : ∀ l : List α, (l.flatMap cells).length = l.length * sz
  | [] => by simp
  | v :: t => by
    rw [List.flatMap_cons, List.length_append, hlen, flat_len cells sz hlen t, List.length_cons, Nat.add_mul]
    omega
theorem flat_get {α : Type} (cells : α → List Value) (sz : Nat) (hlen : ∀ v, (cells v).length = sz) : ∀ (l : List α) (j : Nat) (u : Value), (l.flatMap cells)[j]? = some u → ∃ i r v, j = i * sz + r ∧ r < sz ∧ l[i]? = some v ∧ (cells v)[r]? = some u
  | [], j, u, h => by simp at h
  | v :: t, j, u, h => by
    rw [List.flatMap_cons] at h
    by_cases hj : j < sz
    · rw [List.getElem?_append_left (by rw [hlen]; exact hj)] at h
      exact ⟨0, j, v, by omega, hj, rfl, h⟩
    · rw [List.getElem?_append_right (by rw [hlen]; omega), hlen] at h
      obtain ⟨i, r, v', h1, h2, h3, h4⟩ := flat_get cells sz hlen t (j - sz) u h
      exact ⟨i + 1, r, v', by rw [Nat.add_mul]; omega, h2, by simpa using h3, h4⟩
section
variable {H : Type} {enc : TypeId × Value → H} {W : World} {spare : Nat → Bool} {held : Bool}
theorem opensF {α : Type} [Inhabited α] (cells : α → List Value) (sz : Nat) (hsz : 0 < sz) (hlen : ∀ v, (cells v).length = sz) {e t : TypeId} (ht : Tryz.prog.underlying t = some (.slice e)) (hc : Tryz.prog.cellsOf e = sz)
    (hd : ∀ fuel cs x, DataW.trod enc Tryz.prog W 0 spare held fuel e cs = some x → ∃ v : α, cs = cells v) {fuel : Nat} {cs : List Value} {x : DataW H × List MemPlace} (h : DataW.trod enc Tryz.prog W 0 spare held fuel t cs = some x) :
    ∃ (l : List α) (A : Option Addr) (c : Nat), cs = [.slice A l.length c] ∧ RdF W (.slice A l.length c) sz l.length (l.flatMap cells) ∧ (A = none → c = 0) := by
  rcases open_slice ht h with ⟨rfl, rfl⟩ | ⟨a, len, cap, mm, n, D, Pl, rfl, hb, hl, hm, hmm, rfl, hx⟩
  · exact ⟨[], none, 0, rfl, ⟨by simp, by simp, none, 0, rfl, Nat.le_refl _, trivial, fun h => absurd rfl h⟩, fun _ => rfl⟩
  · have hlm : len ≤ mm := by rw [hmm]; split <;> omega
    rw [hc] at hx
    obtain ⟨xs, hxl, hxs⟩ := pickL (α := α) len (fun j v => ∀ r u, (cells v)[r]? = some u → W.cell? (a.add (j * sz + r)) = some u) (fun j hj => by
      obtain ⟨cs', h1, h2⟩ := hx j (by omega)
      obtain ⟨v, rfl⟩ := hd n cs' _ h2
      obtain ⟨_, hcl, hcell⟩ := World.cells?_some h1
      refine ⟨v, fun i u hi => ?_⟩
      have hlt : i < sz := by rw [← hcl]; exact (List.getElem?_eq_some_iff.1 hi).1
      have := hcell i hlt
      rw [Go.Deep.add_add, hi] at this
      exact this)
    subst hxl
    refine ⟨xs, some a, cap, rfl, ⟨by simp only [maxLen] at hm; omega, flat_len cells sz hlen xs, some a, cap, rfl, hl, trivial, fun h0 => ?_⟩, fun e => by cases e⟩
    have hs : a = ⟨a.block, a.off, none⟩ := by
      obtain ⟨v, hv⟩ : ∃ v, xs[0]? = some v := ⟨_, List.getElem?_eq_getElem (by omega)⟩
      obtain ⟨u, hu⟩ : ∃ u, (cells v)[0]? = some u := ⟨_, List.getElem?_eq_getElem (by rw [hlen]; exact hsz)⟩
      have := hxs 0 v hv 0 u hu
      exact spotless (a := a) (by simpa [Addr.add] using this)
    refine ⟨a.block, a.off, by rw [← hs], fun j u hj => ?_⟩
    obtain ⟨i, r, v, rfl, hr, hv, hu⟩ := flat_get cells sz hlen xs j u hj
    have := hxs i v hv r u hu
    rw [hs, add_plain] at this
    exact this
theorem flat_one {α : Type} (f : α → Value) : ∀ l : List α, l.flatMap (fun v => [f v]) = l.map f
  | [] => rfl
  | v :: t => by rw [List.flatMap_cons, flat_one f t]; rfl
theorem opens_strs {fuel : Nat} {cs : List Value} {x : DataW H × List MemPlace} (h : DataW.trod enc Tryz.prog W 0 spare held fuel 78 cs = some x) : ∃ (l : List (List UInt8)) (A : Option Addr) (c : Nat), cs = [.slice A l.length c] ∧ RdS W (.slice A l.length c) l := by
  obtain ⟨l, A, c, h1, h2, _⟩ := opensF (α := List UInt8) (fun s => [.string ⟨s.toArray⟩]) 1 (by decide) (fun _ => rfl) Tryz.underlying78 (by kernel_rfl) (fun fuel cs x h => by
    obtain ⟨s, rfl, rfl, _⟩ := DataW.trod_string Tryz.underlying9 h
    exact ⟨s.data.toList, by simp⟩) h
  rw [flat_one] at h2
  exact ⟨l, A, c, h1, h2⟩
theorem opens_ints {fuel : Nat} {cs : List Value} {x : DataW H × List MemPlace} (h : DataW.trod enc Tryz.prog W 0 spare held fuel 33 cs = some x) : ∃ (l : List Int) (A : Option Addr) (c : Nat), cs = [.slice A l.length c] ∧ RdF W (.slice A l.length c) 1 l.length (l.map (Value.int .i64)) ∧ (A = none → c = 0) := by
  obtain ⟨l, A, c, h1, h2, h3⟩ := opensF (α := Int) (fun n => [.int .i64 n]) 1 (by decide) (fun _ => rfl) Tryz.underlying33 (by kernel_rfl) (fun fuel cs x h => by
    obtain ⟨n, rfl, rfl, _⟩ := DataW.trod_int Tryz.underlying3 h
    exact ⟨n, rfl⟩) h
  rw [flat_one] at h2
  exact ⟨l, A, c, h1, h2, h3⟩
theorem opens_ops {fuel : Nat} {cs : List Value} {x : DataW H × List MemPlace} (h : DataW.trod enc Tryz.prog W 0 spare held fuel 22 cs = some x) : ∃ (l : List (Int × Int)) (A : Option Addr) (c : Nat), cs = [.slice A l.length c] ∧ RdF W (.slice A l.length c) 2 l.length (l.flatMap fun o => [.int .i64 o.1, .int .i64 o.2]) ∧ (A = none → c = 0) :=
  opensF (α := Int × Int) (fun o => [.int .i64 o.1, .int .i64 o.2]) 2 (by decide) (fun _ => rfl) Tryz.underlying22 (by kernel_rfl) (fun fuel cs x h => by
    obtain ⟨xs, n, _, rfl, hl, hlen, hf⟩ := DataW.trod_struct Tryz.underlying25 h
    have hl2 : cs.length = 2 := hl
    match cs, hl2 with
    | [c0, c1], _ =>
      match xs, hlen with
      | [y0, y1], _ =>
        have f0 := hf 0 _ rfl
        have f1 := hf 1 _ rfl
        obtain ⟨n0, e0, _⟩ := DataW.trod_int (cs := [c0]) Tryz.underlying3 f0
        obtain ⟨n1, e1, _⟩ := DataW.trod_int (cs := [c1]) Tryz.underlying3 f1
        simp only [List.cons.injEq, and_true] at e0 e1
        exact ⟨(n0, n1), by rw [e0, e1]⟩) h
end
open Go.Shelf Go.Lib in
theorem tab_reads {P : Program} {w : World} {n : String} {k : IntKind} {zs : List Int} {g : Nat} {t e : TypeId} {m : Nat} (hg : P.globalNamed n = some g) (hty : (P.globals[g]?).map (·.type) = some t) (ht : P.underlying t = some (.array m e)) (he : P.underlying e = some (.int k)) (hce : P.cellsOf e = 1) (hct : P.cellsOf t = m)
    (h : VarReads P w n (tabData k zs)) : Lib.TabIs P w n k zs := by
  obtain ⟨g', t', cs, fuel, p, hg', ht', hvar, hd⟩ := h
  obtain rfl := Option.some.inj (hg.symm.trans hg')
  obtain rfl := Option.some.inj (hty.symm.trans ht')
  unfold Lib.TabIs
  rw [hvar, ← Lib.cells_of_tab ht he hce hct hd]
theorem dat_first : (Rows.laid_unicode_utf8_first : DataW Unit) = Lib.firstData := by kernel_rfl
theorem dat_accept : (Rows.laid_unicode_utf8_acceptRanges : DataW Unit) = Lib.acceptData := by kernel_rfl
theorem dat_white : (Rows.laid_unicode_White_Space : DataW Unit) = Lib.whiteData := by kernel_rfl
theorem dat_ascii : (Rows.laid_strings_asciiSpace : DataW Unit) = Lib.tabData .u8 Lib.asciiSpaceTab := by kernel_rfl
/-- the tables, off what is laid -/
theorem tabs_laid {l : List (String × DataW Unit)} {w : World} (h : laidMet Tryz.prog l w) (h1 : ("unicode/utf8.first", Rows.laid_unicode_utf8_first) ∈ l) (h2 : ("unicode/utf8.acceptRanges", Rows.laid_unicode_utf8_acceptRanges) ∈ l) (h3 : ("unicode.White_Space", Rows.laid_unicode_White_Space) ∈ l) (h4 : ("strings.asciiSpace", Rows.laid_strings_asciiSpace) ∈ l) : TabsRaw w := by
  rw [dat_first] at h1
  rw [dat_accept] at h2
  rw [dat_white] at h3
  rw [dat_ascii] at h4
  refine ⟨tab_reads (g := 1) (by kernel_rfl) (by kernel_rfl) Tryz.underlying108 Tryz.underlying5 (by kernel_rfl) (by kernel_rfl) (Lib.laidMet.reads h h4), ?_, ?_⟩
  · exact utf8Tabs_of_reads (ρ := Tryz.lays260_ren) Tryz.lays260 ⟨by kernel_rfl, by kernel_rfl, by kernel_rfl, by kernel_rfl, by kernel_rfl, by kernel_rfl, by kernel_rfl⟩ (Lib.laidMet.reads h h1) (Lib.laidMet.reads h h2)
  · exact whiteTab_of_reads (ρ := Tryz.lays199_ren) Tryz.lays199 ⟨by kernel_rfl, by kernel_rfl, by kernel_rfl, by kernel_rfl, by kernel_rfl, by kernel_rfl, by kernel_rfl, by kernel_rfl⟩ (Lib.laidMet.reads h h3)
theorem dat_pow10 : (Rows.laid_internal_strconv_uint64pow10 : DataW Unit) = Lib.tabData .u64 Lib.pow10Tab := by kernel_rfl
theorem tab10_laid {l : List (String × DataW Unit)} {w : World} (h : laidMet Tryz.prog l w) (h1 : ("internal/strconv.uint64pow10", Rows.laid_internal_strconv_uint64pow10) ∈ l) : Lib.TabIs Tryz.prog w "internal/strconv.uint64pow10" .u64 Lib.pow10Tab := by
  rw [dat_pow10] at h1
  exact tab_reads (g := 0) (by kernel_rfl) (by kernel_rfl) Tryz.underlying104 Tryz.underlying84 (by kernel_rfl) (by kernel_rfl) (Lib.laidMet.reads h h1)
end Go.Proofs.YtmljkiohekogbaaGreatDoor

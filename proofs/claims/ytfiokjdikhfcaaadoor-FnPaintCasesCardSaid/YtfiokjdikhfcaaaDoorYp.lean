import Derived.Test.YtfiokjdikhfcaaaDoorYo
namespace Go.Proofs.YtfiokjdikhfcaaaDoor
open Go.RowKit Go.Lib
set_option linter.unusedVariables false
set_option linter.unusedSimpArgs false
set_option maxHeartbeats 4000000
set_option maxRecDepth 100000

def asciiL (l : List UInt8) : Prop := ∀ b ∈ l, b.toNat < 128
theorem upF_range (c : Bool) (x : Nat) (hx : x < 128) : 0 ≤ (upF c x).1 ∧ (upF c x).1 ≤ 2147483647 := by
  unfold upF toUpperR
  split
  · omega
  · dsimp only
    split <;> omega
theorem tiF_range (c : Int × Bool) (x : Nat) (hx : x < 128) : 0 ≤ (tiF c x).1 ∧ (tiF c x).1 ≤ 2147483647 := by
  unfold tiF toUpperR
  split
  · omega
  · split
    · dsimp only
      split <;> omega
    · dsimp only
      omega
theorem asciiL.at {l : List UInt8} (h : asciiL l) (pos : Nat) (hp : pos < l.length) : (decodeL (l.drop pos)).1 < 128 := by
  rw [List.drop_eq_getElem_cons hp, decodeL_ascii _ _ (h _ (List.getElem_mem hp))]
  exact h _ (List.getElem_mem hp)
theorem toUpper_calls (l : List UInt8) (hl : l.length < 35184372088832) (ha : asciiL l) (w : World) :
    Calls Tryd.prog 28 #[.string ⟨l.toArray⟩] w fun e w' => e = .returned (.string ⟨(mapS upF false l).toArray⟩) ∧ Below w.heap.size w w' := by
  have K : Hid (∀ wm : World, Below w.heap.size w wm → wm.heap.size = w.heap.size + 1 → boxAt wm w.heap.size (.bool false) 4 →
      Calls Tryd.prog 37 #[.func (.func 42) #[] #[.pointer (some ⟨w.heap.size, 0, none⟩)], .string ⟨l.toArray⟩] wm fun e w' => e = .returned (.string ⟨(mapS upF false l).toArray⟩) ∧ Below w.heap.size w w') := hid (fun wm h0 hz hb =>
    (map_state Tryd.lays230 Tryd.Builder_Extra_230 42 #[.pointer (some ⟨w.heap.size, 0, none⟩)] (enters_of Tryd.func42 (by kernel_rfl) rfl) upF ⟨l.toArray⟩ wm (by simpa [size_eq] using hl)
      (fun c W => Below w.heap.size w W ∧ boxAt W w.heap.size (.bool c) 4) false ⟨h0, hb⟩
      (fun c W W' h hW => ⟨h.1.trans (hW.mono (by omega)), (hW.block _ (by omega)).trans h.2⟩)
      (fun x => x < 128) (fun h => by omega) (fun pos hp => ha.at pos (by simpa [size_eq] using hp))
      (fun W c x _ hx hs h => (up1_calls w.heap.size c x (by omega) (by omega) W h.2).mono fun e w' ⟨h1, h2, h3⟩ => ⟨h1, ⟨⟨h3.os.trans h.1.os, h3.tape.trans h.1.tape, h3.output.trans h.1.output, by have := h3.size; have := h.1.size; omega, fun k hk => (h3.block k (by omega)).trans (h.1.block k hk)⟩, h2⟩,
        h3.os, h3.tape, h3.output, by have := h3.size; omega, fun k hk _ => h3.block k (by omega)⟩)
      (fun c x _ hx => upF_range c x hx)).mono fun e w' ⟨h1, c, h2, _⟩ => ⟨h1, h2.1⟩)
  have K0 := hid (K.out (w.alloc (.cells #[.bool false] 4)) ((Below.refl _ w).alloc (Nat.le_refl _) _) (by simp) (heap_alloc_new w (.cells #[.bool false] 4)))
  clear K
  go_enter Tryd.func28, Tryd.ntmps28
  go_wp2_with (go_at_call 37; (with_reducible refine K0.out.mono ?_); rintro e w1 ⟨rfl, hb1⟩)
  go_ret
  exact ⟨rfl, hb1⟩
theorem toTitle_calls (l : List UInt8) (hl : l.length < 35184372088832) (ha : asciiL l) (w : World) :
    Calls Tryd.prog 27 #[.string ⟨l.toArray⟩] w fun e w' => e = .returned (.string ⟨(mapS tiF (32, false) l).toArray⟩) ∧ Below w.heap.size w w' := by
  have K : Hid (∀ wm : World, Below w.heap.size w wm → wm.heap.size = w.heap.size + 2 → boxAt wm (w.heap.size + 1) (.bool false) 4 → boxAt wm w.heap.size (.int .i32 32) 21 →
      Calls Tryd.prog 37 #[.func (.func 39) #[] #[.pointer (some ⟨w.heap.size + 1, 0, none⟩), .pointer (some ⟨w.heap.size, 0, none⟩)], .string ⟨l.toArray⟩] wm fun e w' => e = .returned (.string ⟨(mapS tiF (32, false) l).toArray⟩) ∧ Below w.heap.size w w') := hid (fun wm h0 hz hb hb2 =>
    (map_state Tryd.lays230 Tryd.Builder_Extra_230 39 #[.pointer (some ⟨w.heap.size + 1, 0, none⟩), .pointer (some ⟨w.heap.size, 0, none⟩)] (enters_of Tryd.func39 (by kernel_rfl) rfl) tiF ⟨l.toArray⟩ wm (by simpa [size_eq] using hl)
      (fun c W => Below w.heap.size w W ∧ boxAt W (w.heap.size + 1) (.bool c.2) 4 ∧ boxAt W w.heap.size (.int .i32 c.1) 21 ∧ c.1 ≤ 127) (32, false) ⟨h0, hb, hb2, by decide⟩
      (fun c W W' h hW => ⟨h.1.trans (hW.mono (by omega)), (hW.block _ (by omega)).trans h.2.1, (hW.block _ (by omega)).trans h.2.2.1, h.2.2.2⟩)
      (fun x => x < 128) (fun h => by omega) (fun pos hp => ha.at pos (by simpa [size_eq] using hp))
      (fun W c x _ hx hs h => (ti1_calls (w.heap.size + 1) w.heap.size (by omega) c.1 h.2.2.2 c.2 x (by omega) (by omega) W h.2.1 h.2.2.1).mono fun e w' ⟨h1, h2, h3, h4, h5, h6, h7, h8⟩ => ⟨h1, ⟨⟨h6.trans h.1.os, h7.trans h.1.tape, h8.trans h.1.output, by have := h.1.size; omega, fun k hk => (h4 k (by omega) (by omega)).trans (h.1.block k hk)⟩, h2, h3, by
          have := h.2.2.2
          unfold tiF
          split
          · exact this
          · split <;> (dsimp only; omega)⟩,
        h6, h7, h8, by omega, fun k hk _ => h4 k (by omega) (by omega)⟩)
      (fun c x _ hx => tiF_range c x hx)).mono fun e w' ⟨h1, c, h2, _⟩ => ⟨h1, h2.1⟩)
  have hz1 : (w.alloc (.cells #[.int .i32 32] 21)).heap.size = w.heap.size + 1 := by simp
  have K0 := K.out ((w.alloc (.cells #[.int .i32 32] 21)).alloc (.cells #[.bool false] 4)) ((((Below.refl _ w).alloc (Nat.le_refl _) _).alloc (by simp) _)) (by simp)
    (hz1 ▸ heap_alloc_new (w.alloc (.cells #[.int .i32 32] 21)) (.cells #[.bool false] 4))
    ((Below.heap_alloc _ _ _ (by simp)).trans (heap_alloc_new w (.cells #[.int .i32 32] 21)))
  replace K0 := hid K0
  clear K hz1
  go_enter Tryd.func27, Tryd.ntmps27
  go_wp2_with (go_at_call 37; (with_reducible refine K0.out.mono ?_); rintro e w1 ⟨rfl, hb1⟩)
  go_ret
  exact ⟨rfl, hb1⟩
/-- Format.Apply, of ASCII. -/
def fmtF (k : Int) (l : List UInt8) : List UInt8 :=
  if k = 1 then toLowerA l else if k = 2 then mapS tiF (32, false) l else if k = 3 then mapS upF false l else l
theorem apply_calls (k : Int) (l : List UInt8) (hl : l.length < 35184372088832) (ha : asciiL l) (w : World) :
    Calls Tryd.prog 17 #[.int .i64 k, .string ⟨l.toArray⟩] w fun e w' => e = .returned (.string ⟨(fmtF k l).toArray⟩) ∧ Below w.heap.size w w' := by
  have hsz : (⟨l.toArray⟩ : ByteArray).size = l.length := by simp [size_eq]
  have K1 := hid (Tryd.strings_ToLower_ascii ⟨l.toArray⟩ w (by rw [hsz]; omega) (fun j b h => ha b (List.mem_of_getElem? (by simpa using h))))
  have K2 := hid (toTitle_calls l hl ha w)
  have K3 := hid (toUpper_calls l hl ha w)
  by_cases h1 : k = 1
  · subst h1
    go_enter Tryd.func17, Tryd.ntmps17
    go_wp2_with (go_at_call 26; (with_reducible refine K1.out.mono ?_); rintro e w1 ⟨rfl, hb1⟩)
    go_ret
    exact ⟨rfl, hb1⟩
  · by_cases h2 : k = 2
    · subst h2
      go_enter Tryd.func17, Tryd.ntmps17
      go_wp2_with (go_at_call 27; (with_reducible refine K2.out.mono ?_); rintro e w1 ⟨rfl, hb1⟩)
      go_ret
      exact ⟨rfl, hb1⟩
    · by_cases h3 : k = 3
      · subst h3
        go_enter Tryd.func17, Tryd.ntmps17
        go_wp2_with (go_at_call 28; (with_reducible refine K3.out.mono ?_); rintro e w1 ⟨rfl, hb1⟩)
        go_ret
        exact ⟨rfl, hb1⟩
      · go_enter Tryd.func17, Tryd.ntmps17
        go_wp2
        go_ret
        exact ⟨by simp [fmtF, h1, h2, h3], Below.refl _ w⟩
theorem textFormat_calls (k : Int) (l : List UInt8) (hl : l.length < 35184372088832) (ha : asciiL l) (w : World) :
    Calls Tryd.prog 9 #[.int .i64 k, .string ⟨l.toArray⟩] w fun e w' => e = .returned (.string ⟨(fmtF k l).toArray⟩) ∧ Below w.heap.size w w' := by
  have K1 := hid (apply_calls k l hl ha w)
  go_enter Tryd.func9, Tryd.ntmps9
  go_wp2_with (go_at_call 17; (with_reducible refine K1.out.mono ?_); rintro e w1 ⟨rfl, hb1⟩)
  go_ret
  exact ⟨rfl, hb1⟩
end Go.Proofs.YtfiokjdikhfcaaaDoor

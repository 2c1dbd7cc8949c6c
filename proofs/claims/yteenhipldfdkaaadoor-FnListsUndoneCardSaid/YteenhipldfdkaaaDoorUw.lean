import Derived.Test.YteenhipldfdkaaaDoorUm
namespace Go.Proofs.YteenhipldfdkaaaDoor
open Go.RowKit
set_option linter.unusedVariables false
set_option linter.unusedSimpArgs false
set_option maxHeartbeats 8000000
set_option maxRecDepth 100000
attribute [local go_sem] S_extract S_append run_cut_S run_head_S run_tail_S Nat.add_sub_cancel_left

theorem undone_main (a : List UInt8) (w : World) (A0 A2 : Option Addr) (c0 c2 : Nat) (l0 l2 : List Stp) (K1 : Tells w 8 (.slice A0 l0.length c0) true) (hs2 : ¬ 200 < (a.length : Int)) (K2 : Tells w 8 (.slice A2 l2.length c2) true) (K3 : Tells w 9 (.slice A0 l0.length c0) true) (K4 : Tells w 9 (.slice A2 l2.length c2) true) (hsim : txSimple ⟨a.toArray⟩ false = true)
    (F : UndoneFacts w (.slice A0 l0.length c0) (.slice A2 l2.length c2) a l0 l2) : UndoneSaid (.slice A0 l0.length c0) (.slice A2 l2.length c2) a w := by
  have K1 := hid K1
  have D0 := hid (Below.refl w.heap.size w)
  have K2 := hid K2
  have K3 := hid K3
  have K4 := hid K4
  have hd : decide (2147483647 < (a.length : Int)) = false := decide_eq_false (by omega)
  have hd2 : decide (200 < (a.length : Int)) = false := decide_eq_false hs2
  have K5 := hid (fun (w' : World) => TxSimple_calls ⟨a.toArray⟩ false w' (by rw [S_size]; omega))
  rw [hsim] at K5
  have n0 := F.n0
  have n2 := F.n2
  have ha : a.length ≤ 200 := by omega
  have NIL0 := hid (fun (e : A0 = none) => F.nil0 l0.length c0 (by rw [e]))
  have NIL2 := hid (fun (e : A2 = none) => F.nil2 l2.length c2 (by rw [e]))
  have ONE0 := hid (stp_one F.r0)
  have ONE2 := hid (stp_one F.r2)
  have FF := hid F
  clear F hsim
  go_enter Tryd.func7, Tryd.ntmps7
  go_wp2_with (first
    | (go_at_call 8; (with_reducible refine (K1.out _ D0.out).mono ?_); rintro e w1 ⟨rfl, hb1⟩; clear K1)
    | (go_at_call 8; (with_reducible refine (K2.out _ hb1).mono ?_); rintro e w2 ⟨rfl, hb2⟩; clear K2)
    | (go_at_call 9; (with_reducible refine (K3.out _ (below_next hb1 hb2)).mono ?_); rintro e w3 ⟨rfl, hb3⟩; clear K3)
    | (go_at_call 9; (with_reducible refine (K4.out _ (below_next (below_next hb1 hb2) hb3)).mono ?_); rintro e w4 ⟨rfl, hb4⟩; clear K4)
    | (go_at_call 14; (with_reducible refine (K5.out _).mono ?_); rintro e w5 ⟨rfl, hb5⟩; clear K5; have B5 := hid (below_next (below_next (below_next (below_next hb1 hb2) hb3) hb4) hb5); clear hb1 hb2 hb3 hb4 hb5; have OWN5 := hid (own_empty w5 33 3); have SRC5 := hid ((FF.out.r0.1.below (B5.out.trans (((Below.refl _ w5).alloc (Nat.le_refl _) (.cells #[] 33)).mono B5.out.size))).at))
    | (at_builtin; refine append_read _ rfl _ _ 22 33 (.agg #[.int .i64 0, .string ⟨#[]⟩, .slice none 0 0]) 3 48 rfl Tryd.underlying22 infoStep rfl (by decide) w5.heap.size (.slice (some ⟨w5.heap.size, 0, none⟩) 0 0) 0 [] rfl OWN5.out A0 l0.length c0 (stpCells l0) rfl NIL0.out (stp_len l0) SRC5.out ONE0.out (by omega) (by decide) (by simp) ?_; intro v6 w6 hown6 hg6; rw [Nat.zero_add, List.nil_append] at hown6; have B6 := hid (below_grown ((Below.refl _ w5).alloc (Nat.le_refl _) _) (by simp) (Nat.le_refl _) OWN5.out hg6 : Below w5.heap.size w5 w6); have OWN6 := hid hown6; clear hown6 hg6 OWN5 SRC5)
    | (at_builtin; refine append_box rfl _ _ 22 33 (.agg #[.int .i64 0, .string ⟨#[]⟩, .slice none 0 0]) 3 48 rfl Tryd.underlying22 infoStep rfl (by decide) w5.heap.size v6 l0.length (stpCells l0) rfl OWN6.out 1 33 [.int .i64 0, .string ⟨a.toArray⟩, .slice none 0 0] rfl rfl (by simp; exact ⟨rfl, rfl, rfl⟩) (by omega) (by decide) B6.out.size ?_; intro v7 w7 hown7 hg7; have B7 := hid (below_grown B6.out B6.out.size (Nat.le_refl _) OWN6.out hg7 : Below w5.heap.size w5 w7); obtain ⟨A7, c7, rfl, hc7, hn7⟩ := own_slice hown7; have OWN7 := hid (show w7.ownsRow w5.heap.size 33 3 (.slice A7 (l0.length + 1) c7) (l0.length + 1) (row7 l0 a) from hown7); have NIL7 := hid hn7; have EMP7 := hid (own_empty w7 33 3); have SRC7 := hid (own_src' (own_below OWN7.out ((Below.refl _ w7).alloc (Nat.le_refl _) (.cells #[] 33)))); clear hown7 hg7 OWN6 hn7 hc7)
    | (at_builtin; refine append_read _ rfl _ _ 22 33 (.agg #[.int .i64 0, .string ⟨#[]⟩, .slice none 0 0]) 3 48 rfl Tryd.underlying22 infoStep rfl (by decide) w7.heap.size (.slice (some ⟨w7.heap.size, 0, none⟩) 0 0) 0 [] rfl EMP7.out A7 (l0.length + 1) c7 (row7 l0 a) rfl NIL7.out (row7_len l0 a) SRC7.out (row7_one a FF.out.r0) (by omega) (by decide) (by simp) ?_; intro v8 w8 hown8 hg8; rw [Nat.zero_add, List.nil_append] at hown8; have B8 := hid (below_grown ((Below.refl _ w7).alloc (Nat.le_refl _) _) (by simp) (Nat.le_refl _) EMP7.out hg8 : Below w7.heap.size w7 w8); have OWN8 := hid (own_below hown8 ((Below.refl _ w8).alloc (Nat.le_refl _) (.cells #[.int .i64 2, .string ⟨#[]⟩, .slice none 0 0, .int .i64 3, .string ⟨#[]⟩, .slice none 0 0] 33))); have OWN8' := hid hown8; clear hown8 hg8 EMP7 SRC7)
    | (at_builtin; refine append_read _ rfl _ _ 22 33 (.agg #[.int .i64 0, .string ⟨#[]⟩, .slice none 0 0]) 3 48 rfl Tryd.underlying22 infoStep rfl (by decide) w7.heap.size v8 (l0.length + 1) (row7 l0 a) rfl OWN8.out (some ⟨w8.heap.size, 0, none⟩) 2 2 two rfl (fun e => by cases e) rfl (two_src w8 33) two_one (by omega) (by decide) (Nat.le_trans B8.out.size (by simp)) ?_; intro v9 w9 hown9 hg9; have B9 := hid (below_grown B8.out B8.out.size (Nat.le_refl _) OWN8'.out (grown_alloc hg9) : Below w7.heap.size w7 w9); obtain ⟨A9, c9, rfl, hc9, hn9⟩ := own_slice hown9; have OWN9 := hid hown9; have OWN7b := hid (own_below OWN7.out B9.out); have B09 := hid (B5.out.trans ((B7.out.trans (B9.out.mono B7.out.size)).mono B5.out.size) : Below w.heap.size w w9); have SRC9 := hid ((FF.out.r2.1.below B09.out).at); clear hown9 hg9 hn9 hc9 OWN8 OWN8' B8)
    | (at_builtin; refine append_read_at _ rfl _ _ 22 33 (.agg #[.int .i64 0, .string ⟨#[]⟩, .slice none 0 0]) 3 48 rfl Tryd.underlying22 infoStep rfl (by decide) w5.heap.size (.slice A7 (l0.length + 1) c7) (l0.length + 1) (row7 l0 a) rfl OWN7b.out A2 l2.length c2 (stpCells l2) rfl NIL2.out (stp_len l2) SRC9.out ONE2.out (by omega) (by decide) (Nat.le_trans B7.out.size B9.out.size) ?_; intro v10 w10 hown10 hg10 hat10; have L7 := hid (fun k hk => (own_lt OWN7.out k hk).1); have OWN9b := hid (own_step OWN9.out (fun k hk => hg10.block k (own_lt OWN9.out k hk).1 (fun e => by have h1 := (own_lt OWN9.out k hk).2; have h2 := L7.out k e.symm; omega))); have L9 := hid (fun k hk => (own_lt OWN9.out k hk).1); have B010 := hid (below_grown B09.out B09.out.size (Nat.le_trans B5.out.size (Nat.le_refl _)) OWN7b.out hg10 : Below w.heap.size w w10); have SRC10 := hid ((FF.out.r2.1.below B010.out).at); have SZ10 := hid (Nat.le_trans B9.out.size hg10.size); have OWN10 := hid hown10; have HAT := hid hat10; clear hown10 hg10 hat10 SRC9)
    | (at_builtin; refine append_read _ rfl _ _ 22 33 (.agg #[.int .i64 0, .string ⟨#[]⟩, .slice none 0 0]) 3 48 rfl Tryd.underlying22 infoStep rfl (by decide) w7.heap.size (.slice A9 (l0.length + 1 + 2) c9) (l0.length + 1 + 2) (row7 l0 a ++ two) rfl OWN9b.out A2 l2.length c2 (stpCells l2) rfl NIL2.out (stp_len l2) SRC10.out ONE2.out (by omega) (by decide) SZ10.out ?_; intro v11 w11 hown11 hg11; have B011 := hid (below_grown B010.out B010.out.size (Nat.le_trans B5.out.size (Nat.le_trans B7.out.size (Nat.le_refl _))) OWN9b.out hg11 : Below w.heap.size w w11); obtain ⟨p, h, n, t1, t2, t3, t4, t5, t6⟩ := undone_fin FF.out ha B011.out OWN7b.out L7.out OWN9b.out L9.out OWN10.out HAT.out hown11 hg11; have T1 := hid t1; have T2 := hid t2; have T3 := hid t3; have T4 := hid t4; have T5 := hid t5; have T6 := hid t6; have C0 := hid (Below.refl w11.heap.size w11); clear t1 t2 t3 t4 t5 t6 hown11 hg11 OWN7b OWN9b OWN10 HAT L7 L9 SRC10 SZ10 B010 OWN7 OWN9)
    | (go_at_call 10; (with_reducible refine (T1.out _ C0.out).mono ?_); rintro e w12 ⟨rfl, hb12⟩; have C1 := hid (below_next C0.out hb12); clear T1 hb12)
    | (go_at_call 10; (with_reducible refine (T2.out _ C1.out).mono ?_); rintro e w13 ⟨rfl, hb13⟩; have C2 := hid (below_next C1.out hb13); clear T2 hb13)
    | (go_at_call 26; (with_reducible refine (T3.out _ C2.out).mono ?_); rintro e w14 ⟨rfl, hb14⟩; have C3 := hid (below_next C2.out hb14); clear T3 hb14)
    | (go_at_call 26; (with_reducible refine (T4.out _ C3.out).mono ?_); rintro e w15 ⟨rfl, hb15⟩; have C4 := hid (below_next C3.out hb15); clear T4 hb15)
    | (go_at_call 25; (with_reducible refine (T5.out _ C4.out).mono ?_); rintro e w16 ⟨rfl, hb16⟩; have C5 := hid (below_next C4.out hb16); clear T5 hb16)
    | (go_at_call 25; (with_reducible refine (T6.out _ C5.out).mono ?_); rintro e w17 ⟨rfl, hb17⟩; have C6 := hid (below_next C5.out hb17); clear T6 hb17)
    | (go_at_call 16; (with_reducible refine (ltAlive_calls _).mono ?_); rintro e w18 ⟨rfl, hb18⟩))
  go_ret
  exact ⟨rfl, below_next (B011.out.trans (C6.out.mono B011.out.size)) hb18⟩
end Go.Proofs.YteenhipldfdkaaaDoor

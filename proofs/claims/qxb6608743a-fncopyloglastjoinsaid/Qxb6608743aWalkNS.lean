import Derived.Test.Qxb6608743aParts
namespace Go.Proofs.Qxb6608743a
open Go.RowKit

set_option maxHeartbeats 3200000 in
set_option maxRecDepth 100000 in
theorem walk_ns (f : Int)  (x2 : Addr) (n2 c2 : Nat) (X2 : List Value) (w : World) (HF : Hid (0 ≤ f ∧ f ≤ 18446744073709551615))  (hl2 : Hid (X2.length = n2)) (HS2 : Hid (n2 ≤ 65536)) (HC2 : Hid (∀ j v, X2[j]? = some v → w.cell? (x2.add j) = some v)) (HW2 : Hid (AllWords X2)) :
    Calls Try.prog 3 #[.int .u64 f, .slice none 0 0, .slice (some x2) n2 c2] w fun e w' => e = .returned (.bool true) ∧ Below w.heap.size w w' := by
  have h01 := fun (w : World) => run_neq_slice_nil_any (P := Try.prog) w 23 22 none 0 0 0 0 Try.underlying23
  have h02 := fun (w : World) => run_neq_slice_nil_any (P := Try.prog) w 23 22 (some x2) n2 c2 0 0 Try.underlying23
  obtain ⟨i0, hi, hz0, hz1, hz2⟩ := info_parts Try.info22
  have s2 : (n2 : Int) ≤ 65536 := by have := HS2.out; omega
  go_enter Try.func3, Try.ntmps3
  go_wp2_with fail
  refine (bytes_any _ _ _ _ _ _ _ _ (Nat.zero_le _) (by have := HS2.out; unfold maxLen; omega)).mono ?_
  rintro e W ⟨⟨b, rfl⟩, rfl⟩
  cases b
  · go_wp2
    go_ret
    exact ⟨rfl, Below.refl _ _⟩
  · go_wp2_with (first
      | (at_make; refine wpList_make_full _ rfl (.tmp 37) (.tmp 37) 23 rfl W.heap.size 22 i0 (.int .u64 0) 1 Try.underlying23 hi hz0 hz1 _ _ _ _ n2 rfl rfl (by omega) (by omega) (by have := HS2.out; rw [hz2]; omega) (by have := HS2.out; unfold maxLen; omega) (by omega) ?_; intro w3 hown3 hgrow3; obtain ⟨w4, hrun2, hg4, hb4⟩ := copy_full x2 n2 c2 X2 hl2.out HC2.out HW2.out hown3 hgrow3; clear hown3 hgrow3)
      | (at_make; refine wpList_make_own _ rfl (.const (.int .i64 0)) (.tmp 47) 23 rfl w4.heap.size 22 i0 (.int .u64 0) 1 Try.underlying23 hi hz0 hz1 _ _ _ n2 rfl rfl (by omega) (by have h2 := HS2.out; rw [hz2]; omega) (by have h2 := HS2.out; unfold maxLen; omega) (by omega) ?_; intro w5 hown5 hgrow5; have b5 : Hid (Below w4.heap.size w4 w5) := grown_none hgrow5; clear hgrow5)
      | (at_builtin; refine wpList_append_fits_any _ rfl (.tmp 49) (.tmp 50) 23 rfl w4.heap.size 22 i0 1 Try.underlying23 hi hz1 w4.heap.size 0 n2 [] rfl hown5 none 0 0 [] rfl rfl (fun _ => ⟨rfl, rfl⟩) (fun _ h => by cases h) (fun _ h => by cases h) (by omega) ?_; intro w6 hown6 hgrow6; simp only [Nat.zero_add, List.nil_append] at hown6; have b6 : Hid (Below w4.heap.size w4 w6) := b5.out.trans (grown_row hgrow6 b5.out.size); clear hgrow6 hown5; have S2 : Hid (∀ ad, some (⟨W.heap.size, 0, none⟩ : Addr) = some ad → ∀ j u, X2[j]? = some u → w6.cell? (ad.add j) = some u) := src_later hg4.out b6.out)
      | (at_builtin; refine wpList_append_fits_any _ rfl (.tmp 52) (.tmp 53) 23 rfl w4.heap.size 22 i0 1 Try.underlying23 hi hz1 w4.heap.size 0 n2 [] rfl hown6 (some ⟨W.heap.size, 0, none⟩) n2 n2 X2 rfl (by have := hl2.out; omega) (fun h => by cases h) S2.out HW2.out.one (by omega) ?_; intro w7 hown7 hgrow7; simp only [Nat.zero_add, List.nil_append] at hown7; have b7 : Hid (Below w4.heap.size w4 w7) := b6.out.trans (grown_row hgrow7 b6.out.size); clear hgrow7 hown6))
    have HJ : Hid (Words w7 (some ⟨w4.heap.size, 0, none⟩) n2) := words_of_block (own_block hown7) (by have h2 := hl2.out; simp [h2]) HW2.out
    have H1 : Hid (Words w7 none 0) := words_none _
    have H2 : Hid (Words w7 (some ⟨W.heap.size, 0, none⟩) n2) := (words_of_block hg4.out hl2.out HW2.out).later b7.out
    have BW : Hid (Below W.heap.size W w7) := (below_chain hb4.out b7.out hb4.out.size)
    clear hown7 b5 b6 b7 hg4 hb4 S2 hrun2 HC2 HW2 hl2 h01 h02 hi hz0 hz1 hz2
    refine (newLog_any f (some ⟨w4.heap.size, 0, none⟩) n2 n2 _ HJ.out (by have h2 := HS2.out; omega)).mono ?_
    rintro e y1 ⟨g1, ad1, k1, rfl, p1, q1, B1⟩
    go_wp2_with fail
    refine (last_of g1 n2 k1 ad1 f _ (by have h2 := HS2.out; omega) p1 q1).mono ?_
    rintro e z1 ⟨vw, rfl, E1, D1⟩
    have BW1 : Hid (Below W.heap.size W z1) := below_chain (below_chain BW.out B1 BW.out.size) D1 (below_chain BW.out B1 BW.out.size).size
    have H1m1 : Hid (Words z1 none 0) := (H1.out.later B1).later D1
    have H2m1 : Hid (Words z1 (some ⟨W.heap.size, 0, none⟩) n2) := (H2.out.later B1).later D1
    clear HJ H1 H2 B1 D1 p1 q1 BW
    go_wp2_with fail
    refine (newLog_any f none 0 0 _ H1m1.out (by omega)).mono ?_
    rintro e y2 ⟨g2, ad2, k2, rfl, p2, q2, B2⟩
    go_wp2_with fail
    refine (last_of g2 0 k2 ad2 f _ (by omega) p2 q2).mono ?_
    rintro e z2 ⟨vh, rfl, E2, D2⟩
    have BW2 : Hid (Below W.heap.size W z2) := below_chain (below_chain BW1.out B2 BW1.out.size) D2 (below_chain BW1.out B2 BW1.out.size).size
    have H2m2 : Hid (Words z2 (some ⟨W.heap.size, 0, none⟩) n2) := (H2m1.out.later B2).later D2
    clear H1m1 H2m1 B2 D2 p2 q2 BW1
    go_wp2_with fail
    refine (newLog_any (IntKind.u64.wrap (vh + 1)) (some ⟨W.heap.size, 0, none⟩) n2 n2 _ H2m2.out (by have h2 := HS2.out; omega)).mono ?_
    rintro e y3 ⟨g3, ad3, k3, rfl, p3, q3, B3⟩
    go_wp2_with fail
    refine (last_of g3 n2 k3 ad3 (IntKind.u64.wrap (vh + 1)) _ (by have h2 := HS2.out; omega) p3 q3).mono ?_
    rintro e z3 ⟨vt, rfl, E3, D3⟩
    have BW3 : Hid (Below W.heap.size W z3) := below_chain (below_chain BW2.out B3 BW2.out.size) D3 (below_chain BW2.out B3 BW2.out.size).size
    clear H2m2 B3 D3 p3 q3 BW2
    go_wp2_with fail
    refine (newLog_any f none 0 0 _ (words_none _) (by omega)).mono ?_
    rintro e y4 ⟨g4, ad4, k4, rfl, p4, q4, B4⟩
    go_wp2_with fail
    refine (last_of g4 0 k4 ad4 f _ (by omega) p4 q4).mono ?_
    rintro e z4 ⟨vn, rfl, E4, D4⟩
    have BW4 : Hid (Below W.heap.size W z4) := below_chain (below_chain BW3.out B4 BW3.out.size) D4 (below_chain BW3.out B4 BW3.out.size).size
    clear B4 D4 p4 q4 BW3
    have t1 : (vw == vt) = true := by
      have h := lastOf_join f 0 n2
      simp only [Nat.zero_add] at h
      rw [E1.out, E3.out, E2.out, ← h]; simp
    have t2 : (IntKind.u64.wrap (vn + 1) == f) = true := by rw [E4.out, lastOf_none f HF.out.1 HF.out.2]; simp
    clear E1 E2 E3 E4 HF
    go_wp2
    go_ret
    exact ⟨rfl, BW4.out⟩

end Go.Proofs.Qxb6608743a

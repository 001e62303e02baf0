import Derived.Test.Qxb6608743aParts
namespace Go.Proofs.Qxb6608743a
open Go.RowKit

set_option maxHeartbeats 3200000 in
set_option maxRecDepth 100000 in
theorem walk_sn (f : Int) (x1 : Addr) (n1 c1 : Nat) (X1 : List Value)  (w : World) (HF : Hid (0 ≤ f ∧ f ≤ 18446744073709551615)) (hl1 : Hid (X1.length = n1)) (HS1 : Hid (n1 ≤ 65536)) (HC1 : Hid (∀ j v, X1[j]? = some v → w.cell? (x1.add j) = some v)) (HW1 : Hid (AllWords X1))  :
    Calls Try.prog 3 #[.int .u64 f, .slice (some x1) n1 c1, .slice none 0 0] w fun e w' => e = .returned (.bool true) ∧ Below w.heap.size w w' := by
  have h01 := fun (w : World) => run_neq_slice_nil_any (P := Try.prog) w 23 22 (some x1) n1 c1 0 0 Try.underlying23
  have h02 := fun (w : World) => run_neq_slice_nil_any (P := Try.prog) w 23 22 none 0 0 0 0 Try.underlying23
  obtain ⟨i0, hi, hz0, hz1, hz2⟩ := info_parts Try.info22
  have s1 : (n1 : Int) ≤ 65536 := by have := HS1.out; omega
  go_enter Try.func3, Try.ntmps3
  go_wp2_with fail
  refine (bytes_any _ _ _ _ _ _ _ _ (by have := HS1.out; unfold maxLen; omega) (Nat.zero_le _)).mono ?_
  rintro e W ⟨⟨b, rfl⟩, rfl⟩
  cases b
  · go_wp2
    go_ret
    exact ⟨rfl, Below.refl _ _⟩
  · go_wp2_with (first
      | (at_make; refine wpList_make_full _ rfl (.tmp 28) (.tmp 28) 23 rfl W.heap.size 22 i0 (.int .u64 0) 1 Try.underlying23 hi hz0 hz1 _ _ _ _ n1 rfl rfl (by omega) (by omega) (by have := HS1.out; rw [hz2]; omega) (by have := HS1.out; unfold maxLen; omega) (by omega) ?_; intro w1 hown1 hgrow1; obtain ⟨w2, hrun1, hg2, hb2⟩ := copy_full x1 n1 c1 X1 hl1.out HC1.out HW1.out hown1 hgrow1; clear hown1 hgrow1)
      | (at_make; refine wpList_make_own _ rfl (.const (.int .i64 0)) (.tmp 47) 23 rfl w2.heap.size 22 i0 (.int .u64 0) 1 Try.underlying23 hi hz0 hz1 _ _ _ n1 rfl rfl (by omega) (by have h1 := HS1.out; rw [hz2]; omega) (by have h1 := HS1.out; unfold maxLen; omega) (by omega) ?_; intro w5 hown5 hgrow5; have b5 : Hid (Below w2.heap.size w2 w5) := grown_none hgrow5; clear hgrow5; have S1 : Hid (∀ ad, some (⟨W.heap.size, 0, none⟩ : Addr) = some ad → ∀ j u, X1[j]? = some u → w5.cell? (ad.add j) = some u) := src_later hg2.out b5.out)
      | (at_builtin; refine wpList_append_fits_any _ rfl (.tmp 49) (.tmp 50) 23 rfl w2.heap.size 22 i0 1 Try.underlying23 hi hz1 w2.heap.size 0 n1 [] rfl hown5 (some ⟨W.heap.size, 0, none⟩) n1 n1 X1 rfl (by have := hl1.out; omega) (fun h => by cases h) S1.out HW1.out.one (by omega) ?_; intro w6 hown6 hgrow6; simp only [Nat.zero_add, List.nil_append] at hown6; have b6 : Hid (Below w2.heap.size w2 w6) := b5.out.trans (grown_row hgrow6 b5.out.size); clear hgrow6 hown5)
      | (at_builtin; refine wpList_append_fits_any _ rfl (.tmp 52) (.tmp 53) 23 rfl w2.heap.size 22 i0 1 Try.underlying23 hi hz1 w2.heap.size n1 n1 X1 rfl hown6 none 0 0 [] rfl rfl (fun _ => ⟨rfl, rfl⟩) (fun _ h => by cases h) (fun _ h => by cases h) (by omega) ?_; intro w7 hown7 hgrow7; simp only [Nat.add_zero, List.append_nil] at hown7; have b7 : Hid (Below w2.heap.size w2 w7) := b6.out.trans (grown_row hgrow7 b6.out.size); clear hgrow7 hown6))
    have HJ : Hid (Words w7 (some ⟨w2.heap.size, 0, none⟩) n1) := words_of_block (own_block hown7) (by have h1 := hl1.out; simp [h1]) HW1.out
    have H1 : Hid (Words w7 (some ⟨W.heap.size, 0, none⟩) n1) := (words_of_block hg2.out hl1.out HW1.out).later b7.out
    have H2 : Hid (Words w7 none 0) := words_none _
    have BW : Hid (Below W.heap.size W w7) := (below_chain hb2.out b7.out hb2.out.size)
    clear hown7 b5 b6 b7 hg2 hb2 S1 hrun1 HC1 HW1 hl1 h01 h02 hi hz0 hz1 hz2
    refine (newLog_any f (some ⟨w2.heap.size, 0, none⟩) n1 n1 _ HJ.out (by have h1 := HS1.out; omega)).mono ?_
    rintro e y1 ⟨g1, ad1, k1, rfl, p1, q1, B1⟩
    go_wp2_with fail
    refine (last_of g1 n1 k1 ad1 f _ (by have h1 := HS1.out; omega) p1 q1).mono ?_
    rintro e z1 ⟨vw, rfl, E1, D1⟩
    have BW1 : Hid (Below W.heap.size W z1) := below_chain (below_chain BW.out B1 BW.out.size) D1 (below_chain BW.out B1 BW.out.size).size
    have H1m1 : Hid (Words z1 (some ⟨W.heap.size, 0, none⟩) n1) := (H1.out.later B1).later D1
    have H2m1 : Hid (Words z1 none 0) := (H2.out.later B1).later D1
    clear HJ H1 H2 B1 D1 p1 q1 BW
    go_wp2_with fail
    refine (newLog_any f (some ⟨W.heap.size, 0, none⟩) n1 n1 _ H1m1.out (by have h1 := HS1.out; omega)).mono ?_
    rintro e y2 ⟨g2, ad2, k2, rfl, p2, q2, B2⟩
    go_wp2_with fail
    refine (last_of g2 n1 k2 ad2 f _ (by have h1 := HS1.out; omega) p2 q2).mono ?_
    rintro e z2 ⟨vh, rfl, E2, D2⟩
    have BW2 : Hid (Below W.heap.size W z2) := below_chain (below_chain BW1.out B2 BW1.out.size) D2 (below_chain BW1.out B2 BW1.out.size).size
    have H2m2 : Hid (Words z2 none 0) := (H2m1.out.later B2).later D2
    clear H1m1 H2m1 B2 D2 p2 q2 BW1
    go_wp2_with fail
    refine (newLog_any (IntKind.u64.wrap (vh + 1)) none 0 0 _ H2m2.out (by omega)).mono ?_
    rintro e y3 ⟨g3, ad3, k3, rfl, p3, q3, B3⟩
    go_wp2_with fail
    refine (last_of g3 0 k3 ad3 (IntKind.u64.wrap (vh + 1)) _ (by omega) p3 q3).mono ?_
    rintro e z3 ⟨vt, rfl, E3, D3⟩
    have BW3 : Hid (Below W.heap.size W z3) := below_chain (below_chain BW2.out B3 BW2.out.size) D3 (below_chain BW2.out B3 BW2.out.size).size
    clear H2m2 B3 D3 p3 q3 BW2
    go_wp2_with fail
    refine (newLog_any f none 0 0 _ (words_none _) (by omega)).mono ?_
    rintro e y4 ⟨g4, ad4, k4, rfl, p4, q4, B4⟩
    go_wp2_with fail
    refine (last_of g4 0 k4 ad4 f _ (by omega) p4 q4).mono ?_
    rintro e z4 ⟨vn, rfl, E4, D4⟩
    have BW4 : Hid (Below W.heap.size W z4) := below_chain (below_chain BW3.out B4 BW3.out.size) D4 (below_chain BW3.out B4 BW3.out.size).size
    clear B4 D4 p4 q4 BW3
    have t1 : (vw == vt) = true := by
      have h := lastOf_join f n1 0
      simp only [Nat.add_zero] at h
      rw [E1.out, E3.out, E2.out, ← h]; simp
    have t2 : (IntKind.u64.wrap (vn + 1) == f) = true := by rw [E4.out, lastOf_none f HF.out.1 HF.out.2]; simp
    clear E1 E2 E3 E4 HF
    go_wp2
    go_ret
    exact ⟨rfl, BW4.out⟩

end Go.Proofs.Qxb6608743a

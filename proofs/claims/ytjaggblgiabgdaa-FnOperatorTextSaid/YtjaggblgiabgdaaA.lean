/- The walks of laws.FnOperatorText: for n from 1 to 24 the call of impl.OperatorText gives the text that stands at place n - 1 of the law's own list; for every other n the law answers true at once. -/
import Derived.Test.YtjaggblgiabgdaaRows
import Derived.WalkKit
import Derived.ProofKit
import Derived.OpenShut
import Derived.Deep.QuietTactic
import Derived.BigQuiet
namespace Go.Proofs.Ytjaggblgiabgdaa.fnOperatorText
open Go.RowKit
set_option linter.unusedVariables false
theorem str1 (w : World) : Calls Try.prog 5 #[.int .i64 1] w fun e w' => e = .returned (.string ⟨#[124]⟩) ∧ w' = w := by
  go_enter Try.func5, Try.ntmps5
  go_wp2
  go_ret
  exact ⟨rfl, rfl⟩
theorem text1 (w : World) : Calls Try.prog 4 #[.int .i64 1] w fun e w' => e = .returned (.string ⟨#[124]⟩) ∧ w' = w := by
  go_enter Try.func4, Try.ntmps4
  go_wp2_with (go_at_call 5; refine (str1 _).mono ?_; rintro e w' ⟨rfl, rfl⟩)
  go_ret
  exact ⟨rfl, rfl⟩
theorem walk1 (w : World) : Calls Try.prog 3 #[.int .i64 1] w fun e w' => e = .returned (.bool true) ∧ Grown w w' := by
  go_enter Try.func3, Try.ntmps3
  go_wp2_with fail
  go_quiet ((go_at_call 4; exact Calls.quiet_of_same (text1 _)))
  go_wp2_with fail
  go_ret
  exact ⟨rfl, by repeat (first | exact Grown.refl _ | apply Grown.drewN | apply Grown.drew | apply Grown.alloc)⟩

theorem str2 (w : World) : Calls Try.prog 5 #[.int .i64 2] w fun e w' => e = .returned (.string ⟨#[44]⟩) ∧ w' = w := by
  go_enter Try.func5, Try.ntmps5
  go_wp2
  go_ret
  exact ⟨rfl, rfl⟩
theorem text2 (w : World) : Calls Try.prog 4 #[.int .i64 2] w fun e w' => e = .returned (.string ⟨#[44]⟩) ∧ w' = w := by
  go_enter Try.func4, Try.ntmps4
  go_wp2_with (go_at_call 5; refine (str2 _).mono ?_; rintro e w' ⟨rfl, rfl⟩)
  go_ret
  exact ⟨rfl, rfl⟩
theorem walk2 (w : World) : Calls Try.prog 3 #[.int .i64 2] w fun e w' => e = .returned (.bool true) ∧ Grown w w' := by
  go_enter Try.func3, Try.ntmps3
  go_wp2_with fail
  go_quiet ((go_at_call 4; exact Calls.quiet_of_same (text2 _)))
  go_wp2_with fail
  go_ret
  exact ⟨rfl, by repeat (first | exact Grown.refl _ | apply Grown.drewN | apply Grown.drew | apply Grown.alloc)⟩

theorem str3 (w : World) : Calls Try.prog 5 #[.int .i64 3] w fun e w' => e = .returned (.string ⟨#[43]⟩) ∧ w' = w := by
  go_enter Try.func5, Try.ntmps5
  go_wp2
  go_ret
  exact ⟨rfl, rfl⟩
theorem text3 (w : World) : Calls Try.prog 4 #[.int .i64 3] w fun e w' => e = .returned (.string ⟨#[43]⟩) ∧ w' = w := by
  go_enter Try.func4, Try.ntmps4
  go_wp2_with (go_at_call 5; refine (str3 _).mono ?_; rintro e w' ⟨rfl, rfl⟩)
  go_ret
  exact ⟨rfl, rfl⟩
theorem walk3 (w : World) : Calls Try.prog 3 #[.int .i64 3] w fun e w' => e = .returned (.bool true) ∧ Grown w w' := by
  go_enter Try.func3, Try.ntmps3
  go_wp2_with fail
  go_quiet ((go_at_call 4; exact Calls.quiet_of_same (text3 _)))
  go_wp2_with fail
  go_ret
  exact ⟨rfl, by repeat (first | exact Grown.refl _ | apply Grown.drewN | apply Grown.drew | apply Grown.alloc)⟩

theorem str4 (w : World) : Calls Try.prog 5 #[.int .i64 4] w fun e w' => e = .returned (.string ⟨#[45]⟩) ∧ w' = w := by
  go_enter Try.func5, Try.ntmps5
  go_wp2
  go_ret
  exact ⟨rfl, rfl⟩
theorem text4 (w : World) : Calls Try.prog 4 #[.int .i64 4] w fun e w' => e = .returned (.string ⟨#[45]⟩) ∧ w' = w := by
  go_enter Try.func4, Try.ntmps4
  go_wp2_with (go_at_call 5; refine (str4 _).mono ?_; rintro e w' ⟨rfl, rfl⟩)
  go_ret
  exact ⟨rfl, rfl⟩
theorem walk4 (w : World) : Calls Try.prog 3 #[.int .i64 4] w fun e w' => e = .returned (.bool true) ∧ Grown w w' := by
  go_enter Try.func3, Try.ntmps3
  go_wp2_with fail
  go_quiet ((go_at_call 4; exact Calls.quiet_of_same (text4 _)))
  go_wp2_with fail
  go_ret
  exact ⟨rfl, by repeat (first | exact Grown.refl _ | apply Grown.drewN | apply Grown.drew | apply Grown.alloc)⟩

theorem str5 (w : World) : Calls Try.prog 5 #[.int .i64 5] w fun e w' => e = .returned (.string ⟨#[42]⟩) ∧ w' = w := by
  go_enter Try.func5, Try.ntmps5
  go_wp2
  go_ret
  exact ⟨rfl, rfl⟩
theorem text5 (w : World) : Calls Try.prog 4 #[.int .i64 5] w fun e w' => e = .returned (.string ⟨#[42]⟩) ∧ w' = w := by
  go_enter Try.func4, Try.ntmps4
  go_wp2_with (go_at_call 5; refine (str5 _).mono ?_; rintro e w' ⟨rfl, rfl⟩)
  go_ret
  exact ⟨rfl, rfl⟩
theorem walk5 (w : World) : Calls Try.prog 3 #[.int .i64 5] w fun e w' => e = .returned (.bool true) ∧ Grown w w' := by
  go_enter Try.func3, Try.ntmps3
  go_wp2_with fail
  go_quiet ((go_at_call 4; exact Calls.quiet_of_same (text5 _)))
  go_wp2_with fail
  go_ret
  exact ⟨rfl, by repeat (first | exact Grown.refl _ | apply Grown.drewN | apply Grown.drew | apply Grown.alloc)⟩

theorem str6 (w : World) : Calls Try.prog 5 #[.int .i64 6] w fun e w' => e = .returned (.string ⟨#[47]⟩) ∧ w' = w := by
  go_enter Try.func5, Try.ntmps5
  go_wp2
  go_ret
  exact ⟨rfl, rfl⟩
theorem text6 (w : World) : Calls Try.prog 4 #[.int .i64 6] w fun e w' => e = .returned (.string ⟨#[47]⟩) ∧ w' = w := by
  go_enter Try.func4, Try.ntmps4
  go_wp2_with (go_at_call 5; refine (str6 _).mono ?_; rintro e w' ⟨rfl, rfl⟩)
  go_ret
  exact ⟨rfl, rfl⟩
theorem walk6 (w : World) : Calls Try.prog 3 #[.int .i64 6] w fun e w' => e = .returned (.bool true) ∧ Grown w w' := by
  go_enter Try.func3, Try.ntmps3
  go_wp2_with fail
  go_quiet ((go_at_call 4; exact Calls.quiet_of_same (text6 _)))
  go_wp2_with fail
  go_ret
  exact ⟨rfl, by repeat (first | exact Grown.refl _ | apply Grown.drewN | apply Grown.drew | apply Grown.alloc)⟩

theorem str7 (w : World) : Calls Try.prog 5 #[.int .i64 7] w fun e w' => e = .returned (.string ⟨#[37]⟩) ∧ w' = w := by
  go_enter Try.func5, Try.ntmps5
  go_wp2
  go_ret
  exact ⟨rfl, rfl⟩
theorem text7 (w : World) : Calls Try.prog 4 #[.int .i64 7] w fun e w' => e = .returned (.string ⟨#[37]⟩) ∧ w' = w := by
  go_enter Try.func4, Try.ntmps4
  go_wp2_with (go_at_call 5; refine (str7 _).mono ?_; rintro e w' ⟨rfl, rfl⟩)
  go_ret
  exact ⟨rfl, rfl⟩
theorem walk7 (w : World) : Calls Try.prog 3 #[.int .i64 7] w fun e w' => e = .returned (.bool true) ∧ Grown w w' := by
  go_enter Try.func3, Try.ntmps3
  go_wp2_with fail
  go_quiet ((go_at_call 4; exact Calls.quiet_of_same (text7 _)))
  go_wp2_with fail
  go_ret
  exact ⟨rfl, by repeat (first | exact Grown.refl _ | apply Grown.drewN | apply Grown.drew | apply Grown.alloc)⟩

theorem str8 (w : World) : Calls Try.prog 5 #[.int .i64 8] w fun e w' => e = .returned (.string ⟨#[61, 61]⟩) ∧ w' = w := by
  go_enter Try.func5, Try.ntmps5
  go_wp2
  go_ret
  exact ⟨rfl, rfl⟩
theorem text8 (w : World) : Calls Try.prog 4 #[.int .i64 8] w fun e w' => e = .returned (.string ⟨#[61, 61]⟩) ∧ w' = w := by
  go_enter Try.func4, Try.ntmps4
  go_wp2_with (go_at_call 5; refine (str8 _).mono ?_; rintro e w' ⟨rfl, rfl⟩)
  go_ret
  exact ⟨rfl, rfl⟩
theorem walk8 (w : World) : Calls Try.prog 3 #[.int .i64 8] w fun e w' => e = .returned (.bool true) ∧ Grown w w' := by
  go_enter Try.func3, Try.ntmps3
  go_wp2_with fail
  go_quiet ((go_at_call 4; exact Calls.quiet_of_same (text8 _)))
  go_wp2_with fail
  go_ret
  exact ⟨rfl, by repeat (first | exact Grown.refl _ | apply Grown.drewN | apply Grown.drew | apply Grown.alloc)⟩

theorem str9 (w : World) : Calls Try.prog 5 #[.int .i64 9] w fun e w' => e = .returned (.string ⟨#[33, 61]⟩) ∧ w' = w := by
  go_enter Try.func5, Try.ntmps5
  go_wp2
  go_ret
  exact ⟨rfl, rfl⟩
theorem text9 (w : World) : Calls Try.prog 4 #[.int .i64 9] w fun e w' => e = .returned (.string ⟨#[33, 61]⟩) ∧ w' = w := by
  go_enter Try.func4, Try.ntmps4
  go_wp2_with (go_at_call 5; refine (str9 _).mono ?_; rintro e w' ⟨rfl, rfl⟩)
  go_ret
  exact ⟨rfl, rfl⟩
theorem walk9 (w : World) : Calls Try.prog 3 #[.int .i64 9] w fun e w' => e = .returned (.bool true) ∧ Grown w w' := by
  go_enter Try.func3, Try.ntmps3
  go_wp2_with fail
  go_quiet ((go_at_call 4; exact Calls.quiet_of_same (text9 _)))
  go_wp2_with fail
  go_ret
  exact ⟨rfl, by repeat (first | exact Grown.refl _ | apply Grown.drewN | apply Grown.drew | apply Grown.alloc)⟩

theorem str10 (w : World) : Calls Try.prog 5 #[.int .i64 10] w fun e w' => e = .returned (.string ⟨#[62]⟩) ∧ w' = w := by
  go_enter Try.func5, Try.ntmps5
  go_wp2
  go_ret
  exact ⟨rfl, rfl⟩
theorem text10 (w : World) : Calls Try.prog 4 #[.int .i64 10] w fun e w' => e = .returned (.string ⟨#[62]⟩) ∧ w' = w := by
  go_enter Try.func4, Try.ntmps4
  go_wp2_with (go_at_call 5; refine (str10 _).mono ?_; rintro e w' ⟨rfl, rfl⟩)
  go_ret
  exact ⟨rfl, rfl⟩
theorem walk10 (w : World) : Calls Try.prog 3 #[.int .i64 10] w fun e w' => e = .returned (.bool true) ∧ Grown w w' := by
  go_enter Try.func3, Try.ntmps3
  go_wp2_with fail
  go_quiet ((go_at_call 4; exact Calls.quiet_of_same (text10 _)))
  go_wp2_with fail
  go_ret
  exact ⟨rfl, by repeat (first | exact Grown.refl _ | apply Grown.drewN | apply Grown.drew | apply Grown.alloc)⟩

theorem str11 (w : World) : Calls Try.prog 5 #[.int .i64 11] w fun e w' => e = .returned (.string ⟨#[60]⟩) ∧ w' = w := by
  go_enter Try.func5, Try.ntmps5
  go_wp2
  go_ret
  exact ⟨rfl, rfl⟩
theorem text11 (w : World) : Calls Try.prog 4 #[.int .i64 11] w fun e w' => e = .returned (.string ⟨#[60]⟩) ∧ w' = w := by
  go_enter Try.func4, Try.ntmps4
  go_wp2_with (go_at_call 5; refine (str11 _).mono ?_; rintro e w' ⟨rfl, rfl⟩)
  go_ret
  exact ⟨rfl, rfl⟩
theorem walk11 (w : World) : Calls Try.prog 3 #[.int .i64 11] w fun e w' => e = .returned (.bool true) ∧ Grown w w' := by
  go_enter Try.func3, Try.ntmps3
  go_wp2_with fail
  go_quiet ((go_at_call 4; exact Calls.quiet_of_same (text11 _)))
  go_wp2_with fail
  go_ret
  exact ⟨rfl, by repeat (first | exact Grown.refl _ | apply Grown.drewN | apply Grown.drew | apply Grown.alloc)⟩

theorem str12 (w : World) : Calls Try.prog 5 #[.int .i64 12] w fun e w' => e = .returned (.string ⟨#[62, 61]⟩) ∧ w' = w := by
  go_enter Try.func5, Try.ntmps5
  go_wp2
  go_ret
  exact ⟨rfl, rfl⟩
theorem text12 (w : World) : Calls Try.prog 4 #[.int .i64 12] w fun e w' => e = .returned (.string ⟨#[62, 61]⟩) ∧ w' = w := by
  go_enter Try.func4, Try.ntmps4
  go_wp2_with (go_at_call 5; refine (str12 _).mono ?_; rintro e w' ⟨rfl, rfl⟩)
  go_ret
  exact ⟨rfl, rfl⟩
theorem walk12 (w : World) : Calls Try.prog 3 #[.int .i64 12] w fun e w' => e = .returned (.bool true) ∧ Grown w w' := by
  go_enter Try.func3, Try.ntmps3
  go_wp2_with fail
  go_quiet ((go_at_call 4; exact Calls.quiet_of_same (text12 _)))
  go_wp2_with fail
  go_ret
  exact ⟨rfl, by repeat (first | exact Grown.refl _ | apply Grown.drewN | apply Grown.drew | apply Grown.alloc)⟩

theorem str13 (w : World) : Calls Try.prog 5 #[.int .i64 13] w fun e w' => e = .returned (.string ⟨#[60, 61]⟩) ∧ w' = w := by
  go_enter Try.func5, Try.ntmps5
  go_wp2
  go_ret
  exact ⟨rfl, rfl⟩
theorem text13 (w : World) : Calls Try.prog 4 #[.int .i64 13] w fun e w' => e = .returned (.string ⟨#[60, 61]⟩) ∧ w' = w := by
  go_enter Try.func4, Try.ntmps4
  go_wp2_with (go_at_call 5; refine (str13 _).mono ?_; rintro e w' ⟨rfl, rfl⟩)
  go_ret
  exact ⟨rfl, rfl⟩
theorem walk13 (w : World) : Calls Try.prog 3 #[.int .i64 13] w fun e w' => e = .returned (.bool true) ∧ Grown w w' := by
  go_enter Try.func3, Try.ntmps3
  go_wp2_with fail
  go_quiet ((go_at_call 4; exact Calls.quiet_of_same (text13 _)))
  go_wp2_with fail
  go_ret
  exact ⟨rfl, by repeat (first | exact Grown.refl _ | apply Grown.drewN | apply Grown.drew | apply Grown.alloc)⟩

theorem str14 (w : World) : Calls Try.prog 5 #[.int .i64 14] w fun e w' => e = .returned (.string ⟨#[97, 110, 100]⟩) ∧ w' = w := by
  go_enter Try.func5, Try.ntmps5
  go_wp2
  go_ret
  exact ⟨rfl, rfl⟩
theorem text14 (w : World) : Calls Try.prog 4 #[.int .i64 14] w fun e w' => e = .returned (.string ⟨#[97, 110, 100]⟩) ∧ w' = w := by
  go_enter Try.func4, Try.ntmps4
  go_wp2_with (go_at_call 5; refine (str14 _).mono ?_; rintro e w' ⟨rfl, rfl⟩)
  go_ret
  exact ⟨rfl, rfl⟩
theorem walk14 (w : World) : Calls Try.prog 3 #[.int .i64 14] w fun e w' => e = .returned (.bool true) ∧ Grown w w' := by
  go_enter Try.func3, Try.ntmps3
  go_wp2_with fail
  go_quiet ((go_at_call 4; exact Calls.quiet_of_same (text14 _)))
  go_wp2_with fail
  go_ret
  exact ⟨rfl, by repeat (first | exact Grown.refl _ | apply Grown.drewN | apply Grown.drew | apply Grown.alloc)⟩

theorem str15 (w : World) : Calls Try.prog 5 #[.int .i64 15] w fun e w' => e = .returned (.string ⟨#[111, 114]⟩) ∧ w' = w := by
  go_enter Try.func5, Try.ntmps5
  go_wp2
  go_ret
  exact ⟨rfl, rfl⟩
theorem text15 (w : World) : Calls Try.prog 4 #[.int .i64 15] w fun e w' => e = .returned (.string ⟨#[111, 114]⟩) ∧ w' = w := by
  go_enter Try.func4, Try.ntmps4
  go_wp2_with (go_at_call 5; refine (str15 _).mono ?_; rintro e w' ⟨rfl, rfl⟩)
  go_ret
  exact ⟨rfl, rfl⟩
theorem walk15 (w : World) : Calls Try.prog 3 #[.int .i64 15] w fun e w' => e = .returned (.bool true) ∧ Grown w w' := by
  go_enter Try.func3, Try.ntmps3
  go_wp2_with fail
  go_quiet ((go_at_call 4; exact Calls.quiet_of_same (text15 _)))
  go_wp2_with fail
  go_ret
  exact ⟨rfl, by repeat (first | exact Grown.refl _ | apply Grown.drewN | apply Grown.drew | apply Grown.alloc)⟩

theorem str16 (w : World) : Calls Try.prog 5 #[.int .i64 16] w fun e w' => e = .returned (.string ⟨#[47, 47]⟩) ∧ w' = w := by
  go_enter Try.func5, Try.ntmps5
  go_wp2
  go_ret
  exact ⟨rfl, rfl⟩
theorem text16 (w : World) : Calls Try.prog 4 #[.int .i64 16] w fun e w' => e = .returned (.string ⟨#[47, 47]⟩) ∧ w' = w := by
  go_enter Try.func4, Try.ntmps4
  go_wp2_with (go_at_call 5; refine (str16 _).mono ?_; rintro e w' ⟨rfl, rfl⟩)
  go_ret
  exact ⟨rfl, rfl⟩
theorem walk16 (w : World) : Calls Try.prog 3 #[.int .i64 16] w fun e w' => e = .returned (.bool true) ∧ Grown w w' := by
  go_enter Try.func3, Try.ntmps3
  go_wp2_with fail
  go_quiet ((go_at_call 4; exact Calls.quiet_of_same (text16 _)))
  go_wp2_with fail
  go_ret
  exact ⟨rfl, by repeat (first | exact Grown.refl _ | apply Grown.drewN | apply Grown.drew | apply Grown.alloc)⟩

theorem str17 (w : World) : Calls Try.prog 5 #[.int .i64 17] w fun e w' => e = .returned (.string ⟨#[61]⟩) ∧ w' = w := by
  go_enter Try.func5, Try.ntmps5
  go_wp2
  go_ret
  exact ⟨rfl, rfl⟩
theorem text17 (w : World) : Calls Try.prog 4 #[.int .i64 17] w fun e w' => e = .returned (.string ⟨#[61]⟩) ∧ w' = w := by
  go_enter Try.func4, Try.ntmps4
  go_wp2_with (go_at_call 5; refine (str17 _).mono ?_; rintro e w' ⟨rfl, rfl⟩)
  go_ret
  exact ⟨rfl, rfl⟩
theorem walk17 (w : World) : Calls Try.prog 3 #[.int .i64 17] w fun e w' => e = .returned (.bool true) ∧ Grown w w' := by
  go_enter Try.func3, Try.ntmps3
  go_wp2_with fail
  go_quiet ((go_at_call 4; exact Calls.quiet_of_same (text17 _)))
  go_wp2_with fail
  go_ret
  exact ⟨rfl, by repeat (first | exact Grown.refl _ | apply Grown.drewN | apply Grown.drew | apply Grown.alloc)⟩

theorem str18 (w : World) : Calls Try.prog 5 #[.int .i64 18] w fun e w' => e = .returned (.string ⟨#[124, 61]⟩) ∧ w' = w := by
  go_enter Try.func5, Try.ntmps5
  go_wp2
  go_ret
  exact ⟨rfl, rfl⟩
theorem text18 (w : World) : Calls Try.prog 4 #[.int .i64 18] w fun e w' => e = .returned (.string ⟨#[124, 61]⟩) ∧ w' = w := by
  go_enter Try.func4, Try.ntmps4
  go_wp2_with (go_at_call 5; refine (str18 _).mono ?_; rintro e w' ⟨rfl, rfl⟩)
  go_ret
  exact ⟨rfl, rfl⟩
theorem walk18 (w : World) : Calls Try.prog 3 #[.int .i64 18] w fun e w' => e = .returned (.bool true) ∧ Grown w w' := by
  go_enter Try.func3, Try.ntmps3
  go_wp2_with fail
  go_quiet ((go_at_call 4; exact Calls.quiet_of_same (text18 _)))
  go_wp2_with fail
  go_ret
  exact ⟨rfl, by repeat (first | exact Grown.refl _ | apply Grown.drewN | apply Grown.drew | apply Grown.alloc)⟩

theorem str19 (w : World) : Calls Try.prog 5 #[.int .i64 19] w fun e w' => e = .returned (.string ⟨#[43, 61]⟩) ∧ w' = w := by
  go_enter Try.func5, Try.ntmps5
  go_wp2
  go_ret
  exact ⟨rfl, rfl⟩
theorem text19 (w : World) : Calls Try.prog 4 #[.int .i64 19] w fun e w' => e = .returned (.string ⟨#[43, 61]⟩) ∧ w' = w := by
  go_enter Try.func4, Try.ntmps4
  go_wp2_with (go_at_call 5; refine (str19 _).mono ?_; rintro e w' ⟨rfl, rfl⟩)
  go_ret
  exact ⟨rfl, rfl⟩
theorem walk19 (w : World) : Calls Try.prog 3 #[.int .i64 19] w fun e w' => e = .returned (.bool true) ∧ Grown w w' := by
  go_enter Try.func3, Try.ntmps3
  go_wp2_with fail
  go_quiet ((go_at_call 4; exact Calls.quiet_of_same (text19 _)))
  go_wp2_with fail
  go_ret
  exact ⟨rfl, by repeat (first | exact Grown.refl _ | apply Grown.drewN | apply Grown.drew | apply Grown.alloc)⟩

theorem str20 (w : World) : Calls Try.prog 5 #[.int .i64 20] w fun e w' => e = .returned (.string ⟨#[45, 61]⟩) ∧ w' = w := by
  go_enter Try.func5, Try.ntmps5
  go_wp2
  go_ret
  exact ⟨rfl, rfl⟩
theorem text20 (w : World) : Calls Try.prog 4 #[.int .i64 20] w fun e w' => e = .returned (.string ⟨#[45, 61]⟩) ∧ w' = w := by
  go_enter Try.func4, Try.ntmps4
  go_wp2_with (go_at_call 5; refine (str20 _).mono ?_; rintro e w' ⟨rfl, rfl⟩)
  go_ret
  exact ⟨rfl, rfl⟩
theorem walk20 (w : World) : Calls Try.prog 3 #[.int .i64 20] w fun e w' => e = .returned (.bool true) ∧ Grown w w' := by
  go_enter Try.func3, Try.ntmps3
  go_wp2_with fail
  go_quiet ((go_at_call 4; exact Calls.quiet_of_same (text20 _)))
  go_wp2_with fail
  go_ret
  exact ⟨rfl, by repeat (first | exact Grown.refl _ | apply Grown.drewN | apply Grown.drew | apply Grown.alloc)⟩

theorem str21 (w : World) : Calls Try.prog 5 #[.int .i64 21] w fun e w' => e = .returned (.string ⟨#[42, 61]⟩) ∧ w' = w := by
  go_enter Try.func5, Try.ntmps5
  go_wp2
  go_ret
  exact ⟨rfl, rfl⟩
theorem text21 (w : World) : Calls Try.prog 4 #[.int .i64 21] w fun e w' => e = .returned (.string ⟨#[42, 61]⟩) ∧ w' = w := by
  go_enter Try.func4, Try.ntmps4
  go_wp2_with (go_at_call 5; refine (str21 _).mono ?_; rintro e w' ⟨rfl, rfl⟩)
  go_ret
  exact ⟨rfl, rfl⟩
theorem walk21 (w : World) : Calls Try.prog 3 #[.int .i64 21] w fun e w' => e = .returned (.bool true) ∧ Grown w w' := by
  go_enter Try.func3, Try.ntmps3
  go_wp2_with fail
  go_quiet ((go_at_call 4; exact Calls.quiet_of_same (text21 _)))
  go_wp2_with fail
  go_ret
  exact ⟨rfl, by repeat (first | exact Grown.refl _ | apply Grown.drewN | apply Grown.drew | apply Grown.alloc)⟩

theorem str22 (w : World) : Calls Try.prog 5 #[.int .i64 22] w fun e w' => e = .returned (.string ⟨#[47, 61]⟩) ∧ w' = w := by
  go_enter Try.func5, Try.ntmps5
  go_wp2
  go_ret
  exact ⟨rfl, rfl⟩
theorem text22 (w : World) : Calls Try.prog 4 #[.int .i64 22] w fun e w' => e = .returned (.string ⟨#[47, 61]⟩) ∧ w' = w := by
  go_enter Try.func4, Try.ntmps4
  go_wp2_with (go_at_call 5; refine (str22 _).mono ?_; rintro e w' ⟨rfl, rfl⟩)
  go_ret
  exact ⟨rfl, rfl⟩
theorem walk22 (w : World) : Calls Try.prog 3 #[.int .i64 22] w fun e w' => e = .returned (.bool true) ∧ Grown w w' := by
  go_enter Try.func3, Try.ntmps3
  go_wp2_with fail
  go_quiet ((go_at_call 4; exact Calls.quiet_of_same (text22 _)))
  go_wp2_with fail
  go_ret
  exact ⟨rfl, by repeat (first | exact Grown.refl _ | apply Grown.drewN | apply Grown.drew | apply Grown.alloc)⟩

theorem str23 (w : World) : Calls Try.prog 5 #[.int .i64 23] w fun e w' => e = .returned (.string ⟨#[37, 61]⟩) ∧ w' = w := by
  go_enter Try.func5, Try.ntmps5
  go_wp2
  go_ret
  exact ⟨rfl, rfl⟩
theorem text23 (w : World) : Calls Try.prog 4 #[.int .i64 23] w fun e w' => e = .returned (.string ⟨#[37, 61]⟩) ∧ w' = w := by
  go_enter Try.func4, Try.ntmps4
  go_wp2_with (go_at_call 5; refine (str23 _).mono ?_; rintro e w' ⟨rfl, rfl⟩)
  go_ret
  exact ⟨rfl, rfl⟩
theorem walk23 (w : World) : Calls Try.prog 3 #[.int .i64 23] w fun e w' => e = .returned (.bool true) ∧ Grown w w' := by
  go_enter Try.func3, Try.ntmps3
  go_wp2_with fail
  go_quiet ((go_at_call 4; exact Calls.quiet_of_same (text23 _)))
  go_wp2_with fail
  go_ret
  exact ⟨rfl, by repeat (first | exact Grown.refl _ | apply Grown.drewN | apply Grown.drew | apply Grown.alloc)⟩

theorem str24 (w : World) : Calls Try.prog 5 #[.int .i64 24] w fun e w' => e = .returned (.string ⟨#[47, 47, 61]⟩) ∧ w' = w := by
  go_enter Try.func5, Try.ntmps5
  go_wp2
  go_ret
  exact ⟨rfl, rfl⟩
theorem text24 (w : World) : Calls Try.prog 4 #[.int .i64 24] w fun e w' => e = .returned (.string ⟨#[47, 47, 61]⟩) ∧ w' = w := by
  go_enter Try.func4, Try.ntmps4
  go_wp2_with (go_at_call 5; refine (str24 _).mono ?_; rintro e w' ⟨rfl, rfl⟩)
  go_ret
  exact ⟨rfl, rfl⟩
theorem walk24 (w : World) : Calls Try.prog 3 #[.int .i64 24] w fun e w' => e = .returned (.bool true) ∧ Grown w w' := by
  go_enter Try.func3, Try.ntmps3
  go_wp2_with fail
  go_quiet ((go_at_call 4; exact Calls.quiet_of_same (text24 _)))
  go_wp2_with fail
  go_ret
  exact ⟨rfl, by repeat (first | exact Grown.refl _ | apply Grown.drewN | apply Grown.drew | apply Grown.alloc)⟩

end Go.Proofs.Ytjaggblgiabgdaa.fnOperatorText
/-
  bits.ReverseBytes32, Reverse32, walked. No condition.
-/
import Derived.Test.YtcfcbcjaiplllaaREV
namespace Go.Proofs.Ytcfcbcjaiplllaa
open Go.RowKit Go.Qz
set_option linter.unusedVariables false

theorem stg_run (k m P x : Nat) (hP : P = 2 ^ k) (hx : x < 4294967296) (hm : m < 4294967296) :
    bits .or .u32 (bits .and .u32 ((x : Int) / (P : Int)) (m : Int)) (bits .and .u32 (x : Int) (m : Int) * (P : Int) % 4294967296) = ((stg k m x : Nat) : Int) := by
  have e1 : (x : Int) / (P : Int) = ((x / P : Nat) : Int) := by simp
  have h1 : x / P < 4294967296 := Nat.lt_of_le_of_lt (Nat.div_le_self _ _) hx
  rw [e1, u32_and _ _ h1 hm, u32_and _ _ hx hm]
  have e2 : ((x &&& m : Nat) : Int) * (P : Int) % 4294967296 = (((x &&& m) * P % 4294967296 : Nat) : Int) := by simp
  rw [e2, u32_or _ _ (by have := Nat.and_lt_two_pow (x / P) (n := 32) (show m < 2 ^ 32 from hm); omega) (Nat.mod_lt _ (by decide))]
  unfold stg
  rw [hP]
theorem lst_run (x : Nat) (hx : x < 4294967296) : bits .or .u32 ((x : Int) / 65536) ((x : Int) * 65536 % 4294967296) = ((lst x : Nat) : Int) := by
  have e1 : (x : Int) / 65536 = ((x / 65536 : Nat) : Int) := by simp
  have e2 : (x : Int) * 65536 % 4294967296 = ((x * 65536 % 4294967296 : Nat) : Int) := by simp
  rw [e1, e2, u32_or _ _ (by omega) (Nat.mod_lt _ (by decide))]
  rfl
set_option maxRecDepth 100000 in
set_option maxHeartbeats 800000 in
theorem rev_bytes (x : Nat) (hx : x < 4294967296) (w : World) :
    Calls Try.prog 67 #[.int .u32 x] w fun e w' => e = .returned (.int .u32 (lst (stg 8 16711935 x) : Nat)) ∧ w = w' := by
  have e1 : bits .or .u32 (bits .and .u32 ((x : Int) / 256) 16711935) (bits .and .u32 (x : Int) 16711935 * 256 % 4294967296) = ((stg 8 16711935 x : Nat) : Int) := stg_run 8 16711935 256 x (by decide) hx (by decide)
  have e2 := lst_run (stg 8 16711935 x) (stg_lt _ _ _ (by decide))
  generalize stg 8 16711935 x = y at *
  go_enter Try.func67, Try.ntmps67
  go_wp2_with fail
  go_ret
  exact ⟨rfl, rfl⟩
set_option maxRecDepth 100000 in
set_option maxHeartbeats 800000 in
theorem rev_32 (x : Nat) (hx : x < 4294967296) (w : World) :
    Calls Try.prog 63 #[.int .u32 x] w fun e w' => e = .returned (.int .u32 (rv x : Nat)) ∧ w = w' := by
  unfold rv
  have e1 : bits .or .u32 (bits .and .u32 ((x : Int) / 2) 1431655765) (bits .and .u32 (x : Int) 1431655765 * 2 % 4294967296) = ((stg 1 1431655765 x : Nat) : Int) := stg_run 1 1431655765 2 x (by decide) hx (by decide)
  have l1 := stg_lt 1 1431655765 x (by decide)
  generalize stg 1 1431655765 x = y at *
  have e2 : bits .or .u32 (bits .and .u32 ((y : Int) / 4) 858993459) (bits .and .u32 (y : Int) 858993459 * 4 % 4294967296) = ((stg 2 858993459 y : Nat) : Int) := stg_run 2 858993459 4 y (by decide) l1 (by decide)
  have l2 := stg_lt 2 858993459 y (by decide)
  generalize stg 2 858993459 y = z at *
  have e3 : bits .or .u32 (bits .and .u32 ((z : Int) / 16) 252645135) (bits .and .u32 (z : Int) 252645135 * 16 % 4294967296) = ((stg 4 252645135 z : Nat) : Int) := stg_run 4 252645135 16 z (by decide) l2 (by decide)
  have l3 := stg_lt 4 252645135 z (by decide)
  generalize stg 4 252645135 z = u at *
  have hc := fun w => rev_bytes u l3 w
  go_enter Try.func63, Try.ntmps63
  go_wp2_with fail
  refine (hc _).mono ?_
  rintro e w' ⟨rfl, rfl⟩
  go_wp2_with fail
  go_ret
  exact ⟨rfl, rfl⟩
end Go.Proofs.Ytcfcbcjaiplllaa

/-
  hex4 (function 17) at four hexadecimal digits; ZZhex4 (function 9).
-/
import Derived.Test.Qxb6605588aRows
import Derived.WalkKit
import Derived.WalkSpells
import Derived.Lib.SliceRun
import Derived.Deep.LoopGhost
import Derived.Deep.QuietTactic
import Derived.BigQuiet
namespace Go.Proofs.Qxb6605588a
open Go.RowKit
set_option linter.unusedVariables false

/-- The byte c is a hexadecimal digit of value v. -/
def Dig (c v : Nat) : Prop := (48 ≤ c ∧ c ≤ 57 ∧ v + 48 = c) ∨ (65 ≤ c ∧ c ≤ 70 ∧ v + 55 = c) ∨ (97 ≤ c ∧ c ≤ 102 ∧ v + 87 = c)
/-- The value of the first k digits. -/
def val (v : Nat → Nat) : Nat → Nat
  | 0 => 0
  | k + 1 => val v k * 16 + v k

theorem val_lt (v : Nat → Nat) (hv : ∀ i, i < 4 → v i < 16) : ∀ k, k ≤ 4 → val v k < 16 ^ k
  | 0, _ => by simp [val]
  | k + 1, h => by
    have a := val_lt v hv k (by omega)
    have b := hv k (by omega)
    simp only [val, Nat.pow_succ]
    omega

theorem or32 (r y : Nat) (h : r < 65536) (hy : y < 16) : bits .or .i32 ((r : Int) * 16) (y : Int) = ((r * 16 + y : Nat) : Int) := by
  have h1 : (BitVec.ofInt 32 ((r : Int) * 16)).toNat = r * 16 := by
    rw [show (r : Int) * 16 = ((r * 16 : Nat) : Int) from by omega, BitVec.ofInt_natCast, BitVec.toNat_ofNat]
    exact Nat.mod_eq_of_lt (by omega)
  have h2 : (BitVec.ofInt 32 (y : Int)).toNat = y := by
    rw [BitVec.ofInt_natCast, BitVec.toNat_ofNat]; exact Nat.mod_eq_of_lt (by omega)
  show IntKind.i32.wrap ((BitVec.ofInt 32 ((r : Int) * 16) ||| BitVec.ofInt 32 (y : Int)).toNat : Int) = _
  have h3 := Nat.shiftLeft_add_eq_or_of_lt (i := 4) (b := y) (by omega) r
  simp only [Nat.shiftLeft_eq, Nat.reducePow] at h3
  rw [BitVec.toNat_or, h1, h2, IntKind.wrap_i32, ← h3]
  omega

set_option maxRecDepth 100000 in
set_option maxHeartbeats 4000000 in
theorem hex4_any (g n cap : Nat) (c v : Nat → Nat) (w : World) (hn : 4 ≤ n) (hcap : n ≤ cap) (hm : cap ≤ maxLen) (HC : Hid (∀ i, i < 4 → w.cell? ⟨g, i, none⟩ = some (.int .u8 ((c i : Nat) : Int)))) (HD : Hid (∀ i, i < 4 → Dig (c i) (v i))) :
    Calls Try.prog 17 #[.slice (some ⟨g, 0, none⟩) n cap] w fun e w' => e = .returned (.int .i32 ((val v 4 : Nat) : Int)) ∧ w' = w := by
  unfold maxLen at hm
  have b1 : (4 : Int) ≤ (n : Int) := by omega
  have b2 : (4 : Int) ≤ (cap : Int) := by omega
  go_enter Try.func17, Try.ntmps17
  go_wp2
  go_loopg [3, 5, 9] 4 (fun k s3 s5 s9 wx => ∃ i r : Nat, s3 = .int .i32 r ∧ s9 = .int .i64 i ∧ (i + k ≤ 4 ∧ 4 ≤ i + k) ∧ r < 65536 ∧ Hid (r = val v i) ∧ wx = w)
  case atStart => exact ⟨0, 0, rfl, rfl, by omega, by omega, rfl, rfl⟩
  case round =>
    obtain ⟨i, r, rfl, rfl, ⟨hi1, hi2⟩, hr, HV, rfl⟩ := hrel
    by_cases hin : i < 4
    · have cc := HC.out i hin
      have dd := HD.out i hin
      obtain ⟨x, hx⟩ : ∃ x, x = c i := ⟨_, rfl⟩
      obtain ⟨y, hy⟩ : ∃ y, y = v i := ⟨_, rfl⟩
      rw [← hx] at cc dd
      rw [← hy] at dd
      have HV2 : Hid (r * 16 + y = val v (i + 1)) := by show _ = val v i * 16 + v i; rw [← HV.out, ← hy]
      clear hx hy HV
      have i1 : (i : Int) < 4 := by omega
      have hv2 : r * 16 + y < 65536 := by
        rw [HV2.out]
        have hlt := val_lt v (fun j hj => by rcases HD.out j hj with h | h | h <;> omega) (i + 1) (by omega)
        have hle : 16 ^ (i + 1) ≤ 16 ^ 4 := Nat.pow_le_pow_right (by omega) (by omega)
        omega
      rcases dd with ⟨d1, d2, d3⟩ | ⟨d1, d2, d3⟩ | ⟨d1, d2, d3⟩
      · have e1 : (x : Int) - 48 = (y : Int) := by omega
        have hy16 : y < 16 := by omega
        clear d3
        go_wp2
        go_roundg (gk - 1)
        case measure => omega
        case rel => exact ⟨i + 1, r * 16 + y, by rw [or32 r y hr hy16], by go_num, by omega, hv2, HV2, by first | rfl | trivial⟩
      · have e1 : (x : Int) - 55 = (y : Int) := by omega
        have hy16 : y < 16 := by omega
        clear d3
        go_wp2
        go_roundg (gk - 1)
        case measure => omega
        case rel => exact ⟨i + 1, r * 16 + y, by rw [or32 r y hr hy16], by go_num, by omega, hv2, HV2, by first | rfl | trivial⟩
      · have e1 : (x : Int) - 87 = (y : Int) := by omega
        have hy16 : y < 16 := by omega
        clear d3
        go_wp2
        go_roundg (gk - 1)
        case measure => omega
        case rel => exact ⟨i + 1, r * 16 + y, by rw [or32 r y hr hy16], by go_num, by omega, hv2, HV2, by first | rfl | trivial⟩
    · have hi4 : i = 4 := by omega
      have HQ : Hid (r = val v 4) := by have := HV.out; rw [hi4] at this; exact this
      clear hi4 HV
      go_wp2
      go_ret
      exact ⟨congrArg (fun z : Nat => Ending.returned (.int .i32 (z : Int))) HQ.out, rfl⟩

theorem zzhex4_any (g n cap : Nat) (c v : Nat → Nat) (w : World) (hn : 4 ≤ n) (hcap : n ≤ cap) (hm : cap ≤ maxLen) (HC : Hid (∀ i, i < 4 → w.cell? ⟨g, i, none⟩ = some (.int .u8 ((c i : Nat) : Int)))) (HD : Hid (∀ i, i < 4 → Dig (c i) (v i))) :
    Calls Try.prog 9 #[.slice (some ⟨g, 0, none⟩) n cap] w fun e w' => e = .returned (.int .i32 ((val v 4 : Nat) : Int)) ∧ w' = w := by
  go_enter Try.func9, Try.ntmps9
  go_wp2_with fail
  refine (hex4_any g n cap c v w hn hcap hm HC HD).mono ?_
  rintro e w' ⟨rfl, rfl⟩
  go_wp2
  go_ret
  exact ⟨rfl, rfl⟩
end Go.Proofs.Qxb6605588a

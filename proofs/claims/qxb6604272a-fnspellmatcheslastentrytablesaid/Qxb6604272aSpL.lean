import Derived.Test.Qxb6604272aSpA
import Derived.Deep.QuietTactic
import Derived.BigQuiet
namespace Go.Proofs.Qxb6604272a.Sp
open Go.RowKit

/-- The region of a number, taken out of a function's text. -/
def findReg (n : Nat) : Code → Option Code
  | .region id ops d => if id = n then some (.region id ops d) else none
  | .seq a b => match findReg n a with
    | some c => some c
    | none => findReg n b
  | .block _ c => findReg n c
  | .loop c => findReg n c
  | .cond _ a b => match findReg n a with
    | some c => some c
    | none => findReg n b
  | _ => none
def opsOf : Option Code → Array Oper
  | some (.region _ ops _) => ops
  | _ => #[]

/-- The steps k, k + 1, .. k + n - 1 of 'Region.lexFrom'. -/
def lexPart (md : Region.Mode) (ops : Array Oper) : Nat → Nat → Array Bool → Bool
  | 0, _, _ => true
  | n + 1, k, listed => (Region.ready md ops listed).contains k && Region.free md ops listed k && lexPart md ops n (k + 1) (listed.setIfInBounds k true)
def marks : Nat → Nat → Array Bool → Array Bool
  | 0, _, listed => listed
  | n + 1, k, listed => marks n (k + 1) (listed.setIfInBounds k true)
theorem lex_split (md : Region.Mode) (ops : Array Oper) (m : Nat) : ∀ n k listed, Region.lexFrom md ops (n + m) k listed = (lexPart md ops n k listed && Region.lexFrom md ops m (k + n) (marks n k listed))
  | 0, k, listed => by simp [lexPart, marks]
  | n + 1, k, listed => by
    rw [show n + 1 + m = (n + m) + 1 by omega]
    simp only [Region.lexFrom, lexPart, marks]
    rw [lex_split md ops m n (k + 1), show k + 1 + n = k + (n + 1) by omega]
    simp only [Bool.and_assoc]

theorem t_size : (opsOf (Try.f4.body.bind (findReg 32))).size = 99 := by kernel_rfl
theorem t_sel : Region.noSelect (opsOf (Try.f4.body.bind (findReg 32))) = true := by kernel_rfl
theorem t_0 : lexPart .any (opsOf (Try.f4.body.bind (findReg 32))) 5 0 (marks 0 0 (Array.replicate 99 false)) = true := by kernel_rfl
theorem t_5 : lexPart .any (opsOf (Try.f4.body.bind (findReg 32))) 5 5 (marks 5 0 (Array.replicate 99 false)) = true := by kernel_rfl
theorem t_10 : lexPart .any (opsOf (Try.f4.body.bind (findReg 32))) 5 10 (marks 10 0 (Array.replicate 99 false)) = true := by kernel_rfl
theorem t_15 : lexPart .any (opsOf (Try.f4.body.bind (findReg 32))) 5 15 (marks 15 0 (Array.replicate 99 false)) = true := by kernel_rfl
theorem t_20 : lexPart .any (opsOf (Try.f4.body.bind (findReg 32))) 5 20 (marks 20 0 (Array.replicate 99 false)) = true := by kernel_rfl
theorem t_25 : lexPart .any (opsOf (Try.f4.body.bind (findReg 32))) 5 25 (marks 25 0 (Array.replicate 99 false)) = true := by kernel_rfl
theorem t_30 : lexPart .any (opsOf (Try.f4.body.bind (findReg 32))) 5 30 (marks 30 0 (Array.replicate 99 false)) = true := by kernel_rfl
theorem t_35 : lexPart .any (opsOf (Try.f4.body.bind (findReg 32))) 5 35 (marks 35 0 (Array.replicate 99 false)) = true := by kernel_rfl
theorem t_40 : lexPart .any (opsOf (Try.f4.body.bind (findReg 32))) 5 40 (marks 40 0 (Array.replicate 99 false)) = true := by kernel_rfl
theorem t_45 : lexPart .any (opsOf (Try.f4.body.bind (findReg 32))) 5 45 (marks 45 0 (Array.replicate 99 false)) = true := by kernel_rfl
theorem t_50 : lexPart .any (opsOf (Try.f4.body.bind (findReg 32))) 5 50 (marks 50 0 (Array.replicate 99 false)) = true := by kernel_rfl
theorem t_55 : lexPart .any (opsOf (Try.f4.body.bind (findReg 32))) 5 55 (marks 55 0 (Array.replicate 99 false)) = true := by kernel_rfl
theorem t_60 : lexPart .any (opsOf (Try.f4.body.bind (findReg 32))) 5 60 (marks 60 0 (Array.replicate 99 false)) = true := by kernel_rfl
theorem t_65 : lexPart .any (opsOf (Try.f4.body.bind (findReg 32))) 5 65 (marks 65 0 (Array.replicate 99 false)) = true := by kernel_rfl
theorem t_70 : lexPart .any (opsOf (Try.f4.body.bind (findReg 32))) 5 70 (marks 70 0 (Array.replicate 99 false)) = true := by kernel_rfl
theorem t_75 : lexPart .any (opsOf (Try.f4.body.bind (findReg 32))) 5 75 (marks 75 0 (Array.replicate 99 false)) = true := by kernel_rfl
theorem t_80 : lexPart .any (opsOf (Try.f4.body.bind (findReg 32))) 5 80 (marks 80 0 (Array.replicate 99 false)) = true := by kernel_rfl
theorem t_85 : lexPart .any (opsOf (Try.f4.body.bind (findReg 32))) 5 85 (marks 85 0 (Array.replicate 99 false)) = true := by kernel_rfl
theorem t_90 : lexPart .any (opsOf (Try.f4.body.bind (findReg 32))) 5 90 (marks 90 0 (Array.replicate 99 false)) = true := by kernel_rfl
theorem t_end : Region.lexFrom .any (opsOf (Try.f4.body.bind (findReg 32))) 4 95 (marks 95 0 (Array.replicate 99 false)) = true := by kernel_rfl
theorem marks_add : ∀ n m k listed, marks m (k + n) (marks n k listed) = marks (n + m) k listed
  | 0, m, k, listed => by simp [marks]
  | n + 1, m, k, listed => by
    rw [show n + 1 + m = (n + m) + 1 by omega]
    simp only [marks]
    rw [← marks_add n m (k + 1), show k + 1 + n = k + (n + 1) by omega]
theorem lex_step {ops : Array Oper} {m n k k' : Nat} {listed : Array Bool} (hk : k + n = k') (h1 : lexPart .any ops n k (marks k 0 listed) = true) (h2 : Region.lexFrom .any ops m k' (marks k' 0 listed) = true) : Region.lexFrom .any ops (n + m) k (marks k 0 listed) = true := by
  have e := marks_add k n 0 listed
  rw [Nat.zero_add] at e
  rw [lex_split, h1, e, hk, h2]; rfl
theorem lex_all : Region.lexFrom .any (opsOf (Try.f4.body.bind (findReg 32))) 99 0 (Array.replicate 99 false) = true :=
  lex_step (n := 5) (m := 94) (k := 0) (k' := 5) rfl t_0 (lex_step (n := 5) (m := 89) (k := 5) (k' := 10) rfl t_5 (lex_step (n := 5) (m := 84) (k := 10) (k' := 15) rfl t_10 (lex_step (n := 5) (m := 79) (k := 15) (k' := 20) rfl t_15 (lex_step (n := 5) (m := 74) (k := 20) (k' := 25) rfl t_20 (lex_step (n := 5) (m := 69) (k := 25) (k' := 30) rfl t_25 (lex_step (n := 5) (m := 64) (k := 30) (k' := 35) rfl t_30 (lex_step (n := 5) (m := 59) (k := 35) (k' := 40) rfl t_35 (lex_step (n := 5) (m := 54) (k := 40) (k' := 45) rfl t_40 (lex_step (n := 5) (m := 49) (k := 45) (k' := 50) rfl t_45 (lex_step (n := 5) (m := 44) (k := 50) (k' := 55) rfl t_50 (lex_step (n := 5) (m := 39) (k := 55) (k' := 60) rfl t_55 (lex_step (n := 5) (m := 34) (k := 60) (k' := 65) rfl t_60 (lex_step (n := 5) (m := 29) (k := 65) (k' := 70) rfl t_65 (lex_step (n := 5) (m := 24) (k := 70) (k' := 75) rfl t_70 (lex_step (n := 5) (m := 19) (k := 75) (k' := 80) rfl t_75 (lex_step (n := 5) (m := 14) (k := 80) (k' := 85) rfl t_80 (lex_step (n := 5) (m := 9) (k := 85) (k' := 90) rfl t_85 (lex_step (n := 5) (m := 4) (k := 90) (k' := 95) rfl t_90 (t_end)))))))))))))))))))
theorem lex_ok : Region.lexB .any (opsOf (Try.f4.body.bind (findReg 32))) = true := by
  unfold Region.lexB
  rw [t_sel, t_size, lex_all]; rfl
end Go.Proofs.Qxb6604272a.Sp

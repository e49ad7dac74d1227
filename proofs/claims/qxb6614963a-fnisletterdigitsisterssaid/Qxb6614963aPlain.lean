/-
  THE PLAIN LAW of the two letter statements: no Go in sight.
-/
namespace Go.Proofs.Qxb6614963a.Plain

def isL (c : Int) : Bool := decide ((97 ≤ c ∧ c ≤ 122) ∨ (65 ≤ c ∧ c ≤ 90))
def isD (c : Int) : Bool := decide (48 ≤ c ∧ c ≤ 57)

/-- flip of the case bit, as a number -/
def flip (n : Nat) : Nat := n ^^^ 32

def lowN : Nat → Nat
  | 0 => 0
  | k + 1 => lowN k + if isL (k : Int) && (k &&& 32 != 0) then 1 else 0
def upN : Nat → Nat
  | 0 => 0
  | k + 1 => upN k + if isL (k : Int) && !(k &&& 32 != 0) then 1 else 0
def letN : Nat → Nat
  | 0 => 0
  | k + 1 => letN k + if isL (k : Int) then 1 else 0
def digN : Nat → Nat
  | 0 => 0
  | k + 1 => digN k + if isD (k : Int) then 1 else 0

theorem lowN_all : lowN 256 = 26 := by decide +kernel
theorem upN_all : upN 256 = 26 := by decide +kernel
theorem letN_all : letN 256 = 52 := by decide +kernel
theorem digN_all : digN 256 = 10 := by decide +kernel

theorem lowN_le (k : Nat) : lowN k ≤ k := by
  induction k with
  | zero => simp [lowN]
  | succ k ih => unfold lowN; split <;> omega
theorem upN_le (k : Nat) : upN k ≤ k := by
  induction k with
  | zero => simp [upN]
  | succ k ih => unfold upN; split <;> omega
theorem letN_le (k : Nat) : letN k ≤ k := by
  induction k with
  | zero => simp [letN]
  | succ k ih => unfold letN; split <;> omega
theorem digN_le (k : Nat) : digN k ≤ k := by
  induction k with
  | zero => simp [digN]
  | succ k ih => unfold digN; split <;> omega

theorem flip_all : ∀ n : Fin 256, isL ((flip n.val : Nat) : Int) = isL (n.val : Int) := by decide +kernel
theorem flip_law (n : Nat) (h : n < 256) : isL ((n ^^^ 32 : Nat) : Int) = isL (n : Int) := flip_all ⟨n, h⟩

end Go.Proofs.Qxb6614963a.Plain

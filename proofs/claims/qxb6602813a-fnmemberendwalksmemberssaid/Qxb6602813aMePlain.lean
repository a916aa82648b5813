/- The plain side of the memberEnd laws: how the scan runs over the bytes. -/
namespace Go.Proofs.Qxb6602813a

/-- the scan inside a string, from byte i, comes to the closing quote j -/
inductive SRun (N : Nat) (b : Nat → Nat) : Nat → Nat → Prop
  | stop {i : Nat} : i < N → b i = 34 → SRun N b i i
  | esc {i j : Nat} : i < N → b i = 92 → SRun N b (i + 2) j → SRun N b i j
  | chr {i j : Nat} : i < N → b i ≠ 34 → b i ≠ 92 → SRun N b (i + 1) j → SRun N b i j

theorem SRun.facts {N : Nat} {b : Nat → Nat} {i j : Nat} (h : SRun N b i j) : i ≤ j ∧ j < N ∧ b j = 34 := by
  induction h with
  | stop h1 h2 => exact ⟨Nat.le_refl _, h1, h2⟩
  | esc _ _ _ ih => exact ⟨by omega, ih.2.1, ih.2.2⟩
  | chr _ _ _ _ ih => exact ⟨by omega, ih.2.1, ih.2.2⟩

/-- the scan for a member's end, from byte i at depth d, ends at e -/
inductive Lands (N : Nat) (b : Nat → Nat) : Nat → Nat → Nat → Prop
  | ret {i : Nat} : i < N → (b i = 93 ∨ b i = 125 ∨ b i = 44) → Lands N b i 0 i
  | opn {i d e : Nat} : i < N → (b i = 91 ∨ b i = 123) → Lands N b (i + 1) (d + 1) e → Lands N b i d e
  | cls {i d e : Nat} : i < N → (b i = 93 ∨ b i = 125) → Lands N b (i + 1) d e → Lands N b i (d + 1) e
  | com {i d e : Nat} : i < N → b i = 44 → Lands N b (i + 1) (d + 1) e → Lands N b i (d + 1) e
  | oth {i d e : Nat} : i < N → b i ≠ 34 → b i ≠ 91 → b i ≠ 123 → b i ≠ 93 → b i ≠ 125 → b i ≠ 44 → Lands N b (i + 1) d e → Lands N b i d e
  | str {i j d e : Nat} : i < N → b i = 34 → SRun N b (i + 1) j → Lands N b (j + 1) d e → Lands N b i d e

theorem Lands.facts {N : Nat} {b : Nat → Nat} {i d e : Nat} (h : Lands N b i d e) : i ≤ e ∧ e < N ∧ (b e = 93 ∨ b e = 125 ∨ b e = 44) := by
  induction h with
  | ret h1 h2 => exact ⟨Nat.le_refl _, h1, h2⟩
  | opn _ _ _ ih => exact ⟨by omega, ih.2.1, ih.2.2⟩
  | cls _ _ _ ih => exact ⟨by omega, ih.2.1, ih.2.2⟩
  | com _ _ _ ih => exact ⟨by omega, ih.2.1, ih.2.2⟩
  | oth _ _ _ _ _ _ _ _ ih => exact ⟨by omega, ih.2.1, ih.2.2⟩
  | str _ _ hs _ ih => have := hs.facts; exact ⟨by omega, ih.2.1, ih.2.2⟩

/-- the scan runs over i .. n at whatever depth -/
def Keeps (N : Nat) (b : Nat → Nat) (i n : Nat) : Prop := ∀ d e, Lands N b n d e → Lands N b i d e
/-- the same, inside a bracket -/
def KeepsIn (N : Nat) (b : Nat → Nat) (i n : Nat) : Prop := ∀ d e, Lands N b n (d + 1) e → Lands N b i (d + 1) e

theorem Keeps.trans {N : Nat} {b : Nat → Nat} {i n m : Nat} (h : Keeps N b i n) (g : Keeps N b n m) : Keeps N b i m := fun d e l => h d e (g d e l)
theorem Keeps.refl {N : Nat} {b : Nat → Nat} {i : Nat} : Keeps N b i i := fun _ _ l => l
theorem KeepsIn.refl {N : Nat} {b : Nat → Nat} {i : Nat} : KeepsIn N b i i := fun _ _ l => l
theorem KeepsIn.trans {N : Nat} {b : Nat → Nat} {i n m : Nat} (h : KeepsIn N b i n) (g : KeepsIn N b n m) : KeepsIn N b i m := fun d e l => h d e (g d e l)
theorem Keeps.inside {N : Nat} {b : Nat → Nat} {i n : Nat} (h : Keeps N b i n) : KeepsIn N b i n := fun d e l => h (d + 1) e l

theorem keeps_oth {N : Nat} {b : Nat → Nat} {i : Nat} (hi : i < N) (h1 : b i ≠ 34) (h2 : b i ≠ 91) (h3 : b i ≠ 123) (h4 : b i ≠ 93) (h5 : b i ≠ 125) (h6 : b i ≠ 44) : Keeps N b i (i + 1) :=
  fun _ _ l => .oth hi h1 h2 h3 h4 h5 h6 l
theorem keeps_str {N : Nat} {b : Nat → Nat} {i n : Nat} (hi : i < N) (h1 : b i = 34) (h : SRun N b (i + 1) n) : Keeps N b i (n + 1) :=
  fun _ _ l => .str hi h1 h l
theorem keepsIn_com {N : Nat} {b : Nat → Nat} {i : Nat} (hi : i < N) (h1 : b i = 44) : KeepsIn N b i (i + 1) := fun _ _ l => .com hi h1 l
/-- a bracketed stretch: '[' at i, the inside i+1 .. n, the closing one at n -/
theorem keeps_box {N : Nat} {b : Nat → Nat} {i n : Nat} (hi : i < N) (ho : b i = 91 ∨ b i = 123) (h : KeepsIn N b (i + 1) n) (hn : n < N) (hc : b n = 93 ∨ b n = 125) : Keeps N b i (n + 1) :=
  fun d e l => .opn hi ho (h d e (.cls hn hc l))
theorem lands_end {N : Nat} {b : Nat → Nat} {i n : Nat} (h : Keeps N b i n) (hn : n < N) (hc : b n = 93 ∨ b n = 125 ∨ b n = 44) : Lands N b i 0 n := h 0 n (.ret hn hc)

/-- an object's members from byte s on: k of them, and n just behind the brace -/
inductive Chain (N : Nat) (b : Nat → Nat) : Nat → Nat → Nat → Prop
  | last {s e : Nat} : Lands N b s 0 e → b e = 125 → Chain N b s 1 (e + 1)
  | more {s e k n : Nat} : Lands N b s 0 e → b e = 44 → Chain N b (e + 1) k n → Chain N b s (k + 1) n

theorem Chain.facts {N : Nat} {b : Nat → Nat} {s k n : Nat} (h : Chain N b s k n) : s < n ∧ n ≤ N ∧ 1 ≤ k ∧ k ≤ n - s := by
  induction h with
  | last h1 _ => have := h1.facts; exact ⟨by omega, by omega, by omega, by omega⟩
  | more h1 _ _ ih => have := h1.facts; exact ⟨by omega, by omega, by omega, by omega⟩

theorem Chain.inv {N : Nat} {b : Nat → Nat} {s k n : Nat} (h : Chain N b s k n) : (∃ e, Lands N b s 0 e ∧ b e = 125 ∧ k = 1 ∧ n = e + 1) ∨ ∃ e k', Lands N b s 0 e ∧ b e = 44 ∧ k = k' + 1 ∧ Chain N b (e + 1) k' n := by
  cases h with
  | last h1 h2 => exact .inl ⟨_, h1, h2, rfl, rfl⟩
  | more h1 h2 h3 => exact .inr ⟨_, _, h1, h2, rfl, h3⟩

/-- the first c members of those from s on lead to byte i -/
inductive Led (N : Nat) (b : Nat → Nat) : Nat → Nat → Nat → Prop
  | none {s : Nat} : Led N b s 0 s
  | more {s c i e : Nat} : Led N b s c i → Lands N b i 0 e → b e = 44 → Led N b s (c + 1) (e + 1)

theorem Led.chain {N : Nat} {b : Nat → Nat} {s c i : Nat} (h : Led N b s c i) : ∀ k n, Chain N b i k n → Chain N b s (k + c) n := by
  induction h with
  | none => exact fun _ _ l => l
  | more _ h2 h3 ih =>
    intro k n l
    have h := ih _ _ (.more h2 h3 l)
    rwa [Nat.add_right_comm, Nat.add_assoc] at h

end Go.Proofs.Qxb6602813a

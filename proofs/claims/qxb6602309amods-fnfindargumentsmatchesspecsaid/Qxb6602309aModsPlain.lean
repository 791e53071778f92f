import Derived.Laws.Strings
namespace Go.Proofs.Qxb6602309aMods
set_option linter.unusedVariables false

/-- A word: its five fields. -/
structure Wd where
  v : ByteArray
  a : Int
  b : Bool
  t : ByteArray
  o : Bool

def isSemi (x : Wd) : Bool := x.v.toList == [59]
def isPlus (x : Wd) : Bool := x.v.toList == [43]
def isBr (x : Wd) : Bool := x.v.toList == [123, 125]
def isDel (x : Wd) : Bool := x.v.toList == [45, 100, 101, 108, 101, 116, 101]
def isExec (s : ByteArray) : Bool :=
  s.toList == [45, 101, 120, 101, 99] || s.toList == [45, 101, 120, 101, 99, 100, 105, 114] || s.toList == [45, 111, 107] || s.toList == [45, 111, 107, 100, 105, 114]

def lastBr (acc : List Wd) : Bool :=
  match acc.getLast? with
  | some y => isBr y
  | none => false
/-- Does x end a command whose words so far are acc? -/
def stop (acc : List Wd) (x : Wd) : Bool := isSemi x || (isPlus x && lastBr acc)

/-- 'executed': the command's words, and what is left. -/
def exec1 : List Wd → List Wd → Option (List Wd × List Wd)
  | _, [] => none
  | acc, x :: l => if stop acc x then some (acc, l) else exec1 (acc ++ [x]) l

def findF : Nat → List Wd → List Wd → List (List Wd) → Option (List Wd × List (List Wd))
  | 0, _, d, c => some (d, c)
  | _ + 1, [], d, c => some (d, c)
  | n + 1, x :: l, d, c =>
    if isDel x then findF n l (d ++ [x]) c
    else if isExec x.v then
      match exec1 [] l with
      | none => none
      | some (cmd, r) => findF n r d (c ++ [cmd])
    else findF n l d c

/-- 'findArguments' over the words that are left. -/
def find (l d : List Wd) (c : List (List Wd)) : Option (List Wd × List (List Wd)) := findF l.length l d c

theorem exec1_len : ∀ (l acc cmd r : List Wd), exec1 acc l = some (cmd, r) → r.length < l.length
  | [], acc, cmd, r, h => by cases h
  | x :: l, acc, cmd, r, h => by
    unfold exec1 at h
    by_cases hs : stop acc x = true
    · rw [if_pos hs] at h
      simp only [Option.some.injEq, Prod.mk.injEq] at h
      obtain ⟨_, rfl⟩ := h
      simp
    · rw [if_neg hs] at h
      have := exec1_len l _ cmd r h
      simp; omega

theorem findF_fuel : ∀ (n m : Nat) (l d : List Wd) (c : List (List Wd)), l.length ≤ n → l.length ≤ m → findF n l d c = findF m l d c := by
  intro n
  induction n with
  | zero =>
    intro m l d c h1 h2
    obtain rfl : l = [] := List.eq_nil_of_length_eq_zero (by omega)
    cases m <;> rfl
  | succ n ih =>
    intro m l d c h1 h2
    cases l with
    | nil => cases m <;> rfl
    | cons x l =>
      cases m with
      | zero => simp at h2
      | succ m =>
        simp only [List.length_cons] at h1 h2
        unfold findF
        by_cases hd : isDel x = true
        · rw [if_pos hd, if_pos hd]; exact ih m l _ c (by omega) (by omega)
        · rw [if_neg hd, if_neg hd]
          by_cases he : isExec x.v = true
          · rw [if_pos he, if_pos he]
            cases hx : exec1 [] l with
            | none => rfl
            | some p =>
              obtain ⟨cmd, r⟩ := p
              have hr := exec1_len l [] cmd r hx
              exact ih m r d _ (by omega) (by omega)
          · rw [if_neg he, if_neg he]; exact ih m l d c (by omega) (by omega)

theorem find_nil (d : List Wd) (c : List (List Wd)) : find [] d c = some (d, c) := rfl
theorem find_del {x : Wd} {l d : List Wd} {c : List (List Wd)} (h : isDel x = true) : find (x :: l) d c = find l (d ++ [x]) c := by
  show findF (l.length + 1) (x :: l) d c = _
  unfold findF
  rw [if_pos h]; rfl
theorem find_skip {x : Wd} {l d : List Wd} {c : List (List Wd)} (h : isDel x = false) (h2 : isExec x.v = false) : find (x :: l) d c = find l d c := by
  show findF (l.length + 1) (x :: l) d c = _
  unfold findF
  rw [if_neg (by simp [h]), if_neg (by simp [h2])]; rfl
theorem find_exec {x : Wd} {l d cmd r : List Wd} {c : List (List Wd)} (h : isDel x = false) (h2 : isExec x.v = true) (h3 : exec1 [] l = some (cmd, r)) : find (x :: l) d c = find r d (c ++ [cmd]) := by
  show findF (l.length + 1) (x :: l) d c = _
  have hr := exec1_len l [] cmd r h3
  unfold findF
  rw [if_neg (by simp [h]), if_pos h2, h3]
  exact findF_fuel _ _ _ _ _ (by omega) (Nat.le_refl _)
theorem find_none {x : Wd} {l d : List Wd} {c : List (List Wd)} (h : isDel x = false) (h2 : isExec x.v = true) (h3 : exec1 [] l = none) : find (x :: l) d c = none := by
  show findF (l.length + 1) (x :: l) d c = _
  unfold findF
  rw [if_neg (by simp [h]), if_pos h2, h3]

theorem exec1_go {acc l : List Wd} {x : Wd} (h : stop acc x = false) : exec1 acc (x :: l) = exec1 (acc ++ [x]) l := by
  rw [exec1, if_neg (by simp [h])]
theorem exec1_stop {acc l : List Wd} {x : Wd} (h : stop acc x = true) : exec1 acc (x :: l) = some (acc, l) := by
  rw [exec1, if_pos h]

theorem lastBr_snoc (acc : List Wd) (y : Wd) : lastBr (acc ++ [y]) = isBr y := by simp [lastBr]
theorem lastBr_nil : lastBr [] = false := rfl

/-- The words in the order in which a queue yields them. -/
def flat (ps : List (List Wd)) : List Wd := ps.reverse.flatten

theorem flat_snoc (ps : List (List Wd)) (p : List Wd) : flat (ps ++ [p]) = p ++ flat ps := by simp [flat]
theorem flat_nil : flat [] = [] := rfl
end Go.Proofs.Qxb6602309aMods

import Derived.Test.Qxb6608712aKeep
namespace Go.Proofs.Qxb6608712a

/-- how many bytes of l are kept, and whether the source still keeps -/
def kn : List Int → Nat × Bool
  | [] => (0, true)
  | [c] => (1, c == 60)
  | c :: d :: r => if c == 60 then (if isTag d then (r.length + 2, true) else (2, false)) else (1, false)

theorem kn_le (l : List Int) : (kn l).1 ≤ l.length := by
  match l with
  | [] => simp [kn]
  | [c] => simp [kn]
  | c :: d :: r => simp only [kn]; split <;> (try split) <;> simp

theorem kn_true (l : List Int) (h : (kn l).2 = true) : (kn l).1 = l.length := by
  match l, h with
  | [], _ => simp [kn]
  | [c], _ => simp [kn]
  | c :: d :: r, h =>
    simp only [kn] at h ⊢
    split at h
    · split at h
      · rename_i h1 h2; simp [h1, h2]
      · simp at h
    · simp at h

theorem kn_false (l : List Int) (c : Int) (h : (kn l).2 = false) : kn (l ++ [c]) = kn l := by
  match l, h with
  | [], h => simp [kn] at h
  | [a], h => simp [kn] at h; simp [kn, h]
  | a :: d :: r, h =>
    simp only [kn, List.cons_append] at h ⊢
    split at h
    · split at h
      · simp at h
      · rename_i h1 h2; simp [h1, h2]
    · rename_i h1; simp [h1]

theorem kn_more (l : List Int) (c : Int) (h : (kn l).2 = true) : kn (l ++ [c]) = (l.length + 1, kpNew l.length true c) := by
  match l, h with
  | [], h => simp [kn, kpNew]
  | [a], h =>
    have h' : (a == 60) = true := by simpa [kn] using h
    simp only [kn, List.cons_append, List.nil_append, h', if_true, kpNew]
    cases isTag c <;> simp
  | a :: d :: r, h =>
    simp only [kn, List.cons_append] at h ⊢
    split at h
    · split at h
      · rename_i h1 h2; simp [h1, h2, kpNew]
      · simp at h
    · simp at h
end Go.Proofs.Qxb6608712a

/- The plain law of image candidates. No program is in sight here. -/
import Derived.Test.YtolamblmfejhoaaDoorLawF2
import Derived.Test.YtolamblmfejhoaaDoorLawU
namespace Go.Proofs.YtolamblmfejhoaaDoor
set_option linter.unusedVariables false
set_option linter.unusedSimpArgs false

/-- A blank of HTML. -/
def spB (c : Nat) : Bool := c == 9 || c == 10 || c == 12 || c == 13 || c == 32
/-- How many blanks stand first; how many others. -/
def spN : Bytes → Nat
  | [] => 0
  | b :: t => if spB b.toNat = true then spN t + 1 else 0
def nspN : Bytes → Nat
  | [] => 0
  | b :: t => if spB b.toNat = true then 0 else nspN t + 1
def metaOk (l : Bytes) : Bool := l.all fun b => spB b.toNat || isAlnumB b.toNat
/-- One image candidate. -/
def elemL (p : Bytes) : Bytes :=
  if safeL ((p.drop (spN p)).take (nspN (p.drop (spN p)))) && metaOk ((p.drop (spN p)).drop (nspN (p.drop (spN p)))) then
    p.take (spN p) ++ urlL true ((p.drop (spN p)).take (nspN (p.drop (spN p)))) ++ (p.drop (spN p)).drop (nspN (p.drop (spN p)))
  else failW
/-- Candidates with commas between them. -/
def srcGo : Bytes → Bytes → Bytes
  | cur, [] => elemL cur
  | cur, b :: t => if b = 44 then elemL cur ++ 44 :: srcGo [] t else srcGo (cur ++ [b]) t
def srcL (s : Bytes) : Bytes := srcGo [] s
theorem srcGo_comma (b : Bytes) : ∀ (a cur : Bytes), srcGo cur (a ++ 44 :: b) = srcGo cur a ++ 44 :: srcL b
  | [], cur => by simp [srcGo, srcL]
  | x :: a, cur => by
    show (if x = 44 then elemL cur ++ 44 :: srcGo [] (a ++ 44 :: b) else srcGo (cur ++ [x]) (a ++ 44 :: b)) = (if x = 44 then elemL cur ++ 44 :: srcGo [] a else srcGo (cur ++ [x]) a) ++ 44 :: srcL b
    rw [srcGo_comma b a [], srcGo_comma b a (cur ++ [x])]
    split <;> simp
theorem src_comma (a b : Bytes) : srcL (a ++ 44 :: b) = srcL a ++ 44 :: srcL b := srcGo_comma b a []
theorem srcGo_none : ∀ (a cur : Bytes), (∀ x ∈ a, x ≠ 44) → srcGo cur a = elemL (cur ++ a)
  | [], cur, _ => by simp [srcGo]
  | x :: a, cur, h => by
    rw [srcGo, if_neg (h x (by simp)), srcGo_none a _ (fun y hy => h y (by simp [hy]))]
    simp
theorem spN_none : ∀ (a : Bytes), (∀ x ∈ a, spB x.toNat = false) → spN a = 0
  | [], _ => rfl
  | x :: a, h => by rw [spN, if_neg (by rw [h x (by simp)]; decide)]
theorem nspN_all : ∀ (a : Bytes), (∀ x ∈ a, spB x.toNat = false) → nspN a = a.length
  | [], _ => rfl
  | x :: a, h => by rw [nspN, if_neg (by rw [h x (by simp)]; decide), nspN_all a (fun y hy => h y (by simp [hy]))]; rfl
/-- A text without blanks and commas is one URL. -/
theorem src_one (a : Bytes) (h : ∀ x ∈ a, spB x.toNat = false ∧ x ≠ 44) : srcL a = if safeL a = true then urlL true a else failW := by
  unfold srcL
  rw [srcGo_none a [] (fun x hx => (h x hx).2), List.nil_append]
  unfold elemL
  rw [spN_none a (fun x hx => (h x hx).1), List.drop_zero, nspN_all a (fun x hx => (h x hx).1), List.take_length, List.drop_length]
  simp [metaOk]
theorem spN_le : ∀ (a : Bytes), spN a ≤ a.length
  | [] => Nat.le_refl _
  | x :: a => by unfold spN; have := spN_le a; split <;> simp <;> omega
theorem nspN_le : ∀ (a : Bytes), nspN a ≤ a.length
  | [] => Nat.le_refl _
  | x :: a => by unfold nspN; have := nspN_le a; split <;> simp <;> omega
/-- The step of the first loop: another blank. -/
theorem urlL_len (norm : Bool) : ∀ (l : Bytes), (urlL norm l).length ≤ 3 * l.length
  | [] => Nat.le_refl _
  | c :: t => by
    have := urlL_len norm t
    have h1 : (urlOne norm c t).length ≤ 3 := by
      unfold urlOne
      split <;> simp [pct]
    rw [urlL, List.length_append, List.length_cons]
    omega
theorem elemL_len (p : Bytes) : (elemL p).length ≤ 3 * p.length + 9 := by
  unfold elemL
  split
  · have h1 := urlL_len true ((p.drop (spN p)).take (nspN (p.drop (spN p))))
    have h2 := spN_le p
    have h3 := nspN_le (p.drop (spN p))
    simp only [List.length_append, List.length_take, List.length_drop] at *
    omega
  · simp [failW]
end Go.Proofs.YtolamblmfejhoaaDoor

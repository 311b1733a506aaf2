/-
  SEAT b6608536aM: PLAIN FACTS: the path that the chain spells.
-/
import Derived.WalkKit
namespace Go.Proofs.Qxb6608536aMods

/-- The separator as a string. -/
def dot : ByteArray := ⟨#[46]⟩
theorem dot_size : dot.size = 1 := rfl

/-- What stands ahead of a step: nothing where it opens with the bracket, else the dot. -/
def sep (s : ByteArray) : ByteArray := if s.data[0]? = some 91 then ⟨#[]⟩ else dot
/-- A later step, with what stands ahead of it. -/
def piece (s : ByteArray) : ByteArray := sep s ++ s
/-- n later steps from place j on. -/
def rest (S : Nat → ByteArray) : Nat → Nat → ByteArray
  | 0, _ => ⟨#[]⟩
  | n + 1, j => piece (S j) ++ rest S n (j + 1)
/-- The bound that the law's own count gives. -/
def tot (S : Nat → ByteArray) (m : Nat) : Nat → Nat
  | 0 => m
  | k + 1 => tot S m k + (16 + (S k).size)

theorem empty_app (s : ByteArray) : (⟨#[]⟩ : ByteArray) ++ s = s := by
  apply ByteArray.ext
  simp
theorem app_empty (s : ByteArray) : s ++ (⟨#[]⟩ : ByteArray) = s := by
  apply ByteArray.ext
  simp

theorem rest_snoc (S : Nat → ByteArray) (n j : Nat) : rest S (n + 1) j = rest S n j ++ piece (S (j + n)) := by
  induction n generalizing j with
  | zero => simp [rest, app_empty, empty_app]
  | succ n ih =>
    have e : j + 1 + n = j + (n + 1) := by omega
    calc rest S (n + 1 + 1) j = piece (S j) ++ rest S (n + 1) (j + 1) := rfl
      _ = piece (S j) ++ (rest S n (j + 1) ++ piece (S (j + 1 + n))) := by rw [ih]
      _ = rest S (n + 1) j ++ piece (S (j + (n + 1))) := by rw [e, ← ByteArray.append_assoc]; rfl

theorem sep_size (s : ByteArray) : (sep s).size ≤ 1 := by
  unfold sep
  split
  · exact Nat.zero_le _
  · exact Nat.le_refl _

theorem rest_size (S : Nat → ByteArray) (m n j : Nat) : (rest S n j).size + tot S m j ≤ tot S m (j + n) := by
  induction n generalizing j with
  | zero => simp [rest, ByteArray.size]
  | succ n ih =>
    have h1 := ih (j + 1)
    have h2 := sep_size (S j)
    have e : j + 1 + n = j + (n + 1) := by omega
    rw [e] at h1
    simp only [rest, piece, tot, ByteArray.size_append] at *
    omega

theorem tot_le (S : Nat → ByteArray) (m k n : Nat) (h : k ≤ n) : tot S m k ≤ tot S m n := by
  induction n with
  | zero => obtain rfl : k = 0 := by omega
            exact Nat.le_refl _
  | succ n ih =>
    by_cases e : k = n + 1
    · subst e; exact Nat.le_refl _
    · have := ih (by omega); simp only [tot]; omega

theorem tot_len (S : Nat → ByteArray) (m k : Nat) : 16 * k + m ≤ tot S m k := by
  induction k with
  | zero => simp [tot]
  | succ k ih => simp only [tot]; omega

/-- The path from step k on, of len steps. -/
def path (S : Nat → ByteArray) (len k : Nat) : ByteArray := S k ++ rest S (len - 1 - k) (k + 1)

theorem path_last (S : Nat → ByteArray) (len : Nat) (h : 0 < len) : path S len (len - 1) = S (len - 1) := by
  unfold path
  rw [show len - 1 - (len - 1) = 0 by omega]
  exact app_empty _

theorem path_step (S : Nat → ByteArray) (len k : Nat) (h : k + 1 < len) : S k ++ (sep (S (k + 1)) ++ path S len (k + 1)) = path S len k := by
  unfold path
  rw [show len - 1 - k = (len - 1 - (k + 1)) + 1 by omega]
  simp only [rest, piece, ByteArray.append_assoc]

theorem path_head (S : Nat → ByteArray) (len k : Nat) (h : 0 < (S k).size) : (path S len k).data[0]? = (S k).data[0]? := by
  unfold path
  rw [ByteArray.data_append, Array.getElem?_append_left (show 0 < Array.size _ from h)]

theorem path_pos (S : Nat → ByteArray) (len k : Nat) (h : 0 < (S k).size) : 0 < (path S len k).size := by
  unfold path
  rw [ByteArray.size_append]
  omega

theorem path_size (S : Nat → ByteArray) (m len k : Nat) (h : k < len) : (path S len k).size ≤ tot S m len := by
  unfold path
  have h1 := rest_size S m (len - 1 - k) (k + 1)
  rw [show k + 1 + (len - 1 - k) = len by omega] at h1
  rw [ByteArray.size_append]
  simp only [tot] at h1
  omega

theorem sep_path (S : Nat → ByteArray) (len k : Nat) (h : 0 < (S k).size) : sep (path S len k) = sep (S k) := by
  unfold sep
  rw [path_head S len k h]

/-- The wanted path when k of the steps are laid. -/
def want (S : Nat → ByteArray) (k : Nat) : ByteArray := S 0 ++ rest S (k - 1) 1

theorem want_one (S : Nat → ByteArray) : want S 1 = S 0 := app_empty _
theorem want_step (S : Nat → ByteArray) (k : Nat) (h : 0 < k) : want S k ++ (sep (S k) ++ S k) = want S (k + 1) := by
  unfold want
  rw [show k + 1 - 1 = (k - 1) + 1 by omega, rest_snoc, show 1 + (k - 1) = k by omega]
  simp only [piece, ByteArray.append_assoc]
theorem want_all (S : Nat → ByteArray) (len : Nat) : want S len = path S len 0 := rfl

theorem want_size (S : Nat → ByteArray) (m k : Nat) (h : 0 < k) : (want S k).size ≤ tot S m k := by
  unfold want
  have h1 := rest_size S m (k - 1) 1
  rw [show 1 + (k - 1) = k by omega] at h1
  rw [ByteArray.size_append]
  simp only [tot] at h1
  omega

theorem sep_bracket (s : ByteArray) (h : 0 < s.size) (hb : s[0] = 91) : sep s = ⟨#[]⟩ := by
  unfold sep
  rw [if_pos]
  rw [Array.getElem?_eq_getElem (show 0 < Array.size _ from h)]
  exact congrArg some hb
theorem sep_dot (s : ByteArray) (h : 0 < s.size) (hb : s[0] ≠ 91) : sep s = dot := by
  unfold sep
  rw [if_neg]
  rw [Array.getElem?_eq_getElem (show 0 < Array.size _ from h)]
  intro e
  exact hb (Option.some.inj e)

theorem byte_ne {s : ByteArray} (h : 0 < s.size) (hn : s[0] ≠ 91) : ((s[0].toNat : Int) == 91) = false := by
  rw [beq_eq_false_iff_ne]
  intro e
  exact hn (UInt8.toNat_inj.1 (by simpa using (by omega : s[0].toNat = 91)))
theorem byte_eq {s : ByteArray} (h : 0 < s.size) (hn : s[0] = 91) : ((s[0].toNat : Int) == 91) = true := by
  rw [hn]; rfl

theorem head_list (s : ByteArray) (h : 0 < s.size) : (s.extract 0 1).toList = [s[0]] := by
  rw [ByteArray.toList_eq, ByteArray.data_extract]
  obtain ⟨⟨l⟩⟩ := s
  cases l with
  | nil => simp [ByteArray.size] at h
  | cons x l => simp; rfl

end Go.Proofs.Qxb6608536aMods

import PyProof.Rows.All
import Wide.All
import OpenK.AllK
import Wide.FinOn
import PySem.Challenge.RW_pa0019_01
set_option Elab.async false

section
/-! plain arithmetic of the decoder's loop -/
namespace Mine

noncomputable def b64v (c : Int) : Int :=
  if 65 ≤ c ∧ c ≤ 90 then c - 65 else if 97 ≤ c ∧ c ≤ 122 then c - 71 else if 48 ≤ c ∧ c ≤ 57 then c + 4 else if c = 43 then 62 else if c = 47 then 63 else 64

theorem b64v_A {c : Int} (h : 65 ≤ c ∧ c ≤ 90) : c - 65 = b64v c := by rw [b64v, if_pos h]
theorem b64v_B {c : Int} (h : 97 ≤ c ∧ c ≤ 122) : c - 71 = b64v c := by rw [b64v, if_neg (by omega), if_pos h]
theorem b64v_C {c : Int} (h : 48 ≤ c ∧ c ≤ 57) : c + 4 = b64v c := by rw [b64v, if_neg (by omega), if_neg (by omega), if_pos h]
theorem b64v_D {c : Int} (h : c = 43) : 62 = b64v c := by subst h; rfl
theorem b64v_E {c : Int} (h : c = 47) : 63 = b64v c := by subst h; rfl
theorem b64v_F {c : Int} (h1 : ¬ (65 ≤ c ∧ c ≤ 90)) (h2 : ¬ (97 ≤ c ∧ c ≤ 122)) (h3 : ¬ (48 ≤ c ∧ c ≤ 57)) (h4 : ¬ c = 43) (h5 : ¬ c = 47) : 64 = b64v c := by
  rw [b64v, if_neg h1, if_neg h2, if_neg h3, if_neg h4, if_neg h5]

/-- the octets that figures fill -/
noncomputable def octs : List Int → List Int
  | a :: b :: c :: d :: r => (a * 4 + b / 16) :: (b % 16 * 16 + c / 4) :: (c % 4 * 64 + d) :: octs r
  | [a, b, c] => [a * 4 + b / 16, b % 16 * 16 + c / 4]
  | [a, b] => [a * 4 + b / 16]
  | _ => []

/-- what is left of the last figure -/
noncomputable def left : List Int → Int
  | _ :: _ :: _ :: _ :: r => left r
  | [_, _, c] => c % 4
  | [_, b] => b % 16
  | [a] => a
  | [] => 0

/-- the octet that one more figure fills -/
noncomputable def fill (n : Nat) (l v : Int) : List Int :=
  if n % 4 = 0 then [] else if n % 4 = 1 then [l * 4 + v / 16] else if n % 4 = 2 then [l * 16 + v / 4] else [l * 64 + v]
noncomputable def rest (n : Nat) (v : Int) : Int :=
  if n % 4 = 0 then v else if n % 4 = 1 then v % 16 else if n % 4 = 2 then v % 4 else 0

theorem octs_more (v : Int) : ∀ fs : List Int, octs (fs ++ [v]) = octs fs ++ fill fs.length (left fs) v ∧ left (fs ++ [v]) = rest fs.length v
  | [] => by simp [octs, left, fill, rest]
  | [a] => by simp [octs, left, fill, rest]
  | [a, b] => by simp [octs, left, fill, rest]
  | [a, b, c] => by simp [octs, left, fill, rest]
  | a :: b :: c :: d :: r => by
    have h := octs_more v r
    have e : (a :: b :: c :: d :: r).length % 4 = r.length % 4 := by simp only [List.length_cons]; omega
    constructor
    · show (a * 4 + b / 16) :: (b % 16 * 16 + c / 4) :: (c % 4 * 64 + d) :: octs (r ++ [v]) = _
      rw [h.1]
      simp only [octs, left, fill, e, List.cons_append]
    · show left (r ++ [v]) = _
      rw [h.2]
      simp only [rest, e]

theorem left_in : ∀ fs : List Int, (∀ f ∈ fs, 0 ≤ f ∧ f < 64) → 0 ≤ left fs ∧ left fs < 64 ∧ (fs.length % 4 = 2 → left fs < 16) ∧ (fs.length % 4 = 3 → left fs < 4)
  | [], _ => by simp [left]
  | [a], h => by
    have := h a (by simp)
    simp [left]; omega
  | [a, b], h => by
    have := h b (by simp)
    simp [left]; omega
  | [a, b, c], h => by
    have := h c (by simp)
    simp [left]; omega
  | a :: b :: c :: d :: r, h => by
    have ih := left_in r fun f hf => h f (by simp [hf])
    simp only [left, List.length_cons]
    refine ⟨ih.1, ih.2.1, fun e => ih.2.2.1 (by omega), fun e => ih.2.2.2 (by omega)⟩

theorem octs_in : ∀ fs : List Int, (∀ f ∈ fs, 0 ≤ f ∧ f < 64) → ∀ o ∈ octs fs, 0 ≤ o ∧ o < 256
  | [], _ => by simp [octs]
  | [a], _ => by simp [octs]
  | [a, b], h => by
    have h1 := h a (by simp)
    have h2 := h b (by simp)
    simp only [octs, List.mem_singleton, forall_eq]; omega
  | [a, b, c], h => by
    have h1 := h a (by simp)
    have h2 := h b (by simp)
    have h3 := h c (by simp)
    simp only [octs, List.mem_cons, List.not_mem_nil, or_false, forall_eq_or_imp, forall_eq]; omega
  | a :: b :: c :: d :: r, h => by
    have h1 := h a (by simp)
    have h2 := h b (by simp)
    have h3 := h c (by simp)
    have h4 := h d (by simp)
    have ih := octs_in r fun f hf => h f (by simp [hf])
    simp only [octs, List.mem_cons, forall_eq_or_imp]
    refine ⟨by omega, by omega, by omega, ih⟩

theorem octs_length : ∀ fs : List Int, (octs fs).length = fs.length * 3 / 4
  | [] => rfl
  | [_] => by simp [octs]
  | [_, _] => by simp [octs]
  | [_, _, _] => by simp [octs]
  | a :: b :: c :: d :: r => by
    simp only [octs, List.length_cons, octs_length r]; omega

/-- the decoder's state: `cs` signs, then `p` pads -/
noncomputable def A2b (cs : List Int) (p : Nat) (pre out : List Int) (q l pads : Int) : Prop :=
  (pre.length ≤ cs.length ∧ pads = 0 ∧ q = ((pre.length % 4 : Nat) : Int) ∧ out = octs (pre.map b64v) ∧ l = left (pre.map b64v)) ∨
  (cs.length < pre.length ∧ pads = ((pre.length - cs.length : Nat) : Int) ∧ pre.length ≤ cs.length + p ∧ q = ((cs.length % 4 : Nat) : Int) ∧ out = octs (cs.map b64v))

noncomputable def Padded (cs : List Int) (p : Nat) : Prop :=
  (∀ c ∈ cs, c ≠ 61 ∧ 0 ≤ b64v c ∧ b64v c < 64) ∧ ((cs.length % 4 = 0 ∧ p = 0) ∨ (cs.length % 4 = 2 ∧ p = 2) ∨ (cs.length % 4 = 3 ∧ p = 1))

theorem a2b_start {cs : List Int} {p : Nat} : A2b cs p [] [] 0 0 0 := .inl ⟨by simp, rfl, rfl, rfl, rfl⟩

theorem a2b_turn {cs : List Int} {p : Nat} {ks pre post out : List Int} {n q l pads : Int} (H : Padded cs p) (hk : ks = cs ++ List.replicate p 61) (h : A2b cs p pre out q l pads) (e : ks = pre ++ n :: post) :
    (n ≠ 61 ∧ 0 ≤ b64v n ∧ b64v n < 64 ∧ pads = 0 ∧ q = 0 ∧ out.length ≤ pre.length ∧ A2b cs p (pre ++ [n]) out 1 (b64v n) 0) ∨
    (n ≠ 61 ∧ 0 ≤ b64v n ∧ b64v n < 64 ∧ pads = 0 ∧ q = 1 ∧ 0 ≤ l ∧ l < 64 ∧ out.length ≤ pre.length ∧ A2b cs p (pre ++ [n]) (out ++ [l * 4 + b64v n / 16]) 2 (b64v n % 16) 0) ∨
    (n ≠ 61 ∧ 0 ≤ b64v n ∧ b64v n < 64 ∧ pads = 0 ∧ q = 2 ∧ 0 ≤ l ∧ l < 16 ∧ out.length ≤ pre.length ∧ A2b cs p (pre ++ [n]) (out ++ [l * 16 + b64v n / 4]) 3 (b64v n % 4) 0) ∨
    (n ≠ 61 ∧ 0 ≤ b64v n ∧ b64v n < 64 ∧ pads = 0 ∧ q = 3 ∧ 0 ≤ l ∧ l < 4 ∧ out.length ≤ pre.length ∧ A2b cs p (pre ++ [n]) (out ++ [l * 64 + b64v n]) 0 0 0) ∨
    (n = 61 ∧ 2 ≤ q ∧ q < 4 ∧ 0 ≤ pads ∧ q + pads < 4 ∧ out.length ≤ pre.length ∧ A2b cs p (pre ++ [n]) out q l (pads + 1)) := by
  obtain ⟨hc, hp⟩ := H
  have e' : cs ++ List.replicate p 61 = pre ++ n :: post := hk ▸ e
  have hlen : cs.length + p = pre.length + (post.length + 1) := by
    have := congrArg List.length e'
    simpa using this
  rcases h with ⟨h1, h2, h3, h4, h5⟩ | ⟨h1, h2, h3, h4, h5⟩
  · by_cases hlt : pre.length < cs.length
    · -- a sign
      have hpre : pre = cs.take pre.length := by
        have := congrArg (List.take pre.length) e'
        rw [List.take_append_of_le_length (by omega), List.take_append_of_le_length (by omega), List.take_length] at this
        exact this.symm
      have hn : n ∈ cs := by
        have := congrArg (fun l => l[pre.length]?) e'
        simp only [List.getElem?_append_left hlt, List.getElem?_append_right (Nat.le_refl _), Nat.sub_self, List.getElem?_cons_zero] at this
        exact List.mem_of_getElem? this
      obtain ⟨n1, n2, n3⟩ := hc n hn
      have hfs : ∀ f ∈ pre.map b64v, 0 ≤ f ∧ f < 64 := by
        intro f hf
        obtain ⟨c, hc', rfl⟩ := List.mem_map.1 hf
        rw [hpre] at hc'
        exact (hc c (List.mem_of_mem_take hc')).2
      have hl := left_in _ hfs
      have hm := octs_more (b64v n) (pre.map b64v)
      have hol : out.length ≤ pre.length := by
        rw [h4, octs_length, List.length_map]; omega
      simp only [List.length_map] at hl hm
      rw [← h4, ← h5] at hm
      rw [← h5] at hl
      have next : A2b cs p (pre ++ [n]) (out ++ fill pre.length l (b64v n)) (((pre.length + 1) % 4 : Nat) : Int) (rest pre.length (b64v n)) 0 := by
        refine .inl ⟨by simp; omega, rfl, by simp, ?_, ?_⟩
        · rw [List.map_append, List.map_singleton]; exact hm.1.symm
        · rw [List.map_append, List.map_singleton]; exact hm.2.symm
      have hq : pre.length % 4 = 0 ∨ pre.length % 4 = 1 ∨ pre.length % 4 = 2 ∨ pre.length % 4 = 3 := by omega
      rcases hq with hq | hq | hq | hq
      · left
        refine ⟨n1, n2, n3, h2, by omega, hol, ?_⟩
        have e1 : (pre.length + 1) % 4 = 1 := by omega
        simpa [fill, rest, hq, e1] using next
      · right; left
        refine ⟨n1, n2, n3, h2, by omega, hl.1, hl.2.1, hol, ?_⟩
        have e1 : (pre.length + 1) % 4 = 2 := by omega
        simpa [fill, rest, hq, e1] using next
      · right; right; left
        refine ⟨n1, n2, n3, h2, by omega, hl.1, hl.2.2.1 hq, hol, ?_⟩
        have e1 : (pre.length + 1) % 4 = 3 := by omega
        simpa [fill, rest, hq, e1] using next
      · right; right; right; left
        refine ⟨n1, n2, n3, h2, by omega, hl.1, hl.2.2.2 hq, hol, ?_⟩
        have e1 : (pre.length + 1) % 4 = 0 := by omega
        simpa [fill, rest, hq, e1] using next
    · -- the first pad
      have hpl : pre.length = cs.length := by omega
      have hpre : pre = cs := by
        have := congrArg (List.take cs.length) e'
        rw [List.take_append_of_le_length (Nat.le_refl _), List.take_length, ← hpl, List.take_append_of_le_length (Nat.le_refl _), List.take_length] at this
        exact this.symm
      subst hpre
      have hn : n = 61 := by
        have := List.append_cancel_left e'
        have hm : n ∈ List.replicate p (61 : Int) := by rw [this]; simp
        exact (List.mem_replicate.1 hm).2
      right; right; right; right
      refine ⟨hn, by omega, by omega, by omega, by omega, ?_, .inr ⟨by simp, ?_, ?_, h3, h4⟩⟩
      · rw [h4, octs_length, List.length_map]; omega
      · simp; omega
      · simp; omega
  · have hn : n = 61 := by
      have h1' : cs.length ≤ pre.length := by omega
      have := congrArg (fun l => l[pre.length]?) e'
      simp only [List.getElem?_append_right h1', List.getElem?_append_right (Nat.le_refl _), Nat.sub_self, List.getElem?_cons_zero] at this
      have hm := List.mem_of_getElem? this
      exact (List.mem_replicate.1 hm).2
    right; right; right; right
    refine ⟨hn, by omega, by omega, by omega, by omega, ?_, .inr ⟨by simp; omega, by simp; omega, by simp; omega, h4, h5⟩⟩
    rw [h5, octs_length, List.length_map]; omega

theorem a2b_done {cs : List Int} {p : Nat} {ks out : List Int} {q l pads : Int} (H : Padded cs p) (hk : ks = cs ++ List.replicate p 61) (h : A2b cs p ks out q l pads) :
    ((q = 0 ∧ pads = 0) ∨ (q = 2 ∧ pads = 2) ∨ (q = 3 ∧ pads = 1)) ∧ out = octs (cs.map b64v) := by
  obtain ⟨hc, hp⟩ := H
  subst hk
  rcases h with ⟨h1, h2, h3, h4, h5⟩ | ⟨h1, h2, h3, h4, h5⟩
  · simp only [List.length_append, List.length_replicate] at h1
    have : p = 0 := by omega
    subst this
    simp only [List.replicate_zero, List.append_nil] at h3 h4
    exact ⟨.inl ⟨by omega, h2⟩, h4⟩
  · simp only [List.length_append, List.length_replicate] at h1 h2
    refine ⟨.inr ?_, h5⟩
    omega
theorem a2b_in {cs : List Int} {p : Nat} (H : Padded cs p) : ∀ o ∈ octs (cs.map b64v), 0 ≤ o ∧ o < 256 :=
  octs_in _ fun f hf => by
    obtain ⟨c, hc, rfl⟩ := List.mem_map.1 hf
    exact (H.1 c hc).2
end Mine
end

section
/-! bits -/
namespace Mine
open PySem PyProof.Rows

theorem nat_and_zero (a b k : Nat) (h : b < 2 ^ k) : (a * 2 ^ k) &&& b = 0 := by
  apply Nat.eq_of_testBit_eq
  intro i
  rw [Nat.testBit_and, Nat.zero_testBit, Nat.testBit_mul_two_pow]
  by_cases hi : k ≤ i
  · have : b.testBit i = false := Nat.testBit_lt_two_pow (Nat.lt_of_lt_of_le h (Nat.pow_le_pow_right (by decide) hi))
    simp [this]
  · simp [hi]

theorem bitAnd_apart {x y : Int} (k : Nat) (hx : 0 ≤ x) (hy : 0 ≤ y) (h : y < 2 ^ k) : Builtin.bitAnd (x * 2 ^ k) y = 0 := by
  obtain ⟨a, rfl⟩ := Int.eq_ofNat_of_zero_le hx
  obtain ⟨b, rfl⟩ := Int.eq_ofNat_of_zero_le hy
  have hb : b < 2 ^ k := by exact_mod_cast h
  have e : ((a : Int) * 2 ^ k) = ((a * 2 ^ k : Nat) : Int) := by push_cast; rfl
  rw [e, bitAnd_pp (Int.natCast_nonneg _) (Int.natCast_nonneg _), Int.toNat_natCast, Int.toNat_natCast, nat_and_zero a b k hb]
  rfl

theorem bitOr_apart {x y : Int} (k : Nat) (hx : 0 ≤ x) (hy : 0 ≤ y) (h : y < 2 ^ k) : Builtin.bitOr (x * 2 ^ k) y = x * 2 ^ k + y := by
  rw [bitOr_and, bitAnd_apart k hx hy h]
  omega

theorem fdiv_two {v : Int} (k : Nat) : v.fdiv (2 ^ k) = v / 2 ^ k := by
  rw [Int.fdiv_eq_ediv_of_nonneg]
  exact Int.le_of_lt (Int.pow_pos (by decide))

theorem or1 {l v : Int} (h1 : 0 ≤ l) (h2 : 0 ≤ v) (h3 : v < 64) : Builtin.bitOr (l * 2 ^ Int.toNat 2) (v.fdiv (2 ^ Int.toNat 4)) = l * 4 + v / 16 := by
  show Builtin.bitOr (l * 2 ^ 2) (v.fdiv (2 ^ 4)) = l * 4 + v / 16
  have e : v.fdiv (2 ^ 4) = v / 16 := fdiv_two 4
  rw [e, bitOr_apart 2 h1 (by omega) (by omega)]
  omega
theorem or2 {l v : Int} (h1 : 0 ≤ l) (h2 : 0 ≤ v) (h3 : v < 64) : Builtin.bitOr (l * 2 ^ Int.toNat 4) (v.fdiv (2 ^ Int.toNat 2)) = l * 16 + v / 4 := by
  show Builtin.bitOr (l * 2 ^ 4) (v.fdiv (2 ^ 2)) = l * 16 + v / 4
  have e : v.fdiv (2 ^ 2) = v / 4 := fdiv_two 2
  rw [e, bitOr_apart 4 h1 (by omega) (by omega)]
  omega
theorem or3 {l v : Int} (h1 : 0 ≤ l) (h2 : 0 ≤ v) (h3 : v < 64) : Builtin.bitOr (l * 2 ^ Int.toNat 6) v = l * 64 + v := by
  show Builtin.bitOr (l * 2 ^ 6) v = l * 64 + v
  rw [bitOr_apart 6 h1 (by omega) (by omega)]
  omega
theorem a2b_as {cs : List Int} {p : Nat} {pre out out' : List Int} {q l l' pads : Int} (h : A2b cs p pre out q l pads) (e1 : out' = out) (e2 : l' = l) : A2b cs p pre out' q l' pads := by
  subst e1 e2
  exact h
end Mine
end

section
/-! plain arithmetic of the encoder's loop -/
namespace Mine
open PySem PyProof.Rows

noncomputable def sgn (i : Int) : Int :=
  if i < 26 then i + 65 else if i < 52 then i + 71 else if i < 62 then i - 4 else if i = 62 then 43 else 47
noncomputable def alpha : List Int := [65, 66, 67, 68, 69, 70, 71, 72, 73, 74, 75, 76, 77, 78, 79, 80, 81, 82, 83, 84, 85, 86, 87, 88, 89, 90, 97, 98, 99, 100, 101, 102, 103, 104, 105, 106, 107, 108, 109, 110, 111, 112, 113, 114, 115, 116, 117, 118, 119, 120, 121, 122, 48, 49, 50, 51, 52, 53, 54, 55, 56, 57, 43, 47]
theorem alpha_sgn {i : Int} (h0 : 0 ≤ i) (h1 : i < 64) : alpha.getD i.toNat 0 = sgn i := by
  have all : ∀ n : Fin 64, alpha.getD n.val 0 = sgn (n.val : Int) := by decide +kernel
  have := all ⟨i.toNat, by omega⟩
  simp only at this
  rw [this, Int.toNat_of_nonneg h0]

/-- the whole figures of octets -/
noncomputable def sixes : List Int → List Int
  | a :: b :: c :: r => (a / 4) :: (a % 4 * 16 + b / 16) :: (b % 16 * 4 + c / 64) :: (c % 64) :: sixes r
  | [a, b] => [a / 4, a % 4 * 16 + b / 16]
  | [a] => [a / 4]
  | [] => []
/-- the bits that are over -/
noncomputable def over : List Int → Int
  | _ :: _ :: _ :: r => over r
  | [_, b] => b % 16
  | [a] => a % 4
  | [] => 0
noncomputable def sixAdd (n : Nat) (l v : Int) : List Int :=
  if n % 3 = 0 then [v / 4] else if n % 3 = 1 then [l * 16 + v / 16] else [l * 4 + v / 64, v % 64]
noncomputable def overAdd (n : Nat) (v : Int) : Int := if n % 3 = 0 then v % 4 else if n % 3 = 1 then v % 16 else 0

theorem sixes_more (v : Int) : ∀ os : List Int, sixes (os ++ [v]) = sixes os ++ sixAdd os.length (over os) v ∧ over (os ++ [v]) = overAdd os.length v
  | [] => by simp [sixes, over, sixAdd, overAdd]
  | [a] => by simp [sixes, over, sixAdd, overAdd]
  | [a, b] => by simp [sixes, over, sixAdd, overAdd]
  | a :: b :: c :: r => by
    have h := sixes_more v r
    have e : (a :: b :: c :: r).length % 3 = r.length % 3 := by simp only [List.length_cons]; omega
    constructor
    · show (a / 4) :: (a % 4 * 16 + b / 16) :: (b % 16 * 4 + c / 64) :: (c % 64) :: sixes (r ++ [v]) = _
      rw [h.1]
      simp only [sixes, over, sixAdd, e, List.cons_append]
    · show over (r ++ [v]) = _
      rw [h.2]
      simp only [overAdd, e]
theorem sixes_length : ∀ os : List Int, (sixes os).length = os.length * 4 / 3
  | [] => rfl
  | [_] => by simp [sixes]
  | [_, _] => by simp [sixes]
  | a :: b :: c :: r => by simp only [sixes, List.length_cons, sixes_length r]; omega
theorem sixes_in : ∀ os : List Int, (∀ f ∈ os, 0 ≤ f ∧ f < 256) → ∀ o ∈ sixes os, 0 ≤ o ∧ o < 64
  | [], _ => by simp [sixes]
  | [a], h => by
    have h1 := h a (by simp)
    simp only [sixes, List.mem_singleton, forall_eq]; omega
  | [a, b], h => by
    have h1 := h a (by simp)
    have h2 := h b (by simp)
    simp only [sixes, List.mem_cons, List.not_mem_nil, or_false, forall_eq_or_imp, forall_eq]; omega
  | a :: b :: c :: r, h => by
    have h1 := h a (by simp)
    have h2 := h b (by simp)
    have h3 := h c (by simp)
    have ih := sixes_in r fun f hf => h f (by simp [hf])
    simp only [sixes, List.mem_cons, forall_eq_or_imp]
    refine ⟨by omega, by omega, by omega, by omega, ih⟩
theorem over_in : ∀ os : List Int, 0 ≤ over os ∧ over os < 16 ∧ (os.length % 3 = 1 → over os < 4) ∧ (os.length % 3 = 0 → over os = 0)
  | [] => by simp [over]
  | [a] => by simp [over]; omega
  | [a, b] => by simp [over]; omega
  | a :: b :: c :: r => by
    have ih := over_in r
    simp only [over, List.length_cons]
    exact ⟨ih.1, ih.2.1, fun e => ih.2.2.1 (by omega), fun e => ih.2.2.2 (by omega)⟩

/-- the encoder's state -/
noncomputable def B2a (pre out : List Int) (lb lc : Int) : Prop :=
  out = (sixes pre).map sgn ∧ 0 ≤ lc ∧ lc < 65536 ∧
  ((pre.length % 3 = 0 ∧ lb = 0) ∨ (pre.length % 3 = 1 ∧ lb = 2 ∧ lc % 4 = over pre) ∨ (pre.length % 3 = 2 ∧ lb = 4 ∧ lc % 16 = over pre))
theorem b2a_start : B2a [] [] 0 0 := ⟨rfl, by decide, by decide, .inl ⟨rfl, rfl⟩⟩
theorem b2a_turn {pre out : List Int} {n lb lc : Int} (h : B2a pre out lb lc) (h0 : 0 ≤ n) (h1 : n < 256) :
    (lb = 0 ∧ 0 ≤ lc ∧ lc < 65536 ∧ out.length ≤ 2 * pre.length ∧ B2a (pre ++ [n]) (out ++ [sgn ((lc * 256 + n) % 65536 / 4 % 64)]) 2 ((lc * 256 + n) % 65536)) ∨
    (lb = 2 ∧ 0 ≤ lc ∧ lc < 65536 ∧ out.length ≤ 2 * pre.length ∧ B2a (pre ++ [n]) (out ++ [sgn ((lc * 256 + n) % 65536 / 16 % 64)]) 4 ((lc * 256 + n) % 65536)) ∨
    (lb = 4 ∧ 0 ≤ lc ∧ lc < 65536 ∧ out.length ≤ 2 * pre.length ∧ B2a (pre ++ [n]) ((out ++ [sgn ((lc * 256 + n) % 65536 / 64 % 64)]) ++ [sgn ((lc * 256 + n) % 65536 / 1 % 64)]) 0 ((lc * 256 + n) % 65536)) := by
  obtain ⟨e, c0, c1, h⟩ := h
  have hm := sixes_more n pre
  have hol : out.length ≤ 2 * pre.length := by
    rw [e, List.length_map, sixes_length]; omega
  rcases h with ⟨h3, h4⟩ | ⟨h3, h4, h5⟩ | ⟨h3, h4, h5⟩
  · refine .inl ⟨h4, c0, c1, hol, ?_, by omega, by omega, .inr (.inl ⟨by simp; omega, rfl, ?_⟩)⟩
    · rw [hm.1, List.map_append, e]
      have : (lc * 256 + n) % 65536 / 4 % 64 = n / 4 := by omega
      simp [sixAdd, h3, this]
    · rw [hm.2]
      simp only [overAdd, h3, if_true]; omega
  · refine .inr (.inl ⟨h4, c0, c1, hol, ?_, by omega, by omega, .inr (.inr ⟨by simp; omega, rfl, ?_⟩)⟩)
    · rw [hm.1, List.map_append, e]
      have : (lc * 256 + n) % 65536 / 16 % 64 = over pre * 16 + n / 16 := by omega
      simp [sixAdd, h3, this]
    · rw [hm.2]
      simp [overAdd, h3]; omega
  · refine .inr (.inr ⟨h4, c0, c1, hol, ?_, by omega, by omega, .inl ⟨by simp; omega, rfl⟩⟩)
    rw [hm.1, List.map_append, e]
    have t1 : (lc * 256 + n) % 65536 / 64 % 64 = over pre * 4 + n / 64 := by omega
    have t2 : (lc * 256 + n) % 65536 / 1 % 64 = n % 64 := by omega
    simp only [sixAdd, h3, t1, t2]
    simp
/-- the signs of a row of octets, without the filling up -/
noncomputable def figures (os : List Int) : List Int :=
  sixes os ++ (if os.length % 3 = 1 then [over os * 16] else if os.length % 3 = 2 then [over os * 4] else [])
noncomputable def padsOf (n : Nat) : Nat := if n % 3 = 1 then 2 else if n % 3 = 2 then 1 else 0
noncomputable def encoded (os : List Int) : List Int := (figures os).map sgn ++ List.replicate (padsOf os.length) 61
theorem encoded_length (os : List Int) : (encoded os).length = (os.length + 2) / 3 * 4 := by
  unfold encoded figures padsOf
  simp only [List.length_append, List.length_map, List.length_replicate, sixes_length]
  have h : os.length % 3 = 0 ∨ os.length % 3 = 1 ∨ os.length % 3 = 2 := by omega
  rcases h with h | h | h <;> simp [h] <;> omega
theorem b2a_done {ks out : List Int} {lb lc : Int} (h : B2a ks out lb lc) :
    0 ≤ lc ∧ lc < 65536 ∧ out.length ≤ 2 * ks.length ∧ (0 ≤ Builtin.bitAnd lc 3 ∧ Builtin.bitAnd lc 3 < 4 ∧ 0 ≤ Builtin.bitAnd lc 15 ∧ Builtin.bitAnd lc 15 < 16) ∧
    ((lb = 0 ∧ encoded ks = out) ∨ (lb = 2 ∧ encoded ks = out ++ [sgn (Builtin.bitAnd lc 3 * 2 ^ Int.toNat 4)] ++ [61] ++ [61]) ∨ (lb = 4 ∧ encoded ks = out ++ [sgn (Builtin.bitAnd lc 15 * 2 ^ Int.toNat 2)] ++ [61])) := by
  obtain ⟨e, c0, c1, h⟩ := h
  have hol : out.length ≤ 2 * ks.length := by
    rw [e, List.length_map, sixes_length]; omega
  have e1 : Builtin.bitAnd lc 3 * 2 ^ Int.toNat 4 = lc % 4 * 16 := by rw [bitAnd_m2]; rfl
  have e2 : Builtin.bitAnd lc 15 * 2 ^ Int.toNat 2 = lc % 16 * 4 := by rw [bitAnd_m4]; rfl
  rw [e1, e2]
  refine ⟨c0, c1, hol, ⟨?_, ?_, ?_, ?_⟩, ?_⟩
  · rw [bitAnd_m2]; omega
  · rw [bitAnd_m2]; omega
  · rw [bitAnd_m4]; omega
  · rw [bitAnd_m4]; omega
  rcases h with ⟨h3, h4⟩ | ⟨h3, h4, h5⟩ | ⟨h3, h4, h5⟩
  · exact .inl ⟨h4, by simp [encoded, figures, padsOf, h3, e]⟩
  · exact .inr (.inl ⟨h4, by simp [encoded, figures, padsOf, h3, e, h5, List.replicate]⟩)
  · exact .inr (.inr ⟨h4, by simp [encoded, figures, padsOf, h3, e, h5]⟩)
theorem b2a_as {pre out out' : List Int} {lb lb' lc lc' : Int} (h : B2a pre out lb lc) (e1 : out' = out) (e2 : lb' = lb) (e3 : lc' = lc) : B2a pre out' lb' lc' := by
  subst e1 e2 e3
  exact h
theorem or8 {l v : Int} (h1 : 0 ≤ l) (h2 : 0 ≤ v) (h3 : v < 256) : Builtin.bitOr (l * 2 ^ Int.toNat 8) v = l * 256 + v := by
  show Builtin.bitOr (l * 2 ^ 8) v = l * 256 + v
  rw [bitOr_apart 8 h1 (by omega) (by omega)]
  omega
theorem idx63 {x : Int} (k : Nat) (d : Int) (e : (2 : Int) ^ k = d) : Builtin.bitAnd (x.fdiv (2 ^ k)) 63 = x / d % 64 := by
  rw [bitAnd_m6, fdiv_two, e]
theorem idxA (x : Int) : Builtin.bitAnd (x.fdiv (2 ^ (0 + 8 - 6 : Int).toNat)) 63 = x / 4 % 64 := idx63 _ 4 (by decide)
theorem idxB (x : Int) : Builtin.bitAnd (x.fdiv (2 ^ (2 + 8 - 6 : Int).toNat)) 63 = x / 16 % 64 := idx63 _ 16 (by decide)
theorem idxC (x : Int) : Builtin.bitAnd (x.fdiv (2 ^ (4 + 8 - 6 : Int).toNat)) 63 = x / 64 % 64 := idx63 _ 64 (by decide)
theorem idxD (x : Int) : Builtin.bitAnd (x.fdiv (2 ^ (4 + 8 - 6 - 6 : Int).toNat)) 63 = x / 1 % 64 := idx63 _ 1 (by decide)
theorem sgn_in {i : Int} (h0 : 0 ≤ i) (h1 : i < 64) : 0 ≤ sgn i ∧ sgn i < 256 := by
  unfold sgn; (repeat' split) <;> omega
theorem figures_in {os : List Int} (h : ∀ f ∈ os, 0 ≤ f ∧ f < 256) : ∀ o ∈ figures os, 0 ≤ o ∧ o < 64 := by
  intro o ho
  have hv := over_in os
  rcases List.mem_append.1 ho with ho | ho
  · exact sixes_in os h o ho
  · split at ho
    · rw [List.mem_singleton.1 ho]; omega
    · split at ho
      · rw [List.mem_singleton.1 ho]; omega
      · cases ho
theorem encoded_in {os : List Int} (h : ∀ f ∈ os, 0 ≤ f ∧ f < 256) : ∀ o ∈ encoded os, 0 ≤ o ∧ o < 256 := by
  intro o ho
  rcases List.mem_append.1 ho with ho | ho
  · obtain ⟨f, hf, rfl⟩ := List.mem_map.1 ho
    have := figures_in h f hf
    exact sgn_in this.1 this.2
  · rw [(List.mem_replicate.1 ho).2]; decide
end Mine
end

section
/-! numbers and their figures -/
namespace Mine

noncomputable def horner (B : Int) (l : List Int) : Int := l.foldl (fun a d => a * B + d) 0
theorem horner_snoc (B : Int) (l : List Int) (d : Int) : horner B (l ++ [d]) = horner B l * B + d := by simp [horner]
theorem horner_take {B : Int} {l : List Int} {i : Nat} {d : Int} (h : l[i]? = some d) : horner B (l.take (i + 1)) = horner B (l.take i) * B + d := by
  rw [List.take_add_one, h]
  exact horner_snoc ..
theorem horner_in {B : Int} (hB : 1 < B) : ∀ (l : List Int), (∀ d ∈ l, 0 ≤ d ∧ d < B) → 0 ≤ horner B l ∧ horner B l < B ^ l.length := by
  have key : ∀ (l : List Int) (a : Int) (n : Nat), 0 ≤ a → a < B ^ n → (∀ d ∈ l, 0 ≤ d ∧ d < B) → 0 ≤ l.foldl (fun a d => a * B + d) a ∧ l.foldl (fun a d => a * B + d) a < B ^ (n + l.length) := by
    intro l
    induction l with
    | nil => intro a n h0 h1 _; exact ⟨h0, by simpa using h1⟩
    | cons d r ih =>
      intro a n h0 h1 hd
      have hdd := hd d (by simp)
      have h2 : 0 ≤ a * B := Int.mul_nonneg h0 (by omega)
      have h3 : a * B + d < B ^ (n + 1) := by
        rw [Int.pow_succ]
        have : (a + 1) * B ≤ B ^ n * B := Int.mul_le_mul_of_nonneg_right (by omega) (by omega)
        rw [Int.add_mul, Int.one_mul] at this
        omega
      have := ih (a * B + d) (n + 1) (by omega) h3 fun e he => hd e (by simp [he])
      rw [List.length_cons, show n + (r.length + 1) = n + 1 + r.length by omega]
      exact this
  intro l h
  have := key l 0 0 (by decide) (by simp) h
  simpa [horner] using this
theorem horner_from (B : Int) : ∀ (r : List Int) (a : Int), r.foldl (fun a d => a * B + d) a = a * B ^ r.length + horner B r
  | [], a => by simp [horner]
  | d :: r, a => by
    have h1 := horner_from B r (a * B + d)
    have h2 := horner_from B r (0 * B + d)
    show r.foldl (fun a d => a * B + d) (a * B + d) = a * B ^ (r.length + 1) + r.foldl (fun a d => a * B + d) (0 * B + d)
    rw [h1, h2, Int.pow_succ, Int.add_mul, Int.add_mul, Int.zero_mul, Int.zero_mul, Int.mul_assoc, Int.mul_comm B]
    omega
theorem horner_append (B : Int) (l r : List Int) : horner B (l ++ r) = horner B l * B ^ r.length + horner B r := by
  unfold horner
  rw [List.foldl_append]
  exact horner_from B r _

/-- the figures of a number, the greatest first -/
noncomputable def digs (B : Int) : Nat → Int → List Int
  | 0, _ => []
  | n + 1, V => digs B n (V / B) ++ [V % B]
theorem digs_length (B : Int) : ∀ n V, (digs B n V).length = n
  | 0, _ => rfl
  | n + 1, V => by simp [digs, digs_length B n]
theorem digs_split {B : Int} (hB : 0 < B) (n : Nat) : ∀ (m : Nat) (G W : Int), 0 ≤ W → W < B ^ m → digs B (n + m) (G * B ^ m + W) = digs B n G ++ digs B m W
  | 0, G, W, h0, h1 => by
    have : W = 0 := by simp at h1; omega
    subst this
    simp [digs]
  | m + 1, G, W, h0, h1 => by
    have e : G * B ^ (m + 1) + W = G * B ^ m * B + W := by rw [Int.pow_succ, Int.mul_assoc]
    have hd : (G * B ^ (m + 1) + W) / B = G * B ^ m + W / B := by
      rw [e, Int.add_comm, Int.add_mul_ediv_right _ _ (by omega), Int.add_comm]
    have hm : (G * B ^ (m + 1) + W) % B = W % B := by rw [e, Int.add_comm, Int.add_mul_emod_self_right]
    have h2 : W / B < B ^ m := by
      rw [Int.pow_succ] at h1
      exact Int.ediv_lt_of_lt_mul hB h1
    show digs B (n + m) ((G * B ^ (m + 1) + W) / B) ++ [(G * B ^ (m + 1) + W) % B] = digs B n G ++ (digs B m (W / B) ++ [W % B])
    rw [hd, hm, digs_split hB n m G (W / B) (Int.ediv_nonneg h0 (by omega)) h2, List.append_assoc]
theorem digs_range {B : Int} (hB : 0 < B) : ∀ (n : Nat) (V : Int), ((List.range n).map fun k => V / B ^ k % B).reverse = digs B n V
  | 0, _ => rfl
  | n + 1, V => by
    rw [List.range_succ_eq_map, List.map_cons, List.map_map, List.reverse_cons]
    have e : ((fun k : Nat => V / B ^ k % B) ∘ Nat.succ) = fun k => (V / B) / B ^ k % B := by
      funext k
      show V / B ^ (k + 1) % B = _
      rw [Int.pow_succ, Int.mul_comm, ← Int.ediv_ediv_of_nonneg (by omega)]
    rw [e, digs_range hB n (V / B)]
    simp [digs]
end Mine
end

section
/-! octets and figures as figures of one number -/
namespace Mine

theorem pow64 (n : Nat) : (64 : Int) ^ n = 2 ^ (6 * n) := by
  rw [Int.pow_mul]; rfl
theorem pow256 (n : Nat) : (256 : Int) ^ n = 2 ^ (8 * n) := by
  rw [Int.pow_mul]; rfl
theorem two_pos (n : Nat) : (0 : Int) < 2 ^ n := Int.pow_pos (by decide)

theorem octs_digs : ∀ fs : List Int, (∀ f ∈ fs, 0 ≤ f ∧ f < 64) → digs 256 (fs.length * 3 / 4) (horner 64 fs / 2 ^ (6 * fs.length % 8)) = octs fs
  | [], _ => rfl
  | [a], h => by
    simp [digs, octs]
  | [a, b], h => by
    have h1 := h a (by simp)
    have h2 := h b (by simp)
    simp [digs, horner, octs]
    omega
  | [a, b, c], h => by
    have h1 := h a (by simp)
    have h2 := h b (by simp)
    have h3 := h c (by simp)
    simp [digs, horner, octs]
    omega
  | a :: b :: c :: d :: r, h => by
    have h1 := h a (by simp)
    have h2 := h b (by simp)
    have h3 := h c (by simp)
    have h4 := h d (by simp)
    have hr : ∀ f ∈ r, 0 ≤ f ∧ f < 64 := fun f hf => h f (by simp [hf])
    have ih := octs_digs r hr
    have hW := horner_in (B := 64) (by decide) r hr
    have hV : horner 64 (a :: b :: c :: d :: r) = ((((0 * 64 + a) * 64 + b) * 64 + c) * 64 + d) * 64 ^ r.length + horner 64 r := by
      show r.foldl (fun a d => a * 64 + d) ((((0 * 64 + a) * 64 + b) * 64 + c) * 64 + d) = _
      exact horner_from 64 r _
    generalize hG : (((0 * 64 + a) * 64 + b) * 64 + c) * 64 + d = G at hV
    generalize horner 64 r = W at ih hW hV
    have hl : (a :: b :: c :: d :: r).length * 3 / 4 = 3 + r.length * 3 / 4 := by simp only [List.length_cons]; omega
    have he : 6 * (a :: b :: c :: d :: r).length % 8 = 6 * r.length % 8 := by simp only [List.length_cons]; omega
    rw [hl, he, hV]
    have hp : (64 : Int) ^ r.length = 256 ^ (r.length * 3 / 4) * 2 ^ (6 * r.length % 8) := by
      rw [pow64, pow256, ← Int.pow_add]
      congr 1
      omega
    have hq : (G * 64 ^ r.length + W) / 2 ^ (6 * r.length % 8) = G * 256 ^ (r.length * 3 / 4) + W / 2 ^ (6 * r.length % 8) := by
      rw [hp, ← Int.mul_assoc, Int.add_comm, Int.add_mul_ediv_right _ _ (Int.ne_of_gt (two_pos _)), Int.add_comm]
    rw [hp] at hW
    rw [hq, digs_split (by decide) 3 _ G _ (Int.ediv_nonneg hW.1 (Int.le_of_lt (two_pos _))) (Int.ediv_lt_of_lt_mul (two_pos _) hW.2), ih]
    show [G / 256 / 256 % 256, G / 256 % 256, G % 256] ++ octs r = (a * 4 + b / 16) :: (b % 16 * 16 + c / 4) :: (c % 4 * 64 + d) :: octs r
    have e1 : G / 256 / 256 % 256 = a * 4 + b / 16 := by omega
    have e2 : G / 256 % 256 = b % 16 * 16 + c / 4 := by omega
    have e3 : G % 256 = c % 4 * 64 + d := by omega
    rw [e1, e2, e3]
    rfl

theorem figures_more (a b c : Int) (r : List Int) : figures (a :: b :: c :: r) = (a / 4) :: (a % 4 * 16 + b / 16) :: (b % 16 * 4 + c / 64) :: (c % 64) :: figures r := by
  have e : (a :: b :: c :: r).length % 3 = r.length % 3 := by simp only [List.length_cons]; omega
  simp only [figures, sixes, over, e, List.cons_append]
theorem figures_length (os : List Int) : (figures os).length = (os.length * 4 + 2) / 3 := by
  unfold figures
  rw [List.length_append, sixes_length]
  have h : os.length % 3 = 0 ∨ os.length % 3 = 1 ∨ os.length % 3 = 2 := by omega
  rcases h with h | h | h <;> simp [h] <;> omega
theorem figs_digs : ∀ os : List Int, (∀ f ∈ os, 0 ≤ f ∧ f < 256) → digs 64 ((os.length * 4 + 2) / 3) (horner 256 os * 2 ^ ((os.length * 4 + 2) / 3 * 6 - os.length * 8)) = figures os
  | [], _ => rfl
  | [a], h => by
    have h1 := h a (by simp)
    simp [digs, horner, figures, sixes, over]
    omega
  | [a, b], h => by
    have h1 := h a (by simp)
    have h2 := h b (by simp)
    simp [digs, horner, figures, sixes, over]
    omega
  | a :: b :: c :: r, h => by
    have h1 := h a (by simp)
    have h2 := h b (by simp)
    have h3 := h c (by simp)
    have hr : ∀ f ∈ r, 0 ≤ f ∧ f < 256 := fun f hf => h f (by simp [hf])
    have ih := figs_digs r hr
    have hW := horner_in (B := 256) (by decide) r hr
    have hV : horner 256 (a :: b :: c :: r) = (((0 * 256 + a) * 256 + b) * 256 + c) * 256 ^ r.length + horner 256 r := by
      show r.foldl (fun a d => a * 256 + d) (((0 * 256 + a) * 256 + b) * 256 + c) = _
      exact horner_from 256 r _
    generalize hG : ((0 * 256 + a) * 256 + b) * 256 + c = G at hV
    generalize horner 256 r = W at ih hW hV
    have hl : ((a :: b :: c :: r).length * 4 + 2) / 3 = 4 + (r.length * 4 + 2) / 3 := by simp only [List.length_cons]; omega
    have he : (4 + (r.length * 4 + 2) / 3) * 6 - (a :: b :: c :: r).length * 8 = (r.length * 4 + 2) / 3 * 6 - r.length * 8 := by simp only [List.length_cons]; omega
    rw [hl, he, hV]
    generalize hM : (r.length * 4 + 2) / 3 = M at ih ⊢
    generalize hE : M * 6 - r.length * 8 = e at ih ⊢
    have hp : (256 : Int) ^ r.length * 2 ^ e = 64 ^ M := by
      rw [pow64, pow256, ← Int.pow_add]
      congr 1
      omega
    have hq : (G * 256 ^ r.length + W) * 2 ^ e = G * 64 ^ M + W * 2 ^ e := by
      rw [Int.add_mul, Int.mul_assoc, hp]
    have hlt : W * 2 ^ e < 64 ^ M := by
      rw [← hp]
      exact Int.mul_lt_mul_of_pos_right hW.2 (two_pos _)
    rw [hq, digs_split (by decide) 4 M G _ (Int.mul_nonneg hW.1 (Int.le_of_lt (two_pos _))) hlt, ih, figures_more]
    show [G / 64 / 64 / 64 % 64, G / 64 / 64 % 64, G / 64 % 64, G % 64] ++ figures r = _
    have e1 : G / 64 / 64 / 64 % 64 = a / 4 := by omega
    have e2 : G / 64 / 64 % 64 = a % 4 * 16 + b / 16 := by omega
    have e3 : G / 64 % 64 = b % 16 * 4 + c / 64 := by omega
    have e4 : G % 64 = c % 64 := by omega
    rw [e1, e2, e3, e4]
    rfl
end Mine
end

section
namespace Mine
open PySem PySem.W PyProof.Rows
theorem fdiv_pos {a b : Int} (h : 0 < b) : a.fdiv b = a / b := Int.fdiv_eq_ediv_of_nonneg _ (Int.le_of_lt h)
theorem fmod_pos {a b : Int} (h : 0 < b) : a.fmod b = a % b := Int.fmod_eq_emod_of_nonneg _ (Int.le_of_lt h)
theorem rangeKs_digs {B V : Int} (hB : 0 < B) (n : Nat) : (List.map (fun k : Int => (V.fdiv (B ^ k.toNat)).fmod B) (rangeKs 0 n)).reverse = digs B n V := by
  rw [← digs_range hB]
  congr 1
  unfold rangeKs
  rw [List.map_map]
  refine List.map_congr_left fun i _ => ?_
  show (V.fdiv (B ^ (0 + (i : Int)).toNat)).fmod B = _
  have e : (0 + (i : Int)).toNat = i := by omega
  rw [e, fdiv_pos (Int.pow_pos hB), fmod_pos hB]
theorem oct_walk (fs : List Int) (hf : ∀ f ∈ fs, 0 ≤ f ∧ f < 64) :
    (List.map (fun k : Int => (((horner 64 fs).fdiv (2 ^ ((-2 * (fs.length : Int)).fmod 8).toNat)).fdiv (256 ^ k.toNat)).fmod 256) (rangeKs 0 (((fs.length : Int) * 3).fdiv 4 - 0).toNat)).reverse = octs fs := by
  rw [rangeKs_digs (by decide), ← octs_digs fs hf]
  have e1 : (((fs.length : Int) * 3).fdiv 4 - 0).toNat = fs.length * 3 / 4 := by rw [fdiv_pos (by decide)]; omega
  have e2 : ((-2 * (fs.length : Int)).fmod 8).toNat = 6 * fs.length % 8 := by rw [fmod_pos (by decide)]; omega
  rw [e1, e2, fdiv_pos (two_pos _)]
end Mine
namespace Mine
open PySem PySem.W PyProof.Rows
theorem fig_walk (os : List Int) (ho : ∀ f ∈ os, 0 ≤ f ∧ f < 256) :
    (List.map (fun k : Int => ((horner 256 os * 2 ^ (((os.length : Int) * 4 + 2).fdiv 3 * 6 - (os.length : Int) * 8).toNat).fdiv (64 ^ k.toNat)).fmod 64) (rangeKs 0 (((os.length : Int) * 4 + 2).fdiv 3 - 0).toNat)).reverse = figures os := by
  rw [rangeKs_digs (by decide), ← figs_digs os ho]
  have e1 : (((os.length : Int) * 4 + 2).fdiv 3 - 0).toNat = (os.length * 4 + 2) / 3 := by rw [fdiv_pos (by decide)]; omega
  have e2 : (((os.length : Int) * 4 + 2).fdiv 3 * 6 - (os.length : Int) * 8).toNat = (os.length * 4 + 2) / 3 * 6 - os.length * 8 := by rw [fdiv_pos (by decide)]; omega
  rw [e1, e2]
theorem pads_walk (n : Nat) : (List.replicate ((-((n : Int) * 4 + 2).fdiv 3).fmod 4).toNat [(64 : Int)]).flatten = List.replicate (padsOf n) 64 := by
  have e : ((-((n : Int) * 4 + 2).fdiv 3).fmod 4).toNat = padsOf n := by
    rw [fdiv_pos (by decide), fmod_pos (by decide)]
    unfold padsOf
    have h : n % 3 = 0 ∨ n % 3 = 1 ∨ n % 3 = 2 := by omega
    rcases h with h | h | h
    · rw [if_neg (by omega), if_neg (by omega)]; omega
    · rw [if_pos h]; omega
    · rw [if_neg (by omega), if_pos h]; omega
  rw [e]
  generalize padsOf n = k
  induction k with
  | zero => rfl
  | succ k ih => rw [List.replicate_succ, List.flatten_cons, ih, List.replicate_succ]; rfl
end Mine
end

section
/-! what is written, heard and read back -/
namespace Mine
/-- what such a table does to an octet -/
noncomputable def tr (f0 f1 x0 x1 c : Int) : Int := if c = f1 then x1 else if c = f0 then x0 else c
noncomputable def heardOf (f s x y : Int) : Int := if s = y then 63 else if s = x then 62 else f
noncomputable def faceOf (x y f : Int) : Int := if f < 62 then sgn f else if f = 62 then x else if f = 63 then y else 61
noncomputable def shownOf (ks : List Int) : List Int := figures ks ++ List.replicate (padsOf ks.length) 64
noncomputable def heardL (x y : Int) (fs : List Int) : List Int := fs.map fun f => heardOf f (faceOf x y f) x y
noncomputable def figs (x y : Int) (ks : List Int) : List Int := (heardL x y (shownOf ks)).filter fun h => decide (h < 64)
noncomputable def writtenOf (x y : Int) (ks : List Int) : List Int := (encoded ks).map (tr 43 47 x y)
/-- a figure's sign; 64 is what fills up -/
noncomputable def sgn65 (h : Int) : Int := if h = 64 then 61 else sgn h

theorem shown_in {ks : List Int} (hk : ∀ k ∈ ks, 0 ≤ k ∧ k < 256) : ∀ f ∈ shownOf ks, 0 ≤ f ∧ f ≤ 64 := by
  intro f hf
  rcases List.mem_append.1 hf with hf | hf
  · have := figures_in hk f hf; omega
  · rw [(List.mem_replicate.1 hf).2]; decide
theorem tr_face {x y f : Int} (h0 : 0 ≤ f) (h1 : f < 64) : tr 43 47 x y (sgn f) = faceOf x y f := by
  unfold tr faceOf sgn
  (repeat' split) <;> first | rfl | omega
theorem face_64 (x y : Int) : faceOf x y 64 = 61 := rfl
theorem written_eq (x y : Int) {ks : List Int} (hk : ∀ k ∈ ks, 0 ≤ k ∧ k < 256) : writtenOf x y ks = (shownOf ks).map (faceOf x y) := by
  unfold writtenOf encoded shownOf
  rw [List.map_append, List.map_append, List.map_map, List.map_replicate, List.map_replicate]
  congr 1
  refine List.map_congr_left fun f hf => ?_
  have := figures_in hk f hf
  exact tr_face this.1 this.2
theorem heard_in {x y f : Int} (h0 : 0 ≤ f) (h1 : f ≤ 64) : 0 ≤ heardOf f (faceOf x y f) x y ∧ heardOf f (faceOf x y f) x y ≤ 64 := by
  unfold heardOf
  (repeat' split) <;> omega
/-- what the reader's table makes of a sign -/
theorem tr_back {x y f : Int} (h0 : 0 ≤ f) (h1 : f ≤ 64) : tr x y 43 47 (faceOf x y f) = sgn65 (heardOf f (faceOf x y f) x y) := by
  unfold tr heardOf
  by_cases e1 : faceOf x y f = y
  · rw [if_pos e1, if_pos e1]; rfl
  · rw [if_neg e1, if_neg e1]
    by_cases e2 : faceOf x y f = x
    · rw [if_pos e2, if_pos e2]; rfl
    · rw [if_neg e2, if_neg e2]
      unfold faceOf at e1 e2 ⊢
      unfold sgn65
      by_cases c1 : f < 62
      · rw [if_pos c1, if_neg (by omega)]
      · by_cases c2 : f = 62
        · rw [if_neg c1, if_pos c2] at e2; exact absurd rfl e2
        · by_cases c3 : f = 63
          · rw [if_neg c1, if_neg c2, if_pos c3] at e1; exact absurd rfl e1
          · rw [if_neg c1, if_neg c2, if_neg c3, if_pos (by omega)]
theorem heard_lt {x y f : Int} (h0 : 0 ≤ f) (h1 : f < 64) : heardOf f (faceOf x y f) x y < 64 := by
  unfold heardOf
  (repeat' split) <;> omega
theorem face_heard {x y f : Int} (h0 : 0 ≤ f) (h1 : f < 64) : faceOf x y (heardOf f (faceOf x y f) x y) = faceOf x y f := by
  unfold heardOf
  by_cases e1 : faceOf x y f = y
  · rw [if_pos e1, e1]; rfl
  · rw [if_neg e1]
    by_cases e2 : faceOf x y f = x
    · rw [if_pos e2, e2]; rfl
    · rw [if_neg e2]
theorem sgn_ok {h : Int} (h0 : 0 ≤ h) (h1 : h < 64) : sgn h ≠ 61 ∧ b64v (sgn h) = h := by
  have all : ∀ n : Fin 64, sgn (n.val : Int) ≠ 61 ∧ b64v (sgn (n.val : Int)) = n.val := by decide +kernel
  have := all ⟨h.toNat, by omega⟩
  simp only [Int.toNat_of_nonneg h0] at this
  exact this
theorem filter_all {l : List Int} (h : ∀ a ∈ l, a < 64) : l.filter (fun a => decide (a < 64)) = l := by
  rw [List.filter_eq_self]
  intro a ha
  simp [h a ha]
theorem filter_none (n : Nat) : (List.replicate n (64 : Int)).filter (fun a => decide (a < 64)) = [] := by
  rw [List.filter_eq_nil_iff]
  intro a ha
  rw [(List.mem_replicate.1 ha).2]
  decide
theorem padded_of {hs : List Int} {p : Nat} (h : ∀ a ∈ hs, 0 ≤ a ∧ a < 64) (hp : (hs.length % 4 = 0 ∧ p = 0) ∨ (hs.length % 4 = 2 ∧ p = 2) ∨ (hs.length % 4 = 3 ∧ p = 1)) : Padded (hs.map sgn) p := by
  refine ⟨fun c hc => ?_, by rw [List.length_map]; exact hp⟩
  obtain ⟨a, ha, rfl⟩ := List.mem_map.1 hc
  obtain ⟨a0, a1⟩ := h a ha
  obtain ⟨s0, s1⟩ := sgn_ok a0 a1
  rw [s1]
  exact ⟨s0, a0, a1⟩
theorem b64v_sgn {hs : List Int} (h : ∀ a ∈ hs, 0 ≤ a ∧ a < 64) : (hs.map sgn).map b64v = hs := by
  rw [List.map_map]
  refine (List.map_congr_left fun a ha => ?_).trans (List.map_id hs)
  obtain ⟨a0, a1⟩ := h a ha
  exact (sgn_ok a0 a1).2
theorem sgn65_lt {hs : List Int} (h : ∀ a ∈ hs, a < 64) : hs.map sgn65 = hs.map sgn := by
  refine List.map_congr_left fun a ha => ?_
  have := h a ha
  unfold sgn65
  rw [if_neg (by omega)]
theorem shown_length (ks : List Int) : (shownOf ks).length = (ks.length + 2) / 3 * 4 := by
  unfold shownOf
  rw [List.length_append, List.length_replicate, figures_length]
  unfold padsOf
  have h : ks.length % 3 = 0 ∨ ks.length % 3 = 1 ∨ ks.length % 3 = 2 := by omega
  rcases h with h | h | h
  · rw [if_neg (by omega), if_neg (by omega)]; omega
  · rw [if_pos h]; omega
  · rw [if_neg (by omega), if_pos h]; omega
/-- what the decoder is given, and the figures that it finds -/
theorem dec_ok (x y : Int) {ks : List Int} (hk : ∀ k ∈ ks, 0 ≤ k ∧ k < 256) :
    ∃ cs p, (writtenOf x y ks).map (tr x y 43 47) = cs ++ List.replicate p 61 ∧ Padded cs p ∧ cs.map b64v = figs x y ks := by
  have hw : (writtenOf x y ks).map (tr x y 43 47) = (heardL x y (shownOf ks)).map sgn65 := by
    rw [written_eq x y hk, heardL, List.map_map, List.map_map]
    refine List.map_congr_left fun f hf => ?_
    have := shown_in hk f hf
    exact tr_back this.1 this.2
  have hh : ∀ a ∈ heardL x y (shownOf ks), 0 ≤ a ∧ a ≤ 64 := by
    intro a ha
    obtain ⟨f, hf, rfl⟩ := List.mem_map.1 ha
    have := shown_in hk f hf
    exact heard_in this.1 this.2
  by_cases e : ((61 : Int) = y ∨ (61 : Int) = x)
  · have hlt : ∀ a ∈ heardL x y (shownOf ks), a < 64 := by
      intro a ha
      obtain ⟨f, hf, rfl⟩ := List.mem_map.1 ha
      have := shown_in hk f hf
      by_cases hf64 : f = 64
      · subst hf64
        rw [face_64]
        unfold heardOf
        rcases e with e | e
        · rw [if_pos e]; decide
        · (repeat' split) <;> first | decide | omega
      · exact heard_lt this.1 (by omega)
    have hin : ∀ a ∈ heardL x y (shownOf ks), 0 ≤ a ∧ a < 64 := fun a ha => ⟨(hh a ha).1, hlt a ha⟩
    refine ⟨(heardL x y (shownOf ks)).map sgn, 0, ?_, padded_of hin (.inl ⟨?_, rfl⟩), ?_⟩
    · rw [hw, sgn65_lt hlt, List.replicate_zero, List.append_nil]
    · unfold heardL
      rw [List.length_map, shown_length]; omega
    · rw [b64v_sgn hin, figs, filter_all hlt]
  · have e1 : ¬ (61 : Int) = y := fun q => e (.inl q)
    have e2 : ¬ (61 : Int) = x := fun q => e (.inr q)
    have hsp : heardL x y (shownOf ks) = heardL x y (figures ks) ++ List.replicate (padsOf ks.length) 64 := by
      unfold heardL shownOf
      rw [List.map_append, List.map_replicate, face_64]
      congr 2
      unfold heardOf
      rw [if_neg e1, if_neg e2]
    have hlt : ∀ a ∈ heardL x y (figures ks), a < 64 := by
      intro a ha
      obtain ⟨f, hf, rfl⟩ := List.mem_map.1 ha
      have := figures_in hk f hf
      exact heard_lt this.1 this.2
    have hin : ∀ a ∈ heardL x y (figures ks), 0 ≤ a ∧ a < 64 := fun a ha => ⟨(hh a (hsp ▸ List.mem_append_left _ ha)).1, hlt a ha⟩
    refine ⟨(heardL x y (figures ks)).map sgn, padsOf ks.length, ?_, padded_of hin ?_, ?_⟩
    · rw [hw, hsp, List.map_append, sgn65_lt hlt, List.map_replicate]
      rfl
    · unfold heardL padsOf
      rw [List.length_map, figures_length]
      have h : ks.length % 3 = 0 ∨ ks.length % 3 = 1 ∨ ks.length % 3 = 2 := by omega
      rcases h with h | h | h
      · rw [if_neg (by omega), if_neg (by omega)]; omega
      · rw [if_pos h]; omega
      · rw [if_neg (by omega), if_pos h]; omega
    · rw [b64v_sgn hin, figs, hsp, List.filter_append, filter_all hlt, filter_none, List.append_nil]

theorem sixes_octs : ∀ hs : List Int, (∀ a ∈ hs, 0 ≤ a ∧ a < 64) → hs.length % 4 = 0 → sixes (octs hs) = hs
  | [], _, _ => rfl
  | [_], _, h => by simp at h
  | [_, _], _, h => by simp at h
  | [_, _, _], _, h => by simp at h
  | a :: b :: c :: d :: r, h, hl => by
    have h1 := h a (by simp)
    have h2 := h b (by simp)
    have h3 := h c (by simp)
    have h4 := h d (by simp)
    have ih := sixes_octs r (fun f hf => h f (by simp [hf])) (by simp only [List.length_cons] at hl; omega)
    simp only [octs, sixes, ih]
    have e1 : (a * 4 + b / 16) / 4 = a := by omega
    have e2 : (a * 4 + b / 16) % 4 * 16 + (b % 16 * 16 + c / 4) / 16 = b := by omega
    have e3 : (b % 16 * 16 + c / 4) % 16 * 4 + (c % 4 * 64 + d) / 64 = c := by omega
    have e4 : (c % 4 * 64 + d) % 64 = d := by omega
    rw [e1, e2, e3, e4]
theorem figs_in (x y : Int) {ks : List Int} (hk : ∀ k ∈ ks, 0 ≤ k ∧ k < 256) : ∀ a ∈ figs x y ks, 0 ≤ a ∧ a < 64 := by
  intro a ha
  obtain ⟨ha, hd⟩ := List.mem_filter.1 ha
  obtain ⟨f, hf, rfl⟩ := List.mem_map.1 ha
  have := shown_in hk f hf
  exact ⟨(heard_in this.1 this.2).1, by simpa using hd⟩
theorem figs_length (x y : Int) (ks : List Int) : (figs x y ks).length ≤ (ks.length + 2) / 3 * 4 := by
  refine Nat.le_trans (List.length_filter_le _ _) ?_
  unfold heardL
  rw [List.length_map, shown_length]
  exact Nat.le_refl _
/-- of whole threes what came is written as before -/
theorem enc_back (x y : Int) {ks : List Int} (hk : ∀ k ∈ ks, 0 ≤ k ∧ k < 256) (h3 : ks.length % 3 = 0) : writtenOf x y (octs (figs x y ks)) = writtenOf x y ks := by
  have hs : shownOf ks = figures ks := by
    unfold shownOf padsOf
    rw [if_neg (by omega), if_neg (by omega), List.replicate_zero, List.append_nil]
  have hlt : ∀ a ∈ heardL x y (figures ks), a < 64 := by
    intro a ha
    obtain ⟨f, hf, rfl⟩ := List.mem_map.1 ha
    have := figures_in hk f hf
    exact heard_lt this.1 this.2
  have hfg : figs x y ks = heardL x y (figures ks) := by rw [figs, hs, filter_all hlt]
  have hin := figs_in x y hk
  have hl4 : (figs x y ks).length % 4 = 0 := by
    rw [hfg]
    unfold heardL
    rw [List.length_map, figures_length]; omega
  have hol : (octs (figs x y ks)).length % 3 = 0 := by rw [octs_length]; omega
  rw [written_eq x y (octs_in _ hin), written_eq x y hk]
  have hso : shownOf (octs (figs x y ks)) = figs x y ks := by
    unfold shownOf figures padsOf
    rw [if_neg (by omega), if_neg (by omega), if_neg (by omega), if_neg (by omega), List.replicate_zero, List.append_nil, List.append_nil, sixes_octs _ hin hl4]
  rw [hso, hfg, hs, heardL, List.map_map]
  refine List.map_congr_left fun f hf => ?_
  have := figures_in hk f hf
  exact face_heard this.1 this.2
end Mine
end

section
open PySem PySem.W PyProof.Rows
namespace Mine
set_option maxRecDepth 100000
set_option maxHeartbeats 8000000
open_top hd for PySem.Challenge.rw_pa0019_01
end Mine
end

section
local macro_rules | `(tactic| walk_at "m pad 0") => `(tactic| skip)
open PySem PySem.W PyProof.Rows
namespace Mine
set_option maxRecDepth 100000
set_option maxHeartbeats 8000000

noncomputable abbrev lse : List Str := looseW hd.view_39 [Str.ofString "bytes_types", Str.ofString "a2b_base64", Str.ofString "b2a_base64", Str.ofString "b64encode", Str.ofString "b64decode"]

/-- what stands in h stands in g; kept away from the simplifier -/
structure Same (g h : Heap) : Prop where
  sub : ∀ b o, h.get? b = some o → g.get? b = some o
theorem Same.kept {g h h' : Heap} (x : Same g h) (k : ∀ b o, g.get? b = some o → h'.get? b = some o) : ∀ b o, h.get? b = some o → h'.get? b = some o := fun b o e => k b o (x.sub b o e)
theorem Same.none {g h : Heap} {a : Addr} (x : Same g h) (k : g.get? a = none) : h.get? a = none := by
  cases e : h.get? a with
  | none => rfl
  | some o => rw [x.sub a o e] at k; cases k
theorem Same.list {g h : Heap} (x : Same g h) {a : Addr} {vs : Array Value} (k : h.IsList a vs) : g.IsList a vs := k.at fun o e => x.sub a o e

/-- a call with these arguments: from any frame, with whatever objects made, it comes to the rest; what stood stands -/
abbrev Calls (w : World) (f : Addr) (vs : List Value) (kw : List (Str × Value)) (d u : Nat) (pre : Heap → Prop) (ret : Shared → (Value → Shared → Prop) → Prop) : Prop :=
  ∀ (mean : ExcName → Option Value) (mg mb : Str → Option Value) (dp un : Nat) (gd : Option (List Code)) (cn : Str) (cs : Scope) (a : Addr) (ccd : Value) (cl : List (Str × Addr)) (outer : List Env) (A₀ : Around) (base h₀ : Heap) (L : Addr) (m : Str → Option Value) (s : Shared) (Q E : Value → Shared → Prop),
    Below A₀ base outer h₀ → Fr h₀ L s.heap m → (hd.heap_39 w.params).In h₀ → Top hd.view_39 lse mean mg mb h₀ → cs.kind = .function →
    dp + d < recursionLimit → un + u < cLine → pre s.heap → ret s Q →
      wpAny (model PySem.Challenge.rw_pa0019_01.row.prog w) (ktrTop dp un gd cn cs L a ccd cl outer) (call (.ref f) vs kw) Q E s

/-- it gives back this value (but for its token) -/
abbrev retV (R : Tok → Value) : Shared → (Value → Shared → Prop) → Prop :=
  fun s Q => ∀ (t : Tok) (h' : Heap) (tk' : Nat), (∀ b o, s.heap.get? b = some o → h'.get? b = some o) → Q (R t) { s with heap := h', toks := tk' }
/-- it gives back a new list of these ints -/
abbrev retL (ns : List Int) : Shared → (Value → Shared → Prop) → Prop :=
  fun s Q => ∀ (a : Addr) (vs : List Value) (n : Nat) (h' : Heap) (tk' : Nat), (∀ b o, s.heap.get? b = some o → h'.get? b = some o) → s.heap.get? a = none → h'.get? a = some (listOf vs.toArray n) → IntsAre vs ns → Q (.ref a) { s with heap := h', toks := tk' }
abbrev noPre : Heap → Prop := fun _ => True

section
variable {w : World} {f : Addr} {vs : List Value} {kw : List (Str × Value)} {d u : Nat} {pre : Heap → Prop} {mean : ExcName → Option Value} {mg mb : Str → Option Value} {dp un : Nat} {gd : Option (List Code)} {cn : Str} {cs : Scope} {a : Addr} {ccd : Value} {cl : List (Str × Addr)} {outer : List Env} {A₀ : Around} {base h₀ : Heap} {L : Addr} {m : Str → Option Value} {s : Shared} {Q E : Value → Shared → Prop} {news : List (Addr × Obj)}
theorem useV {R : Tok → Value} (C : Calls w f vs kw d u pre (retV R))
    (B : Below A₀ base outer h₀) (F : Fr h₀ L s.heap m) (X : (hd.heap_39 w.params).In h₀) (N : News h₀ L s.heap news) (T : Top hd.view_39 lse mean mg mb h₀) (hk : cs.kind = .function)
    (hd : dp + d < recursionLimit) (hu : un + u < cLine) (hp : pre s.heap) (r : ∀ (t : Tok) (h' : Heap) (tk' : Nat), Fr h₀ L h' m → News h₀ L h' news → Q (R t) { s with heap := h', toks := tk' }) :
    wpAny (model PySem.Challenge.rw_pa0019_01.row.prog w) (ktrTop dp un gd cn cs L a ccd cl outer) (call (.ref f) vs kw) Q E s :=
  C mean mg mb dp un gd cn cs a ccd cl outer A₀ base h₀ L m s Q E B F X T hk hd hu hp fun t h' tk' k => r t h' tk' (F.keptAll k) (N.grown k)
theorem useL {ns : List Int} (C : Calls w f vs kw d u pre (retL ns))
    (B : Below A₀ base outer h₀) (F : Fr h₀ L s.heap m) (X : (hd.heap_39 w.params).In h₀) (N : News h₀ L s.heap news) (T : Top hd.view_39 lse mean mg mb h₀) (hk : cs.kind = .function)
    (hd : dp + d < recursionLimit) (hu : un + u < cLine) (hp : pre s.heap) (r : ∀ (a : Addr) (vs : List Value) (n : Nat) (h' : Heap) (tk' : Nat), Fr h₀ L h' m → News h₀ L h' ((a, listOf vs.toArray n) :: news) → IntsAre vs ns → Q (.ref a) { s with heap := h', toks := tk' }) :
    wpAny (model PySem.Challenge.rw_pa0019_01.row.prog w) (ktrTop dp un gd cn cs L a ccd cl outer) (call (.ref f) vs kw) Q E s :=
  C mean mg mb dp un gd cn cs a ccd cl outer A₀ base h₀ L m s Q E B F X T hk hd hu hp fun b vs n h' tk' k hn hb hi => r b vs n h' tk' (F.keptAll k) (fun p hp => by
    rcases List.mem_cons.mp hp with rfl | hp
    · refine ⟨hb, ?_, ?_⟩
      · rintro rfl
        obtain ⟨oL, _, _, hL, _⟩ := F.ns
        rw [hL] at hn; cases hn
      · cases q : h₀.get? b with
        | none => rfl
        | some o => rw [F.keep _ _ q] at hn; cases hn
    · exact N.grown k p hp) hi
end

theorem code_defP {prog : Program} {w : World} {A A₀ : Around} {s : Shared} {K : Frag} {L : Addr} {h₀ base : Heap} {m mg mb : Str → Option Value} {p : Program} {loose : List Str} {mean : ExcName → Option Value} {env : Env} {outer : List Env} {R : Result → Shared → Prop} {name qual : Str} {params : Arguments} {body : List Stmt} {scope : Scope} {dV kV doc pm cdv ct oc : Value} {an od : Option Addr} {osl : Array (Option Value)} {f : Addr} {args : Args} {binds : List (Str × Value)}
    (B : Below A₀ base outer h₀) (F : Fr h₀ L s.heap m) (X₀ : K.In h₀) (T : Top p loose mean mg mb h₀) (hA : A.frames = some (env :: outer)) (hf : env.frame = some L) (hke : env.scope.kind = .function)
    (ho : K.lookup f = some ⟨oc, od, .func (fnOf name qual params body scope dV kV doc pm an cdv ct), osl⟩) (hcd : codeIn K cdv qual = true) (hroom : A.depth < recursionLimit)
    (hbind : BindsTo s (fnOf name qual params body scope dV kV doc pm an cdv ct) args binds) (hloc : ∀ y ∈ binds, scope.names.lookup y.1 = some .local)
    (h : ∀ g L' h₁, Same g s.heap → Fr g L' h₁ (fun y => binds.reverse.lookup y) → News g L' h₁ [] → Below A base (env :: outer) g → K.In g → Top p loose mean mg mb g →
      wpAny (model prog w) (A.deeper (envOf qual scope L' f cdv)) (execs body (envOf qual scope L' f cdv))
        (fun fl s' => LeaveK h₀ L m g R (match fl with | .ret v => v | _ => .none) s')
        (fun e s' => wpAny (model prog w) (A.deeper (envOf qual scope L' f cdv)) (leaving (envOf qual scope L' f cdv) e) (fun _ s'' => R (.error e) s'') (fun e' s'' => R (.error e') s'') s')
        { s with heap := h₁, toks := s.toks + binds.length })
    (hco : scope.isCoroutine = false) (hgen : scope.isGenerator = false) (hk : scope.kind = .function)
    (hcell : ∀ x ∈ scope.names, x.2 ≠ .cell) : codeAny (model prog w) A (.call (.ref f) args) R s := by
  refine code_defG B F X₀ News.nil T hA hf hke ho hcd hroom hbind hloc (fun g L' h₁ _ F' N' B' X' T' S => ?_) hco hgen hk hcell
  exact h g L' h₁ ⟨fun b o e => S b o e List.not_mem_nil⟩ F' N' B' X' T'

/-- a return: this value -/
theorem retV_end {g h' : Heap} {L' : Addr} {m' : Str → Option Value} {s : Shared} {Q : Value → Shared → Prop} {R : Tok → Value} {v : Value} {tk' : Nat} (hret : retV R s Q) (G : Same g s.heap) (F : Fr g L' h' m') (e : ∃ t, v = R t) :
    Q v { s with heap := h', toks := tk' } := by
  obtain ⟨t, rfl⟩ := e
  exact hret t h' tk' (G.kept F.keep)
theorem retL_end {g h' : Heap} {L' a : Addr} {m' : Str → Option Value} {s : Shared} {Q : Value → Shared → Prop} {ns : List Int} {vs : List Value} {n tk' : Nat} {news : List (Addr × Obj)} (hret : retL ns s Q) (G : Same g s.heap) (F : Fr g L' h' m') (N : News g L' h' news) (hm : (a, listOf vs.toArray n) ∈ news) (hi : IntsAre vs ns) :
    Q (.ref a) { s with heap := h', toks := tk' } :=
  hret a vs n h' tk' (G.kept F.keep) (G.none (N _ hm).2.2) (N _ hm).1 hi

local macro_rules | `(tactic| walk_at "call type:type") => `(tactic| (k_here; (with_reducible show wpAny _ _ (call (Value.type "type") [Value.bytes _ _]) _ _ _); refine call_type_of (typeIs_bytes _ _ _) (by decide +kernel) ?_))
theorem c_b64_value (w : World) (c : Int) (t : Tok) : Calls w 70 [.int c t] [] 1 8 noPre (retV fun t => .int (b64v c) t) := by
  w_top off
  unfold Calls
  k_fill
  intro mean mg mb dp un gd cn cs a ccd cl outer A₀ base h₀ L m s Q E B F X T hk hd hu hp hret
  refine wpAny_call ?_
  k_dflt (refine' code_defP (binds := [(Str.ofString "c", Value.int c t)]) ?k1 ?k2 ?k3 ?k5 ?kA ?kF ?kK ?k6 ?k7 ?k8 ?k9 ?kB ?_ ?c2 ?c3 ?c4 ?c5)
  k_dflt (((case kA => exact rfl); (case kF => exact rfl); (case kK => assumption); (case k1 => k_asm); (case k2 => k_asm); (case k3 => k_asm); (case k5 => k_asm); (case k6 => k_is); (case k7 => k_is); (case k8 => ktr_room); (case k9 => first | exact BindsTo.of_eq rfl | with_unfolding_all exact BindsTo.of_eq rfl | exact BindsTo.of_eq (by kernel_rfl)); (case c5 => decide); (case kB => exact locs rfl); (case c2 => exact rfl); (case c3 => exact rfl); (case c4 => exact rfl); k_whole; intro g' L' h' G' F' N' B' X' T'; (try dsimp only); (try k_fold)))
  k_steps
  all_goals (((refine retV_end (by assumption) (by assumption) (by assumption) ?_)); refine ktn_int ?_; first | exact b64v_A (by omega) | exact b64v_B (by omega) | exact b64v_C (by omega) | exact b64v_D (by omega) | exact b64v_E (by omega) | exact b64v_F (by omega) (by omega) (by omega) (by omega) (by omega))
theorem c_truth (w : World) (b : Bool) : Calls w 63 [.bool b] [] 1 8 noPre (retV fun _ => .bool b) := by
  w_top off
  unfold Calls
  k_fill
  intro mean mg mb dp un gd cn cs a ccd cl outer A₀ base h₀ L m s Q E B F X T hk hd hu hp hret
  refine wpAny_call ?_
  k_dflt (refine' code_defP (binds := [(Str.ofString "x", Value.bool b)]) ?k1 ?k2 ?k3 ?k5 ?kA ?kF ?kK ?k6 ?k7 ?k8 ?k9 ?kB ?_ ?c2 ?c3 ?c4 ?c5)
  k_dflt (((case kA => exact rfl); (case kF => exact rfl); (case kK => assumption); (case k1 => k_asm); (case k2 => k_asm); (case k3 => k_asm); (case k5 => k_asm); (case k6 => k_is); (case k7 => k_is); (case k8 => ktr_room); (case k9 => first | exact BindsTo.of_eq rfl | with_unfolding_all exact BindsTo.of_eq rfl | exact BindsTo.of_eq (by kernel_rfl)); (case c5 => decide); (case kB => exact locs rfl); (case c2 => exact rfl); (case c3 => exact rfl); (case c4 => exact rfl); k_whole; intro g' L' h' G' F' N' B' X' T'; (try dsimp only); (try k_fold)))
  k_steps
  all_goals (((refine retV_end (by assumption) (by assumption) (by assumption) ?_)); refine ⟨0, ?_⟩; simp_all)
theorem c_buffer (w : World) (b : Array UInt8) (t : Tok) : Calls w 56 [.bytes b t] [] 1 8 noPre (retV fun t => .bytes b t) := by
  w_top off
  unfold Calls
  k_fill
  intro mean mg mb dp un gd cn cs a ccd cl outer A₀ base h₀ L m s Q E B F X T hk hd hu hp hret
  refine wpAny_call ?_
  k_dflt (refine' code_defP (binds := [(Str.ofString "data", Value.bytes b t)]) ?k1 ?k2 ?k3 ?k5 ?kA ?kF ?kK ?k6 ?k7 ?k8 ?k9 ?kB ?_ ?c2 ?c3 ?c4 ?c5)
  k_dflt (((case kA => exact rfl); (case kF => exact rfl); (case kK => assumption); (case k1 => k_asm); (case k2 => k_asm); (case k3 => k_asm); (case k5 => k_asm); (case k6 => k_is); (case k7 => k_is); (case k8 => ktr_room); (case k9 => first | exact BindsTo.of_eq rfl | with_unfolding_all exact BindsTo.of_eq rfl | exact BindsTo.of_eq (by kernel_rfl)); (case c5 => decide); (case kB => exact locs rfl); (case c2 => exact rfl); (case c3 => exact rfl); (case c4 => exact rfl); k_whole; intro g' L' h' G' F' N' B' X' T'; (try dsimp only); (try k_fold)))
  k_steps
  all_goals (((refine retV_end (by assumption) (by assumption) (by assumption) ?_)); exact ⟨_, rfl⟩)
theorem c_ascii_buffer (w : World) (b : Array UInt8) (t : Tok) : Calls w 49 [.bytes b t] [] 1 8 noPre (retV fun t => .bytes b t) := by
  w_top off
  unfold Calls
  k_fill
  intro mean mg mb dp un gd cn cs a ccd cl outer A₀ base h₀ L m s Q E B F X T hk hd hu hp hret
  refine wpAny_call ?_
  k_dflt (refine' code_defP (binds := [(Str.ofString "data", Value.bytes b t)]) ?k1 ?k2 ?k3 ?k5 ?kA ?kF ?kK ?k6 ?k7 ?k8 ?k9 ?kB ?_ ?c2 ?c3 ?c4 ?c5)
  k_dflt (((case kA => exact rfl); (case kF => exact rfl); (case kK => assumption); (case k1 => k_asm); (case k2 => k_asm); (case k3 => k_asm); (case k5 => k_asm); (case k6 => k_is); (case k7 => k_is); (case k8 => ktr_room); (case k9 => first | exact BindsTo.of_eq rfl | with_unfolding_all exact BindsTo.of_eq rfl | exact BindsTo.of_eq (by kernel_rfl)); (case c5 => decide); (case kB => exact locs rfl); (case c2 => exact rfl); (case c3 => exact rfl); (case c4 => exact rfl); k_whole; intro g' L' h' G' F' N' B' X' T'; (try dsimp only); (try k_fold)))
  k_steps
  all_goals (((refine retV_end (by assumption) (by assumption) (by assumption) ?_)); exact ⟨_, rfl⟩)
theorem c_from_decode (w : World) (b : Array UInt8) (t : Tok) : Calls w 29 [.bytes b t] [] 1 8 noPre (retV fun t => .bytes b t) := by
  w_top off
  unfold Calls
  k_fill
  intro mean mg mb dp un gd cn cs a ccd cl outer A₀ base h₀ L m s Q E B F X T hk hd hu hp hret
  refine wpAny_call ?_
  k_dflt (refine' code_defP (binds := [(Str.ofString "s", Value.bytes b t)]) ?k1 ?k2 ?k3 ?k5 ?kA ?kF ?kK ?k6 ?k7 ?k8 ?k9 ?kB ?_ ?c2 ?c3 ?c4 ?c5)
  k_dflt (((case kA => exact rfl); (case kF => exact rfl); (case kK => assumption); (case k1 => k_asm); (case k2 => k_asm); (case k3 => k_asm); (case k5 => k_asm); (case k6 => k_is); (case k7 => k_is); (case k8 => ktr_room); (case k9 => first | exact BindsTo.of_eq rfl | with_unfolding_all exact BindsTo.of_eq rfl | exact BindsTo.of_eq (by kernel_rfl)); (case c5 => decide); (case kB => exact locs rfl); (case c2 => exact rfl); (case c3 => exact rfl); (case c4 => exact rfl); k_whole; intro g' L' h' G' F' N' B' X' T'; (try dsimp only); (try k_fold)))
  k_steps
  all_goals (((refine retV_end (by assumption) (by assumption) (by assumption) ?_)); exact ⟨_, rfl⟩)
end Mine
end

section
open PySem PySem.W PyProof.Rows Mine
local macro_rules | `(tactic| walk_at "m ask") => `(tactic| ((case k1 => k_asm); (case k2 => k_asm); (case k3 => k_asm); (case k4 => k_asm); (case k5 => k_asm); (case kK => first | exact rfl | assumption); (case kd => ktr_room); (case ku => ktr_units)))

section
open PySem PySem.W PyProof.Rows
namespace Mine
set_option maxRecDepth 100000
set_option maxHeartbeats 8000000
local macro_rules | `(tactic| walk_at "call ref") => `(tactic| (k_here; (with_reducible show wpAny _ _ (call (Value.ref 49) [Value.bytes _ _]) _ _ _); k_dflt (refine' useV (c_ascii_buffer _ _ _) ?k1 ?k2 ?k3 ?k4 ?k5 ?kK ?kd ?ku trivial ?_); walk_at "m ask"; intro t9 h9 tk9 F9 N9; (try dsimp only); (try k_fold)))
local macro_rules | `(tactic| walk_at "call ref") => `(tactic| (k_here; (with_reducible show wpAny _ _ (call (Value.ref 63) [Value.bool _]) _ _ _); k_dflt (refine' useV (c_truth _ _) ?k1 ?k2 ?k3 ?k4 ?k5 ?kK ?kd ?ku trivial ?_); walk_at "m ask"; intro t9 h9 tk9 F9 N9; (try dsimp only); (try k_fold)))
local macro_rules | `(tactic| walk_at "call ref") => `(tactic| (k_here; (with_reducible show wpAny _ _ (call (Value.ref 70) [Value.int _ _]) _ _ _); k_dflt (refine' useV (c_b64_value _ _ _) ?k1 ?k2 ?k3 ?k4 ?k5 ?kK ?kd ?ku trivial ?_); walk_at "m ask"; intro t9 h9 tk9 F9 N9; (try dsimp only); (try k_fold)))
theorem c_a2b (w : World) (b : Array UInt8) (t : Tok) (cs : List Int) (p : Nat) (hb : KBw.bInts b = cs ++ List.replicate p 61) (H : Padded cs p) (hz : (cs ++ List.replicate p 61).length ≤ 1000) (st : Bool) : Calls w 78 [.bytes b t] [(Str.ofString "strict_mode", .bool st)] 2 20 noPre (retV fun t => .bytes (byteArr (octs (cs.map b64v))) t) := by
  w_top off
  unfold Calls
  k_fill
  intro mean mg mb dp un gd cn csc a ccd cl outer A₀ base h₀ L m s Q E B F X T hk hd hu hp hret
  obtain ⟨ks, hks⟩ : ∃ ks, ks = cs ++ List.replicate p 61 := ⟨_, rfl⟩
  rw [← hks] at hb hz
  refine wpAny_call ?_
  k_dflt (refine' code_defP (binds := [(Str.ofString "data", Value.bytes b t), (Str.ofString "strict_mode", Value.bool st)]) ?k1 ?k2 ?k3 ?k5 ?kA ?kF ?kK ?k6 ?k7 ?k8 ?k9 ?kB ?_ ?c2 ?c3 ?c4 ?c5)
  k_dflt (((case kA => exact rfl); (case kF => exact rfl); (case kK => assumption); (case k1 => k_asm); (case k2 => k_asm); (case k3 => k_asm); (case k5 => k_asm); (case k6 => k_is); (case k7 => k_is); (case k8 => ktr_room); (case k9 => first | exact BindsTo.of_eq rfl | with_unfolding_all exact BindsTo.of_eq rfl | exact BindsTo.of_eq (by kernel_rfl)); (case c5 => decide); (case kB => exact locs rfl); (case c2 => exact rfl); (case c3 => exact rfl); (case c4 => exact rfl); k_whole; intro g' L' h' G' F' N' B' X' T'; (try dsimp only); (try k_fold)))
  have hI0 : IntsAre ([] : List Value) ([] : List Int) := .nil
  k_steps
  have hP0 := a2b_start (cs := cs) (p := p)
  k_state (fun pre out q l pads i => A2b cs p pre out q l pads) "out" "quad_pos" "leftchar" "pads" "i"
  · (k_with "state" => first | assumption | exact a2b_as (by assumption) (by rw [or1 (by assumption) (by assumption) (by assumption)]) (by first | rfl | exact bitAnd_m4 _ | exact bitAnd_m2 _) | exact a2b_as (by assumption) (by rw [or2 (by assumption) (by assumption) (by assumption)]) (by first | rfl | exact bitAnd_m4 _ | exact bitAnd_m2 _) | exact a2b_as (by assumption) (by rw [or3 (by assumption) (by assumption) (by assumption)]) (by first | rfl | exact bitAnd_m4 _ | exact bitAnd_m2 _))
    rename_i kC
    rcases a2b_turn H hks (by assumption) kEq with ⟨h1, h2, h3, rfl, rfl, h4, h9⟩ | ⟨h1, h2, h3, rfl, rfl, h4, h5, h6, h9⟩ | ⟨h1, h2, h3, rfl, rfl, h4, h5, h6, h9⟩ | ⟨h1, h2, h3, rfl, rfl, h4, h5, h6, h9⟩ | ⟨rfl, h2, h3, h4, h5, h6, h9⟩
    · k_steps
      all_goals try (exfalso; contradiction)
    · k_steps
      all_goals try (exfalso; contradiction)
    · k_steps
      all_goals try (exfalso; contradiction)
    · k_steps
      all_goals try (exfalso; contradiction)
    · k_steps
      all_goals try (exfalso; contradiction)
  · obtain ⟨hq, rfl⟩ := a2b_done H hks (by assumption)
    have hIn : KBa.In (octs (cs.map b64v)) := a2b_in H
    have hOl := octs_length (cs.map b64v)
    have hKl := congrArg List.length hks
    simp only [List.length_append, List.length_replicate, List.length_map] at hKl hOl
    rcases hq with ⟨rfl, rfl⟩ | ⟨rfl, rfl⟩ | ⟨rfl, rfl⟩
    all_goals k_steps
    all_goals (((refine retV_end (by assumption) (by assumption) (by assumption) ?_)); exact ⟨_, rfl⟩)
end Mine
end

section
open PySem PySem.W PyProof.Rows
namespace Mine
set_option maxRecDepth 100000
set_option maxHeartbeats 8000000
local macro_rules | `(tactic| walk_at "call ref") => `(tactic| (k_here; (with_reducible show wpAny _ _ (call (Value.ref 56) [Value.bytes _ _]) _ _ _); k_dflt (refine' useV (c_buffer _ _ _) ?k1 ?k2 ?k3 ?k4 ?k5 ?kK ?kd ?ku trivial ?_); walk_at "m ask"; intro t9 h9 tk9 F9 N9; (try dsimp only); (try k_fold)))
local macro_rules | `(tactic| walk_at "call ref") => `(tactic| (k_here; (with_reducible show wpAny _ _ (call (Value.ref 63) [Value.bool _]) _ _ _); k_dflt (refine' useV (c_truth _ _) ?k1 ?k2 ?k3 ?k4 ?k5 ?kK ?kd ?ku trivial ?_); walk_at "m ask"; intro t9 h9 tk9 F9 N9; (try dsimp only); (try k_fold)))
theorem b64_item {prog : Program} {w : World} {A : Around} {E : Value → Shared → Prop} {s : Shared} {b : Array UInt8} {t ui : Tok} {i : Int} {value slice : PySem.Expr} {Q : Value → Shared → Prop} (hb : KBw.bInts b = alpha) (h0 : 0 ≤ i) (h1 : i < 64)
    (h : ∀ t' k, Q (.int (sgn i) t') { s with toks := k })
    (hs : subscripted slice false (.bytes b t) (.int i ui) = operate [.bytes b t, .int i ui] (getItem (.bytes b t) (.int i ui)) := by with_unfolding_all rfl)
    (ht : ∀ r, letTemporaryGo value (.bytes b t) r = pure () := by intro _; with_unfolding_all rfl) : wpAny (model prog w) A (subscriptTail value slice (.bytes b t) (.int i ui)) Q E s :=
  KBw.item_K hb (by decide) h0 (by show i < 64; exact h1) (fun t' k _ _ => by rw [alpha_sgn h0 h1]; exact h t' k) hs ht
local macro_rules | `(tactic| walk_at "m idx") => `(tactic| first | (rw [bitAnd_m6]; omega) | (rw [bitAnd_m2]; simp only [show Int.toNat 4 = 4 from rfl]; omega) | (rw [bitAnd_m4]; simp only [show Int.toNat 2 = 2 from rfl]; omega))
local macro_rules | `(tactic| walk_at "subscriptTail") => `(tactic| (k_here; (with_reducible show wpAny _ _ (subscriptTail (Expr.Name (Str.ofString "_B64") _) _ (Value.bytes _ _) (Value.int _ _)) _ _ _); refine b64_item (by kernel_rfl) (by walk_at "m idx") (by walk_at "m idx") ?_; intro _ _))
theorem c_b2a (w : World) (b : Array UInt8) (t : Tok) (ks : List Int) (hb : KBw.bInts b = ks) (hz : ks.length ≤ 1000) : Calls w 86 [.bytes b t] [(Str.ofString "newline", .bool false)] 2 20 noPre (retV fun t => .bytes (byteArr (encoded ks)) t) := by
  w_top off
  unfold Calls
  k_fill
  intro mean mg mb dp un gd cn csc a ccd cl outer A₀ base h₀ L m s Q E B F X T hk hd hu hp hret
  refine wpAny_call ?_
  k_dflt (refine' code_defP (binds := [(Str.ofString "data", Value.bytes b t), (Str.ofString "newline", Value.bool false)]) ?k1 ?k2 ?k3 ?k5 ?kA ?kF ?kK ?k6 ?k7 ?k8 ?k9 ?kB ?_ ?c2 ?c3 ?c4 ?c5)
  k_dflt (((case kA => exact rfl); (case kF => exact rfl); (case kK => assumption); (case k1 => k_asm); (case k2 => k_asm); (case k3 => k_asm); (case k5 => k_asm); (case k6 => k_is); (case k7 => k_is); (case k8 => ktr_room); (case k9 => first | exact BindsTo.of_eq rfl | with_unfolding_all exact BindsTo.of_eq rfl | exact BindsTo.of_eq (by kernel_rfl)); (case c5 => decide); (case kB => exact locs rfl); (case c2 => exact rfl); (case c3 => exact rfl); (case c4 => exact rfl); k_whole; intro g' L' h' G' F' N' B' X' T'; (try dsimp only); (try k_fold)))
  have hI0 : IntsAre ([] : List Value) ([] : List Int) := .nil
  repeat' (((fail_if_success (with_reducible show wpAny _ _ (pyIter (Value.bytes _ _)) _ _ _)); (first | (k_unfold; (try dsimp only)) | (k_end; wrow_close) | walk1 | (dsimp only; walk1) | (leave1; walk_say "STEP leave1"; try dsimp only))))
  have hP0 := b2a_start
  k_state (fun pre out lb lc => B2a pre out lb lc) "out" "leftbits" "leftchar"
  · (k_with "state" => exact b2a_as (by assumption) (by simp only [idxA, idxB, idxC, idxD, bitAnd_m16, or8 h1 kLo kHi]) (by rfl) (by rw [bitAnd_m16, or8 h1 kLo kHi]))
    rcases b2a_turn (by assumption) kLo kHi with ⟨rfl, h1, h2, h3, h9⟩ | ⟨rfl, h1, h2, h3, h9⟩ | ⟨rfl, h1, h2, h3, h9⟩
    · k_steps
    · k_steps
    · k_steps
  · have hin : KBa.In (encoded ks) := encoded_in fun f hf => KBw.ints_in (hb ▸ hf)
    obtain ⟨h1, h2, h3, ⟨h5, h6, h7, h8⟩, ⟨rfl, h4⟩ | ⟨rfl, h4⟩ | ⟨rfl, h4⟩⟩ := b2a_done (by assumption)
    all_goals (rw [h4] at hin hret)
    · k_steps
      all_goals (((refine retV_end (by assumption) (by assumption) (by assumption) ?_)); exact ⟨_, rfl⟩)
    · k_steps
      (rename News _ _ _ _ => nE'); (simp only [List.push_toArray] at nE')
      k_dflt (refine' KBa.make_K ?kbaF ?kbaN ?kbah ?kbal ?kbai hin ?kban ?_; (case kbaF => k_asm); (case kbaN => exact nE'); (case kbah => rfl); (case kbal => exact News.isList nE' (by k_mem)); (case kbai => exact IntsAre.append (IntsAre.append (IntsAre.append (by assumption) (.cons _ _ .nil)) (.cons _ _ .nil)) (.cons _ _ .nil)); (case kban => (simp only [List.length_append, List.length_cons, List.length_nil]; omega)))
      intro _ _ _ F' N' kbaIn
      k_steps
      all_goals (((refine retV_end (by assumption) (by assumption) (by assumption) ?_)); exact ⟨_, rfl⟩)
    · k_steps
      (rename News _ _ _ _ => nE'); (simp only [List.push_toArray] at nE')
      k_dflt (refine' KBa.make_K ?kbaF ?kbaN ?kbah ?kbal ?kbai hin ?kban ?_; (case kbaF => k_asm); (case kbaN => exact nE'); (case kbah => rfl); (case kbal => exact News.isList nE' (by k_mem)); (case kbai => exact IntsAre.append (IntsAre.append (by assumption) (.cons _ _ .nil)) (.cons _ _ .nil)); (case kban => (simp only [List.length_append, List.length_cons, List.length_nil]; omega)))
      intro _ _ _ F' N' kbaIn
      k_steps
      all_goals (((refine retV_end (by assumption) (by assumption) (by assumption) ?_)); exact ⟨_, rfl⟩)
end Mine
end

section
open PySem PySem.W PyProof.Rows PySem.Calls PySem.Spec
namespace Mine
set_option maxRecDepth 100000
set_option maxHeartbeats 8000000
theorem code_defCP {prog : Program} {w : World} {A A₀ : Around} {s : Shared} {K : Frag} {L : Addr} {h₀ base : Heap} {m mg mb : Str → Option Value} {p : Program} {loose : List Str} {mean : ExcName → Option Value} {env : Env} {outer : List Env} {R : Result → Shared → Prop} {name qual : Str} {params : Arguments} {body : List Stmt} {scope : Scope} {dV kV doc pm cdv ct oc : Value} {an od : Option Addr} {osl : Array (Option Value)} {f : Addr} {args : Args} {binds : List (Str × Value)}
    (B : Below A₀ base outer h₀) (F : Fr h₀ L s.heap m) (X₀ : K.In h₀) (T : Top p loose mean mg mb h₀) (hA : A.frames = some (env :: outer)) (hf : env.frame = some L) (hke : env.scope.kind = .function)
    (ho : K.lookup f = some ⟨oc, od, .func (fnOf name qual params body scope dV kV doc pm an cdv ct), osl⟩) (hcd : codeIn K cdv qual = true) (hroom : A.depth < recursionLimit)
    (hbind : BindsTo s (fnOf name qual params body scope dV kV doc pm an cdv ct) args binds) (hkind : (binds.all fun y => scope.names.lookup y.1 == some .local || scope.names.lookup y.1 == some .cell) = true)
    (hnd : ((cellsFrom 0 scope.names []).map (·.1)).Nodup)
    (h : ∀ g L' h₁ tk cells, Same g s.heap → Fr g L' h₁ (bindL (envOfC qual scope L' f cdv).kindOf binds fun _ => none) → News g L' h₁ cells →
      CellsAre (bindC (envOfC qual scope L' f cdv).kindOf binds fun _ => none) (cellsFrom (L' + 1) scope.names []) cells → Below A base (env :: outer) g → K.In g → Top p loose mean mg mb g →
      wpAny (model prog w) (A.deeper (envOfC qual scope L' f cdv)) (execs body (envOfC qual scope L' f cdv))
        (fun fl s' => LeaveK h₀ L m g R (match fl with | .ret v => v | _ => .none) s')
        (fun e s' => wpAny (model prog w) (A.deeper (envOfC qual scope L' f cdv)) (leaving (envOfC qual scope L' f cdv) e) (fun _ s'' => R (.error e) s'') (fun e' s'' => R (.error e') s'') s')
        { s with heap := h₁, toks := tk })
    (hco : scope.isCoroutine = false) (hgen : scope.isGenerator = false) (hk : scope.kind = .function) : codeAny (model prog w) A (.call (.ref f) args) R s := by
  obtain ⟨FG, BG, st, lv⟩ := groundX (R := R) B F News.nil hA hf hke
  refine codeAny_call_function (fd := fnOf name qual params body scope dV kV doc pm an cdv ct) hroom ((X₀.keeps F.keep) _ _ ho) rfl hco hgen rfl (codeRec_of (X₀.keeps F.keep) hcd) (hbind _ _ _ _ ?_)
  refine wpAny_newFunctionEnv_cells hk ((kindsX hkind) _) fun env' he s' x => ?_
  subst he
  refine ⟨((T.nolimit).keeps F.keep).keeps x.toInCall.keep, codeAny_func ?_⟩
  obtain ⟨h₁, tk, rfl, _⟩ := x.done
  have hk₁ := x.toInCall.keep
  obtain ⟨cells, NC, Y⟩ := Cl.news (h₀ := s.heap) (Nat.le_refl _) fun n c hm => ⟨x.cell n c (lookup_of_mem_nodup (cellsFrom_names scope.names 0 (s.heap.objs.size + 1) [] [] rfl ▸ hnd) hm), x.above n c hm⟩
  exact wpAny_mono (h s.heap s.heap.objs.size h₁ tk cells ⟨fun _ _ e => e⟩ ⟨x.toInCall.ns, hk₁, Nat.le_refl _⟩ NC Y BG (X₀.keeps st) (T.keeps st)) (fun fl s' hl => lv _ _ hl) fun _ _ y => y

theorem noPy {a B : Int} {n : Nat} (h0 : 0 < B) (h1 : B ≤ 256) (hn : n ≤ 1000) : Builtin.divisionGoesByPylong a (B ^ n) = false := by
  obtain ⟨b, rfl⟩ := Int.eq_ofNat_of_zero_le (Int.le_of_lt h0)
  refine PyProof.noPylong_of_log2 ?_
  have e : ((b : Int) ^ n).natAbs = b ^ n := by rw [Int.natAbs_pow, Int.natAbs_natCast]
  rw [e]
  have hb : b ^ n ≤ 2 ^ (8 * n) := by
    rw [Nat.pow_mul]
    exact Nat.pow_le_pow_left (by omega) n
  have hb0 : b ^ n ≠ 0 := by
    have := Nat.pow_pos (n := n) (show 0 < b by omega)
    omega
  refine (Nat.log2_lt hb0).2 (Nat.lt_of_le_of_lt hb ?_)
  exact Nat.pow_lt_pow_right (by decide) (by omega)
theorem pow_ne {B : Int} {n : Nat} (h0 : 0 < B) : B ^ n ≠ 0 := by
  exact Int.ne_of_gt (Int.pow_pos h0)
section
variable {prog : Program} {w : World} {A : Around} {E : Value → Shared → Prop} {s : Shared} {a B : Int} {n : Nat} {t u : Tok} {Q : Value → Shared → Prop}
theorem idiv_pow (h0 : 0 < B) (h1 : B ≤ 256) (hn : n ≤ 1000) (h : Q (.int (a.fdiv (B ^ n)) s.toks) { s with toks := s.toks + 1 }) : wpAny (model prog w) A (inplaceOp .FloorDiv (.int a t) (.int (B ^ n) u)) Q E s :=
  ifloordiv_int (pow_ne h0) h (.inl (noPy h0 h1 hn))
theorem div_pow (h0 : 0 < B) (h1 : B ≤ 256) (hn : n ≤ 1000) (h : Q (.int (a.fdiv (B ^ n)) s.toks) { s with toks := s.toks + 1 }) : wpAny (model prog w) A (binaryOp .FloorDiv (.int a t) (.int (B ^ n) u)) Q E s :=
  floordiv_int (pow_ne h0) h (.inl (noPy h0 h1 hn))
end

theorem bits_two {n : Nat} (h : n < 8) : Builtin.Int.intBits ((2 : Int) ^ n) ≤ 64 := by
  have all : ∀ n : Fin 8, Builtin.Int.intBits ((2 : Int) ^ n.val) ≤ 64 := by decide +kernel
  exact all ⟨n, h⟩
theorem imul_two {prog : Program} {w : World} {A : Around} {E : Value → Shared → Prop} {s : Shared} {a : Int} {n : Nat} {t u : Tok} {Q : Value → Shared → Prop} (hn : n < 8) (h : Q (.int (a * 2 ^ n) s.toks) { s with toks := s.toks + 1 }) : wpAny (model prog w) A (inplaceOp .Mult (.int a t) (.int (2 ^ n) u)) Q E s :=
  imul_int h (IntMulOk.of_right (bits_two hn))

/-- a loop whose turn changes one cell's int -/
noncomputable def CellJ (c : Addr) (x : Str) (m₀ : Str → Option Value) (g : Nat → Int) (i : Nat) (m : Str → Option Value) (nx : List (Addr × Obj)) : Prop :=
  ∃ o t, nx = [(c, o)] ∧ o.data = .cell (some (.int (g i) t)) ∧ ∀ z, z ≠ x → m z = m₀ z
theorem same_off {x : Str} {m m₀ : Str → Option Value} {v : Value} (h : ∀ z, z ≠ x → m z = m₀ z) : (fun y => if y = x then some v else m y) = fun y => if y = x then some v else m₀ y := by
  funext z
  by_cases e : z = x
  · simp [e]
  · simp only [if_neg e]; exact h z e
theorem same_offU {x : Str} {m m₀ : Str → Option Value} (h : ∀ z, z ≠ x → m z = m₀ z) : m = fun y => if y = x then m y else m₀ y := by
  funext z
  by_cases e : z = x
  · simp [e]
  · simp only [if_neg e]; exact h z e
section
variable {prog : Program} {w : World} {A : Around} {E : Value → Shared → Prop} {s : Shared} {env : Env} {h₀ : Heap} {x : Str} {body : List Stmt} {Q : Flow → Shared → Prop} {ns : List Int} {m₀ : Str → Option Value} {c : Addr} {o : Obj} {t₀ : Tok}
theorem iter_cellL {l : Addr} {vs : List Value} (g : Nat → Int) (hh : A.handled = none) (hl : h₀.IsList l vs.toArray) (hi : IntsAre vs ns) (F : Fr h₀ env.locals s.heap m₀) (N : News h₀ env.locals s.heap [(c, o)]) (hd : o.data = .cell (some (.int (g 0) t₀)))
    (turn : ∀ i n t o' t' h tk own, ns[i]? = some n → o'.data = .cell (some (.int (g i) t')) → OwnOff own [c] → Fr h₀ env.locals h (fun y => if y = x then some (.int n t) else m₀ y) → News h₀ env.locals h ((c, o') :: own) →
      wpAny (model prog w) A (execs body env) (InvPostN h₀ env.locals (CellJ c x m₀ g (i + 1)) own [c] { s with heap := h, toks := tk } Q) E { s with heap := h, toks := tk })
    (done : ∀ (u : Str → Option Value) o' t' h tk, o'.data = .cell (some (.int (g ns.length) t')) → Fr h₀ env.locals h (fun y => if y = x then u y else m₀ y) → News h₀ env.locals h [(c, o')] → Q .next { s with heap := h, toks := tk }) :
    wpAny (model prog w) A (pyIter (.ref l)) (fun it s₂ => LoopAtV prog w A h₀ env x body Q E it s₂) E s := by
  refine iter_invN (CellJ c x m₀ g) hh hl hi F N ⟨o, t₀, rfl, hd, fun _ _ => rfl⟩ ?_ ?_
  · rintro i n t m₁ nx h tk own hn _ hoff ⟨o', t', rfl, hd', hm⟩ F₁ N₁
    rw [same_off hm] at F₁
    exact turn i n t o' t' h tk own hn hd' hoff F₁ N₁
  · rintro m₁ nx h tk ⟨o', t', rfl, hd', hm⟩ F₁ N₁
    rw [same_offU hm] at F₁
    exact done m₁ o' t' h tk hd' F₁ N₁
theorem iter_cellB {b : Array UInt8} {tb : Tok} (g : Nat → Int) (hk : KBw.bInts b = ns) (hh : A.handled = none) (F : Fr h₀ env.locals s.heap m₀) (N : News h₀ env.locals s.heap [(c, o)]) (hd : o.data = .cell (some (.int (g 0) t₀)))
    (turn : ∀ i n t o' t' h tk own, ns[i]? = some n → 0 ≤ n → n < 256 → o'.data = .cell (some (.int (g i) t')) → OwnOff own [c] → Fr h₀ env.locals h (fun y => if y = x then some (.int n t) else m₀ y) → News h₀ env.locals h ((c, o') :: own) →
      wpAny (model prog w) A (execs body env) (InvPostN h₀ env.locals (CellJ c x m₀ g (i + 1)) own [c] { s with heap := h, toks := tk } Q) E { s with heap := h, toks := tk })
    (done : ∀ (u : Str → Option Value) o' t' h tk, o'.data = .cell (some (.int (g ns.length) t')) → Fr h₀ env.locals h (fun y => if y = x then u y else m₀ y) → News h₀ env.locals h [(c, o')] → Q .next { s with heap := h, toks := tk }) :
    wpAny (model prog w) A (pyIter (.bytes b tb)) (fun it s₂ => LoopAtV prog w A h₀ env x body Q E it s₂) E s := by
  refine KBmo.iter_bytesN (CellJ c x m₀ g) hk hh F N ⟨o, t₀, rfl, hd, fun _ _ => rfl⟩ ?_ ?_
  · rintro i n t m₁ nx h tk own hn h0 h1 hoff ⟨o', t', rfl, hd', hm⟩ F₁ N₁
    rw [same_off hm] at F₁
    exact turn i n t o' t' h tk own hn h0 h1 hd' hoff F₁ N₁
  · rintro m₁ nx h tk ⟨o', t', rfl, hd', hm⟩ F₁ N₁
    rw [same_offU hm] at F₁
    exact done m₁ o' t' h tk hd' F₁ N₁
end
/-- a turn's end -/
theorem cell_end {h₀ : Heap} {L : Addr} {c : Addr} {x : Str} {m₀ m' : Str → Option Value} {g : Nat → Int} {i : Nat} {own news' : List (Addr × Obj)} {s₁ : Shared} {h' : Heap} {tk : Nat} {o : Obj} {t : Tok} {v : Int}
    (F : Fr h₀ L h' m') (N : News h₀ L h' news') (hd : o.data = .cell (some (.int v t))) (e : v = g i) (hm : ∀ z, z ≠ x → m' z = m₀ z) (hc : (c, o) ∈ news') (ho : ∀ p ∈ own, p ∈ news') : InvEndN h₀ L (CellJ c x m₀ g i) own [c] s₁ { s₁ with heap := h', toks := tk } :=
  InvEndN.intro F N (nx := [(c, o)]) ⟨o, t, rfl, e ▸ hd, hm⟩ rfl (fun p hp => by rw [List.mem_singleton.mp hp]; exact hc) ho
end Mine
end

section
open PySem PySem.W PyProof.Rows PySem.Calls
set_option maxRecDepth 100000
namespace Mine

theorem tr_slot : Slot "bytes" "translate" "bytes.translate" :=
  .of (owner := "bytes") (n := "translate") (by rw [typeLookup_type, builtinLookup_eq_fast]; kernel_rfl) (by decide +kernel) (by decide +kernel) (by decide +kernel)
    (by first | exact .inl (by decide +kernel) | exact .inr (by decide +kernel)) (by rw [isSubtype_type]; kernel_rfl)
theorem tr_type : typeOf (.builtin "bytes.translate") = pure (.type "method_descriptor") := by show builtinType _ = _; rw [builtinType_eq_fast]; kernel_rfl
theorem tr_entry : entryFor table "bytes.translate" = some Builtin.«bytes.translate» := by first | exact entryFor_of_tree (by kernel_rfl) | exact entryFor_of_fast (by kernel_rfl)
theorem tr_args (a b : Value) : argsOk "bytes.translate" ⟨[a, b], []⟩ := by unfold argsOk; kernel_rfl
theorem mk_plain : plainId "bytes.maketrans" = true := by decide +kernel
theorem mk_entry : entryFor table "bytes.maketrans" = some Builtin.«bytes.maketrans» := by first | exact entryFor_of_tree (by kernel_rfl) | exact entryFor_of_fast (by kernel_rfl)
theorem mk_check (a b : Value) : checkBuiltinCall "bytes.maketrans" ⟨[a, b], []⟩ = pure () := by kernel_rfl

noncomputable def mkTab (f x : Array UInt8) : Array UInt8 := (f.toList.zip x.toList).foldl (fun t (p : UInt8 × UInt8) => t.setIfInBounds p.1.toNat p.2) ((Array.range 256).map (·.toUInt8))
noncomputable def trOut (T b : Array UInt8) : Array UInt8 := (b.filter (fun c => !(#[] : Array UInt8).contains c)).map fun c => T.getD c.toNat c

theorem mk_meets {f x : Array UInt8} {tf tx : Tok} (hs : f.size = x.size) (hz : (mkTab f x).size ≤ sizeLine) :
    Meets (Builtin.«bytes.maketrans» ⟨[.bytes f tf, .bytes x tx], []⟩) (fun _ R s => ∀ t' k, R (.ok (.ret (.bytes (mkTab f x) t'))) { s with toks := k }) := by
  refine .of_wp fun prog w A R s h => ?_
  unfold Builtin.«bytes.maketrans» Builtin.Bytes.maketransM
  refine wpAny_bind (wpAny_of_eq (a := ()) rfl ?_)
  refine wpAny_bind (wpAny_of_eq (a := ()) rfl ?_)
  refine wpAny_bind (wpAny_of_eq (KBd.like_eq (b := f) (t := tf)) ?_)
  refine wpAny_bind (wpAny_of_eq (KBd.like_eq (b := x) (t := tx)) ?_)
  refine bm_if_false (by simp [hs]) ?_
  refine wpAny_bind (wpAny_mkBytes (wpAny_pure ⟨_, rfl, h _ _⟩) hz)

theorem if_false {α : Type} {M : Model} {A : Around} {E : Value → Shared → Prop} {s : Shared} {c : Prop} [Decidable c] {a b : Sem α} {Q : α → Shared → Prop} (hc : ¬ c) (h : wpAny M A b Q E s) : wpAny M A (if c then a else b) Q E s := by
  rw [if_neg hc]
  exact h
theorem tr_meets {T b : Array UInt8} {tT tb : Tok} (hT : T.size = 256) (hz : (trOut T b).size ≤ sizeLine) :
    Meets (Builtin.«bytes.translate» ⟨[.bytes b tb, .bytes T tT], []⟩) (fun _ R s => ∀ t' k, R (.ok (.ret (.bytes (trOut T b) t'))) { s with toks := k }) := by
  refine .of_wp fun prog w A R s h => ?_
  unfold Builtin.«bytes.translate» Builtin.Bytes.translateM
  dsimp only
  refine if_false (by simp) ?_
  refine if_false (by simp) ?_
  refine if_false (by simp) ?_
  refine wpAny_bind (wpAny_of_eq (KBd.like_eq (b := T) (t := tT)) ?_)
  refine if_false (by simp [hT]) ?_
  refine wpAny_bind (wpAny_pure ?_)
  dsimp only [List.head?, Option.map]
  show wpAny _ _ (pure (#[] : Array UInt8) >>= fun delete => _) _ _ _
  refine wpAny_bind (wpAny_pure ?_)
  refine wpAny_bind (wpAny_of_eq (a := b) rfl ?_)
  show wpAny _ _ (if (trOut T b == b) = true then _ else _) _ _ _
  by_cases he : (trOut T b == b) = true
  · rw [if_pos he]
    have e : trOut T b = b := by simpa using he
    refine wpAny_bind (wpAny_rule ?_)
    refine wpAny_bind ?_
    unfold Builtin.Bytes.Kind.same
    refine bm_if_true rfl ?_
    refine wpAny_bind (wpAny_typeOf (typeIs_bytes s b tb) ?_)
    refine bm_if_true (by decide) ?_
    have h' := h tb s.toks
    rw [e] at h'
    exact wpAny_pure (wpAny_pure ⟨_, rfl, h'⟩)
  · rw [if_neg he]
    exact wpAny_bind (wpAny_mkBytes (wpAny_pure ⟨_, rfl, h _ _⟩) hz)
section
variable {prog : Program} {w : World} {A : Around} {E : Value → Shared → Prop} {s : Shared}
theorem mk_call {f x : Array UInt8} {tf tx : Tok} {Q : Value → Shared → Prop} (hs : f.size = x.size) (hz : (mkTab f x).size ≤ sizeLine) (h : ∀ t' k, Q (.bytes (mkTab f x) t') { s with toks := k }) :
    wpAny (model prog w) A (call (.builtin "bytes.maketrans") [.bytes f tf, .bytes x tx]) Q E s := by
  refine wpAny_call (codeAny_call_builtin mk_plain mk_entry ?_)
  have hfin := mk_meets (tf := tf) (tx := tx) hs hz prog w A (wants Q E) s h
  rw [mk_check]
  exact wpAny_pure hfin
theorem tr_call {T b : Array UInt8} {tT tb : Tok} {Q : Value → Shared → Prop} (hT : T.size = 256) (hz : (trOut T b).size ≤ sizeLine) (h : ∀ t' k, Q (.bytes (trOut T b) t') { s with toks := k }) :
    wpAny (model prog w) A (call (.builtin "bytes.translate") [.bytes b tb, .bytes T tT]) Q E s :=
  call_meets tr_slot (typeIs_bytes _ _ _) tr_entry (tr_args _ _) (tr_meets hT hz) h
theorem tr_method {M : Model} {b : Array UInt8} {t : Tok} {pl : Sem Bool} {Q : Value × List Value → Shared → Prop} (h : Q (.builtin "bytes.translate", [.bytes b t]) s) : wpAny M A (getMethod (.bytes b t) (Str.ofString "translate") pl) Q E s := by
  with_reducible exact KBd.method_of (.bytes b t) (typeIs_bytes _ _ _) tr_slot tr_type KBd.noRef h
theorem meta_bytes : typeOf (.type "bytes") = pure (.type "type") := by first | rfl | kernel_rfl
end

theorem two_bytes {f : Array UInt8} {a b : Int} (h : KBw.bInts f = [a, b]) : ∃ c d : UInt8, f = #[c, d] ∧ (c.toNat : Int) = a ∧ (d.toNat : Int) = b := by
  obtain ⟨l⟩ := f
  match l, h with
  | [c, d], h =>
    simp only [KBw.bInts, List.map_cons, List.map_nil, List.cons.injEq, and_true] at h
    exact ⟨c, d, rfl, h.1, h.2⟩
theorem tab_get (c0 c1 d0 d1 c : UInt8) : (mkTab #[c0, c1] #[d0, d1]).getD c.toNat c = if c = c1 then d1 else if c = c0 then d0 else c := by
  have hc := c.toNat_lt
  have h0 := c0.toNat_lt
  have h1 := c1.toNat_lt
  unfold mkTab
  simp only [List.zip_cons_cons, List.zip_nil_right, List.foldl_cons, List.foldl_nil]
  rw [Array.getD_eq_getD_getElem?]
  simp only [Array.getElem?_setIfInBounds, Array.size_setIfInBounds, Array.size_map, Array.size_range]
  by_cases e1 : c = c1
  · subst e1
    simp [hc]
  · have e1' : ¬ c1.toNat = c.toNat := fun e => e1 (UInt8.toNat_inj.1 e.symm)
    by_cases e0 : c = c0
    · subst e0
      simp [e1', e1, hc]
    · have e0' : ¬ c0.toNat = c.toNat := fun e => e0 (UInt8.toNat_inj.1 e.symm)
      simp [e1', e0', e1, e0, hc]
theorem tab_size (c0 c1 d0 d1 : UInt8) : (mkTab #[c0, c1] #[d0, d1]).size = 256 := by
  unfold mkTab
  simp
theorem trOut_size (T b : Array UInt8) : (trOut T b).size = b.size := by
  unfold trOut
  simp
/-- a table that turns f0, f1 into x0, x1 -/
structure Tab (T : Array UInt8) (f0 f1 x0 x1 : Int) : Prop where
  size : T.size = 256
  get : ∀ c : UInt8, ((T.getD c.toNat c).toNat : Int) = tr f0 f1 x0 x1 c.toNat
theorem Tab.of {f x : Array UInt8} {f0 f1 x0 x1 : Int} (hf : KBw.bInts f = [f0, f1]) (hx : KBw.bInts x = [x0, x1]) : Tab (mkTab f x) f0 f1 x0 x1 := by
  obtain ⟨c0, c1, rfl, rfl, rfl⟩ := two_bytes hf
  obtain ⟨d0, d1, rfl, rfl, rfl⟩ := two_bytes hx
  refine ⟨tab_size .., fun c => ?_⟩
  rw [tab_get, tr]
  by_cases e1 : c = c1
  · subst e1; simp
  · have e1' : ¬ (c.toNat : Int) = c1.toNat := fun e => e1 (UInt8.toNat_inj.1 (by exact_mod_cast e))
    by_cases e0 : c = c0
    · subst e0; simp [e1, e1']
    · have e0' : ¬ (c.toNat : Int) = c0.toNat := fun e => e0 (UInt8.toNat_inj.1 (by exact_mod_cast e))
      simp [e1, e0, e1', e0']
theorem Tab.ints {T b : Array UInt8} {f0 f1 x0 x1 : Int} {ks : List Int} (h : Tab T f0 f1 x0 x1) (hb : KBw.bInts b = ks) : KBw.bInts (trOut T b) = ks.map (tr f0 f1 x0 x1) := by
  subst hb
  unfold trOut KBw.bInts
  have e : b.filter (fun c => !(#[] : Array UInt8).contains c) = b := by simp
  rw [e]
  simp only [Array.toList_map, List.map_map]
  refine List.map_congr_left fun c _ => ?_
  exact h.get c
section
variable {prog : Program} {w : World} {A : Around} {E : Value → Shared → Prop} {s : Shared}
theorem mk_K {f x : Array UInt8} {tf tx : Tok} {f0 f1 x0 x1 : Int} {Q : Value → Shared → Prop} (hf : KBw.bInts f = [f0, f1]) (hx : KBw.bInts x = [x0, x1]) (h : ∀ T t' k, Tab T f0 f1 x0 x1 → Q (.bytes T t') { s with toks := k }) :
    wpAny (model prog w) A (call (.builtin "bytes.maketrans") [.bytes f tf, .bytes x tx]) Q E s := by
  have t := Tab.of hf hx
  refine mk_call ?_ ?_ fun t' k => h _ t' k t
  · rw [← KBw.ints_length f, ← KBw.ints_length x, hf, hx]; rfl
  · rw [t.size]; decide
theorem tr_K {T b : Array UInt8} {tT tb : Tok} {f0 f1 x0 x1 : Int} {ks : List Int} {Q : Value → Shared → Prop} (hT : Tab T f0 f1 x0 x1) (hb : KBw.bInts b = ks) (hz : ks.length ≤ 16777216)
    (h : ∀ b' t' k, KBw.bInts b' = ks.map (tr f0 f1 x0 x1) → Q (.bytes b' t') { s with toks := k }) : wpAny (model prog w) A (call (.builtin "bytes.translate") [.bytes b tb, .bytes T tT]) Q E s :=
  tr_call hT.size (by rw [trOut_size, sizeLine_eq, ← KBw.ints_length b, hb]; exact hz) fun t' k => h _ t' k (hT.ints hb)
end
theorem byteArr_of {b : Array UInt8} {ks : List Int} (h : KBw.bInts b = ks) : b = byteArr ks := by
  subst h
  obtain ⟨l⟩ := b
  simp only [byteArr, KBw.bInts, List.map_map]
  congr 1
  refine (List.map_id l).symm.trans (List.map_congr_left fun c _ => ?_)
  simp
end Mine
end

section
open PySem PySem.W PyProof.Rows
namespace Mine
set_option maxRecDepth 100000
set_option maxHeartbeats 8000000
local macro_rules | `(tactic| walk_at "call ref") => `(tactic| (k_here; (with_unfolding_all show wpAny _ _ (call (Value.ref 86) [Value.bytes _ _] [(Str.ofString "newline", Value.bool false)]) _ _ _); k_dflt (refine' useV (c_b2a _ _ _ _ (by assumption) (by assumption)) ?k1 ?k2 ?k3 ?k4 ?k5 ?kK ?kd ?ku trivial ?_); walk_at "m ask"; intro t9 h9 tk9 F9 N9; (try dsimp only); (try k_fold)))
local macro_rules | `(tactic| walk_at "call ref") => `(tactic| (k_here; (with_reducible show wpAny _ _ (call (Value.ref 29) [Value.bytes _ _]) _ _ _); k_dflt (refine' useV (c_from_decode _ _ _) ?k1 ?k2 ?k3 ?k4 ?k5 ?kK ?kd ?ku trivial ?_); walk_at "m ask"; intro t9 h9 tk9 F9 N9; (try dsimp only); (try k_fold)))
local macro_rules | `(tactic| walk_at "getMethod bytes") => `(tactic| (k_here; (with_reducible refine tr_method ?_)))
local macro_rules | `(tactic| walk_at "getMethod type:bytes") => `(tactic| (k_here; refine' method_type ?F ?X ?m (by decide +kernel) ?e ?h ?_; (case F => k_asm); (case X => k_asm); (case m => exact meta_bytes); (case e => k_dflt k_is); (case h => first | rfl | k_handed)))
local macro_rules | `(tactic| walk_at "call builtin:bytes.maketrans") => `(tactic| (k_here; (with_reducible show wpAny _ _ (call (Value.builtin "bytes.maketrans") [Value.bytes _ _, Value.bytes _ _]) _ _ _); refine mk_K (by first | assumption | exact (by kernel_rfl : KBw.bInts _ = [43, 47])) (by first | assumption | exact (by kernel_rfl : KBw.bInts _ = [43, 47])) ?_; intro _ _ _ hTab))
local macro_rules | `(tactic| walk_at "call builtin:bytes.translate") => `(tactic| (k_here; (show wpAny _ _ (call (Value.builtin "bytes.translate") [Value.bytes _ _, Value.bytes _ _]) _ _ _); refine tr_K (by assumption) (by first | assumption | exact KBa.ints_make (by assumption)) (by first | omega | kba_size) ?_; intro _ _ _ hTr))
theorem c_enc (w : World) (b al : Array UInt8) (t ta : Tok) (ks : List Int) (x y : Int) (hb : KBw.bInts b = ks) (hz : ks.length ≤ 1000) (ha : KBw.bInts al = [x, y]) : Calls w 94 [.bytes b t, .bytes al ta] [] 4 30 noPre (retV fun t => .bytes (byteArr ((encoded ks).map (tr 43 47 x y))) t) := by
  w_top off
  unfold Calls
  k_fill
  intro mean mg mb dp un gd cn csc a ccd cl outer A₀ base h₀ L m s Q E B F X T hk hd hu hp hret
  have hin : KBa.In (encoded ks) := encoded_in fun f hf => KBw.ints_in (hb ▸ hf)
  have hel := encoded_length ks
  refine wpAny_call ?_
  k_dflt (refine' code_defP (binds := [(Str.ofString "s", Value.bytes b t), (Str.ofString "altchars", Value.bytes al ta)]) ?k1 ?k2 ?k3 ?k5 ?kA ?kF ?kK ?k6 ?k7 ?k8 ?k9 ?kB ?_ ?c2 ?c3 ?c4 ?c5)
  k_dflt (((case kA => exact rfl); (case kF => exact rfl); (case kK => assumption); (case k1 => k_asm); (case k2 => k_asm); (case k3 => k_asm); (case k5 => k_asm); (case k6 => k_is); (case k7 => k_is); (case k8 => ktr_room); (case k9 => first | exact BindsTo.of_eq rfl | exact binds_K (by k_in) rfl (by k_is) rfl rfl rfl | exact kp_binds (by k_in) (fun _ => rfl)); (case c5 => decide); (case kB => exact locs rfl); (case c2 => exact rfl); (case c3 => exact rfl); (case c4 => exact rfl); k_whole; intro g' L' h' G' F' N' B' X' T'; (try dsimp only); (try k_fold)))
  k_steps
  all_goals first | (exfalso; rename_i hne; exact hne rfl) | skip
  (rename KBw.bInts _ = List.map _ _ => hTr)
  have hB := byteArr_of hTr
  subst hB
  ((refine retV_end (by assumption) (by assumption) (by assumption) ?_))
  exact ⟨_, rfl⟩
theorem c_dec (w : World) (b al : Array UInt8) (t ta : Tok) (ks cs : List Int) (p : Nat) (x y : Int) (hb : KBw.bInts b = ks) (hz : ks.length ≤ 1000) (ha : KBw.bInts al = [x, y]) (hks : ks.map (tr x y 43 47) = cs ++ List.replicate p 61) (H : Padded cs p) (st : Bool) : Calls w 102 [.bytes b t, .bytes al ta, .bool st] [] 4 30 noPre (retV fun t => .bytes (byteArr (octs (cs.map b64v))) t) := by
  w_top off
  unfold Calls
  k_fill
  intro mean mg mb dp un gd cn csc a ccd cl outer A₀ base h₀ L m s Q E B F X T hk hd hu hp hret
  have hz2 : (cs ++ List.replicate p 61).length ≤ 1000 := by rw [← hks, List.length_map]; exact hz
  refine wpAny_call ?_
  k_dflt (refine' code_defP (binds := [(Str.ofString "s", Value.bytes b t), (Str.ofString "altchars", Value.bytes al ta), (Str.ofString "validate", Value.bool st)]) ?k1 ?k2 ?k3 ?k5 ?kA ?kF ?kK ?k6 ?k7 ?k8 ?k9 ?kB ?_ ?c2 ?c3 ?c4 ?c5)
  k_dflt (((case kA => exact rfl); (case kF => exact rfl); (case kK => assumption); (case k1 => k_asm); (case k2 => k_asm); (case k3 => k_asm); (case k5 => k_asm); (case k6 => k_is); (case k7 => k_is); (case k8 => ktr_room); (case k9 => first | exact BindsTo.of_eq rfl | exact binds_K (by k_in) rfl (by k_is) rfl rfl rfl | exact kp_binds (by k_in) (fun _ => rfl)); (case c5 => decide); (case kB => exact locs rfl); (case c2 => exact rfl); (case c3 => exact rfl); (case c4 => exact rfl); k_whole; intro g' L' h' G' F' N' B' X' T'; (try dsimp only); (try k_fold)))
  k_steps
  all_goals first | (exfalso; rename_i hne; exact hne rfl) | skip
  (rename KBw.bInts _ = List.map _ _ => hTr)
  (with_unfolding_all show wpAny _ _ (call (Value.ref 78) [Value.bytes _ _] [(Str.ofString "strict_mode", Value.bool st)]) _ _ _)
  k_dflt (refine' useV (c_a2b _ _ _ cs p (hTr.trans hks) H hz2 st) ?k1 ?k2 ?k3 ?k4 ?k5 ?kK ?kd ?ku trivial ?_)
  (((case k1 => k_asm); (case k2 => k_asm); (case k3 => k_asm); (case k4 => k_asm); (case k5 => k_asm); (case kK => first | exact rfl | assumption); (case kd => ktr_room); (case ku => ktr_units)))
  intro t9 h9 tk9 F9 N9
  (try dsimp only)
  (try k_fold)
  k_steps
  ((refine retV_end (by assumption) (by assumption) (by assumption) ?_))
  exact ⟨_, rfl⟩
end Mine
end

section
open PySem PySem.W PyProof.Rows
namespace Mine
set_option maxRecDepth 100000
set_option maxHeartbeats 8000000
theorem c_heard (w : World) (f sg x y : Int) (t1 t2 t3 t4 : Tok) : Calls w 119 [.int f t1, .int sg t2, .int x t3, .int y t4] [] 1 8 noPre (retV fun t => .int (heardOf f sg x y) t) := by
  w_top off
  unfold Calls
  k_fill
  intro mean mg mb dp un gd cn csc a ccd cl outer A₀ base h₀ L m s Q E B F X T hk hd hu hp hret
  refine wpAny_call ?_
  k_dflt (refine' code_defP (binds := [(Str.ofString "figure", Value.int f t1), (Str.ofString "sign", Value.int sg t2), (Str.ofString "first", Value.int x t3), (Str.ofString "second", Value.int y t4)]) ?k1 ?k2 ?k3 ?k5 ?kA ?kF ?kK ?k6 ?k7 ?k8 ?k9 ?kB ?_ ?c2 ?c3 ?c4 ?c5)
  k_dflt (((case kA => exact rfl); (case kF => exact rfl); (case kK => assumption); (case k1 => k_asm); (case k2 => k_asm); (case k3 => k_asm); (case k5 => k_asm); (case k6 => k_is); (case k7 => k_is); (case k8 => ktr_room); (case k9 => first | exact BindsTo.of_eq rfl | exact binds_K (by k_in) rfl (by k_is) rfl rfl rfl | exact kp_binds (by k_in) (fun _ => rfl)); (case c5 => decide); (case kB => exact locs rfl); (case c2 => exact rfl); (case c3 => exact rfl); (case c4 => exact rfl); k_whole; intro g' L' h' G' F' N' B' X' T'; (try dsimp only); (try k_fold)))
  k_steps
  all_goals (((refine retV_end (by assumption) (by assumption) (by assumption) ?_)); refine ktn_int ?_; unfold heardOf; (repeat' split) <;> omega)
local macro_rules | `(tactic| walk_at "inplaceOp FloorDiv int int") => `(tactic| (k_here; (with_reducible show wpAny _ _ (inplaceOp Operator.FloorDiv (Value.int _ _) (Value.int (_ ^ _) _)) _ _ _); refine idiv_pow (by decide) (by decide) (by omega) ?_))
local macro_rules | `(tactic| walk_at "binaryOp FloorDiv int int") => `(tactic| (k_here; (with_reducible show wpAny _ _ (binaryOp Operator.FloorDiv (Value.int _ _) (Value.int (_ ^ _) _)) _ _ _); refine div_pow (by decide) (by decide) (by (rename (_ : Int) < 0 + _ => hq9); (simp only [Int.fdiv_eq_ediv_of_nonneg _ (show (0 : Int) ≤ 4 by decide)] at hq9); omega) ?_))
local macro_rules | `(tactic| walk_at "subscriptTail Name Slice ref ref") => `(tactic| (k_here; (with_reducible show wpAny _ _ (subscriptTail _ (PySem.Expr.Slice none none (some _) _) (Value.ref _) (Value.ref _)) _ _ _); k_dflt (refine' krv_ints ?F ?N ?l ?k ?i ?_ ?s ?t ?z; (case F => k_asm); (case N => k_asm); (case l => kmk_list); (case k => exact IsPart.int _ _); (case i => l_ints); (case s => with_unfolding_all rfl); (case t => kmk_pure); (case z => ((rename List.length _ = List.length (List.map _ _) => hL9); (simp only [List.length_map, rangeKs_length, Int.fdiv_eq_ediv_of_nonneg _ (show (0 : Int) ≤ 4 by decide)] at hL9); (simp only [List.size_toArray, sizeLine_eq]); omega))); intro D' ws' h' F' N' l1 hI' hC'; (try k_lt l1)))
theorem c_octets (w : World) (l : Addr) (vs : List Value) (fs : List Int) (hi : IntsAre vs fs) (hz : fs.length ≤ 40) (hf : ∀ f ∈ fs, 0 ≤ f ∧ f < 64) : Calls w 107 [.ref l] [] 1 20 (fun h => h.IsList l vs.toArray) (retV fun t => .bytes (byteArr (octs fs)) t) := by
  w_top off
  unfold Calls
  k_fill
  intro mean mg mb dp un gd cn csc a ccd cl outer A₀ base h₀ L m s Q E B F X T hk hd hu hp hret
  refine wpAny_call ?_
  k_dflt (refine' code_defCP (binds := [(Str.ofString "figures", Value.ref l)]) ?k1 ?k2 ?k3 ?k5 ?kA ?kF ?kK ?k6 ?k7 ?k8 ?k9 ?kB ?kD ?_ ?c2 ?c3 ?c4)
  k_dflt (((case kA => exact rfl); (case kF => exact rfl); (case kK => assumption); (case k1 => k_asm); (case k2 => k_asm); (case k3 => k_asm); (case k5 => k_asm); (case k6 => k_is); (case k7 => k_is); (case k8 => ktr_room); (case k9 => first | exact BindsTo.of_eq rfl | exact binds_K (by k_in) rfl (by k_is) rfl rfl rfl | exact kp_binds (by k_in) (fun _ => rfl)); (case kB => exact rfl); (case kD => decide +kernel); (case c2 => exact rfl); (case c3 => exact rfl); (case c4 => exact rfl); k_whole; intro g' L' h' tk' cells' G' F' N' Y' B' X' T'; k_cells Y'; (try dsimp only); (try k_fold)))
  have hl := Same.list (by assumption) hp
  have hI0 : IntsAre ([] : List Value) ([] : List Int) := .nil
  repeat' (((fail_if_success (with_reducible show wpAny _ _ (pyIter _) _ _ _)); (first | (k_unfold; (try dsimp only)) | (k_end; wrow_close) | walk1 | (dsimp only; walk1) | (leave1; walk_say "STEP leave1"; try dsimp only))))
  (rename Fr _ _ _ _ => lF')
  (with_unfolding_all refine' For_invVF lF' ?k1 ?k2 ?_; (case k1 => exact rfl); (case k2 => exact rfl))
  repeat' (((fail_if_success (with_reducible show wpAny _ _ (pyIter _) _ _ _)); (first | (k_unfold; (try dsimp only)) | (k_end; wrow_close) | walk1 | (dsimp only; walk1) | (leave1; walk_say "STEP leave1"; try dsimp only))))
  (rename Fr _ _ _ _ => lF2)
  (rename News _ _ _ _ => lN2)
  k_dflt (refine' iter_cellL (fun i => horner 64 (fs.take i)) ?ih hl hi lF2 lN2 ?idd ?_ ?_)
  (case ih => exact rfl)
  (case idd => assumption)
  · clear lF2 lN2
    intro i n t o9 t9 h9 tk9 own hn9 hd9 ho9 F9 N9
    have hst := horner_take (B := 64) hn9
    have hn0 := hf n (List.mem_of_getElem? hn9)
    generalize horner 64 (fs.take i) = v at hd9 hst
    (try k_fold)
    k_steps
    refine cell_end (by assumption) (by assumption) (by assumption) hst.symm (by intro z hz9; first | rfl | (simp [hz9]; done)) (List.Mem.head _) (fun p hp9 => List.Mem.tail _ hp9)
  · clear lF2 lN2
    intro u o9 t9 h9 tk9 hd9 F9 N9
    rw [List.take_length] at hd9
    have hOw := oct_walk fs hf
    have hin : KBa.In (octs fs) := octs_in fs hf
    have hOl := octs_length fs
    generalize horner 64 fs = v at hd9 hOw
    (try k_fold)
    repeat' (((fail_if_success (with_reducible show wpAny _ _ (call (Value.type "bytes") _) _ _ _)); (first | (k_unfold; (try dsimp only)) | (k_end; wrow_close) | walk1 | (dsimp only; walk1) | (leave1; walk_say "STEP leave1"; try dsimp only))))
    (rename IntsAre _ (List.reverse _) => hI9)
    rw [hOw] at hI9
    k_steps
    all_goals (((refine retV_end (by assumption) (by assumption) (by assumption) ?_)); exact ⟨_, rfl⟩)
end Mine
end

section
open PySem PySem.W PyProof.Rows
namespace Mine
set_option maxRecDepth 100000
set_option maxHeartbeats 8000000
local macro_rules | `(tactic| walk_at "inplaceOp FloorDiv int int") => `(tactic| (k_here; (with_reducible show wpAny _ _ (inplaceOp Operator.FloorDiv (Value.int _ _) (Value.int (_ ^ _) _)) _ _ _); refine idiv_pow (by decide) (by decide) (by omega) ?_))
local macro_rules | `(tactic| walk_at "binaryOp FloorDiv int int") => `(tactic| (k_here; (with_reducible show wpAny _ _ (binaryOp Operator.FloorDiv (Value.int _ _) (Value.int (_ ^ _) _)) _ _ _); refine div_pow (by decide) (by decide) (by (rename (_ : Int) < 0 + _ => hq9); (simp only [Int.fdiv_eq_ediv_of_nonneg _ (show (0 : Int) ≤ 3 by decide)] at hq9); omega) ?_))
local macro_rules | `(tactic| walk_at "subscriptTail Name Slice ref ref") => `(tactic| (k_here; (with_reducible show wpAny _ _ (subscriptTail _ (PySem.Expr.Slice none none (some _) _) (Value.ref _) (Value.ref _)) _ _ _); k_dflt (refine' krv_ints ?F ?N ?l ?k ?i ?_ ?s ?t ?z; (case F => k_asm); (case N => k_asm); (case l => kmk_list); (case k => exact IsPart.int _ _); (case i => l_ints); (case s => with_unfolding_all rfl); (case t => kmk_pure); (case z => ((rename List.length _ = List.length (List.map _ _) => hL9); (simp only [List.length_map, rangeKs_length, Int.fdiv_eq_ediv_of_nonneg _ (show (0 : Int) ≤ 3 by decide)] at hL9); (simp only [List.size_toArray, sizeLine_eq]); omega))); intro D' ws' h' F' N' l1 hI' hC'; (try k_lt l1)))
local macro_rules | `(tactic| walk_at "inplaceOp Mult int int") => `(tactic| (k_here; (with_reducible show wpAny _ _ (inplaceOp Operator.Mult (Value.int _ _) (Value.int (2 ^ _) _)) _ _ _); refine imul_two (by (simp only [Int.fdiv_eq_ediv_of_nonneg _ (show (0 : Int) ≤ 3 by decide)]); omega) ?_))
theorem c_shown (w : World) (b : Array UInt8) (t : Tok) (ks : List Int) (hb : KBw.bInts b = ks) (hz : ks.length ≤ 30) : Calls w 112 [.bytes b t] [] 1 20 noPre (retL (figures ks ++ List.replicate (padsOf ks.length) 64)) := by
  w_top off
  unfold Calls
  k_fill
  intro mean mg mb dp un gd cn csc a ccd cl outer A₀ base h₀ L m s Q E B F X T hk hd hu hp hret
  refine wpAny_call ?_
  k_dflt (refine' code_defCP (binds := [(Str.ofString "row", Value.bytes b t)]) ?k1 ?k2 ?k3 ?k5 ?kA ?kF ?kK ?k6 ?k7 ?k8 ?k9 ?kB ?kD ?_ ?c2 ?c3 ?c4)
  k_dflt (((case kA => exact rfl); (case kF => exact rfl); (case kK => assumption); (case k1 => k_asm); (case k2 => k_asm); (case k3 => k_asm); (case k5 => k_asm); (case k6 => k_is); (case k7 => k_is); (case k8 => ktr_room); (case k9 => first | exact BindsTo.of_eq rfl | exact binds_K (by k_in) rfl (by k_is) rfl rfl rfl | exact kp_binds (by k_in) (fun _ => rfl)); (case kB => exact rfl); (case kD => decide +kernel); (case c2 => exact rfl); (case c3 => exact rfl); (case c4 => exact rfl); k_whole; intro g' L' h' tk' cells' G' F' N' Y' B' X' T'; k_cells Y'; (try dsimp only); (try k_fold)))
  have hI0 : IntsAre ([] : List Value) ([] : List Int) := .nil
  have hks : ∀ f ∈ ks, 0 ≤ f ∧ f < 256 := fun f hf => KBw.ints_in (hb ▸ hf)
  repeat' (((fail_if_success (with_reducible show wpAny _ _ (pyIter _) _ _ _)); (first | (k_unfold; (try dsimp only)) | (k_end; wrow_close) | walk1 | (dsimp only; walk1) | (leave1; walk_say "STEP leave1"; try dsimp only))))
  (rename Fr _ _ _ _ => lF2)
  (rename News _ _ _ _ => lN2)
  k_dflt (refine' iter_cellB (fun i => horner 256 (ks.take i)) hb ?ih lF2 lN2 ?idd ?_ ?_)
  (case ih => exact rfl)
  (case idd => assumption)
  · clear lF2 lN2
    intro i n t o9 t9 h9 tk9 own hn9 hn0 hn1 hd9 ho9 F9 N9
    have hst := horner_take (B := 256) hn9
    generalize horner 256 (ks.take i) = v at hd9 hst
    (try k_fold)
    k_steps
    refine cell_end (by assumption) (by assumption) (by assumption) hst.symm (by intro z hz9; first | rfl | (simp [hz9]; done)) (List.Mem.head _) (fun p hp9 => List.Mem.tail _ hp9)
  · clear lF2 lN2
    intro u o9 t9 h9 tk9 hd9 F9 N9
    rw [List.take_length] at hd9
    have hFw := fig_walk ks hks
    have hPw := pads_walk ks.length
    have hFl := figures_length ks
    generalize horner 256 ks = v at hd9 hFw
    (try k_fold)
    repeat' (((fail_if_success (with_reducible show wpAny _ _ (binaryOp Operator.Add (Value.ref _) (Value.ref _)) _ _ _)); (first | (k_unfold; (try dsimp only)) | (k_end; wrow_close) | walk1 | (dsimp only; walk1) | (leave1; walk_say "STEP leave1"; try dsimp only))))
    (rename IntsAre _ (List.reverse _) => hI9)
    rw [hFw] at hI9
    (rename IntsAre _ (List.flatten _) => hJ9)
    rw [hPw] at hJ9
    k_dflt (refine' kmk_add_ints ?F ?N ?a ?b hI9 hJ9 ?_ ?z; (case F => k_asm); (case N => k_asm); (case a => kmk_list); (case b => kmk_list); (case z => ((simp only [sizeLine_eq, List.length_replicate]); have : padsOf ks.length ≤ 2 := (by unfold padsOf; (repeat' split) <;> omega); omega)))
    intro D' ws' h' F' N' l1 hI'
    k_steps
    all_goals (refine retL_end (by assumption) (by assumption) (by assumption) (by assumption) (List.Mem.head _) (by assumption))
end Mine
end

section
open PySem PySem.W PyProof.Rows
namespace Mine
set_option maxRecDepth 100000
set_option maxHeartbeats 8000000
noncomputable def faceL (x y : Int) : List Int := [65, 66, 67, 68, 69, 70, 71, 72, 73, 74, 75, 76, 77, 78, 79, 80, 81, 82, 83, 84, 85, 86, 87, 88, 89, 90, 97, 98, 99, 100, 101, 102, 103, 104, 105, 106, 107, 108, 109, 110, 111, 112, 113, 114, 115, 116, 117, 118, 119, 120, 121, 122, 48, 49, 50, 51, 52, 53, 54, 55, 56, 57, x, y, 61]
theorem faceL_get {x y i : Int} (h0 : 0 ≤ i) (h1 : i ≤ 64) : (faceL x y).getD i.toNat 0 = faceOf x y i := by
  by_cases h : i < 62
  · have all : ∀ n : Fin 62, (faceL x y).getD n.val 0 = sgn (n.val : Int) := by
      intro n
      have a2 : ∀ n : Fin 62, (alpha.take 62).getD n.val 0 = sgn (n.val : Int) := by decide +kernel
      rw [← a2 n]
      have e : faceL x y = alpha.take 62 ++ [x, y, 61] := rfl
      rw [e, List.getD_eq_getElem?_getD, List.getD_eq_getElem?_getD, List.getElem?_append_left (by have := n.isLt; exact this)]
    have := all ⟨i.toNat, by omega⟩
    simp only [Int.toNat_of_nonneg h0] at this
    rw [this, faceOf, if_pos h]
  · have h3 : i = 62 ∨ i = 63 ∨ i = 64 := by omega
    rcases h3 with rfl | rfl | rfl <;> rfl
theorem face_ints {x y : Int} (hx : ((x.toNat.toUInt8.toNat : Nat) : Int) = x) (hy : ((y.toNat.toUInt8.toNat : Nat) : Int) = y) : KBw.bInts (List.toArray [65, 66, 67, 68, 69, 70, 71, 72, 73, 74, 75, 76, 77, 78, 79, 80, 81, 82, 83, 84, 85, 86, 87, 88, 89, 90, 97, 98, 99, 100, 101, 102, 103, 104, 105, 106, 107, 108, 109, 110, 111, 112, 113, 114, 115, 116, 117, 118, 119, 120, 121, 122, 48, 49, 50, 51, 52, 53, 54, 55, 56, 57] ++ List.toArray [x.toNat.toUInt8, y.toNat.toUInt8] ++ List.toArray [61]) = faceL x y := by
  show [65, 66, 67, 68, 69, 70, 71, 72, 73, 74, 75, 76, 77, 78, 79, 80, 81, 82, 83, 84, 85, 86, 87, 88, 89, 90, 97, 98, 99, 100, 101, 102, 103, 104, 105, 106, 107, 108, 109, 110, 111, 112, 113, 114, 115, 116, 117, 118, 119, 120, 121, 122, 48, 49, 50, 51, 52, 53, 54, 55, 56, 57, ((x.toNat.toUInt8.toNat : Nat) : Int), ((y.toNat.toUInt8.toNat : Nat) : Int), 61] = faceL x y
  rw [hx, hy]
  rfl
theorem face_item {prog : Program} {w : World} {A : Around} {E : Value → Shared → Prop} {s : Shared} {b : Array UInt8} {t ui : Tok} {i x y : Int} {value slice : PySem.Expr} {Q : Value → Shared → Prop} (hb : KBw.bInts b = faceL x y) (h0 : 0 ≤ i) (h1 : i ≤ 64)
    (h : ∀ t' k, Q (.int (faceOf x y i) t') { s with toks := k })
    (hs : subscripted slice false (.bytes b t) (.int i ui) = operate [.bytes b t, .int i ui] (getItem (.bytes b t) (.int i ui)) := by with_unfolding_all rfl)
    (ht : ∀ r, letTemporaryGo value (.bytes b t) r = pure () := by intro _; with_unfolding_all rfl) : wpAny (model prog w) A (subscriptTail value slice (.bytes b t) (.int i ui)) Q E s :=
  KBw.item_K hb (by show 65 ≤ _; decide) h0 (by show i < 65; omega) (fun t' k _ _ => by rw [faceL_get h0 h1]; exact h t' k) hs ht
theorem c_shown' (w : World) (b : Array UInt8) (t : Tok) (ks : List Int) (hb : KBw.bInts b = ks) (hz : ks.length ≤ 30) : Calls w 112 [.bytes b t] [] 1 20 noPre (retL (shownOf ks)) := c_shown w b t ks hb hz
theorem c_enc' (w : World) (b al : Array UInt8) (t ta : Tok) (ks : List Int) (x y : Int) (hb : KBw.bInts b = ks) (hz : ks.length ≤ 1000) (ha : KBw.bInts al = [x, y]) : Calls w 94 [.bytes b t, .bytes al ta] [] 4 30 noPre (retV fun t => .bytes (byteArr (writtenOf x y ks)) t) := c_enc w b al t ta ks x y hb hz ha
theorem face_in {x y f : Int} (hx0 : 0 ≤ x) (hx1 : x < 256) (hy0 : 0 ≤ y) (hy1 : y < 256) (h0 : 0 ≤ f) (h1 : f ≤ 64) : 0 ≤ faceOf x y f ∧ faceOf x y f < 256 := by
  unfold faceOf
  split
  · exact sgn_in h0 (by omega)
  · (repeat' split) <;> omega
theorem written_in {x y : Int} {ks : List Int} (hx0 : 0 ≤ x) (hx1 : x < 256) (hy0 : 0 ≤ y) (hy1 : y < 256) (hk : ∀ k ∈ ks, 0 ≤ k ∧ k < 256) : KBa.In (writtenOf x y ks) := by
  rw [written_eq x y hk]
  intro a ha
  obtain ⟨f, hf, rfl⟩ := List.mem_map.1 ha
  have := shown_in hk f hf
  exact face_in hx0 hx1 hy0 hy1 this.1 this.2
section
variable {prog : Program} {w : World} {A : Around} {E : Value → Shared → Prop} {s : Shared} {b : Array UInt8} {t u : Tok} {Q : Value → Shared → Prop}
theorem ne_same (h : Q (.bool false) s) : wpAny (model prog w) A (compareOp .NotEq (.bytes b t) (.bytes b u)) Q E s := ne_bytes (by simpa using h)
theorem eq_same (h : Q (.bool true) s) : wpAny (model prog w) A (compareOp .Eq (.bytes b t) (.bytes b u)) Q E s := eq_bytes (by simpa using h)
end
local macro_rules | `(tactic| walk_at "compareOp NotEq bytes bytes") => `(tactic| (k_here; refine ne_same ?_))
local macro_rules | `(tactic| walk_at "compareOp Eq bytes bytes") => `(tactic| (k_here; refine eq_same ?_))
local macro_rules | `(tactic| walk_at "call ref") => `(tactic| (k_here; (with_reducible show wpAny _ _ (call (Value.ref 112) [Value.bytes _ _]) _ _ _); k_dflt (refine' useL (c_shown' _ _ _ _ (by assumption) (by assumption)) ?k1 ?k2 ?k3 ?k4 ?k5 ?kK ?kd ?ku trivial ?_); walk_at "m ask"; intro a9 vs9 n9 h9 tk9 F9 N9 hI9; (try dsimp only); (try k_fold)))
local macro_rules | `(tactic| walk_at "call ref") => `(tactic| (k_here; (with_reducible show wpAny _ _ (call (Value.ref 94) [Value.bytes _ _, Value.bytes _ _]) _ _ _); k_dflt (refine' useV (c_enc' _ _ _ _ _ _ _ _ (by assumption) (by assumption) (by assumption)) ?k1 ?k2 ?k3 ?k4 ?k5 ?kK ?kd ?ku trivial ?_); walk_at "m ask"; intro t9 h9 tk9 F9 N9; (try dsimp only); (try k_fold)))
local macro_rules | `(tactic| walk_at "call ref") => `(tactic| (k_here; (with_reducible show wpAny _ _ (call (Value.ref 119) [Value.int _ _, Value.int _ _, Value.int _ _, Value.int _ _]) _ _ _); k_dflt (refine' useV (c_heard _ _ _ _ _ _ _ _ _) ?k1 ?k2 ?k3 ?k4 ?k5 ?kK ?kd ?ku trivial ?_); walk_at "m ask"; intro t9 h9 tk9 F9 N9; (try dsimp only); (try k_fold)))
local macro_rules | `(tactic| walk_at "subscriptTail") => `(tactic| (k_here; (with_reducible show wpAny _ _ (subscriptTail (Expr.Name (Str.ofString "face") _) _ (Value.bytes _ _) (Value.int _ _)) _ _ _); (rename (∀ f, f ∈ shownOf _ → 0 ≤ f ∧ f ≤ 64) => hsh9); refine face_item (x := _) (y := _) (by first | assumption) (hsh9 _ (by assumption)).1 (hsh9 _ (by assumption)).2 ?_; intro _ _))
theorem c_holds (w : World) (b : Array UInt8) (t t1 t2 : Tok) (ks : List Int) (x y : Int) (hb : KBw.bInts b = ks) (hz : ks.length ≤ 30) (hx0 : 0 ≤ x) (hx1 : x < 256) (hy0 : 0 ≤ y) (hy1 : y < 256) : Calls w 124 [.bytes b t, .int x t1, .int y t2] [] 6 60 noPre (retV fun _ => .bool true) := by
  w_top off
  unfold Calls
  k_fill
  intro mean mg mb dp un gd cn csc a ccd cl outer A₀ base h₀ L m s Q E B F X T hk hd hu hp hret
  have hks : ∀ f ∈ ks, 0 ≤ f ∧ f < 256 := fun f hf => KBw.ints_in (hb ▸ hf)
  have hz2 : ks.length ≤ 1000 := by omega
  have hI0 : IntsAre ([] : List Value) ([] : List Int) := .nil
  have bx := byte_back hx0 hx1
  have by9 := byte_back hy0 hy1
  have hal : KBw.bInts (List.toArray [x.toNat.toUInt8, y.toNat.toUInt8]) = [x, y] := by
    show [((x.toNat.toUInt8.toNat : Nat) : Int), ((y.toNat.toUInt8.toNat : Nat) : Int)] = [x, y]
    rw [bx, by9]
  have hface := face_ints bx by9
  have hsh := shown_in hks
  have hshl := shown_length ks
  refine wpAny_call ?_
  k_dflt (refine' code_defCP (binds := [(Str.ofString "row", Value.bytes b t), (Str.ofString "first", Value.int x t1), (Str.ofString "second", Value.int y t2)]) ?k1 ?k2 ?k3 ?k5 ?kA ?kF ?kK ?k6 ?k7 ?k8 ?k9 ?kB ?kD ?_ ?c2 ?c3 ?c4)
  k_dflt (((case kA => exact rfl); (case kF => exact rfl); (case kK => assumption); (case k1 => k_asm); (case k2 => k_asm); (case k3 => k_asm); (case k5 => k_asm); (case k6 => k_is); (case k7 => k_is); (case k8 => ktr_room); (case k9 => first | exact BindsTo.of_eq rfl | exact binds_K (by k_in) rfl (by k_is) rfl rfl rfl | exact kp_binds (by k_in) (fun _ => rfl)); (case kB => exact rfl); (case kD => decide +kernel); (case c2 => exact rfl); (case c3 => exact rfl); (case c4 => exact rfl); k_whole; intro g' L' h' tk' cells' G' F' N' Y' B' X' T'; k_cells Y'; (try dsimp only); (try k_fold)))
  have hWr : writtenOf x y ks = List.map (fun k' => faceOf x y k') (shownOf ks) := written_eq x y hks
  have hWin := written_in hx0 hx1 hy0 hy1 hks
  have hWl : (writtenOf x y ks).length = (ks.length + 2) / 3 * 4 := by rw [hWr, List.length_map, hshl]
  repeat' (((fail_if_success (with_reducible show wpAny _ _ (call (Value.type "bytes") _) _ _ _)); (first | (k_unfold; (try dsimp only)) | (k_end; wrow_close) | walk1 | (dsimp only; walk1) | (leave1; walk_say "STEP leave1"; try dsimp only))))
  (first | (k_unfold; (try dsimp only)) | (k_end; wrow_close) | walk1 | (dsimp only; walk1) | (leave1; walk_say "STEP leave1"; try dsimp only))
  repeat' (((fail_if_success (with_reducible show wpAny _ _ (call (Value.type "bytes") _) _ _ _)); (first | (k_unfold; (try dsimp only)) | (k_end; wrow_close) | walk1 | (dsimp only; walk1) | (leave1; walk_say "STEP leave1"; try dsimp only))))
  (rename IntsAre _ (List.map _ _) => hI9)
  rw [← hWr] at hI9
  repeat' (((fail_if_success (with_reducible show wpAny _ _ (call (Value.ref 107) _) _ _ _)); (first | (k_unfold; (try dsimp only)) | (k_end; wrow_close) | walk1 | (dsimp only; walk1) | (leave1; walk_say "STEP leave1"; try dsimp only))))
  all_goals try k_data
  (rename CarriedAll _ _ => hC9)
  have hFi : IntsAre _ (figs x y ks) := IntsAre.ofCarried hC9
  have hFin := figs_in x y hks
  have hFl := figs_length x y ks
  k_dflt (refine' useV (c_octets _ _ _ (figs x y ks) hFi (by omega) hFin) ?k1 ?k2 ?k3 ?k4 ?k5 ?kK ?kd ?ku (by assumption) ?_)
  (((case k1 => k_asm); (case k2 => k_asm); (case k3 => k_asm); (case k4 => k_asm); (case k5 => k_asm); (case kK => first | exact rfl | assumption); (case kd => ktr_room); (case ku => ktr_units)))
  intro t8 h8 tk8 F8 N8
  (try dsimp only)
  (try k_fold)
  have hOin : KBa.In (octs (figs x y ks)) := octs_in _ hFin
  have hOi := KBa.ints_make hOin
  have hOl := octs_length (figs x y ks)
  have hWi := KBa.ints_make hWin
  have hWz : (writtenOf x y ks).length ≤ 1000 := by omega
  have hOz : (octs (figs x y ks)).length ≤ 1000 := by omega
  obtain ⟨cs9, p9, hD1, hD2, hD3⟩ := dec_ok x y hks
  have hDec : ∀ (ta tb : Tok) (st : Bool), Calls w 102 [.bytes (byteArr (writtenOf x y ks)) ta, .bytes (List.toArray [x.toNat.toUInt8, y.toNat.toUInt8]) tb, .bool st] [] 4 30 noPre (retV fun t => .bytes (byteArr (octs (figs x y ks))) t) := by
    intro ta tb st
    have := c_dec w _ _ ta tb _ cs9 p9 x y hWi hWz hal hD1 hD2 st
    rw [hD3] at this
    exact this
  repeat' (((fail_if_success (with_reducible show wpAny _ _ (call (Value.ref 102) _) _ _ _)); (first | (k_unfold; (try dsimp only)) | (k_end; wrow_close) | walk1 | (dsimp only; walk1) | (leave1; walk_say "STEP leave1"; try dsimp only))))
  k_dflt (refine' useV (hDec _ _ _) ?k1 ?k2 ?k3 ?k4 ?k5 ?kK ?kd ?ku trivial ?_)
  (((case k1 => k_asm); (case k2 => k_asm); (case k3 => k_asm); (case k4 => k_asm); (case k5 => k_asm); (case kK => first | exact rfl | assumption); (case kd => ktr_room); (case ku => ktr_units)))
  intro t7 h7 tk7 F7 N7
  (try dsimp only)
  (try k_fold)
  repeat' (((fail_if_success (with_reducible show wpAny _ _ (call (Value.ref 102) _) _ _ _)); (first | (k_unfold; (try dsimp only)) | (k_end; wrow_close) | walk1 | (dsimp only; walk1) | (leave1; walk_say "STEP leave1"; try dsimp only))))
  k_dflt (refine' useV (hDec _ _ _) ?k1 ?k2 ?k3 ?k4 ?k5 ?kK ?kd ?ku trivial ?_)
  (((case k1 => k_asm); (case k2 => k_asm); (case k3 => k_asm); (case k4 => k_asm); (case k5 => k_asm); (case kK => first | exact rfl | assumption); (case kd => ktr_room); (case ku => ktr_units)))
  intro t6 h6 tk6 F6 N6
  (try dsimp only)
  (try k_fold)
  k_steps
  · ((refine retV_end (by assumption) (by assumption) (by assumption) ?_))
    refine ⟨0, ?_⟩
    (rename (0 < Int.fmod _ 3) => hpos)
    rw [decide_eq_true hpos]
  · ((refine retV_end (by assumption) (by assumption) (by assumption) ?_))
    refine ⟨0, ?_⟩
    (rename ¬ (0 < Int.fmod _ 3) => hneg)
    have h3 : ks.length % 3 = 0 := by rw [fmod_pos (by decide)] at hneg; omega
    rw [enc_back x y hks h3, beq_self_eq_true]
end Mine
end

section
local macro_rules | `(tactic| walk_at "m pad 0") => `(tactic| skip)
open PySem PySem.W PyProof.Rows PySem.Calls PySem.Spec
set_option maxRecDepth 100000
namespace Mine
section
variable {prog : Program} {w : World} {A : Around} {R : Result → Shared → Prop} {s : Shared}

theorem turn2_0 (elt i0 i1 t0 t1 : Expr) (scope : Scope) (pos : Pos) (it acc : Value) (env : Env) :
    compTurn (.ListComp elt [⟨t0, i0, [], 0⟩, ⟨t1, i1, [], 0⟩] scope pos) 0 it acc env = (standAt i0.pos >>= fun _ => pyNext it >>= fun r => match r with
      | none => pure (.done .next)
      | some v => letOwnedTupleGo t0 it v >>= fun _ => assign t0 env v >>= fun _ =>
        (eval i1 env >>= fun x => standAt i1.pos >>= fun _ => foldedSetIterable i1 env x >>= fun x => holding [x] (pyIter x) >>= fun it2 => runOwn (.compStart (.ListComp elt [⟨t0, i0, [], 0⟩, ⟨t1, i1, [], 0⟩] scope pos) 1 it2 acc env) env >>= fun _ =>
          again (.compLoop (.ListComp elt [⟨t0, i0, [], 0⟩, ⟨t1, i1, [], 0⟩] scope pos) 0 it acc env))) := by rfl
theorem turn2_1 (elt i0 i1 t0 t1 : Expr) (scope : Scope) (pos : Pos) (it acc : Value) (env : Env) :
    compTurn (.ListComp elt [⟨t0, i0, [], 0⟩, ⟨t1, i1, [], 0⟩] scope pos) 1 it acc env = (standAt i1.pos >>= fun _ => pyNext it >>= fun r => match r with
      | none => pure (.done .next)
      | some v => letOwnedTupleGo t1 it v >>= fun _ => assign t1 env v >>= fun _ =>
        (eval elt env >>= fun x => call (.builtin "list.append") [acc, x] >>= fun _ => pure ()) >>= fun _ =>
          again (.compLoop (.ListComp elt [⟨t0, i0, [], 0⟩, ⟨t1, i1, [], 0⟩] scope pos) 1 it acc env)) := by rfl

theorem start2_1 {elt i0 i1 t0 t1 : Expr} {scope : Scope} {pos : Pos} {it acc : Value} {env : Env}
    (h0 : codeAny (model prog w) A (.compLoop (.ListComp elt [⟨t0, i0, [], 0⟩, ⟨t1, i1, [], 0⟩] scope pos) 1 it acc env) R s)
    (h : wpAny (model prog w) A (pyIter it) (fun it' s' => codeAny (model prog w) A (.compLoop (.ListComp elt [⟨t0, i0, [], 0⟩, ⟨t1, i1, [], 0⟩] scope pos) 1 it' acc env) R s')
      (notedBy (model prog w) A env fun x s' => R (.error x) s') s) :
    codeAny (model prog w) A (.compStart (.ListComp elt [⟨t0, i0, [], 0⟩, ⟨t1, i1, [], 0⟩] scope pos) 1 it acc env) R s := by
  refine codeAny_of_tree (wpAny_notedAt (m := compStart (.ListComp elt [⟨t0, i0, [], 0⟩, ⟨t1, i1, [], 0⟩] scope pos) 1 it acc env) (pos := theWindowsPlace) ?_)
  unfold compStart
  refine wpAny_bind (wpAny_askSetting (wpAny_ite ?_))
  split
  case isTrue => exact wpAny_pure ⟨rfl, h0⟩
  case isFalse =>
    refine wpAny_bind (wpAny_rule (wpAny_bind (wpAny_standAt (wpAny_bind ?_))))
    refine wpAny_mono h (fun it2 s2 again => ?_) fun _ _ noted => noted
    exact wpAny_pure ⟨rfl, again⟩

theorem loop2_1 {elt i0 i1 t0 t1 : Expr} {scope : Scope} {pos : Pos} {it acc : Value} {env : Env} (I : Nat → Shared → Prop)
    (turn : ∀ n s, I n s → wpAny (model prog w) A (pyNext it) (fun r s₁ => match r with
      | none => R (.ok .next) s₁
      | some v => wpAny (model prog w) A (assign t1 env v) (fun _ s₂ => wpAny (model prog w) A (eval elt env) (fun x s₃ =>
          wpAny (model prog w) A (call (.builtin "list.append") [acc, x]) (fun _ s₄ => ∃ m, m < n ∧ I m s₄) (notedBy (model prog w) A env fun e s' => R (.error e) s') s₃)
          (notedBy (model prog w) A env fun e s' => R (.error e) s') s₂) (notedBy (model prog w) A env fun e s' => R (.error e) s') s₁) (notedBy (model prog w) A env fun e s' => R (.error e) s') s)
    (n : Nat) (h : I n s) (ht : ∀ v, letOwnedTupleGo t1 it v = pure ()) :
    codeAny (model prog w) A (.compLoop (.ListComp elt [⟨t0, i0, [], 0⟩, ⟨t1, i1, [], 0⟩] scope pos) 1 it acc env) R s := by
  refine codeAny_loop rfl I (fun n s hI => ?_) n h
  show wpAny _ A ((compTurn (.ListComp elt [⟨t0, i0, [], 0⟩, ⟨t1, i1, [], 0⟩] scope pos) 1 it acc env).onRaise (fun x => do noteFrame x env; theTreesLotGoes x)) _ _ s
  refine wpAny_noted ?_
  rw [turn2_1]
  refine wpAny_bind (wpAny_standAt (wpAny_bind (wpAny_mono (turn n s hI) (fun r s₁ h₁ => ?_) fun _ _ h' => h')))
  cases r with
  | none => exact wpAny_pure h₁
  | some v =>
    refine wpAny_bind (wpAny_of_eq (ht v) ?_)
    refine wpAny_bind (wpAny_mono h₁ (fun _ s₂ h₂ => ?_) fun _ _ h' => h')
    exact wpAny_bind (wpAny_bind (wpAny_mono h₂ (fun x s₃ h₃ => wpAny_bind (wpAny_mono h₃ (fun _ s₄ h₄ => wpAny_pure (wpAny_pure ⟨rfl, h₄⟩)) fun _ _ h' => h')) fun _ _ h' => h'))

theorem loop2_0 {elt i0 i1 t0 t1 : Expr} {scope : Scope} {pos : Pos} {it acc : Value} {env : Env} (I : Nat → Shared → Prop)
    (turn : ∀ n s, I n s → wpAny (model prog w) A (pyNext it) (fun r s₁ => match r with
      | none => R (.ok .next) s₁
      | some v => wpAny (model prog w) A (assign t0 env v) (fun _ s₂ => wpAny (model prog w) A (eval i1 env) (fun x s₃ =>
          wpAny (model prog w) A (pyIter x) (fun it2 s₄ => codeAny (model prog w) A (.compStart (.ListComp elt [⟨t0, i0, [], 0⟩, ⟨t1, i1, [], 0⟩] scope pos) 1 it2 acc env) (fun r s₅ => match r with
            | .ok _ => ∃ m, m < n ∧ I m s₅
            | .error e => cameBackBy (model prog w) A env (notedBy (model prog w) A env fun e s' => R (.error e) s') e s₅) s₄) (notedBy (model prog w) A env fun e s' => R (.error e) s') s₃)
          (notedBy (model prog w) A env fun e s' => R (.error e) s') s₂) (notedBy (model prog w) A env fun e s' => R (.error e) s') s₁) (notedBy (model prog w) A env fun e s' => R (.error e) s') s)
    (n : Nat) (h : I n s) (ht : ∀ v, letOwnedTupleGo t0 it v = pure ()) (hs : ∀ x, foldedSetIterable i1 env x = pure x) :
    codeAny (model prog w) A (.compLoop (.ListComp elt [⟨t0, i0, [], 0⟩, ⟨t1, i1, [], 0⟩] scope pos) 0 it acc env) R s := by
  refine codeAny_loop rfl I (fun n s hI => ?_) n h
  show wpAny _ A ((compTurn (.ListComp elt [⟨t0, i0, [], 0⟩, ⟨t1, i1, [], 0⟩] scope pos) 0 it acc env).onRaise (fun x => do noteFrame x env; theTreesLotGoes x)) _ _ s
  refine wpAny_noted ?_
  rw [turn2_0]
  refine wpAny_bind (wpAny_standAt (wpAny_bind (wpAny_mono (turn n s hI) (fun r s₁ h₁ => ?_) fun _ _ h' => h')))
  cases r with
  | none => exact wpAny_pure h₁
  | some v =>
    refine wpAny_bind (wpAny_of_eq (ht v) ?_)
    refine wpAny_bind (wpAny_mono h₁ (fun _ s₂ h₂ => ?_) fun _ _ h' => h')
    refine wpAny_bind (wpAny_mono h₂ (fun x s₃ h₃ => ?_) fun _ _ h' => h')
    refine wpAny_bind (wpAny_standAt (wpAny_bind (wpAny_of_eq (hs x) (wpAny_bind (wpAny_holding (wpAny_mono h₃ (fun it2 s₄ h₄ => ?_) fun _ _ h' => h'))))))
    refine wpAny_bind (wpAny_runOwn (codeAny_mono h₄ fun r s₅ h₅ => ?_))
    cases r with
    | ok f => exact wpAny_pure ⟨rfl, h₅⟩
    | error e => exact h₅
end

/-- what holds between the turns -/
structure St2 (s₁ : Shared) (I ax C D : Addr) (i : Nat) (ys : List Value) (m' : Str → Option Value) (h : Heap) : Prop where
  iter : h.IsListIter I ax i
  ns : h.Ns C m'
  acc : h.get? D = some (LCg.lst ys)
  kept : ∀ b o, s₁.heap.get? b = some o → h.get? b = some o
section
variable {s₁ : Shared} {I ax C D : Addr} {i : Nat} {ys : List Value} {m' : Str → Option Value} {h h' : Heap}
theorem St2.but {J : Addr} (x : St2 s₁ I ax C D i ys m' h) (k : ∀ b o, b ≠ J → h.get? b = some o → h'.get? b = some o) (hI : I ≠ J) (hC : C ≠ J) (hD : D ≠ J) (hn : s₁.heap.get? J = none) : St2 s₁ I ax C D i ys m' h' :=
  ⟨x.iter.at fun o e => k I o hI e, x.ns.at' fun o e => k C o hC e, k D _ hD x.acc, fun b o e => k b o (fun q => by rw [q, hn] at e; cases e) (x.kept b o e)⟩
theorem St2.all (x : St2 s₁ I ax C D i ys m' h) (k : ∀ b o, h.get? b = some o → h'.get? b = some o) : St2 s₁ I ax C D i ys m' h' :=
  ⟨x.iter.at fun o e => k I o e, x.ns.at' fun o e => k C o e, k D _ x.acc, fun b o e => k b o (x.kept b o e)⟩
theorem St2.store (x : St2 s₁ I ax C D i ys m' h) {m₂ : Str → Option Value} (hn : h'.Ns C m₂) (hs : Heap.SameBut C h h') (hI : I ≠ C) (hD : D ≠ C) (h0 : s₁.heap.get? C = none) : St2 s₁ I ax C D i ys m₂ h' :=
  ⟨x.iter.at fun o e => hs.extBut I o hI e, hn, hs.extBut D _ hD x.acc, fun b o e => hs.extBut b o (fun q => by rw [q, h0] at e; cases e) (x.kept b o e)⟩
theorem St2.push (x : St2 s₁ I ax C D i ys m' h) {y : Value} (hs : Heap.SameBut D h h') (hd : h'.get? D = some ({ cls := .type "list", data := .seq (ys.toArray.push y) (ys.length + 1) } : Obj)) (hI : I ≠ D) (hC : C ≠ D) (h0 : s₁.heap.get? D = none) : St2 s₁ I ax C D i (ys ++ [y]) m' h' :=
  ⟨x.iter.at fun o e => hs.extBut I o hI e, x.ns.sameBut hs hC, hd.trans (congrArg some (LCg.lst_snoc ys y)), fun b o e => hs.extBut b o (fun q => by rw [q, h0] at e; cases e) (x.kept b o e)⟩
end

/-- the element's evaluation -/
abbrev Elt2 (prog : Program) (w : World) (A : Around) (h₀ : Heap) (L : Addr) (m : Str → Option Value) (env : Env) (elt : Expr) (x x2 : Str) (scope : Scope) (cl : List (Str × Addr)) (s₁ : Shared) (news : List (Addr × Obj)) (ns : List Int) (cnt : Nat) (f : Int → Int → Int) : Prop :=
  ∀ (C : Addr) (oC : Obj) (m₂ : Str → Option Value) (h : Heap) (tk : Nat) (n : Int) (t : Tok) (k : Int) (t2 : Tok) (E' : Value → Shared → Prop), n ∈ ns → 0 ≤ k → k < (cnt : Int) → LCg.NsObj oC m₂ → m₂ x = some (.int n t) → m₂ x2 = some (.int k t2) → Fr h₀ L h m → News h₀ L h ((C, oC) :: news) →
    wpAny (model prog w) A (eval elt (compEnvC scope cl C env)) (fun y s' => ∃ t' tk', y = .int (f n k) t' ∧ s' = { s₁ with heap := h, toks := tk' }) E' { s₁ with heap := h, toks := tk }
/-- the inner source: a range -/
abbrev Iter2 (prog : Program) (w : World) (A : Around) (h₀ : Heap) (L : Addr) (m : Str → Option Value) (env : Env) (iter2 : Expr) (x : Str) (scope : Scope) (cl : List (Str × Addr)) (s₁ : Shared) (news : List (Addr × Obj)) (ns : List Int) (cnt : Nat) : Prop :=
  ∀ (C : Addr) (oC : Obj) (m₂ : Str → Option Value) (h : Heap) (tk : Nat) (n : Int) (t : Tok) (E' : Value → Shared → Prop), n ∈ ns → LCg.NsObj oC m₂ → m₂ x = some (.int n t) → Fr h₀ L h m → News h₀ L h ((C, oC) :: news) →
    wpAny (model prog w) A (eval iter2 (compEnvC scope cl C env)) (fun xv s' => ∃ r h' tk' t1 t2 t3, xv = .ref r ∧ s' = { s₁ with heap := h', toks := tk' } ∧ IsRange h' r 0 (cnt : Int) 1 t1 t2 t3 ∧ ∀ b o, h.get? b = some o → h'.get? b = some o) E' { s₁ with heap := h, toks := tk }

noncomputable def outs (f : Int → Int → Int) (cnt : Nat) (ns : List Int) : List Int := ns.flatMap fun n => (List.range cnt).map fun (k : Nat) => f n (k : Int)
theorem outs_take {f : Int → Int → Int} {cnt : Nat} {ns : List Int} {i : Nat} {n : Int} (h : ns[i]? = some n) : outs f cnt (ns.take (i + 1)) = outs f cnt (ns.take i) ++ (List.range cnt).map fun (k : Nat) => f n (k : Int) := by
  unfold outs
  rw [List.take_add_one, h]
  simp

section
variable {prog : Program} {w : World} {A : Around} {R : Result → Shared → Prop} {s₁ : Shared} {h₀ : Heap} {L : Addr} {m : Str → Option Value} {env : Env} {elt i0 i1 : Expr} {x x2 : Str} {p0 p1 : Pos} {scope : Scope} {cl : List (Str × Addr)} {pos : Pos} {news : List (Addr × Obj)} {ns : List Int} {cnt : Nat} {f : Int → Int → Int} {I ax C D J : Addr} {i : Nat}
theorem inner2 (hh : A.handled = none) (hkind : scope.kind = .function) (hx2 : scope.names.lookup x2 = some .local) (hxx : x ≠ x2) (F : Fr h₀ L s₁.heap m) (N : News h₀ L s₁.heap news) (he : Elt2 prog w A h₀ L m env elt x x2 scope cl s₁ news ns cnt f)
    {n : Int} {t : Tok} (hn : n ∈ ns) (hC0 : s₁.heap.get? C = none) (hD0 : s₁.heap.get? D = none) (hJ0 : s₁.heap.get? J = none) (hIC : I ≠ C) (hID : I ≠ D) (hCD : C ≠ D) (hIJ : I ≠ J) (hCJ : C ≠ J) (hDJ : D ≠ J)
    {ys : List Value} {zs : List Int} (hz : ys.length + cnt ≤ sizeLine) {m' : Str → Option Value} {h : Heap} {tk : Nat} (X : St2 s₁ I ax C D i ys m' h) (hm : m' x = some (.int n t)) (hj : IsRangeIter h J (0 + (0 : Nat) * 1) ((cnt : Int) - (0 : Nat)) 1) (hys : IntsAre ys zs)
    (fin : ∀ (h' : Heap) (tk' : Nat) (ys' : List Value) (m'' : Str → Option Value), St2 s₁ I ax C D i ys' m'' h' → IntsAre ys' (zs ++ (List.range cnt).map fun (k : Nat) => f n (k : Int)) → R (.ok .next) { s₁ with heap := h', toks := tk' }) :
    codeAny (model prog w) A (.compStart (.ListComp elt [⟨.Name x p0, i0, [], 0⟩, ⟨.Name x2 p1, i1, [], 0⟩] scope pos) 1 (.ref J) (.ref D) (compEnvC scope cl C env)) R { s₁ with heap := h, toks := tk } := by
  have hCL : C ≠ L := fun q => by
    obtain ⟨oL, _, _, hL, _⟩ := F.ns
    rw [q, hL] at hC0; cases hC0
  have h0C : h₀.get? C = none := by
    cases q : h₀.get? C with
    | none => rfl
    | some o => rw [F.keep _ _ q] at hC0; cases hC0
  have W := LCg.range_walks (prog := prog) (w := w) (A := A) (I := J) hh 0 cnt
  have loop : ∀ tk, codeAny (model prog w) A (.compLoop (.ListComp elt [⟨.Name x p0, i0, [], 0⟩, ⟨.Name x2 p1, i1, [], 0⟩] scope pos) 1 (.ref J) (.ref D) (compEnvC scope cl C env)) R { s₁ with heap := h, toks := tk } := by
    intro tk
    refine loop2_1 (fun k s' => ∃ j h' tk' ys' m'', k = cnt - j ∧ j ≤ cnt ∧ s' = { s₁ with heap := h', toks := tk' } ∧ St2 s₁ I ax C D i ys' m'' h' ∧ m'' x = some (.int n t) ∧ IsRangeIter h' J (0 + (j : Nat) * 1) ((cnt : Int) - (j : Nat)) 1 ∧ ys'.length = ys.length + j ∧ IntsAre ys' (zs ++ (List.range j).map fun (k : Nat) => f n (k : Int))) ?_ (cnt - 0)
      ⟨0, h, tk, ys, m', rfl, Nat.zero_le _, rfl, X, hm, hj, rfl, by simpa using hys⟩ (by intro _; rfl)
    rintro k s' ⟨j, h₂, tk₂, ys₂, m₂, rfl, hjc, rfl, X₂, hm₂, hj₂, hl₂, hi₂⟩
    by_cases hlt : j < cnt
    · refine W.item j _ _ _ hlt hj₂ fun v h₃ tk₃ hv hj₃ hk₃ => ?_
      obtain ⟨t2, rfl⟩ := hv
      have X₃ : St2 s₁ I ax C D i ys₂ m₂ h₃ := X₂.but (fun b o hb e => hk₃ b o (by simpa using hb) e) hIJ hCJ hDJ hJ0
      refine wpAny_assign_Name (wpAny_storeName_local (lookup_relabel_local hx2) X₃.ns (fun h₄ hn₄ hs₄ => ?_) (by simp [compEnvC, relabel, hkind]))
      have X₄ := X₃.store hn₄ hs₄ hIC (Ne.symm hCD) hC0
      have hj₄ : IsRangeIter h₄ J (0 + ((j + 1 : Nat)) * 1) ((cnt : Int) - ((j + 1 : Nat))) 1 := W.frame _ _ _ hj₃ fun b hb o e => hs₄.extBut b o (fun q => by rw [q] at hb; exact hCJ (List.mem_singleton.mp hb)) e
      obtain ⟨oC, hoC, hoN⟩ := LCg.ns_obj X₄.ns
      have N₄ : News h₀ L h₄ ((C, oC) :: news) := fun p hp => by
        rcases List.mem_cons.mp hp with rfl | hp
        · exact ⟨hoC, hCL, h0C⟩
        · exact N.grown X₄.kept p hp
      have hmx : (fun z => if z = x2 then some (Value.int (0 + (j : Int)) t2) else m₂ z) x = some (.int n t) := by
        show (if x = x2 then _ else m₂ x) = _
        rw [if_neg hxx]; exact hm₂
      refine wpAny_mono (he C oC _ h₄ _ n t (0 + (j : Int)) t2 _ hn (by omega) (by omega) hoN hmx (by simp) (F.keptAll X₄.kept) N₄) (fun y s₅ h₅ => ?_) fun _ _ e => e
      obtain ⟨t', tk', rfl, rfl⟩ := h₅
      refine append_at (hsz := by show ys₂.toArray.size ≤ sizeLine; rw [List.size_toArray]; omega) X₄.acc fun h₆ hs₆ hD₆ => ?_
      have X₆ := X₄.push hs₆ hD₆ hID hCD hD0
      refine ⟨cnt - (j + 1), by omega, j + 1, h₆, _, _, _, rfl, hlt, rfl, X₆, hmx, W.frame _ _ _ hj₄ fun b hb o e => hs₆.extBut b o (fun q => by rw [q] at hb; exact hDJ (List.mem_singleton.mp hb)) e, by simp [hl₂]; omega, ?_⟩
      rw [List.range_succ, List.map_append, ← List.append_assoc]
      have e0 : (0 + (j : Int)) = (j : Int) := by omega
      rw [e0]
      exact hi₂.append (.cons _ _ .nil)
    · obtain rfl : j = cnt := Nat.le_antisymm hjc (Nat.not_lt.mp hlt)
      refine W.done _ _ _ hj₂ fun h₃ tk₃ hk₃ => ?_
      exact fin h₃ tk₃ ys₂ m₂ (X₂.but (fun b o hb e => hk₃ b o (by simpa using hb) e) hIJ hCJ hDJ hJ0) hi₂
  exact start2_1 (loop tk) (W.self 0 _ _ _ hj (loop tk))

/-- the source, and all that is asked of a comprehension with two fors -/
noncomputable def Src2 (prog : Program) (w : World) (A : Around) (h₀ : Heap) (L : Addr) (m : Str → Option Value) (env : Env) (elt i1 : Expr) (x x2 y : Str) (scope : Scope) (cl : List (Str × Addr)) (cnt : Nat) (f : Int → Int → Int) (Q : Flow → Shared → Prop) (xv : Value) (s₁ : Shared) : Prop :=
  ∃ (ax : Addr) (its : List Value) (ns : List Int) (news : List (Addr × Obj)), xv = .ref ax ∧ Fr h₀ L s₁.heap m ∧ News h₀ L s₁.heap news ∧ s₁.heap.IsList ax its.toArray ∧ IntsAre its ns ∧ ns.length * cnt + cnt ≤ sizeLine ∧
    Iter2 prog w A h₀ L m env i1 x scope cl s₁ news ns cnt ∧ Elt2 prog w A h₀ L m env elt x x2 scope cl s₁ news ns cnt f ∧
    ∀ (D : Addr) (ys : List Value) (h : Heap) (tk : Nat), Fr h₀ L h (fun z => if z = y then some (.ref D) else m z) → News h₀ L h ((D, LCg.lst ys) :: news) → (∀ p ∈ news, p.1 < D) → IntsAre ys (outs f cnt ns) → Q .next { s₁ with heap := h, toks := tk }
theorem outs_length (f : Int → Int → Int) (cnt : Nat) : ∀ ns : List Int, (outs f cnt ns).length = ns.length * cnt
  | [] => by simp [outs]
  | n :: r => by
    have := outs_length f cnt r
    unfold outs at this ⊢
    rw [List.flatMap_cons, List.length_append, this, List.length_map, List.length_range, List.length_cons, Nat.succ_mul]
    omega
theorem Assign_comp2 {s : Shared} {E : Value → Shared → Prop} {Q : Flow → Shared → Prop} {y : Str} {py spos : Pos} (F₀ : Fr h₀ L s.heap m) (cnt : Nat) (f : Int → Int → Int) (hLe : env.locals = L)
    (hsw : swapsWith (.ListComp elt [⟨.Name x p0, i0, [], 0⟩, ⟨.Name x2 p1, i1, [], 0⟩] scope pos) (some (.Name y py)) spos.line env = pure true)
    (hclos : closureFor scope env = pure cl) (hcell : ∀ z ∈ scope.names, z.2 ≠ .cell) (hkind : scope.kind = .function)
    (hnames : ∀ z ∈ scope.names, z.2 = .local → scope.names.lookup z.1 = some .local) (hx : scope.names.lookup x = some .local) (hx2 : scope.names.lookup x2 = some .local) (hxx : x ≠ x2)
    (hy : env.kindOf y = some .local) (hp : (env.scope.kind == .class || (env.scope.kind == .module && env.locals != env.globals)) = false) (hh : A.handled = none)
    (hc : Builtin.Range.small 0 (cnt : Int) 1 = true) (hr : Builtin.Range.rangeSize 0 (cnt : Int) 1 = (cnt : Int))
    (h : wpAny (model prog w) A (eval i0 env) (Src2 prog w A h₀ L m env elt i1 x x2 y scope cl cnt f Q) E s)
    (hs : ∀ x, foldedSetIterable i0 env x = pure x) (hs2 : ∀ C x, foldedSetIterable i1 (compEnvC scope cl C env) x = pure x) :
    wpAny (model prog w) A (exec (.Assign [.Name y py] (.ListComp elt [⟨.Name x p0, i0, [], 0⟩, ⟨.Name x2 p1, i1, [], 0⟩] scope pos) spos) env) Q E s := by
  subst hLe
  rw [exec_Assign_Name_used _ _ _ _ hsw]
  refine wpAny_bind (wpAny_standAt (wpAny_bind ?_))
  show wpAny _ A (do let _ ← comprehension (.ListComp elt [⟨.Name x p0, i0, [], 0⟩, ⟨.Name x2 p1, i1, [], 0⟩] scope pos) scope env _ (newList []) false (eval i0 env) (some (assign (.Name y py) env))) _ _ s
  refine wpAny_bind (wpAny_mono (wpAny_comprehension_free (use := some (assign (.Name y py) env)) (Q := fun _ s' => Q .next s') rfl hs hclos hkind hnames
    (wpAny_mono h (fun xv s₁ h₁ => ?_) fun _ _ e => e)) (fun _ s' hq => wpAny_pure (wpAny_pure hq)) fun _ _ e => e)
  obtain ⟨ax, its, ns, news, rfl, F, N, hl, hin, hsz, hit, hel, fin⟩ := h₁
  have hlt : ax < s₁.heap.objs.size := by obtain ⟨_, e, _⟩ := hl; exact Heap.lt_size e
  refine wpAny_pyIter_list hl ?_
  refine wpAny_newObj_type (wpAny_newFunctionEnv hcell (by intro y hy; simp at hy) (fun h₁ hns₁ hsb₁ => ?_) hkind)
  dsimp only at hns₁ hsb₁ ⊢
  generalize hH1 : s₁.heap.push { cls := .type "list_iterator", data := .fields #[.ref ax, .int 0 0] } = H1 at hns₁ hsb₁ ⊢
  generalize hH2 : H1.push { cls := .type "list", dict := none, data := .seq ([] : List Value).toArray } = H2 at hns₁ hsb₁ ⊢
  have hD : H1.objs.size = s₁.heap.objs.size + 1 := by rw [← hH1, Heap.size_push]
  have hC : H2.objs.size = s₁.heap.objs.size + 2 := by rw [← hH2, Heap.size_push, hD]
  generalize hIe : s₁.heap.objs.size = I at hlt hD hC
  generalize hDe : H1.objs.size = D at hD ⊢
  generalize hCe : H2.objs.size = C at hC hns₁ hsb₁ ⊢
  have fresh : ∀ a : Nat, I ≤ a → s₁.heap.get? a = none := fun a ha => by
    cases e : s₁.heap.get? a with
    | none => rfl
    | some o' => exact absurd (Heap.lt_size e) (Nat.not_lt.mpr (hIe ▸ ha))
  have hI0 := fresh I (Nat.le_refl _)
  have hD0 : s₁.heap.get? D = none := fresh D (by show I ≤ D; omega)
  have hC0 : s₁.heap.get? C = none := fresh C (by show I ≤ C; omega)
  have hIC : I ≠ C := by show ¬ (I : Nat) = C; omega
  have hID : I ≠ D := by show ¬ (I : Nat) = D; omega
  have hCD : C ≠ D := by show ¬ (C : Nat) = D; omega
  have up : ∀ b o, b ≠ C → H2.get? b = some o → h₁.get? b = some o := fun b o hb e => hsb₁.extBut b o hb (Heap.get?_push_of_some _ e)
  have hL0 : h₀.get? env.locals = none := Heap.get?_none_of_le F.above
  have hCL : C ≠ env.locals := fun q => by
    obtain ⟨oL, _, _, hL, _⟩ := F.ns
    rw [q, hL] at hC0; cases hC0
  have hDL : D ≠ env.locals := fun q => by
    obtain ⟨oL, _, _, hL, _⟩ := F.ns
    rw [q, hL] at hD0; cases hD0
  have h0D : h₀.get? D = none := by
    cases q : h₀.get? D with
    | none => rfl
    | some o => rw [F.keep _ _ q] at hD0; cases hD0
  have h0C : h₀.get? C = none := by
    cases q : h₀.get? C with
    | none => rfl
    | some o => rw [F.keep _ _ q] at hC0; cases hC0
  have X₁ : St2 s₁ I ax C D 0 [] (fun _ => none) h₁ := by
    refine ⟨⟨_, up I _ hIC (hH2 ▸ Heap.get?_push_of_some _ (hH1 ▸ hIe ▸ Heap.get?_push_size _ rfl)), rfl, rfl⟩, ?_, up D _ (Ne.symm hCD) (hH2 ▸ hDe ▸ Heap.get?_push_size _ rfl), fun b o e => up b o (fun q => by rw [q, hC0] at e; cases e) (hH2 ▸ Heap.get?_push_of_some _ (hH1 ▸ Heap.get?_push_of_some _ e))⟩
    simpa using hns₁
  have W := Walks.list (prog := prog) (w := w) (A := A) hh I ax (Nat.ne_of_lt hlt) its.toArray
  have hlen : its.toArray.size = ns.length := by rw [List.size_toArray, hin.length]
  rw [hlen] at W
  have lst : ∀ {h : Heap}, (∀ b o, s₁.heap.get? b = some o → h.get? b = some o) → h.IsList ax its.toArray := fun k => hl.at fun o e => k ax o e
  have loop : ∀ s₃ : Shared, (∃ tk, s₃ = { s₁ with heap := h₁, toks := tk }) →
      codeAny (model prog w) A (.compLoop (.ListComp elt [⟨.Name x p0, i0, [], 0⟩, ⟨.Name x2 p1, i1, [], 0⟩] scope pos) 0 (.ref I) (.ref D) (compEnvC scope cl C env)) (compPost (model prog w) A E (some (assign (.Name y py) env)) (fun _ s' => Q .next s') (.ref D) C) s₃ := by
    rintro s₃ ⟨tk, rfl⟩
    refine loop2_0 (fun k s' => ∃ j h' tk' ys' m'', k = ns.length - j ∧ j ≤ ns.length ∧ s' = { s₁ with heap := h', toks := tk' } ∧ St2 s₁ I ax C D j ys' m'' h' ∧ IntsAre ys' (outs f cnt (ns.take j))) ?_ (ns.length - 0)
      ⟨0, h₁, tk, [], _, rfl, Nat.zero_le _, rfl, X₁, by simpa [outs] using IntsAre.nil⟩ (by intro _; rfl) (hs2 C)
    rintro k s' ⟨j, h₂, tk₂, ys₂, m₂, rfl, hjc, rfl, X₂, hi₂⟩
    by_cases hlt' : j < ns.length
    · refine W.item j _ _ _ hlt' ⟨X₂.iter, lst X₂.kept⟩ fun v h₃ tk₃ hv hst₃ hk₃ => ?_
      have hjn : ns[j]? = some ns[j] := List.getElem?_eq_getElem hlt'
      obtain ⟨t, hxv⟩ := hin.get j ns[j] hjn
      have hv' : its[j]? = some v := by simpa using hv
      rw [hxv] at hv'
      obtain rfl := Option.some.inj hv'
      have X₃ : St2 s₁ I ax C D (j + 1) ys₂ m₂ h₃ := ⟨hst₃.1, X₂.ns.at' fun o e => hk₃ C o (by simpa using Ne.symm hIC) e, hk₃ D _ (by simpa using Ne.symm hID) X₂.acc, fun b o e => hk₃ b o (by
        intro q; rw [List.mem_singleton.mp q, hI0] at e; cases e) (X₂.kept b o e)⟩
      refine wpAny_assign_Name (wpAny_storeName_local (lookup_relabel_local hx) X₃.ns (fun h₄ hn₄ hs₄ => ?_) (by simp [compEnvC, relabel, hkind]))
      have X₄ := X₃.store hn₄ hs₄ hIC (Ne.symm hCD) hC0
      obtain ⟨oC, hoC, hoN⟩ := LCg.ns_obj X₄.ns
      have N₄ : News h₀ env.locals h₄ ((C, oC) :: news) := fun p hp => by
        rcases List.mem_cons.mp hp with rfl | hp
        · exact ⟨hoC, hCL, h0C⟩
        · exact N.grown X₄.kept p hp
      refine wpAny_mono (hit C oC _ h₄ _ ns[j] t _ (List.getElem_mem _) hoN (by simp) (F.keptAll X₄.kept) N₄) (fun xv s₅ h₅ => ?_) fun _ _ e => e
      obtain ⟨r, h₅, tk₅, t1, t2, t3, rfl, rfl, hr₅, hk₅⟩ := h₅
      have X₅ := X₄.all hk₅
      refine wpAny_pyIter_range hr₅ hc ?_
      have X₆ := X₅.all (h' := h₅.push { cls := .type "range_iterator", data := .fields #[rawInt 0, rawInt (Builtin.Range.rangeSize 0 (cnt : Int) 1), rawInt 1] }) fun b o e => Heap.get?_push_of_some _ e
      have hyl : ys₂.length + cnt ≤ sizeLine := by
        rw [hi₂.length, outs_length, List.length_take]
        have := Nat.mul_le_mul_right cnt (Nat.min_le_right j ns.length)
        omega
      have hIlt : I < h₅.objs.size := by obtain ⟨o, e, _⟩ := X₅.iter; exact Heap.lt_size e
      refine inner2 (i := j + 1) hh hkind hx2 hxx F N hel (t := t) (List.getElem_mem hlt') hC0 hD0 ?_ hIC hID hCD (Nat.ne_of_lt hIlt) (Nat.ne_of_lt X₅.ns.lt) (Nat.ne_of_lt (Heap.lt_size X₅.acc)) hyl X₆ (by simp) ?_ hi₂ ?_
      · cases e : s₁.heap.get? h₅.objs.size with
        | none => rfl
        | some o => exact absurd (Heap.lt_size (X₅.kept _ _ e)) (Nat.lt_irrefl _)
      · show IsRangeIter _ _ _ _ _
        rw [hr]
        simpa using Heap.get?_push_size _ rfl
      · intro h' tk' ys' m'' X' hi'
        exact ⟨ns.length - (j + 1), by omega, j + 1, h', tk', ys', m'', rfl, hlt', rfl, X', by rw [outs_take hjn]; exact hi'⟩
    · obtain rfl : j = ns.length := Nat.le_antisymm hjc (Nat.not_lt.mp hlt')
      refine W.done _ _ _ ⟨X₂.iter, lst X₂.kept⟩ fun h₃ tk₃ hk₃ => ?_
      have kept₃ : ∀ b o, s₁.heap.get? b = some o → h₃.get? b = some o := fun b o e => hk₃ b o (by
        intro q; rw [List.mem_singleton.mp q, hI0] at e; cases e) (X₂.kept b o e)
      have acc₃ : h₃.get? D = some (LCg.lst ys₂) := hk₃ D _ (by simpa using Ne.symm hID) X₂.acc
      have nsC₃ : h₃.Ns C m₂ := X₂.ns.at' fun o e => hk₃ C o (by simpa using Ne.symm hIC) e
      have F₃ : Fr h₀ env.locals h₃ m := F.keptAll kept₃
      show wpAny _ A (assign (.Name y py) env (.ref D)) _ _ _
      refine wpAny_assign_Name (wpAny_storeName_local hy F₃.ns (fun h₄ hn₄ hs₄ => ?_) hp)
      have F₄ : Fr h₀ env.locals h₄ (fun z => if z = y then some (.ref D) else m z) := ⟨hn₄, fun b o e => hs₄.extBut b o (fun q => by rw [q, hL0] at e; cases e) (F₃.keep b o e), F₃.above⟩
      rw [List.take_length] at hi₂
      refine ⟨m₂, nsC₃.sameBut hs₄ hCL, fun h'' hs'' => fin D ys₂ h'' _ (F₄.change hs'' hCL h0C) (fun p hp => ?_) (fun p hp => ?_) hi₂⟩
      · rcases List.mem_cons.mp hp with rfl | hp
        · exact ⟨hs''.extBut _ _ (Ne.symm hCD) (hs₄.extBut _ _ hDL acc₃), hDL, h0D⟩
        · have z := N p hp
          refine ⟨hs''.extBut _ _ (fun q => ?_) (hs₄.extBut _ _ z.2.1 (kept₃ _ _ z.1)), z.2⟩
          have := z.1; rw [q, hC0] at this; cases this
      · have := Heap.lt_size (N p hp).1
        show (p.1 : Nat) < D
        rw [hD, ← hIe]
        exact Nat.lt_succ_of_lt this
  exact codeAny_compStart_list (loop _ ⟨_, rfl⟩) (W.self 0 _ _ _ ⟨X₁.iter, lst X₁.kept⟩ (loop _ ⟨_, rfl⟩))
end
end Mine
end

section
open PySem PySem.W PyProof.Rows PySem.Calls PySem.Spec
set_option maxRecDepth 100000
namespace Mine
abbrev pairObj (x y : Int) (t u : Tok) : Obj := listOf #[.int x t, .int y u] 0
/-- a ref to a list of two octets that stands in the ledger -/
noncomputable def PairIn (news : List (Addr × Obj)) (v : Value) : Prop := ∃ a x y t u, v = .ref a ∧ (a, pairObj x y t u) ∈ news ∧ 0 ≤ x ∧ x < 256 ∧ 0 ≤ y ∧ y < 256
theorem PairIn.mono {news news' : List (Addr × Obj)} {v : Value} (h : PairIn news v) (hs : ∀ p ∈ news, p ∈ news') : PairIn news' v :=
  let ⟨a, x, y, t, u, e, hm, r⟩ := h; ⟨a, x, y, t, u, e, hs _ hm, r⟩

section
variable {prog : Program} {w : World} {A : Around} {h₀ : Heap} {L : Addr} {m : Str → Option Value} {env : Env} {elt iter : Expr} {x : Str} {px pos : Pos} {scope : Scope} {cl : List (Str × Addr)} {news : List (Addr × Obj)} {ns : List Int} {its : List Value} {ax : Addr}
/-- the element: a new list of two octets -/
abbrev EltP (prog : Program) (w : World) (A : Around) (h₀ : Heap) (L : Addr) (m : Str → Option Value) (env : Env) (elt : Expr) (x : Str) (scope : Scope) (cl : List (Str × Addr)) (s : Shared) (ns : List Int) : Prop :=
  ∀ (n : Int) (t : Tok) (C : Addr) (oC : Obj) (m₂ : Str → Option Value) (h : Heap) (tk : Nat) (E' : Value → Shared → Prop) (led : List (Addr × Obj)), n ∈ ns → LCg.NsObj oC m₂ → m₂ x = some (.int n t) → Fr h₀ L h m → News h₀ L h led → (C, oC) ∈ led →
    wpAny (model prog w) A (eval elt (compEnvC scope cl C env)) (fun y s' => ∃ a h' tk' x' y' t' u', y = .ref a ∧ s' = { s with heap := h', toks := tk' } ∧ Fr h₀ L h' m ∧ News h₀ L h' ((a, pairObj x' y' t' u') :: led) ∧ (∀ p ∈ led, p.1 < a) ∧ 0 ≤ x' ∧ x' < 256 ∧ 0 ≤ y' ∧ y' < 256) E' { s with heap := h, toks := tk }

theorem comp_pairs_rest {s : Shared} {Fin : List Value → List (Addr × Obj) → Prop} (hel : EltP prog w A h₀ L m env elt x scope cl s ns) (hin : IntsAre its ns) (hsrc : LCg.SrcAt h₀ ax its.toArray news)
    (fin : ∀ tail ys, (∀ v ∈ ys, PairIn tail v) → ys.length = its.length → Fin ys (tail ++ news)) :
    ∀ (k i : Nat) (ys : List Value) (tail : List (Addr × Obj)), (∀ v ∈ ys, PairIn tail v) → ys.length = i → i + k = its.length →
      LCg.CompRest prog w A h₀ L m env elt x scope cl s (LCg.SrcAt h₀ ax its.toArray) (fun i v => its.toArray[i]? = some v) Fin k i ys (tail ++ news)
  | 0, i, ys, tail, hy, hl, hk => LCg.CompRest.zero (fin tail ys hy (by omega))
  | k + 1, i, ys, tail, hy, hl, hk => by
    refine LCg.CompRest.succ ?_
    intro v I oI C oC D m₂ h tk E' hv hC hx F N off ne
    have hv' : its[i]? = some v := by simpa using hv
    obtain ⟨n, t, rfl, hn⟩ := hin.at i v hv'
    refine wpAny_mono (hel n t C oC m₂ h tk E' _ (List.mem_of_getElem? hn) hC hx F N (List.mem_cons_of_mem _ List.mem_cons_self)) (fun y s' hy' => ?_) fun _ _ e => e
    obtain ⟨a, h', tk', x', y', t', u', rfl, rfl, F', N', hlt, b1, b2, b3, b4⟩ := hy'
    have aI : a ≠ I := Nat.ne_of_gt (hlt (I, oI) List.mem_cons_self)
    have aC : a ≠ C := Nat.ne_of_gt (hlt (C, oC) (List.mem_cons_of_mem _ List.mem_cons_self))
    have aD : a ≠ D := Nat.ne_of_gt (hlt (D, LCg.lst ys) (List.mem_cons_of_mem _ (List.mem_cons_of_mem _ List.mem_cons_self)))
    refine LCg.CompEnd.intro F' N' (((a, pairObj x' y' t' u') :: tail) ++ news) (fun p hp => ?_) ⟨⟨aI, aC, aD⟩, off⟩ ?_ (comp_pairs_rest hel hin hsrc fin k (i + 1) (ys ++ [.ref a]) _ (fun v hv9 => ?_) (by simp [hl]) (by omega))
    · rcases List.mem_cons.mp hp with rfl | hp
      · exact List.mem_cons_of_mem _ List.mem_cons_self
      · rcases List.mem_cons.mp hp with rfl | hp
        · exact List.mem_cons_of_mem _ (List.mem_cons_of_mem _ List.mem_cons_self)
        · rcases List.mem_cons.mp hp with rfl | hp
          · exact List.mem_cons_of_mem _ (List.mem_cons_of_mem _ (List.mem_cons_of_mem _ List.mem_cons_self))
          · rcases List.mem_cons.mp hp with rfl | hp
            · exact List.mem_cons_self
            · exact List.mem_cons_of_mem _ (List.mem_cons_of_mem _ (List.mem_cons_of_mem _ (List.mem_cons_of_mem _ hp)))
    · rcases hsrc with h1 | ⟨o, h1, h2⟩
      · exact .inl h1
      · exact .inr ⟨o, List.mem_append_right _ h1, h2⟩
    · rcases List.mem_append.mp hv9 with hv9 | hv9
      · exact (hy v hv9).mono fun p hp => List.mem_cons_of_mem _ hp
      · rw [List.mem_singleton.mp hv9]
        exact ⟨a, x', y', t', u', rfl, List.mem_cons_self, b1, b2, b3, b4⟩

noncomputable def SrcP (prog : Program) (w : World) (A : Around) (h₀ : Heap) (L : Addr) (m : Str → Option Value) (env : Env) (elt : Expr) (x : Str) (scope : Scope) (cl : List (Str × Addr)) (Q : Value → Shared → Prop) (xv : Value) (s₁ : Shared) : Prop :=
  ∃ (ax : Addr) (its : List Value) (ns : List Int) (news : List (Addr × Obj)) (k : Nat), xv = .ref ax ∧ A.handled = none ∧ Fr h₀ L s₁.heap m ∧ News h₀ L s₁.heap news ∧ (ax, ({ cls := .type "list", data := .seq its.toArray k } : Obj)) ∈ news ∧ IntsAre its ns ∧ its.length ≤ sizeLine ∧
    EltP prog w A h₀ L m env elt x scope cl s₁ ns ∧
    ∀ (D : Addr) (vs : List Value) (tail : List (Addr × Obj)) (h : Heap) (tk : Nat), Fr h₀ L h m → News h₀ L h ((D, LCg.lst vs) :: (tail ++ news)) → (∀ v ∈ vs, PairIn tail v) → vs.length = its.length → Q (.ref D) { s₁ with heap := h, toks := tk }
theorem ListComp_pairs {s : Shared} {E : Value → Shared → Prop} {Q : Value → Shared → Prop} (F₀ : Fr h₀ L s.heap m)
    (hclos : closureFor scope env = pure cl) (hcell : ∀ y ∈ scope.names, y.2 ≠ .cell) (hkind : scope.kind = .function)
    (hnames : ∀ y ∈ scope.names, y.2 = .local → scope.names.lookup y.1 = some .local) (hx : scope.names.lookup x = some .local)
    (h : wpAny (model prog w) A (eval iter env) (SrcP prog w A h₀ L m env elt x scope cl Q) E s)
    (hs : ∀ x, foldedSetIterable iter env x = pure x) :
    wpAny (model prog w) A (eval (.ListComp elt [⟨.Name x px, iter, [], 0⟩] scope pos) env) Q E s := by
  refine LCg.ListComp_U F₀ hclos hcell hkind hnames hx (wpAny_mono h (fun xv s₁ h₁ => ?_) fun _ _ e => e) hs
  obtain ⟨ax, its, ns, news, k, rfl, hh, F, N, hm, hin, hz, hel, fin⟩ := h₁
  refine LCg.CompSrc.ledger hh F N hm (by rw [List.size_toArray]; exact hz) fun g => ?_
  have := comp_pairs_rest (news := news) (s := { s₁ with heap := g }) (Fin := LCg.FinE h₀ L m { s₁ with heap := g } Q) hel hin (.inr ⟨_, hm, rfl, _, rfl⟩) (fun tail ys hy hl D h tk F' N' _ => fin D ys tail h tk F' N' hy hl) its.toArray.size 0 [] [] (fun _ h => nomatch h) rfl (by rw [Nat.zero_add, List.size_toArray])
  exact this
end

section
variable {prog : Program} {w : World} {A : Around} {h₀ : Heap} {m : Str → Option Value} {env : Env} {news : List (Addr × Obj)} {s : Shared} {R : Result → Shared → Prop} {body : List Stmt} {f1 f2 f3 : Str}
theorem iter_pairs {q1 q2 qt : Pos} {x1 : Nat} {P : Addr} {items : List Value} {kk : Nat} {E : Value → Shared → Prop} (hh : A.handled = none) (F : Fr h₀ env.locals s.heap m) (N : News h₀ env.locals s.heap news)
    (hP : (P, ({ cls := .type "list", data := .seq items.toArray kk } : Obj)) ∈ news) (hall : ∀ v ∈ items, PairIn news v) (hk1 : env.kindOf f1 = some .local) (hk2 : env.kindOf f2 = some .local)
    (hp : (env.scope.kind == .class || (env.scope.kind == .module && env.locals != env.globals)) = false)
    (turn : ∀ (x y : Int) (t u : Tok) (h : Heap) (tk : Nat) (m' : Str → Option Value) (I : Addr) (oI : Obj) (E' : Value → Shared → Prop), 0 ≤ x → x < 256 → 0 ≤ y → y < 256 → (∀ z, z ≠ f1 → z ≠ f2 → z ≠ f3 → m' z = m z) →
      Fr h₀ env.locals h (fun z => if z = f2 then some (.int y u) else if z = f1 then some (.int x t) else m' z) → News h₀ env.locals h ((I, oI) :: news) →
      wpAny (model prog w) A (execs body env) (fun f s' => f = .next ∧ ∃ h' tk' m'', s' = { s with heap := h', toks := tk' } ∧ Fr h₀ env.locals h' m'' ∧ (∀ z, z ≠ f1 → z ≠ f2 → z ≠ f3 → m'' z = m z) ∧ News h₀ env.locals h' ((I, oI) :: news)) E' { s with heap := h, toks := tk })
    (done : ∀ (h : Heap) (tk : Nat) (m' : Str → Option Value), (∀ z, z ≠ f1 → z ≠ f2 → z ≠ f3 → m' z = m z) → Fr h₀ env.locals h m' → News h₀ env.locals h news → R (.ok .next) { s with heap := h, toks := tk }) :
    wpAny (model prog w) A (pyIter (.ref P)) (fun it s₂ => codeAny (model prog w) A (.forLoop (.Tuple [.Name f1 q1, .Name f2 q2] x1 qt) it body [] env) R s₂) E s := by
  have hl : s.heap.IsList P items.toArray := News.isList N hP
  have hlt : P < s.heap.objs.size := by obtain ⟨_, e, _⟩ := hl; exact Heap.lt_size e
  refine wpAny_pyIter_list hl ?_
  have hIL : env.locals ≠ s.heap.objs.size := Nat.ne_of_lt F.ns.lt
  have hI0 : h₀.get? s.heap.objs.size = none := next_is_new F
  have offI : ∀ p ∈ news, p.1 ≠ s.heap.objs.size := fun p hp => Nat.ne_of_lt (Heap.lt_size (N p hp).1)
  have W := Walks.list (prog := prog) (w := w) (A := A) hh s.heap.objs.size P (Nat.ne_of_lt hlt) items.toArray
  rw [show items.toArray.size = items.length from List.size_toArray ..] at W
  have start : (s.heap.push { cls := .type "list_iterator", data := .fields #[.ref P, .int 0 0] }).IsListIter s.heap.objs.size P 0 := ⟨_, Heap.get?_push_size _ rfl, rfl, rfl⟩
  have F1 : Fr h₀ env.locals (s.heap.push { cls := .type "list_iterator", data := .fields #[.ref P, .int 0 0] }) m := F.push _
  have N1 : News h₀ env.locals (s.heap.push { cls := .type "list_iterator", data := .fields #[.ref P, .int 0 0] }) news := N.grown fun _ _ e => Heap.get?_push_of_some _ e
  generalize s.heap.push { cls := .type "list_iterator", data := .fields #[.ref P, .int 0 0] } = H1 at start F1 N1 ⊢
  generalize s.heap.objs.size = I at hIL hI0 offI W hlt start ⊢
  refine codeAny_forLoop_any (fun k s' => ∃ i h' tk m', k = items.length - i ∧ i ≤ items.length ∧ s' = { s with heap := h', toks := tk } ∧ h'.IsListIter I P i ∧ Fr h₀ env.locals h' m' ∧ News h₀ env.locals h' news ∧ ∀ z, z ≠ f1 → z ≠ f2 → z ≠ f3 → m' z = m z) ?_ (items.length - 0)
    ⟨0, H1, _, m, rfl, Nat.zero_le _, rfl, start, F1, N1, fun _ _ _ _ => rfl⟩
  rintro k s' ⟨i, h₂, tk₂, m₂, rfl, hi, rfl, hit, F₂, N₂, hm₂⟩
  by_cases hlt' : i < items.length
  · refine W.item i _ _ _ hlt' ⟨hit, News.isList N₂ hP⟩ fun v h₃ tk₃ hv hst₃ hk₃ => ?_
    have hv' : items[i]? = some v := by simpa using hv
    obtain ⟨a, x, y, t, u, rfl, hm, b1, b2, b3, b4⟩ := hall v (List.mem_of_getElem? hv')
    have F₃ := LCg.fr_but F₂ hk₃ hIL hI0
    have N₃ := LCg.news_but N₂ hk₃ offI
    obtain ⟨oI, hoI, hcI, hdI⟩ := hst₃.1
    have N₄ : News h₀ env.locals h₃ ((I, oI) :: news) := fun p hp => by
      rcases List.mem_cons.mp hp with rfl | hp
      · exact ⟨hoI, Ne.symm hIL, hI0⟩
      · exact N₃ p hp
    dsimp only
    have hgo : wpAny (model prog w) A (letOwnedTupleGo (.Tuple [.Name f1 q1, .Name f2 q2] x1 qt) (.ref I) (.ref a)) (fun _ s₁' => s₁' = { s with heap := h₃, toks := tk₃ }) (notedBy (model prog w) A env fun e s' => R (.error e) s') { s with heap := h₃, toks := tk₃ } := by
      unfold letOwnedTupleGo
      refine wpAny_bind (wpAny_load hoI ?_)
      rw [hcI, hdI]
      exact wpAny_pure rfl
    refine wpAny_mono hgo (fun _ s₁' e => ?_) fun _ _ e => e
    subst e
    refine kun_list F₃ N₄ (News.isList N₃ hm) hh rfl rfl fun h₄ F₄ N₅ => ?_
    refine wpAny_assignInOrder_more (wpAny_assign_Name (wpAny_storeName_local hk1 F₄.ns (fun h₅ hn₅ hs₅ => ?_) hp))
    have F₅ := F₄.set hn₅ hs₅
    have N₆ := N₅.set hs₅
    refine wpAny_assignInOrder_more (wpAny_assign_Name (wpAny_storeName_local hk2 F₅.ns (fun h₆ hn₆ hs₆ => ?_) hp))
    have F₆ := F₅.set hn₆ hs₆
    have N₇ := N₆.set hs₆
    refine wpAny_assignInOrder_none ?_
    refine wpAny_mono (turn x y t u h₆ _ m₂ I oI _ b1 b2 b3 b4 hm₂ F₆ N₇) (fun f s₇ h₇ => ?_) fun _ _ e => e
    obtain ⟨rfl, h', tk', m'', rfl, F₈, hm₈, N₈⟩ := h₇
    exact ⟨items.length - (i + 1), by omega, i + 1, h', tk', m'', rfl, hlt', rfl, ⟨oI, (N₈ (I, oI) List.mem_cons_self).1, hcI, hdI⟩, F₈, fun p hp => N₈ p (List.mem_cons_of_mem _ hp), hm₈⟩
  · obtain rfl : i = items.length := Nat.le_antisymm hi (Nat.not_lt.mp hlt')
    refine W.done _ _ _ ⟨hit, News.isList N₂ hP⟩ fun h₃ tk₃ hk₃ => ?_
    dsimp only
    exact wpAny_execs_nil (done h₃ tk₃ m₂ hm₂ (LCg.fr_but F₂ hk₃ hIL hI0) (LCg.news_but N₂ hk₃ offI))

theorem iter_turns {x : Str} {px : Pos} {r : Addr} {a b : Int} {t u v : Tok} {n : Nat} {E : Value → Shared → Prop} (hh : A.handled = none) (F : Fr h₀ env.locals s.heap m) (N : News h₀ env.locals s.heap news)
    (hr : IsRange s.heap r a b 1 t u v) (hsm : Builtin.Range.small a b 1 = true) (hn : Builtin.Range.rangeSize a b 1 = ((n : Nat) : Int)) (hk : env.kindOf x = some .local)
    (hp : (env.scope.kind == .class || (env.scope.kind == .module && env.locals != env.globals)) = false)
    (turn : ∀ (j : Int) (tj : Tok) (h : Heap) (tk : Nat) (m' : Str → Option Value) (I : Addr) (oI : Obj) (E' : Value → Shared → Prop), a ≤ j → j < a + (n : Int) → (∀ z, z ≠ x → m' z = m z) →
      Fr h₀ env.locals h (fun z => if z = x then some (.int j tj) else m' z) → News h₀ env.locals h ((I, oI) :: news) →
      wpAny (model prog w) A (execs body env) (fun f s' => f = .next ∧ ∃ h' tk' m'', s' = { s with heap := h', toks := tk' } ∧ Fr h₀ env.locals h' m'' ∧ (∀ z, z ≠ x → m'' z = m z) ∧ News h₀ env.locals h' ((I, oI) :: news)) E' { s with heap := h, toks := tk })
    (done : ∀ (h : Heap) (tk : Nat) (m' : Str → Option Value), (∀ z, z ≠ x → m' z = m z) → Fr h₀ env.locals h m' → News h₀ env.locals h news → R (.ok .next) { s with heap := h, toks := tk }) :
    wpAny (model prog w) A (pyIter (.ref r)) (fun it s₂ => codeAny (model prog w) A (.forLoop (.Name x px) it body [] env) R s₂) E s := by
  refine wpAny_pyIter_range hr hsm ?_
  have hIL : env.locals ≠ s.heap.objs.size := Nat.ne_of_lt F.ns.lt
  have hI0 : h₀.get? s.heap.objs.size = none := next_is_new F
  have offI : ∀ p ∈ news, p.1 ≠ s.heap.objs.size := fun p hp => Nat.ne_of_lt (Heap.lt_size (N p hp).1)
  have W := LCg.range_walks (prog := prog) (w := w) (A := A) (I := s.heap.objs.size) hh a n
  have start : IsRangeIter (s.heap.push { cls := .type "range_iterator", data := .fields #[rawInt a, rawInt (Builtin.Range.rangeSize a b 1), rawInt 1] }) s.heap.objs.size (a + (0 : Nat) * 1) ((n : Int) - (0 : Nat)) 1 := by
    show IsRangeIter _ _ _ _ _
    rw [hn]
    simpa using Heap.get?_push_size _ rfl
  have F1 : Fr h₀ env.locals (s.heap.push { cls := .type "range_iterator", data := .fields #[rawInt a, rawInt (Builtin.Range.rangeSize a b 1), rawInt 1] }) m := F.push _
  have N1 : News h₀ env.locals (s.heap.push { cls := .type "range_iterator", data := .fields #[rawInt a, rawInt (Builtin.Range.rangeSize a b 1), rawInt 1] }) news := N.grown fun _ _ e => Heap.get?_push_of_some _ e
  generalize s.heap.push { cls := .type "range_iterator", data := .fields #[rawInt a, rawInt (Builtin.Range.rangeSize a b 1), rawInt 1] } = H1 at start F1 N1 ⊢
  generalize s.heap.objs.size = I at hIL hI0 offI W start ⊢
  refine codeAny_forLoop (fun k s' => ∃ i h' tk m', k = n - i ∧ i ≤ n ∧ s' = { s with heap := h', toks := tk } ∧ IsRangeIter h' I (a + (i : Nat) * 1) ((n : Int) - (i : Nat)) 1 ∧ Fr h₀ env.locals h' m' ∧ News h₀ env.locals h' news ∧ ∀ z, z ≠ x → m' z = m z) ?_ (n - 0)
    ⟨0, H1, _, m, rfl, Nat.zero_le _, rfl, start, F1, N1, fun _ _ => rfl⟩
  rintro k s' ⟨i, h₂, tk₂, m₂, rfl, hi, rfl, hit, F₂, N₂, hm₂⟩
  by_cases hlt' : i < n
  · refine W.item i _ _ _ hlt' hit fun v h₃ tk₃ hv hst₃ hk₃ => ?_
    obtain ⟨tj, rfl⟩ := hv
    have F₃ := LCg.fr_but F₂ hk₃ hIL hI0
    have N₃ := LCg.news_but N₂ hk₃ offI
    have hst' : h₃.get? I = some _ := hst₃
    have N₄ : News h₀ env.locals h₃ ((I, _) :: news) := fun p hp => by
      rcases List.mem_cons.mp hp with rfl | hp
      · exact ⟨hst', Ne.symm hIL, hI0⟩
      · exact N₃ p hp
    dsimp only
    refine wpAny_assign_Name (wpAny_storeName_local hk F₃.ns (fun h₅ hn₅ hs₅ => ?_) hp)
    have F₅ := F₃.set hn₅ hs₅
    have N₆ := N₄.set hs₅
    refine wpAny_mono (turn (a + (i : Int)) tj h₅ _ m₂ I _ _ (by omega) (by omega) hm₂ F₅ N₆) (fun f s₇ h₇ => ?_) fun _ _ e => e
    obtain ⟨rfl, h', tk', m'', rfl, F₈, hm₈, N₈⟩ := h₇
    exact ⟨n - (i + 1), by omega, i + 1, h', tk', m'', rfl, hlt', rfl, (N₈ (I, _) List.mem_cons_self).1, F₈, fun p hp => N₈ p (List.mem_cons_of_mem _ hp), hm₈⟩
  · obtain rfl : i = n := Nat.le_antisymm hi (Nat.not_lt.mp hlt')
    refine W.done _ _ _ hit fun h₃ tk₃ hk₃ => ?_
    dsimp only
    exact wpAny_execs_nil (done h₃ tk₃ m₂ hm₂ (LCg.fr_but F₂ hk₃ hIL hI0) (LCg.news_but N₂ hk₃ offI))
end
theorem off3 {f1 f2 f3 : Str} {m m' : Str → Option Value} {v1 v2 : Value} (h : ∀ z, z ≠ f1 → z ≠ f2 → z ≠ f3 → m' z = m z) :
    (fun z => if z = f2 then some v2 else if z = f1 then some v1 else m' z) = fun z => if z = f2 then some v2 else if z = f1 then some v1 else if z = f3 then m' z else m z := by
  funext z
  by_cases e2 : z = f2
  · simp [e2]
  · by_cases e1 : z = f1
    · simp [e1]
    · by_cases e3 : z = f3
      · simp only [if_neg e2, if_neg e1, if_pos e3]
      · simp only [if_neg e2, if_neg e1, if_neg e3]
        exact h z e1 e2 e3
theorem off1 {x : Str} {m m' : Str → Option Value} {v : Value} (h : ∀ z, z ≠ x → m' z = m z) : (fun z => if z = x then some v else m' z) = fun z => if z = x then some v else m z := by
  funext z
  by_cases e : z = x
  · simp [e]
  · simp only [if_neg e]; exact h z e
end Mine
end

section
open PySem PySem.W PyProof.Rows
namespace Mine
set_option maxRecDepth 100000
set_option maxHeartbeats 8000000
local macro_rules | `(tactic| walk_at "binaryOp FloorDiv int int") => `(tactic| (k_here; (with_reducible show wpAny _ _ (binaryOp Operator.FloorDiv (Value.int _ _) (Value.int (_ ^ _) _)) _ _ _); refine div_pow (by decide) (by decide) (by omega) ?_))
theorem outs_in {f : Int → Int → Int} {cnt : Nat} {ns : List Int} (h : ∀ n k, 0 ≤ f n k ∧ f n k < 256) : ∀ v ∈ outs f cnt ns, 0 ≤ v ∧ v < 256 := by
  intro v hv
  obtain ⟨n, _, hv⟩ := List.mem_flatMap.1 hv
  obtain ⟨k, _, rfl⟩ := List.mem_map.1 hv
  exact h n k
theorem row_in {ns : List Int} : KBa.In (outs (fun n k => ((n.fdiv 65536).fdiv (256 ^ k.toNat)).fmod 256) 3 ns ++ [3, 239, 224, 248, 8, 63]) := by
  intro v hv
  rcases List.mem_append.1 hv with hv | hv
  · refine outs_in (fun n k => ?_) v hv
    rw [fmod_pos (by decide)]
    omega
  · simp only [List.mem_cons, List.not_mem_nil, or_false] at hv
    omega
theorem pairs_all {p0 p1 q0 : Addr × Obj} {tail rest : List (Addr × Obj)} {a b c d : Addr} {vs : List Value} {x1 x2 x3 x4 y1 y2 y3 y4 : Int} {t1 t2 t3 t4 u1 u2 u3 u4 : Tok} (hv : ∀ v ∈ vs, PairIn tail v)
    (h1 : 0 ≤ x1 ∧ x1 < 256 ∧ 0 ≤ y1 ∧ y1 < 256) (h2 : 0 ≤ x2 ∧ x2 < 256 ∧ 0 ≤ y2 ∧ y2 < 256) (h3 : 0 ≤ x3 ∧ x3 < 256 ∧ 0 ≤ y3 ∧ y3 < 256) (h4 : 0 ≤ x4 ∧ x4 < 256 ∧ 0 ≤ y4 ∧ y4 < 256) :
    ∀ v ∈ #[Value.ref a, .ref b, .ref c, .ref d].toList ++ vs.toArray.toList, PairIn (p0 :: p1 :: (tail ++ (q0 :: (d, listOf #[.int x4 t4, .int y4 u4] 0) :: (c, listOf #[.int x3 t3, .int y3 u3] 0) :: (b, listOf #[.int x2 t2, .int y2 u2] 0) :: (a, listOf #[.int x1 t1, .int y1 u1] 0) :: rest))) v := by
  intro v hm
  rcases List.mem_append.1 hm with hm | hm
  · have hm' : v ∈ [Value.ref a, .ref b, .ref c, .ref d] := hm
    simp only [List.mem_cons, List.not_mem_nil, or_false] at hm'
    rcases hm' with rfl | rfl | rfl | rfl
    · exact ⟨a, x1, y1, t1, u1, rfl, by simp [pairObj], h1⟩
    · exact ⟨b, x2, y2, t2, u2, rfl, by simp [pairObj], h2⟩
    · exact ⟨c, x3, y3, t3, u3, rfl, by simp [pairObj], h3⟩
    · exact ⟨d, x4, y4, t4, u4, rfl, by simp [pairObj], h4⟩
  · refine (hv v hm).mono fun p hp => ?_
    exact List.mem_cons_of_mem _ (List.mem_cons_of_mem _ (List.mem_append_left _ hp))
theorem lawT : PySem.Challenge.rw_pa0019_01.Holds := hd (by
  k_go0
  (all_goals try k_fold)
  repeat' (((fail_if_success (with_reducible show wpAny _ _ (exec (Stmt.Assign [Expr.Name (Str.ofString "drawn") _] _ _) _) _ _ _)); (first | (k_unfold; (try dsimp only)) | (k_end; wrow_close) | walk1 | (dsimp only; walk1) | (leave1; walk_say "STEP leave1"; try dsimp only))))
  (rename IntsAre _ (List.map _ _) => hI8)
  obtain ⟨nums, hIn, hnl⟩ : ∃ nums, IntsAre _ nums ∧ nums.length ≤ 3 := ⟨_, hI8, by simp only [List.length_map, List.length_take]; omega⟩
  clear hI8
  (try (rename List.length _ = List.length (List.map _ _) => hL8; clear hL8))
  k_dflt (refine' Assign_comp2 (by k_asm) 3 (fun n k => ((n.fdiv 65536).fdiv (256 ^ k.toNat)).fmod 256) rfl ?hsw ?hclos ?hcell ?hkind ?hnames ?hx ?hx2 ?hxx ?hy ?hp ?hh ?hc ?hr ?_ ?hs ?hs2)
  (case hsw => with_unfolding_all rfl)
  (case hclos => with_unfolding_all rfl)
  (case hcell => decide)
  (case hkind => rfl)
  (case hnames => decide)
  (case hx => rfl)
  (case hx2 => rfl)
  (case hxx => decide)
  (case hy => rfl)
  (case hp => rfl)
  (case hh => rfl)
  (case hc => decide)
  (case hr => decide)
  (case hs => intro _; rfl)
  (case hs2 => intro _ _; rfl)
  (first | (k_unfold; (try dsimp only)) | (k_end; wrow_close) | walk1 | (dsimp only; walk1) | (leave1; walk_say "STEP leave1"; try dsimp only))
  refine ⟨_, _, nums, _, rfl, by k_asm, by k_asm, News.isList (by k_asm) (by k_mem), hIn, by rw [sizeLine_eq]; omega, ?_, ?_, ?_⟩
  · intro C oC m₂ h tk n t E' hn9 hC9 hx9 F9 N9
    (try k_fold)
    repeat' (first | (k_unfold; (try dsimp only)) | (k_end; wrow_close) | walk1 | (dsimp only; walk1) | (leave1; walk_say "STEP leave1"; try dsimp only))
    (rename ∀ (b : Addr) (o : Obj), Heap.get? _ b = some o → Heap.get? _ b = some o => hkk)
    exact hkk _ _ (by assumption)
  · intro C oC m₂ h tk n t k t2 E' hn9 hk0 hk1 hC9 hx9 hx8 F9 N9
    (try k_fold)
    repeat' (first | (k_unfold; (try dsimp only)) | (k_end; wrow_close) | walk1 | (dsimp only; walk1) | (leave1; walk_say "STEP leave1"; try dsimp only))
  · intro D ys h tk F9 N9 hl9 hI9
    (try k_fold)
    (try k_lt hl9)
    have hol := outs_length (fun n k => ((n.fdiv 65536).fdiv (256 ^ k.toNat)).fmod 256) 3 nums
    repeat' (((fail_if_success (with_reducible show wpAny _ _ (call (Value.type "bytes") _) _ _ _)); (first | (k_unfold; (try dsimp only)) | (k_end; wrow_close) | walk1 | (dsimp only; walk1) | (leave1; walk_say "STEP leave1"; try dsimp only))))
    (rename IntsAre _ (outs _ _ _ ++ _) => hIr)
    obtain ⟨rowL, hIr2, hRin, hRl⟩ : ∃ rowL, IntsAre _ rowL ∧ KBa.In rowL ∧ rowL.length = nums.length * 3 + 6 := ⟨_, hIr, row_in, by rw [List.length_append, hol]; rfl⟩
    clear hIr hol
    clear hI9
    (first | (k_unfold; (try dsimp only)) | (k_end; wrow_close) | walk1 | (dsimp only; walk1) | (leave1; walk_say "STEP leave1"; try dsimp only))
    repeat' (((fail_if_success (with_reducible show wpAny _ _ (exec (Stmt.Assign [Expr.Name (Str.ofString "pairs") _] _ _) _) _ _ _)); (first | (k_unfold; (try dsimp only)) | (k_end; wrow_close) | walk1 | (dsimp only; walk1) | (leave1; walk_say "STEP leave1"; try dsimp only))))
    repeat' (((fail_if_success (with_reducible show wpAny _ _ (eval (Expr.ListComp _ _ _ _) _) _ _ _)); (first | (k_unfold; (try dsimp only)) | (k_end; wrow_close) | walk1 | (dsimp only; walk1) | (leave1; walk_say "STEP leave1"; try dsimp only))))
    k_dflt (refine' ListComp_pairs (by k_asm) ?hclos ?hcell ?hkind ?hnames ?hx ?_ ?hs)
    (case hclos => with_unfolding_all rfl)
    (case hcell => decide)
    (case hkind => rfl)
    (case hnames => decide)
    (case hx => rfl)
    (case hs => intro _; rfl)
    (first | (k_unfold; (try dsimp only)) | (k_end; wrow_close) | walk1 | (dsimp only; walk1) | (leave1; walk_say "STEP leave1"; try dsimp only))
    refine ⟨_, _, nums, _, _, rfl, rfl, by k_asm, by k_asm, by k_mem, hIn, by rw [sizeLine_eq, hIn.length]; omega, ?_, ?_⟩
    · intro n t C oC m₂ h tk E' led hn9 hC9 hx9 F9 N9 hm9
      (try k_fold)
      repeat' (((fail_if_success (with_reducible show Exists _)); (first | (k_unfold; (try dsimp only)) | (k_end; wrow_close) | walk1 | (dsimp only; walk1) | (leave1; walk_say "STEP leave1"; try dsimp only))))
      exact ⟨_, _, _, _, _, _, _, rfl, rfl, by k_asm, by k_asm, by first | assumption | exact kst_ltOf (by assumption), by ((rw [fmod_pos (by decide)]; omega)), by ((rw [fmod_pos (by decide)]; omega)), by ((rw [fmod_pos (by decide)]; omega)), by ((rw [fmod_pos (by decide)]; omega))⟩
    · intro D vs tail h tk F9 N9 hall hvl
      have hvl2 : vs.length ≤ 3 := by rw [hvl, hIn.length]; exact hnl
      k_dflt (refine' kmk_add_lit ?kF ?kN ?kA ?kB ?kE ?kG ?kZ)
      (case kF => exact F9)
      (case kN => exact N9)
      (case kA => exact News.isList N9 (List.mem_cons_of_mem _ (List.mem_append_right _ (List.Mem.head _))))
      (case kB => exact News.isList N9 (List.Mem.head _))
      (case kE => exact rfl)
      (case kZ => ((simp only [sizeLine_eq]); (show 4 + vs.length ≤ _); omega))
      intro D2 h2 F2 N2 l2
      (try k_fold)
      repeat' (((fail_if_success (with_reducible show wpAny _ _ (exec (Stmt.For _ _ _ _ _) _) _ _ _)); (first | (k_unfold; (try dsimp only)) | (k_end; wrow_close) | walk1 | (dsimp only; walk1) | (leave1; walk_say "STEP leave1"; try dsimp only))))
      refine wpAny_For ?_ (by intro _; rfl)
      repeat' (((fail_if_success (with_reducible show Exists _)); (first | (k_unfold; (try dsimp only)) | (k_end; wrow_close) | walk1 | (dsimp only; walk1) | (leave1; walk_say "STEP leave1"; try dsimp only))))
      k_dflt (refine' iter_pairs (f3 := Str.ofString "size") rfl ?pF ?pN ?pP ?pAll rfl rfl rfl ?pT ?pD)
      (case pF => k_asm)
      (case pN => k_asm)
      (case pP => exact List.Mem.head _)
      (case pAll => exact pairs_all hall (by decide) (by decide) (by decide) (by decide))
      (case pT =>
        intro x y t u h tk m' I oI E' b1 b2 b3 b4 hm F N
        rw [off3 hm] at F
        (try k_fold)
        repeat' (((fail_if_success (with_reducible show wpAny _ _ (exec (Stmt.For _ _ _ _ _) _) _ _ _)); (first | (k_unfold; (try dsimp only)) | (k_end; wrow_close) | walk1 | (dsimp only; walk1) | (leave1; walk_say "STEP leave1"; try dsimp only))))
        refine wpAny_For ?_ (by intro _; rfl)
        repeat' (first | (k_unfold; (try dsimp only)) | (k_end; wrow_close) | walk1 | (dsimp only; walk1) | (leave1; walk_say "STEP leave1"; try dsimp only))
        (rename IsRange _ _ _ _ _ _ _ _ => hRg)
        k_dflt (refine' iter_turns rfl ?rF ?rN hRg (small_one (by omega) (by omega) (by omega) (by omega)) (rangeSize_nat _ _) rfl rfl ?rT ?rD)
        (case rF => k_asm)
        (case rN => k_asm)
        (case rT =>
          intro j tj h tk m2 I2 oI2 E2 j0 j1 hm2 F N
          rw [off1 hm2] at F
          (try k_fold)
          repeat' (((fail_if_success (with_reducible show wpAny _ _ (call (Value.ref 124) _) _ _ _)); (first | (k_unfold; (try dsimp only)) | (k_end; wrow_close) | walk1 | (dsimp only; walk1) | (leave1; walk_say "STEP leave1"; try dsimp only))))
          k_dflt (refine' useV (c_holds _ _ _ _ _ _ _ _ (by assumption) (by ((simp only [List.length_take, List.length_drop]; omega))) (by assumption) (by assumption) (by assumption) (by assumption)) ?k1 ?k2 ?k3 ?k4 ?k5 ?kK ?kd ?ku trivial ?_)
          (((case k1 => k_asm); (case k2 => k_asm); (case k3 => k_asm); (case k4 => k_asm); (case k5 => k_asm); (case kK => first | exact rfl | assumption); (case kd => ktr_room); (case ku => ktr_units)))
          intro t9 h9 tk9 F9 N9
          (try dsimp only)
          (try k_fold)
          repeat' (((fail_if_success (with_reducible show And (Eq _ Flow.next) _)); (first | (k_unfold; (try dsimp only)) | (k_end; wrow_close) | walk1 | (dsimp only; walk1) | (leave1; walk_say "STEP leave1"; try dsimp only))))
          refine And.intro rfl ⟨_, _, _, rfl, by k_asm, fun z hz => if_neg hz, by k_asm⟩)
        (case rD =>
          intro h tk m2 hm2 F N
          (try dsimp only)
          repeat' (((fail_if_success (with_reducible show And (Eq _ Flow.next) _)); (first | (k_unfold; (try dsimp only)) | (k_end; wrow_close) | walk1 | (dsimp only; walk1) | (leave1; walk_say "STEP leave1"; try dsimp only))))
          refine And.intro rfl ⟨_, _, _, rfl, F, fun z h1 h2 h3 => (hm2 z h3).trans ((if_neg h2).trans ((if_neg h1).trans (if_neg h3))), N⟩))
      (case pD =>
        intro h tk m' hm F N
        repeat' (first | (k_unfold; (try dsimp only)) | (k_end; wrow_close) | walk1 | (dsimp only; walk1) | (leave1; walk_say "STEP leave1"; try dsimp only))))
end Mine
end

end

theorem PySem.Challenge.cw_pa0019_01_holds : PySem.Challenge.rw_pa0019_01.Holds :=
  Mine.lawT

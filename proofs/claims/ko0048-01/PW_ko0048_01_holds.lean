import PyProof.Rows.All
import PyProof.Rows.SortShell
import PyProof.Rows.SortWalk
import Wide.All
import Wide.BytesRules
import OpenK.AllK
import Wide.FinOn
import KE.KToBytes
import PySem.Challenge.RW_ko0048_01
set_option Elab.async false
section
open PySem PyProof.Rows
namespace Mine

/-- a pair that the sort carries: an int as its own key -/
def IntPair (p : Keyed) : Prop := ∃ n t, p = (.int n t, .int n t)
def kv (p : Keyed) : Int := numOf p.1
def AllP (xs : List Keyed) : Prop := ∀ p ∈ xs, IntPair p

section
variable {prog : Program} {w : World} {A : Around} {E : Value → Shared → Prop} {s : Shared}

theorem wpS_lt {x y : Keyed} {st : SortSt} {Q : Option Bool → SortSt → Prop} (hk : kindOf st = oneType') (hx : IntPair x) (hy : IntPair y)
    (h : Q (some (decide (kv x < kv y))) st) : wpS (model prog w) A E s (lt' x y) Q st := by
  obtain ⟨a, t, rfl⟩ := hx
  obtain ⟨b, u, rfl⟩ := hy
  rw [lt'_eq]
  refine wpS_bind (wpS_get ?_)
  rw [hk, keyLt'_oneType]
  refine wpS_bind (wpS_lift (wpAny_attempt (oneLt_int ⟨rfl, ?_⟩)))
  exact wpS_pure h

theorem wpS_elem {arr : Array Keyed} {i : Nat} {st : SortSt} {Q : Keyed → SortSt → Prop} (hi : i < arr.size) (h : Q arr[i] st) :
    wpS (model prog w) A E s (elem' arr i) Q st := by
  rw [elem'_eq, getElem?_pos arr i hi]
  exact wpS_pure h

theorem AllP.at {arr : Array Keyed} (h : AllP arr.toList) {i : Nat} (hi : i < arr.size) : IntPair arr[i] := h _ (by simp)

theorem kv_K {arr : Array Keyed} {i : Nat} (hi : i < arr.size) : kv arr[i] = K arr i := (K_eq hi).symm

theorem wpS_ltKeys {st : SortSt} {i j : Nat} {Q : Option Bool → SortSt → Prop} (hk : kindOf st = oneType') (ha : AllP (arrOf st).toList)
    (hi : i < (arrOf st).size) (hj : j < (arrOf st).size) (h : Q (some (decide (K (arrOf st) i < K (arrOf st) j))) st) :
    wpS (model prog w) A E s (ltAt' i j) Q st := by
  rw [ltAt'_eq]
  refine wpS_bind (wpS_get ?_)
  refine wpS_bind (wpS_elem hi (wpS_bind (wpS_elem hj (wpS_lt hk (ha.at hi) (ha.at hj) ?_))))
  rw [kv_K hi, kv_K hj]
  exact h

/-- what the gallop asks of the item at i -/
def bey (left : Bool) (key : Keyed) (arr : Array Keyed) (base i : Nat) : Bool :=
  if left then decide (K arr (base + i) < kv key) else !decide (kv key < K arr (base + i))

theorem wpS_beyond {left : Bool} {key : Keyed} {arr : Array Keyed} {base i : Nat} {st : SortSt} {Q : Option Bool → SortSt → Prop}
    (hk : kindOf st = oneType') (hkey : IntPair key) (ha : AllP arr.toList) (hi : base + i < arr.size) (h : Q (some (bey left key arr base i)) st) :
    wpS (model prog w) A E s (do
      let x ← elem' arr (base + i)
      if left = true then lt' x key else do
        let r ← lt' key x
        pure (r.map (!·))) Q st := by
  refine wpS_bind (wpS_elem hi ?_)
  cases left with
  | true =>
    simp only [if_true]
    refine wpS_lt hk (ha.at hi) hkey ?_
    rw [kv_K hi]
    exact h
  | false =>
    simp only [Bool.false_eq_true, if_false]
    refine wpS_bind (wpS_lt hk hkey (ha.at hi) (wpS_pure ?_))
    rw [kv_K hi]
    exact h

theorem bey_mono {left : Bool} {key : Keyed} {arr : Array Keyed} {base n : Nat} (hs : ∀ i j, i ≤ j → j < n → K arr (base + i) ≤ K arr (base + j))
    {i j : Nat} (hij : i ≤ j) (hj : j < n) (hb : bey left key arr base j = true) : bey left key arr base i = true := by
  have := hs i j hij hj
  unfold bey at hb ⊢
  cases left
  · simp only [Bool.false_eq_true, if_false, Bool.not_eq_true', decide_eq_false_iff_not] at hb ⊢; omega
  · simp only [if_true, decide_eq_true_eq] at hb ⊢; omega

def gallop' : Bool → Keyed → Array Keyed → Nat → Nat → Nat → StateT SortSt Sem (Option Nat) := sortPriv% PySem.Builtin.gallop

theorem wpS_gallop {left : Bool} {key : Keyed} {arr : Array Keyed} {base n hint : Nat} {Q : Option Nat → SortSt → Prop} {st : SortSt}
    (hk : kindOf st = oneType') (hkey : IntPair key) (ha : AllP arr.toList) (hb : base + n ≤ arr.size) (hh : hint < n)
    (hs : ∀ i j, i ≤ j → j < n → K arr (base + i) ≤ K arr (base + j))
    (h : ∀ k, k ≤ n → (∀ i, i < k → bey left key arr base i = true) → (∀ i, k ≤ i → i < n → bey left key arr base i = false) → Q (some k) st) :
    wpS (model prog w) A E s (gallop' left key arr base n hint) Q st := by
  have mono := @bey_mono left key arr base n hs
  unfold gallop'
  refine wpS_bind (wpS_beyond hk hkey ha (by omega) ?_)
  generalize hB : bey left key arr base = B at *
  dsimp only
  by_cases hr : B hint = true
  · rw [hr]
    simp only [if_true]
    refine wpS_bind (wpS_mono (wpS_forRange
      (I := fun x c st' => st' = st ∧ ∃ la o, c = (none, la, o) ∧ B (hint + la) = true ∧ hint + la < n ∧ la < o ∧ x < o)
      (Q := fun c st' => st' = st ∧ ∃ la o, c = (none, la, o) ∧ B (hint + la) = true ∧ hint + la < n ∧ la < o ∧ (n - hint ≤ o ∨ B (hint + o) = false)) ?step ?fin ?init) ?post)
    case init => exact ⟨rfl, 0, 1, rfl, hr, by omega, by omega, by omega⟩
    case fin =>
      rintro c st' ⟨rfl, la, o, rfl, h1, h2, h3, h4⟩
      exact ⟨rfl, la, o, rfl, h1, h2, h3, .inl (by omega)⟩
    case step =>
      rintro x c st' _ hxn ⟨rfl, la, o, rfl, h1, h2, h3, h4⟩
      dsimp only
      by_cases hge : o ≥ n - hint
      · rw [if_pos hge]
        exact wpS_pure ⟨rfl, la, o, rfl, h1, h2, h3, .inl hge⟩
      · rw [if_neg hge]
        refine wpS_bind (wpS_beyond hk hkey ha (by omega) ?_)
        rw [hB]
        dsimp only
        by_cases hm : B (hint + o) = true
        · rw [hm]
          exact wpS_pure ⟨rfl, o, 2 * o + 1, rfl, hm, by omega, by omega, by omega⟩
        · have hm' : B (hint + o) = false := by simpa using hm
          rw [hm']
          exact wpS_pure ⟨rfl, la, o, rfl, h1, h2, h3, .inr hm'⟩
    case post =>
      rintro c st' ⟨rfl, la, o, rfl, h1, h2, h3, h4⟩
      dsimp only
      refine wpS_bind (wpS_mono (wpS_forRange
        (I := fun x c st'' => st'' = st' ∧ ∃ lo hi, c = (none, lo, hi) ∧ lo ≤ hi ∧ hi ≤ n ∧ hi - lo + x ≤ n ∧ (∀ i, i < lo → B i = true) ∧ (∀ i, hi ≤ i → i < n → B i = false))
        (Q := fun c st'' => st'' = st' ∧ ∃ k, c = (none, k, k) ∧ k ≤ n ∧ (∀ i, i < k → B i = true) ∧ (∀ i, k ≤ i → i < n → B i = false)) ?step2 ?fin2 ?init2) ?post2)
      case init2 =>
        refine ⟨rfl, _, _, rfl, by omega, by omega, by omega, fun i hi => mono (j := hint + la) (by omega) h2 h1, fun i h5 h6 => ?_⟩
        rcases h4 with h4 | h4
        · exfalso; omega
        · cases hbi : B i with
          | false => rfl
          | true =>
            have := mono (i := hint + o) (j := i) (by omega) h6 hbi
            rw [h4] at this; cases this
      case fin2 =>
        rintro c st'' ⟨rfl, lo, hi, rfl, g1, g2, g3, g4, g5⟩
        have : lo = hi := by omega
        subst this
        exact ⟨rfl, lo, rfl, g2, g4, g5⟩
      case step2 =>
        rintro x c st'' _ hxn ⟨rfl, lo, hi, rfl, g1, g2, g3, g4, g5⟩
        dsimp only
        by_cases hge : lo ≥ hi
        · rw [if_pos hge]
          have : lo = hi := by omega
          subst this
          exact wpS_pure ⟨rfl, lo, rfl, g2, g4, g5⟩
        · rw [if_neg hge]
          refine wpS_bind (wpS_beyond hk hkey ha (by omega) ?_)
          rw [hB]
          dsimp only
          by_cases hm : B (lo + (hi - lo) / 2) = true
          · rw [hm]
            exact wpS_pure ⟨rfl, lo + (hi - lo) / 2 + 1, hi, rfl, by omega, by omega, by omega, fun i hi' => mono (j := lo + (hi - lo) / 2) (by omega) (by omega) hm, g5⟩
          · have hm' : B (lo + (hi - lo) / 2) = false := by simpa using hm
            rw [hm']
            refine wpS_pure ⟨rfl, lo, lo + (hi - lo) / 2, rfl, by omega, by omega, by omega, g4, fun i h5 h6 => ?_⟩
            cases hbi : B i with
            | false => rfl
            | true =>
              have := mono (i := lo + (hi - lo) / 2) (j := i) (by omega) h6 hbi
              rw [hm'] at this; cases this
      case post2 =>
        rintro c st'' ⟨rfl, k, rfl, g2, g4, g5⟩
        exact wpS_pure (h k g2 g4 g5)
  · have hr' : B hint = false := by simpa using hr
    rw [hr']
    simp only [Bool.false_eq_true, if_false]
    refine wpS_bind (wpS_mono (wpS_forRange
      (I := fun x c st' => st' = st ∧ ∃ la o, c = (none, la, o) ∧ B (hint - la) = false ∧ la ≤ hint ∧ la < o ∧ x < o)
      (Q := fun c st' => st' = st ∧ ∃ la o, c = (none, la, o) ∧ B (hint - la) = false ∧ la ≤ hint ∧ la < o ∧ (hint + 1 ≤ o ∨ B (hint - o) = true)) ?step ?fin ?init) ?post)
    case init => exact ⟨rfl, 0, 1, rfl, hr', by omega, by omega, by omega⟩
    case fin =>
      rintro c st' ⟨rfl, la, o, rfl, h1, h2, h3, h4⟩
      exact ⟨rfl, la, o, rfl, h1, h2, h3, .inl (by omega)⟩
    case step =>
      rintro x c st' _ hxn ⟨rfl, la, o, rfl, h1, h2, h3, h4⟩
      dsimp only
      by_cases hge : o ≥ hint + 1
      · rw [if_pos hge]
        exact wpS_pure ⟨rfl, la, o, rfl, h1, h2, h3, .inl hge⟩
      · rw [if_neg hge]
        refine wpS_bind (wpS_beyond hk hkey ha (by omega) ?_)
        rw [hB]
        dsimp only
        by_cases hm : B (hint - o) = true
        · rw [hm]
          exact wpS_pure ⟨rfl, la, o, rfl, h1, h2, h3, .inr hm⟩
        · have hm' : B (hint - o) = false := by simpa using hm
          rw [hm']
          exact wpS_pure ⟨rfl, o, 2 * o + 1, rfl, hm', by omega, by omega, by omega⟩
    case post =>
      rintro c st' ⟨rfl, la, o, rfl, h1, h2, h3, h4⟩
      dsimp only
      refine wpS_bind (wpS_mono (wpS_forRange
        (I := fun x c st'' => st'' = st' ∧ ∃ lo hi, c = (none, lo, hi) ∧ lo ≤ hi ∧ hi ≤ n ∧ hi - lo + x ≤ n ∧ (∀ i, i < lo → B i = true) ∧ (∀ i, hi ≤ i → i < n → B i = false))
        (Q := fun c st'' => st'' = st' ∧ ∃ k, c = (none, k, k) ∧ k ≤ n ∧ (∀ i, i < k → B i = true) ∧ (∀ i, k ≤ i → i < n → B i = false)) ?step2 ?fin2 ?init2) ?post2)
      case init2 =>
        refine ⟨rfl, _, _, rfl, by omega, by omega, by omega, fun i hi => ?_, fun i h5 h6 => ?_⟩
        · rcases h4 with h4 | h4
          · exfalso; omega
          · exact mono (j := hint - o) (by omega) (by omega) h4
        · cases hbi : B i with
          | false => rfl
          | true =>
            have := mono (i := hint - la) (j := i) (by omega) h6 hbi
            rw [h1] at this; cases this
      case fin2 =>
        rintro c st'' ⟨rfl, lo, hi, rfl, g1, g2, g3, g4, g5⟩
        have : lo = hi := by omega
        subst this
        exact ⟨rfl, lo, rfl, g2, g4, g5⟩
      case step2 =>
        rintro x c st'' _ hxn ⟨rfl, lo, hi, rfl, g1, g2, g3, g4, g5⟩
        dsimp only
        by_cases hge : lo ≥ hi
        · rw [if_pos hge]
          have : lo = hi := by omega
          subst this
          exact wpS_pure ⟨rfl, lo, rfl, g2, g4, g5⟩
        · rw [if_neg hge]
          refine wpS_bind (wpS_beyond hk hkey ha (by omega) ?_)
          rw [hB]
          dsimp only
          by_cases hm : B (lo + (hi - lo) / 2) = true
          · rw [hm]
            exact wpS_pure ⟨rfl, lo + (hi - lo) / 2 + 1, hi, rfl, by omega, by omega, by omega, fun i hi' => mono (j := lo + (hi - lo) / 2) (by omega) (by omega) hm, g5⟩
          · have hm' : B (lo + (hi - lo) / 2) = false := by simpa using hm
            rw [hm']
            refine wpS_pure ⟨rfl, lo, lo + (hi - lo) / 2, rfl, by omega, by omega, by omega, g4, fun i h5 h6 => ?_⟩
            cases hbi : B i with
            | false => rfl
            | true =>
              have := mono (i := lo + (hi - lo) / 2) (j := i) (by omega) h6 hbi
              rw [hm'] at this; cases this
      case post2 =>
        rintro c st'' ⟨rfl, k, rfl, g2, g4, g5⟩
        exact wpS_pure (h k g2 g4 g5)
end
end Mine
end
section
open PySem PyProof.Rows
set_option linter.unusedVariables false
namespace Mine

def Pw (xs : List Keyed) : Prop := xs.Pairwise fun x y => kv x ≤ kv y

theorem Pw.app {xs ys : List Keyed} (hx : Pw xs) (hy : Pw ys) (h : ∀ x ∈ xs, ∀ y ∈ ys, kv x ≤ kv y) : Pw (xs ++ ys) := List.pairwise_append.mpr ⟨hx, hy, h⟩
theorem Pw.left {xs ys : List Keyed} (h : Pw (xs ++ ys)) : Pw xs := (List.pairwise_append.mp h).1
theorem Pw.right {xs ys : List Keyed} (h : Pw (xs ++ ys)) : Pw ys := (List.pairwise_append.mp h).2.1
theorem Pw.cross {xs ys : List Keyed} (h : Pw (xs ++ ys)) : ∀ x ∈ xs, ∀ y ∈ ys, kv x ≤ kv y := (List.pairwise_append.mp h).2.2
/-- a front of one list goes over to what is out -/
theorem Pw.over {o x y z : List Keyed} (h1 : Pw (o ++ (x ++ y))) (h2 : Pw (o ++ z)) (h : ∀ p ∈ x, ∀ q ∈ z, kv p ≤ kv q) :
    Pw ((o ++ x) ++ y) ∧ Pw ((o ++ x) ++ z) := by
  rw [← List.append_assoc] at h1
  refine ⟨h1, h1.left.app h2.right fun p hp q hq => ?_⟩
  rcases List.mem_append.mp hp with hp | hp
  · exact h2.cross p hp q hq
  · exact h p hp q hq
theorem Pw.head {x : Keyed} {xs : List Keyed} (h : Pw (x :: xs)) : ∀ y ∈ x :: xs, kv x ≤ kv y := by
  intro y hy
  rcases List.mem_cons.mp hy with rfl | hy
  · exact Int.le_refl _
  · exact (List.pairwise_cons.mp h).1 y hy

/-- all that lies in the list comes out of the two -/
def FromP (a b : Array Keyed) (xs : List Keyed) : Prop := ∀ p ∈ xs, p ∈ a.toList ∨ p ∈ b.toList
theorem FromP.app {a b : Array Keyed} {xs ys : List Keyed} (h1 : FromP a b xs) (h2 : FromP a b ys) : FromP a b (xs ++ ys) := by
  intro p hp
  rcases List.mem_append.mp hp with hp | hp
  · exact h1 p hp
  · exact h2 p hp

structure MRes (a b r : Array Keyed) : Prop where
  pw : Pw r.toList
  pints : FromP a b r.toList
  size : r.size = a.size + b.size

structure MInv (a b out : Array Keyed) (ia ib : Nat) : Prop where
  oa : Pw (out.toList ++ a.toList.drop ia)
  ob : Pw (out.toList ++ b.toList.drop ib)
  pints : FromP a b out.toList
  size : out.size = ia + ib
  la : ia ≤ a.size
  lb : ib ≤ b.size

theorem AllP.app {xs ys : List Keyed} (h1 : AllP xs) (h2 : AllP ys) : AllP (xs ++ ys) := by
  intro p hp
  rcases List.mem_append.mp hp with hp | hp
  · exact h1 p hp
  · exact h2 p hp
theorem AllP.drop {xs : List Keyed} (h : AllP xs) (n : Nat) : AllP (xs.drop n) := fun p hp => h p (List.mem_of_mem_drop hp)
theorem AllP.take {xs : List Keyed} (h : AllP xs) (n : Nat) : AllP (xs.take n) := fun p hp => h p (List.mem_of_mem_take hp)

theorem drop_at {a : Array Keyed} {i : Nat} (hi : i < a.size) : a.toList.drop i = a[i] :: a.toList.drop (i + 1) := by
  have hi' : i < a.toList.length := by simpa using hi
  rw [List.drop_eq_getElem_cons hi']
  rfl
theorem drop_split (a : Array Keyed) (i k : Nat) : a.toList.drop i = (a.toList.drop i).take k ++ a.toList.drop (i + k) := by
  rw [← List.drop_drop, List.take_append_drop]
theorem ext_list (a : Array Keyed) (i k : Nat) : (a.extract i (i + k)).toList = (a.toList.drop i).take k := by
  rw [Array.toList_extract]
  simp [List.extract]
theorem ext_end (a : Array Keyed) (i : Nat) : (a.extract i a.size).toList = a.toList.drop i := by
  rw [Array.toList_extract]
  simp only [List.extract]
  rw [List.take_of_length_le]
  simp

theorem mem_take_K {a : Array Keyed} {i k : Nat} {p : Keyed} (hp : p ∈ (a.toList.drop i).take k) : ∃ j, j < k ∧ i + j < a.size ∧ kv p = K a (i + j) := by
  obtain ⟨j, hj, e⟩ := List.getElem_of_mem hp
  have h1 : j < k ∧ i + j < a.size := by
    simp only [List.length_take, List.length_drop, Array.length_toList] at hj
    omega
  refine ⟨j, h1.1, h1.2, ?_⟩
  rw [← e, ← kv_K h1.2]
  simp

section
variable {a b out : Array Keyed} {ia ib : Nat}
theorem MInv.pushB (h : MInv a b out ia ib) (hb : AllP b.toList) (h1 : ib < b.size) (h2 : ia < a.size) (hle : kv b[ib] ≤ kv a[ia]) : MInv a b (out.push b[ib]) ia (ib + 1) := by
  have hob := h.ob
  have hoa := h.oa
  rw [drop_at h1] at hob
  have hh := Pw.over (o := out.toList) (x := [b[ib]]) (y := b.toList.drop (ib + 1)) (z := a.toList.drop ia) (by simpa using hob) hoa (by
    intro p hp q hq
    rw [List.mem_singleton] at hp
    subst hp
    rw [drop_at h2] at hq hoa
    exact Int.le_trans hle (hoa.right.head q hq))
  refine ⟨by simpa using hh.2, by simpa using hh.1, ?_, by rw [Array.size_push, h.size]; omega, h.la, h1⟩
  rw [Array.toList_push]
  exact h.pints.app fun p hp => by
    rw [List.mem_singleton] at hp
    subst hp
    exact .inr (by simp)
theorem MInv.pushA (h : MInv a b out ia ib) (ha : AllP a.toList) (h1 : ib < b.size) (h2 : ia < a.size) (hle : kv a[ia] ≤ kv b[ib]) : MInv a b (out.push a[ia]) (ia + 1) ib := by
  have hob := h.ob
  have hoa := h.oa
  rw [drop_at h2] at hoa
  have hh := Pw.over (o := out.toList) (x := [a[ia]]) (y := a.toList.drop (ia + 1)) (z := b.toList.drop ib) (by simpa using hoa) hob (by
    intro p hp q hq
    rw [List.mem_singleton] at hp
    subst hp
    rw [drop_at h1] at hq hob
    exact Int.le_trans hle (hob.right.head q hq))
  refine ⟨by simpa using hh.1, by simpa using hh.2, ?_, by rw [Array.size_push, h.size]; omega, h2, h.lb⟩
  rw [Array.toList_push]
  exact h.pints.app fun p hp => by
    rw [List.mem_singleton] at hp
    subst hp
    exact .inl (by simp)
theorem MInv.appA {k : Nat} (h : MInv a b out ia ib) (ha : AllP a.toList) (h1 : ib < b.size) (h2 : ia + k ≤ a.size) (hle : ∀ i, i < k → K a (ia + i) ≤ kv b[ib]) : MInv a b (out ++ a.extract ia (ia + k)) (ia + k) ib := by
  have hob := h.ob
  have hoa := h.oa
  rw [drop_split a ia k] at hoa
  have hh := Pw.over hoa hob (by
    intro p hp q hq
    obtain ⟨j, hj, _, e⟩ := mem_take_K hp
    rw [e]
    rw [drop_at h1] at hq hob
    exact Int.le_trans (hle j hj) (hob.right.head q hq))
  refine ⟨?_, ?_, ?_, ?_, h2, h.lb⟩
  · rw [Array.toList_append, ext_list]; exact hh.1
  · rw [Array.toList_append, ext_list]; exact hh.2
  · rw [Array.toList_append, ext_list]; exact h.pints.app fun p hp => .inl (List.mem_of_mem_drop (List.mem_of_mem_take hp))
  · rw [Array.size_append, Array.size_extract, h.size]; omega
theorem MInv.appB {k : Nat} (h : MInv a b out ia ib) (hb : AllP b.toList) (h1 : ia < a.size) (h2 : ib + k ≤ b.size) (hle : ∀ i, i < k → K b (ib + i) ≤ kv a[ia]) : MInv a b (out ++ b.extract ib (ib + k)) ia (ib + k) := by
  have hob := h.ob
  have hoa := h.oa
  rw [drop_split b ib k] at hob
  have hh := Pw.over hob hoa (by
    intro p hp q hq
    obtain ⟨j, hj, _, e⟩ := mem_take_K hp
    rw [e]
    rw [drop_at h1] at hq hoa
    exact Int.le_trans (hle j hj) (hoa.right.head q hq))
  refine ⟨?_, ?_, ?_, ?_, h.la, h2⟩
  · rw [Array.toList_append, ext_list]; exact hh.2
  · rw [Array.toList_append, ext_list]; exact hh.1
  · rw [Array.toList_append, ext_list]; exact h.pints.app fun p hp => .inr (List.mem_of_mem_drop (List.mem_of_mem_take hp))
  · rw [Array.size_append, Array.size_extract, h.size]; omega
theorem MInv.done (h : MInv a b out ia ib) (ha : AllP a.toList) (hb : AllP b.toList) (he : ia = a.size ∨ ib = b.size) : MRes a b (out ++ a.extract ia a.size ++ b.extract ib b.size) := by
  have hob := h.ob
  have hoa := h.oa
  refine ⟨?_, ?_, ?_⟩
  · rw [Array.toList_append, Array.toList_append, ext_end, ext_end]
    rcases he with rfl | rfl
    · rw [show a.toList.drop a.size = [] from List.drop_of_length_le (by simp), List.append_nil]; exact hob
    · rw [show b.toList.drop b.size = [] from List.drop_of_length_le (by simp), List.append_nil]; exact hoa
  · rw [Array.toList_append, Array.toList_append, ext_end, ext_end]
    exact (h.pints.app fun p hp => .inl (List.mem_of_mem_drop hp)).app fun p hp => .inr (List.mem_of_mem_drop hp)
  · have := h.la
    have := h.lb
    simp only [Array.size_append, Array.size_extract, h.size]
    omega
theorem MInv.last (h : MInv a b out ia ib) (ha : AllP a.toList) (hb : AllP b.toList) (he : ia + 1 = a.size) (hl : ∀ i, i < b.size → K b i ≤ K a ia) : MRes a b (out ++ b.extract ib b.size ++ a.extract ia a.size) := by
  have hob := h.ob
  have hoa := h.oa
  have h2 : ia < a.size := by omega
  have hd : a.toList.drop ia = [a[ia]] := by
    rw [drop_at h2, show a.toList.drop (ia + 1) = [] from List.drop_of_length_le (by simp [he])]
  refine ⟨?_, ?_, ?_⟩
  · rw [Array.toList_append, Array.toList_append, ext_end, ext_end, hd]
    rw [hd] at hoa
    refine hob.app (hoa.right) fun p hp q hq => ?_
    rw [List.mem_singleton] at hq
    subst hq
    rcases List.mem_append.mp hp with hp | hp
    · exact hoa.cross p hp _ (List.mem_singleton.mpr rfl)
    · have hp' : p ∈ (b.toList.drop ib).take b.size := by
        rw [List.take_of_length_le (by simp)]; exact hp
      obtain ⟨j, _, hj, e⟩ := mem_take_K hp'
      rw [e, kv_K h2]
      exact hl _ hj
  · rw [Array.toList_append, Array.toList_append, ext_end, ext_end]
    exact (h.pints.app fun p hp => .inr (List.mem_of_mem_drop hp)).app fun p hp => .inl (List.mem_of_mem_drop hp)
  · have := h.la
    have := h.lb
    simp only [Array.size_append, Array.size_extract, h.size]
    omega
end

/-- the states differ in the gallop's measure alone -/
structure Same (st st' : SortSt) : Prop where
  kind : kindOf st' = kindOf st
  arr : arrOf st' = arrOf st
  pend : pendingOf st' = pendingOf st
  failed : failedOf st' = failedOf st
theorem Same.rfl' {st : SortSt} : Same st st := ⟨rfl, rfl, rfl, rfl⟩
theorem Same.trans {x y z : SortSt} (h1 : Same x y) (h2 : Same y z) : Same x z := ⟨h2.kind.trans h1.kind, h2.arr.trans h1.arr, h2.pend.trans h1.pend, h2.failed.trans h1.failed⟩

section
variable {prog : Program} {w : World} {A : Around} {E : Value → Shared → Prop} {s : Shared}
def setMinGallop' : Nat → StateT SortSt Sem Unit := sortPriv% PySem.Builtin.setMinGallop
theorem wpS_setMinGallop {g : Nat} {st : SortSt} {Q : Unit → SortSt → Prop} (h : ∀ st', Same st st' → Q () st') : wpS (model prog w) A E s (setMinGallop' g) Q st := by
  unfold setMinGallop'
  exact wpS_modify (h _ ⟨rfl, rfl, rfl, rfl⟩)
theorem wpS_rule {n : String} {st : SortSt} {Q : Unit → SortSt → Prop} (h : Q () st) : wpS (model prog w) A E s (liftM (rule n) : StateT SortSt Sem Unit) Q st :=
  wpS_lift (wpAny_rule ⟨rfl, h⟩)

theorem bey_false {key : Keyed} {arr : Array Keyed} {base i : Nat} (h : bey false key arr base i = true) : K arr (base + i) ≤ kv key := by
  unfold bey at h
  simp only [Bool.false_eq_true, if_false, Bool.not_eq_true', decide_eq_false_iff_not] at h
  omega
theorem bey_false' {key : Keyed} {arr : Array Keyed} {base i : Nat} (h : bey false key arr base i = false) : kv key < K arr (base + i) := by
  unfold bey at h
  simpa using h
theorem bey_true {key : Keyed} {arr : Array Keyed} {base i : Nat} (h : bey true key arr base i = true) : K arr (base + i) < kv key := by
  unfold bey at h
  simpa using h
theorem bey_true' {key : Keyed} {arr : Array Keyed} {base i : Nat} (h : bey true key arr base i = false) : kv key ≤ K arr (base + i) := by
  unfold bey at h
  simpa using h

theorem Pw.K {xs : Array Keyed} (h : Pw xs.toList) {i j : Nat} (hij : i ≤ j) (hj : j < xs.size) : PyProof.Rows.K xs i ≤ PyProof.Rows.K xs j := by
  rcases Nat.eq_or_lt_of_le hij with rfl | hij
  · exact Int.le_refl _
  · have := List.pairwise_iff_getElem.mp h i j (by simp; omega) (by simpa using hj) hij
    rw [← kv_K hj, ← kv_K (show i < xs.size by omega)]
    simpa using this

def mergeLo' : Array Keyed → Array Keyed → StateT SortSt Sem (Array Keyed) := sortPriv% PySem.Builtin.mergeLo

theorem wpS_mergeLo {a b : Array Keyed} {st : SortSt} {Q : Array Keyed → SortSt → Prop} (hk : kindOf st = oneType') (ha : AllP a.toList) (hb : AllP b.toList)
    (na : 0 < a.size) (nb : 0 < b.size) (pa : Pw a.toList) (pb : Pw b.toList) (hf : K b 0 ≤ K a 0) (hl : ∀ i, i < b.size → K b i ≤ K a (a.size - 1))
    (h : ∀ r st', Same st st' → MRes a b r → Q r st') : wpS (model prog w) A E s (mergeLo' a b) Q st := by
  unfold mergeLo'
  refine wpS_bind (wpS_rule ?_)
  dsimp only
  refine wpS_bind (wpS_elem nb ?_)
  have I0 : MInv a b #[b[0]] 0 1 := by
    have := MInv.pushB (a := a) (b := b) (out := #[]) (ia := 0) (ib := 0) ⟨by simpa using pa, by simpa using pb, fun p hp => by simp at hp, rfl, Nat.zero_le _, Nat.zero_le _⟩ hb nb na (by rw [kv_K nb, kv_K na]; exact hf)
    simpa using this
  by_cases c1 : 1 = b.size
  · rw [if_pos (by simpa using c1)]
    exact wpS_pure (h _ _ .rfl' (I0.done ha hb (.inr c1)))
  rw [if_neg (by simpa using c1)]
  by_cases c2 : 0 + 1 = a.size
  · rw [if_pos (by simpa using c2)]
    exact wpS_pure (h _ _ .rfl' (I0.last ha hb c2 (by rw [show 0 = a.size - 1 by omega]; exact hl)))
  rw [if_neg (by simpa using c2)]
  refine wpS_bind (wpS_get ?_)
  refine wpS_bind (wpS_mono (wpS_forRange
    (I := fun x c st' => Same st st' ∧ ∃ out ia ib g, c = (none, out, ia, ib, g) ∧ MInv a b out ia ib ∧ ib < b.size ∧ ia + 1 < a.size ∧ x + 1 ≤ out.size)
    (Q := fun c st' => Same st st' ∧ ∃ r rest, c = (some r, rest) ∧ MRes a b r) ?step ?fin ?init) ?post)
  case init => exact ⟨.rfl', _, _, _, _, rfl, I0, by omega, by omega, by simp⟩
  case fin =>
    rintro c st' ⟨_, out, ia, ib, g, rfl, hI, h1, h2, h3⟩
    have := hI.size
    exfalso
    omega
  case post =>
    rintro c st' ⟨hs, r, rest, rfl, hr⟩
    exact wpS_pure (h r st' hs hr)
  case step =>
    rintro x c st' _ hx ⟨hst, out, ia, ib, g, rfl, hI, h1, h2, h3⟩
    have hk' : kindOf st' = oneType' := hst.kind.trans hk
    dsimp only
    refine wpS_bind (wpS_mono (wpS_forRange
      (I := fun x c st'' => st'' = st' ∧ ∃ out' ia ib ac bc, c = (none, out', ia, ib, ac, bc) ∧ MInv a b out' ia ib ∧ ib < b.size ∧ ia + 1 < a.size ∧ out.size + x ≤ out'.size)
      (Q := fun c st'' => st'' = st' ∧ ((∃ r rest, c = (some r, rest) ∧ MRes a b r) ∨ ∃ out' ia ib ac bc, c = (none, out', ia, ib, ac, bc) ∧ MInv a b out' ia ib ∧ ib < b.size ∧ ia + 1 < a.size ∧ out.size + 1 ≤ out'.size)) ?step2 ?fin2 ?init2) ?post2)
    case init2 => exact ⟨rfl, _, _, _, _, _, rfl, hI, h1, h2, Nat.le_refl _⟩
    case fin2 =>
      rintro c st'' ⟨rfl, out', ia, ib, ac, bc, rfl, hI, h1, h2, h3⟩
      exact ⟨rfl, .inr ⟨out', ia, ib, ac, bc, rfl, hI, h1, h2, by omega⟩⟩
    case step2 =>
      rintro y c st'' _ hy ⟨rfl, out', ia, ib, ac, bc, rfl, hI, h1, h2, h3⟩
      dsimp only
      have h2' : ia < a.size := by omega
      refine wpS_bind (wpS_elem h1 (wpS_bind (wpS_elem h2' (wpS_bind (wpS_lt hk' (hb.at h1) (ha.at h2') ?_)))))
      dsimp only
      by_cases hlt : kv b[ib] < kv a[ia]
      · rw [if_pos (decide_eq_true hlt)]
        refine wpS_bind (wpS_elem h1 ?_)
        have J := hI.pushB hb h1 h2' (Int.le_of_lt hlt)
        by_cases c3 : ib + 1 = b.size
        · rw [if_pos (by simpa using c3)]
          exact wpS_pure ⟨rfl, .inl ⟨_, _, rfl, J.done ha hb (.inr c3)⟩⟩
        · rw [if_neg (by simpa using c3)]
          by_cases c4 : bc + 1 ≥ g
          · rw [if_pos c4]
            exact wpS_pure ⟨rfl, .inr ⟨_, _, _, _, _, rfl, J, by omega, h2, by rw [Array.size_push]; omega⟩⟩
          · rw [if_neg c4]
            exact wpS_pure ⟨rfl, _, _, _, _, _, rfl, J, by omega, h2, by rw [Array.size_push]; omega⟩
      · rw [if_neg (by rw [decide_eq_false hlt]; decide)]
        refine wpS_bind (wpS_elem h2' ?_)
        have J := hI.pushA ha h1 h2' (Int.not_lt.mp hlt)
        by_cases c3 : ia + 1 + 1 = a.size
        · rw [if_pos (by simpa using c3)]
          exact wpS_pure ⟨rfl, .inl ⟨_, _, rfl, J.last ha hb c3 (by rw [show ia + 1 = a.size - 1 by omega]; exact hl)⟩⟩
        · rw [if_neg (by simpa using c3)]
          by_cases c4 : ac + 1 ≥ g
          · rw [if_pos c4]
            exact wpS_pure ⟨rfl, .inr ⟨_, _, _, _, _, rfl, J, h1, by omega, by rw [Array.size_push]; omega⟩⟩
          · rw [if_neg c4]
            exact wpS_pure ⟨rfl, _, _, _, _, _, rfl, J, h1, by omega, by rw [Array.size_push]; omega⟩
    case post2 =>
      rintro c st'' ⟨rfl, ⟨r, rest, rfl, hr⟩ | ⟨out', ia, ib, ac, bc, rfl, hI, h1, h2, h4⟩⟩
      · exact wpS_pure ⟨hst, r, _, rfl, hr⟩
      dsimp only
      refine wpS_bind (wpS_rule ?_)
      refine wpS_bind (wpS_mono (wpS_forRange
        (I := fun _ c st3 => Same st st3 ∧ ∃ out3 ia ib g ac bc, c = (none, out3, ia, ib, g, ac, bc) ∧ MInv a b out3 ia ib ∧ ib < b.size ∧ ia + 1 < a.size ∧ out'.size ≤ out3.size)
        (Q := fun c st3 => Same st st3 ∧ ((∃ r rest, c = (some r, rest) ∧ MRes a b r) ∨ ∃ out3 ia ib g ac bc, c = (none, out3, ia, ib, g, ac, bc) ∧ MInv a b out3 ia ib ∧ ib < b.size ∧ ia + 1 < a.size ∧ out'.size ≤ out3.size)) ?step3 ?fin3 ?init3) ?post3)
      case init3 => exact ⟨hst, _, _, _, _, _, _, rfl, hI, h1, h2, Nat.le_refl _⟩
      case fin3 =>
        rintro c st3 ⟨hs3, out3, ia, ib, g, ac, bc, rfl, hI, h1, h2, h3⟩
        exact ⟨hs3, .inr ⟨out3, ia, ib, g, ac, bc, rfl, hI, h1, h2, h3⟩⟩
      case post3 =>
        rintro c st3 ⟨hs3, ⟨r, rest, rfl, hr⟩ | ⟨out3, ia, ib, g, ac, bc, rfl, hI, h1, h2, h5⟩⟩
        · exact wpS_pure ⟨hs3, r, _, rfl, hr⟩
        dsimp only
        refine wpS_bind (wpS_setMinGallop fun st4 hs4 => wpS_pure ⟨hs3.trans hs4, _, _, _, _, rfl, hI, h1, h2, by omega⟩)
      case step3 =>
        rintro y c st3 _ _ ⟨hs3, out3, ia, ib, g, ac, bc, rfl, hI, h1, h2, h5⟩
        dsimp only
        by_cases cg : g > 1
        all_goals (
          first
            | rw [if_pos cg]
            | rw [if_neg cg]
          refine wpS_bind (wpS_setMinGallop fun st4 hs4 => ?_)
          have hs5 := hs3.trans hs4
          have hk5 : kindOf st4 = oneType' := hs5.kind.trans hk
          refine wpS_bind (wpS_elem h1 (wpS_bind (wpS_gallop hk5 (hb.at h1) ha (by omega) (by omega) (fun i j hij hj => pa.K (by omega) (by omega)) fun k hk1 hk2 hk3 => ?_)))
          dsimp only
          have hgt : ia + k < a.size → kv b[ib] ≤ K a (ia + k) := fun e => Int.le_of_lt (bey_false' (hk3 k (Nat.le_refl _) (by omega)))
          have JA := hI.appA (k := k) ha h1 (by omega) (fun i hi => bey_false (hk2 i hi))
          have hKA : out'.size ≤ (out3 ++ a.extract ia (ia + k)).size := by rw [Array.size_append]; omega
          by_cases ck : 0 < k
          all_goals (
            first
              | (rw [if_pos ck]
                 generalize out3 ++ a.extract ia (ia + k) = out4 at *
                 generalize ia + k = ia4 at *
                 by_cases c3 : ia4 + 1 = a.size
                 · rw [if_pos (by simpa using c3)]
                   exact wpS_pure ⟨hs5, .inl ⟨_, _, rfl, JA.last ha hb c3 (by rw [show ia4 = a.size - 1 by omega]; exact hl)⟩⟩
                 rw [if_neg (by simpa using c3)]
                 by_cases c4 : ia4 = a.size
                 · rw [if_pos (by simpa using c4)]
                   exact wpS_pure ⟨hs5, .inl ⟨_, _, rfl, JA.done ha hb (.inl c4)⟩⟩
                 rw [if_neg (by simpa using c4)]
                 have h6 : ia4 + 1 < a.size := by
                   have := JA.la
                   omega
                 have hgt' := hgt (by omega)
                 have J := JA
                 have hK0 := hKA)
              | (rw [if_neg ck]
                 have J := hI
                 have hK0 := h5
                 have e0 : k = 0 := by omega
                 have hgt' := hgt (by omega)
                 have h6 := h2
                 rw [e0, Nat.add_zero] at hgt'
                 clear JA hKA
                 generalize out3 = out4 at J hK0 ⊢
                 generalize ia = ia4 at J hgt' h6 ⊢)
            have h6' : ia4 < a.size := by omega
            refine wpS_bind (wpS_elem h1 ?_)
            have J2 := J.pushB hb h1 h6' (by rw [kv_K h6']; exact hgt')
            have hK1 : out'.size ≤ (out4.push b[ib]).size := by rw [Array.size_push]; omega
            generalize out4.push b[ib] = out5 at J2 hK1 ⊢
            by_cases c5 : ib + 1 = b.size
            · rw [if_pos (by simpa using c5)]
              exact wpS_pure ⟨hs5, .inl ⟨_, _, rfl, J2.done ha hb (.inr c5)⟩⟩
            rw [if_neg (by simpa using c5)]
            refine wpS_bind (wpS_elem h6' (wpS_bind (wpS_gallop hk5 (ha.at h6') hb (by omega) (by omega) (fun i j hij hj => pb.K (by omega) (by omega)) fun k' hj1 hj2 hj3 => ?_)))
            dsimp only
            have hgt2 : ib + 1 + k' < b.size → kv a[ia4] ≤ K b (ib + 1 + k') := fun e => bey_true' (hj3 k' (Nat.le_refl _) (by omega))
            have JB := J2.appB (k := k') hb h6' (by omega) (fun i hi => Int.le_of_lt (bey_true (hj2 i hi)))
            have hKB : out'.size ≤ (out5 ++ b.extract (ib + 1) (ib + 1 + k')).size := by rw [Array.size_append]; omega
            by_cases cj : 0 < k'
            all_goals (
              first
                | (rw [if_pos cj]
                   generalize out5 ++ b.extract (ib + 1) (ib + 1 + k') = out6 at *
                   generalize ib + 1 + k' = ib6 at *
                   by_cases c7 : ib6 = b.size
                   · rw [if_pos (by simpa using c7)]
                     exact wpS_pure ⟨hs5, .inl ⟨_, _, rfl, JB.done ha hb (.inr c7)⟩⟩
                   rw [if_neg (by simpa using c7)]
                   have h7 : ib6 < b.size := by
                     have := JB.lb
                     omega
                   have hgt2' := hgt2 h7
                   have J3 := JB
                   have hK2 := hKB)
                | (rw [if_neg cj]
                   have J3 := J2
                   have hK2 := hK1
                   have e0' : k' = 0 := by omega
                   have h7 : ib + 1 < b.size := by omega
                   have hgt2' := hgt2 (by omega)
                   rw [e0', Nat.add_zero] at hgt2'
                   clear JB hKB
                   generalize out5 = out6 at J3 hK2 ⊢
                   generalize ib + 1 = ib6 at J3 hgt2' h7 ⊢)
              refine wpS_bind (wpS_elem h6' ?_)
              have J4 := J3.pushA ha h7 h6' (by rw [kv_K h7]; exact hgt2')
              have hK3 : out'.size ≤ (out6.push a[ia4]).size := by rw [Array.size_push]; omega
              generalize out6.push a[ia4] = out7 at J4 hK3 ⊢
              by_cases c8 : ia4 + 1 + 1 = a.size
              · rw [if_pos (by simpa using c8)]
                exact wpS_pure ⟨hs5, .inl ⟨_, _, rfl, J4.last ha hb c8 (by rw [show ia4 + 1 = a.size - 1 by omega]; exact hl)⟩⟩
              rw [if_neg (by simpa using c8)]
              by_cases c9 : (decide (k < 7) && decide (k' < 7)) = true
              · rw [if_pos c9]
                exact wpS_pure ⟨hs5, .inr ⟨_, _, _, _, _, _, rfl, J4, h7, by omega, hK3⟩⟩
              · rw [if_neg c9]
                exact wpS_pure ⟨hs5, _, _, _, _, _, _, rfl, J4, h7, by omega, hK3⟩)))
end
end Mine
end
section
open PySem PyProof.Rows
set_option linter.unusedVariables false
namespace Mine

structure MInvH (a b out : Array Keyed) (na nb : Nat) : Prop where
  oa : Pw (a.toList.take na ++ out.toList.reverse)
  ob : Pw (b.toList.take nb ++ out.toList.reverse)
  pints : FromP a b out.toList
  size : out.size + na + nb = a.size + b.size
  la : na ≤ a.size
  lb : nb ≤ b.size

theorem Pw.overH {o x y z : List Keyed} (h1 : Pw ((y ++ x) ++ o)) (h2 : Pw (z ++ o)) (h : ∀ p ∈ z, ∀ q ∈ x, kv p ≤ kv q) :
    Pw (y ++ (x ++ o)) ∧ Pw (z ++ (x ++ o)) := by
  rw [List.append_assoc] at h1
  refine ⟨h1, h2.left.app h1.right fun p hp q hq => ?_⟩
  rcases List.mem_append.mp hq with hq | hq
  · exact h p hp q hq
  · exact h2.cross p hp q hq
theorem Pw.lastK {x : Keyed} {xs : List Keyed} (h : Pw (xs ++ [x])) : ∀ y ∈ xs ++ [x], kv y ≤ kv x := by
  intro y hy
  rcases List.mem_append.mp hy with hy | hy
  · exact h.cross y hy x (List.mem_singleton.mpr rfl)
  · rw [List.mem_singleton] at hy
    subst hy
    exact Int.le_refl _

theorem take_at {a : Array Keyed} {i : Nat} (hi : i < a.size) : a.toList.take (i + 1) = a.toList.take i ++ [a[i]] := by
  have hi' : i < a.toList.length := by simpa using hi
  rw [List.take_succ_eq_append_getElem hi', Array.getElem_toList]
theorem take_split (a : Array Keyed) {i j : Nat} (h : i ≤ j) : a.toList.take j = a.toList.take i ++ (a.toList.drop i).take (j - i) := by
  have := List.take_add (l := a.toList) (i := i) (j := j - i)
  rw [show i + (j - i) = j by omega] at this
  exact this
theorem ext_front (a : Array Keyed) (i : Nat) : (a.extract 0 i).toList = a.toList.take i := by
  rw [Array.toList_extract]
  simp [List.extract]
theorem ext_mid (a : Array Keyed) (i j : Nat) : (a.extract i j).toList = (a.toList.drop i).take (j - i) := by
  rw [Array.toList_extract]
theorem mem_front_K {a : Array Keyed} {k : Nat} {p : Keyed} (hp : p ∈ a.toList.take k) : ∃ j, j < k ∧ j < a.size ∧ kv p = K a j := by
  have hp' : p ∈ (a.toList.drop 0).take k := by simpa using hp
  obtain ⟨j, h1, h2, e⟩ := mem_take_K hp'
  refine ⟨j, h1, by omega, ?_⟩
  rw [e, Nat.zero_add]

section
variable {a b out : Array Keyed} {na nb : Nat}
theorem MInvH.pushA (h : MInvH a b out (na + 1) (nb + 1)) (ha : AllP a.toList) (h1 : nb < b.size) (h2 : na < a.size) (hle : kv b[nb] ≤ kv a[na]) : MInvH a b (out.push a[na]) na (nb + 1) := by
  have hob := h.ob
  have hoa := h.oa
  rw [take_at h2] at hoa
  have hh := Pw.overH (o := out.toList.reverse) (x := [a[na]]) (y := a.toList.take na) (z := b.toList.take (nb + 1)) hoa hob (by
    intro p hp q hq
    rw [List.mem_singleton] at hq
    subst hq
    rw [take_at h1] at hp hob
    exact Int.le_trans (hob.left.lastK p hp) hle)
  have e : (out.push a[na]).toList.reverse = [a[na]] ++ out.toList.reverse := by simp
  refine ⟨by rw [e]; exact hh.1, by rw [e]; exact hh.2, ?_, by rw [Array.size_push]; have := h.size; omega, by omega, h.lb⟩
  rw [Array.toList_push]
  exact h.pints.app fun p hp => by
    rw [List.mem_singleton] at hp
    subst hp
    exact .inl (by simp)
theorem MInvH.pushB (h : MInvH a b out (na + 1) (nb + 1)) (hb : AllP b.toList) (h1 : nb < b.size) (h2 : na < a.size) (hle : kv a[na] ≤ kv b[nb]) : MInvH a b (out.push b[nb]) (na + 1) nb := by
  have hob := h.ob
  have hoa := h.oa
  rw [take_at h1] at hob
  have hh := Pw.overH (o := out.toList.reverse) (x := [b[nb]]) (y := b.toList.take nb) (z := a.toList.take (na + 1)) hob hoa (by
    intro p hp q hq
    rw [List.mem_singleton] at hq
    subst hq
    rw [take_at h2] at hp hoa
    exact Int.le_trans (hoa.left.lastK p hp) hle)
  have e : (out.push b[nb]).toList.reverse = [b[nb]] ++ out.toList.reverse := by simp
  refine ⟨by rw [e]; exact hh.2, by rw [e]; exact hh.1, ?_, by rw [Array.size_push]; have := h.size; omega, h.la, by omega⟩
  rw [Array.toList_push]
  exact h.pints.app fun p hp => by
    rw [List.mem_singleton] at hp
    subst hp
    exact .inr (by simp)
theorem MInvH.appA {k : Nat} (h : MInvH a b out na (nb + 1)) (ha : AllP a.toList) (h1 : nb < b.size) (h2 : k ≤ na) (hle : ∀ i, k ≤ i → i < na → kv b[nb] ≤ K a i) : MInvH a b (out ++ (a.extract k na).reverse) k (nb + 1) := by
  have hob := h.ob
  have hoa := h.oa
  rw [take_split a h2] at hoa
  have hh := Pw.overH hoa hob (by
    intro p hp q hq
    obtain ⟨j, hj, _, e⟩ := mem_take_K hq
    rw [e]
    rw [take_at h1] at hp hob
    exact Int.le_trans (hob.left.lastK p hp) (hle _ (by omega) (by omega)))
  have e : (out ++ (a.extract k na).reverse).toList.reverse = (a.toList.drop k).take (na - k) ++ out.toList.reverse := by
    rw [Array.toList_append, Array.toList_reverse, ext_mid, List.reverse_append, List.reverse_reverse]
  refine ⟨by rw [e]; exact hh.1, by rw [e]; exact hh.2, ?_, ?_, Nat.le_trans h2 h.la, h.lb⟩
  · rw [Array.toList_append, Array.toList_reverse, ext_mid]
    exact h.pints.app fun p hp => .inl (List.mem_of_mem_drop (List.mem_of_mem_take (List.mem_reverse.mp hp)))
  · have := h.size
    have := h.la
    rw [Array.size_append, Array.size_reverse, Array.size_extract]
    omega
theorem MInvH.appB {k : Nat} (h : MInvH a b out (na + 1) nb) (hb : AllP b.toList) (h1 : na < a.size) (h2 : k ≤ nb) (hle : ∀ i, k ≤ i → i < nb → kv a[na] ≤ K b i) : MInvH a b (out ++ (b.extract k nb).reverse) (na + 1) k := by
  have hob := h.ob
  have hoa := h.oa
  rw [take_split b h2] at hob
  have hh := Pw.overH hob hoa (by
    intro p hp q hq
    obtain ⟨j, hj, _, e⟩ := mem_take_K hq
    rw [e]
    rw [take_at h1] at hp hoa
    exact Int.le_trans (hoa.left.lastK p hp) (hle _ (by omega) (by omega)))
  have e : (out ++ (b.extract k nb).reverse).toList.reverse = (b.toList.drop k).take (nb - k) ++ out.toList.reverse := by
    rw [Array.toList_append, Array.toList_reverse, ext_mid, List.reverse_append, List.reverse_reverse]
  refine ⟨by rw [e]; exact hh.2, by rw [e]; exact hh.1, ?_, ?_, h.la, Nat.le_trans h2 h.lb⟩
  · rw [Array.toList_append, Array.toList_reverse, ext_mid]
    exact h.pints.app fun p hp => .inr (List.mem_of_mem_drop (List.mem_of_mem_take (List.mem_reverse.mp hp)))
  · have := h.size
    have := h.lb
    rw [Array.size_append, Array.size_reverse, Array.size_extract]
    omega
theorem MInvH.pushA' (h : MInvH a b out na nb) (ha : AllP a.toList) (g1 : 0 < nb) (g2 : 0 < na) (h1 : nb - 1 < b.size) (h2 : na - 1 < a.size) (hle : kv b[nb - 1] ≤ kv a[na - 1]) : MInvH a b (out.push a[na - 1]) (na - 1) nb := by
  obtain ⟨n, rfl⟩ : ∃ n, na = n + 1 := ⟨na - 1, by omega⟩
  obtain ⟨m, rfl⟩ : ∃ m, nb = m + 1 := ⟨nb - 1, by omega⟩
  exact h.pushA ha h1 h2 hle
theorem MInvH.pushB' (h : MInvH a b out na nb) (hb : AllP b.toList) (g1 : 0 < nb) (g2 : 0 < na) (h1 : nb - 1 < b.size) (h2 : na - 1 < a.size) (hle : kv a[na - 1] ≤ kv b[nb - 1]) : MInvH a b (out.push b[nb - 1]) na (nb - 1) := by
  obtain ⟨n, rfl⟩ : ∃ n, na = n + 1 := ⟨na - 1, by omega⟩
  obtain ⟨m, rfl⟩ : ∃ m, nb = m + 1 := ⟨nb - 1, by omega⟩
  exact h.pushB hb h1 h2 hle
theorem MInvH.appA' {k : Nat} (h : MInvH a b out na nb) (ha : AllP a.toList) (g1 : 0 < nb) (h1 : nb - 1 < b.size) (h2 : k ≤ na) (hle : ∀ i, k ≤ i → i < na → kv b[nb - 1] ≤ K a i) : MInvH a b (out ++ (a.extract k na).reverse) k nb := by
  obtain ⟨m, rfl⟩ : ∃ m, nb = m + 1 := ⟨nb - 1, by omega⟩
  exact h.appA ha h1 h2 hle
theorem MInvH.appB' {k : Nat} (h : MInvH a b out na nb) (hb : AllP b.toList) (g1 : 0 < na) (h1 : na - 1 < a.size) (h2 : k ≤ nb) (hle : ∀ i, k ≤ i → i < nb → kv a[na - 1] ≤ K b i) : MInvH a b (out ++ (b.extract k nb).reverse) na k := by
  obtain ⟨m, rfl⟩ : ∃ m, na = m + 1 := ⟨na - 1, by omega⟩
  exact h.appB hb h1 h2 hle
theorem MInvH.done (h : MInvH a b out na nb) (ha : AllP a.toList) (hb : AllP b.toList) (he : na = 0 ∨ nb = 0) : MRes a b (a.extract 0 na ++ b.extract 0 nb ++ out.reverse) := by
  have hob := h.ob
  have hoa := h.oa
  refine ⟨?_, ?_, ?_⟩
  · rw [Array.toList_append, Array.toList_append, ext_front, ext_front, Array.toList_reverse]
    rcases he with rfl | rfl
    · rw [List.take_zero, List.nil_append]; exact hob
    · rw [List.take_zero, List.append_nil]; exact hoa
  · rw [Array.toList_append, Array.toList_append, ext_front, ext_front, Array.toList_reverse]
    refine FromP.app (FromP.app (fun p hp => .inl (List.mem_of_mem_take hp)) (fun p hp => .inr (List.mem_of_mem_take hp))) fun p hp => h.pints p (List.mem_reverse.mp hp)
  · have := h.la
    have := h.lb
    have := h.size
    simp only [Array.size_append, Array.size_extract, Array.size_reverse]
    omega
theorem MInvH.first (h : MInvH a b out na 1) (ha : AllP a.toList) (hb : AllP b.toList) (hnb : 0 < b.size) (hl : ∀ i, i < a.size → K b 0 ≤ K a i) : MRes a b (b.extract 0 1 ++ a.extract 0 na ++ out.reverse) := by
  have hob := h.ob
  have hoa := h.oa
  have hd : b.toList.take 1 = [b[0]] := by
    have := take_at (a := b) (i := 0) hnb
    simpa using this
  refine ⟨?_, ?_, ?_⟩
  · rw [Array.toList_append, Array.toList_append, ext_front, ext_front, Array.toList_reverse, hd, List.append_assoc]
    rw [hd] at hob
    refine hob.left.app hoa fun p hp q hq => ?_
    rcases List.mem_append.mp hq with hq | hq
    · rw [List.mem_singleton] at hp
      subst hp
      obtain ⟨j, _, hj, e⟩ := mem_front_K hq
      rw [e, kv_K hnb]
      exact hl _ hj
    · exact hob.cross p hp q hq
  · rw [Array.toList_append, Array.toList_append, ext_front, ext_front, Array.toList_reverse]
    refine FromP.app (FromP.app (fun p hp => .inr (List.mem_of_mem_take hp)) (fun p hp => .inl (List.mem_of_mem_take hp))) fun p hp => h.pints p (List.mem_reverse.mp hp)
  · have := h.la
    have := h.lb
    have := h.size
    simp only [Array.size_append, Array.size_extract, Array.size_reverse]
    omega
theorem MInvH.first' (h : MInvH a b out na nb) (e : nb = 1) (ha : AllP a.toList) (hb : AllP b.toList) (hnb : 0 < b.size) (hl : ∀ i, i < a.size → K b 0 ≤ K a i) : MRes a b (b.extract 0 nb ++ a.extract 0 na ++ out.reverse) := by
  subst e
  exact h.first ha hb hnb hl
end

section
variable {prog : Program} {w : World} {A : Around} {E : Value → Shared → Prop} {s : Shared}

def mergeHi' : Array Keyed → Array Keyed → StateT SortSt Sem (Array Keyed) := sortPriv% PySem.Builtin.mergeHi

theorem wpS_mergeHi {a b : Array Keyed} {st : SortSt} {Q : Array Keyed → SortSt → Prop} (hk : kindOf st = oneType') (ha : AllP a.toList) (hb : AllP b.toList)
    (ma : 0 < a.size) (mb : 0 < b.size) (pa : Pw a.toList) (pb : Pw b.toList) (hf : ∀ i, i < a.size → K b 0 ≤ K a i) (hl : K b (b.size - 1) ≤ K a (a.size - 1))
    (h : ∀ r st', Same st st' → MRes a b r → Q r st') : wpS (model prog w) A E s (mergeHi' a b) Q st := by
  unfold mergeHi'
  refine wpS_bind (wpS_rule ?_)
  dsimp only
  have ma' : a.size - 1 < a.size := by omega
  refine wpS_bind (wpS_elem ma' ?_)
  have I0 : MInvH a b #[a[a.size - 1]] (a.size - 1) b.size := by
    have e1 : a.size = a.size - 1 + 1 := by omega
    have e2 : b.size = b.size - 1 + 1 := by omega
    have := MInvH.pushA (a := a) (b := b) (out := #[]) (na := a.size - 1) (nb := b.size - 1)
      ⟨by rw [← e1, show a.toList.take a.size = a.toList from List.take_of_length_le (by simp)]; simpa using pa, by rw [← e2, show b.toList.take b.size = b.toList from List.take_of_length_le (by simp)]; simpa using pb, fun p hp => by simp at hp, by simp; omega, by omega, by omega⟩
      ha (by omega) ma' (by rw [kv_K ma', kv_K (show b.size - 1 < b.size by omega)]; exact hl)
    rw [← e2] at this
    simpa using this
  by_cases c1 : a.size - 1 = 0
  · rw [if_pos (by simpa using c1)]
    exact wpS_pure (h _ _ .rfl' (I0.done ha hb (.inl c1)))
  rw [if_neg (by simpa using c1)]
  by_cases c2 : b.size = 1
  · rw [if_pos (by simpa using c2)]
    exact wpS_pure (h _ _ .rfl' (I0.first' c2 ha hb mb hf))
  rw [if_neg (by simpa using c2)]
  refine wpS_bind (wpS_get ?_)
  refine wpS_bind (wpS_mono (wpS_forRange
    (I := fun x c st' => Same st st' ∧ ∃ out na nb g, c = (none, na, nb, out, g) ∧ MInvH a b out na nb ∧ 1 < nb ∧ 0 < na ∧ x + 1 ≤ out.size)
    (Q := fun c st' => Same st st' ∧ ∃ r rest, c = (some r, rest) ∧ MRes a b r) ?step ?fin ?init) ?post)
  case init => exact ⟨.rfl', _, _, _, _, rfl, I0, by omega, by omega, by simp⟩
  case fin =>
    rintro c st' ⟨_, out, na, nb, g, rfl, hI, h1, h2, h3⟩
    have := hI.size
    exfalso
    omega
  case post =>
    rintro c st' ⟨hs, r, rest, rfl, hr⟩
    exact wpS_pure (h r st' hs hr)
  case step =>
    rintro x c st' _ hx ⟨hst, out, na, nb, g, rfl, hI, h1, h2, h3⟩
    have hk' : kindOf st' = oneType' := hst.kind.trans hk
    dsimp only
    refine wpS_bind (wpS_mono (wpS_forRange
      (I := fun x c st'' => st'' = st' ∧ ∃ out' na nb ac bc, c = (none, na, nb, out', ac, bc) ∧ MInvH a b out' na nb ∧ 1 < nb ∧ 0 < na ∧ out.size + x ≤ out'.size)
      (Q := fun c st'' => st'' = st' ∧ ((∃ r rest, c = (some r, rest) ∧ MRes a b r) ∨ ∃ out' na nb ac bc, c = (none, na, nb, out', ac, bc) ∧ MInvH a b out' na nb ∧ 1 < nb ∧ 0 < na ∧ out.size + 1 ≤ out'.size)) ?step2 ?fin2 ?init2) ?post2)
    case init2 => exact ⟨rfl, _, _, _, _, _, rfl, hI, h1, h2, Nat.le_refl _⟩
    case fin2 =>
      rintro c st'' ⟨rfl, out', na, nb, ac, bc, rfl, hI, h1, h2, h3⟩
      exact ⟨rfl, .inr ⟨out', na, nb, ac, bc, rfl, hI, h1, h2, by omega⟩⟩
    case step2 =>
      rintro y c st'' _ hy ⟨rfl, out', na, nb, ac, bc, rfl, hI, h1, h2, h3⟩
      dsimp only
      have q1 : nb - 1 < b.size := by have := hI.lb; omega
      have q2 : na - 1 < a.size := by have := hI.la; omega
      refine wpS_bind (wpS_elem q1 (wpS_bind (wpS_elem q2 (wpS_bind (wpS_lt hk' (hb.at q1) (ha.at q2) ?_)))))
      dsimp only
      by_cases hlt : kv b[nb - 1] < kv a[na - 1]
      · rw [if_pos (decide_eq_true hlt)]
        refine wpS_bind (wpS_elem q2 ?_)
        have J := hI.pushA' ha (by omega) h2 q1 q2 (Int.le_of_lt hlt)
        by_cases c3 : na - 1 = 0
        · rw [if_pos (by simpa using c3)]
          exact wpS_pure ⟨rfl, .inl ⟨_, _, rfl, J.done ha hb (.inl c3)⟩⟩
        · rw [if_neg (by simpa using c3)]
          by_cases c4 : ac + 1 ≥ g
          · rw [if_pos c4]
            exact wpS_pure ⟨rfl, .inr ⟨_, _, _, _, _, rfl, J, h1, by omega, by rw [Array.size_push]; omega⟩⟩
          · rw [if_neg c4]
            exact wpS_pure ⟨rfl, _, _, _, _, _, rfl, J, h1, by omega, by rw [Array.size_push]; omega⟩
      · rw [if_neg (by rw [decide_eq_false hlt]; decide)]
        refine wpS_bind (wpS_elem q1 ?_)
        have J := hI.pushB' hb (by omega) h2 q1 q2 (Int.not_lt.mp hlt)
        by_cases c3 : nb - 1 = 1
        · rw [if_pos (by simpa using c3)]
          exact wpS_pure ⟨rfl, .inl ⟨_, _, rfl, J.first' c3 ha hb mb hf⟩⟩
        · rw [if_neg (by simpa using c3)]
          by_cases c4 : bc + 1 ≥ g
          · rw [if_pos c4]
            exact wpS_pure ⟨rfl, .inr ⟨_, _, _, _, _, rfl, J, by omega, h2, by rw [Array.size_push]; omega⟩⟩
          · rw [if_neg c4]
            exact wpS_pure ⟨rfl, _, _, _, _, _, rfl, J, by omega, h2, by rw [Array.size_push]; omega⟩
    case post2 =>
      rintro c st'' ⟨rfl, ⟨r, rest, rfl, hr⟩ | ⟨out', na, nb, ac, bc, rfl, hI, h1, h2, h4⟩⟩
      · exact wpS_pure ⟨hst, r, _, rfl, hr⟩
      dsimp only
      refine wpS_bind (wpS_rule ?_)
      refine wpS_bind (wpS_mono (wpS_forRange
        (I := fun _ c st3 => Same st st3 ∧ ∃ out3 na nb g ac bc, c = (none, na, nb, out3, g, ac, bc) ∧ MInvH a b out3 na nb ∧ 1 < nb ∧ 0 < na ∧ out'.size ≤ out3.size)
        (Q := fun c st3 => Same st st3 ∧ ((∃ r rest, c = (some r, rest) ∧ MRes a b r) ∨ ∃ out3 na nb g ac bc, c = (none, na, nb, out3, g, ac, bc) ∧ MInvH a b out3 na nb ∧ 1 < nb ∧ 0 < na ∧ out'.size ≤ out3.size)) ?step3 ?fin3 ?init3) ?post3)
      case init3 => exact ⟨hst, _, _, _, _, _, _, rfl, hI, h1, h2, Nat.le_refl _⟩
      case fin3 =>
        rintro c st3 ⟨hs3, out3, na, nb, g, ac, bc, rfl, hI, h1, h2, h3⟩
        exact ⟨hs3, .inr ⟨out3, na, nb, g, ac, bc, rfl, hI, h1, h2, h3⟩⟩
      case post3 =>
        rintro c st3 ⟨hs3, ⟨r, rest, rfl, hr⟩ | ⟨out3, na, nb, g, ac, bc, rfl, hI, h1, h2, h5⟩⟩
        · exact wpS_pure ⟨hs3, r, _, rfl, hr⟩
        dsimp only
        refine wpS_bind (wpS_setMinGallop fun st4 hs4 => wpS_pure ⟨hs3.trans hs4, _, _, _, _, rfl, hI, h1, h2, by omega⟩)
      case step3 =>
        rintro y c st3 _ _ ⟨hs3, out3, na, nb, g, ac, bc, rfl, hI, h1, h2, h5⟩
        dsimp only
        have q1 : nb - 1 < b.size := by have := hI.lb; omega
        have q2 : na - 1 < a.size := by have := hI.la; omega
        have q3 := hI.la
        have q4 := hI.lb
        by_cases cg : g > 1
        all_goals (
          first
            | rw [if_pos cg]
            | rw [if_neg cg]
          refine wpS_bind (wpS_setMinGallop fun st4 hs4 => ?_)
          have hs5 := hs3.trans hs4
          have hk5 : kindOf st4 = oneType' := hs5.kind.trans hk
          refine wpS_bind (wpS_elem q1 (wpS_bind (wpS_gallop hk5 (hb.at q1) ha (by omega) (by omega) (fun i j hij hj => pa.K (by omega) (by omega)) fun k hk1 hk2 hk3 => ?_)))
          dsimp only
          have hgt : ∀ i, i < k → K a i ≤ kv b[nb - 1] := fun i hi => by
            have := bey_false (hk2 i hi)
            rwa [Nat.zero_add] at this
          have JA := hI.appA' (k := k) ha (by omega) q1 hk1 (fun i hi1 hi2 => by
            have := bey_false' (hk3 i hi1 hi2)
            rw [Nat.zero_add] at this
            exact Int.le_of_lt this)
          have hKA : out'.size ≤ (out3 ++ (a.extract k na).reverse).size := by rw [Array.size_append]; omega
          by_cases ck : na - k > 0
          all_goals (
            first
              | (rw [if_pos ck]
                 generalize out3 ++ (a.extract k na).reverse = out4 at *
                 by_cases c3 : k = 0
                 · rw [if_pos (by simpa using c3)]
                   exact wpS_pure ⟨hs5, .inl ⟨_, _, rfl, JA.done ha hb (.inl c3)⟩⟩
                 rw [if_neg (by simpa using c3)]
                 have h6 : 0 < k := by omega
                 have h6' : k - 1 < a.size := by omega
                 have hgt' : kv a[k - 1] ≤ kv b[nb - 1] := by
                   rw [kv_K h6']
                   exact hgt _ (by omega)
                 have J := JA
                 have hK0 := hKA
                 generalize na - k = ac4 at *
                 generalize k = na4 at J h6 h6' hgt' ⊢)
              | (rw [if_neg ck]
                 have J := hI
                 have hK0 := h5
                 have e0 : k = na := by omega
                 have h6 := h2
                 have h6' := q2
                 have hgt' : kv a[na - 1] ≤ kv b[nb - 1] := by
                   rw [kv_K h6']
                   exact hgt _ (by omega)
                 clear JA hKA
                 generalize na - k = ac4 at *
                 generalize out3 = out4 at J hK0 ⊢
                 generalize na = na4 at J h6 h6' hgt' ⊢)
            refine wpS_bind (wpS_elem q1 ?_)
            have J2 := J.pushB' hb (by omega) h6 q1 h6' hgt'
            have hK1 : out'.size ≤ (out4.push b[nb - 1]).size := by rw [Array.size_push]; omega
            generalize out4.push b[nb - 1] = out5 at J2 hK1 ⊢
            by_cases c5 : nb - 1 = 1
            · rw [if_pos (by simpa using c5)]
              exact wpS_pure ⟨hs5, .inl ⟨_, _, rfl, J2.first' c5 ha hb mb hf⟩⟩
            rw [if_neg (by simpa using c5)]
            refine wpS_bind (wpS_elem h6' (wpS_bind (wpS_gallop hk5 (ha.at h6') hb (by omega) (by omega) (fun i j hij hj => pb.K (by omega) (by omega)) fun k' hj1 hj2 hj3 => ?_)))
            dsimp only
            have hgt2 : ∀ i, i < k' → K b i ≤ kv a[na4 - 1] := fun i hi => by
              have := bey_true (hj2 i hi)
              rw [Nat.zero_add] at this
              exact Int.le_of_lt this
            have JB := J2.appB' (k := k') hb h6 h6' hj1 (fun i hi1 hi2 => by
              have := bey_true' (hj3 i hi1 hi2)
              rwa [Nat.zero_add] at this)
            have hKB : out'.size ≤ (out5 ++ (b.extract k' (nb - 1)).reverse).size := by rw [Array.size_append]; omega
            by_cases cj : nb - 1 - k' > 0
            all_goals (
              first
                | (rw [if_pos cj]
                   generalize out5 ++ (b.extract k' (nb - 1)).reverse = out6 at *
                   by_cases c7 : k' = 1
                   · rw [if_pos (by simpa using c7)]
                     exact wpS_pure ⟨hs5, .inl ⟨_, _, rfl, JB.first' c7 ha hb mb hf⟩⟩
                   rw [if_neg (by simpa using c7)]
                   by_cases c7' : k' = 0
                   · rw [if_pos (by simpa using c7')]
                     exact wpS_pure ⟨hs5, .inl ⟨_, _, rfl, JB.done ha hb (.inr c7')⟩⟩
                   rw [if_neg (by simpa using c7')]
                   have h7 : 1 < k' := by omega
                   have h7' : k' - 1 < b.size := by omega
                   have hgt2' : kv b[k' - 1] ≤ kv a[na4 - 1] := by
                     rw [kv_K h7']
                     exact hgt2 _ (by omega)
                   have J3 := JB
                   have hK2 := hKB
                   generalize nb - 1 - k' = bc6 at *
                   generalize k' = nb6 at J3 h7 h7' hgt2' ⊢)
                | (rw [if_neg cj]
                   have J3 := J2
                   have hK2 := hK1
                   have e0' : k' = nb - 1 := by omega
                   have h7 : 1 < nb - 1 := by omega
                   have h7' : nb - 1 - 1 < b.size := by omega
                   have hgt2' : kv b[nb - 1 - 1] ≤ kv a[na4 - 1] := by
                     rw [kv_K h7']
                     exact hgt2 _ (by omega)
                   clear JB hKB
                   generalize nb - 1 - k' = bc6 at *
                   generalize out5 = out6 at J3 hK2 ⊢
                   generalize nb - 1 = nb6 at J3 h7 h7' hgt2' ⊢)
              refine wpS_bind (wpS_elem h6' ?_)
              have J4 := J3.pushA' ha (by omega) h6 h7' h6' hgt2'
              have hK3 : out'.size ≤ (out6.push a[na4 - 1]).size := by rw [Array.size_push]; omega
              generalize out6.push a[na4 - 1] = out7 at J4 hK3 ⊢
              by_cases c8 : na4 - 1 = 0
              · rw [if_pos (by simpa using c8)]
                exact wpS_pure ⟨hs5, .inl ⟨_, _, rfl, J4.done ha hb (.inl c8)⟩⟩
              rw [if_neg (by simpa using c8)]
              by_cases c9 : (decide (ac4 < 7) && decide (bc6 < 7)) = true
              · rw [if_pos c9]
                exact wpS_pure ⟨hs5, .inr ⟨_, _, _, _, _, _, rfl, J4, h7, by omega, hK3⟩⟩
              · rw [if_neg c9]
                exact wpS_pure ⟨hs5, _, _, _, _, _, _, rfl, J4, h7, by omega, hK3⟩)))
end
end Mine
end
section
open PySem PyProof.Rows
set_option linter.unusedVariables false
namespace Mine

structure SI (N : Nat) (st : SortSt) : Prop where
  kind : kindOf st = oneType'
  failed : failedOf st = none
  size : (arrOf st).size = N
  pints : AllP (arrOf st).toList

def Seg (xs : Array Keyed) (lo hi : Nat) : Prop := ∀ i j, lo ≤ i → i ≤ j → j < hi → K xs i ≤ K xs j
def Dsc (xs : Array Keyed) (lo hi : Nat) : Prop := ∀ i j, lo ≤ i → i ≤ j → j < hi → K xs j ≤ K xs i
/-- what lies below lo stands as it stood, the pending runs too -/
structure Kp (lo : Nat) (st st' : SortSt) : Prop where
  pend : pendingOf st' = pendingOf st
  low : ∀ i, i < lo → K (arrOf st') i = K (arrOf st) i
theorem Kp.rfl' {lo : Nat} {st : SortSt} : Kp lo st st := ⟨rfl, fun _ _ => rfl⟩
theorem Kp.trans {lo : Nat} {x y z : SortSt} (h1 : Kp lo x y) (h2 : Kp lo y z) : Kp lo x z := ⟨h2.pend.trans h1.pend, fun i hi => (h2.low i hi).trans (h1.low i hi)⟩

theorem SI.setArr {N : Nat} {st : SortSt} {xs : Array Keyed} (h : SI N st) (hp : xs.Perm (arrOf st)) : SI N (setArr st xs) :=
  ⟨h.kind, h.failed, hp.size_eq.trans h.size, fun p hm => h.pints p ((Array.perm_iff_toList_perm.mp hp).mem_iff.mp hm)⟩

section
variable {prog : Program} {w : World} {A : Around} {E : Value → Shared → Prop} {s : Shared} {N : Nat}

theorem wpS_ltI {st : SortSt} {i j : Nat} {Q : Option Bool → SortSt → Prop} (hI : SI N st) (hi : i < N) (hj : j < N)
    (h : Q (some (decide (K (arrOf st) i < K (arrOf st) j))) st) : wpS (model prog w) A E s (ltAt' i j) Q st :=
  wpS_ltKeys hI.kind hI.pints (by rw [hI.size]; exact hi) (by rw [hI.size]; exact hj) h

theorem wpS_rev {st : SortSt} {lo hi : Nat} {Q : Unit → SortSt → Prop} (hI : SI N st) (hh : hi ≤ N)
    (h : ∀ st', SI N st' → pendingOf st' = pendingOf st → (∀ k, K (arrOf st') k = if lo ≤ k ∧ k < hi then K (arrOf st) (lo + hi - 1 - k) else K (arrOf st) k) → Q () st') :
    wpS (model prog w) A E s (reverseSlice' lo hi) Q st :=
  wpS_reverse (h _ (hI.setArr (mirror_perm _ _ _ _)) rfl fun k => K_mirror (by rw [hI.size]; exact hh) k)

theorem wpS_countRun' {st : SortSt} {lo nrem : Nat} {Q : Option Nat → SortSt → Prop} (hI : SI N st) (hn : lo + nrem ≤ N) (h1 : 1 ≤ nrem)
    (h : ∀ m st', SI N st' → Kp lo st st' → 1 ≤ m → m ≤ nrem → Seg (arrOf st') lo (lo + m) → Q (some m) st') :
    wpS (model prog w) A E s (countRun' lo nrem) Q st := by
  unfold countRun'
  refine wpS_bind (wpS_mono (wpS_forRange
    (I := fun x c st' => st' = st ∧ c = (none, x) ∧ Seg (arrOf st) lo (lo + x))
    (Q := fun c st' => st' = st ∧ ∃ n, c = (none, n) ∧ 1 ≤ n ∧ n ≤ nrem ∧ Seg (arrOf st) lo (lo + n) ∧ (n = nrem ∨ K (arrOf st) (lo + n) < K (arrOf st) (lo + n - 1))) ?step ?fin ?init) ?post)
  case init =>
    refine ⟨rfl, rfl, fun i j hi hij hj => ?_⟩
    have : i = j := by omega
    subst this
    exact Int.le_refl _
  case fin =>
    rintro c st' ⟨rfl, rfl, hs⟩
    rw [show max 1 nrem = nrem by omega] at hs ⊢
    exact ⟨rfl, nrem, rfl, h1, Nat.le_refl _, hs, .inl rfl⟩
  case step =>
    rintro x c st' hx1 hx2 ⟨rfl, rfl, hs⟩
    dsimp only
    refine wpS_bind (wpS_ltI hI (by omega) (by omega) ?_)
    dsimp only
    by_cases hl : K (arrOf st') (lo + x) < K (arrOf st') (lo + x - 1)
    · rw [if_pos (decide_eq_true hl)]
      exact wpS_pure ⟨rfl, x, rfl, hx1, by omega, hs, .inr hl⟩
    · rw [if_neg (by rw [decide_eq_false hl]; decide)]
      refine wpS_pure ⟨rfl, rfl, fun i j hi hij hj => ?_⟩
      by_cases hjx : j < lo + x
      · exact hs i j hi hij hjx
      · have hj' : j = lo + x := by omega
        subst hj'
        by_cases hi' : i = lo + x
        · subst hi'; exact Int.le_refl _
        · exact Int.le_trans (hs i (lo + x - 1) hi (by omega) (by omega)) (Int.not_lt.mp hl)
  case post =>
    rintro c st' ⟨rfl, n, rfl, hn1, hn2, hs, ho⟩
    dsimp only
    by_cases c1 : n = nrem
    · rw [if_pos (by simpa using c1)]
      exact wpS_pure (h n _ hI .rfl' hn1 hn2 hs)
    rw [if_neg (by simpa using c1)]
    have hlt : K (arrOf st') (lo + n) < K (arrOf st') (lo + n - 1) := ho.resolve_left c1
    have hn3 : n + 1 ≤ nrem := by omega
    by_cases c2 : n > 1
    all_goals (
      first
        | (rw [if_pos c2]
           refine wpS_bind (wpS_ltI hI (by omega) (by omega) ?_)
           dsimp only
           by_cases hrose : K (arrOf st') lo < K (arrOf st') (lo + n - 1)
           · rw [if_pos (decide_eq_true hrose)]
             exact wpS_pure (h n _ hI .rfl' hn1 hn2 hs)
           rw [if_neg (by rw [decide_eq_false hrose]; decide)]
           have hall : ∀ k, lo ≤ k → k < lo + n → K (arrOf st') k = K (arrOf st') (lo + n - 1) := by
             intro k hk1 hk2
             have a1 := hs lo k (by omega) hk1 hk2
             have a2 := hs k (lo + n - 1) hk1 (by omega) (by omega)
             omega
           refine wpS_bind (wpS_rev hI (by omega) fun st1 hI1 hp1 hK1 => ?_)
           have hK2 : ∀ k, K (arrOf st1) k = K (arrOf st') k := by
             intro k
             rw [hK1]
             split
             · rw [hall _ (by omega) (by omega), hall k (by omega) (by omega)]
             · rfl
           have hkp1 : Kp lo st' st1 := ⟨hp1, fun i _ => hK2 i⟩
           have hd : Dsc (arrOf st1) lo (lo + (n + 1)) := by
             intro i j hi hij hj
             rw [hK2, hK2]
             by_cases hjn : j < lo + n
             · rw [hall i hi (by omega), hall j (by omega) hjn]; exact Int.le_refl _
             · have hj' : j = lo + n := by omega
               subst hj'
               by_cases hi' : i = lo + n
               · subst hi'; exact Int.le_refl _
               · rw [hall i hi (by omega)]; exact Int.le_of_lt hlt)
        | (rw [if_neg c2]
           have hn0 : n = 1 := by omega
           have hd0 : Dsc (arrOf st') lo (lo + (n + 1)) := by
             intro i j hi hij hj
             by_cases hi' : i = j
             · subst hi'; exact Int.le_refl _
             · have e1 : i = lo := by omega
               have e2 : j = lo + n := by omega
               have e3 : lo = lo + n - 1 := by omega
               rw [e1, e2]
               rw [← e3] at hlt
               exact Int.le_of_lt hlt
           obtain ⟨st1, e1⟩ : ∃ x, x = st' := ⟨_, rfl⟩
           have hI1 : SI N st1 := by rw [e1]; exact hI
           have hkp1 : Kp lo st' st1 := by rw [e1]; exact .rfl'
           have hd : Dsc (arrOf st1) lo (lo + (n + 1)) := by rw [e1]; exact hd0
           rw [show wpS (model prog w) A E s _ Q st' = wpS (model prog w) A E s _ Q st1 from by rw [e1]])
      refine wpS_bind (wpS_rule ?_)
      refine wpS_bind (wpS_mono (wpS_forRange
        (I := fun x c st2 => ∃ q, c = (none, x, q) ∧ SI N st2 ∧ Kp lo st1 st2 ∧ Dsc (arrOf st2) lo (lo + x) ∧ q + 1 ≤ x ∧ (∀ i, lo + x - (q + 1) ≤ i → i < lo + x → K (arrOf st2) i = K (arrOf st2) (lo + x - 1)))
        (Q := fun c st2 => ∃ m q, c = (none, m, q) ∧ n + 1 ≤ m ∧ m ≤ nrem ∧ SI N st2 ∧ Kp lo st1 st2 ∧ Dsc (arrOf st2) lo (lo + m) ∧ q + 1 ≤ m ∧ (∀ i, lo + m - (q + 1) ≤ i → i < lo + m → K (arrOf st2) i = K (arrOf st2) (lo + m - 1))) ?step2 ?fin2 ?init2) ?post2)
      case init2 => exact ⟨0, rfl, hI1, .rfl', hd, by omega, fun i h1 h2 => by congr 1; omega⟩
      case fin2 =>
        rintro c st2 ⟨q, rfl, g1, g2, g3, g4, g5⟩
        rw [show max (n + 1) nrem = nrem by omega] at g3 g4 g5 ⊢
        exact ⟨nrem, q, rfl, hn3, Nat.le_refl _, g1, g2, g3, g4, g5⟩
      case step2 =>
        rintro x c st2 hx1 hx2 ⟨q, rfl, g1, g2, g3, g4, g5⟩
        dsimp only
        refine wpS_bind (wpS_ltI g1 (by omega) (by omega) ?_)
        dsimp only
        by_cases hl : K (arrOf st2) (lo + x) < K (arrOf st2) (lo + x - 1)
        · rw [if_pos (decide_eq_true hl)]
          have step1 : ∀ xs : Array Keyed, (∀ k, K xs k = K (arrOf st2) k) → Dsc xs lo (lo + (x + 1)) := by
            intro xs hk i j hi hij hj
            rw [hk, hk]
            by_cases hjx : j < lo + x
            · exact g3 i j hi hij hjx
            · have hj' : j = lo + x := by omega
              subst hj'
              by_cases hi' : i = lo + x
              · subst hi'; exact Int.le_refl _
              · exact Int.le_trans (Int.le_of_lt hl) (g3 i (lo + x - 1) hi (by omega) (by omega))
          by_cases hq : q > 0
          · rw [if_pos hq]
            refine wpS_bind (wpS_rev g1 (by omega) fun st3 f1 f2 f3 => wpS_pure ?_)
            have f4 : ∀ k, K (arrOf st3) k = K (arrOf st2) k := by
              intro k
              rw [f3]
              split
              · rw [g5 _ (by omega) (by omega), g5 k (by omega) (by omega)]
              · rfl
            exact ⟨0, rfl, f1, g2.trans ⟨f2, fun i _ => f4 i⟩, step1 _ f4, by omega, fun i h1 h2 => by congr 1; omega⟩
          · rw [if_neg hq]
            exact wpS_pure ⟨0, rfl, g1, g2, step1 _ (fun _ => rfl), by omega, fun i h1 h2 => by congr 1; omega⟩
        · rw [if_neg (by rw [decide_eq_false hl]; decide)]
          refine wpS_bind (wpS_ltI g1 (by omega) (by omega) ?_)
          dsimp only
          by_cases hg : K (arrOf st2) (lo + x - 1) < K (arrOf st2) (lo + x)
          · rw [if_pos (decide_eq_true hg)]
            exact wpS_pure ⟨x, q, rfl, hx1, by omega, g1, g2, g3, g4, g5⟩
          · rw [if_neg (by rw [decide_eq_false hg]; decide)]
            have he : K (arrOf st2) (lo + x) = K (arrOf st2) (lo + x - 1) := by omega
            refine wpS_pure ⟨q + 1, rfl, g1, g2, fun i j hi hij hj => ?_, by omega, fun i h1 h2 => ?_⟩
            · by_cases hjx : j < lo + x
              · exact g3 i j hi hij hjx
              · have hj' : j = lo + x := by omega
                subst hj'
                by_cases hi' : i = lo + x
                · subst hi'; exact Int.le_refl _
                · rw [he]; exact g3 i (lo + x - 1) hi (by omega) (by omega)
            · rw [show lo + (x + 1) - 1 = lo + x by omega]
              by_cases hix : i = lo + x
              · subst hix; rfl
              · rw [he]; exact g5 i (by omega) (by omega)
      case post2 =>
        rintro c st2 ⟨m, q, rfl, b1, b2, g1, g2, g3, g4, g5⟩
        dsimp only
        by_cases hq : q > 0
        all_goals (
          first
            | (rw [if_pos hq]
               refine wpS_bind (wpS_rev g1 (by omega) fun st3 f1 f2 f3 => ?_)
               have f4 : ∀ k, K (arrOf st3) k = K (arrOf st2) k := by
                 intro k
                 rw [f3]
                 split
                 · rw [g5 _ (by omega) (by omega), g5 k (by omega) (by omega)]
                 · rfl
               have g2' : Kp lo st1 st3 := g2.trans ⟨f2, fun i _ => f4 i⟩
               have g3' : Dsc (arrOf st3) lo (lo + m) := by
                 intro i j hi hij hj
                 rw [f4, f4]
                 exact g3 i j hi hij hj)
            | (rw [if_neg hq]
               have f1 := g1
               have g2' := g2
               have g3' := g3
               clear g1 g2 g3 g5
               generalize st2 = st3 at *)
          refine wpS_bind (wpS_rev f1 (by omega) fun st4 p1 p2 p3 => ?_)
          have p4 : Seg (arrOf st4) lo (lo + m) := by
            intro i j hi hij hj
            rw [p3, p3, if_pos (by omega), if_pos (by omega)]
            exact g3' _ _ (by omega) (by omega) (by omega)
          have p5 : Kp lo st' st4 := (hkp1.trans g2').trans ⟨p2, fun i hi => by rw [p3, if_neg (by omega)]⟩
          refine wpS_bind (wpS_mono (wpS_forRange
            (I := fun x c st5 => st5 = st4 ∧ c = (none, x) ∧ Seg (arrOf st4) lo (lo + x))
            (Q := fun c st5 => st5 = st4 ∧ ∃ n, c = (none, n) ∧ m ≤ n ∧ n ≤ nrem ∧ Seg (arrOf st4) lo (lo + n)) ?step5 ?fin5 ?init5) ?post5)
          case init5 => exact ⟨rfl, rfl, p4⟩
          case fin5 =>
            rintro c st5 ⟨rfl, rfl, hs⟩
            rw [show max m nrem = nrem by omega] at hs ⊢
            exact ⟨rfl, nrem, rfl, b2, Nat.le_refl _, hs⟩
          case step5 =>
            rintro x c st5 hx1 hx2 ⟨rfl, rfl, hs⟩
            dsimp only
            refine wpS_bind (wpS_ltI p1 (by omega) (by omega) ?_)
            dsimp only
            by_cases hl : K (arrOf st5) (lo + x) < K (arrOf st5) (lo + x - 1)
            · rw [if_pos (decide_eq_true hl)]
              exact wpS_pure ⟨rfl, x, rfl, hx1, by omega, hs⟩
            · rw [if_neg (by rw [decide_eq_false hl]; decide)]
              refine wpS_pure ⟨rfl, rfl, fun i j hi hij hj => ?_⟩
              by_cases hjx : j < lo + x
              · exact hs i j hi hij hjx
              · have hj' : j = lo + x := by omega
                subst hj'
                by_cases hi' : i = lo + x
                · subst hi'; exact Int.le_refl _
                · exact Int.le_trans (hs i (lo + x - 1) hi (by omega) (by omega)) (Int.not_lt.mp hl)
          case post5 =>
            rintro c st5 ⟨rfl, k, rfl, k1, k2, hs⟩
            exact wpS_pure (h k _ p1 p5 (by omega) k2 hs)))

theorem wpS_binarySort' {st : SortSt} {lo n ok : Nat} {Q : Bool → SortSt → Prop} (hI : SI N st) (hn : lo + n ≤ N) (hok : ok ≤ n) (hs : Seg (arrOf st) lo (lo + ok))
    (h : ∀ st', SI N st' → Kp lo st st' → Seg (arrOf st') lo (lo + n) → Q true st') : wpS (model prog w) A E s (binarySort' lo n ok) Q st := by
  unfold binarySort'
  refine wpS_bind (wpS_mono (wpS_forRange (I := fun k c st' => c = (none, ()) ∧ SI N st' ∧ Kp lo st st' ∧ Seg (arrOf st') lo (lo + min k n))
    (Q := fun c st' => c = (none, ()) ∧ SI N st' ∧ Kp lo st st' ∧ Seg (arrOf st') lo (lo + n)) ?step ?fin ?init) ?post)
  case post =>
    rintro c st' ⟨rfl, h1, h2, h3⟩
    exact wpS_pure (h st' h1 h2 h3)
  case init =>
    refine ⟨rfl, hI, .rfl', fun i j hi hij hj => ?_⟩
    by_cases h1 : ok = 0
    · have : i = j := by omega
      subst this; exact Int.le_refl _
    · exact hs i j hi hij (by omega)
  case fin =>
    rintro c st' ⟨hc, h1, h2, h3⟩
    refine ⟨hc, h1, h2, ?_⟩
    rwa [show min (max (max ok 1) n) n = n by omega] at h3
  case step =>
    rintro k c st' hak hkn ⟨rfl, h1, h2, h3⟩
    rw [show min k n = k by omega] at h3
    dsimp only
    refine wpS_bind (wpS_mono (wpS_forRange (I := fun x c st'' => st'' = st' ∧ ∃ l r, c = (none, l, r) ∧ l ≤ r ∧ r ≤ k ∧ r - l ≤ k - x ∧
        (∀ i, lo ≤ i → i < lo + l → K (arrOf st') i ≤ K (arrOf st') (lo + k)) ∧ (∀ i, lo + r ≤ i → i < lo + k → K (arrOf st') (lo + k) < K (arrOf st') i))
      (Q := fun c st'' => st'' = st' ∧ ∃ l r, c = (none, l, r) ∧ l ≤ k ∧
        (∀ i, lo ≤ i → i < lo + l → K (arrOf st') i ≤ K (arrOf st') (lo + k)) ∧ (∀ i, lo + l ≤ i → i < lo + k → K (arrOf st') (lo + k) < K (arrOf st') i)) ?istep ?ifin ?iinit) ?ipost)
    case iinit => exact ⟨rfl, 0, k, rfl, by omega, by omega, by omega, fun i hi1 hi => by omega, fun i h1 h2 => by omega⟩
    case ifin =>
      rintro c st'' ⟨rfl, l, r, rfl, hlr, hrk, hm, hlo, hhi⟩
      have : l = r := by omega
      subst this
      exact ⟨rfl, l, l, rfl, hrk, hlo, hhi⟩
    case istep =>
      rintro x c st'' _ hxk ⟨rfl, l, r, rfl, hlr, hrk, hm, hlo, hhi⟩
      dsimp only
      by_cases hge : l ≥ r
      · rw [if_pos hge]
        have : l = r := by omega
        subst this
        exact wpS_pure ⟨rfl, l, l, rfl, hrk, hlo, hhi⟩
      · rw [if_neg hge]
        refine wpS_bind (wpS_ltI h1 (by omega) (by omega) ?_)
        dsimp only
        by_cases hless : K (arrOf st'') (lo + k) < K (arrOf st'') (lo + (l + r) / 2)
        · rw [if_pos (decide_eq_true hless)]
          refine wpS_pure ⟨rfl, l, (l + r) / 2, rfl, by omega, by omega, by omega, hlo, fun i g1 g2 => ?_⟩
          exact Int.lt_of_lt_of_le hless (h3 _ _ (by omega) g1 g2)
        · rw [if_neg (by rw [decide_eq_false hless]; decide)]
          refine wpS_pure ⟨rfl, (l + r) / 2 + 1, r, rfl, by omega, by omega, by omega, fun i g0 g1 => ?_, hhi⟩
          exact Int.le_trans (h3 i (lo + (l + r) / 2) g0 (by omega) (by omega)) (Int.not_lt.mp hless)
    case ipost =>
      rintro c st'' ⟨rfl, l, r, rfl, hlk, hlo, hhi⟩
      dsimp only
      show wpS _ _ _ _ (do moveDown' (lo + k) (lo + l); pure (ForInStep.yield (none, ()))) _ _
      rw [moveDown'_eq]
      have hks : lo + k < (arrOf st'').size := by rw [h1.size]; omega
      have hKb : ∀ i, K (arrOf (setArr st'' (bubble (arrOf st'') (lo + k) (lo + k - (lo + l))))) i = if i = lo + l then K (arrOf st'') (lo + k) else if lo + l < i ∧ i ≤ lo + k then K (arrOf st'') (i - 1) else K (arrOf st'') i := by
        intro i
        show K (bubble (arrOf st'') (lo + k) (lo + k - (lo + l))) i = _
        rw [K_bubble hks (by omega), show lo + k - (lo + k - (lo + l)) = lo + l by omega]
      refine wpS_bind (wpS_modify (wpS_pure ⟨rfl, h1.setArr (bubble_perm _ _ _), h2.trans ⟨rfl, fun i hi => by rw [hKb, if_neg (by omega), if_neg (by omega)]⟩, ?_⟩))
      rw [show min (k + 1) n = k + 1 by omega]
      intro i j hi hij hj
      rw [hKb, hKb]
      repeat' split
      all_goals first
        | (exfalso; omega)
        | exact Int.le_refl _
        | exact hlo _ (by omega) (by omega)
        | exact Int.le_of_lt (hhi _ (by omega) (by omega))
        | exact h3 _ _ (by omega) (by omega) (by omega)
end
end Mine
end
section
open PySem PyProof.Rows
set_option linter.unusedVariables false
namespace Mine

/-- the pending runs cover lo to hi, each is in order -/
def Runs (xs : Array Keyed) : Nat → List (Nat × Nat × Nat) → Nat → Prop
  | lo, [], hi => lo = hi
  | lo, (a, n, _) :: r, hi => a = lo ∧ 1 ≤ n ∧ Seg xs lo (lo + n) ∧ Runs xs (lo + n) r hi

theorem Runs.le {xs : Array Keyed} : ∀ {p : List (Nat × Nat × Nat)} {lo hi : Nat}, Runs xs lo p hi → lo + p.length ≤ hi
  | [], lo, hi, h => by
    have h' : lo = hi := h
    simp only [List.length_nil]
    omega
  | (a, n, q) :: r, lo, hi, h => by
    have h' := h.2.2.2.le
    have h1 := h.2.1
    simp only [List.length_cons]
    omega
theorem Runs.congr {xs ys : Array Keyed} : ∀ {p : List (Nat × Nat × Nat)} {lo hi : Nat}, Runs xs lo p hi → (∀ k, lo ≤ k → k < hi → K ys k = K xs k) → Runs ys lo p hi
  | [], lo, hi, h, _ => h
  | (a, n, q) :: r, lo, hi, h, he => by
    have hle := h.2.2.2.le
    refine ⟨h.1, h.2.1, fun i j hi' hij hj => ?_, h.2.2.2.congr fun k h1 h2 => he k (by omega) h2⟩
    rw [he i hi' (by omega), he j (by omega) (by omega)]
    exact h.2.2.1 i j hi' hij hj
theorem Runs.app {xs : Array Keyed} : ∀ {p : List (Nat × Nat × Nat)} {r : List (Nat × Nat × Nat)} {lo hi : Nat}, Runs xs lo (p ++ r) hi ↔ ∃ m, Runs xs lo p m ∧ Runs xs m r hi
  | [], r, lo, hi => ⟨fun h => ⟨lo, rfl, h⟩, fun ⟨m, h1, h2⟩ => by
      have h1' : lo = m := h1
      subst h1'
      exact h2⟩
  | (a, n, q) :: p, r, lo, hi => by
    constructor
    · rintro ⟨h1, h2, h3, h4⟩
      obtain ⟨m, h5, h6⟩ := Runs.app.mp h4
      exact ⟨m, ⟨h1, h2, h3, h5⟩, h6⟩
    · rintro ⟨m, ⟨h1, h2, h3, h5⟩, h6⟩
      exact ⟨h1, h2, h3, Runs.app.mpr ⟨m, h5, h6⟩⟩
theorem Runs.push {xs : Array Keyed} {p : List (Nat × Nat × Nat)} {lo hi n : Nat} (h : Runs xs lo p hi) (h1 : 1 ≤ n) (hs : Seg xs hi (hi + n)) (q : Nat) : Runs xs lo (p ++ [(hi, n, q)]) (hi + n) :=
  Runs.app.mpr ⟨hi, h, rfl, h1, hs, rfl⟩
/-- the third number is no one's -/
theorem Runs.thirds {xs : Array Keyed} : ∀ {p r : List (Nat × Nat × Nat)} {lo hi : Nat}, p.map (fun x => (x.1, x.2.1)) = r.map (fun x => (x.1, x.2.1)) → Runs xs lo p hi → Runs xs lo r hi
  | [], [], _, _, _, h => h
  | (a, n, q) :: p, (b, m, q') :: r, lo, hi, e, h => by
    simp only [List.map_cons, List.cons.injEq, Prod.mk.injEq] at e
    obtain ⟨⟨rfl, rfl⟩, e⟩ := e
    exact ⟨h.1, h.2.1, h.2.2.1, h.2.2.2.thirds e⟩

theorem writeBack (sa : Nat) : ∀ (l : List Keyed) (k : Nat) (xs : Array Keyed), sa + k + l.length ≤ xs.size →
    ((l.zipIdx k).foldl (fun a (p, j) => a.setIfInBounds (sa + j) p) xs).size = xs.size ∧
    ∀ i, ((l.zipIdx k).foldl (fun a (p, j) => a.setIfInBounds (sa + j) p) xs)[i]? = if sa + k ≤ i ∧ i < sa + k + l.length then l[i - (sa + k)]? else xs[i]?
  | [], k, xs, _ => by
    refine ⟨rfl, fun i => ?_⟩
    rw [if_neg (by simp only [List.length_nil]; omega)]
    rfl
  | x :: l, k, xs, h => by
    simp only [List.length_cons] at h
    obtain ⟨h1, h2⟩ := writeBack sa l (k + 1) (xs.setIfInBounds (sa + k) x) (by rw [Array.size_setIfInBounds]; omega)
    rw [List.zipIdx_cons, List.foldl_cons]
    refine ⟨h1.trans Array.size_setIfInBounds, fun i => ?_⟩
    rw [h2 i]
    simp only [List.length_cons]
    by_cases c1 : sa + (k + 1) ≤ i ∧ i < sa + (k + 1) + l.length
    · rw [if_pos c1, if_pos (by omega), show i - (sa + k) = (i - (sa + (k + 1))) + 1 by omega, List.getElem?_cons_succ]
    · rw [if_neg c1]
      by_cases c2 : i = sa + k
      · subst c2
        rw [if_pos (by omega), Nat.sub_self, List.getElem?_cons_zero, Array.getElem?_setIfInBounds_self_of_lt (by omega)]
      · rw [if_neg (by omega), Array.getElem?_setIfInBounds_ne (by omega)]

theorem K_ext {a : Array Keyed} {i j k : Nat} (hk : k < j - i) (hj : j ≤ a.size) : K (a.extract i j) k = K a (i + k) := by
  refine K_congr ?_
  rw [Array.getElem?_extract_of_lt (by omega)]
  exact (getElem?_pos a (i + k) (by omega)).symm
theorem AllP.ext {a : Array Keyed} (h : AllP a.toList) (i j : Nat) : AllP (a.extract i j).toList := by
  rw [ext_mid]
  exact (h.drop _).take _
theorem Seg.ext {a : Array Keyed} {i j : Nat} (h : Seg a i j) (hj : j ≤ a.size) : Pw (a.extract i j).toList := by
  refine List.pairwise_iff_getElem.mpr fun p q hp hq hpq => ?_
  have hp' : p < (a.extract i j).size := by rw [← Array.length_toList]; exact hp
  have hq' : q < (a.extract i j).size := by rw [← Array.length_toList]; exact hq
  have hs : (a.extract i j).size = j - i := by rw [Array.size_extract]; omega
  rw [hs] at hp' hq'
  have e1 : kv (a.extract i j).toList[p] = K a (i + p) := by
    rw [Array.getElem_toList, kv_K (by rw [hs]; exact hp'), K_ext hp' hj]
  have e2 : kv (a.extract i j).toList[q] = K a (i + q) := by
    rw [Array.getElem_toList, kv_K (by rw [hs]; exact hq'), K_ext hq' hj]
  rw [e1, e2]
  exact h _ _ (by omega) (by omega) (by omega)
theorem FromP.K {a b r : Array Keyed} (h : FromP a b r.toList) {i : Nat} (hi : i < r.size) : (∃ j, j < a.size ∧ PyProof.Rows.K r i = PyProof.Rows.K a j) ∨ ∃ j, j < b.size ∧ PyProof.Rows.K r i = PyProof.Rows.K b j := by
  rcases h r[i] (by simp) with h | h
  · obtain ⟨j, hj, e⟩ := List.getElem_of_mem h
    have hj' : j < a.size := by simpa using hj
    rw [Array.getElem_toList] at e
    exact .inl ⟨j, hj', by rw [← kv_K hi, ← kv_K hj', e]⟩
  · obtain ⟨j, hj, e⟩ := List.getElem_of_mem h
    have hj' : j < b.size := by simpa using hj
    rw [Array.getElem_toList] at e
    exact .inr ⟨j, hj', by rw [← kv_K hi, ← kv_K hj', e]⟩
theorem AllP.of {xs : Array Keyed} (h : ∀ (i : Nat) (p : Keyed), xs[i]? = some p → IntPair p) : AllP xs.toList := by
  intro p hp
  obtain ⟨i, hi, e⟩ := List.getElem_of_mem hp
  refine h i p ?_
  rw [← Array.getElem?_toList, List.getElem?_eq_getElem hi, e]
theorem AllP.get {xs : Array Keyed} (h : AllP xs.toList) {i : Nat} {p : Keyed} (hp : xs[i]? = some p) : IntPair p := by
  rw [← Array.getElem?_toList] at hp
  exact h p (List.mem_of_getElem? hp)

/-- the merged part written back between what lies before and behind it -/
theorem merged_back {a x y r : Array Keyed} {m k na nb nb' : Nat} (hx : x = a.extract (m + k) (m + na)) (hy : y = a.extract (m + na) (m + na + nb'))
    (hk : k < na) (hn' : 0 < nb') (hn : nb' ≤ nb) (hsz : m + na + nb ≤ a.size) (s1 : Seg a m (m + na)) (s2 : Seg a (m + na) (m + na + nb))
    (g1 : ∀ i, i < k → K a (m + i) ≤ K a (m + na)) (g2 : K a (m + na) ≤ K a (m + k))
    (g3 : ∀ i, i < nb' → K a (m + na + i) ≤ K a (m + na - 1)) (g4 : ∀ i, nb' ≤ i → i < nb → K a (m + na - 1) ≤ K a (m + na + i))
    (ha : AllP a.toList) (hr : MRes x y r) {out : Array Keyed} (ho : out = r.toList.zipIdx.foldl (fun a x => a.setIfInBounds (m + k + x.2) x.1) a) :
    out.size = a.size ∧ AllP out.toList ∧ (∀ i, i < m ∨ m + na + nb ≤ i → K out i = K a i) ∧ Seg out m (m + (na + nb)) := by
  have sx : x.size = na - k := by rw [hx, Array.size_extract]; omega
  have sy : y.size = nb' := by rw [hy, Array.size_extract]; omega
  have sr : r.size = na - k + nb' := by rw [hr.size, sx, sy]
  obtain ⟨w1, w2⟩ := writeBack (m + k) r.toList 0 a (by rw [Array.length_toList, sr]; omega)
  have hout : out = (r.toList.zipIdx 0).foldl (fun a (p, j) => a.setIfInBounds (m + k + j) p) a := ho
  rw [← hout] at w1 w2
  have hKo : ∀ i, K out i = if m + k ≤ i ∧ i < m + na + nb' then K r (i - (m + k)) else K a i := by
    intro i
    have e := w2 i
    by_cases c : m + k ≤ i ∧ i < m + na + nb'
    · rw [if_pos c]
      rw [if_pos (by rw [Array.length_toList, sr]; omega), Array.getElem?_toList] at e
      exact K_congr e
    · rw [if_neg c]
      rw [if_neg (by rw [Array.length_toList, sr]; omega)] at e
      exact K_congr e
  have bnd : ∀ i, i < r.size → K a (m + na) ≤ K r i ∧ K r i ≤ K a (m + na - 1) := by
    intro i hi
    rcases hr.pints.K hi with ⟨j, hj, e⟩ | ⟨j, hj, e⟩
    · rw [sx] at hj
      rw [e, hx, K_ext (by omega) (by omega)]
      have h1 := s1 (m + k) (m + k + j) (by omega) (by omega) (by omega)
      have h2 := s1 (m + k + j) (m + na - 1) (by omega) (by omega) (by omega)
      omega
    · rw [sy] at hj
      rw [e, hy, K_ext (by omega) (by omega)]
      have h1 := s2 (m + na) (m + na + j) (by omega) (by omega) (by omega)
      have h2 := g3 j hj
      omega
  refine ⟨w1, AllP.of fun i p hp => ?_, fun i hi => ?_, fun i j hi hij hj => ?_⟩
  · rw [w2 i] at hp
    split at hp
    · rcases hr.pints p (List.mem_of_getElem? hp) with h | h
      · rw [hx] at h
        exact ha.ext _ _ p h
      · rw [hy] at h
        exact ha.ext _ _ p h
    · exact ha.get hp
  · rw [hKo, if_neg (by omega)]
  · rw [hKo i, hKo j]
    by_cases ci : i < m + k
    · rw [if_neg (show ¬(m + k ≤ i ∧ i < m + na + nb') by omega)]
      have hi1 := g1 (i - m) (by omega)
      rw [show m + (i - m) = i by omega] at hi1
      by_cases cj : j < m + k
      · rw [if_neg (by omega)]
        exact s1 i j hi hij (by omega)
      · by_cases cj2 : j < m + na + nb'
        · rw [if_pos (by omega)]
          have := bnd (j - (m + k)) (by rw [sr]; omega)
          omega
        · rw [if_neg (by omega)]
          have := s2 (m + na) j (by omega) (by omega) (by omega)
          omega
    · by_cases ci2 : i < m + na + nb'
      · rw [if_pos (by omega)]
        by_cases cj2 : j < m + na + nb'
        · rw [if_pos (by omega)]
          exact hr.pw.K (by omega) (by rw [sr]; omega)
        · rw [if_neg (by omega)]
          have h1 := bnd (i - (m + k)) (by rw [sr]; omega)
          have h2 := g4 (j - (m + na)) (by omega) (by omega)
          rw [show m + na + (j - (m + na)) = j by omega] at h2
          omega
      · rw [if_neg (by omega), if_neg (by omega)]
        exact s2 i j (by omega) hij (by omega)

section
variable {prog : Program} {w : World} {A : Around} {E : Value → Shared → Prop} {s : Shared} {N : Nat}

theorem wpS_set {st st' : SortSt} {Q : PUnit → SortSt → Prop} {M : Model} (h : Q ⟨⟩ st') : wpS M A E s (set st' : StateT SortSt Sem PUnit) Q st := by
  unfold wpS
  rw [StateT.run_set]
  exact wpAny_pure ⟨rfl, h⟩

theorem pend_split {p : Array (Nat × Nat × Nat)} {i : Nat} (hi : i + 1 < p.size) :
    ∃ p1 x y p2, p.toList = p1 ++ x :: y :: p2 ∧ p1.length = i ∧ p[i]? = some x ∧ p[i + 1]? = some y ∧
      ∀ v, ((p.setIfInBounds i v).eraseIdxIfInBounds (i + 1)).toList = p1 ++ v :: p2 := by
  have h1 : i < p.toList.length := by rw [Array.length_toList]; omega
  have h2 : i + 1 < p.toList.length := by rw [Array.length_toList]; omega
  have e : p.toList = p.toList.take i ++ p.toList[i] :: p.toList[i + 1] :: p.toList.drop (i + 2) := by
    rw [← List.drop_eq_getElem_cons h2, ← List.drop_eq_getElem_cons h1, List.take_append_drop]
  have hl : (p.toList.take i).length = i := by rw [List.length_take]; omega
  refine ⟨_, _, _, _, e, hl, ?_, ?_, fun v => ?_⟩
  · rw [← Array.getElem?_toList, List.getElem?_eq_getElem h1]
  · rw [← Array.getElem?_toList, List.getElem?_eq_getElem h2]
  · rw [Array.toList_eraseIdxIfInBounds, Array.toList_setIfInBounds]
    generalize p.toList.take i = p1 at *
    generalize p.toList.drop (i + 2) = p2 at *
    generalize p.toList[i] = x at *
    generalize p.toList[i + 1] = y at *
    rw [e, ← hl]
    simp [List.eraseIdx_append_of_length_le]

def mergeAt'' : Nat → StateT SortSt Sem Bool := sortPriv% PySem.Builtin.mergeAt
theorem wpS_mergeAt {i hi : Nat} {st : SortSt} {Q : Bool → SortSt → Prop} (hI : SI N st) (hR : Runs (arrOf st) 0 (pendingOf st).toList hi) (hh : hi ≤ N) (hi2 : i + 1 < (pendingOf st).size)
    (h : ∀ st', SI N st' → Runs (arrOf st') 0 (pendingOf st').toList hi → (pendingOf st').size + 1 = (pendingOf st).size → (∀ k, hi ≤ k → K (arrOf st') k = K (arrOf st) k) → Q true st') :
    wpS (model prog w) A E s (mergeAt'' i) Q st := by
  unfold mergeAt''
  refine wpS_bind (wpS_get ?_)
  obtain ⟨p1, ⟨sa, na, pw⟩, ⟨sb, nb, pw2⟩, p2, e, hl, ex, ey, ev⟩ := pend_split hi2
  rw [e] at hR
  obtain ⟨m, hR1, hsa, hna, hS1, hsb, hnb, hS2, hR2⟩ := Runs.app.mp hR
  subst hsa
  subst hsb
  have hle := hR2.le
  have hsz := hI.size
  dsimp only
  rw [ex, ey]
  dsimp only
  refine wpS_bind (wpS_set ?_)
  have fin : ∀ st', SI N st' → (pendingOf st').toList = p1 ++ (sa, na + nb, pw) :: p2 → (∀ k, k < sa ∨ sa + na + nb ≤ k → K (arrOf st') k = K (arrOf st) k) → Seg (arrOf st') sa (sa + (na + nb)) → Q true st' := by
    intro st' q1 q2 q3 q4
    refine h st' q1 ?_ ?_ fun k hk => q3 k (.inr (by omega))
    · rw [q2]
      refine Runs.app.mpr ⟨sa, hR1.congr fun k _ hk => q3 k (.inl hk), rfl, by omega, q4, ?_⟩
      rw [← Nat.add_assoc]
      exact hR2.congr fun k hk _ => q3 k (.inr hk)
    · have e1 := congrArg List.length q2
      have e2 := congrArg List.length e
      simp only [Array.length_toList, List.length_append, List.length_cons] at e1 e2
      omega
  have hb1 : sa + na < (arrOf st).size := by omega
  have hI1 : SI N (SortSt.mk' (kindOf st) (arrOf st) (((pendingOf st).setIfInBounds i (sa, na + nb, pw)).eraseIdxIfInBounds (i + 1)) (gallopOf st) (failedOf st)) := ⟨hI.kind, hI.failed, hI.size, hI.pints⟩
  refine wpS_bind (wpS_elem hb1 (wpS_bind (wpS_gallop hI.kind (hI.pints.at hb1) hI.pints (show sa + na ≤ (arrOf st).size by omega) (by omega) (fun i j hij hj => hS1 _ _ (by omega) (by omega) (by omega)) fun k hk1 hk2 hk3 => ?_)))
  dsimp only
  have a1 : ∀ i, i < k → K (arrOf st) (sa + i) ≤ K (arrOf st) (sa + na) := fun i hi => by
    have := bey_false (hk2 i hi)
    rwa [kv_K hb1] at this
  by_cases c1 : na - k = 0
  · rw [if_pos (by simpa using c1)]
    refine wpS_pure (fin _ hI1 (ev _) (fun _ _ => rfl) fun i j hi' hij hj => ?_)
    show K (arrOf st) i ≤ K (arrOf st) j
    by_cases ci : i < sa + na
    · by_cases cj : j < sa + na
      · exact hS1 i j hi' hij cj
      · have h1 := a1 (i - sa) (by omega)
        rw [show sa + (i - sa) = i by omega] at h1
        exact Int.le_trans h1 (hS2 _ _ (Nat.le_refl _) (by omega) (by omega))
    · exact hS2 i j (by omega) hij (by omega)
  rw [if_neg (by simpa using c1)]
  have hb2 : sa + k + (na - k) - 1 < (arrOf st).size := by omega
  have eb2 : sa + k + (na - k) - 1 = sa + na - 1 := by omega
  have a2 : K (arrOf st) (sa + na) ≤ K (arrOf st) (sa + k) := by
    have := bey_false' (hk3 k (Nat.le_refl _) (by omega))
    rw [kv_K hb1] at this
    exact Int.le_of_lt this
  refine wpS_bind (wpS_elem hb2 (wpS_bind (wpS_gallop hI.kind (hI.pints.at hb2) hI.pints (show sa + na + nb ≤ (arrOf st).size by omega) (by omega) (fun i j hij hj => hS2 _ _ (by omega) (by omega) (by omega)) fun k' hj1 hj2 hj3 => ?_)))
  dsimp only
  have a3 : ∀ i, i < k' → K (arrOf st) (sa + na + i) ≤ K (arrOf st) (sa + na - 1) := fun i hi => by
    have := bey_true (hj2 i hi)
    rw [kv_K hb2, eb2] at this
    exact Int.le_of_lt this
  have a4 : ∀ i, k' ≤ i → i < nb → K (arrOf st) (sa + na - 1) ≤ K (arrOf st) (sa + na + i) := fun i hi1 hi2 => by
    have := bey_true' (hj3 i hi1 hi2)
    rw [kv_K hb2, eb2] at this
    exact this
  by_cases c2 : k' = 0
  · rw [if_pos (by simpa using c2)]
    refine wpS_pure (fin _ hI1 (ev _) (fun _ _ => rfl) fun i j hi' hij hj => ?_)
    show K (arrOf st) i ≤ K (arrOf st) j
    by_cases ci : i < sa + na
    · by_cases cj : j < sa + na
      · exact hS1 i j hi' hij cj
      · have h1 := hS1 i (sa + na - 1) hi' (by omega) (by omega)
        have h2 := a4 (j - (sa + na)) (by omega) (by omega)
        rw [show sa + na + (j - (sa + na)) = j by omega] at h2
        omega
    · exact hS2 i j (by omega) hij (by omega)
  rw [if_neg (by simpa using c2)]
  have sx : ((arrOf st).extract (sa + k) (sa + na)).size = na - k := by rw [Array.size_extract]; omega
  have sy : ((arrOf st).extract (sa + na) (sa + na + k')).size = k' := by rw [Array.size_extract]; omega
  have px : Pw ((arrOf st).extract (sa + k) (sa + na)).toList := Seg.ext (fun i j h1 h2 h3 => hS1 i j (by omega) h2 h3) (by omega)
  have py : Pw ((arrOf st).extract (sa + na) (sa + na + k')).toList := Seg.ext (fun i j h1 h2 h3 => hS2 i j (by omega) h2 (by omega)) (by omega)
  have last : ∀ (r : Array Keyed) (st' : SortSt), Same (SortSt.mk' (kindOf st) (arrOf st) (((pendingOf st).setIfInBounds i (sa, na + nb, pw)).eraseIdxIfInBounds (i + 1)) (gallopOf st) (failedOf st)) st' →
      MRes ((arrOf st).extract (sa + k) (sa + na)) ((arrOf st).extract (sa + na) (sa + na + k')) r →
      Q ((failedOf (setArr st' (r.toList.zipIdx.foldl (fun a x => a.setIfInBounds (sa + k + x.2) x.1) (arrOf st')))).isNone) (setArr st' (r.toList.zipIdx.foldl (fun a x => a.setIfInBounds (sa + k + x.2) x.1) (arrOf st'))) := by
    intro r st' hS hr
    have ea : arrOf st' = arrOf st := hS.arr
    have ef : failedOf st' = failedOf st := hS.failed
    obtain ⟨o1, o2, o3, o4⟩ := merged_back rfl rfl (by omega) (by omega) hj1 (by omega) hS1 hS2 a1 a2 a3 a4 hI.pints hr (out := r.toList.zipIdx.foldl (fun a x => a.setIfInBounds (sa + k + x.2) x.1) (arrOf st')) (by rw [ea])
    have e3 : (failedOf (setArr st' (r.toList.zipIdx.foldl (fun a x => a.setIfInBounds (sa + k + x.2) x.1) (arrOf st')))).isNone = true := by
      show (failedOf st').isNone = true
      rw [ef, hI.failed]
      rfl
    rw [e3]
    refine fin _ ⟨hS.kind.trans hI.kind, ef.trans hI.failed, o1.trans hI.size, o2⟩ ?_ o3 o4
    show (pendingOf st').toList = _
    rw [hS.pend]
    exact ev _
  have Kx : ∀ i, i < na - k → K ((arrOf st).extract (sa + k) (sa + na)) i = K (arrOf st) (sa + k + i) := fun i hi => K_ext (by omega) (by omega)
  have Ky : ∀ i, i < k' → K ((arrOf st).extract (sa + na) (sa + na + k')) i = K (arrOf st) (sa + na + i) := fun i hi => K_ext (by omega) (by omega)
  by_cases c3 : na - k ≤ k'
  · rw [if_pos c3]
    refine wpS_bind (wpS_mergeLo hI.kind (hI.pints.ext _ _) (hI.pints.ext _ _) (sx.symm ▸ (by omega)) (sy.symm ▸ (by omega)) px py ?_ ?_ fun r st' hS hr => ?_)
    · refine (Kx 0 (by omega)).symm ▸ (Ky 0 (by omega)).symm ▸ a2
    · intro i hi
      have hi' : i < k' := sy ▸ hi
      have e1 := Kx (na - k - 1) (by omega)
      have e2 := Ky i hi'
      have e3 := a3 i hi'
      rw [show sa + k + (na - k - 1) = sa + na - 1 by omega] at e1
      refine sx.symm ▸ e2.symm ▸ e1.symm ▸ e3
    · exact wpS_bind (wpS_modify (wpS_bind (wpS_get (wpS_pure (last r st' hS hr)))))
  · rw [if_neg c3]
    refine wpS_bind (wpS_mergeHi hI.kind (hI.pints.ext _ _) (hI.pints.ext _ _) (sx.symm ▸ (by omega)) (sy.symm ▸ (by omega)) px py ?_ ?_ fun r st' hS hr => ?_)
    · intro i hi
      have hi' : i < na - k := sx ▸ hi
      have e3 := Int.le_trans a2 (hS1 (sa + k) (sa + k + i) (by omega) (by omega) (by omega))
      exact (Kx i hi').symm ▸ (Ky 0 (by omega)).symm ▸ e3
    · have e1 := Kx (na - k - 1) (by omega)
      have e2 := Ky (k' - 1) (by omega)
      have e3 := a3 (k' - 1) (by omega)
      rw [show sa + k + (na - k - 1) = sa + na - 1 by omega] at e1
      refine sx.symm ▸ sy.symm ▸ e2.symm ▸ e1.symm ▸ e3
    · exact wpS_bind (wpS_modify (wpS_bind (wpS_get (wpS_pure (last r st' hS hr)))))
end
end Mine
end
section
open PySem PyProof.Rows
set_option linter.unusedVariables false
namespace Mine

theorem idx_lt {n : Nat} {c : Prop} [Decidable c] (h : 1 < n) : (if c then n - 2 - 1 else n - 2) + 1 < n := by split <;> omega
theorem modify_thirds (p : Array (Nat × Nat × Nat)) (i q : Nat) : (p.modify i fun x => (x.1, x.2.1, q)).toList.map (fun x => (x.1, x.2.1)) = p.toList.map (fun x => (x.1, x.2.1)) := by
  rw [Array.toList_modify]
  refine List.ext_getElem? fun j => ?_
  rw [List.getElem?_map, List.getElem?_map, List.getElem?_modify]
  cases p.toList[j]? with
  | none => rfl
  | some v =>
    by_cases h : i = j
    · simp [h]
    · simp [h]

section
variable {prog : Program} {w : World} {A : Around} {E : Value → Shared → Prop} {s : Shared} {N : Nat}

theorem wpS_sortAny {st : SortSt} {Q : Unit → SortSt → Prop} (hI : SI N st) (hp : pendingOf st = #[]) (h : ∀ st', SI N st' → Seg (arrOf st') 0 N → Q () st') :
    wpS (model prog w) A E s sortRuns' Q st := by
  unfold sortRuns'
  refine wpS_bind (wpS_get ?_)
  dsimp only
  rw [show ((sortPriv% PySem.Builtin.SortState.a) st).size = N from hI.size]
  generalize (sortPriv% PySem.Builtin.minRun) N N 0 = mr
  refine wpS_bind (wpS_mono (wpS_forRange
    (I := fun x c st' => ∃ lo, c = (none, lo) ∧ SI N st' ∧ Runs (arrOf st') 0 (pendingOf st').toList lo ∧ lo ≤ N ∧ x ≤ lo)
    (Q := fun c st' => c = (none, N) ∧ SI N st' ∧ Runs (arrOf st') 0 (pendingOf st').toList N) ?step ?fin ?init) ?post)
  case init => exact ⟨0, rfl, hI, by rw [hp]; rfl, Nat.zero_le _, Nat.le_refl _⟩
  case fin =>
    rintro c st' ⟨lo, rfl, h1, h2, h3, h4⟩
    have : lo = N := by omega
    subst this
    exact ⟨rfl, h1, h2⟩
  case post =>
    rintro c st' ⟨rfl, h1, h2⟩
    dsimp only
    refine wpS_bind (wpS_mono (wpS_forRange
      (I := fun x c st3 => c = (none, ()) ∧ SI N st3 ∧ Runs (arrOf st3) 0 (pendingOf st3).toList N ∧ ((pendingOf st3).size ≤ 1 ∨ (pendingOf st3).size + x ≤ N))
      (Q := fun c st3 => c = (none, ()) ∧ SI N st3 ∧ Runs (arrOf st3) 0 (pendingOf st3).toList N ∧ (pendingOf st3).size ≤ 1) ?step2 ?fin2 ?init2) ?post2)
    case init2 =>
      refine ⟨rfl, h1, h2, .inr ?_⟩
      have := h2.le
      rw [Array.length_toList] at this
      omega
    case fin2 =>
      rintro c st3 ⟨rfl, i3, r3, e3⟩
      exact ⟨rfl, i3, r3, by omega⟩
    case step2 =>
      rintro y c st3 _ hy ⟨rfl, i3, r3, e3⟩
      refine wpS_bind (wpS_get ?_)
      by_cases c3 : (pendingOf st3).size ≤ 1
      · rw [if_pos c3]
        exact wpS_pure ⟨rfl, i3, r3, c3⟩
      · rw [if_neg c3]
        have go : ∀ i, i + 1 < (pendingOf st3).size → wpS (model prog w) A E s (mergeAt'' i) (fun b st4 => b = true ∧ SI N st4 ∧ Runs (arrOf st4) 0 (pendingOf st4).toList N ∧ (pendingOf st4).size + 1 = (pendingOf st3).size) st3 :=
          fun i hi => wpS_mergeAt i3 r3 (Nat.le_refl _) hi fun st4 i4 r4 e4 _ => ⟨rfl, i4, r4, e4⟩
        refine wpS_bind (wpS_mono (go _ (idx_lt (n := (pendingOf st3).size) (by omega))) ?_)
        rintro b st4 ⟨rfl, i4, r4, e4⟩
        exact wpS_pure ⟨rfl, i4, r4, by omega⟩
    case post2 =>
      rintro c st3 ⟨rfl, i3, r3, e3⟩
      refine wpS_pure (h st3 i3 ?_)
      generalize hq : (pendingOf st3).toList = l at *
      have hl : l.length ≤ 1 := by
        rw [← hq, Array.length_toList]
        exact e3
      match l, hl with
      | [], _ =>
        have e0 : 0 = N := r3
        intro i j hi hij hj
        omega
      | [(a, n, q)], _ =>
        have e0 : 0 + n = N := r3.2.2.2
        have e1 := r3.2.2.1
        rw [e0] at e1
        exact e1
  case step =>
    rintro x c st' _ hx ⟨lo, rfl, h1, h2, h3, h4⟩
    dsimp only
    by_cases c1 : lo ≥ N
    · rw [if_pos c1]
      have : lo = N := by omega
      subst this
      exact wpS_pure ⟨rfl, h1, h2⟩
    rw [if_neg c1]
    refine wpS_bind (wpS_countRun' h1 (by omega) (by omega) fun m st1 i1 k1 m1 m2 s1 => ?_)
    dsimp only
    by_cases c2 : m < mr
    all_goals (
      first
        | (rw [if_pos c2]
           refine wpS_bind (wpS_rule ?_)
           refine wpS_bind (wpS_binarySort' i1 (show lo + min (N - lo) mr ≤ N by omega) (by omega) s1 fun st2 i2 k2 s2 => ?_)
           rw [if_neg (by decide)]
           have n1 : 1 ≤ min (N - lo) mr := by omega
           have n2 : lo + min (N - lo) mr ≤ N := by omega
           have k3 := k1.trans k2
           generalize min (N - lo) mr = n at *)
        | (rw [if_neg c2]
           have i2 := i1
           have s2 := s1
           have n1 := m1
           have n2 : lo + m ≤ N := by omega
           have k3 := k1
           clear i1 k1 s1 m1 m2
           generalize m = n at *
           generalize st1 = st2 at *)
      have r2 : Runs (arrOf st2) 0 (pendingOf st2).toList lo := by
        rw [k3.pend]
        exact h2.congr fun k _ hk => k3.low k hk
      refine wpS_bind (wpS_get ?_)
      generalize ((sortPriv% PySem.Builtin.SortState.pending) st2).back? = ob
      rcases ob with _ | ⟨q1, q2, q3⟩
      · dsimp only
        refine wpS_bind (wpS_modify (wpS_pure ⟨lo + n, rfl, ⟨i2.kind, i2.failed, i2.size, i2.pints⟩, ?_, n2, by omega⟩))
        show Runs (arrOf st2) 0 ((pendingOf st2).push (lo, n, 0)).toList (lo + n)
        rw [Array.toList_push]
        exact r2.push n1 s2 0
      · dsimp only
        generalize (sortPriv% PySem.Builtin.power) N (2 * q1 + q2) (2 * q1 + q2 + q2 + n) N = pw
        refine wpS_bind (wpS_mono (wpS_forRange
          (I := fun _ c st3 => c = (none, ()) ∧ SI N st3 ∧ Runs (arrOf st3) 0 (pendingOf st3).toList lo ∧ ∀ k, lo ≤ k → K (arrOf st3) k = K (arrOf st2) k)
          (Q := fun c st3 => c = (none, ()) ∧ SI N st3 ∧ Runs (arrOf st3) 0 (pendingOf st3).toList lo ∧ ∀ k, lo ≤ k → K (arrOf st3) k = K (arrOf st2) k) ?step2 ?fin2 ?init2) ?post2)
        case init2 => exact ⟨rfl, i2, r2, fun _ _ => rfl⟩
        case fin2 => exact fun c st3 h => h
        case step2 =>
          rintro y c st3 _ _ ⟨rfl, i3, r3, e3⟩
          refine wpS_bind (wpS_get ?_)
          by_cases c3 : (pendingOf st3).size > 1
          · rw [if_pos c3]
            generalize he : (pendingOf st3)[(pendingOf st3).size - 2]? = oe
            rcases oe with _ | ⟨f1, f2, f3⟩
            · exact wpS_pure ⟨rfl, i3, r3, e3⟩
            · dsimp only
              by_cases c4 : f3 ≤ pw
              · rw [if_pos c4]
                exact wpS_pure ⟨rfl, i3, r3, e3⟩
              · rw [if_neg c4]
                refine wpS_bind (wpS_mergeAt i3 r3 (by omega) (show (pendingOf st3).size - 2 + 1 < (pendingOf st3).size by omega) fun st4 i4 r4 _ e4 => ?_)
                exact wpS_pure ⟨rfl, i4, r4, fun k hk => (e4 k hk).trans (e3 k hk)⟩
          · rw [if_neg c3]
            exact wpS_pure ⟨rfl, i3, r3, e3⟩
        case post2 =>
          rintro c st3 ⟨rfl, i3, r3, e3⟩
          refine wpS_bind (wpS_modify (wpS_bind (wpS_modify (wpS_pure ⟨lo + n, rfl, ⟨i3.kind, i3.failed, i3.size, i3.pints⟩, ?_, n2, by omega⟩))))
          show Runs (arrOf st3) 0 (((pendingOf st3).modify ((pendingOf st3).size - 1) fun x => (x.1, x.2.1, pw)).push (lo, n, 0)).toList (lo + n)
          rw [Array.toList_push]
          refine Runs.push (r3.thirds (modify_thirds _ _ _).symm) n1 (fun i j hi hij hj => ?_) 0
          rw [e3 i hi, e3 j (by omega)]
          exact s2 i j hi hij hj)
end
end Mine
end
section
open PySem PyProof.Rows
set_option linter.unusedVariables false
set_option maxRecDepth 100000
namespace Mine

section
variable {prog : Program} {w : World} {A : Around} {E : Value → Shared → Prop} {s : Shared}

/-- list.sort by what its runs do -/
theorem list_sort_gen {a : Addr} {vs : List Value} {n : Nat} {P : Fin → Shared → Prop} {kind : SortKind} {R : Array Keyed → Prop} (ho : s.heap.get? a = some (seqObj "list" vs.toArray n))
    (hsz : vs.length ≤ 1048576)
    (hk : 2 ≤ vs.length → keyKind' vs.toArray = pure kind)
    (hrun : ∀ E s, 2 ≤ vs.length → wpS (model prog w) A E s sortRuns' (fun _ st' => failedOf st' = none ∧ R (arrOf st')) (SortSt.mk' kind (vs.toArray.zip vs.toArray) #[] 7 none))
    (hsmall : vs.length < 2 → R (vs.toArray.zip vs.toArray)) (hR : ∀ xs, R xs → xs.size = vs.length)
    (h : ∀ xs, R xs → P (.done (.ret .none)) { s with heap := sortedHeap s.heap a vs (xs.map (·.2)) }) :
    wpAny (model prog w) A (Builtin.«list.sort» ⟨[.ref a], []⟩) P E s := by
  rw [list_sort_plain]
  have hlt : a < s.heap.objs.size := Heap.lt_size ho
  have hvs : vs.toArray.size = vs.length := by simp
  refine wpAny_bind (listItems_at ho rfl ?_)
  refine wpAny_bind (listUpdate_at ho rfl ?_ (hsz := by rw [sizeLine_eq, hvs]; omega))
  obtain ⟨e1, ho1⟩ : ∃ e1, (s.heap.update a (Obj.mapSeq fun _ => #[])).get? a = some (seqObj "list" #[] e1) := ⟨_, get?_update_seq ho (fun _ => #[])⟩
  refine wpAny_bind (seqEpoch_at ho1 rfl ?_)
  refine wpAny_bind (wpAny_newTuple ?_ (by rw [sizeLine_eq, List.toList_toArray]; omega))
  refine wpAny_bind (wpAny_newList ?_)
  refine wpAny_holding ?_
  have ho6 : (((s.heap.update a (Obj.mapSeq fun _ => #[])).push (seqObj "tuple" vs.toArray 0)).push (seqObj "list" #[] 0)).get? a = some (seqObj "list" #[] e1) := by
    rw [Heap.get?_push_ne _ _ _ (by rw [size_push', Heap.size_update]; exact Nat.ne_of_lt (Nat.lt_succ_of_lt hlt)), Heap.get?_push_ne _ _ _ (by rw [Heap.size_update]; exact Nat.ne_of_lt hlt)]
    exact ho1
  show wpAny (model prog w) A _ P E { s with heap := ((s.heap.update a (Obj.mapSeq fun _ => #[])).push (seqObj "tuple" vs.toArray 0)).push (seqObj "list" #[] 0) }
  dsimp only
  have out : ∀ xs, R xs → (xs.map (·.2)).size ≤ sizeLine + 1 := fun xs hx => by
    rw [Array.size_map, hR xs hx, sizeLine_eq]
    omega
  by_cases h2 : vs.toArray.size < 2
  · rw [if_pos h2, if_pos h2]
    rw [hvs] at h2
    refine wpAny_bind (wpAny_pure ?_)
    rw [StateT.run_pure]
    refine wpAny_bind (wpAny_pure ?_)
    dsimp only
    refine wpAny_bind (seqEpoch_at ho6 rfl ?_)
    refine wpAny_bind (listUpdate_at ho6 rfl ?_ (hsz2 := out _ (hsmall h2)))
    simp only [bne_self_eq_false, Bool.false_eq_true, if_false]
    exact wpAny_pure (h _ (hsmall h2))
  · rw [if_neg h2, if_neg h2]
    have h2' : 2 ≤ vs.length := by omega
    rw [hk h2']
    refine wpAny_bind (wpAny_pure ?_)
    refine wpAny_bind (wpAny_mono (hrun E _ h2') ?_ fun _ _ e => e)
    rintro ⟨⟨⟩, st'⟩ s' ⟨rfl, hf, hr⟩
    dsimp only
    refine wpAny_bind (seqEpoch_at ho6 rfl ?_)
    refine wpAny_bind (listUpdate_at ho6 rfl ?_ (hsz2 := out _ hr))
    rw [show failedOf st' = none from hf]
    simp only [bne_self_eq_false, Bool.false_eq_true, if_false]
    exact wpAny_pure (h _ hr)

theorem sorted_gen {h₀ : Heap} {L : Addr} {m : Str → Option Value} {news : List (Addr × Obj)} {l : Addr} {vs : List Value} {Q : Value → Shared → Prop} {kind : SortKind} {R : Array Keyed → Prop}
    (F : Fr h₀ L s.heap m) (N : News h₀ L s.heap news) (hl : s.heap.IsList l vs.toArray)
    (hsz : vs.length ≤ 1048576)
    (hk : 2 ≤ vs.length → keyKind' vs.toArray = pure kind)
    (hrun : ∀ A E s, 2 ≤ vs.length → wpS (model prog w) A E s sortRuns' (fun _ st' => failedOf st' = none ∧ R (arrOf st')) (SortSt.mk' kind (vs.toArray.zip vs.toArray) #[] 7 none))
    (hsmall : vs.length < 2 → R (vs.toArray.zip vs.toArray)) (hR : ∀ xs, R xs → xs.size = vs.length)
    (h : ∀ (h' : Heap) (xs : Array Keyed) (D : Addr) (e : Nat), R xs → Fr h₀ L h' m → News h₀ L h' ((D, PySem.W.listOf (xs.map (·.2)).toList.toArray e) :: news) → (∀ q ∈ news, q.1 < D) → Q (.ref D) { s with heap := h' }) :
    wpAny (model prog w) A (call (.builtin "sorted") [.ref l]) Q E s := by
  refine Calls.call_function_entry kind_sorted plain_sorted entry_sorted (args_sorted1 _) ?_
  unfold Builtin.«sorted»
  refine wpAny_bind (m := checkCount "sorted" 1 1 _) (wpAny_pure ?_)
  refine wpAny_bind (collect_list hl ?_ (by rw [sizeLine_eq]; omega))
  refine wpAny_bind (wpAny_newList ?_ (by rw [sizeLine_eq]; omega))
  have hs1 : ((s.heap.push (seqObj "list" #[] 0)).update s.heap.objs.size (Obj.mapSeq (· ++ vs.toArray))).objs.size = s.heap.objs.size + 1 := by
    rw [Heap.size_update, size_push']
  have hoL : (((s.heap.push (seqObj "list" #[] 0)).update s.heap.objs.size (Obj.mapSeq (· ++ vs.toArray))).push (seqObj "list" vs.toArray 0)).get? (s.heap.objs.size + 1) = some (seqObj "list" vs.toArray 0) := by
    rw [← hs1]
    exact Heap.get?_push_size _ rfl
  show wpAny _ _ _ _ _ { s with heap := ((s.heap.push (seqObj "list" #[] 0)).update s.heap.objs.size (Obj.mapSeq (· ++ vs.toArray))).push (seqObj "list" vs.toArray 0) }
  rw [hs1]
  refine wpAny_bind (wpAny_holding (wpAny_call_entry slot_list_sort ⟨_, hoL, rfl⟩ entry_list_sort
    (list_sort_gen (R := R) hoL hsz hk (fun E s h2 => hrun _ E s h2) hsmall hR fun xs hx => ⟨_, rfl, ?_⟩) (args_list_sort _)))
  refine wpAny_pure ⟨_, rfl, ?_⟩
  obtain ⟨e, he⟩ := sortedAll_at s.heap vs (xs.map (·.2))
  refine h _ xs _ e hx (F.kept fun _ _ => sortedAll_old) (N.kept_cons F (fun _ _ => sortedAll_old) (Nat.le_succ _) ?_) fun p hp => Nat.lt_succ_of_lt (Heap.lt_size (N p hp).1)
  rw [Array.toArray_toList]
  exact he
end
end Mine
end
section
open PySem PyProof.Rows
set_option linter.unusedVariables false
set_option maxRecDepth 100000
namespace Mine

theorem intPairs {vs : List Value} {ns : List Int} (hI : IntsAre vs ns) : AllP (vs.toArray.zip vs.toArray).toList := by
  intro p hp
  have hp' : p ∈ vs.zip vs := by simpa using hp
  obtain ⟨e, hm⟩ := mem_zip_self hp'
  obtain ⟨n, t, e1⟩ := hI.all _ hm
  exact ⟨n, t, Prod.ext e1 (e ▸ e1)⟩

theorem ints_out {xs : Array Keyed} (h : AllP xs.toList) : IntsAre (xs.map (·.2)).toList (xs.toList.map kv) := by
  rw [Array.toList_map]
  generalize xs.toList = l at *
  induction l with
  | nil => exact .nil
  | cons p r ih =>
    obtain ⟨n, t, rfl⟩ := h p (List.mem_cons_self ..)
    exact .cons n t (ih fun q hq => h q (List.mem_cons_of_mem _ hq))

theorem pairwise_out {xs : Array Keyed} (h : Seg xs 0 xs.size) : (xs.toList.map kv).Pairwise (· ≤ ·) := by
  refine List.pairwise_iff_getElem.mpr fun i j hi hj hij => ?_
  have hi' : i < xs.size := by simpa using hi
  have hj' : j < xs.size := by simpa using hj
  have := h i j (Nat.zero_le _) (Nat.le_of_lt hij) hj'
  rw [← kv_K hi', ← kv_K hj'] at this
  simpa using this

/-- what the runs leave -/
def SortedI (n : Nat) (xs : Array Keyed) : Prop := xs.size = n ∧ AllP xs.toList ∧ Seg xs 0 n
theorem keyKind_ints' {vs : List Value} {ns : List Int} (hI : IntsAre vs ns) (h2 : 2 ≤ vs.length) : keyKind' vs.toArray = pure oneType' := by
  match vs, h2, hI with
  | _ :: _ :: _, _, hI => exact keyKind_ints hI
theorem zip_at {vs : List Value} {i : Nat} {v : Value} (h : vs[i]? = some v) : (vs.toArray.zip vs.toArray)[i]? = some (v, v) := by
  rw [← Array.getElem?_toList, Array.toList_zip]
  exact List.getElem?_zip_eq_some.mpr ⟨h, h⟩
theorem zip_out (vs : List Value) : ((vs.toArray.zip vs.toArray).map (·.2)).toList = vs := by
  rw [Array.toList_map, Array.toList_zip]
  exact List.map_snd_zip (Nat.le_refl _)

section
variable {prog : Program} {w : World} {A : Around} {E : Value → Shared → Prop} {s : Shared} {h₀ : Heap} {L : Addr} {m : Str → Option Value} {news : List (Addr × Obj)} {l : Addr} {vs : List Value} {Q : Value → Shared → Prop}

/-- sorted of any list of pints (a million at most): pints in order, as many -/
theorem sorted_I {ns : List Int} (F : Fr h₀ L s.heap m) (N : News h₀ L s.heap news) (hl : s.heap.IsList l vs.toArray) (hI : IntsAre vs ns) (hsz : ns.length ≤ 1048576)
    (h : ∀ D vs' ns' c h', Fr h₀ L h' m → News h₀ L h' ((D, W.listOf vs'.toArray c) :: news) → (∀ q ∈ news, q.1 < D) → IntsAre vs' ns' → ns'.length = ns.length → ns'.Pairwise (· ≤ ·) → Q (.ref D) { s with heap := h' }) :
    wpAny (model prog w) A (call (.builtin "sorted") [.ref l]) Q E s := by
  have el := IntsAre.length hI
  have hz : (vs.toArray.zip vs.toArray).size = vs.length := by simp
  have hp := intPairs hI
  refine sorted_gen (kind := oneType') (R := SortedI vs.length) F N hl (by omega) (keyKind_ints' hI) ?_ ?_ (fun xs hx => hx.1) ?_
  · intro A E s h2
    generalize vs.toArray.zip vs.toArray = xs at hz hp
    exact wpS_sortAny (N := vs.length) ⟨rfl, rfl, hz, hp⟩ rfl fun st' h1 h3 => ⟨h1.failed, h1.size, h1.pints, h3⟩
  · intro h2
    generalize vs.toArray.zip vs.toArray = xs at hz hp
    refine ⟨hz, hp, fun i j hi hij hj => ?_⟩
    have : i = j := by omega
    subst this
    exact Int.le_refl _
  · rintro h' xs D e ⟨h1, h2, h3⟩ F' N' hlt
    rw [← h1] at h3
    refine h D _ _ e h' F' N' hlt (ints_out h2) ?_ (pairwise_out h3)
    rw [List.length_map, Array.length_toList, h1, el]

/-- bytes as values -/
inductive BytesAre : List Value → List (Array UInt8) → Prop
  | nil : BytesAre [] []
  | cons (b : Array UInt8) (t : Tok) {vs : List Value} {bs : List (Array UInt8)} : BytesAre vs bs → BytesAre (.bytes b t :: vs) (b :: bs)

theorem BytesAre.get : ∀ {vs : List Value} {bs : List (Array UInt8)}, BytesAre vs bs → ∀ {i : Nat} {b : Array UInt8}, bs[i]? = some b → ∃ t, vs[i]? = some (.bytes b t)
  | _, _, .nil, i, b, h => by simp at h
  | _, _, .cons c t r, 0, b, h => by
    rw [List.getElem?_cons_zero] at h
    injection h with h
    subst h
    exact ⟨t, rfl⟩
  | _, _, .cons c t r, i + 1, b, h => by
    rw [List.getElem?_cons_succ] at h
    rw [List.getElem?_cons_succ]
    exact r.get h
theorem BytesAre.length : ∀ {vs : List Value} {bs : List (Array UInt8)}, BytesAre vs bs → vs.length = bs.length
  | _, _, .nil => rfl
  | _, _, .cons _ _ r => by rw [List.length_cons, List.length_cons, r.length]

theorem slot_bytes_lt : Slot "bytes" (cmpInfo .Lt).2.1 "bytes.__lt__" :=
  .of (owner := "bytes") (n := "__lt__") (by rw [typeLookup_type, builtinLookup_eq_fast]; kernel_rfl) (by decide +kernel) (by decide +kernel) (by decide +kernel)
    (by first | exact .inl (by decide +kernel) | exact .inr (by decide +kernel)) (by rw [isSubtype_type]; kernel_rfl)
theorem entry_bytes_lt : entryFor table "bytes.__lt__" = some Builtin.«bytes.__lt__» := entryFor_of_fast (by kernel_rfl)
theorem args_bytes_lt (a b : Value) : argsOk "bytes.__lt__" ⟨[a, b], []⟩ := by unfold argsOk; kernel_rfl

theorem call_bytes_lt {b c : Array UInt8} {t u : Tok} {Q : Value → Shared → Prop} (h : Q (.bool (Builtin.Bytes.order b.toList c.toList == .lt)) s) :
    wpAny (model prog w) A (call (.builtin "bytes.__lt__") [.bytes b t, .bytes c u]) Q E s := by
  refine wpAny_call_entry slot_bytes_lt (W.typeIs_bytes s b t) entry_bytes_lt ?_ (args_bytes_lt _ _)
  show wpAny _ _ (isInstance (.bytes c u) (.type "bytes") >>= fun r => _) _ E s
  refine wpAny_bind (wpAny_isInstance (W.typeIs_bytes s c u) F.sub_bytes_bytes ?_)
  exact wpAny_pure ⟨_, rfl, h⟩

theorem oneLt_bytes {b c : Array UInt8} {t u : Tok} {Q : Bool → Shared → Prop} (h : Q (Builtin.Bytes.order b.toList c.toList == .lt) s) :
    wpAny (model prog w) A (oneLt' true (.bytes b t) (.bytes c u)) Q E s := by
  rw [oneLt'_eq]
  simp only [if_true]
  refine wpAny_bind (wpAny_cRoomFor_byValue rfl ?_)
  refine wpAny_bind (wpAny_callSpecialIfBound?_slot (W.typeIs_bytes s b t) slot_bytes_lt (call_bytes_lt ?_))
  exact wpAny_truthy_bool h

/-- the sort of what is in order already -/
theorem wpS_sortStill {st : SortSt} {N : Nat} (hN : 2 ≤ N) (hz : (arrOf st).size = N) (hf : failedOf st = none) (hp : pendingOf st = #[])
    (hlt : ∀ i (Q : Option Bool → SortSt → Prop), 1 ≤ i → i < N → Q (some false) st → wpS (model prog w) A E s (ltAt' i (i - 1)) Q st) :
    wpS (model prog w) A E s sortRuns' (fun _ st' => failedOf st' = none ∧ arrOf st' = arrOf st) st := by
  unfold sortRuns'
  refine wpS_bind (wpS_get ?_)
  dsimp only
  rw [show ((sortPriv% PySem.Builtin.SortState.a) st).size = N from hz]
  generalize (sortPriv% PySem.Builtin.minRun) N N 0 = mr
  refine wpS_bind (wpS_mono (wpS_forRange
    (I := fun x c st' => (c = (none, 0) ∧ st' = st ∧ x = 0) ∨ (c = (none, N) ∧ failedOf st' = none ∧ arrOf st' = arrOf st ∧ (pendingOf st').size = 1))
    (Q := fun c st' => c = (none, N) ∧ failedOf st' = none ∧ arrOf st' = arrOf st ∧ (pendingOf st').size = 1) ?step ?fin ?init) ?post)
  case init => exact .inl ⟨rfl, rfl, rfl⟩
  case fin =>
    rintro c st' (⟨rfl, rfl, e⟩ | h)
    · omega
    · exact h
  case step =>
    rintro x c st' _ hx (⟨rfl, rfl, rfl⟩ | ⟨rfl, h1, h2, h3⟩)
    · dsimp only
      rw [if_neg (by omega)]
      have cr : wpS (model prog w) A E s (countRun' 0 (N - 0)) (fun r st'' => r = some N ∧ st'' = st') st' := by
        unfold countRun'
        refine wpS_bind (wpS_mono (wpS_forRange
          (I := fun x c st'' => st'' = st' ∧ c = (none, x)) (Q := fun c st'' => st'' = st' ∧ c = (none, N)) ?step2 ?fin2 ?init2) ?post2)
        case init2 => exact ⟨rfl, rfl⟩
        case fin2 =>
          rintro c st'' ⟨rfl, rfl⟩
          exact ⟨rfl, by rw [show max 1 (N - 0) = N by omega]⟩
        case step2 =>
          rintro y c st'' hy1 hy2 ⟨rfl, rfl⟩
          dsimp only
          have e1 : 0 + y = y := Nat.zero_add y
          rw [e1]
          exact wpS_bind (hlt y _ hy1 (by omega) (wpS_pure ⟨rfl, rfl⟩))
        case post2 =>
          rintro c st'' ⟨rfl, rfl⟩
          dsimp only
          rw [if_pos (by simp)]
          exact wpS_pure ⟨rfl, rfl⟩
      refine wpS_bind (wpS_mono cr ?_)
      rintro r st'' ⟨rfl, rfl⟩
      dsimp only
      have back : ((sortPriv% PySem.Builtin.SortState.pending) st'').back? = none := by
        rw [show (sortPriv% PySem.Builtin.SortState.pending) st'' = #[] from hp]
        rfl
      by_cases c2 : N < mr
      · rw [if_pos c2]
        refine wpS_bind (wpS_rule ?_)
        have e2 : min (N - 0) mr = N := by omega
        rw [e2]
        have bs : wpS (model prog w) A E s (binarySort' 0 N N) (fun r st3 => r = true ∧ st3 = st'') st'' := by
          unfold binarySort'
          refine wpS_bind (wpS_mono (wpS_forRange
            (I := fun x c st3 => c = (none, ()) ∧ st3 = st'') (Q := fun c st3 => c = (none, ()) ∧ st3 = st'') ?step3 ?fin3 ?init3) ?post3)
          case init3 => exact ⟨rfl, rfl⟩
          case fin3 => exact fun c st3 h => h
          case step3 =>
            intro y c st3 hy1 hy2
            exfalso
            omega
          case post3 =>
            rintro c st3 ⟨rfl, rfl⟩
            exact wpS_pure ⟨rfl, rfl⟩
        refine wpS_bind (wpS_mono bs ?_)
        rintro r st3 ⟨rfl, rfl⟩
        rw [if_neg (by decide)]
        refine wpS_bind (wpS_get ?_)
        rw [back]
        refine wpS_bind (wpS_modify (wpS_pure (.inr ⟨by rw [Nat.zero_add], hf, rfl, ?_⟩)))
        show ((pendingOf st3).push _).size = 1
        rw [hp]
        rfl
      · rw [if_neg c2]
        refine wpS_bind (wpS_get ?_)
        rw [back]
        refine wpS_bind (wpS_modify (wpS_pure (.inr ⟨by rw [Nat.zero_add], hf, rfl, ?_⟩)))
        show ((pendingOf st'').push _).size = 1
        rw [hp]
        rfl
    · dsimp only
      rw [if_pos (Nat.le_refl _)]
      exact wpS_pure ⟨rfl, h1, h2, h3⟩
  case post =>
    rintro c st' ⟨rfl, h1, h2, h3⟩
    dsimp only
    refine wpS_bind (wpS_mono (wpS_forRange
      (I := fun x c st3 => c = (none, ()) ∧ st3 = st') (Q := fun c st3 => c = (none, ()) ∧ st3 = st') ?step2 ?fin2 ?init2) ?post2)
    case init2 => exact ⟨rfl, rfl⟩
    case fin2 => exact fun c st3 h => h
    case step2 =>
      rintro y c st3 _ hy ⟨rfl, rfl⟩
      refine wpS_bind (wpS_get ?_)
      rw [if_pos (show (pendingOf st3).size ≤ 1 by omega)]
      exact wpS_pure ⟨rfl, rfl⟩
    case post2 =>
      rintro c st3 ⟨rfl, rfl⟩
      exact wpS_pure ⟨h1, h2⟩

theorem first_bytes : ∀ {vs : List Value} {bs : List (Array UInt8)}, BytesAre vs bs → vs.mapM firstOfTuple' = pure (vs.map fun _ => none)
  | _, _, .nil => by simp
  | _, _, .cons b t h => by
    rw [List.mapM_cons, show firstOfTuple' (.bytes b t) = pure none from rfl, first_bytes h]
    simp
theorem type_bytes : ∀ {vs : List Value} {bs : List (Array UInt8)}, BytesAre vs bs → vs.mapM typeOf = pure (vs.map fun _ => Value.type "bytes")
  | _, _, .nil => by simp
  | _, _, .cons b t h => by
    rw [List.mapM_cons, type_bytes h]
    show (pure (Value.type "bytes") >>= fun b => pure _ >>= fun bs => pure (b :: bs)) = _
    simp
theorem keyKind_bytes {vs : List Value} {bs : List (Array UInt8)} (hB : BytesAre vs bs) (h2 : 2 ≤ vs.length) : keyKind' vs.toArray = pure oneType' := by
  match vs, h2, hB with
  | v₁ :: v₂ :: vs, _, hB =>
    rw [keyKind'_eq, List.mapM_toArray, first_bytes hB]
    simp only [map_pure, pure_bind]
    rw [if_neg (by simp), if_neg (by simp)]
    rw [oneTypeOnly'_eq, List.mapM_toArray, type_bytes hB]
    simp only [map_pure, pure_bind]
    have hall : ((List.map (fun _ => Value.type "bytes") (v₁ :: v₂ :: vs)).toArray.all fun x => x == Value.type "bytes") = true := by
      simp only [List.all_toArray, List.all_map, List.all_eq_true]
      intro _ _
      rfl
    have h0 : (List.map (fun _ => Value.type "bytes") (v₁ :: v₂ :: vs)).toArray[0]? = some (Value.type "bytes") := by simp
    rw [h0]
    simp only [hall, if_true, pure_bind, Option.isSome_some]

/-- sorted of bytes that stand in order: the same items -/
theorem sorted_B {bs : List (Array UInt8)} (F : Fr h₀ L s.heap m) (N : News h₀ L s.heap news) (hl : s.heap.IsList l vs.toArray) (hB : BytesAre vs bs) (hsz : bs.length ≤ 1048576)
    (ho : ∀ i b c, bs[i]? = some b → bs[i + 1]? = some c → (Builtin.Bytes.order c.toList b.toList == .lt) = false)
    (h : ∀ D c h', Fr h₀ L h' m → News h₀ L h' ((D, W.listOf vs.toArray c) :: news) → (∀ q ∈ news, q.1 < D) → Q (.ref D) { s with heap := h' }) :
    wpAny (model prog w) A (call (.builtin "sorted") [.ref l]) Q E s := by
  have el := hB.length
  have hz : (vs.toArray.zip vs.toArray).size = vs.length := by simp
  have em := zip_out vs
  refine sorted_gen (kind := oneType') (R := fun xs => xs = vs.toArray.zip vs.toArray) F N hl (by omega) (keyKind_bytes hB) ?_ (fun _ => rfl) (fun xs hx => by rw [hx, hz]) ?_
  · intro A E s h2
    refine wpS_mono (wpS_sortStill (N := vs.length) h2 hz rfl rfl ?_) fun _ st' h => h
    intro i Q h1 hi hq
    have hi1 : i < bs.length := by omega
    have hi2 : i - 1 < bs.length := by omega
    obtain ⟨t, e1⟩ := hB.get (List.getElem?_eq_getElem hi1)
    obtain ⟨u, e2⟩ := hB.get (List.getElem?_eq_getElem hi2)
    have g1 := zip_at e1
    have g2 := zip_at e2
    rw [ltAt'_eq]
    refine wpS_bind (wpS_get ?_)
    show wpS _ _ _ _ (do let x ← elem' (vs.toArray.zip vs.toArray) i; let y ← elem' (vs.toArray.zip vs.toArray) (i - 1); lt' x y) Q _
    rw [elem'_eq, elem'_eq, g1, g2]
    refine wpS_bind (wpS_pure (wpS_bind (wpS_pure ?_)))
    rw [lt'_eq]
    refine wpS_bind (wpS_get ?_)
    dsimp only
    rw [keyLt'_oneType]
    refine wpS_bind (wpS_lift (wpAny_attempt (oneLt_bytes ⟨rfl, ?_⟩)))
    have hord := ho (i - 1) bs[i - 1] bs[i] (List.getElem?_eq_getElem hi2) (by rw [show i - 1 + 1 = i by omega]; exact List.getElem?_eq_getElem hi1)
    rw [hord]
    exact wpS_pure hq
  · rintro h' xs D e rfl F' N' hlt
    rw [em] at N'
    exact h D e h' F' N' hlt
end
end Mine
end
section
open PySem PySem.W PySem.Calls PyProof.Rows
set_option linter.unusedVariables false
set_option maxRecDepth 100000
namespace Mine

/-- the figures of base 256, the highest first -/
def big (n : Nat) (x : Int) : List UInt8 := ((KTBy.little n x).reverse).map fun i => i.toNat.toUInt8

theorem bits_gt {x : Int} {k : Nat} (h : (256 : Int) ^ k ≤ x) : 8 * k < PySem.Builtin.Int.intBits x := by
  rcases Nat.lt_or_ge (8 * k) (PySem.Builtin.Int.intBits x) with h1 | h1
  · exact h1
  · exfalso
    have h2 := PySem.intBits_le_iff.mp h1
    have e2 : (2 : Nat) ^ 8 = 256 := by decide
    rw [Nat.pow_mul, e2] at h2
    have e3 := KTBy.p256 k
    have h3 : ((256 ^ k : Nat) : Int) ≤ x := by rw [← e3]; exact h
    omega

theorem low_big {x : Int} {k : Nat} (h0 : 0 ≤ x) (h1 : x < (256 : Int) ^ k) : (KTBy.low x k).reverse = big k x := by
  have h := KTBy.low_ints h0 h1
  rw [← KTBy.little_eq] at h
  have g := congrArg (List.map fun i : Int => i.toNat.toUInt8) h
  rw [List.map_map] at g
  have e : ((fun i : Int => i.toNat.toUInt8) ∘ fun c : UInt8 => ((c.toNat : Nat) : Int)) = id := by
    funext c
    show (UInt8.ofNat ((c.toNat : Int).toNat)) = c
    rw [Int.toNat_natCast]
    exact UInt8.ofNat_toNat
  rw [e, List.map_id] at g
  rw [g]
  unfold big
  rw [List.map_reverse]

section
variable {prog : Program} {w : World} {A : Around} {E : Value → Shared → Prop} {s : Shared} {x : Int} {k : Nat} {t u : Tok}
theorem args_tb (a b : Value) : argsOk "int.to_bytes" ⟨[a, b], []⟩ := by unfold argsOk; kernel_rfl

theorem to_bytes {Q : Value → Shared → Prop} (hk1 : 1 ≤ k) (hk : k ≤ 64) (hh : A.handled = none)
    (hv : 0 ≤ x → x < (256 : Int) ^ k → ∀ (b : Array UInt8) t' k', b = (big k x).toArray → Q (.bytes b t') { s with toks := k' })
    (he : x < 0 ∨ (256 : Int) ^ k ≤ x → ∀ h' tk e, Heap.NewExc s.heap h' e "OverflowError" → E (.ref e) { s with heap := h', toks := tk }) :
    wpAny (model prog w) A (call (.builtin "int.to_bytes") [.int x t, .int (k : Int) u]) Q E s := by
  refine wpAny_call_entry KTBy.slot (typeIs_int s x t) KTBy.entry ?_ (args_tb _ _)
  show wpAny _ _ (Builtin.Int.intOfSelf (.int x t) >>= fun y => _) _ _ s
  refine wpAny_bind (wpAny_of_eq (a := x) rfl ?_)
  show wpAny _ _ (Builtin.Int.intBindNamed "to_bytes" ["length", "byteorder", "signed"] 0 2 [.int (k : Int) u] [] >>= fun l => _) _ _ s
  refine wpAny_bind (wpAny_of_eq (a := [some (.int (k : Int) u), none, none]) (by kernel_rfl) ?_)
  show wpAny _ _ (Builtin.Int.intIndex "int.to_bytes" (.int (k : Int) u) >>= fun n => _) _ _ s
  refine wpAny_bind (wpAny_of_eq (a := (k : Int)) rfl ?_)
  refine KTBy.if_not (by show (decide ((k : Int) < -(2 ^ 63 : Int)) || decide ((k : Int) ≥ 2 ^ 63)) = false; rw [decide_eq_false (show ¬ ((k : Int) < -(2 ^ 63 : Int)) by omega), decide_eq_false (show ¬ ((k : Int) ≥ 2 ^ 63) by omega)]; rfl) ?_
  refine wpAny_bind (wpAny_of_eq (a := PySem.Str.ofString "big") (by kernel_rfl) ?_)
  refine wpAny_bind (wpAny_of_eq (a := false) rfl ?_)
  refine wpAny_bind (wpAny_of_eq (a := false) (by kernel_rfl) ?_)
  refine wpAny_ite_false (decide_eq_false (show ¬ ((k : Int) < 0) by omega)) ?_
  refine wpAny_ite_false (decide_eq_false (show ¬ ((k : Int) > 2 ^ 63 - 1 - 33) by omega)) ?_
  refine wpAny_ite_false (decide_eq_false (show ¬ ((k : Int) > (sizeLine : Int)) by rw [sizeLine_eq]; omega)) ?_
  dsimp only
  by_cases h0 : x < 0
  · rw [if_pos (show (decide (x < 0) && !false) = true by rw [decide_eq_true h0]; rfl)]
    refine wpAny_bind (wpAny_rule (wpAny_bind ?_))
    exact_raiseError plainExc_OverflowError hh (he (.inl h0))
  · rw [if_neg (show ¬ (decide (x < 0) && !false) = true by rw [decide_eq_false h0]; decide)]
    have h0' : 0 ≤ x := by omega
    by_cases h1 : (256 : Int) ^ k ≤ x
    · have hb := bits_gt h1
      have hp : (0 : Int) < 256 ^ k := Int.pow_pos (by decide)
      have hne : x ≠ 0 := by omega
      rw [if_pos (by rw [if_neg (by decide), bne_iff_ne.mpr hne, decide_eq_true (by omega)]; rfl)]
      refine wpAny_bind (wpAny_rule (wpAny_bind ?_))
      exact_raiseError plainExc_OverflowError hh (he (.inr h1))
    · have h1' : x < (256 : Int) ^ k := by omega
      have hb := KTBy.bits_le (k := k) rfl h0' h1'
      rw [if_neg (by rw [if_neg (by decide), decide_eq_false (by omega), Bool.and_false]; decide)]
      refine wpAny_bind (wpAny_mkBytes (wpAny_pure ⟨_, rfl, hv h0' h1' _ _ _ ?_⟩) (by show (List.reverse (KTBy.low x (Int.toNat (k : Int)))).length ≤ sizeLine; rw [List.length_reverse, KTBy.low_length, Int.toNat_natCast, sizeLine_eq]; omega))
      show (List.reverse (KTBy.low x (Int.toNat (k : Int)))).toArray = (big k x).toArray
      rw [Int.toNat_natCast, low_big h0' h1']
end
end Mine
end
section
open PySem PySem.W PySem.Calls PyProof.Rows
set_option linter.unusedVariables false
set_option maxRecDepth 100000
namespace Mine

/-- an exception with its trace entry, its context empty -/
def OwnAt (base h : Heap) (e : Addr) (cls : String) (a0 fl : Value) : Prop :=
  ∃ oe T oT ts, h.get? e = some oe ∧ oe.cls = .type cls ∧ oe.data = .fields #[a0, .ref T, .none, .none, .bool false, .none] ∧ base.get? T = none ∧ T ≠ e ∧ h.get? T = some oT ∧ oT.data = .fields ts ∧ ts[3]? = some fl

section
variable {M : Model} {A : Around} {E : Value → Shared → Prop} {s : Shared}

theorem own_note {base : Heap} {env : Env} {outer : List Env} {L e : Addr} {oe : Obj} {cls : String} {a0 : Value} {Q : Unit → Shared → Prop}
    (hfr : A.frames = some (env :: outer)) (hl : s.heap.FunFrames base (env :: outer)) (hf : env.frame = some L)
    (he : s.heap.get? e = some oe) (hc : oe.cls = .type cls) (hd : oe.data = .fields #[a0, .none, .none, .none, .bool false, .none]) (hkb : base.StaysIn s.heap) (hen : base.get? e = none)
    (h : ∀ h', base.StaysIn h' → h'.FunFrames base (env :: outer) → OwnAt base h' e cls a0 (rawInt L) → s.heap.UpToSlots h' → Q () { s with heap := h' }) :
    wpAny M A (noteFrame (.ref e) env) Q E s := by
  unfold noteFrame
  simp only [hf]
  refine wpAny_bind (wpAny_field he hd (x := .none) rfl ?_)
  rw [if_neg (by decide)]
  have hene : e ∉ (env :: outer).filterMap (·.frame) := fun hm => by
    obtain ⟨_, o, ho, hnf⟩ := hl.mem hm
    rw [he] at ho
    injection ho with ho
    subst ho
    exact hnf _ hd
  refine wpAny_bind (wpAny_frameOf_fun hfr hl hf fun h₁ hs₁ => ?_)
  refine wpAny_bind (wpAny_entryPlaceOf fun pl hpl => ?_)
  unfold EntryCells.newEntry newFields
  refine wpAny_bind (wpAny_newObj_type ?_ (hpl.sizeOk5 _ _ _ _ _))
  have he₁ : h₁.get? e = some oe := (hs₁.2.1 e hene).trans he
  have kb₁ : base.StaysIn h₁ := fun b o hbo => (hs₁.2.1 b fun hm => by rw [(hl.mem hm).1] at hbo; cases hbo).trans (hkb b o hbo)
  generalize hT : ({ cls := .type "traceback", dict := none, data := .fields ([Value.none, .ref L, .none, rawInt L, .none] ++ (if pl.isEmpty then List.replicate 6 Value.none else pl)).toArray } : Obj) = oT
  have he₂ := Heap.get?_push_of_some (h := h₁) oT he₁
  refine wpAny_setField he₂ hd (by simp) (h _ ?_ ?_ ?_ ?_)
  all_goals (
    have hTe : h₁.objs.size ≠ e := Nat.ne_of_gt (Heap.lt_size he₁)
    have keep : ∀ b o, b ≠ e → h₁.get? b = some o → ((h₁.push oT).update e (Obj.mapFields (·.setIfInBounds 1 (Value.ref h₁.objs.size)))).get? b = some o := fun b o hbe hb => by
      rw [Heap.get?_update_other _ _ (Ne.symm hbe)]
      exact Heap.get?_push_of_some _ hb
    have noRecord : ∀ b o, s.heap.get? b = some o → (∀ vs, o.data ≠ .fields vs) → b ≠ e := fun b o hb hnf q => by
      rw [q, he] at hb
      injection hb with hb
      subst hb
      exact hnf _ hd)
  · exact fun b o hbo => keep b o (fun q => by rw [q, hen] at hbo; cases hbo) (kb₁ b o hbo)
  · refine hl.of_keeps fun b o hb hnf => ?_
    obtain ⟨sl, hs⟩ := hs₁.2.2 b o hb
    exact ⟨_, keep b _ (noRecord b o hb hnf) hs, rfl⟩
  · have hd₃ := Obj.data_mapFields hd (·.setIfInBounds 1 (Value.ref h₁.objs.size))
    have he₃ := Heap.get?_update_self (Obj.mapFields (·.setIfInBounds 1 (Value.ref h₁.objs.size))) he₂ (Obj.isFreed_of_fields hd₃)
    have hT₃ := (Heap.get?_update_other (h₁.push oT) (Obj.mapFields (·.setIfInBounds 1 (Value.ref h₁.objs.size))) (Ne.symm hTe)).trans (Heap.get?_push_size h₁ (by rw [← hT]; rfl))
    refine ⟨_, h₁.objs.size, oT, _, he₃, (Obj.cls_mapFields _ _).trans hc, hd₃, kb₁.fresh, hTe, hT₃, by rw [← hT], ?_⟩
    first
      | (simp; done)
      | (rcases hpl with rfl | ⟨_, _, _, _, _, _, _, rfl⟩ <;> simp)
  · intro b o hb hnf
    obtain ⟨sl, hs⟩ := hs₁.2.2 b o hb
    exact ⟨sl, keep b _ (noRecord b o hb hnf) hs⟩

theorem own_flight {base : Heap} {l : List Env} {e : Addr} {cls : String} {a0 fl : Value} {Q : Unit → Shared → Prop}
    (hkb : base.StaysIn s.heap) (hl : s.heap.FunFrames base l) (ht : OwnAt base s.heap e cls a0 fl)
    (h : ∀ h', base.StaysIn h' → h'.FunFrames base l → OwnAt base h' e cls a0 .none → s.heap.UpToSlots h' → Q () { s with heap := h' }) :
    wpAny M A (setFlight (.ref e) none) Q E s := by
  obtain ⟨oe, T, oT, ts, he, hcls, hd, hnT, hTe, hT, hdT, h3⟩ := ht
  have hsz3 : 3 < ts.size := (Array.getElem?_eq_some_iff.mp h3).1
  have other : ∀ b, b ≠ T → (s.heap.update T (Obj.mapFields (·.setIfInBounds 3 ((none : Option Addr).elim Value.none fun f => rawInt f)))).get? b = s.heap.get? b :=
    fun b hb => Heap.get?_update_other _ _ (Ne.symm hb)
  have noRecord : ∀ b o, s.heap.get? b = some o → (∀ vs, o.data ≠ .fields vs) → b ≠ T := fun b o hb hnf q => by
    rw [q, hT] at hb
    injection hb with hb
    subst hb
    exact hnf ts hdT
  unfold setFlight
  refine wpAny_bind (wpAny_field he hd (x := .ref T) rfl ?_)
  rw [if_pos (show (Value.ref T != Value.none) = true from by simp)]
  refine wpAny_setField hT hdT hsz3 (h _ (fun b o hbo => (other b fun q => by rw [q, hnT] at hbo; cases hbo).trans (hkb b o hbo))
    (hl.of_keeps fun b o hb hnf => ⟨o, (other b (noRecord b o hb hnf)).trans hb, rfl⟩) ?_ fun b o hb hnf => ⟨o.slots, (other b (noRecord b o hb hnf)).trans hb⟩)
  exact ⟨oe, T, _, _, (other e (Ne.symm hTe)).trans he, hcls, hd, hnT, hTe, Heap.get?_update_self _ hT (Obj.isFreed_of_fields (Obj.data_mapFields hdT _)), Obj.data_mapFields hdT _, by simp [hsz3]⟩
end

section
variable {prog : Program} {w : World} {A : Around} {E : Value → Shared → Prop} {s : Shared} {env : Env}

theorem entry_unchain : entryFor table "proto.unchain" = some Builtin.«proto.unchain» := entryFor_of_fast (by kernel_rfl)

/-- raise e while c is handled, c's own context empty -/
theorem raiseNew_marked {α : Type} {e c : Addr} {oe oc : Obj} {vs cs : Array Value} {Q : α → Shared → Prop} (hh : A.handled = some (.ref c)) (hne : c ≠ e) (hc : s.heap.get? c = some oc) (hcd : oc.data = .fields cs) (hc2 : cs[2]? = some .none)
    (he : s.heap.get? e = some oe) (hed : oe.data = .fields vs) (hsz : 2 < vs.size)
    (h : E (.ref e) { s with heap := s.heap.update e (Obj.mapFields (·.setIfInBounds 2 (.ref c))) }) : wpAny (model prog w) A (raiseNew (.ref e) : Sem α) Q E s := by
  unfold raiseNew
  refine wpAny_bind (wpAny_handled ?_)
  rw [hh]
  dsimp only
  rw [if_pos (show (Value.ref c != Value.ref e) = true by simp [hne])]
  refine wpAny_bind (wpAny_holding (wpAny_runValue (codeAny_builtin entry_unchain ?_)))
  unfold Builtin.«proto.unchain»
  dsimp only
  refine wpAny_bind (wpAny_field hc hcd hc2 ?_)
  rw [if_pos (by rfl)]
  refine wpAny_pure ?_
  dsimp only
  unfold updateField
  refine wpAny_bind (wpAny_bind (wpAny_load he ?_))
  rw [hed]
  dsimp only
  rw [if_pos hsz]
  refine wpAny_update he ?_
  exact wpAny_throw h

theorem raiseStmt_marked {cls : String} (FR : ExcRaiseFacts cls) {x : Sem Value} {c : Addr} {Q : Flow → Shared → Prop} (hh : A.handled = some (.ref c))
    (h : wpAny (model prog w) A x (fun v s₁ => ∃ e t oc cs, v = .ref e ∧ s₁.heap.get? e = some { cls := .type cls, data := .fields #[.ref t, .none, .none, .none, .bool false, .none] } ∧
      s₁.heap.get? c = some oc ∧ oc.data = .fields cs ∧ cs[2]? = some .none ∧ c ≠ e ∧ E (.ref e) { s₁ with heap := s₁.heap.update e (Obj.mapFields (·.setIfInBounds 2 (.ref c))) }) E s) :
    wpAny (model prog w) A (raiseStmt env (some x) none) Q E s := by
  unfold raiseStmt
  refine wpAny_bind (wpAny_mono h (fun v s₁ h₁ => ?_) fun _ _ x => x)
  obtain ⟨e, t, oc, cs, rfl, he, hc, hcd, hc2, hne, hE⟩ := h₁
  have hT : s₁.TypeIs (.ref e) cls := ⟨_, he, rfl⟩
  have hnt : ∀ {Q' : Bool → Shared → Prop}, Q' false s₁ → wpAny (model prog w) A (isType (.ref e)) Q' E s₁ := by
    intro Q' hq
    simp only [isType, loadHead]
    exact wpAny_bind (wpAny_loadPart he (wpAny_pure hq))
  refine wpAny_bind (wpAny_pure ?_)
  dsimp only
  refine wpAny_bind (wpAny_holding ?_)
  unfold excFromValue isExcClass
  refine wpAny_bind (wpAny_bind (hnt ?_))
  simp only [Bool.false_eq_true, if_false]
  refine wpAny_pure ?_
  simp only [Bool.false_eq_true, if_false]
  refine wpAny_bind (wpAny_isInstance hT FR.isExc ?_)
  simp only [if_true]
  refine wpAny_pure ?_
  refine wpAny_bind (hnt ?_)
  simp only [Bool.false_eq_true, if_false]
  unfold raisedInstance
  refine wpAny_bind (wpAny_bind (wpAny_typeOf hT (wpAny_bind (m := typeOf (.type cls)) (wpAny_pure ?_))))
  rw [if_pos FR.plainMeta]
  refine wpAny_pure ?_
  unfold setFlight
  refine wpAny_bind (wpAny_bind (wpAny_field he rfl (x := .none) rfl ?_))
  rw [if_neg (by decide)]
  refine wpAny_pure ?_
  exact raiseNew_marked hh hne hc hcd hc2 he rfl (by simp) hE

/-- raise X('..') in the handler of c -/
theorem Raise_marked {cls newId initId : String} (FC : ExcCallFacts cls newId initId) (FR : ExcRaiseFacts cls) {c : Addr} {x msg : Str} {k : Nat} {np kp cpos pos : Pos} {Q : Flow → Shared → Prop} (hh : A.handled = some (.ref c))
    {oc : Obj} {cs : Array Value} (hc : s.heap.get? c = some oc) (hcd : oc.data = .fields cs) (hc2 : cs[2]? = some .none)
    (hn : ∀ Q' : Value → Shared → Prop, Q' (.type cls) s → wpAny (model prog w) A (eval (.Name x np) env) Q' E s)
    (h : ∀ h' e, Heap.NewExcOf s.heap h' e cls → (∃ a0 ob vs, h'.get? e = some ob ∧ ob.data = .fields vs ∧ vs[0]? = some a0) → E (.ref e) { s with heap := h', toks := s.toks + 1 }) :
    wpAny (model prog w) A (exec (.Raise (some (.Call (.Name x np) [.Constant (.str msg) k kp] [] cpos)) none pos) env) Q E s := by
  show wpAny (model prog w) A (do standAt pos; raiseStmt env (some (do let v ← eval (.Call (.Name x np) [.Constant (.str msg) k kp] [] cpos) env; standAt pos; pure v)) none) Q E s
  refine wpAny_bind (wpAny_standAt (raiseStmt_marked FR hh (wpAny_bind (wpAny_Call_ofName (hn _ ?_)))))
  refine callWith_excType rfl ?_
  refine Calls.evalArgs_plain (spliced_more (wpAny_Constant_str (spliced_none ?_)))
  refine wpAny_call_exc FC (hrest := by rw [sizeLine_eq]; simp) fun h' e hm => ?_
  refine wpAny_bind (wpAny_standAt (wpAny_pure ?_))
  obtain ⟨t, he, htn, ht⟩ := hm.there
  have hne : c ≠ e := fun q => by
    have := hm.new
    rw [← q, hc] at this
    cases this
  refine ⟨e, t, oc, cs, rfl, he, hm.keeps _ _ hc, hcd, hc2, hne, h _ _ ⟨fun b o hb => ?_, hm.new, ?_⟩ ?_⟩
  · rw [Heap.get?_update_other _ _ fun q => by
      have := hm.new
      rw [q, hb] at this
      cases this]
    exact hm.keeps _ _ hb
  · exact ⟨_, _, Heap.get?_update_self (Obj.mapFields (·.setIfInBounds 2 (.ref c))) he (Obj.isFreed_of_fields (Obj.data_mapFields rfl _)), rfl, rfl, rfl⟩
  · exact ⟨_, _, _, Heap.get?_update_self (Obj.mapFields (·.setIfInBounds 2 (.ref c))) he (Obj.isFreed_of_fields (Obj.data_mapFields rfl _)), rfl, rfl⟩
end

/-- a fresh exception, its trace empty, made since h -/
structure Fresh (h h' : Heap) (e : Addr) (cls : String) : Prop where
  keeps : ∀ b o, h.get? b = some o → h'.get? b = some o
  new : h.get? e = none
  there : ∃ ob vs a0, h'.get? e = some ob ∧ ob.cls = .type cls ∧ ob.data = .fields vs ∧ vs[1]? = some .none ∧ vs[0]? = some a0

section
variable {M : Model} {A : Around} {E : Value → Shared → Prop} {s' : Shared} {base g g₂ h : Heap} {outer : List Env} {L a e : Addr} {m : Str → Option Value} {name : Str} {scope : Scope} {cd : Value} {Q : Unit → Shared → Prop} {news : List (Addr × Obj)}

theorem hide_facts (K : Below A base outer g) (F : Fr g L h m) (N : News g L h news) (hk : scope.kind = .function) :
    base.StaysIn (hideAll h ((envOf name scope L a cd :: outer).filterMap (·.frame))) ∧
    (∀ b o, g.get? b = some o → b ∉ outer.filterMap (·.frame) → (hideAll h ((envOf name scope L a cd :: outer).filterMap (·.frame))).get? b = some o) ∧
    (∀ q ∈ news, (hideAll h ((envOf name scope L a cd :: outer).filterMap (·.frame))).get? q.1 = some q.2 ∧ g.get? q.1 = none ∧ base.get? q.1 = none) ∧
    h.FunFrames (hideAll h ((envOf name scope L a cd :: outer).filterMap (·.frame))) (envOf name scope L a cd :: outer) := by
  have K' := K.push (name := name) (a := a) (cd := cd) F hk
  refine ⟨fun b o q => hideAll_get _ (K'.stays b o q) fun hm => ?_, fun b o q nm => hideAll_get _ (F.keep b o q) fun hm => ?_, fun q hq => ?_, ?_⟩
  · rw [(K'.frames.mem hm).1] at q
    cases q
  · rcases kts_mem hm with z | z
    · rw [z, kts_self F] at q
      cases q
    · exact nm z
  · refine ⟨hideAll_get _ (N q hq).1 fun hm => ?_, (N q hq).2.2, fresh_of_stays K.stays (N q hq).2.2⟩
    obtain ⟨env, he, hf⟩ := List.mem_filterMap.mp hm
    rcases List.mem_cons.mp he with rfl | he
    · exact (N q hq).2.1 (Option.some.inj hf).symm
    · obtain ⟨o, ho, _⟩ := (K.frames.mem (List.mem_filterMap.mpr ⟨env, he, hf⟩)).2
      rw [(N q hq).2.2] at ho
      cases ho
  · exact funFrames_hide K'.frames fun env he b hb => List.mem_filterMap.mpr ⟨env, he, hb⟩

theorem leave_fresh {cls : String} (K : Below A base outer g) (hx : Fresh h s'.heap e cls) (F : Fr g L h m) (N : News g L h news)
    (hQ : ∀ h', RaisedSN base g outer e (.type cls) news h' → RaisedN base outer e (.type cls) news h' → g.UpToSlots h' → Q () { s' with heap := h' }) (hk : scope.kind = .function := by rfl) :
    wpAny M (A.deeper (envOf name scope L a cd)) (leaving (envOf name scope L a cd) (.ref e)) Q E s' := by
  have K' := K.push (name := name) (a := a) (cd := cd) F hk
  obtain ⟨st, sg, hl, hF⟩ := hide_facts (name := name) (a := a) (cd := cd) K F N hk
  obtain ⟨ob, vs, a0, he, hcls, hd, h1, h0⟩ := hx.there
  have hen : (hideAll h ((envOf name scope L a cd :: outer).filterMap (·.frame))).get? e = none := by
    cases q : (hideAll h ((envOf name scope L a cd :: outer).filterMap (·.frame))).get? e with
    | none => rfl
    | some o =>
      have := of_hideAll _ q
      rw [hx.new] at this
      cases this
  refine wpAny_leaving_firstW (a0 := a0) K'.stack (hF.of_keeps fun b o hb _ => ⟨o, hx.keeps b o hb, rfl⟩) rfl he (fun b o hb => hx.keeps b o (of_hideAll _ hb)) hen hd h1 h0 fun h' hL => ?_
  obtain ⟨k1, ⟨_, _, k2⟩, k3, k4⟩ := hL
  have R : RaisedSN base g outer e (.type cls) news h' := ⟨_, a0, st, sg, hl, k1, hen, k2, by rw [← hcls]; exact k3⟩
  exact hQ h' R R.toN (((Heap.UpToSlots.of_keeps F.keep).trans (Heap.UpToSlots.of_keeps hx.keeps)).trans k4)
end

section
variable {prog : Program} {w : World} {A₀ : Around} {E : Value → Shared → Prop} {s' : Shared} {base g g₀ G : Heap} {outer : List Env} {L a e : Addr} {m : Str → Option Value} {name : Str} {scope : Scope} {cd : Value}
  {n : Str} {b₀ : Stmt} {suite : List Stmt} {pos np : Pos} {rest : List ExceptHandler} {Q : Flow → Shared → Prop} {news : List (Addr × Obj)} {KF : Frag}
  {p : Program} {loose : List Str} {mean : ExcName → Option Value} {mg mb : Str → Option Value} {x y msg : Str} {X T' Y newId initId : String}

/-- an exception of the frame's own try, caught there: the suite raises another -/
theorem catch_raise (K : Below A₀ base outer g) (F : Fr g L G m) (N : News g L G news) (hX : Heap.NewExc G s'.heap e X) (XB : KF.In base) (TB : Top p loose mean mg mb base)
    (D : KtsDicts (outer.filterMap (·.frame)) g) (T0 : KtsTurn (outer.filterMap (·.frame)) g₀ g)
    (ex : nsIn KF mainGlobals x = some none) (hv : bootBuiltins x = some (.type T')) (hn' : x ≠ "__name__")
    (ey : nsIn KF mainGlobals y = some none) (hvy : bootBuiltins y = some (.type Y)) (hny : y ≠ "__name__")
    (hexc : isSubtype (.type T') (.type "BaseException") = pure true) (hnt : isSubtype (.type ((Manifest.find? T').elim "type" fun y => y.metatype)) (.type "tuple") = pure false) (hsub : isSubtype (.type X) (.type T') = pure true)
    (FC : ExcCallFacts Y newId initId) (FR : ExcRaiseFacts Y) {k : Nat} {kp cpos np' pos' : Pos}
    (hE : PassesOwnAt (model prog w) ((A₀.deeper (envOf name scope L a cd)).mark (some (.ref e))) (A₀.deeper (envOf name scope L a cd)) (envOf name scope L a cd) E)
    (kk : ∀ h₁ h' g' e₂ tk, KtsTurn (outer.filterMap (·.frame)) g₀ g' → Fr g' L h₁ m → News g' L h₁ news → Below A₀ base outer g' → KF.In g' → Top p loose mean mg mb g' → KtsDicts (outer.filterMap (·.frame)) g' → Fresh h₁ h' e₂ Y →
      E (.ref e₂) { s' with heap := h', toks := tk })
    (hk : scope.kind = .function := by rfl) (hx : (envOf name scope L a cd).kindOf x = some .globalImplicit := by rfl) (hd : (x == ("__debug__" : Str)) = false := by decide)
    (hy : (envOf name scope L a cd).kindOf y = some .globalImplicit := by rfl) (hdy : (y == ("__debug__" : Str)) = false := by decide) :
    wpAny (model prog w) (A₀.deeper (envOf name scope L a cd)) (noteFrame (.ref e) (envOf name scope L a cd))
      (fun _ s₂ => wpAny (model prog w) (A₀.deeper (envOf name scope L a cd)) (setFlight (.ref e) none) (fun _ s₃ =>
        wpAny (model prog w) (A₀.deeper (envOf name scope L a cd)) (handleBy (.ref e) (envOf name scope L a cd)
          (.ExceptHandler (some (.Name x np)) none [.Raise (some (.Call (.Name y np') [.Constant (.str msg) k kp] [] cpos)) none pos'] pos :: rest)) Q E s₃) E s₂) E s' := by
  have K' := K.push (name := name) (a := a) (cd := cd) F hk
  obtain ⟨hB, sg, hl, hF⟩ := hide_facts (name := name) (a := a) (cd := cd) K F N hk
  generalize hBd : hideAll G ((envOf name scope L a cd :: outer).filterMap (·.frame)) = B at hB sg hl hF
  have hBG : ∀ b o, G.get? b = some o → b ∉ (envOf name scope L a cd :: outer).filterMap (·.frame) → B.get? b = some o := fun b o q nm => by
    rw [← hBd]
    exact hideAll_get _ q nm
  have hGB : ∀ b o, B.get? b = some o → G.get? b = some o := fun b o q => by
    rw [← hBd] at q
    exact of_hideAll _ q
  have hen : B.get? e = none := by
    cases q : B.get? e with
    | none => rfl
    | some o =>
      have := hGB _ _ q
      rw [hX.new] at this
      cases this
  obtain ⟨oe, tp, he, hcls, hd'⟩ := hX.there
  have sm₀ : G.UpToSlots s'.heap := Heap.UpToSlots.of_keeps hX.keeps
  refine own_note (a0 := tp) K'.stack (hF.of_keeps fun b o hb _ => ⟨o, hX.keeps b o hb, rfl⟩) rfl he hcls hd' (fun b o hb => hX.keeps b o (hGB b o hb)) hen fun h₄ b₄ f₄ o₄ m₄ => ?_
  refine own_flight b₄ f₄ o₄ fun h₅ b₅ f₅ o₅ m₅ => ?_
  have sm₅ := (sm₀.trans m₄).trans m₅
  obtain ⟨g₅, T₅, F₅, K₅⟩ := kts_ground K F hBG b₅ sm₅
  have P₅ : TopRead p loose mg mb g₅ := topRead_of (TB.keeps K₅.stays)
  obtain ⟨oe₅, _, _, _, he₅, hc₅, _⟩ := id o₅
  refine wpAny_handleBy_builtin (X := X) (T := T') (b := true) hexc hnt hsub (name_B F₅ (XB.keeps K₅.stays) P₅ ex hv hn' ⟨rfl, ⟨oe₅, he₅, hc₅⟩, ?_⟩ hk hx hd)
  refine own_flight b₅ f₅ o₅ fun h₆ b₆ f₆ o₆ m₆ => ?_
  have sm₆ := sm₅.trans m₆
  obtain ⟨g₆, T₆, F₆, K₆⟩ := kts_ground K F hBG b₆ sm₆
  obtain ⟨oe₆, T, oT, ts, he₆, hc₆, hd₆, _⟩ := id o₆
  have X₆ : KF.In g₆ := XB.keeps K₆.stays
  have Q₆ : Top p loose mean mg mb g₆ := TB.keeps K₆.stays
  have P₆ : TopRead p loose mg mb g₆ := topRead_of Q₆
  have hL : B.get? L = none := by
    obtain ⟨_, ⟨L', _, hf, hn', _⟩, _⟩ := f₆
    obtain rfl : L = L' := Option.some.inj hf
    exact hn'
  have N₆ : News g₆ L h₆ news := fun q hq => ⟨b₆ _ _ (hl q hq).1, (fun z => by have := (hl q hq).1; rw [z, hL] at this; cases this), T₆.none_ _ (hl q hq).2.1⟩
  refine wpAny_passesOwnAt hE (wpAny_execs_cons ?_)
  refine Raise_marked FC FR (by rfl) he₆ hd₆ rfl (fun Q' hq => name_B F₆ X₆ P₆ ey hvy hny hq hk hy hdy) fun h₇ e₂ hN hA => ?_
  obtain ⟨ob, vs, ho, hco, hdo, h1⟩ := hN.there
  obtain ⟨a0, ob', vs', ho', hdo', h0⟩ := hA
  rw [ho] at ho'
  injection ho' with ho'
  subst ho'
  rw [hdo] at hdo'
  injection hdo' with hdo'
  subst hdo'
  exact kk h₆ h₇ g₆ e₂ _ (T0.trans T₆) F₆ N₆ K₆ X₆ Q₆ (D.turn T₆) ⟨hN.keeps, hN.new, ob, vs, a0, ho, hco, hdo, h1, h0⟩
end

section
variable {A : Around} {base gc g₀ g' : Heap} {outer : List Env} {L a : Addr} {m : Str → Option Value} {name : Str} {scope : Scope} {cd : Value}
/-- the callee's ground turned: the caller's frame upon it -/
theorem turn_caller (B : Below A base outer gc) (F : Fr gc L g₀ m) (D : KtsDicts (outer.filterMap (·.frame)) gc) (T : KtsTurn ((envOf name scope L a cd :: outer).filterMap (·.frame)) g₀ g') :
    ∃ gc', KtsTurn (outer.filterMap (·.frame)) gc gc' ∧ Fr gc' L g' m ∧ Below A base outer gc' ∧ KtsDicts (outer.filterMap (·.frame)) gc' := by
  have hin : ∀ b ∈ outer.filterMap (·.frame), b ∈ (envOf name scope L a cd :: outer).filterMap (·.frame) := fun b hb => by
    obtain ⟨env, he, hf⟩ := List.mem_filterMap.mp hb
    exact List.mem_filterMap.mpr ⟨env, .tail _ he, hf⟩
  obtain ⟨T₁, S₁⟩ := kts_turn_at (h := g') (fs := outer.filterMap (·.frame)) (g := gc)
    (fun b hb => by
      obtain ⟨_, o, ho, _⟩ := B.frames.mem hb
      exact ⟨o, ho⟩)
    (fun b o e nm => T.other b o (F.keep b o e) fun hm => by
      rcases kts_mem hm with z | z
      · rw [z, kts_self F] at e
        cases e
      · exact nm z)
    (fun b o e hm => T.frame b o (F.keep b o e) (hin b hm))
  have up : g₀.UpToSlots g' := fun b o e _ => T.up e
  refine ⟨_, T₁, ⟨up.ns F.ns, S₁, by rw [T₁.size]; exact F.above⟩, ⟨B.stack, fun b o e => T₁.other b o (B.stays b o e) (fun hm => by
    rw [(B.frames.mem hm).1] at e
    cases e), B.frames.of_keeps fun b o e _ => ?_⟩, D.turn T₁⟩
  obtain ⟨sl, hs⟩ := T₁.up e
  exact ⟨_, hs, rfl⟩
end
end Mine
end
section
open PySem PySem.W PySem.Calls PyProof.Rows
set_option linter.unusedVariables false
set_option maxRecDepth 100000
namespace Mine
theorem little_snoc (n : Nat) (x : Int) : KTBy.little (n + 1) x = KTBy.little n x ++ [x / 256 ^ n % 256] := by
  rw [KTBy.little_eq, KTBy.little_eq, List.range_succ, List.map_append]
  rfl
theorem div_div (x : Int) (n : Nat) : x / 256 ^ n / 256 = x / 256 ^ (n + 1) := by
  rw [Int.pow_succ]
  first
    | rw [Int.ediv_ediv_eq_ediv_mul _ (by exact Int.le_of_lt (Int.pow_pos (by decide)))]
    | rw [Int.ediv_ediv (by exact Int.le_of_lt (Int.pow_pos (by decide)))]
    | rw [Int.ediv_ediv_of_nonneg (by exact Int.le_of_lt (Int.pow_pos (by decide)))]
theorem ins0 (us : List Value) (y : Value) : kl_ins us.toArray.toList 0 y = y :: us := by
  rw [List.toList_toArray]
  simp [kl_ins]
section
variable {prog : Program} {w : World} {A : Around} {E : Value → Shared → Prop} {s : Shared} {h₀ : Heap} {L D : Addr} {m : Str → Option Value} {rest : List (Addr × Obj)} {us : List Value} {n : Nat} {u : Tok} {y : Value} {Q : Value → Shared → Prop}
theorem ins_at (F : Fr h₀ L s.heap m) (N : News h₀ L s.heap ((D, W.listOf us.toArray n) :: rest)) (hne : ∀ p ∈ rest, p.1 ≠ D) (hz : us.length ≤ 1000000)
    (h : ∀ h', Fr h₀ L h' m → News h₀ L h' ((D, W.listOf (y :: us).toArray (n + 1)) :: rest) → Q .none { s with heap := h' }) :
    wpAny (model prog w) A (call (.builtin "list.insert") [.ref D, .int 0 u, y]) Q E s :=
  kl_insert F N (by rfl) (ins0 us y) (Upd.head hne) (by rw [List.toList_toArray, sizeLine_eq]; omega) h
end
/-- the figures that n turns have taken off x, and what is left of it -/
def FigInv (x : Int) (n : Nat) (figs : List Int) (num : Int) : Prop := figs = (KTBy.little n x).reverse ∧ num = x / 256 ^ n
theorem FigInv.zero (x : Int) : FigInv x 0 [] x := ⟨rfl, by simp⟩
theorem FigInv.succ {x : Int} {n : Nat} {figs : List Int} {num : Int} (h : FigInv x n figs num) : FigInv x (n + 1) (num.fmod 256 :: figs) (num.fdiv 256) := by
  obtain ⟨rfl, rfl⟩ := h
  refine ⟨?_, ?_⟩
  · rw [little_snoc, List.reverse_append, Int.fmod_eq_emod_of_nonneg _ (by decide)]
    rfl
  · rw [Int.fdiv_eq_ediv_of_nonneg _ (by decide), div_div]
theorem FigInv.length {x : Int} {n : Nat} {figs : List Int} {num : Int} (h : FigInv x n figs num) : figs.length = n := by
  rw [h.1, List.length_reverse, KTBy.little_length]

section
variable {prog : Program} {w : World} {A : Around} {E : Value → Shared → Prop} {s : Shared} {env : Env} {h₀ : Heap} {body : List Stmt} {Q : Flow → Shared → Prop} {r l : Addr} {x z : Int} {tx t₀ u₀ v₀ : Tok} {m₀ : Str → Option Value} {rest : List (Addr × Obj)} {xk xn : Str}

def FigEnd (h₀ : Heap) (L l : Addr) (xk xn : Str) (m₀ : Str → Option Value) (rest : List (Addr × Obj)) (n : Nat) (num : Int) (figs : List Int) (s : Shared) (f : Flow) (s₂ : Shared) : Prop :=
  f = .next ∧ ∃ vs' c' t' tn' h' tk', s₂ = { s with heap := h', toks := tk' } ∧ IntsAre vs' (num.fmod 256 :: figs) ∧
    Fr h₀ L h' (fun y => if y = xk then some (.int (n : Int) t') else if y = xn then some (.int (num.fdiv 256) tn') else m₀ y) ∧ News h₀ L h' ((l, W.listOf vs'.toArray c') :: rest)
theorem FigEnd.of {h₀ : Heap} {L l : Addr} {xk xn : Str} {m₀ : Str → Option Value} {rest : List (Addr × Obj)} {n : Nat} {num : Int} {figs : List Int} {s : Shared} {vs' : List Value} {c' : Nat} {t' tn' : Tok} {h' : Heap} {tk' : Nat}
    (hI : IntsAre vs' (num.fmod 256 :: figs)) (F : Fr h₀ L h' (fun y => if y = xk then some (.int (n : Int) t') else if y = xn then some (.int (num.fdiv 256) tn') else m₀ y)) (N : News h₀ L h' ((l, W.listOf vs'.toArray c') :: rest)) :
    FigEnd h₀ L l xk xn m₀ rest n num figs s .next { s with heap := h', toks := tk' } := ⟨rfl, vs', c', t', tn', h', tk', rfl, hI, F, N⟩
theorem FigEnd.of' {h₀ : Heap} {L l : Addr} {xk xn : Str} {m₀ : Str → Option Value} {rest : List (Addr × Obj)} {n : Nat} {num : Int} {figs : List Int} {s : Shared} {vs' : List Value} {c' : Nat} {t' tn tn' : Tok} {h' : Heap} {tk' : Nat} (hkn : xk ≠ xn)
    (hI : IntsAre vs' (num.fmod 256 :: figs)) (F : Fr h₀ L h' (fun y => if y = xn then some (.int (num.fdiv 256) tn') else if y = xk then some (.int (n : Int) t') else if y = xn then some (.int num tn) else m₀ y)) (N : News h₀ L h' ((l, W.listOf vs'.toArray c') :: rest)) :
    FigEnd h₀ L l xk xn m₀ rest n num figs s .next { s with heap := h', toks := tk' } := by
  refine .of (t' := t') (tn' := tn') hI ?_ N
  have e : (fun y => if y = xk then some (Value.int (n : Int) t') else if y = xn then some (.int (num.fdiv 256) tn') else m₀ y) = fun y => if y = xn then some (.int (num.fdiv 256) tn') else if y = xk then some (.int (n : Int) t') else if y = xn then some (.int num tn) else m₀ y := by
    funext y
    by_cases h1 : y = xk
    · rw [if_pos h1, if_neg (by rw [h1]; exact hkn), if_pos h1]
    · rw [if_neg h1, if_neg h1]
      by_cases h2 : y = xn
      · rw [if_pos h2, if_pos h2]
      · rw [if_neg h2, if_neg h2, if_neg h2]
  rw [e]
  exact F
theorem fig_loop (hh : A.handled = none) (hr : IsRange s.heap r 0 z 1 t₀ u₀ v₀) (hz1 : 1 ≤ z) (hz2 : z ≤ 16) (hkn : xn ≠ xk) (hbl : ∀ p ∈ rest, p.1 < l) (F : Fr h₀ env.locals s.heap m₀) (N : News h₀ env.locals s.heap ((l, W.listOf #[] 0) :: rest)) (hm : m₀ xn = some (.int x tx))
    (turn : ∀ (vs : List Value) (figs : List Int) (c : Nat) (num : Int) (tn : Tok) (n : Nat) (t : Tok) (h : Heap) (tk : Nat) (own : List (Addr × Obj)), n < 16 → (∀ p ∈ rest ++ own, p.1 ≠ l) → IntsAre vs figs → FigInv x n figs num →
      Fr h₀ env.locals h (fun y => if y = xk then some (.int (n : Int) t) else if y = xn then some (.int num tn) else m₀ y) → News h₀ env.locals h ((l, W.listOf vs.toArray c) :: (rest ++ own)) →
      wpAny (model prog w) A (execs body env) (FigEnd h₀ env.locals l xk xn m₀ (rest ++ own) n num figs { s with heap := h, toks := tk }) E { s with heap := h, toks := tk })
    (done : ∀ (vs : List Value) (figs : List Int) (c : Nat) (num : Int) (tn : Tok) (u : Option Value) (h : Heap) (tk : Nat), IntsAre vs figs → FigInv x z.toNat figs num →
      Fr h₀ env.locals h (fun y => if y = xk then u else if y = xn then some (.int num tn) else m₀ y) → News h₀ env.locals h ((l, W.listOf vs.toArray c) :: rest) → Q .next { s with heap := h, toks := tk }) :
    wpAny (model prog w) A (pyIter (.ref r)) (fun it s₂ => LoopAtV prog w A h₀ env xk body Q E it s₂) E s := by
  have hn : Builtin.Range.rangeSize 0 z 1 = (z.toNat : Int) := by
    rw [rangeSize_nat]
    omega
  refine kst_range (σ := List Value × List Int × Nat × Int × Nat) (fun c => (l, W.listOf c.1.toArray c.2.2.1) :: rest) (fun c => [(xn, .int c.2.2.2.1 c.2.2.2.2)]) (fun c => IntsAre c.1 c.2.1) [] (fun pre c => FigInv x pre.length c.2.1 c.2.2.2.1) ([], [], 0, x, tx)
    hh hr (small_one (by omega) (by omega) (by omega) (by omega)) hn F N .nil (fun p hp => by rw [List.mem_singleton.mp hp]; exact hm) (FigInv.zero x) ?_ ?_
  · intro c pre k t u h tk own hk hlt hoff hf hp F₁ N₁
    obtain ⟨vs, figs, cn, num, tn⟩ := c
    dsimp only at hf hp N₁
    have em : (fun y => if y = xk then some (Value.int k t) else kstB (fun z => if ([] : List Str).contains z then u z else m₀ z) [(xn, .int num tn)] y) = fun y => if y = xk then some (.int (pre.length : Int) t) else if y = xn then some (.int num tn) else m₀ y := by
      funext y
      rw [hk, Int.zero_add]
      rfl
    rw [em] at F₁
    refine wpAny_mono (turn vs figs cn num tn pre.length t h tk own (by omega) (fun p hp => by
      rcases List.mem_append.mp hp with hp | hp
      · exact Nat.ne_of_lt (hbl p hp)
      · exact hoff p hp l (.head _)) hf hp F₁ N₁) ?_ fun _ _ e => e
    rintro f s₂ ⟨rfl, vs', c', t', tn', h', tk', rfl, hI, F', N'⟩
    show InvEndN _ _ _ _ _ _ _
    refine kst_end (vs', num.fmod 256 :: figs, c', num.fdiv 256, tn') F' N' (fun p hp => ?_) (fun p hp => ?_) rfl hI (fun p hp => ?_) (fun y hy hn _ => ?_) ?_
    · rcases List.mem_cons.mp hp with rfl | hp
      · exact .head _
      · exact .tail _ (List.mem_append.mpr (.inl hp))
    · exact .tail _ (List.mem_append.mpr (.inr hp))
    · rw [List.mem_singleton.mp hp]
      show (if xn = xk then _ else if xn = xn then _ else _) = _
      rw [if_neg hkn, if_pos rfl]
    · have hn' : y ≠ xn := hn _ (List.mem_singleton.mpr rfl)
      show (if y = xk then _ else if y = xn then _ else _) = _
      rw [if_neg hy, if_neg hn']
    · show FigInv x (pre ++ [k]).length _ _
      rw [List.length_append]
      exact hp.succ
  · intro c u h tk hf hp F₁ N₁
    obtain ⟨vs, figs, cn, num, tn⟩ := c
    rw [rangeKs_length] at hp
    refine done vs figs cn num tn (u xk) h tk hf hp ?_ N₁
    have em : (fun y => if y = xk then u y else kstB (fun z => if ([] : List Str).contains z then u z else m₀ z) [(xn, .int num tn)] y) = fun y => if y = xk then u xk else if y = xn then some (.int num tn) else m₀ y := by
      funext y
      by_cases hy : y = xk
      · rw [if_pos hy, if_pos hy, hy]
      · rw [if_neg hy, if_neg hy]
        rfl
    rw [← em]
    exact F₁
end

theorem little_in (n : Nat) (x : Int) : ∀ y ∈ KTBy.little n x, 0 ≤ y ∧ y < 256 := by
  induction n generalizing x with
  | zero => intro y hy; cases hy
  | succ n ih =>
    intro y hy
    rcases List.mem_cons.mp hy with rfl | hy
    · exact ⟨Int.emod_nonneg _ (by decide), Int.emod_lt_of_pos _ (by decide)⟩
    · exact ih _ y hy
section
variable {prog : Program} {w : World} {A : Around} {E : Value → Shared → Prop} {s : Shared} {h₀ : Heap} {L l : Addr} {m : Str → Option Value} {news : List (Addr × Obj)} {vs : List Value} {figs : List Int} {x num : Int} {n c : Nat} {Q : Value → Shared → Prop}
theorem bytes_fig (F : Fr h₀ L s.heap m) (N : News h₀ L s.heap news) (hm : (l, W.listOf vs.toArray c) ∈ news) (hi : IntsAre vs figs) (hP : FigInv x n figs num) (hn : n ≤ 16) (hh : A.handled = none)
    (h : ∀ h' t k, Fr h₀ L h' m → News h₀ L h' news → Q (.bytes (big n x).toArray t) { s with heap := h', toks := k }) :
    wpAny (model prog w) A (call (.type "bytes") [.ref l]) Q E s := by
  have hl : s.heap.IsList l vs.toArray := ⟨_, (N _ hm).1, rfl, c, rfl⟩
  have e1 := hi.length
  have e2 := hP.length
  refine call_bytes_ints hl hi (fun y hy => ?_) (by rw [sizeLine_eq]; omega) hh fun h' t k hk => ?_
  · rw [hP.1] at hy
    exact little_in n x y (List.mem_reverse.mp hy)
  · have e : byteArr figs = (big n x).toArray := by
      rw [hP.1]
      rfl
    rw [e]
    exact h h' t k (F.kept hk) fun p hp => ⟨hk _ _ (N p hp).1, (N p hp).2⟩
end
end Mine
end
section
open PySem PySem.W PySem.Calls PyProof.Rows
set_option linter.unusedVariables false
set_option maxRecDepth 100000
namespace Mine
/-! the figures: cut, zero, order -/
theorem big_snoc (n : Nat) (x : Int) : big (n + 1) x = big n (x / 256) ++ [(x % 256).toNat.toUInt8] := by
  show ((KTBy.little (n + 1) x).reverse).map _ = ((KTBy.little n (x / 256)).reverse).map _ ++ _
  rw [KTBy.little, List.reverse_cons, List.map_append]
  rfl
theorem big_length (n : Nat) (x : Int) : (big n x).length = n := by
  unfold big
  rw [List.length_map, List.length_reverse, KTBy.little_length]
theorem big16 (x : Int) : big 16 x = big 12 (x / 256 / 256 / 256 / 256) ++ big 4 x := rfl
theorem big12_zero : big 12 0 = List.replicate 12 0 := by decide +kernel
theorem u8_toNat {n : Nat} (h : n < 256) : (n.toUInt8).toNat = n := by
  show (UInt8.ofNat n).toNat = n
  rw [UInt8.toNat_ofNat']
  omega
theorem big_zero : ∀ (n : Nat) (x : Int), 0 ≤ x → x < 256 ^ n → big n x = List.replicate n 0 → x = 0
  | 0, x, h0, h1, _ => by
    rw [Int.pow_zero] at h1; omega
  | n + 1, x, h0, h1, h => by
    rw [big_snoc, List.replicate_succ'] at h
    obtain ⟨hb, h2⟩ := List.append_inj' h rfl
    have h3 : (x % 256).toNat.toUInt8 = 0 := (List.cons.inj h2).1
    have h4 := congrArg UInt8.toNat h3
    rw [u8_toNat (by omega)] at h4
    have h5 : (x % 256).toNat = 0 := h4
    rw [Int.pow_succ] at h1
    have := big_zero n (x / 256) (by omega) (by omega) hb
    omega
theorem order_refl : ∀ a : List UInt8, Builtin.Bytes.order a a = .eq
  | [] => rfl
  | x :: r => by
    have h : ¬ x < x := by rw [UInt8.lt_iff_toNat_lt]; omega
    rw [Builtin.Bytes.order, if_neg h, if_neg h]
    exact order_refl r
theorem order_snoc (c d : UInt8) : ∀ a b : List UInt8, a.length = b.length → Builtin.Bytes.order (a ++ [c]) (b ++ [d]) = (Builtin.Bytes.order a b).then (Builtin.Bytes.order [c] [d])
  | [], [], _ => rfl
  | x :: a, y :: b, h => by
    rw [List.cons_append, List.cons_append, Builtin.Bytes.order, Builtin.Bytes.order, order_snoc c d a b (by simpa using h)]
    split
    · rfl
    · split
      · rfl
      · rfl
theorem big_order : ∀ (n : Nat) (x y : Int), 0 ≤ x → x < y → y < 256 ^ n → Builtin.Bytes.order (big n y) (big n x) = .gt
  | 0, x, y, h0, h1, h2 => by rw [Int.pow_zero] at h2; omega
  | n + 1, x, y, h0, h1, h2 => by
    rw [Int.pow_succ] at h2
    rw [big_snoc, big_snoc, order_snoc _ _ _ _ (by rw [big_length, big_length])]
    rcases Int.lt_or_le (x / 256) (y / 256) with hl | hl
    · rw [big_order n (x / 256) (y / 256) (by omega) hl (by omega)]
      rfl
    · have he : x / 256 = y / 256 := by omega
      rw [he, order_refl]
      have hlt : x % 256 < y % 256 := by omega
      have h3 : ¬ (y % 256).toNat.toUInt8 < (x % 256).toNat.toUInt8 := by
        rw [UInt8.lt_iff_toNat_lt, u8_toNat (by omega), u8_toNat (by omega)]; omega
      have h4 : (y % 256).toNat.toUInt8 > (x % 256).toNat.toUInt8 := by
        show (x % 256).toNat.toUInt8 < (y % 256).toNat.toUInt8
        rw [UInt8.lt_iff_toNat_lt, u8_toNat (by omega), u8_toNat (by omega)]; omega
      show Builtin.Bytes.order [_] [_] = .gt
      rw [Builtin.Bytes.order, if_neg h3, if_pos h4]
theorem big_le {x y : Int} {n : Nat} (h0 : 0 ≤ x) (h1 : x ≤ y) (h2 : y < 256 ^ n) : (Builtin.Bytes.order (big n y) (big n x) == .lt) = false := by
  rcases Int.lt_or_eq_of_le h1 with h | h
  · rw [big_order n x y h0 h h2]; rfl
  · subst h; rw [order_refl]; rfl

theorem int_no_bytes : typeLookup (.type "int") "__bytes__" = pure none := by rw [typeLookup_type, builtinLookup_eq_fast]; kernel_rfl
section
variable {prog : Program} {w : World} {A : Around} {E : Value → Shared → Prop} {s : Shared} {value slice : PySem.Expr} {b c : Array UInt8} {t u tl : Tok} {h₀ : Heap} {L : Addr} {m : PySem.Str → Option Value} {news : List (Addr × Obj)} {Q : Value → Shared → Prop} {x y : Int}
theorem bint_new {n : Nat} (hz : n ≤ 1000000) (hQ : ∀ t k, Q (.bytes (Array.replicate n 0) t) { s with toks := k }) :
    codeAny (model prog w) A (.call (.builtin "bytes.__new__") ⟨[.type "bytes", .int n u], []⟩) (wants Q E) s := by
  refine codeAny_of_tree ?_
  show wpAny _ A.in1 (do checkBuiltinCall "bytes.__new__" ⟨[.type "bytes", .int n u], []⟩; again (.builtin "bytes.__new__" ⟨[.type "bytes", .int n u], []⟩)) _ _ s
  refine wpAny_bind (wpAny_of_eq (F.bm_newCall _) (wpAny_pure ⟨plainId_quiet F.bm_plain _, codeAny_builtin F.bm_entry ?_⟩))
  rw [Around.under_plainId F.bm_plain _]
  unfold Builtin.«bytes.__new__»
  show wpAny _ _ (isType (.type "bytes") >>= fun c => _) _ _ s
  have e0 : isType (.type "bytes") = pure true := rfl
  refine wpAny_bind ?_
  rw [e0]
  refine wpAny_pure ?_
  with_reducible refine bm_if_false (c := !true) ?_ ?_
  · rfl
  with_reducible refine wpAny_bind ?_
  with_reducible refine wpAny_of_eq F.bm_sub ?_
  with_reducible refine bm_if_false (c := !true) ?_ ?_
  · rfl
  with_reducible refine wpAny_bind ?_
  with_reducible refine wpAny_of_eq (F.bm_bind _) ?_
  have e1 : Builtin.Bytes.checkCodecArg "bytes.__new__" "bytes" "encoding" none = pure () := rfl
  have e2 : Builtin.Bytes.checkCodecArg "bytes.__new__" "bytes" "errors" none = pure () := rfl
  with_reducible refine wpAny_bind ?_
  with_reducible refine wpAny_of_eq e1 ?_
  with_reducible refine wpAny_bind ?_
  with_reducible refine wpAny_of_eq e2 ?_
  dsimp only
  with_reducible refine bm_if_false (c := none.isSome) ?_ ?_
  · rfl
  with_reducible refine wpAny_bind ?_
  with_reducible refine wpAny_specialOf (name := Str.ofString "__bytes__") (typeIs_int _ _ _) int_no_bytes ?_
  dsimp only
  have e3 : asStr? (.int (n : Int) u) = pure none := rfl
  rw [e3]
  with_reducible refine wpAny_bind ?_
  with_reducible refine wpAny_bind ?_
  with_reducible refine wpAny_pure ?_
  with_reducible refine wpAny_pure ?_
  with_reducible refine bm_if_false (c := none.isSome) ?_ ?_
  · rfl
  with_reducible refine wpAny_bind ?_
  with_reducible refine wpAny_specialOf (name := Str.ofString "__index__") (typeIs_int _ _ _) F.slot_int_index.lookup ?_
  with_reducible refine bm_if_false (c := Option.isNone (some _)) ?_ ?_
  · rfl
  have e4 : asIndex (.int (n : Int) u) = pure (n : Int) := rfl
  rw [e4]
  with_reducible refine wpAny_bind ?_
  with_reducible refine wpAny_attempt ?_
  with_reducible refine wpAny_pure ?_
  dsimp only
  with_reducible refine bm_if_false (c := !Builtin.Bytes.fitsIndex (n : Int)) ?_ ?_
  · simp only [Builtin.Bytes.fitsIndex]
    rw [decide_eq_true (by omega), decide_eq_true (by omega)]; rfl
  rw [if_neg (show ¬ ((n : Int) < 0) by omega), if_neg (show ¬ ((n : Int) > 2 ^ 63 - 34) by omega)]
  with_reducible refine bm_if_false (c := Builtin.Bytes.tooLong ((n : Int).toNat)) ?_ ?_
  · exact decide_eq_false (by rw [sizeLine_eq, Int.toNat_natCast]; omega)
  with_reducible refine wpAny_bind ?_
  with_reducible refine wpAny_rule ?_
  with_reducible refine wpAny_bind ?_
  with_reducible refine wpAny_mkBytes ?_ ?_
  · rw [Int.toNat_natCast]
    have e5 : (Value.type "bytes" == Value.type "bytes") = true := by decide
    show wpAny _ _ (if (Value.type "bytes" == Value.type "bytes") = true then _ else _) _ _ _
    with_reducible refine bm_if_true e5 ?_
    first
      | exact wpAny_pure (hQ _ _)
      | exact wpAny_bind (wpAny_pure (wpAny_pure (hQ _ _)))
  · rw [Array.size_replicate, sizeLine_eq, Int.toNat_natCast]
    omega
theorem bytes_n {n : Nat} (hz : n ≤ 1000000) (hQ : ∀ t k, Q (.bytes (Array.replicate n 0) t) { s with toks := k }) :
    wpAny (model prog w) A (call (.type "bytes") [.int n u]) Q E s := by
  refine callType_codes (Q₁ := fun obj s₁ => s₁.TypeIs obj "bytes" ∧ Q obj s₁) F.bm_called (F.bm_typeCall _) F.entry_object_init
    (bint_new hz fun t k => ⟨PySem.W.typeIs_bytes _ _ _, hQ t k⟩) fun obj s₁ h₁ => ?_
  exact ⟨h₁.1, F.args_object_init_2 obj _, object_init_meets F.bm_called.init.lookup F.bm_called.made (by decide) prog w A.in1 _ s₁ ⟨h₁.1, rfl, h₁.2⟩⟩
theorem bytes_12 (hQ : ∀ (c : Array UInt8) t k, c = Array.replicate 12 0 → Q (.bytes c t) { s with toks := k }) :
    wpAny (model prog w) A (call (.type "bytes") [.int 12 u]) Q E s :=
  bytes_n (n := 12) (by decide) fun t k => hQ _ t k rfl
theorem sliceLo (hF : Fr h₀ L s.heap m) (hN : News h₀ L s.heap news) (hb : b = (big 16 x).toArray)
    (h : ∀ (c : Array UInt8) h' t' k, c = (big 12 (x / 256 / 256 / 256 / 256)).toArray → Fr h₀ L h' m → News h₀ L h' news → Q (.bytes c t') { s with heap := h', toks := k })
    (hs : subscripted slice false (.bytes b t) (.ref s.heap.objs.size) = operate [.ref s.heap.objs.size, .bytes b t] (getItem (.bytes b t) (.ref s.heap.objs.size)) := by with_unfolding_all rfl)
    (ht : ∀ r, letTemporaryGo value (.bytes b t) r = pure () := by intro _; with_unfolding_all rfl) :
    wpAny (model prog w) A (subscriptTail value slice (.bytes b t) (.ref s.heap.objs.size)) Q E { s with heap := s.heap.push { cls := .type "slice", data := .fields #[.none, .int 12 tl, .none] } } :=
  KBc.slice_K hF hN rfl .none (.int 12 tl) (by rw [hb, KBw.ints_length]; simp [big_length]) (fun h' t' k F N _ => h _ h' t' k (by
    rw [KBc.picked_eq, hb]
    simp only [Option.elim, KBc.clip_lit, List.size_toArray, big_length, List.drop_zero, Nat.sub_zero]
    rw [big16]
    show ((big 12 _ ++ big 4 x).take 12).toArray = _
    rw [List.take_left' (big_length 12 _)]) F N) hs ht
theorem sliceHi (hF : Fr h₀ L s.heap m) (hN : News h₀ L s.heap news) (hb : b = (big 16 x).toArray)
    (h : ∀ (c : Array UInt8) h' t' k, c = (big 4 x).toArray → Fr h₀ L h' m → News h₀ L h' news → Q (.bytes c t') { s with heap := h', toks := k })
    (hs : subscripted slice false (.bytes b t) (.ref s.heap.objs.size) = operate [.ref s.heap.objs.size, .bytes b t] (getItem (.bytes b t) (.ref s.heap.objs.size)) := by with_unfolding_all rfl)
    (ht : ∀ r, letTemporaryGo value (.bytes b t) r = pure () := by intro _; with_unfolding_all rfl) :
    wpAny (model prog w) A (subscriptTail value slice (.bytes b t) (.ref s.heap.objs.size)) Q E { s with heap := s.heap.push { cls := .type "slice", data := .fields #[.int 12 tl, .none, .none] } } :=
  KBc.slice_K hF hN rfl (.int 12 tl) .none (by rw [hb, KBw.ints_length]; simp [big_length]) (fun h' t' k F N _ => h _ h' t' k (by
    rw [KBc.picked_eq, hb]
    simp only [Option.elim, KBc.clip_lit, List.size_toArray, big_length]
    rw [big16]
    show (((big 12 _ ++ big 4 x).drop 12).take 4).toArray = _
    rw [List.drop_left' (big_length 12 _), List.take_of_length_le (by rw [big_length]; exact Nat.le_refl 4)]) F N) hs ht
theorem eqT (hb : b = (big 12 y).toArray) (hc : c = Array.replicate 12 0) (hy : y = 0) (h : Q (.bool true) s) : wpAny (model prog w) A (compareOp .Eq (.bytes b t) (.bytes c u)) Q E s := by
  refine eq_bytes ?_
  have e : (b.toList == c.toList) = true := by
    rw [hb, hc, hy, big12_zero]
    decide
  rw [e]; exact h
theorem eqF (hb : b = (big 12 y).toArray) (hc : c = Array.replicate 12 0) (hy : 0 < y ∧ y < 79228162514264337593543950336) (h : Q (.bool false) s) : wpAny (model prog w) A (compareOp .Eq (.bytes b t) (.bytes c u)) Q E s := by
  refine eq_bytes ?_
  have e : (b.toList == c.toList) = false := by
    rw [hb, hc, beq_eq_false_iff_ne]
    intro e
    have := big_zero 12 y (by omega) (by rw [show (256 : Int) ^ 12 = 79228162514264337593543950336 by decide]; omega) (by simpa using e)
    omega
  rw [e]; exact h
end
end Mine
end
section
open PySem PySem.W PySem.Calls PyProof.Rows
set_option linter.unusedVariables false
set_option maxRecDepth 100000
namespace Mine
/-- the numbers of sixteen figures, packed -/
def packs (ns : List Int) : List (Array UInt8) := (ns.filter fun n => decide (0 ≤ n) && decide (n < 340282366920938463463374607431768211456)).map fun n => (big 16 n).toArray
theorem packs_nil : ([] : List Dat) = (packs []).map Dat.bytes := rfl
theorem packs_in {pre : List Int} {n : Int} (h0 : 0 ≤ n) (h1 : n < 340282366920938463463374607431768211456) : packs (pre ++ [n]) = packs pre ++ [(big 16 n).toArray] := by
  unfold packs
  rw [List.filter_append, List.map_append]
  congr 1
  rw [List.filter_cons_of_pos (by simp [h0, h1])]
  rfl
theorem packs_out {pre : List Int} {n : Int} (h : n < 0 ∨ 340282366920938463463374607431768211456 ≤ n) : packs (pre ++ [n]) = packs pre := by
  unfold packs
  rw [List.filter_append, List.map_append, List.filter_cons_of_neg (by simp; omega)]
  simp
theorem word_nil : ([] : List Dat) = (packs []).map Dat.bytes ∧ ([] : List Dat).length ≤ ([] : List Int).length := ⟨rfl, Nat.le_refl _⟩
theorem packs_length (ns : List Int) : (packs ns).length ≤ ns.length := by
  unfold packs
  rw [List.length_map]
  exact List.length_filter_le _ _
theorem word_in {pre : List Int} {b : Array UInt8} {n : Int} (hb : b = (big 16 n).toArray) (h0 : 0 ≤ n) (h1 : n < 340282366920938463463374607431768211456) :
    (packs pre).map Dat.bytes ++ [Dat.bytes b] = (packs (pre ++ [n])).map Dat.bytes ∧ ((packs pre).map Dat.bytes ++ [Dat.bytes b]).length ≤ (pre ++ [n]).length := by
  subst hb
  refine ⟨by rw [packs_in h0 h1, List.map_append]; rfl, ?_⟩
  rw [List.length_append, List.length_append, List.length_map]
  exact Nat.add_le_add_right (packs_length pre) 1
theorem word_out {pre : List Int} {n : Int} (hn : n < 0 ∨ 340282366920938463463374607431768211456 ≤ n) :
    (packs pre).map Dat.bytes = (packs (pre ++ [n])).map Dat.bytes ∧ ((packs pre).map Dat.bytes).length ≤ (pre ++ [n]).length := by
  refine ⟨by rw [packs_out hn], ?_⟩
  rw [List.length_append, List.length_map]
  exact Nat.le_trans (packs_length pre) (Nat.le_add_right _ _)
theorem packs_order {ns : List Int} (h : ns.Pairwise (· ≤ ·)) : ∀ i b c, (packs ns)[i]? = some b → (packs ns)[i + 1]? = some c → (Builtin.Bytes.order c.toList b.toList == .lt) = false := by
  have hp : (packs ns).Pairwise fun b c => (Builtin.Bytes.order c.toList b.toList == .lt) = false := by
    unfold packs
    refine List.pairwise_map.mpr ?_
    refine List.Pairwise.imp_of_mem (fun {x y} hx hy hxy => ?_) (h.filter _)
    have hx' := (List.mem_filter.mp hx).2
    have hy' := (List.mem_filter.mp hy).2
    simp only [Bool.and_eq_true, decide_eq_true_eq] at hx' hy'
    exact big_le hx'.1 hxy (by rw [show (256 : Int) ^ 16 = 340282366920938463463374607431768211456 by decide]; exact hy'.2)
  intro i b c hb hc
  obtain ⟨h1, e1⟩ := List.getElem?_eq_some_iff.mp hb
  obtain ⟨h2, e2⟩ := List.getElem?_eq_some_iff.mp hc
  rw [← e1, ← e2]
  exact List.pairwise_iff_getElem.mp hp i (i + 1) h1 h2 (by omega)
theorem bytesAre_of {L9 : List (Addr × Obj)} : ∀ {us : List Value} {bs : List (Array UInt8)}, DatAll L9 us (bs.map Dat.bytes) → BytesAre us bs
  | [], [], _ => .nil
  | [], _ :: _, h => by cases h
  | _ :: _, [], h => by cases h
  | v :: us, b :: bs, h => by
    cases h with
    | cons h1 h2 =>
      cases h1 with
      | bytes b t => exact .cons b t (bytesAre_of h2)
section
variable {prog : Program} {w : World} {A : Around} {E : Value → Shared → Prop} {s : Shared} {h₀ : Heap} {L l D : Addr} {m : PySem.Str → Option Value} {news L9 : List (Addr × Obj)} {us us' : List Value} {out : List Dat} {ns : List Int} {n n' : Nat} {Q : Value → Shared → Prop}
theorem sorted_P (F : Fr h₀ L s.heap m) (N : News h₀ L s.heap news) (hm : (l, listOf us.toArray n) ∈ news) (hd : DatAll L9 us out) (hi : out = (packs ns).map Dat.bytes) (ho : ns.Pairwise (· ≤ ·)) (hsz : ns.length ≤ 1048576)
    (h : ∀ D c h', Fr h₀ L h' m → News h₀ L h' ((D, W.listOf us.toArray c) :: news) → (∀ q ∈ news, q.1 < D) → Q (.ref D) { s with heap := h' }) :
    wpAny (model prog w) A (call (.builtin "sorted") [.ref l]) Q E s := by
  subst hi
  have hl := packs_length ns
  exact sorted_B F N (N.isList hm) (bytesAre_of hd) (by omega) (packs_order ho) h
theorem eq_P (N : News h₀ L s.heap news) (hm : (l, listOf us.toArray n) ∈ news) (hm' : (D, listOf us.toArray n') ∈ news) (hu : A.units < cLine) (h : Q (.bool true) s) : wpAny (model prog w) A (compareOp .Eq (.ref l) (.ref D)) Q E s := by
  refine SeqAt.eq_listAt (e := fun _ => true) (N.isList hm) (N.isList hm') rfl hu (fun j _ _ => SeqAt.EqAt.same _) ?_
  have : ((List.range us.toArray.size).all fun _ => true) = true := by simp
  rw [this]
  exact h
end
end Mine
end
section
open PySem PySem.W PyProof.Rows
set_option maxRecDepth 100000
set_option maxHeartbeats 8000000
namespace Mine
open_top hd for PySem.Challenge.rw_ko0048_01
end Mine
end
section
open PySem PySem.W PyProof.Rows
set_option maxRecDepth 100000
namespace Mine

local macro_rules | `(tactic| walk_at "call builtin:list.insert") => `(tactic| (k_here; k_dflt (show wpAny _ _ (call (Value.builtin _) [Value.ref _, Value.int _ _, _]) _ _ _); k_dflt (refine' Mine.ins_at ?F ?N ?ne ?z ?_; (case F => k_asm); (case N => k_asm); (case ne => assumption); (case z => omega); k_whole); intro h' F' N'))
local macro_rules | `(tactic| walk_at "call type:bytes") => `(tactic| (k_here; (with_reducible show wpAny _ _ (call (Value.type "bytes") [Value.ref _]) _ _ _); k_dflt (refine' Mine.bytes_fig ?F ?N ?m ?i ?p ?n ?hh ?_; (case F => k_asm); (case N => k_asm); (case m => k_mem); (case i => assumption); (case p => assumption); (case n => omega); (case hh => rfl); k_whole); intro h' t' k' F' N'))
local macro_rules | `(tactic| walk_at "pyIter ref") => `(tactic| (k_of "k" => (k_here; k_dflt ((rename Fr _ _ _ _ => lF'); (rename News _ _ _ _ => lN'); (rename IsRange _ _ _ _ _ _ _ _ => rgX); (with_unfolding_all refine' Mine.fig_loop (xn := Str.ofString "number") ?a rgX ?b ?c ?d ?bl lF' lN' ?e ?turn ?done); (case a => rfl); (case b => assumption); (case c => assumption); (case d => decide); (case bl => assumption); (case e => rfl); (case' turn => (clear lF' lN' rgX; intro vs' figs' c' num' tn' n' t' h' tk' own' hlt' hoff' hI' hP' F' N'; have hLn' := hI'.length; have hPn' := hP'.length)); (case' done => (clear lF' lN' rgX; intro vs' figs' c' num' tn' u' h' tk' hI' hP' F' N'))))))
set_option maxHeartbeats 2000000 in
theorem figs_tells (w : World) {mean : ExcName → Option Value} {mg mb : Str → Option Value} (news : List (Addr × Obj)) (dp un : Nat) (gd : Option (List Code)) (cn : Str) (cs : Scope) (a : Addr) (ccd : Value) (cl : List (Str × Addr)) (outer : List Env) (A₀ : Around) (base h₀ : Heap) (L : Addr) (m : Str → Option Value) (s : Shared)
    (x z : Int) (t u : Tok) (Q E : Value → Shared → Prop) (B : Below A₀ base outer h₀) (F : Fr h₀ L s.heap m) : (hd.heap_39 w.params).In h₀ → ∀ (N : News h₀ L s.heap news) (T : Top hd.view_39 (looseW hd.view_39 []) mean mg mb h₀) (hk : cs.kind = .function)
    (hz1 : 1 ≤ z) (hz2 : z ≤ 16) (hdp : dp + 1 < recursionLimit) (hun : un + 8 < cLine)
    (hin : 0 ≤ x → x < 256 ^ z.toNat → ∀ t' h' tk', Fr h₀ L h' m → News h₀ L h' news → Q (.bytes (big z.toNat x).toArray t') { s with heap := h', toks := tk' })
    (hout : x < 0 ∨ 256 ^ z.toNat ≤ x → ∀ h' tk', Fr h₀ L h' m → News h₀ L h' news → Q .none { s with heap := h', toks := tk' }),
    wpAny (model PySem.Challenge.rw_ko0048_01.row.prog w) (ktrTop dp un gd cn cs L a ccd cl outer) (call (.ref 42) [.int x t, .int z u]) Q E s := by
  k_fill
  intro X N T hk hz1 hz2 hdp hun hin hout
  refine wpAny_call ?_
  k_dflt cell_enter
  k_steps
  · exact hout (.inl (by assumption)) _ _ (by assumption) (by assumption)
  · exact hout (.inr (by assumption)) _ _ (by assumption) (by assumption)
  · exact hin (Int.not_lt.mp (by assumption)) (Int.not_le.mp (by assumption)) _ _ _ (by assumption) fun p hp => (by assumption : News _ _ _ (_ :: news)) p (.tail _ hp)
  · with_unfolding_all exact Mine.FigEnd.of' (by decide) (.cons _ _ (by assumption)) (by assumption) (by assumption)
end Mine
end
section
open PySem PySem.W PyProof.Rows
namespace Mine
theorem tb16 {prog : Program} {w : World} {A : Around} {E : Value → Shared → Prop} {s : Shared} {x : Int} {t u : Tok} {Q : Value → Shared → Prop} (hh : A.handled = none)
    (hv : 0 ≤ x → x < 340282366920938463463374607431768211456 → ∀ (b : Array UInt8) t' k', b = (Mine.big 16 x).toArray → Q (.bytes b t') { s with toks := k' })
    (he : x < 0 ∨ 340282366920938463463374607431768211456 ≤ x → ∀ h' tk e, Heap.NewExc s.heap h' e "OverflowError" → E (.ref e) { s with heap := h', toks := tk }) :
    wpAny (model prog w) A (call (.builtin "int.to_bytes") [.int x t, .int 16 u]) Q E s :=
  Mine.to_bytes (k := 16) (by decide) (by decide) hh hv he
theorem tb4 {prog : Program} {w : World} {A : Around} {E : Value → Shared → Prop} {s : Shared} {x : Int} {t u : Tok} {Q : Value → Shared → Prop} (hh : A.handled = none)
    (hv : 0 ≤ x → x < 4294967296 → ∀ (b : Array UInt8) t' k', b = (Mine.big 4 x).toArray → Q (.bytes b t') { s with toks := k' })
    (he : x < 0 ∨ 4294967296 ≤ x → ∀ h' tk e, Heap.NewExc s.heap h' e "OverflowError" → E (.ref e) { s with heap := h', toks := tk }) :
    wpAny (model prog w) A (call (.builtin "int.to_bytes") [.int x t, .int 4 u]) Q E s :=
  Mine.to_bytes (k := 4) (by decide) (by decide) hh hv he
/-- the value alone -/
theorem tb4v {prog : Program} {w : World} {A : Around} {E : Value → Shared → Prop} {s : Shared} {x : Int} {t u : Tok} {Q : Value → Shared → Prop} (hh : A.handled = none) (hx : 0 ≤ x ∧ x < 4294967296)
    (hv : ∀ (b : Array UInt8) t' k', b = (Mine.big 4 x).toArray → Q (.bytes b t') { s with toks := k' }) :
    wpAny (model prog w) A (call (.builtin "int.to_bytes") [.int x t, .int 4 u]) Q E s :=
  tb4 hh (fun _ _ => hv) (fun h => absurd h (by omega))
/-- the raise alone -/
theorem tb4e {prog : Program} {w : World} {A : Around} {E : Value → Shared → Prop} {s : Shared} {x : Int} {t u : Tok} {Q : Value → Shared → Prop} (hh : A.handled = none) (hx : x < 0 ∨ 4294967296 ≤ x)
    (he : ∀ h' tk e, Heap.NewExc s.heap h' e "OverflowError" → E (.ref e) { s with heap := h', toks := tk }) :
    wpAny (model prog w) A (call (.builtin "int.to_bytes") [.int x t, .int 4 u]) Q E s :=
  tb4 hh (fun a b => absurd hx (by omega)) (fun _ => he)
section
variable (w : World) {mean : ExcName → Option Value} {mg mb : Str → Option Value} (news : List (Addr × Obj)) (dp un : Nat) (gd : Option (List Code)) (cn : Str) (cs : Scope) (a : Addr) (ccd : Value) (cl : List (Str × Addr)) (outer : List Env) (A₀ : Around) (base h₀ : Heap) (L : Addr) (m : Str → Option Value) (s : Shared)
    (x : Int) (t u : Tok) (Q E : Value → Shared → Prop) (B : Below A₀ base outer h₀) (F : Fr h₀ L s.heap m) (X : (hd.heap_39 w.params).In h₀) (N : News h₀ L s.heap news) (T : Top hd.view_39 (looseW hd.view_39 []) mean mg mb h₀) (hk : cs.kind = .function)
    (hdp : dp + 1 < recursionLimit) (hun : un + 8 < cLine)
include B F X N T hk hdp hun
theorem f16v (hx : 0 ≤ x ∧ x < 340282366920938463463374607431768211456)
    (h : ∀ (b : Array UInt8) t' h' tk', b = (big 16 x).toArray → Fr h₀ L h' m → News h₀ L h' news → Q (.bytes b t') { s with heap := h', toks := tk' }) :
    wpAny (model PySem.Challenge.rw_ko0048_01.row.prog w) (ktrTop dp un gd cn cs L a ccd cl outer) (call (.ref 42) [.int x t, .int 16 u]) Q E s :=
  figs_tells w news dp un gd cn cs a ccd cl outer A₀ base h₀ L m s x 16 t u Q E B F X N T hk (by decide) (by decide) hdp hun (fun _ _ t' h' k' => h _ t' h' k' rfl) (fun e => by
    have : (256 : Int) ^ (16 : Int).toNat = 340282366920938463463374607431768211456 := by decide
    rw [this] at e; omega)
theorem f16e (hx : x < 0 ∨ 340282366920938463463374607431768211456 ≤ x)
    (h : ∀ h' tk', Fr h₀ L h' m → News h₀ L h' news → Q .none { s with heap := h', toks := tk' }) :
    wpAny (model PySem.Challenge.rw_ko0048_01.row.prog w) (ktrTop dp un gd cn cs L a ccd cl outer) (call (.ref 42) [.int x t, .int 16 u]) Q E s :=
  figs_tells w news dp un gd cn cs a ccd cl outer A₀ base h₀ L m s x 16 t u Q E B F X N T hk (by decide) (by decide) hdp hun (fun e f => by
    have : (256 : Int) ^ (16 : Int).toNat = 340282366920938463463374607431768211456 := by decide
    rw [this] at f; omega) (fun _ => h)
theorem f4v (hx : 0 ≤ x ∧ x < 4294967296)
    (h : ∀ (b : Array UInt8) t' h' tk', b = (big 4 x).toArray → Fr h₀ L h' m → News h₀ L h' news → Q (.bytes b t') { s with heap := h', toks := tk' }) :
    wpAny (model PySem.Challenge.rw_ko0048_01.row.prog w) (ktrTop dp un gd cn cs L a ccd cl outer) (call (.ref 42) [.int x t, .int 4 u]) Q E s :=
  figs_tells w news dp un gd cn cs a ccd cl outer A₀ base h₀ L m s x 4 t u Q E B F X N T hk (by decide) (by decide) hdp hun (fun _ _ t' h' k' => h _ t' h' k' rfl) (fun e => by
    have : (256 : Int) ^ (4 : Int).toNat = 4294967296 := by decide
    rw [this] at e; omega)
theorem f4e (hx : x < 0 ∨ 4294967296 ≤ x)
    (h : ∀ h' tk', Fr h₀ L h' m → News h₀ L h' news → Q .none { s with heap := h', toks := tk' }) :
    wpAny (model PySem.Challenge.rw_ko0048_01.row.prog w) (ktrTop dp un gd cn cs L a ccd cl outer) (call (.ref 42) [.int x t, .int 4 u]) Q E s :=
  figs_tells w news dp un gd cn cs a ccd cl outer A₀ base h₀ L m s x 4 t u Q E B F X N T hk (by decide) (by decide) hdp hun (fun e f => by
    have : (256 : Int) ^ (4 : Int).toNat = 4294967296 := by decide
    rw [this] at f; omega) (fun _ => h)
end
end Mine
end
open PySem PySem.W PyProof.Rows
theorem Mine.five {h₀ h : Heap} {L l : Addr} {rest : List (Addr × Obj)} {a b c d e : Int} {t1 t2 t3 t4 t5 : Tok} {n : Nat} (_ : News h₀ L h ((l, W.listOf #[.int a t1, .int b t2, .int c t3, .int d t4, .int e t5] n) :: rest)) :
    IntsAre [.int a t1, .int b t2, .int c t3, .int d t4, .int e t5] [a, b, c, d, e] := .cons _ _ (.cons _ _ (.cons _ _ (.cons _ _ (.cons _ _ .nil))))
local macro_rules | `(tactic| walk_at "exec For Name BinOp cons nil") => `(tactic| (k_here; (rename Fr _ _ _ _ => lF'); (with_unfolding_all refine' For_invVF lF' ?k1 ?k2 ?_; (case k1 => exact rfl); (case k2 => exact rfl); k_whole)))
local macro_rules | `(tactic| walk_at "call builtin:sorted") => `(tactic| (k_here; (with_reducible show wpAny _ _ (call (Value.builtin _) [Value.ref _]) _ _ _); (with_unfolding_all refine' Mine.sorted_I ?k1 ?k2 ?k3 ?k4 ?k5 ?_; (case k1 => k_asm); (case k2 => k_asm); (case k3 => kso_list); (case k4 => l_ints); (case k5 => (simp only [List.length_append, List.length_cons, List.length_nil] at *; omega)); k_whole); intro D' v' n' c' h' F' N' l1 i' e' o'; (try k_lt l1); (try k_sweep)))
local macro_rules | `(tactic| walk_at "call ref") => `(tactic| (k_here; k_dflt (refine wpAny_call ?_; kts_go)))
local macro_rules | `(tactic| walk_at "call ref") => `(tactic| (k_here; (with_reducible show wpAny _ _ (call (Value.ref 42) [.int _ _, .int _ _]) _ _ _); k_dflt first
  | (refine' Mine.f16v _ _ _ _ _ _ _ _ _ _ _ _ _ _ _ _ _ _ _ _ _ _ ?B ?F ?X ?N ?T ?hk ?hd ?hu ?hx ?_; (case hx => omega); (case B => k_asm); (case F => k_asm); (case X => k_asm); (case N => k_asm); (case T => k_asm); (case hk => first | exact rfl | assumption); (case hd => ktr_room); (case hu => ktr_units); k_whole; intro b' t' h' tk' hb' F' N'; (try k_fold))
  | (refine' Mine.f16e _ _ _ _ _ _ _ _ _ _ _ _ _ _ _ _ _ _ _ _ _ _ ?B ?F ?X ?N ?T ?hk ?hd ?hu ?hx ?_; (case hx => omega); (case B => k_asm); (case F => k_asm); (case X => k_asm); (case N => k_asm); (case T => k_asm); (case hk => first | exact rfl | assumption); (case hd => ktr_room); (case hu => ktr_units); k_whole; intro h' tk' F' N'; (try k_fold))
  | (refine' Mine.f4v _ _ _ _ _ _ _ _ _ _ _ _ _ _ _ _ _ _ _ _ _ _ ?B ?F ?X ?N ?T ?hk ?hd ?hu ?hx ?_; (case hx => omega); (case B => k_asm); (case F => k_asm); (case X => k_asm); (case N => k_asm); (case T => k_asm); (case hk => first | exact rfl | assumption); (case hd => ktr_room); (case hu => ktr_units); k_whole; intro b' t' h' tk' hb' F' N'; (try k_fold))
  | (refine' Mine.f4e _ _ _ _ _ _ _ _ _ _ _ _ _ _ _ _ _ _ _ _ _ _ ?B ?F ?X ?N ?T ?hk ?hd ?hu ?hx ?_; (case hx => omega); (case B => k_asm); (case F => k_asm); (case X => k_asm); (case N => k_asm); (case T => k_asm); (case hk => first | exact rfl | assumption); (case hd => ktr_room); (case hu => ktr_units); k_whole; intro h' tk' F' N'; (try k_fold))))
local macro_rules | `(tactic| walk_at "call builtin:int.to_bytes") => `(tactic| (k_here; first
  | (refine Mine.tb16 rfl (fun x0 x1 b' t' k' hb' => ?_) (fun x0 h' k' e' tX' => ?_))
  | (refine Mine.tb4v rfl (by omega) (fun b' t' k' hb' => ?_))
  | (refine Mine.tb4e rfl (by omega) (fun h' k' e' tX' => ?_))
  | (refine Mine.tb4 rfl (fun x0 x1 b' t' k' hb' => ?_) (fun x0 h' k' e' tX' => ?_))))
local macro_rules | `(tactic| walk_at "noteFrame ref") => `(tactic| (k_here; (with_reducible rename Heap.NewExc _ _ _ _ => tX'); (refine' Mine.catch_raise (X := "OverflowError") (T' := "OverflowError") (Y := "ValueError") ?K ?F ?N tX' ?XB ?TB ?D ?T0 ?ex PyProof.Rows.Boot.«OverflowError» ?hn ?ey PyProof.Rows.Boot.«ValueError» ?hny PySem.F.isExc_OverflowError PySem.F.notTuple_OverflowError ?hs PySem.F.excCall_ValueError PySem.F.excRaise_ValueError ?hE ?_; (case K => assumption); (case F => assumption); (case N => assumption); (case XB => assumption); (case TB => assumption); (case D => assumption); (case T0 => first | assumption | exact KtsTurn.refl); (case ex => k_is); (case hn => decide); (case ey => k_is); (case hny => decide); (case hs => kts_sub); (case hE => passes_own); k_whole); clear tX'; intro h₁' h' g' e' tk' T' F' N' K' X' P' D' fX'; (obtain ⟨gc', Tc', FG', Kc', Dc'⟩ := Mine.turn_caller (by assumption) (by assumption) (by assumption) T'); (try k_lift K'); (try k_sweep)))
local macro_rules | `(tactic| walk_at "leaving ref") => `(tactic| (k_here; (with_reducible rename Mine.Fresh _ _ _ _ => fX'); (refine' Mine.leave_fresh ?K fX' ?F ?N ?_; (case K => assumption); (case F => assumption); (case N => k_asm); k_whole); clear fX'; intro h' S' R' U'; (try dsimp only at S' R' U' ⊢)))
local macro_rules | `(tactic| walk_at "subscriptTail") => `(tactic| (k_here; (with_reducible show wpAny _ _ (subscriptTail _ (Expr.Slice _ _ none _) (Value.bytes _ _) (Value.ref _)) _ _ _); (with_reducible rename Fr _ _ _ _ => F'); (with_reducible rename News _ _ _ _ => N'); k_dflt (first | refine Mine.sliceLo (s := ⟨_, _, _, _, _⟩) F' N' (by assumption) ?_ | refine Mine.sliceHi (s := ⟨_, _, _, _, _⟩) F' N' (by assumption) ?_); intro c' h' t' k' hc' F' N'))
local macro_rules | `(tactic| walk_at "call type:bytes") => `(tactic| (k_here; (with_reducible show wpAny _ _ (call (Value.type "bytes") [Value.int _ _]) _ _ _); k_dflt (refine Mine.bytes_12 ?_); intro c' t' k' hc'))
local macro_rules | `(tactic| walk_at "compareOp Eq bytes bytes") => `(tactic| (k_here; k_dflt (first
  | refine Mine.eqT (by assumption) (by assumption) (by omega) ?_
  | refine Mine.eqF (by assumption) (by assumption) (by omega) ?_)))
local macro_rules | `(tactic| walk_at "call builtin:sorted") => `(tactic| (k_here; (with_reducible show wpAny _ _ (call (Value.builtin _) [Value.ref _]) _ _ _); (with_reducible rename DatAll _ _ _ => dX'); (k_dflt (refine' Mine.sorted_P ?k1 ?k2 ?k3 dX' ?k4 ?k5 ?k6 ?_; (case k1 => k_asm); (case k2 => k_asm); (case k3 => k_mem); (case k4 => first | assumption | exact And.left (by assumption) | exact rfl); (case k5 => assumption); (case k6 => ((simp only [List.length_append, List.length_cons, List.length_nil] at *; omega))); k_whole)); intro D' c' h' F' N' l1; (try k_lt l1); (try k_sweep)))
local macro_rules | `(tactic| walk_at "compareOp Eq ref ref") => `(tactic| (k_here; (with_reducible show wpAny _ _ (compareOp CmpOp.Eq (Value.ref _) (Value.ref _)) _ _ _); k_dflt (refine' Mine.eq_P ?k1 ?k2 ?k3 ?k4 ?_; (case k1 => k_asm); (case k2 => k_mem); (case k3 => k_mem); (case k4 => first | units_room | exact Nat.le_of_ble_eq_true rfl); k_whole)))
set_option maxRecDepth 100000 in
set_option maxHeartbeats 8000000 in
theorem PySem.Challenge.cw_ko0048_01_holds : PySem.Challenge.rw_ko0048_01.Holds := by
  k_with "pyIter ref" => k_of "n" => k_state (fun pre row => row.length = 15 * pre.length) "row"
  k_with "pyIter ref" => k_of "near" => ((have hI5 := Mine.five (by assumption)); k_state_given ["row!"] (fun row₀ pre row => row.length = row₀.length + 3 * pre.length) "row")
  k_with "pyIter ref" => k_of "number" => k_dat (fun (pre : List Int) (out : List Dat) => out = (Mine.packs pre).map Dat.bytes ∧ out.length ≤ pre.length) "packed*"
  k_with "state" => first | exact Mine.word_nil | exact Mine.word_in (by assumption) (by assumption) (by assumption) | exact Mine.word_out (by assumption)
  refine Mine.hd ?_
  w_strict (k_go0; (all_goals try k_fold); k_steps)

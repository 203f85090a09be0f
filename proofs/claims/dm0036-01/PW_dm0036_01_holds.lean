import PyProof.Rows.All
import Wide.All
import OpenK.AllK
import Wide.FinOn
import PySem.Challenge.RW_dm0036_01
open PySem PySem.W PyProof.Rows PyProof.V
set_option Elab.async false
set_option maxRecDepth 100000

-- the sort keeps the order of equal keys
namespace Mine
-- the entries of one key, in their order
def ofKey (c : Int) (l : List Keyed) : List Keyed := l.filter fun p => decide (numOf p.1 = c)
def SameOrder (l r : List Keyed) : Prop := ∀ c, ofKey c l = ofKey c r
theorem ofKey_append (c : Int) (l r : List Keyed) : ofKey c (l ++ r) = ofKey c l ++ ofKey c r := List.filter_append l r
theorem ofKey_none {c : Int} {l : List Keyed} (h : ∀ p ∈ l, numOf p.1 ≠ c) : ofKey c l = [] := List.filter_eq_nil_iff.mpr fun p hp => by simpa using h p hp
theorem swap_apart {l r : List Keyed} (h : ∀ p ∈ l, ∀ q ∈ r, numOf p.1 ≠ numOf q.1) (c : Int) : ofKey c l ++ ofKey c r = ofKey c r ++ ofKey c l := by
  by_cases hl : ∃ p ∈ l, numOf p.1 = c
  · obtain ⟨p, hp, e⟩ := hl
    rw [ofKey_none (l := r) fun q hq x => h p hp q hq (e.trans x.symm)]; simp
  · rw [ofKey_none (l := l) fun p hp x => hl ⟨p, hp, x⟩]; simp
theorem seg_at {xs : Array Keyed} {i j : Nat} {p : Keyed} (h : p ∈ (xs.toList.take j).drop i) : ∃ k, i ≤ k ∧ k < j ∧ xs[k]? = some p := by
  obtain ⟨k, hk⟩ := List.mem_iff_getElem?.mp h
  rw [List.getElem?_drop, List.getElem?_take] at hk
  split at hk
  · exact ⟨i + k, by omega, by omega, by simpa using hk⟩
  · cases hk
theorem K_some {xs : Array Keyed} {i : Nat} {p : Keyed} (h : xs[i]? = some p) : K xs i = numOf p.1 := by unfold K; rw [h]
theorem bubble_list {xs : Array Keyed} {k l : Nat} {x : Keyed} (hk : k < xs.size) (hl : l ≤ k) (hx : xs[k]? = some x) :
    (bubble xs k (k - l)).toList = xs.toList.take l ++ ([x] ++ ((xs.toList.take k).drop l ++ xs.toList.drop (k + 1))) := by
  apply List.ext_getElem?
  intro i
  have e := getElem?_bubble hk (k - l) (by omega) i
  rw [Array.getElem?_toList, e]
  have s1 : (xs.toList.take l).length = l := by rw [List.length_take, Array.length_toList]; omega
  have s2 : ((xs.toList.take k).drop l).length = k - l := by rw [List.length_drop, List.length_take, Array.length_toList]; omega
  rw [show k - (k - l) = l by omega]
  by_cases h1 : i < l
  · rw [if_neg (by omega), if_neg (by omega), List.getElem?_append_left (by omega), List.getElem?_take, if_pos h1]; simp
  · rw [List.getElem?_append_right (by omega), s1]
    by_cases h2 : i = l
    · rw [if_pos h2, hx, h2]; simp
    · rw [if_neg h2, List.getElem?_append_right (by simp; omega)]
      simp only [List.length_cons, List.length_nil, Nat.zero_add]
      by_cases h3 : i ≤ k
      · rw [if_pos (by omega), List.getElem?_append_left (by omega), List.getElem?_drop, List.getElem?_take, if_pos (by omega), show l + (i - l - 1) = i - 1 by omega]; simp
      · rw [if_neg (by omega), List.getElem?_append_right (by omega), s2, List.getElem?_drop, show k + 1 + (i - l - 1 - (k - l)) = i by omega]; simp
theorem mirror_list {xs : Array Keyed} {i j : Nat} (hi : i ≤ j) (hj : j ≤ xs.size) :
    (mirror xs i j ((j - i) / 2)).toList = xs.toList.take i ++ (((xs.toList.take j).drop i).reverse ++ xs.toList.drop j) := by
  apply List.ext_getElem?
  intro k
  have e := getElem?_mirror_all (i := i) hj k
  rw [Array.getElem?_toList, e]
  have s1 : (xs.toList.take i).length = i := by rw [List.length_take, Array.length_toList]; omega
  have s2 : ((xs.toList.take j).drop i).length = j - i := by rw [List.length_drop, List.length_take, Array.length_toList]; omega
  by_cases h1 : k < i
  · rw [if_neg (by omega), List.getElem?_append_left (by omega), List.getElem?_take, if_pos h1]; simp
  · rw [List.getElem?_append_right (by omega), s1]
    by_cases h2 : k < j
    · rw [if_pos (by omega), List.getElem?_append_left (by rw [List.length_reverse]; omega), List.getElem?_reverse (by omega), s2, List.getElem?_drop, List.getElem?_take, if_pos (by omega), show i + (j - i - 1 - (k - i)) = i + j - 1 - k by omega]; simp
    · rw [if_neg (by omega), List.getElem?_append_right (by rw [List.length_reverse]; omega), List.length_reverse, s2, List.getElem?_drop, show j + (k - i - (j - i)) = k by omega]; simp
theorem cut3 {α : Type} {l : List α} {i j : Nat} (h : i ≤ j) : l = l.take i ++ ((l.take j).drop i ++ l.drop j) := by
  have e1 : (l.take j).take i ++ (l.take j).drop i = l.take j := List.take_append_drop i _
  rw [List.take_take, Nat.min_eq_left h] at e1
  rw [← List.append_assoc, e1, List.take_append_drop]
theorem cut2 {α : Type} {l : List α} {i j : Nat} (h : i ≤ j) : l.drop i = (l.take j).drop i ++ l.drop j := by
  have e := cut3 (l := l) h
  have q : l.take i ++ l.drop i = l.take i ++ ((l.take j).drop i ++ l.drop j) := by rw [List.take_append_drop]; exact e
  exact List.append_cancel_left q
theorem takeTo {α : Type} {l : List α} {i j : Nat} (h : i ≤ j) : l.take j = l.take i ++ (l.take j).drop i := by
  have e1 : (l.take j).take i ++ (l.take j).drop i = l.take j := List.take_append_drop i _
  rw [List.take_take, Nat.min_eq_left h] at e1
  exact e1.symm
-- the head turned about
def Turned (xs : Array Keyed) (p : Nat) (a : Array Keyed) : Prop := SameOrder ((xs.toList.take p).reverse ++ xs.toList.drop p) a.toList
theorem Turned.grow {xs a : Array Keyed} {p n : Nat} (h : Turned xs p a) (hp : p ≤ n) (hn : n ≤ xs.size) (hk : ∀ i j, i < p → p ≤ j → j < n → K xs i ≠ K xs j) :
    Turned (mirror xs p n ((n - p) / 2)) n a := by
  intro c
  have h' := h c
  have e := mirror_list hp hn
  have s1 : (xs.toList.take p).length = p := by rw [List.length_take, Array.length_toList]; omega
  have s2 : (((xs.toList.take n).drop p).reverse).length = n - p := by rw [List.length_reverse, List.length_drop, List.length_take, Array.length_toList]; omega
  rw [e, ← h']
  have e1 : (xs.toList.take p ++ (((xs.toList.take n).drop p).reverse ++ xs.toList.drop n)).take n = xs.toList.take p ++ ((xs.toList.take n).drop p).reverse := by
    rw [← List.append_assoc, List.take_append_of_le_length (by rw [List.length_append, s1, s2]; omega), List.take_of_length_le (by rw [List.length_append, s1, s2]; omega)]
  have e2 : (xs.toList.take p ++ (((xs.toList.take n).drop p).reverse ++ xs.toList.drop n)).drop n = xs.toList.drop n := by
    rw [← List.append_assoc, List.drop_append_of_le_length (by rw [List.length_append, s1, s2]; omega), List.drop_of_length_le (by rw [List.length_append, s1, s2]; omega), List.nil_append]
  rw [e1, e2, cut2 (l := xs.toList) hp, List.reverse_append, List.reverse_reverse, List.append_assoc]
  simp only [ofKey_append]
  rw [← List.append_assoc, ← List.append_assoc]
  refine congrArg (· ++ ofKey c (xs.toList.drop n)) ?_
  refine swap_apart ?_ c
  intro x hx y hy
  obtain ⟨j, j1, j2, j3⟩ := seg_at hx
  have hy' : y ∈ (xs.toList.take p).drop 0 := by rw [List.drop_zero]; exact List.mem_reverse.mp hy
  obtain ⟨i, _, i2, i3⟩ := seg_at hy'
  rw [← K_some j3, ← K_some i3]
  exact fun q => hk i j i2 j1 j2 q.symm
theorem Turned.back {xs a : Array Keyed} {n : Nat} (h : Turned xs n a) (hn : n ≤ xs.size) : SameOrder (mirror xs 0 n ((n - 0) / 2)).toList a.toList := by
  intro c
  rw [mirror_list (Nat.zero_le n) hn, ← h c]
  simp

section
variable {prog : Program} {w : World} {A : Around} {E : Value → Shared → Prop} {s : Shared} {a₀ : Array Keyed}
theorem st_binary {st : SortSt} {n ok : Nat} {Q : Bool → SortSt → Prop} (h0 : IntKeys a₀) (hn : n ≤ a₀.size) (hok : ok ≤ n) (hB : SBase a₀ st) (hs : SortedTo (arrOf st) ok) (ho : SameOrder (arrOf st).toList a₀.toList)
    (h : ∀ st', SBase a₀ st' → SortedTo (arrOf st') n → SameOrder (arrOf st').toList a₀.toList → Q true st') : wpS (model prog w) A E s (binarySort' 0 n ok) Q st := by
  rw [binarySort'_eq]
  simp only [Nat.zero_add]
  refine wpS_bind (wpS_mono (wpS_forRange (I := fun k c st' => c = (none, ()) ∧ SBase a₀ st' ∧ SortedTo (arrOf st') (min k n) ∧ SameOrder (arrOf st').toList a₀.toList)
    (Q := fun c st' => c = (none, ()) ∧ SBase a₀ st' ∧ SortedTo (arrOf st') n ∧ SameOrder (arrOf st').toList a₀.toList) ?step ?fin ?init) ?post)
  case post =>
    rintro c st' ⟨rfl, hB', hs', ho'⟩
    exact wpS_pure (h st' hB' hs' ho')
  case init =>
    refine ⟨rfl, hB, fun i j hij hj => ?_, ho⟩
    by_cases h1 : ok = 0
    · have : i = j := by omega
      subst this; exact Int.le_refl _
    · exact hs i j hij (by omega)
  case fin =>
    rintro c st' ⟨hc, hB', hs', ho'⟩
    refine ⟨hc, hB', ?_, ho'⟩
    rwa [show min (max (max ok 1) n) n = n by omega] at hs'
  case step =>
    rintro k c st' hak hkn ⟨rfl, hB', hs', ho'⟩
    rw [show min k n = k by omega] at hs'
    have hk : k < a₀.size := by omega
    refine wpS_bind (wpS_mono (wpS_forRange (I := fun x c st'' => st'' = st' ∧ ∃ l r, c = (none, l, r) ∧ l ≤ r ∧ r ≤ k ∧ r - l ≤ k - x ∧
        (∀ i, i < l → K (arrOf st') i ≤ K (arrOf st') k) ∧ (∀ i, r ≤ i → i < k → K (arrOf st') k < K (arrOf st') i))
      (Q := fun c st'' => st'' = st' ∧ ∃ l r, c = (none, l, r) ∧ l ≤ k ∧
        (∀ i, i < l → K (arrOf st') i ≤ K (arrOf st') k) ∧ (∀ i, l ≤ i → i < k → K (arrOf st') k < K (arrOf st') i)) ?istep ?ifin ?iinit) ?ipost)
    case iinit => exact ⟨rfl, 0, k, rfl, by omega, by omega, by omega, fun i hi => by omega, fun i h1 h2 => by omega⟩
    case ifin =>
      rintro c st'' ⟨rfl, l, r, rfl, hlr, hrk, hm, hlo, hhi⟩
      have : l = r := by omega
      subst this
      exact ⟨rfl, l, l, rfl, hrk, hlo, hhi⟩
    case istep =>
      rintro x c st'' _ hxk ⟨rfl, l, r, rfl, hlr, hrk, hm, hlo, hhi⟩
      dsimp only
      by_cases hge : l ≥ r
      · rw [if_pos hge]
        have : l = r := by omega
        subst this
        exact wpS_pure ⟨rfl, l, l, rfl, hrk, hlo, hhi⟩
      · rw [if_neg hge]
        refine wpS_bind (wpS_ltK hB' h0 hk (by omega) ?_)
        by_cases hless : K (arrOf st'') k < K (arrOf st'') ((l + r) / 2)
        · simp only [hless, decide_true, if_true]
          refine wpS_pure ⟨rfl, l, (l + r) / 2, rfl, by omega, by omega, by omega, hlo, fun i h1 h2 => ?_⟩
          exact Int.lt_of_lt_of_le hless (hs' _ _ h1 h2)
        · simp only [hless, decide_false, Bool.false_eq_true, if_false]
          refine wpS_pure ⟨rfl, (l + r) / 2 + 1, r, rfl, by omega, by omega, by omega, fun i h1 => ?_, hhi⟩
          exact Int.le_trans (hs' i ((l + r) / 2) (by omega) (by omega)) (Int.not_lt.mp hless)
    case ipost =>
      rintro c st'' ⟨rfl, l, r, rfl, hlk, hlo, hhi⟩
      show wpS _ _ _ _ (do moveDown' k l; pure (ForInStep.yield (none, ()))) _ _
      rw [moveDown'_eq]
      have hks : k < (arrOf st'').size := by rw [hB'.size]; exact hk
      refine wpS_bind (wpS_modify (wpS_pure ⟨rfl, hB'.setArr (bubble_perm _ _ _), ?_, ?_⟩))
      · rw [show min (k + 1) n = k + 1 by omega]
        intro i j hij hj
        show K (bubble (arrOf st'') k (k - l)) i ≤ K (bubble (arrOf st'') k (k - l)) j
        rw [K_bubble hks (by omega), K_bubble hks (by omega), show k - (k - l) = l by omega]
        repeat' split
        all_goals first
          | (exfalso; omega)
          | exact Int.le_refl _
          | exact hlo _ (by omega)
          | exact Int.le_of_lt (hhi _ (by omega) (by omega))
          | exact hs' _ _ (by omega) (by omega)
      · intro c
        show ofKey c (bubble (arrOf st'') k (k - l)).toList = _
        have hx : (arrOf st'')[k]? = some (arrOf st'')[k] := getElem?_pos _ k hks
        rw [bubble_list hks hlk hx, ← ho' c]
        have e : (arrOf st'').toList = (arrOf st'').toList.take l ++ (((arrOf st'').toList.take k).drop l ++ ([(arrOf st'')[k]] ++ (arrOf st'').toList.drop (k + 1))) := by
          have e1 := cut3 (l := (arrOf st'').toList) hlk
          have e2 : (arrOf st'').toList.drop k = [(arrOf st'')[k]] ++ (arrOf st'').toList.drop (k + 1) := by
            rw [List.drop_eq_getElem_cons (by simpa using hks)]; simp
          rw [← e2]; exact e1
        conv => rhs; rw [e]
        simp only [ofKey_append]
        rw [← List.append_assoc (ofKey c [(arrOf st'')[k]]), ← List.append_assoc (ofKey c (List.drop l _))]
        refine congrArg (fun y => ofKey c ((arrOf st'').toList.take l) ++ (y ++ ofKey c ((arrOf st'').toList.drop (k + 1)))) ?_
        refine swap_apart ?_ c
        intro x hx' y hy
        obtain ⟨j, j1, j2, j3⟩ := seg_at hy
        rw [List.mem_singleton.mp hx', ← K_some j3, ← K_some hx]
        have := hhi j j1 j2
        omega
theorem st_tail3 {st : SortSt} {n nrem : Nat} {Q : Option Nat → SortSt → Prop} (h0 : IntKeys a₀) (hn : nrem ≤ a₀.size) (h1 : 1 ≤ n) (hnn : n ≤ nrem) (hB : SBase a₀ st)
    (hs : NonInc (arrOf st) n) (hT : Turned (arrOf st) n a₀) (h : ∀ m st', SBase a₀ st' → 1 ≤ m → m ≤ nrem → SortedTo (arrOf st') m → SameOrder (arrOf st').toList a₀.toList → Q (some m) st') :
    wpS (model prog w) A E s (tail3 n nrem) Q st := by
  unfold tail3
  have hsz : n ≤ (arrOf st).size := by rw [hB.size]; omega
  refine wpS_bind (wpS_reverse ?_)
  have hB' : SBase a₀ (setArr st (mirror (arrOf st) 0 n ((n - 0) / 2))) := hB.setArr (mirror_perm _ _ _ _)
  refine wpS_bind (wpS_ascLoop h0 hn h1 hnn hB' ?_ fun m hm1 hm2 hsm _ => wpS_pure (h m _ hB' (by omega) hm2 hsm (hT.back hsz)))
  intro i j hij hj
  show K (mirror (arrOf st) 0 n ((n - 0) / 2)) i ≤ K (mirror (arrOf st) 0 n ((n - 0) / 2)) j
  rw [K_mirror hsz, K_mirror hsz, if_pos (by omega), if_pos (by omega)]
  exact hs _ _ (by omega) (by omega)
theorem Turned.step {xs : Array Keyed} {p n : Nat} (h : Turned xs p a₀) (hp : n = p + 1) (hn : n ≤ xs.size) (hk : ∀ i, i < p → K xs i ≠ K xs p) : Turned xs n a₀ := by
  have q := Turned.grow h (n := n) (by omega) hn (fun i j h1 h2 h3 => by rw [show j = p by omega]; exact hk i h1)
  have e : mirror xs p n ((n - p) / 2) = xs := by rw [show (n - p) / 2 = 0 by omega]; rfl
  rwa [e] at q
theorem st_descLoop {st : SortSt} {n nrem : Nat} {Q : DescSt → SortSt → Prop} (h0 : IntKeys a₀) (hn : nrem ≤ a₀.size) (h1 : 1 ≤ n) (hnn : n ≤ nrem) (hB : SBase a₀ st)
    (hs : NonInc (arrOf st) n) (hT : Turned (arrOf st) (n - 1) a₀) (hG : ∀ i, i < n - 1 → K (arrOf st) (n - 1) < K (arrOf st) i)
    (h : ∀ m neq st', SBase a₀ st' → n ≤ m → m ≤ nrem → NonInc (arrOf st') m → neq + 1 ≤ m → (∀ i, m - (neq + 1) ≤ i → i < m → K (arrOf st') i = K (arrOf st') (m - 1)) →
      Turned (arrOf st') (m - (neq + 1)) a₀ → (∀ i, i < m - (neq + 1) → K (arrOf st') (m - 1) < K (arrOf st') i) → Q (none, m, neq) st') :
    wpS (model prog w) A E s (descLoop n nrem) Q st := by
  unfold descLoop
  refine wpS_forRange (I := fun x c st' => ∃ neq, c = (none, x, neq) ∧ SBase a₀ st' ∧ NonInc (arrOf st') x ∧ neq + 1 ≤ x ∧
      (∀ i, x - (neq + 1) ≤ i → i < x → K (arrOf st') i = K (arrOf st') (x - 1)) ∧ Turned (arrOf st') (x - (neq + 1)) a₀ ∧ (∀ i, i < x - (neq + 1) → K (arrOf st') (x - 1) < K (arrOf st') i)) ?step ?fin
      ⟨0, rfl, hB, hs, by omega, fun i h1 h2 => by congr 1; omega, hT, hG⟩
  case fin =>
    rintro c st' ⟨neq, rfl, hB', hs', hq, he, hT', hG'⟩
    rw [show max n nrem = nrem by omega] at hs' hq he hT' hG' ⊢
    exact h nrem neq st' hB' hnn (Nat.le_refl _) hs' hq he hT' hG'
  case step =>
    rintro x c st' hax hxn ⟨neq, rfl, hB', hs', hq, he, hT', hG'⟩
    dsimp only
    have hsz : x ≤ (arrOf st').size := by rw [hB'.size]; omega
    refine wpS_bind (wpS_ltK hB' h0 (by omega) (by omega) ?_)
    have apart : ∀ i j, i < x - (neq + 1) → x - (neq + 1) ≤ j → j < x → K (arrOf st') i ≠ K (arrOf st') j := by
      intro i j h1 h2 h3
      have a1 := hG' i h1
      have a2 := he j h2 h3
      omega
    by_cases hless : K (arrOf st') x < K (arrOf st') (x - 1)
    · simp only [hless, decide_true, if_true]
      have step1 : ∀ xs : Array Keyed, (∀ k, K xs k = K (arrOf st') k) → NonInc xs (x + 1) := by
        intro xs hk i j hij hj
        rw [hk, hk]
        by_cases hjx : j < x
        · exact hs' i j hij hjx
        · have hj' : j = x := by omega
          subst hj'
          by_cases hi' : i = j
          · subst hi'; exact Int.le_refl _
          · exact Int.le_trans (Int.le_of_lt hless) (hs' i (j - 1) (by omega) (by omega))
      have step2 : ∀ xs : Array Keyed, (∀ k, K xs k = K (arrOf st') k) → ∀ i, i < x + 1 - (0 + 1) → K xs (x + 1 - 1) < K xs i := by
        intro xs hk i hi
        rw [hk, hk, show x + 1 - 1 = x by omega]
        exact Int.lt_of_lt_of_le hless (hs' i (x - 1) (by omega) (by omega))
      by_cases hneq : neq > 0
      · rw [if_pos hneq]
        refine wpS_bind (wpS_reverse (wpS_pure ⟨0, rfl, hB'.setArr (mirror_perm _ _ _ _), step1 _ (K_mirror_equal hsz he), by omega, fun i h1 h2 => by congr 1; omega, ?_, step2 _ (K_mirror_equal hsz he)⟩))
        rw [show x + 1 - (0 + 1) = x by omega]
        exact hT'.grow (by omega) hsz apart
      · rw [if_neg hneq]
        refine wpS_pure ⟨0, rfl, hB', step1 _ (fun _ => rfl), by omega, fun i h1 h2 => by congr 1; omega, ?_, step2 _ (fun _ => rfl)⟩
        have hz : neq = 0 := by omega
        subst hz
        rw [show x + 1 - (0 + 1) = x by omega]
        exact hT'.step (by omega) hsz fun i hi => apart i _ hi (by omega) (by omega)
    · simp only [hless, decide_false, Bool.false_eq_true, if_false]
      refine wpS_bind (wpS_ltK hB' h0 (by omega) (by omega) ?_)
      by_cases hlarger : K (arrOf st') (x - 1) < K (arrOf st') x
      · simp only [hlarger, decide_true, if_true]
        exact wpS_pure (h x neq st' hB' hax (by omega) hs' hq he hT' hG')
      · simp only [hlarger, decide_false, Bool.false_eq_true, if_false]
        have heqx : K (arrOf st') x = K (arrOf st') (x - 1) := by omega
        refine wpS_pure ⟨neq + 1, rfl, hB', fun i j hij hj => ?_, by omega, fun i h1 h2 => ?_, ?_, fun i hi => ?_⟩
        · by_cases hjx : j < x
          · exact hs' i j hij hjx
          · have hj' : j = x := by omega
            subst hj'
            by_cases hi' : i = j
            · subst hi'; exact Int.le_refl _
            · rw [heqx]; exact hs' i (j - 1) (by omega) (by omega)
        · rw [show x + 1 - 1 = x by omega]
          by_cases hix : i = x
          · subst hix; rfl
          · rw [heqx]; exact he i (by omega) (by omega)
        · rw [show x + 1 - (neq + 1 + 1) = x - (neq + 1) by omega]; exact hT'
        · rw [show x + 1 - 1 = x by omega, heqx]; exact hG' i (by omega)
theorem st_descPart {st : SortSt} {n nrem : Nat} {Q : Option Nat → SortSt → Prop} (h0 : IntKeys a₀) (hn : nrem ≤ a₀.size) (hnn : n + 1 ≤ nrem) (hB : SBase a₀ st)
    (hs : NonInc (arrOf st) (n + 1)) (hT : Turned (arrOf st) n a₀) (hG : ∀ i, i < n → K (arrOf st) n < K (arrOf st) i)
    (h : ∀ m st', SBase a₀ st' → 1 ≤ m → m ≤ nrem → SortedTo (arrOf st') m → SameOrder (arrOf st').toList a₀.toList → Q (some m) st') :
    wpS (model prog w) A E s (descPart n nrem) Q st := by
  unfold descPart
  refine wpS_bind (wpS_lift (wpAny_rule ⟨rfl, ?_⟩))
  refine wpS_bind (st_descLoop h0 hn (by omega) hnn hB hs (by rw [Nat.add_sub_cancel]; exact hT) (by rw [Nat.add_sub_cancel]; exact hG) fun m neq st' hB' hm1 hm2 hs' hq he hT' hG' => ?_)
  dsimp only
  have hsz : m ≤ (arrOf st').size := by rw [hB'.size]; omega
  have apart : ∀ i j, i < m - (neq + 1) → m - (neq + 1) ≤ j → j < m → K (arrOf st') i ≠ K (arrOf st') j := by
    intro i j h1 h2 h3
    have a1 := hG' i h1
    have a2 := he j h2 h3
    omega
  by_cases hneq : neq > 0
  · rw [if_pos hneq]
    refine wpS_bind (wpS_reverse (st_tail3 h0 hn (by omega) hm2 (hB'.setArr (mirror_perm _ _ _ _)) ?_ (hT'.grow (by omega) hsz apart) h))
    intro i j hij hj
    show K (mirror (arrOf st') _ _ _) j ≤ K (mirror (arrOf st') _ _ _) i
    rw [K_mirror_equal hsz he, K_mirror_equal hsz he]
    exact hs' i j hij hj
  · rw [if_neg hneq]
    have hz : neq = 0 := by omega
    subst hz
    exact st_tail3 h0 hn (by omega) hm2 hB' hs' (hT'.step (by omega) hsz fun i hi => apart i _ hi (by omega) (by omega)) h
theorem st_countRun {st : SortSt} {nrem : Nat} {Q : Option Nat → SortSt → Prop} (h0 : IntKeys a₀) (hn : nrem ≤ a₀.size) (h1 : 1 ≤ nrem) (hB : SBase a₀ st) (ho : SameOrder (arrOf st).toList a₀.toList)
    (h : ∀ m st', SBase a₀ st' → 1 ≤ m → m ≤ nrem → SortedTo (arrOf st') m → SameOrder (arrOf st').toList a₀.toList → Q (some m) st') :
    wpS (model prog w) A E s (countRun' 0 nrem) Q st := by
  rw [countRun0_eq]
  have hT0 : Turned (arrOf st) 0 a₀ := fun c => by simpa using ho c
  refine wpS_bind (wpS_ascLoop h0 hn (Nat.le_refl 1) h1 hB (fun i j hij hj => by
    have : i = j := by omega
    subst this; exact Int.le_refl _) fun n hn1 hn2 hsn hor => ?_)
  dsimp only
  by_cases hnn : n = nrem
  · rw [if_pos (by simpa using hnn)]
    exact wpS_pure (h n st hB hn1 hn2 hsn ho)
  · rw [if_neg (by simpa using hnn)]
    have hlt : K (arrOf st) n < K (arrOf st) (n - 1) := hor.resolve_left hnn
    by_cases hgt : n > 1
    · rw [if_pos hgt]
      refine wpS_bind (wpS_ltK hB h0 (by omega) (by omega) ?_)
      by_cases hrose : K (arrOf st) 0 < K (arrOf st) (n - 1)
      · simp only [hrose, decide_true, if_true]
        exact wpS_pure (h n st hB hn1 hn2 hsn ho)
      · simp only [hrose, decide_false, Bool.false_eq_true, if_false]
        have hsz : n ≤ (arrOf st).size := by rw [hB.size]; omega
        have hall : ∀ k, 0 ≤ k → k < n → K (arrOf st) k = K (arrOf st) (n - 1) := by
          intro k _ hk
          have a1 := hsn 0 k (by omega) hk
          have a2 := hsn k (n - 1) (by omega) (by omega)
          omega
        refine wpS_bind (wpS_reverse (st_descPart h0 hn (by omega) (hB.setArr (mirror_perm _ _ _ _)) ?_ (hT0.grow (Nat.zero_le n) hsz fun i j h1 => absurd h1 (Nat.not_lt_zero i)) ?_ h))
        · intro i j hij hj
          show K (mirror (arrOf st) _ _ _) j ≤ K (mirror (arrOf st) _ _ _) i
          rw [K_mirror_equal hsz hall, K_mirror_equal hsz hall]
          by_cases hjn : j < n
          · rw [hall i (by omega) (by omega), hall j (by omega) hjn]; exact Int.le_refl _
          · have hj' : j = n := by omega
            subst hj'
            by_cases hi' : i = j
            · subst hi'; exact Int.le_refl _
            · rw [hall i (by omega) (by omega)]; exact Int.le_of_lt hlt
        · intro i hi
          show K (mirror (arrOf st) _ _ _) n < K (mirror (arrOf st) _ _ _) i
          rw [K_mirror_equal hsz hall, K_mirror_equal hsz hall, hall i (by omega) hi]
          exact hlt
    · rw [if_neg hgt]
      have hn1' : n = 1 := by omega
      subst hn1'
      refine st_descPart h0 hn (by omega) hB ?_ (hT0.step (by omega) (by rw [hB.size]; omega) fun i hi => absurd hi (Nat.not_lt_zero i)) ?_ h
      · intro i j hij hj
        by_cases hi' : i = j
        · subst hi'; exact Int.le_refl _
        · have hi0 : i = 0 := by omega
          have hj1 : j = 1 := by omega
          subst hi0; subst hj1
          exact Int.le_of_lt hlt
      · intro i hi
        rw [show i = 0 by omega]
        exact hlt
theorem st_sortRuns {st : SortSt} {Q : Unit → SortSt → Prop} (h0 : IntKeys a₀) (hB : SBase a₀ st) (ho : SameOrder (arrOf st).toList a₀.toList) (h2 : 2 ≤ a₀.size) (h64 : a₀.size < 64)
    (h : ∀ st', (arrOf st').Perm a₀ → failedOf st' = none → SortedTo (arrOf st') a₀.size → SameOrder (arrOf st').toList a₀.toList → Q () st') : wpS (model prog w) A E s sortRuns' Q st := by
  rw [sortRuns'_eq]
  refine wpS_bind (wpS_get ?_)
  dsimp only
  have hmr : minRun' a₀.size a₀.size 0 = a₀.size := by
    obtain ⟨f, hf⟩ : ∃ f, a₀.size = f + 1 := ⟨a₀.size - 1, by omega⟩
    have : minRun' (f + 1) a₀.size 0 = a₀.size := by rw [minRun'_succ, if_pos h64]; rfl
    rwa [← hf] at this
  simp only [hB.size, hmr]
  refine wpS_bind (wpS_mono (wpS_forRange
    (I := fun x c st' => (x = 0 ∧ c = (none, 0) ∧ SBase a₀ st' ∧ SameOrder (arrOf st').toList a₀.toList) ∨ (1 ≤ x ∧ c = (none, a₀.size) ∧ SDone a₀ st' ∧ SameOrder (arrOf st').toList a₀.toList))
    (Q := fun c st' => c = (none, a₀.size) ∧ SDone a₀ st' ∧ SameOrder (arrOf st').toList a₀.toList) ?step ?fin (.inl ⟨rfl, rfl, hB, ho⟩)) ?post)
  case fin =>
    rintro c st' (⟨hx, _, _⟩ | ⟨_, hc, hD⟩)
    · omega
    · exact ⟨hc, hD⟩
  case step =>
    rintro x c st' _ hx (⟨rfl, rfl, hB', ho'⟩ | ⟨hx1, rfl, hD⟩)
    · dsimp only
      rw [if_neg (by omega)]
      simp only [Nat.sub_zero, Nat.min_self, Nat.zero_add]
      refine wpS_bind (st_countRun h0 (Nat.le_refl _) (by omega) hB' ho' fun m st2 hB2 hm1 hm2 hs2 ho2 => ?_)
      dsimp only
      by_cases hlt : m < a₀.size
      · rw [if_pos hlt]
        refine wpS_bind (wpS_lift (wpAny_rule ⟨rfl, ?_⟩))
        refine wpS_bind (st_binary h0 (Nat.le_refl _) hm2 hB2 hs2 ho2 fun st3 hB3 hs3 ho3 => ?_)
        simp only [Bool.not_true, Bool.false_eq_true, if_false]
        refine wpS_bind (wpS_get ?_)
        have hb : (pendingOf st3).back? = none := by rw [hB3.pend]; rfl
        rw [hb]
        dsimp only
        exact wpS_bind (wpS_modify (wpS_pure (.inr ⟨by omega, rfl, hB3.done hs3, ho3⟩)))
      · rw [if_neg hlt]
        have hm : m = a₀.size := by omega
        subst hm
        refine wpS_bind (wpS_get ?_)
        have hb : (pendingOf st2).back? = none := by rw [hB2.pend]; rfl
        rw [hb]
        dsimp only
        exact wpS_bind (wpS_modify (wpS_pure (.inr ⟨by omega, rfl, hB2.done hs2, ho2⟩)))
    · dsimp only
      rw [if_pos (Nat.le_refl _)]
      exact wpS_pure ⟨rfl, hD⟩
  case post =>
    rintro c st' ⟨rfl, hD, ho'⟩
    dsimp only
    refine wpS_bind (wpS_mono (wpS_forRange (I := fun _ c st'' => st'' = st' ∧ c = (none, ())) (Q := fun c st'' => st'' = st' ∧ c = (none, ())) ?_ (fun _ _ hh => hh) ⟨rfl, rfl⟩) ?_)
    · rintro x c st'' _ _ ⟨rfl, rfl⟩
      refine wpS_bind (wpS_get ?_)
      rw [if_pos (by rw [hD.2.2.1]; exact Nat.le_refl 1)]
      exact wpS_pure ⟨rfl, rfl⟩
    · rintro c st'' ⟨rfl, rfl⟩
      exact wpS_pure (h _ hD.1 hD.2.1 hD.2.2.2 ho')
end
end Mine

-- sorted(.., key=f), stable
namespace Mine
-- what a stable sort by int keys hands back
def Sorted1 (kz : List Int) (vs out : List Value) : Prop :=
  ∃ ps : List (Int × Value), out = ps.map Prod.snd ∧ ps.length = vs.length ∧ ps.Pairwise (fun p q => p.1 ≤ q.1) ∧ ∀ c : Int, ps.filter (fun p => decide (p.1 = c)) = (kz.zip vs).filter (fun p => decide (p.1 = c))
theorem sorted1_of {keys : Array Value} {vs : List Value} {kz : List Int} (hk : IntsAre keys.toList kz) {xs : Array Keyed} (hp : xs.size = vs.length) (hs : SortedTo xs xs.size) (ho : SameOrder xs.toList (keys.zip vs.toArray).toList) :
    Sorted1 kz vs (xs.map (·.2)).toList := by
  refine ⟨xs.toList.map (fun p : Keyed => (numOf p.1, p.2)), ?_, by rw [List.length_map, Array.length_toList, hp], ?_, fun c => ?_⟩
  · rw [Array.toList_map, List.map_map]; rfl
  · rw [List.pairwise_iff_getElem]
    intro i j hi hj hij
    have hi' : i < xs.size := by simpa using hi
    have hj' : j < xs.size := by simpa using hj
    have q := hs i j (Nat.le_of_lt hij) hj'
    rw [K_eq hi', K_eq hj'] at q
    simpa using q
  · have h := ho c
    have e2 : (keys.toList.zip vs).map (fun p : Keyed => (numOf p.1, p.2)) = kz.zip vs := by
      rw [← hk.nums, List.zip_map_left]
      exact List.map_congr_left fun ⟨x, y⟩ _ => rfl
    rw [ksk_zip] at h
    rw [← e2, List.filter_map, List.filter_map]
    exact congrArg (List.map fun p : Keyed => (numOf p.1, p.2)) h
section
variable {prog : Program} {w : World} {A : Around} {E : Value → Shared → Prop} {s : Shared} {h₀ : Heap} {L : Addr} {m : PySem.Str → Option Value} {news : List (Addr × Obj)} {a kS : Addr} {vs : List Value} {kz : List Int} {keys : Array Value} {e e1 : Nat} {P : PySem.Fin → Shared → Prop}
set_option maxHeartbeats 4000000 in
theorem sk_tail {st : SortSt} (F : Fr h₀ L s.heap m) (N : News h₀ L s.heap (news ++ [(kS, seqObj "list" keys e), (a, seqObj "list" #[] e1)])) (hka : kS ≠ a) (hnk : ∀ p ∈ news, p.1 ≠ kS) (hna : ∀ p ∈ news, p.1 ≠ a)
    (hk : IntsAre keys.toList kz) (hlen : kz.length = vs.length) (h64 : vs.length < 64) (hp : (arrOf st).size = vs.length) (hs : SortedTo (arrOf st) (arrOf st).size) (ho : SameOrder (arrOf st).toList (keys.zip vs.toArray).toList) (hfl : failedOf st = none)
    (h : ∀ h' tk out c, Fr h₀ L h' m → News h₀ L h' ((a, seqObj "list" out c) :: news) → Sorted1 kz vs out.toList → P (.done (.ret .none)) { s with heap := h', toks := tk }) :
    wpAny (model prog w) A (ksk_tail a false e1 (.ref kS) st) P E s := by
  have nk := N (kS, seqObj "list" keys e) (List.mem_append_right _ (.head _))
  have na := N (a, seqObj "list" #[] e1) (List.mem_append_right _ (.tail _ (.head _)))
  have Nn : News h₀ L s.heap news := fun p hp => N p (List.mem_append_left _ hp)
  have hsz : keys.size = vs.length := by
    have h1 := hk.length
    rw [Array.length_toList] at h1
    omega
  have hout : ((arrOf st).map (·.2)).size = vs.length := by simp only [Array.size_map]; exact hp
  have s1 := Heap.SameBut.update s.heap kS (Obj.mapSeq fun _ => (#[] : Array Value))
  have na1 : (s.heap.update kS (Obj.mapSeq fun _ => (#[] : Array Value))).get? a = some (seqObj "list" #[] e1) := (s1.2 a hka.symm).trans na.1
  have s2 := Heap.SameBut.update (s.heap.update kS (Obj.mapSeq fun _ => (#[] : Array Value))) a (Obj.mapSeq fun _ => (arrOf st).map (·.2))
  obtain ⟨c2, hc2⟩ : ∃ c2, ((s.heap.update kS (Obj.mapSeq fun _ => (#[] : Array Value))).update a (Obj.mapSeq fun _ => (arrOf st).map (·.2))).get? a = some (seqObj "list" ((arrOf st).map (·.2)) c2) :=
    ⟨_, get?_update_seq na1 fun _ => (arrOf st).map (·.2)⟩
  have N2 := ksk_news (ksk_news Nn s1 hnk) s2 hna
  unfold ksk_tail
  try dsimp only
  refine wpAny_bind (listUpdate_at nk.1 rfl ?_ (by rw [hsz, sizeLine_eq]; omega) (Nat.zero_le _))
  refine wpAny_bind (wpAny_letGo ?_)
  refine wpAny_bind (seqEpoch_at na1 rfl ?_)
  simp only [Bool.false_eq_true, if_false]
  refine wpAny_bind (listUpdate_at na1 rfl ?_ (Nat.zero_le _) (Nat.le_trans (Nat.le_of_eq hout) (by rw [sizeLine_eq]; omega)))
  rw [hfl]
  simp only [bne_self_eq_false, Bool.false_eq_true, if_false]
  refine wpAny_pure (h _ _ _ c2 (ksk_fr (ksk_fr F s1 nk.2.1 nk.2.2) s2 na.2.1 na.2.2) (fun p hp => ?_) (sorted1_of hk hp hs ho))
  rcases List.mem_cons.mp hp with rfl | hp
  · exact ⟨hc2, na.2⟩
  · exact N2 p hp
set_option maxHeartbeats 4000000 in
theorem sk_end (F : Fr h₀ L s.heap m) (N : News h₀ L s.heap (news ++ [(kS, seqObj "list" keys e), (a, seqObj "list" #[] e1)])) (hka : kS ≠ a) (hnk : ∀ p ∈ news, p.1 ≠ kS) (hna : ∀ p ∈ news, p.1 ≠ a)
    (hk : IntsAre keys.toList kz) (hlen : kz.length = vs.length) (h64 : vs.length < 64)
    (h : ∀ h' tk out c, Fr h₀ L h' m → News h₀ L h' ((a, seqObj "list" out c) :: news) → Sorted1 kz vs out.toList → P (.done (.ret .none)) { s with heap := h', toks := tk }) :
    wpAny (model prog w) A (ksk_end a false vs.toArray e1 (.ref kS) keys) P E s := by
  have hsz : keys.size = vs.length := by
    have h1 := hk.length
    rw [Array.length_toList] at h1
    omega
  have hzs : (keys.zip vs.toArray).size = vs.length := by rw [Array.size_zip, hsz, List.size_toArray, Nat.min_self]
  unfold ksk_end
  simp only [Bool.false_eq_true, if_false]
  by_cases h2 : vs.toArray.size < 2
  · rw [if_pos h2, if_pos h2]
    refine wpAny_bind (wpAny_pure ?_)
    rw [StateT.run_pure]
    refine wpAny_bind (wpAny_pure ?_)
    try dsimp only
    refine sk_tail (st := SortSt.mk' general' (keys.zip vs.toArray) #[] 7 none) F N hka hnk hna hk hlen h64 hzs ?_ (fun _ => rfl) rfl h
    intro i j hij hj
    have hj2 : j < (keys.zip vs.toArray).size := hj
    rw [hzs] at hj2
    rw [List.size_toArray] at h2
    have : i = j := by omega
    subst this
    exact Int.le_refl _
  · rw [if_neg h2, if_neg h2]
    rw [List.size_toArray] at h2
    rw [ksk_kind hk (by rw [hsz]; omega)]
    refine wpAny_bind (wpAny_pure ?_)
    refine wpAny_bind (wpAny_mono (st_sortRuns (a₀ := keys.zip vs.toArray) (st := SortSt.mk' oneType' (keys.zip vs.toArray) #[] 7 none)
      (Q := fun _ st' => (arrOf st').Perm (keys.zip vs.toArray) ∧ failedOf st' = none ∧ SortedTo (arrOf st') (keys.zip vs.toArray).size ∧ SameOrder (arrOf st').toList (keys.zip vs.toArray).toList)
      (ksk_intKeys hk) ⟨Array.Perm.refl _, rfl, rfl, rfl⟩ (fun _ => rfl) (by rw [hzs]; omega) (by rw [hzs]; exact h64) fun st' a1 a2 a3 a4 => ⟨a1, a2, a3, a4⟩) ?_ fun _ _ e => e)
    rintro ⟨⟨⟩, st'⟩ s' ⟨rfl, hp, hf, hs, ho⟩
    try dsimp only
    exact sk_tail F N hka hnk hna hk hlen h64 (by rw [hp.size_eq, hzs]) (by rw [hp.size_eq]; exact hs) ho hf h
set_option maxHeartbeats 4000000 in
theorem sk_rest {f : Value} (F : Fr h₀ L s.heap m) (N : News h₀ L s.heap (news ++ [(kS, seqObj "list" #[] 0), (a, seqObj "list" #[] e1)])) (hka : kS ≠ a) (hnk : ∀ p ∈ news, p.1 ≠ kS) (hna : ∀ p ∈ news, p.1 ≠ a)
    (hlen : kz.length = vs.length) (h64 : vs.length < 64)
    (turn : ∀ (i : Nat) (v : Value) (k : Int), vs[i]? = some v → kz[i]? = some k → ∀ (h : Heap) (tk : Nat) (own : List (Addr × Obj)), Fr h₀ L h m → News h₀ L h (news ++ own) →
      wpAny (model prog w) A (call f [v]) (KskEnd h₀ L m (news ++ own) k { s with heap := h, toks := tk }) (fun _ _ => False) { s with heap := h, toks := tk })
    (h : ∀ h' tk out c, Fr h₀ L h' m → News h₀ L h' ((a, seqObj "list" out c) :: news) → Sorted1 kz vs out.toList → P (.done (.ret .none)) { s with heap := h', toks := tk }) :
    wpAny (model prog w) A (ksk_rest a f false vs.toArray e1 (.ref kS)) P E s := by
  unfold ksk_rest
  refine wpAny_bind (wpAny_rule ?_)
  first
    | rw [List.forIn_toArray]
    | (rw [← Array.forIn_toList]; simp only [List.toList_toArray])
    | rw [← Array.forIn_toList]
  refine wpAny_bind (ksk_fold (fun i s' => ∃ h' tk kA e, s' = { s with heap := h', toks := tk } ∧ Fr h₀ L h' m ∧ News h₀ L h' (news ++ [(kS, seqObj "list" kA e), (a, seqObj "list" #[] e1)]) ∧ IntsAre kA.toList (kz.take i)) vs 0 s
    ⟨s.heap, s.toks, #[], 0, rfl, F, N, by simpa using IntsAre.nil⟩ ?step ?done)
  case step =>
    rintro j x s' hx ⟨h', tk, kA, e, rfl, F', N', hk⟩
    simp only [Nat.zero_add] at hk ⊢
    have hj : j < vs.length := (List.getElem?_eq_some_iff.mp hx).1
    obtain ⟨k, hkj⟩ : ∃ k, kz[j]? = some k := ⟨_, List.getElem?_eq_getElem (by omega)⟩
    have hz : kA.size ≤ vs.length := by
      have h1 := hk.length
      rw [Array.length_toList, List.length_take] at h1
      omega
    refine wpAny_bind (wpAny_attempt (wpAny_mono (turn j x k hx hkj h' tk _ F' N') (fun v s'' he => ?_) fun _ _ hF => hF.elim))
    obtain ⟨g, tk2, t2, rfl, rfl, F2, N2⟩ := he
    try dsimp only
    have nk := N2 (kS, seqObj "list" kA e) (List.mem_append_right _ (.head _))
    have na := N2 (a, seqObj "list" #[] e1) (List.mem_append_right _ (.tail _ (.head _)))
    have s1 := Heap.SameBut.update g kS (Obj.mapSeq (·.push (.int k t2)))
    obtain ⟨c2, hc2⟩ : ∃ c2, (g.update kS (Obj.mapSeq (·.push (.int k t2)))).get? kS = some (seqObj "list" (kA.push (.int k t2)) c2) := ⟨_, get?_update_seq nk.1 (·.push (.int k t2))⟩
    have ek : kz.take (j + 1) = kz.take j ++ [k] := by rw [List.take_add_one, hkj]; simp
    have ea : (kA.push (Value.int k t2)).toList = kA.toList ++ [Value.int k t2] := by simp
    refine wpAny_bind (listUpdate_at nk.1 rfl ?_ (by rw [sizeLine_eq]; omega) (Nat.le_trans (Nat.le_of_eq (Array.size_push ..)) (by rw [sizeLine_eq]; omega)))
    refine wpAny_pure ⟨rfl, _, _, kA.push (.int k t2), c2, rfl, ksk_fr F2 s1 nk.2.1 nk.2.2, fun p hp => ?_, by rw [ea, ek]; exact ksk_snoc hk⟩
    rcases List.mem_append.mp hp with hp | hp
    · exact ksk_news (fun q hq => N2 q (List.mem_append_left _ hq)) s1 hnk p hp
    · rcases List.mem_cons.mp hp with rfl | hp
      · exact ⟨hc2, nk.2⟩
      · rw [List.mem_singleton.mp hp]
        exact ⟨(s1.2 a hka.symm).trans na.1, na.2⟩
  case done =>
    rintro s' ⟨h', tk, kA, e, rfl, F', N', hk⟩
    have hk' : IntsAre kA.toList kz := by
      have e3 : kz.take (0 + vs.length) = kz := List.take_of_length_le (by omega)
      rw [e3] at hk
      exact hk
    have nk := N' (kS, seqObj "list" kA e) (List.mem_append_right _ (.head _))
    try dsimp only
    refine wpAny_bind (listItems_at nk.1 rfl ?_)
    exact sk_end F' N' hka hnk hna hk' hlen h64 fun h3 tk3 out c F3 N3 k3 => h h3 tk3 out c F3 N3 k3
set_option maxHeartbeats 4000000 in
theorem sk_sort {f : Value} {n : Nat} (F : Fr h₀ L s.heap m) (N : News h₀ L s.heap news) (ho : s.heap.get? a = some (seqObj "list" vs.toArray n)) (haL : a ≠ L) (ha0 : h₀.get? a = none) (hna : ∀ p ∈ news, p.1 ≠ a)
    (hlen : kz.length = vs.length) (h64 : vs.length < 64)
    (turn : ∀ (i : Nat) (v : Value) (k : Int), vs[i]? = some v → kz[i]? = some k → ∀ (h : Heap) (tk : Nat) (own : List (Addr × Obj)), Fr h₀ L h m → News h₀ L h (news ++ own) →
      wpAny (model prog w) A (call f [v]) (KskEnd h₀ L m (news ++ own) k { s with heap := h, toks := tk }) (fun _ _ => False) { s with heap := h, toks := tk })
    (h : ∀ h' tk out c, Fr h₀ L h' m → News h₀ L h' ((a, seqObj "list" out c) :: news) → Sorted1 kz vs out.toList → P (.done (.ret .none)) { s with heap := h', toks := tk }) :
    wpAny (model prog w) A (ksk_tree a f false) P E s := by
  have ha : a < s.heap.objs.size := Heap.lt_size ho
  have s1 := Heap.SameBut.update s.heap a (Obj.mapSeq fun _ => (#[] : Array Value))
  obtain ⟨e1, ho1⟩ : ∃ e1, (s.heap.update a (Obj.mapSeq fun _ => (#[] : Array Value))).get? a = some (seqObj "list" #[] e1) := ⟨_, get?_update_seq ho fun _ => #[]⟩
  have F1 := ksk_fr F s1 haL ha0
  have N1 := ksk_news N s1 hna
  have hkS : ((s.heap.update a (Obj.mapSeq fun _ => (#[] : Array Value))).push (seqObj "tuple" vs.toArray 0)).objs.size = s.heap.objs.size + 1 := by rw [size_push', Heap.size_update]
  have hLk : L < ((s.heap.update a (Obj.mapSeq fun _ => (#[] : Array Value))).push (seqObj "tuple" vs.toArray 0)).objs.size := (F1.push _).ns.lt
  unfold ksk_tree
  refine wpAny_bind (listItems_at ho rfl ?_)
  refine wpAny_bind (listUpdate_at ho rfl ?_ (by rw [List.size_toArray, sizeLine_eq]; omega) (Nat.zero_le _))
  refine wpAny_bind (seqEpoch_at ho1 rfl ?_)
  refine wpAny_bind (wpAny_newTuple ?_ (by show vs.length ≤ _; rw [sizeLine_eq]; omega))
  refine wpAny_bind (wpAny_newList ?_ (Nat.zero_le _))
  refine wpAny_holding ?_
  refine sk_rest (s := { s with heap := ((s.heap.update a (Obj.mapSeq fun _ => (#[] : Array Value))).push (seqObj "tuple" vs.toArray 0)).push (seqObj "list" #[] 0) }) (kS := ((s.heap.update a (Obj.mapSeq fun _ => (#[] : Array Value))).push (seqObj "tuple" vs.toArray 0)).objs.size)
    ((F1.push _).push _) (fun p hp => ?_) (by rw [hkS]; exact Nat.ne_of_gt (Nat.lt_succ_of_lt ha)) (fun p hp => by rw [hkS]; exact Nat.ne_of_lt (Nat.lt_succ_of_lt (Heap.lt_size (N p hp).1))) hna hlen h64 turn h
  rcases List.mem_append.mp hp with hp | hp
  · exact ⟨Heap.get?_push_of_some _ (Heap.get?_push_of_some _ (N1 p hp).1), (N1 p hp).2⟩
  · rcases List.mem_cons.mp hp with rfl | hp
    · exact ⟨Heap.get?_push_size _ rfl, Nat.ne_of_gt hLk, Heap.get?_none_of_le (Nat.le_trans F.above (Nat.le_of_lt hLk))⟩
    · rw [List.mem_singleton.mp hp]
      exact ⟨Heap.get?_push_of_some _ (Heap.get?_push_of_some _ ho1), haL, ha0⟩
end
section
variable {prog : Program} {w : World} {A : Around} {E : Value → Shared → Prop} {s : Shared} {h₀ : Heap} {L l : Addr} {m : PySem.Str → Option Value} {news : List (Addr × Obj)} {vs : List Value} {Q : Value → Shared → Prop}
set_option maxHeartbeats 4000000 in
theorem sk_sorted {kz : List Int} {f : Value} {kw : List (PySem.Str × Value)} (F : Fr h₀ L s.heap m) (N : News h₀ L s.heap news) (hl : s.heap.IsList l vs.toArray) (hlen : kz.length = vs.length) (h64 : vs.length < 64)
    (ha1 : argsOk "sorted" ⟨[.ref l], kw⟩) (ha2 : ∀ x, argsOk "list.sort" ⟨[.ref x], kw⟩) (ht : ∀ x, Builtin.«list.sort» ⟨[.ref x], kw⟩ = ksk_tree x f false)
    (turn : ∀ (i : Nat) (v : Value) (k : Int), vs[i]? = some v → kz[i]? = some k → ∀ (h : Heap) (tk : Nat) (own : List (Addr × Obj)), Fr h₀ L h m → News h₀ L h (news ++ own) →
      wpAny (model prog w) A.in1.in1 (call f [v]) (KskEnd h₀ L m (news ++ own) k { s with heap := h, toks := tk }) (fun _ _ => False) { s with heap := h, toks := tk })
    (h : ∀ D h' tk out c, Fr h₀ L h' m → News h₀ L h' ((D, seqObj "list" out c) :: news) → (∀ q ∈ news, q.1 < D) → Sorted1 kz vs out.toList → Q (.ref D) { s with heap := h', toks := tk }) :
    wpAny (model prog w) A (call (.builtin "sorted") [.ref l] kw) Q E s := by
  refine call_function_entry_kw kind_sorted plain_sorted entry_sorted ha1 ?_
  unfold Builtin.«sorted»
  refine wpAny_bind (m := checkCount "sorted" 1 1 _) (wpAny_pure ?_)
  refine wpAny_bind (collect_list hl ?_ (by rw [sizeLine_eq]; omega))
  refine wpAny_bind (wpAny_newList ?_ (by rw [sizeLine_eq]; omega))
  have hsz : ((s.heap.push (seqObj "list" #[] 0)).update s.heap.objs.size (Obj.mapSeq (· ++ vs.toArray))).objs.size = s.heap.objs.size + 1 := by
    rw [Heap.size_update, size_push']
  have hoL : (((s.heap.push (seqObj "list" #[] 0)).update s.heap.objs.size (Obj.mapSeq (· ++ vs.toArray))).push (seqObj "list" vs.toArray 0)).get? (s.heap.objs.size + 1) = some (seqObj "list" vs.toArray 0) := by
    rw [← hsz]; exact Heap.get?_push_size _ rfl
  have keep : ∀ b o, s.heap.get? b = some o → (((s.heap.push (seqObj "list" #[] 0)).update s.heap.objs.size (Obj.mapSeq (· ++ vs.toArray))).push (seqObj "list" vs.toArray 0)).get? b = some o := fun b o q => by
    have hlt : b < s.heap.objs.size := Heap.lt_size q
    rw [Heap.get?_push_ne _ _ _ (by rw [hsz]; exact Nat.ne_of_lt (Nat.lt_succ_of_lt hlt)), Heap.get?_update_ne _ _ _ _ (Nat.ne_of_lt hlt), Heap.get?_push_ne _ _ _ (Nat.ne_of_lt hlt)]
    exact q
  have hL : L < s.heap.objs.size := F.ns.lt
  show wpAny _ _ _ _ _ { s with heap := ((s.heap.push (seqObj "list" #[] 0)).update s.heap.objs.size (Obj.mapSeq (· ++ vs.toArray))).push (seqObj "list" vs.toArray 0) }
  rw [hsz]
  refine wpAny_bind (wpAny_holding (wpAny_call_entry_kw slot_list_sort ⟨_, hoL, rfl⟩ entry_list_sort ?body (ha2 _)))
  case body =>
    have ht' := ht (s.heap.objs.size + 1)
    show wpAny (model prog w) A.in1.in1 (Builtin.«list.sort» ⟨[.ref (s.heap.objs.size + 1)], kw⟩) _ _ _
    rw [ht']
    refine sk_sort (s := { s with heap := ((s.heap.push (seqObj "list" #[] 0)).update s.heap.objs.size (Obj.mapSeq (· ++ vs.toArray))).push (seqObj "list" vs.toArray 0) })
      (F.kept keep) (N.grown keep) hoL (Nat.ne_of_gt (Nat.lt_succ_of_lt hL)) (Heap.get?_none_of_le (Nat.le_trans F.above (Nat.le_succ_of_le (Nat.le_of_lt hL))))
      (fun p hp => Nat.ne_of_lt (Nat.lt_succ_of_lt (Heap.lt_size (N p hp).1))) hlen h64 turn fun h' tk out c F' N' k' => ⟨_, rfl, ?_⟩
    exact wpAny_pure ⟨_, rfl, h _ h' tk out c F' N' (fun q hq => Nat.lt_succ_of_lt (Heap.lt_size (N q hq).1)) k'⟩
end
end Mine

-- the first loop: things and groups
namespace Mine
structure Grp where
  code : Int
  adr : Addr
  cnt : Nat
  vals : List Value
def gObj (g : Grp) : Addr × Obj := (g.adr, W.listOf g.vals.toArray g.cnt)
def gKv (g : Grp) : Int × Value := (g.code, .ref g.adr)
def codeOf (n : Int) : Int := if n.fmod 2 = 0 then (n.fdiv 2).fmod 55296 else n.fdiv 2
def thingOf (n : Int) : Dat := if n.fmod 2 = 0 then Dat.str (PySem.Str.mk #[((n.fdiv 2).fmod 55296).toNat]) else Dat.int (n.fdiv 2)
def grouped (pre : List Int) (c : Int) : List Dat := (pre.filter fun n => decide (codeOf n = c)).map thingOf
theorem grouped_snoc_ne {pre : List Int} {n c : Int} (h : codeOf n ≠ c) : grouped (pre ++ [n]) c = grouped pre c := by
  simp [grouped, h]
theorem grouped_snoc_eq {pre : List Int} {n c : Int} (h : codeOf n = c) : grouped (pre ++ [n]) c = grouped pre c ++ [thingOf n] := by
  simp [grouped, h]
structure R1 (pre : List Int) (tv : List Value) (G : List Grp) : Prop where
  things : DatAll [] tv (pre.map thingOf)
  nodup : (G.map (·.code)).Nodup
  each : ∀ g ∈ G, DatAll [] g.vals (grouped pre g.code)
  all : ∀ n ∈ pre, ∃ g ∈ G, g.code = codeOf n
  few : G.length ≤ pre.length
theorem R1.nil : R1 [] [] [] := ⟨.nil, List.nodup_nil, fun _ h => (nomatch h), fun _ h => (nomatch h), Nat.le_refl 0⟩
theorem grouped_len (pre : List Int) (c : Int) : (grouped pre c).length ≤ pre.length := by
  unfold grouped; rw [List.length_map]; exact List.length_filter_le _ _
theorem R1.new {pre : List Int} {tv : List Value} {G : List Grp} {n : Int} {v : Value} {b : Addr} {k : Nat} (h : R1 pre tv G) (hn : ∀ g ∈ G, g.code ≠ codeOf n) (hv : DatIn [] v (thingOf n)) :
    R1 (pre ++ [n]) (tv ++ [v]) (G ++ [⟨codeOf n, b, k, [v]⟩]) := by
  refine ⟨?_, ?_, ?_, ?_, ?_⟩
  · rw [List.map_append]; exact h.things.append (.cons hv .nil)
  · rw [List.map_append]
    refine List.nodup_append.mpr ⟨h.nodup, List.nodup_cons.mpr ⟨List.not_mem_nil, List.nodup_nil⟩, ?_⟩
    intro a ha c hc
    obtain ⟨g, hg, rfl⟩ := List.mem_map.mp ha
    rw [List.mem_singleton.mp hc]
    exact hn g hg
  · intro g hg
    rcases List.mem_append.mp hg with hg | hg
    · rw [grouped_snoc_ne fun e => hn g hg e.symm]; exact h.each g hg
    · rw [List.mem_singleton.mp hg]
      show DatAll [] [v] (grouped (pre ++ [n]) (codeOf n))
      rw [grouped_snoc_eq rfl]
      have e : grouped pre (codeOf n) = [] := by
        unfold grouped
        rw [List.map_eq_nil_iff, List.filter_eq_nil_iff]
        intro a ha hc
        obtain ⟨g, hg, e⟩ := h.all a ha
        exact hn g hg (e.trans (by simpa using hc))
      rw [e]
      exact .cons hv .nil
  · intro a ha
    rcases List.mem_append.mp ha with ha | ha
    · obtain ⟨g, hg, e⟩ := h.all a ha
      exact ⟨g, List.mem_append_left _ hg, e⟩
    · rw [List.mem_singleton.mp ha]
      exact ⟨_, List.mem_append_right _ (.head _), rfl⟩
  · have := h.few; simp only [List.length_append, List.length_cons, List.length_nil]; omega
theorem R1.old {pre : List Int} {tv : List Value} {G1 G2 : List Grp} {g : Grp} {n : Int} {v : Value} {k : Nat} (h : R1 pre tv (G1 ++ g :: G2)) (hc : g.code = codeOf n) (hv : DatIn [] v (thingOf n)) :
    R1 (pre ++ [n]) (tv ++ [v]) (G1 ++ ⟨g.code, g.adr, k, g.vals ++ [v]⟩ :: G2) := by
  have hnd := h.nodup
  rw [List.map_append, List.map_cons] at hnd
  have hnd' := List.nodup_append.mp hnd
  have hne1 : ∀ x ∈ G1, x.code ≠ g.code := fun x hx => hnd'.2.2 _ (List.mem_map.mpr ⟨x, hx, rfl⟩) _ (.head _)
  have hne2 : ∀ x ∈ G2, x.code ≠ g.code := fun x hx e => (List.nodup_cons.mp hnd'.2.1).1 (List.mem_map.mpr ⟨x, hx, e⟩)
  refine ⟨?_, ?_, ?_, ?_, ?_⟩
  · rw [List.map_append]; exact h.things.append (.cons hv .nil)
  · rw [List.map_append, List.map_cons]; exact hnd
  · intro x hx
    rcases List.mem_append.mp hx with hx | hx
    · rw [grouped_snoc_ne fun e => hne1 x hx (e.symm.trans hc.symm)]; exact h.each x (List.mem_append_left _ hx)
    · rcases List.mem_cons.mp hx with hx | hx
      · rw [hx]
        show DatAll [] (g.vals ++ [v]) (grouped (pre ++ [n]) g.code)
        rw [grouped_snoc_eq hc.symm]
        exact (h.each g (List.mem_append_right _ (.head _))).append (.cons hv .nil)
      · rw [grouped_snoc_ne fun e => hne2 x hx (e.symm.trans hc.symm)]; exact h.each x (List.mem_append_right _ (.tail _ hx))
  · intro a ha
    have up : ∀ c, (∃ x ∈ G1 ++ g :: G2, x.code = c) → ∃ x ∈ G1 ++ (⟨g.code, g.adr, k, g.vals ++ [v]⟩ : Grp) :: G2, x.code = c := by
      rintro c ⟨x, hx, e⟩
      rcases List.mem_append.mp hx with hx | hx
      · exact ⟨x, List.mem_append_left _ hx, e⟩
      · rcases List.mem_cons.mp hx with hx | hx
        · exact ⟨_, List.mem_append_right _ (.head _), by rw [← e, hx]⟩
        · exact ⟨x, List.mem_append_right _ (.tail _ hx), e⟩
    rcases List.mem_append.mp ha with ha | ha
    · exact up _ (h.all a ha)
    · rw [List.mem_singleton.mp ha]
      exact up _ ⟨g, List.mem_append_right _ (.head _), hc⟩
  · have := h.few; simp only [List.length_append, List.length_cons, List.length_nil] at *; omega
structure Sep (adr : List Addr) (G : List Grp) : Prop where
  off : ∀ g ∈ G, ∀ b ∈ adr, g.adr ≠ b
  apart : (G.map (·.adr)).Nodup
theorem Sep.nil {adr : List Addr} : Sep adr [] := ⟨fun _ h => (nomatch h), List.nodup_nil⟩
theorem gkv_none {G : List Grp} {k : Int} (h : ∀ g ∈ G, g.code ≠ k) : valueAt (G.map gKv) k = none := by
  apply valueAt_none_of_not_mem
  rw [List.map_map]
  intro hm
  obtain ⟨g, hg, e⟩ := List.mem_map.mp hm
  exact h g hg e
theorem gkv_some {G1 G2 : List Grp} {g : Grp} {k : Int} (hn : ((G1 ++ g :: G2).map (·.code)).Nodup) (hk : g.code = k) : valueAt ((G1 ++ g :: G2).map gKv) k = some (.ref g.adr) := by
  refine valueAt_of_get (i := G1.length) ?_ ?_
  · rw [List.map_map]; exact hn
  · rw [List.getElem?_map, List.getElem?_append_right (Nat.le_refl _), Nat.sub_self]
    show some (gKv g) = _
    rw [← hk]; rfl
theorem gkv_cases (G : List Grp) (k : Int) : (∀ g ∈ G, g.code ≠ k) ∨ ∃ G1 g G2, G = G1 ++ g :: G2 ∧ g.code = k := by
  by_cases h : ∃ g ∈ G, g.code = k
  · obtain ⟨g, hg, e⟩ := h
    obtain ⟨G1, G2, e2⟩ := List.append_of_mem hg
    exact .inr ⟨G1, g, G2, e2, e⟩
  · exact .inl fun g hg e => h ⟨g, hg, e⟩
def J1 (prog : Program) (w : World) (lt dg sl : Addr) (ws : List Value) (x : PySem.Str) (sto : List PySem.Str) (m₀ : PySem.Str → Option Value) (pre : List Int) (m : PySem.Str → Option Value) (nx : List (Addr × Obj)) : Prop :=
  ∃ (G : List Grp) (tv : List Value) (kt : Nat) (od : Obj), nx = (lt, W.listOf tv.toArray kt) :: (dg, od) :: (sl, W.listOf ws.toArray 0) :: G.map gObj ∧ Obj.IsDictOf (intKind prog w) od (G.map gKv) ∧ Sep [lt, dg, sl] G ∧ R1 pre tv G ∧ (∀ z, z ≠ x → sto.contains z = false → m z = m₀ z)
theorem fr_in {h₀ h : Heap} {L : Addr} {x : PySem.Str} {sto : List PySem.Str} {m₀ m₁ : PySem.Str → Option Value} {v : Value} (hm : ∀ z, z ≠ x → sto.contains z = false → m₁ z = m₀ z) (F : Fr h₀ L h (fun y => if y = x then some v else m₁ y)) :
    Fr h₀ L h (fun y => if y = x then some v else if sto.contains y = true then m₁ y else m₀ y) := by
  have e : (fun y => if y = x then some v else if sto.contains y = true then m₁ y else m₀ y) = fun y => if y = x then some v else m₁ y := by
    funext y
    by_cases hy : y = x
    · rw [if_pos hy, if_pos hy]
    · rw [if_neg hy, if_neg hy]
      by_cases hs : sto.contains y = true
      · rw [if_pos hs]
      · rw [if_neg hs, hm y hy (by simpa using hs)]
  rw [e]; exact F
theorem fr_out {h₀ h : Heap} {L : Addr} {x : PySem.Str} {sto : List PySem.Str} {m₀ m₁ : PySem.Str → Option Value} (hm : ∀ z, z ≠ x → sto.contains z = false → m₁ z = m₀ z) (F : Fr h₀ L h m₁) :
    Fr h₀ L h (fun y => if y = x then m₁ y else if sto.contains y = true then m₁ y else m₀ y) := by
  have e : (fun y => if y = x then m₁ y else if sto.contains y = true then m₁ y else m₀ y) = m₁ := by
    funext y
    by_cases hy : y = x
    · rw [if_pos hy]
    · rw [if_neg hy]
      by_cases hs : sto.contains y = true
      · rw [if_pos hs]
      · rw [if_neg hs, hm y hy (by simpa using hs)]
  rw [e]; exact F
theorem gobj_adr (G : List Grp) : (G.map gObj).map (·.1) = G.map (·.adr) := by rw [List.map_map]; rfl
theorem gobj_off {adr : List Addr} {G : List Grp} (h : Sep adr G) : OwnOff (G.map gObj) adr := by
  intro p hp b hb
  obtain ⟨g, hg, rfl⟩ := List.mem_map.mp hp
  exact h.off g hg b hb
theorem off_append {a b : List (Addr × Obj)} {adr : List Addr} (h1 : OwnOff a adr) (h2 : OwnOff b adr) : OwnOff (a ++ b) adr := by
  intro p hp
  rcases List.mem_append.mp hp with hp | hp
  · exact h1 p hp
  · exact h2 p hp
section
variable {prog : Program} {w : World} {A : Around} {E : Value → Shared → Prop} {s : Shared} {env : Env} {h₀ : Heap} {x : PySem.Str} {body : List Stmt} {Q : Flow → Shared → Prop}
set_option maxHeartbeats 1600000 in
theorem loop1 {lt dg sl : Addr} {o : Obj} {ws : List Value} {ns : List Int} {m₀ : PySem.Str → Option Value} (sto : List PySem.Str)
    (hh : A.handled = none) (hi : IntsAre ws ns) (h64 : ns.length < 64)
    (F : Fr h₀ env.locals s.heap m₀) (N : News h₀ env.locals s.heap [(dg, o), (lt, W.listOf #[] 0), (sl, W.listOf ws.toArray 0)]) (hd : Obj.IsDictOf (intKind prog w) o [])
    (turn : ∀ (G : List Grp) (tv : List Value) (kt : Nat) (od : Obj) (pre : List Int) (n : Int) (post : List Int) (t : Tok) (u : PySem.Str → Option Value) (h : Heap) (tk : Nat) (own : List (Addr × Obj)),
      ns = pre ++ n :: post → tv.length < 64 → G.length < 64 → R1 pre tv G → Sep [lt, dg, sl] G → Obj.IsDictOf (intKind prog w) od (G.map gKv) → OwnOff own (lt :: dg :: sl :: G.map (·.adr)) → OwnOff (G.map gObj ++ own) [lt, dg, sl] →
      Fr h₀ env.locals h (fun y => if y = x then some (.int n t) else if sto.contains y = true then u y else m₀ y) →
      News h₀ env.locals h ((lt, W.listOf tv.toArray kt) :: (dg, od) :: (sl, W.listOf ws.toArray 0) :: (G.map gObj ++ own)) →
      wpAny (model prog w) A (execs body env) (InvPostG h₀ env.locals (fun m' nx => (sl, W.listOf ws.toArray 0) ∈ nx ∧ J1 prog w lt dg sl ws x sto m₀ (pre ++ [n]) m' nx) own { s with heap := h, toks := tk } Q) E { s with heap := h, toks := tk })
    (done : ∀ (G : List Grp) (tv : List Value) (kt : Nat) (od : Obj) (u : PySem.Str → Option Value) (h : Heap) (tk : Nat),
      tv.length < 64 → G.length < 64 → R1 ns tv G → Sep [lt, dg, sl] G → Obj.IsDictOf (intKind prog w) od (G.map gKv) → OwnOff (G.map gObj) [lt, dg, sl] →
      Fr h₀ env.locals h (fun y => if y = x then u y else if sto.contains y = true then u y else m₀ y) →
      News h₀ env.locals h ((lt, W.listOf tv.toArray kt) :: (dg, od) :: (sl, W.listOf ws.toArray 0) :: G.map gObj) → Q .next { s with heap := h, toks := tk }) :
    wpAny (model prog w) A (pyIter (.ref sl)) (fun it s₂ => LoopAtV prog w A h₀ env x body Q E it s₂) E s := by
  have hlen : ws.length = ns.length := hi.length
  refine kdl_iter (nn := 0) (vs := ws) (m₀ := m₀) (news := [(lt, W.listOf #[] 0), (dg, o), (sl, W.listOf ws.toArray 0)]) (fun i m nx => J1 prog w lt dg sl ws x sto m₀ (ns.take i) m nx) hh (.tail _ (.tail _ (.head _))) F
    (fun p hp => N p ?_) ⟨[], [], 0, o, rfl, hd, Sep.nil, by rw [List.take_zero]; exact R1.nil, fun _ _ _ => rfl⟩ ?_ ?_
  · simp only [List.mem_cons, List.not_mem_nil, or_false] at hp ⊢
    rcases hp with h | h | h
    · exact .inr (.inl h)
    · exact .inl h
    · exact .inr (.inr h)
  · rintro i v m₁ nx h tk own hv hoff _ ⟨G, tv, kt, od, rfl, hd', hs, hR, hm⟩ F₁ N₁
    have hi' : i < ns.length := by rw [← hlen]; exact (List.getElem?_eq_some_iff.mp hv).1
    obtain ⟨t, hx⟩ := hi.get i (ns[i]'hi') (List.getElem?_eq_getElem hi')
    have ev : v = .int (ns[i]'hi') t := by rw [hx] at hv; exact (Option.some.inj hv).symm
    subst ev
    have ht : ns.take (i + 1) = ns.take i ++ [ns[i]'hi'] := by rw [List.take_add_one, List.getElem?_eq_getElem hi'] <;> rfl
    have e : ns = ns.take i ++ (ns[i]'hi') :: ns.drop (i + 1) := by
      have h9 := List.take_append_drop (i + 1) ns
      rw [ht, List.append_assoc] at h9
      exact h9.symm
    have l1 : tv.length < 64 := by have := hR.things.length; rw [List.length_map, List.length_take] at this; omega
    have l2 : G.length < 64 := by have := hR.few; rw [List.length_take] at this; omega
    simp only [List.map_cons, gobj_adr] at hoff
    have ho : OwnOff own [lt, dg, sl] := fun p hp b hb => hoff p hp b (by
      simp only [List.mem_cons, List.not_mem_nil, or_false] at hb ⊢
      rcases hb with h | h | h
      · exact .inl h
      · exact .inr (.inl h)
      · exact .inr (.inr (.inl h)))
    rw [ht]
    exact turn G tv kt od _ _ _ t m₁ h tk own e l1 l2 hR hs hd' hoff (off_append (gobj_off hs) ho) (fr_in hm F₁) N₁
  · rintro m₁ nx h tk ⟨G, tv, kt, od, rfl, hd', hs, hR, hm⟩ F₁ N₁
    rw [hlen, List.take_length] at hR
    have l1 : tv.length < 64 := by have := hR.things.length; rw [List.length_map] at this; omega
    have l2 : G.length < 64 := by have := hR.few; omega
    exact done G tv kt od m₁ h tk l1 l2 hR hs hd' (gobj_off hs) (fr_out hm F₁) N₁
end

section
variable {prog : Program} {w : World} {A : Around} {E : Value → Shared → Prop} {s : Shared} {h₀ : Heap} {L lt dg sl : Addr} {m : PySem.Str → Option Value} {o1 od o3 : Obj} {G : List Grp} {own : List (Addr × Obj)} {k : Int} {t : Tok}
theorem g_notin {pre : List Int} {tv : List Value} {Q : Value → Shared → Prop} (N : News h₀ L s.heap ((lt, o1) :: (dg, od) :: (sl, o3) :: (G.map gObj ++ own))) (hd : Obj.IsDictOf (intKind prog w) od (G.map gKv)) (lo : (dg == sysModules) = false)
    (hR : R1 pre tv G) (hl : pre.length < 64) (hs : Sep [lt, dg, sl] G) (hO : OwnOff own (lt :: dg :: sl :: G.map (·.adr)))
    (h1 : (∀ g ∈ G, g.code ≠ k) → Q (.bool true) { s with toks := s.toks + 1 })
    (h2 : ∀ (G1 G2 : List Grp) (c : Int) (a : Addr) (kc : Nat) (vs : List Value), G = G1 ++ (⟨c, a, kc, vs⟩ : Grp) :: G2 → c = k → vs.length < 64 → News h₀ L s.heap ((a, W.listOf vs.toArray kc) :: (lt, o1) :: (dg, od) :: (sl, o3) :: ((G1 ++ G2).map gObj ++ own)) →
      ((@Ne Nat a lt) ∧ (@Ne Nat a dg) ∧ (@Ne Nat a sl)) → OwnOff ((G1 ++ G2).map gObj ++ own) [a, lt, dg, sl] → Q (.bool false) { s with toks := s.toks + 1 }) :
    wpAny (model prog w) A (compareOp .NotIn (.int k t) (.ref dg)) Q E s := by
  have hp : (dg, od) ∈ (lt, o1) :: (dg, od) :: (sl, o3) :: (G.map gObj ++ own) := .tail _ (.head _)
  rcases gkv_cases G k with h | ⟨G1, g, G2, e, hk⟩
  · exact kdg_notin (k := k) N hp hd lo (intKind_is _ _ _ _) false (by rw [gkv_none h]; rfl) (h1 h)
  · refine kdg_notin (k := k) N hp hd lo (intKind_is _ _ _ _) true (by subst e; rw [gkv_some hR.nodup hk]; rfl) ?_
    have hg : g ∈ G := by rw [e]; exact List.mem_append_right _ (.head _)
    have hnd := hs.apart
    rw [e, List.map_append, List.map_cons] at hnd
    have hnd' := List.nodup_append.mp hnd
    refine h2 G1 G2 g.code g.adr g.cnt g.vals e hk ?_ (fun p hp' => N p ?_) ⟨hs.off g hg lt (.head _), hs.off g hg dg (.tail _ (.head _)), hs.off g hg sl (.tail _ (.tail _ (.head _)))⟩ ?_
    · have a1 := (hR.each g hg).length
      have a2 := grouped_len pre g.code
      omega
    · rw [e]
      simp only [List.map_append, List.map_cons, List.mem_cons, List.mem_append] at hp' ⊢
      rcases hp' with h | h | h | h | ((h | h) | h)
      · exact .inr (.inr (.inr (.inl (.inr (.inl h)))))
      · exact .inl h
      · exact .inr (.inl h)
      · exact .inr (.inr (.inl h))
      · exact .inr (.inr (.inr (.inl (.inl h))))
      · exact .inr (.inr (.inr (.inl (.inr (.inr h)))))
      · exact .inr (.inr (.inr (.inr h)))
    · intro p hp' b hb
      rcases List.mem_append.mp hp' with hp' | hp'
      · obtain ⟨x, hx, rfl⟩ := List.mem_map.mp hp'
        have hxG : x ∈ G := by
          rw [e]
          rcases List.mem_append.mp hx with hx | hx
          · exact List.mem_append_left _ hx
          · exact List.mem_append_right _ (.tail _ hx)
        rcases List.mem_cons.mp hb with hb | hb
        · rw [hb]
          rcases List.mem_append.mp hx with hx | hx
          · exact hnd'.2.2 _ (List.mem_map.mpr ⟨x, hx, rfl⟩) _ (.head _)
          · exact fun q => (List.nodup_cons.mp hnd'.2.1).1 (List.mem_map.mpr ⟨x, hx, q⟩)
        · exact hs.off x hxG b hb
      · refine hO p hp' b ?_
        rw [e]
        simp only [List.mem_cons, List.not_mem_nil, or_false, List.map_append, List.map_cons, List.mem_append] at hb ⊢
        rcases hb with h | h | h | h
        · exact .inr (.inr (.inr (.inr (.inl h))))
        · exact .inl h
        · exact .inr (.inl h)
        · exact .inr (.inr (.inl h))
theorem g_set {b : Addr} {ob : Obj} {tl : List (Addr × Obj)} {v : Value} {Q : Unit → Shared → Prop} (F : Fr h₀ L s.heap m) (N : News h₀ L s.heap ((b, ob) :: (lt, o1) :: (dg, od) :: (sl, o3) :: tl)) (hd : Obj.IsDictOf (intKind prog w) od (G.map gKv)) (hz : G.length < 64)
    (e1 : b ≠ dg) (e2 : lt ≠ dg) (e3 : sl ≠ dg) (e4 : ∀ p ∈ tl, p.1 ≠ dg) (hv : ∀ g ∈ G, g.code ≠ k)
    (h : ∀ h' o', Fr h₀ L h' m → News h₀ L h' ((b, ob) :: (lt, o1) :: (dg, o') :: (sl, o3) :: tl) → Obj.IsDictOf (intKind prog w) o' (G.map gKv ++ [(k, v)]) → Q () { s with heap := h', toks := s.toks + 1 }) :
    wpAny (model prog w) A (setItem (.ref dg) (.int k t) v) Q E s := by
  refine kda_set (knd := intKind prog w) (k := k) F N (UpdF.tail e1 (UpdF.tail e2 (UpdF.head ?_))) hd (intKind_is _ _ _ _) ?_ fun h' o' F' N' hd' => ?_
  · intro p hp
    rcases List.mem_cons.mp hp with hp | hp
    · rw [hp]; exact e3
    · exact e4 p hp
  · rw [List.length_map, sizeLine_eq]; omega
  · rw [stored_absent (gkv_none hv)] at hd'
    exact h h' o' F' N' hd'
theorem g_item_new {value slice : PySem.Expr} {news : List (Addr × Obj)} {v : Value} {Q : Value → Shared → Prop} (N : News h₀ L s.heap news) (hp : (dg, od) ∈ news) (hd : Obj.IsDictOf (intKind prog w) od (G.map gKv ++ [(k, v)])) (hv : ∀ g ∈ G, g.code ≠ k)
    (h : Q v { s with toks := s.toks + 1 }) (hs : subscripted slice false (.ref dg) (.int k t) = operate [.ref dg, .int k t] (getItem (.ref dg) (.int k t))) (hg : ∀ r, letTemporaryGo value (.ref dg) r = pure ()) :
    wpAny (model prog w) A (subscriptTail value slice (.ref dg) (.int k t)) Q E s := by
  refine kda_item (knd := intKind prog w) (k := k) (v := v) N hp hd (intKind_is _ _ _ _) ?_ h hs hg
  have e := gkv_none hv
  unfold valueAt at e ⊢
  rw [List.find?_append]
  rw [Option.map_eq_none_iff] at e
  rw [e]
  simp
theorem g_item_old {value slice : PySem.Expr} {news : List (Addr × Obj)} {G1 G2 : List Grp} {c : Int} {a : Addr} {kc : Nat} {gv : List Value} {pre : List Int} {tv : List Value} {Q : Value → Shared → Prop} (N : News h₀ L s.heap news) (hp : (dg, od) ∈ news) (hd : Obj.IsDictOf (intKind prog w) od (G.map gKv)) (hR : R1 pre tv G) (e : G = G1 ++ (⟨c, a, kc, gv⟩ : Grp) :: G2) (hk : c = k)
    (h : Q (.ref a) { s with toks := s.toks + 1 }) (hs : subscripted slice false (.ref dg) (.int k t) = operate [.ref dg, .int k t] (getItem (.ref dg) (.int k t))) (hg : ∀ r, letTemporaryGo value (.ref dg) r = pure ()) :
    wpAny (model prog w) A (subscriptTail value slice (.ref dg) (.int k t)) Q E s :=
  kda_item (knd := intKind prog w) (k := k) (v := .ref a) N hp hd (intKind_is _ _ _ _) (by subst e; exact gkv_some hR.nodup hk) h hs hg
variable {ws : List Value} {x : PySem.Str} {sto : List PySem.Str} {m₀ m' : PySem.Str → Option Value} {pre : List Int} {tv : List Value} {n : Int} {v : Value} {s₁ : Shared} {h' : Heap} {tk kt kg : Nat}
theorem end1_old {G1 G2 : List Grp} {gc : Int} {ga : Addr} {gk : Nat} {gv : List Value} (F : Fr h₀ L h' m') (N : News h₀ L h' ((ga, W.listOf (gv ++ [v]).toArray kg) :: (lt, W.listOf (tv ++ [v]).toArray kt) :: (dg, od) :: (sl, W.listOf ws.toArray 0) :: ((G1 ++ G2).map gObj ++ own)))
    (hd : Obj.IsDictOf (intKind prog w) od (G.map gKv)) (hR : R1 pre tv G) (hs : Sep [lt, dg, sl] G) (hO : OwnOff own (lt :: dg :: sl :: G.map (·.adr))) (eG : G = G1 ++ (⟨gc, ga, gk, gv⟩ : Grp) :: G2)
    (hc : gc = codeOf n) (hv : DatIn [] v (thingOf n)) (hm : ∀ z, z ≠ x → sto.contains z = false → m' z = m₀ z) :
    InvEndG h₀ L (fun m' nx => (sl, W.listOf ws.toArray 0) ∈ nx ∧ J1 prog w lt dg sl ws x sto m₀ (pre ++ [n]) m' nx) own s₁ { s₁ with heap := h', toks := tk } := by
  subst eG
  refine InvEndG.intro (nx := (lt, W.listOf (tv ++ [v]).toArray kt) :: (dg, od) :: (sl, W.listOf ws.toArray 0) :: (G1 ++ (⟨gc, ga, kg, gv ++ [v]⟩ : Grp) :: G2).map gObj) F N
    ⟨.tail _ (.tail _ (.head _)), G1 ++ (⟨gc, ga, kg, gv ++ [v]⟩ : Grp) :: G2, tv ++ [v], kt, od, rfl, ?_, ?_, hR.old (g := ⟨gc, ga, gk, gv⟩) hc hv, hm⟩ ?_ ?_ ?_
  · have e : (G1 ++ (⟨gc, ga, kg, gv ++ [v]⟩ : Grp) :: G2).map gKv = (G1 ++ (⟨gc, ga, gk, gv⟩ : Grp) :: G2).map gKv := by simp [gKv]
    rw [e]; exact hd
  · refine ⟨?_, ?_⟩
    · intro y hy
      rcases List.mem_append.mp hy with hy | hy
      · exact hs.off y (List.mem_append_left _ hy)
      · rcases List.mem_cons.mp hy with hy | hy
        · rw [hy]; exact hs.off (⟨gc, ga, gk, gv⟩ : Grp) (List.mem_append_right _ (.head _))
        · exact hs.off y (List.mem_append_right _ (.tail _ hy))
    · have := hs.apart
      rw [List.map_append, List.map_cons] at this ⊢
      exact this
  · have e : ((lt, W.listOf (tv ++ [v]).toArray kt) :: (dg, od) :: (sl, W.listOf ws.toArray 0) :: (G1 ++ (⟨gc, ga, kg, gv ++ [v]⟩ : Grp) :: G2).map gObj).map (·.1) = lt :: dg :: sl :: (G1 ++ (⟨gc, ga, gk, gv⟩ : Grp) :: G2).map (·.adr) := by
      simp only [List.map_cons, gobj_adr, List.map_append]; rfl
    rw [e]; exact hO
  · intro p hp
    simp only [List.map_append, List.map_cons, List.mem_cons, List.mem_append] at hp ⊢
    rcases hp with h | h | h | (h | h | h)
    · exact .inr (.inl h)
    · exact .inr (.inr (.inl h))
    · exact .inr (.inr (.inr (.inl h)))
    · exact .inr (.inr (.inr (.inr (.inl (.inl h)))))
    · exact .inl h
    · exact .inr (.inr (.inr (.inr (.inl (.inr h)))))
  · intro p hp
    exact .tail _ (.tail _ (.tail _ (.tail _ (List.mem_append_right _ hp))))
theorem end1_new {b : Addr} (F : Fr h₀ L h' m') (N : News h₀ L h' ((b, W.listOf [v].toArray kg) :: (lt, W.listOf (tv ++ [v]).toArray kt) :: (dg, od) :: (sl, W.listOf ws.toArray 0) :: (G.map gObj ++ own)))
    (hd : Obj.IsDictOf (intKind prog w) od (G.map gKv ++ [(k, .ref b)])) (hR : R1 pre tv G) (hs : Sep [lt, dg, sl] G) (hO : OwnOff own (lt :: dg :: sl :: G.map (·.adr)))
    (hb : lt < b ∧ dg < b ∧ sl < b ∧ AllLt b (G.map gObj ++ own)) (hk : k = codeOf n) (hn : ∀ g ∈ G, g.code ≠ k) (hv : DatIn [] v (thingOf n)) (hm : ∀ z, z ≠ x → sto.contains z = false → m' z = m₀ z) :
    InvEndG h₀ L (fun m' nx => (sl, W.listOf ws.toArray 0) ∈ nx ∧ J1 prog w lt dg sl ws x sto m₀ (pre ++ [n]) m' nx) own s₁ { s₁ with heap := h', toks := tk } := by
  subst hk
  have lt_of : ∀ {l : List (Addr × Obj)}, AllLt b l → ∀ p ∈ l, p.1 < b := by
    intro l
    induction l with
    | nil => intro _ p hp; exact nomatch hp
    | cons y r ih =>
      intro h p hp
      rcases List.mem_cons.mp hp with e | hp
      · rw [e]; exact h.1
      · exact ih h.2 p hp
  have hG : ∀ g ∈ G, g.adr < b := fun g hg => lt_of hb.2.2.2 (gObj g) (List.mem_append_left _ (List.mem_map.mpr ⟨g, hg, rfl⟩))
  have hW : ∀ p ∈ own, p.1 < b := fun p hp => lt_of hb.2.2.2 p (List.mem_append_right _ hp)
  refine InvEndG.intro (nx := (lt, W.listOf (tv ++ [v]).toArray kt) :: (dg, od) :: (sl, W.listOf ws.toArray 0) :: (G ++ [(⟨codeOf n, b, kg, [v]⟩ : Grp)]).map gObj) F N
    ⟨.tail _ (.tail _ (.head _)), G ++ [(⟨codeOf n, b, kg, [v]⟩ : Grp)], tv ++ [v], kt, od, rfl, ?_, ?_, hR.new hn hv, hm⟩ ?_ ?_ ?_
  · rw [List.map_append]; exact hd
  · refine ⟨?_, ?_⟩
    · intro y hy
      rcases List.mem_append.mp hy with hy | hy
      · exact hs.off y hy
      · rw [List.mem_singleton.mp hy]
        intro c hc
        simp only [List.mem_cons, List.not_mem_nil, or_false] at hc
        rcases hc with h | h | h <;> rw [h]
        · exact Nat.ne_of_gt hb.1
        · exact Nat.ne_of_gt hb.2.1
        · exact Nat.ne_of_gt hb.2.2.1
    · rw [List.map_append]
      refine List.nodup_append.mpr ⟨hs.apart, List.nodup_cons.mpr ⟨List.not_mem_nil, List.nodup_nil⟩, ?_⟩
      intro a ha c hc
      obtain ⟨g, hg, rfl⟩ := List.mem_map.mp ha
      rw [List.mem_singleton.mp hc]
      exact Nat.ne_of_lt (hG g hg)
  · intro p hp c hc
    simp only [List.map_append, List.map_cons, List.map_nil, gobj_adr, List.mem_cons, List.mem_append, List.not_mem_nil, or_false] at hc
    rcases hc with h | h | h | (h | h)
    · exact hO p hp c (by rw [h]; exact .head _)
    · exact hO p hp c (by rw [h]; exact .tail _ (.head _))
    · exact hO p hp c (by rw [h]; exact .tail _ (.tail _ (.head _)))
    · exact hO p hp c (.tail _ (.tail _ (.tail _ h)))
    · rw [h]; exact Nat.ne_of_lt (hW p hp)
  · intro p hp
    simp only [List.map_append, List.map_cons, List.map_nil, List.mem_cons, List.mem_append, List.not_mem_nil, or_false] at hp ⊢
    rcases hp with h | h | h | (h | h)
    · exact .inr (.inl h)
    · exact .inr (.inr (.inl h))
    · exact .inr (.inr (.inr (.inl h)))
    · exact .inr (.inr (.inr (.inr (.inl h))))
    · exact .inl h
  · intro p hp
    exact .tail _ (.tail _ (.tail _ (.tail _ (List.mem_append_right _ hp))))
end
theorem int_thing {n : Int} {t : Tok} (h : ¬ n.fmod 2 = 0) : DatIn [] (.int (n.fdiv 2) t) (thingOf n) := by unfold thingOf; rw [if_neg h]; exact .int _ _
theorem str_thing {n : Int} {t : Tok} (h : n.fmod 2 = 0) : DatIn [] (.str (PySem.Str.mk #[((n.fdiv 2).fmod 55296).toNat]) t) (thingOf n) := by unfold thingOf; rw [if_pos h]; exact .str _ _
theorem int_code {n : Int} (h : ¬ n.fmod 2 = 0) : n.fdiv 2 = codeOf n := by unfold codeOf; rw [if_neg h]
theorem str_code {n : Int} (h : n.fmod 2 = 0) : (n.fdiv 2).fmod 55296 = codeOf n := by unfold codeOf; rw [if_pos h]
theorem sto2 {a b z : PySem.Str} (h : ([a, b] : List PySem.Str).contains z = false) : z ≠ a ∧ z ≠ b ∧ ¬ (([a, b] : List PySem.Str).contains z = true) := by
  refine ⟨?_, ?_, by rw [h]; decide⟩ <;> (intro e; subst e; simp at h)

theorem g_sorted {prog : Program} {w : World} {A : Around} {E : Value → Shared → Prop} {s : Shared} {h₀ : Heap} {L dg : Addr} {m : PySem.Str → Option Value} {od : Obj} {G : List Grp} {news : List (Addr × Obj)} {Q : Value → Shared → Prop}
    (hh : A.handled = none) (F : Fr h₀ L s.heap m) (N : News h₀ L s.heap news) (hp : (dg, od) ∈ news) (hd : Obj.IsDictOf (intKind prog w) od (G.map gKv)) (lo : (dg == sysModules) = false) (hz : G.length < 64)
    (h : ∀ (D : Addr) (vs' : List Value) (cs : List Int) (c : Nat) (h' : Heap) (tk : Nat), Fr h₀ L h' m → News h₀ L h' ((D, W.listOf vs'.toArray c) :: news) → (∀ q ∈ news, q.1 < D) → IntsAre vs' cs → cs.Perm (G.map (·.code)) → cs.Pairwise (fun x y => x ≤ y) → cs.length < 64 → Q (.ref D) { s with heap := h', toks := tk }) :
    wpAny (model prog w) A (call (.builtin "sorted") [.ref dg]) Q E s := by
  obtain ⟨ep, hat⟩ := KdkAt.of hd
  have hA := hat.dictAt (N _ hp).1
  refine kdu_sorted (kdl_dict (knd := intKind prog w) (kvs := G.map gKv) (ep := ep) lo) hh F N hA (by rw [List.length_map, sizeLine_eq]; omega) fun B h' tk vs F' N' l1 hl hv => ?_
  have hI : IntsAre vs (G.map (·.code)) := by
    refine kdy_ints (by rw [hl, List.length_map, List.length_map]) fun j v hj => ?_
    obtain ⟨k, x, hx, hk⟩ := hv j v hj
    rw [List.getElem?_map] at hx
    obtain ⟨g, hg, e⟩ := Option.map_eq_some_iff.mp hx
    obtain ⟨t, ht⟩ := Flat.int_inv (kdl_flat_int hk)
    have ek : g.code = k := congrArg Prod.fst e
    exact ⟨k, by rw [List.getElem?_map, hg, ← ek]; rfl, t, ht⟩
  refine ksk_lsort (A := A.in1) (D := B) (its := vs.toArray) (n := 0) (vs := vs) (news' := fun o => (B, o) :: news) F' N' (fun o => Upd.head fun p hp => Nat.ne_of_lt (l1 p hp)) (by simp) hI (by rw [List.length_map]; exact hz) fun vs' ns' c h'' F'' N'' hI' hlen hP hS _ => ?_
  exact h B vs' ns' c h'' tk F'' N'' l1 hI' hP hS (by rw [hlen, List.length_map]; exact hz)
end Mine

-- the two nested loops
namespace Mine
def pairD (c : Int) (d : Dat) : Dat := Dat.tuple [Dat.int c, d]
def dueOf (ns cs : List Int) : List Dat := cs.flatMap fun c => (grouped ns c).map (pairD c)
theorem dueOf_snoc (ns cs : List Int) (c : Int) : dueOf ns (cs ++ [c]) = dueOf ns cs ++ (grouped ns c).map (pairD c) := by simp [dueOf]
theorem dueOf_len (ns cs : List Int) : (dueOf ns cs).length ≤ cs.length * ns.length := by
  induction cs with
  | nil => simp [dueOf]
  | cons c r ih =>
    have e : dueOf ns (c :: r) = (grouped ns c).map (pairD c) ++ dueOf ns r := by simp [dueOf]
    have q := grouped_len ns c
    rw [e, List.length_append, List.length_map, List.length_cons, Nat.add_mul]
    omega
theorem dueOf_few {ns cs : List Int} (h1 : ns.length < 64) (h2 : cs.length < 64) : (dueOf ns cs).length < 4096 := by
  have h := dueOf_len ns cs
  have : cs.length * ns.length ≤ 63 * 63 := Nat.mul_le_mul (by omega) (by omega)
  omega
abbrev St2 := List Value × List Dat × Nat
def Led2 (du : Addr) (c : St2) : List (Addr × Obj) := [(du, W.listOf c.1.toArray c.2.2)]
def Fa2 (l : List (Addr × Obj)) (c : St2) : Prop := DatAll l c.1 c.2.1
def Fa3 (rest base l : List (Addr × Obj)) (c : St2) : Prop := ∃ tl, l = rest ++ tl ∧ DatAll (base ++ tl) c.1 c.2.1
def No2 (_ : St2) : List (PySem.Str × Value) := []
def P2 {τ : Type} (f : τ → List Dat) (pre : τ) (c : St2) : Prop := c.2.1 = f pre
theorem sub_nil {news l : List (Addr × Obj)} {vs : List Value} {ds : List Dat} (h : DatAll news vs ds) (hs : ∀ p ∈ news, p ∈ l) : DatAll l vs ds := h.mono hs
section
variable {prog : Program} {w : World} {A : Around} {E : Value → Shared → Prop} {s : Shared} {env : Env} {h₀ : Heap} {x : PySem.Str} {body : List Stmt} {Q : Flow → Shared → Prop}
set_option maxHeartbeats 1600000 in
theorem loop2 {du D lt dg sl : Addr} {o1 od o3 : Obj} {G : List Grp} {cv : List Value} {c0 : Nat} {cs ns : List Int} {m₀ : PySem.Str → Option Value} (sto : List PySem.Str)
    (hh : A.handled = none) (F : Fr h₀ env.locals s.heap m₀) (N : News h₀ env.locals s.heap ((D, W.listOf cv.toArray c0) :: (du, W.listOf #[] 0) :: (lt, o1) :: (dg, od) :: (sl, o3) :: G.map gObj))
    (hi : IntsAre cv cs) {tv : List Value} (_ : R1 ns tv G) (h64 : cs.length < 64) (hn : ns.length < 64)
    (turn : ∀ (dv : List Value) (kd : Nat) (tl : List (Addr × Obj)) (pre : List Int) (n : Int) (post : List Int) (t : Tok) (u : PySem.Str → Option Value) (h : Heap) (tk : Nat) (own : List (Addr × Obj)),
      cs = pre ++ n :: post → n ∈ cs → KdSep own tl (du :: D :: lt :: dg :: sl :: G.map (·.adr)) → OwnOff (G.map gObj ++ (tl ++ own)) [du] →
      DatAll ((D, W.listOf cv.toArray c0) :: (lt, o1) :: (dg, od) :: (sl, o3) :: (G.map gObj ++ tl)) dv (dueOf ns pre) → dv.length < 4096 →
      Fr h₀ env.locals h (fun y => if y = x then some (.int n t) else if sto.contains y = true then u y else m₀ y) →
      News h₀ env.locals h ((du, W.listOf dv.toArray kd) :: (D, W.listOf cv.toArray c0) :: (lt, o1) :: (dg, od) :: (sl, o3) :: (G.map gObj ++ (tl ++ own))) →
      wpAny (model prog w) A (execs body env) (InvPostG h₀ env.locals (KdS (Led2 du) ((D, W.listOf cv.toArray c0) :: (lt, o1) :: (dg, od) :: (sl, o3) :: G.map gObj) No2 Fa2 x sto m₀ (P2 (dueOf ns)) (du :: D :: lt :: dg :: sl :: G.map (·.adr)) (pre ++ [n])) own { s with heap := h, toks := tk } Q) E { s with heap := h, toks := tk })
    (hG : OwnOff (G.map gObj) [du])
    (done : ∀ (dv : List Value) (kd : Nat) (tl : List (Addr × Obj)) (u : PySem.Str → Option Value) (h : Heap) (tk : Nat), OwnOff tl (du :: D :: lt :: dg :: sl :: G.map (·.adr)) →
      DatAll ((D, W.listOf cv.toArray c0) :: (lt, o1) :: (dg, od) :: (sl, o3) :: (G.map gObj ++ tl)) dv (dueOf ns cs) → dv.length < 4096 →
      Fr h₀ env.locals h (fun y => if y = x then u y else if sto.contains y = true then u y else m₀ y) →
      News h₀ env.locals h ((du, W.listOf dv.toArray kd) :: (D, W.listOf cv.toArray c0) :: (lt, o1) :: (dg, od) :: (sl, o3) :: (G.map gObj ++ tl)) → Q .next { s with heap := h, toks := tk }) :
    wpAny (model prog w) A (pyIter (.ref D)) (fun it s₂ => LoopAtV prog w A h₀ env x body Q E it s₂) E s := by
  have hadr : ∀ c : St2, (Led2 du c ++ ((D, W.listOf cv.toArray c0) :: (lt, o1) :: (dg, od) :: (sl, o3) :: G.map gObj)).map (·.1) = du :: D :: lt :: dg :: sl :: G.map (·.adr) := by
    intro c
    simp only [Led2, List.cons_append, List.nil_append, List.map_cons, gobj_adr]
  refine kd_listI (σ := St2) (Led2 du) ((D, W.listOf cv.toArray c0) :: (lt, o1) :: (dg, od) :: (sl, o3) :: G.map gObj) No2 Fa2 sto (P2 (dueOf ns)) (du :: D :: lt :: dg :: sl :: G.map (·.adr)) ([], [], 0)
    hh (.head _) hi F N ?_ hadr DatAll.nil (fun _ h => (nomatch h)) rfl ?_ ?_
  · intro p hp
    simp only [Led2, List.cons_append, List.nil_append, List.append_nil, List.mem_cons] at hp ⊢
    rcases hp with h | h | h
    · exact .inr (.inl h)
    · exact .inl h
    · exact .inr (.inr h)
  · rintro ⟨dv, ds, kd⟩ tl pre post n t u h tk own e hm hsep hoff hf hp F₁ N₁
    have hp' : ds = dueOf ns pre := hp
    subst hp'
    have hf' : DatAll ((D, W.listOf cv.toArray c0) :: (lt, o1) :: (dg, od) :: (sl, o3) :: (G.map gObj ++ tl)) dv (dueOf ns pre) := hf
    have hl : dv.length < 4096 := by
      rw [hf'.length]
      exact dueOf_few hn (by have := congrArg List.length e; simp only [List.length_append, List.length_cons] at this; omega)
    refine turn dv kd tl pre n post t u h tk own e hm hsep (off_append hG fun p hp b hb => hoff p hp b ?_) hf' hl F₁ N₁
    rw [List.mem_singleton.mp hb]; exact .head _
  · rintro ⟨dv, ds, kd⟩ tl u h tk hoff hf hp F₁ N₁
    have hp' : ds = dueOf ns cs := hp
    subst hp'
    have hf' : DatAll ((D, W.listOf cv.toArray c0) :: (lt, o1) :: (dg, od) :: (sl, o3) :: (G.map gObj ++ tl)) dv (dueOf ns cs) := hf
    exact done dv kd tl u h tk hoff hf' (by rw [hf'.length]; exact dueOf_few hn h64) F₁ N₁
set_option maxHeartbeats 1600000 in
theorem loop3 {du a : Addr} {kc kd : Nat} {rest base : List (Addr × Obj)} {gv dv : List Value} {ds ds0 : List Dat} {c : Int} {m₀ : PySem.Str → Option Value} (sto : List PySem.Str)
    (hh : A.handled = none) (F : Fr h₀ env.locals s.heap m₀) (N : News h₀ env.locals s.heap ((du, W.listOf dv.toArray kd) :: rest)) (hm : (a, W.listOf gv.toArray kc) ∈ rest) (hg : DatAll [] gv ds) (hd : DatAll base dv ds0) (hl : dv.length < 4096) (h64 : ds.length < 64)
    (turn : ∀ (dv' : List Value) (kd' : Nat) (tl : List (Addr × Obj)) (pre : List Dat) (d : Dat) (post : List Dat) (v : Value) (u : PySem.Str → Option Value) (h : Heap) (tk : Nat) (own : List (Addr × Obj)),
      ds = pre ++ d :: post → d ∈ ds → DatIn [] v d → KdSep own tl (du :: rest.map (·.1)) → OwnOff (tl ++ own) (du :: rest.map (·.1)) →
      DatAll (base ++ tl) dv' (ds0 ++ pre.map (pairD c)) → dv'.length < 8192 →
      Fr h₀ env.locals h (fun y => if y = x then some v else if sto.contains y = true then u y else m₀ y) →
      News h₀ env.locals h ((du, W.listOf dv'.toArray kd') :: (rest ++ (tl ++ own))) →
      wpAny (model prog w) A (execs body env) (InvPostG h₀ env.locals (KdS (Led2 du) rest No2 (Fa3 rest base) x sto m₀ (P2 fun p => ds0 ++ p.map (pairD c)) (du :: rest.map (·.1)) (pre ++ [d])) own { s with heap := h, toks := tk } Q) E { s with heap := h, toks := tk })
    (done : ∀ (dv' : List Value) (kd' : Nat) (tl : List (Addr × Obj)) (u : PySem.Str → Option Value) (h : Heap) (tk : Nat), OwnOff tl (du :: rest.map (·.1)) →
      DatAll (base ++ tl) dv' (ds0 ++ ds.map (pairD c)) →
      Fr h₀ env.locals h (fun y => if y = x then u y else if sto.contains y = true then u y else m₀ y) →
      News h₀ env.locals h ((du, W.listOf dv'.toArray kd') :: (rest ++ tl)) → Q .next { s with heap := h, toks := tk }) :
    wpAny (model prog w) A (pyIter (.ref a)) (fun it s₂ => LoopAtV prog w A h₀ env x body Q E it s₂) E s := by
  have hl0 : ds0.length < 4096 := by rw [← hd.length]; exact hl
  refine kd_listL (σ := St2) (l := a) (vs := gv) (ds := ds) (nn := kc) (Led2 du) rest No2 (Fa3 rest base) sto (P2 fun p => ds0 ++ p.map (pairD c)) (du :: rest.map (·.1)) (dv, ds0, kd)
    hh hm (hg.mono fun _ h => absurd h List.not_mem_nil) F N ?_ (fun _ => rfl) ?_ (fun _ h => (nomatch h)) (by show ds0 = ds0 ++ ([] : List Dat).map (pairD c); simp) ?_ ?_
  · intro p hp
    simp only [Led2, List.cons_append, List.nil_append, List.append_nil, List.mem_cons] at hp ⊢
    exact hp
  · exact ⟨[], rfl, by rw [List.append_nil]; exact hd⟩
  · rintro ⟨dv', ds', kd'⟩ tl pre d post v u h tk own e hmem hD hsep hoff hf hp F₁ N₁
    have hp' : ds' = ds0 ++ pre.map (pairD c) := hp
    subst hp'
    have hf' : DatAll (base ++ tl) dv' (ds0 ++ pre.map (pairD c)) := by
      obtain ⟨tl9, e9, h9⟩ := hf
      rw [List.append_cancel_left e9]; exact h9
    have hl' : dv'.length < 8192 := by
      have e1 := congrArg List.length e
      rw [hf'.length]
      simp only [List.length_append, List.length_cons, List.length_map] at e1 ⊢
      omega
    have hD' : DatIn [] v d := by
      have hlen := hg.length
      have hi : pre.length < ds.length := by rw [e]; simp
      obtain ⟨v', hv', hDv⟩ := hg.get hi
      have ed : ds[pre.length]'hi = d := by simp [e]
      rw [ed] at hDv
      cases hDv with
      | none => cases hD; exact .none
      | bool b => cases hD; exact .bool b
      | int i t => cases hD; exact .int _ _
      | str y t => cases hD; exact .str _ _
      | bytes b t => cases hD; exact .bytes _ _
      | tuple hm' _ => exact nomatch hm'
      | list hm' _ => exact nomatch hm'
    exact turn dv' kd' tl pre d post v u h tk own e hmem hD' hsep hoff hf' hl' F₁ N₁
  · rintro ⟨dv', ds', kd'⟩ tl u h tk hoff hf hp F₁ N₁
    have hp' : ds' = ds0 ++ ds.map (pairD c) := hp
    subst hp'
    obtain ⟨tl9, e9, h9⟩ := hf
    exact done dv' kd' tl u h tk hoff (by rw [List.append_cancel_left e9]; exact h9) F₁ N₁
end
section
variable {prog : Program} {w : World} {A : Around} {E : Value → Shared → Prop} {h₀ : Heap} {L : Addr} {x : PySem.Str} {sto : List PySem.Str} {m₀ m' : PySem.Str → Option Value} {s₁ : Shared} {h' : Heap} {tk : Nat}
-- the end of a turn of the inner loop: one more tuple
theorem end3 {du T : Addr} {kd nT : Nat} {rest base tl own : List (Addr × Obj)} {dv : List Value} {ds0 pre : List Dat} {d : Dat} {v : Value} {c : Int} {t : Tok} (h0 : KdSep own tl (du :: rest.map (·.1))) (F : Fr h₀ L h' m')
    (N : News h₀ L h' ((T, ({ cls := .type "tuple", data := .seq [Value.int c t, v].toArray nT } : Obj)) :: (du, W.listOf (dv ++ [Value.ref T]).toArray kd) :: (rest ++ (tl ++ own))))
    (hT : du < T ∧ ∀ p ∈ rest ++ (tl ++ own), p.1 < T) (hd : DatAll (base ++ tl) dv (ds0 ++ pre.map (pairD c))) (hv : DatIn [] v d) (hm : ∀ z, z ≠ x → sto.contains z = false → m' z = m₀ z) :
    InvEndG h₀ L (KdS (Led2 du) rest No2 (Fa3 rest base) x sto m₀ (P2 fun p => ds0 ++ p.map (pairD c)) (du :: rest.map (·.1)) (pre ++ [d])) own s₁ { s₁ with heap := h', toks := tk } := by
  refine kd_end (tl := tl) ((dv ++ [Value.ref T], (ds0 ++ pre.map (pairD c)) ++ [pairD c d], kd) : St2) [(T, ({ cls := .type "tuple", data := .seq [Value.int c t, v].toArray nT } : Obj))] h0 F N ?_ ?_ rfl ?_ ?_ (fun _ h => (nomatch h)) (fun z h1 _ h3 => hm z h1 h3) ?_ ?_
  · intro p hp
    simp only [Led2, List.cons_append, List.nil_append, List.mem_cons, List.mem_append] at hp ⊢
    rcases hp with h | (h | (h | h))
    · exact .inr (.inl h)
    · exact .inr (.inr (.inl h))
    · exact .inl h
    · exact .inr (.inr (.inr (.inl h)))
  · intro p hp
    exact .tail _ (.tail _ (List.mem_append_right _ (List.mem_append_right _ hp)))
  · intro q hq b hb
    rw [List.mem_singleton.mp hq]
    rcases List.mem_cons.mp hb with hb | hb
    · rw [hb]; exact Nat.ne_of_lt hT.1
    · obtain ⟨p, hp, e⟩ := List.mem_map.mp hb
      rw [← e]; exact Nat.ne_of_lt (hT.2 p (List.mem_append_left _ hp))
  · intro q hq p hp
    rw [List.mem_singleton.mp hq]
    exact Nat.ne_of_lt (hT.2 p (List.mem_append_right _ (List.mem_append_right _ hp)))
  · refine ⟨[(T, ({ cls := .type "tuple", data := .seq [Value.int c t, v].toArray nT } : Obj))] ++ tl, rfl, ?_⟩
    refine (hd.mono kd_sub).append (.cons (DatIn.tuple (kd_new (.head _)) (.cons (.int c t) (.cons (hv.mono fun _ h => absurd h List.not_mem_nil) .nil))) .nil)
  · show (ds0 ++ pre.map (pairD c)) ++ [pairD c d] = ds0 ++ (pre ++ [d]).map (pairD c)
    simp
-- the end of a turn of the outer loop
theorem end2 {du D lt dg sl : Addr} {o0 o1 od o3 : Obj} {G : List Grp} {ns pre : List Int} {n : Int} {kd : Nat} {tl own add : List (Addr × Obj)} {dv : List Value} (h0 : KdSep own tl (du :: D :: lt :: dg :: sl :: G.map (·.adr))) (F : Fr h₀ L h' m')
    (N : News h₀ L h' ((du, W.listOf dv.toArray kd) :: (((D, o0) :: (lt, o1) :: (dg, od) :: (sl, o3) :: (G.map gObj ++ (tl ++ own))) ++ add)))
    (hA : OwnOff add (du :: ((D, o0) :: (lt, o1) :: (dg, od) :: (sl, o3) :: (G.map gObj ++ (tl ++ own))).map (·.1)))
    (hd : DatAll (((D, o0) :: (lt, o1) :: (dg, od) :: (sl, o3) :: (G.map gObj ++ tl)) ++ add) dv (dueOf ns pre ++ (grouped ns n).map (pairD n))) (hm : ∀ z, z ≠ x → sto.contains z = false → m' z = m₀ z) :
    InvEndG h₀ L (KdS (Led2 du) ((D, o0) :: (lt, o1) :: (dg, od) :: (sl, o3) :: G.map gObj) No2 Fa2 x sto m₀ (P2 (dueOf ns)) (du :: D :: lt :: dg :: sl :: G.map (·.adr)) (pre ++ [n])) own s₁ { s₁ with heap := h', toks := tk } := by
  refine kd_end (tl := tl) ((dv, dueOf ns pre ++ (grouped ns n).map (pairD n), kd) : St2) add h0 F N ?_ ?_ ?_ ?_ ?_ (fun _ h => (nomatch h)) (fun z h1 _ h3 => hm z h1 h3) (hd.mono fun p hp => ?_) ?_
  · intro p hp
    simp only [Led2, List.cons_append, List.nil_append, List.mem_cons, List.mem_append] at hp ⊢
    rcases hp with h | h | h | h | h | (h | (h | h))
    · exact .inl h
    · exact .inr (.inl h)
    · exact .inr (.inr (.inl h))
    · exact .inr (.inr (.inr (.inl h)))
    · exact .inr (.inr (.inr (.inr (.inl h))))
    · exact .inr (.inr (.inr (.inr (.inr (.inl (.inl h))))))
    · exact .inr (.inr (.inr (.inr (.inr (.inr h)))))
    · exact .inr (.inr (.inr (.inr (.inr (.inl (.inr (.inl h)))))))
  · intro p hp
    simp only [List.cons_append, List.mem_cons, List.mem_append]
    exact .inr (.inr (.inr (.inr (.inr (.inl (.inr (.inr hp)))))))
  · simp only [Led2, List.cons_append, List.nil_append, List.map_cons, gobj_adr]
  · intro q hq b hb
    refine fun e => hA q hq b ?_ e.symm
    simp only [List.map_cons, List.map_append, gobj_adr, List.mem_cons, List.mem_append] at hb ⊢
    rcases hb with h | h | h | h | h | h
    · exact .inl h
    · exact .inr (.inl h)
    · exact .inr (.inr (.inl h))
    · exact .inr (.inr (.inr (.inl h)))
    · exact .inr (.inr (.inr (.inr (.inl h))))
    · exact .inr (.inr (.inr (.inr (.inr (.inl h)))))
  · intro q hq p hp
    have hin : p ∈ (D, o0) :: (lt, o1) :: (dg, od) :: (sl, o3) :: (G.map gObj ++ (tl ++ own)) := .tail _ (.tail _ (.tail _ (.tail _ (List.mem_append_right _ (List.mem_append_right _ hp)))))
    exact fun e => hA q hq p.1 (.tail _ (List.mem_map.mpr ⟨p, hin, rfl⟩)) e.symm
  · simp only [List.cons_append, List.mem_cons, List.mem_append] at hp ⊢
    rcases hp with h | h | h | h | ((h | h) | h)
    · exact .inl h
    · exact .inr (.inl h)
    · exact .inr (.inr (.inl h))
    · exact .inr (.inr (.inr (.inl h)))
    · exact .inr (.inr (.inr (.inr (.inl h))))
    · exact .inr (.inr (.inr (.inr (.inr (.inr h)))))
    · exact .inr (.inr (.inr (.inr (.inr (.inl h)))))
  · show dueOf ns pre ++ (grouped ns n).map (pairD n) = dueOf ns (pre ++ [n])
    rw [dueOf_snoc]
end

theorem allLt_mem {b : Nat} : ∀ {l : List (Addr × Obj)}, AllLt b l → ∀ p ∈ l, p.1 < b
  | [], _, _, hp => nomatch hp
  | _ :: _, h, p, hp => by
    rcases List.mem_cons.mp hp with e | hp
    · subst e; exact h.1
    · exact allLt_mem h.2 p hp
theorem grp_mem {G G1 G2 : List Grp} {c : Int} {a : Addr} {kc : Nat} {gv : List Value} {r : List (Addr × Obj)} (e : G = G1 ++ (⟨c, a, kc, gv⟩ : Grp) :: G2) : (a, W.listOf gv.toArray kc) ∈ G.map gObj ++ r := by
  subst e
  exact List.mem_append_left _ (List.mem_map.mpr ⟨⟨c, a, kc, gv⟩, List.mem_append_right _ (.head _), rfl⟩)
section
variable {prog : Program} {w : World} {A : Around} {E : Value → Shared → Prop} {s : Shared} {env : Env} {h₀ : Heap} {x : PySem.Str} {body : List Stmt} {Q : Flow → Shared → Prop}
theorem g_item_in {value slice : PySem.Expr} {L dg : Addr} {od : Obj} {G : List Grp} {n : Int} {t : Tok} {ns cs : List Int} {tv : List Value} {news : List (Addr × Obj)} {Q : Value → Shared → Prop} (N : News h₀ L s.heap news) (hp : (dg, od) ∈ news) (hd : Obj.IsDictOf (intKind prog w) od (G.map gKv)) (hR : R1 ns tv G)
    (hP : cs.Perm (G.map (·.code))) (hm : n ∈ cs)
    (h : ∀ (G1 G2 : List Grp) (a : Addr) (kc : Nat) (gv : List Value), G = G1 ++ (⟨n, a, kc, gv⟩ : Grp) :: G2 → DatAll [] gv (grouped ns n) → Q (.ref a) { s with toks := s.toks + 1 })
    (hs : subscripted slice false (.ref dg) (.int n t) = operate [.ref dg, .int n t] (getItem (.ref dg) (.int n t))) (hg : ∀ r, letTemporaryGo value (.ref dg) r = pure ()) :
    wpAny (model prog w) A (subscriptTail value slice (.ref dg) (.int n t)) Q E s := by
  rcases gkv_cases G n with h9 | ⟨G1, g, G2, e, hk⟩
  · obtain ⟨g, hg', e⟩ := List.mem_map.mp (hP.mem_iff.mp hm)
    exact absurd e (h9 g hg')
  · obtain ⟨c, a, kc, gv⟩ := g
    have hk' : c = n := hk
    subst hk'
    have hg9 : (⟨c, a, kc, gv⟩ : Grp) ∈ G := by rw [e]; exact List.mem_append_right _ (.head _)
    exact g_item_old N hp hd hR e rfl (h G1 G2 a kc gv e (hR.each _ hg9)) hs hg
theorem loop3s {du D lt dg sl a : Addr} {o0 o1 od o3 : Obj} {kc kd : Nat} {G G1 G2 : List Grp} {tl0 own0 : List (Addr × Obj)} {gv dv : List Value} {ns pre0 : List Int} {n : Int} {m₀ : PySem.Str → Option Value} (sto : List PySem.Str)
    (hh : A.handled = none) (F : Fr h₀ env.locals s.heap m₀) (N : News h₀ env.locals s.heap ((du, W.listOf dv.toArray kd) :: (D, o0) :: (lt, o1) :: (dg, od) :: (sl, o3) :: (G.map gObj ++ (tl0 ++ own0)))) (hE : G = G1 ++ (⟨n, a, kc, gv⟩ : Grp) :: G2)
    (hg : DatAll [] gv (grouped ns n)) (hd : DatAll ((D, o0) :: (lt, o1) :: (dg, od) :: (sl, o3) :: (G.map gObj ++ tl0)) dv (dueOf ns pre0)) (hl : dv.length < 4096) (hns : ns.length < 64) (hO : OwnOff (G.map gObj ++ (tl0 ++ own0)) [du])
    (turn : ∀ (dv' : List Value) (kd' : Nat) (tl : List (Addr × Obj)) (pre : List Dat) (d : Dat) (post : List Dat) (v : Value) (u : PySem.Str → Option Value) (h : Heap) (tk : Nat) (own : List (Addr × Obj)),
      DatIn [] v d → KdSep own tl (du :: ((D, o0) :: (lt, o1) :: (dg, od) :: (sl, o3) :: (G.map gObj ++ (tl0 ++ own0))).map (·.1)) → OwnOff ((G.map gObj ++ (tl0 ++ own0)) ++ (tl ++ own)) [du] →
      DatAll (((D, o0) :: (lt, o1) :: (dg, od) :: (sl, o3) :: (G.map gObj ++ tl0)) ++ tl) dv' (dueOf ns pre0 ++ pre.map (pairD n)) → dv'.length < 8192 →
      Fr h₀ env.locals h (fun y => if y = x then some v else if sto.contains y = true then u y else m₀ y) →
      News h₀ env.locals h ((du, W.listOf dv'.toArray kd') :: (D, o0) :: (lt, o1) :: (dg, od) :: (sl, o3) :: ((G.map gObj ++ (tl0 ++ own0)) ++ (tl ++ own))) →
      wpAny (model prog w) A (execs body env) (InvPostG h₀ env.locals (KdS (Led2 du) ((D, o0) :: (lt, o1) :: (dg, od) :: (sl, o3) :: (G.map gObj ++ (tl0 ++ own0))) No2 (Fa3 ((D, o0) :: (lt, o1) :: (dg, od) :: (sl, o3) :: (G.map gObj ++ (tl0 ++ own0))) ((D, o0) :: (lt, o1) :: (dg, od) :: (sl, o3) :: (G.map gObj ++ tl0))) x sto m₀
        (P2 fun p => dueOf ns pre0 ++ p.map (pairD n)) (du :: ((D, o0) :: (lt, o1) :: (dg, od) :: (sl, o3) :: (G.map gObj ++ (tl0 ++ own0))).map (·.1)) (pre ++ [d])) own { s with heap := h, toks := tk } Q) E { s with heap := h, toks := tk })
    (done : ∀ (dv' : List Value) (kd' : Nat) (tl : List (Addr × Obj)) (u : PySem.Str → Option Value) (h : Heap) (tk : Nat), OwnOff tl (du :: ((D, o0) :: (lt, o1) :: (dg, od) :: (sl, o3) :: (G.map gObj ++ (tl0 ++ own0))).map (·.1)) →
      DatAll (((D, o0) :: (lt, o1) :: (dg, od) :: (sl, o3) :: (G.map gObj ++ tl0)) ++ tl) dv' (dueOf ns pre0 ++ (grouped ns n).map (pairD n)) →
      Fr h₀ env.locals h (fun y => if y = x then u y else if sto.contains y = true then u y else m₀ y) →
      News h₀ env.locals h ((du, W.listOf dv'.toArray kd') :: (D, o0) :: (lt, o1) :: (dg, od) :: (sl, o3) :: ((G.map gObj ++ (tl0 ++ own0)) ++ tl)) → Q .next { s with heap := h, toks := tk }) :
    wpAny (model prog w) A (pyIter (.ref a)) (fun it s₂ => LoopAtV prog w A h₀ env x body Q E it s₂) E s := by
  refine loop3 (c := n) (base := (D, o0) :: (lt, o1) :: (dg, od) :: (sl, o3) :: (G.map gObj ++ tl0)) sto hh F N (.tail _ (.tail _ (.tail _ (.tail _ (grp_mem hE))))) hg hd hl (Nat.lt_of_le_of_lt (grouped_len ns n) hns)
    (fun dv' kd' tl pre d post v u h tk own _ _ hD hsep hoff hf hl' F₁ N₁ => turn dv' kd' tl pre d post v u h tk own hD hsep (off_append hO fun p hp b hb => hoff p hp b ?_) hf hl' F₁ N₁) done
  rw [List.mem_singleton.mp hb]; exact .head _
end
section
variable {h₀ : Heap} {L : Addr} {x : PySem.Str} {sto : List PySem.Str} {m₀ m' : PySem.Str → Option Value} {s₁ : Shared} {h' : Heap} {tk : Nat}
theorem end3s {du D lt dg sl T : Addr} {o0 o1 od o3 : Obj} {kd nT : Nat} {t0 base tl own : List (Addr × Obj)} {dv : List Value} {ds0 pre : List Dat} {d : Dat} {v : Value} {c : Int} {t : Tok} (h0 : KdSep own tl (du :: ((D, o0) :: (lt, o1) :: (dg, od) :: (sl, o3) :: t0).map (·.1))) (F : Fr h₀ L h' m')
    (N : News h₀ L h' ((T, ({ cls := .type "tuple", data := .seq [Value.int c t, v].toArray nT } : Obj)) :: (du, W.listOf (dv ++ [Value.ref T]).toArray kd) :: (D, o0) :: (lt, o1) :: (dg, od) :: (sl, o3) :: (t0 ++ (tl ++ own))))
    (hT : du < T ∧ D < T ∧ lt < T ∧ dg < T ∧ sl < T ∧ AllLt T (t0 ++ (tl ++ own))) (hd : DatAll (base ++ tl) dv (ds0 ++ pre.map (pairD c))) (hv : DatIn [] v d) (hm : ∀ z, z ≠ x → sto.contains z = false → m' z = m₀ z) :
    InvEndG h₀ L (KdS (Led2 du) ((D, o0) :: (lt, o1) :: (dg, od) :: (sl, o3) :: t0) No2 (Fa3 ((D, o0) :: (lt, o1) :: (dg, od) :: (sl, o3) :: t0) base) x sto m₀ (P2 fun p => ds0 ++ p.map (pairD c)) (du :: ((D, o0) :: (lt, o1) :: (dg, od) :: (sl, o3) :: t0).map (·.1)) (pre ++ [d])) own s₁ { s₁ with heap := h', toks := tk } := by
  refine end3 h0 F N ⟨hT.1, fun p hp => ?_⟩ hd hv hm
  simp only [List.cons_append, List.mem_cons] at hp
  rcases hp with h | h | h | h | h
  · rw [h]; exact hT.2.1
  · rw [h]; exact hT.2.2.1
  · rw [h]; exact hT.2.2.2.1
  · rw [h]; exact hT.2.2.2.2.1
  · exact allLt_mem hT.2.2.2.2.2 p h
end
theorem sto1 {a z : PySem.Str} (h : ([a] : List PySem.Str).contains z = false) : z ≠ a ∧ ¬ (([a] : List PySem.Str).contains z = true) := by
  refine ⟨?_, by rw [h]; decide⟩
  intro e; subst e; simp at h
theorem nil_no {z : PySem.Str} : ¬ (([] : List PySem.Str).contains z = true) := by simp
theorem off_of_lt {G : List Grp} {du : Addr} {P1 P2 P3 : Prop} (h : P1 ∧ P2 ∧ P3 ∧ AllLt du (G.map gObj)) : OwnOff (G.map gObj) [du] := by
  intro p hp b hb
  rw [List.mem_singleton.mp hb]
  exact Nat.ne_of_lt (allLt_mem h.2.2.2 p hp)
end Mine

-- the plain law
namespace Mine
-- a list that rises by its keys is its classes, one behind the other
theorem split_least {α : Type} {ps : List (Int × α)} {c : Int} (hs : ps.Pairwise fun p q => p.1 ≤ q.1) (hc : ∀ p ∈ ps, c ≤ p.1) :
    ps = ps.filter (fun p => decide (p.1 = c)) ++ ps.filter (fun p => decide (p.1 ≠ c)) := by
  induction ps with
  | nil => rfl
  | cons p r ih =>
    have h := List.pairwise_cons.mp hs
    by_cases e : p.1 = c
    · rw [List.filter_cons_of_pos (by simpa using e), List.filter_cons_of_neg (by simpa using e), List.cons_append, ← ih h.2 fun q hq => hc q (.tail _ hq)]
    · have hlt : c < p.1 := by have := hc p (.head _); omega
      have e1 : r.filter (fun p => decide (p.1 = c)) = [] := List.filter_eq_nil_iff.mpr fun q hq => by have := h.1 q hq; simp; omega
      have e2 : r.filter (fun p => decide (p.1 ≠ c)) = r := List.filter_eq_self.mpr fun q hq => by have := h.1 q hq; simp; omega
      rw [List.filter_cons_of_neg (by simpa using e), List.filter_cons_of_pos (by simpa using e), e1, e2]; rfl
theorem classes {α : Type} : ∀ {cs : List Int} {ps : List (Int × α)}, ps.Pairwise (fun p q => p.1 ≤ q.1) → cs.Pairwise (fun x y => x < y) → (∀ p ∈ ps, p.1 ∈ cs) → ps = cs.flatMap fun c => ps.filter fun p => decide (p.1 = c)
  | [], ps, _, _, hm => by
    cases ps with
    | nil => rfl
    | cons p r => exact absurd (hm p (.head _)) List.not_mem_nil
  | c :: cs, ps, hs, hc, hm => by
    have h := List.pairwise_cons.mp hc
    have hle : ∀ p ∈ ps, c ≤ p.1 := fun p hp => by
      rcases List.mem_cons.mp (hm p hp) with e | e
      · omega
      · have := h.1 _ e; omega
    have ih := classes (cs := cs) (ps := ps.filter fun p => decide (p.1 ≠ c)) (hs.sublist List.filter_sublist) h.2 (fun p hp => by
      have q := List.mem_filter.mp hp
      rcases List.mem_cons.mp (hm p q.1) with e | e
      · exact absurd e (by simpa using q.2)
      · exact e)
    have e := split_least hs hle
    rw [List.flatMap_cons]
    conv => lhs; rw [e, ih]
    refine congrArg (fun y => ps.filter (fun p => decide (p.1 = c)) ++ y) ?_
    rw [List.flatMap_def, List.flatMap_def]
    refine congrArg List.flatten (List.map_congr_left fun x hx => ?_)
    rw [List.filter_filter]
    refine List.filter_congr fun p _ => ?_
    have := h.1 x hx
    by_cases e : p.1 = x
    · simp [e]; omega
    · simp [e]
theorem group_of (c : Int) : ∀ {ns : List Int} {tv : List Value}, DatAll [] tv (ns.map thingOf) → DatAll [] ((((ns.map codeOf).zip tv).filter fun p => decide (p.1 = c)).map Prod.snd) (grouped ns c)
  | [], _, h => by cases h; exact .nil
  | n :: ns, _, h => by
    rw [List.map_cons] at h
    cases h with
    | cons hv r =>
      have ih := group_of c r
      by_cases e : codeOf n = c
      · simp only [List.map_cons, List.zip_cons_cons, grouped]
        rw [List.filter_cons_of_pos (by simpa using e), List.filter_cons_of_pos (by simpa using e)]
        exact .cons hv ih
      · simp only [List.map_cons, List.zip_cons_cons, grouped]
        rw [List.filter_cons_of_neg (by simpa using e), List.filter_cons_of_neg (by simpa using e)]
        exact ih
theorem datAll_flat {news : List (Addr × Obj)} {f : Int → List Value} {g : Int → List Dat} (h : ∀ c, DatAll news (f c) (g c)) : ∀ cs : List Int, DatAll news (cs.flatMap f) (cs.flatMap g)
  | [] => .nil
  | c :: cs => by rw [List.flatMap_cons, List.flatMap_cons]; exact (h c).append (datAll_flat h cs)
theorem sorted_out1 {ns cs : List Int} {tv out : List Value} (hd : DatAll [] tv (ns.map thingOf)) (hc : cs.Pairwise fun x y => x < y) (hm : ∀ n ∈ ns, codeOf n ∈ cs) (hs : Sorted1 (ns.map codeOf) tv out) : DatAll [] out (cs.flatMap (grouped ns)) := by
  obtain ⟨ps, rfl, hl, hp, ho⟩ := hs
  have hk : ∀ p ∈ ps, p.1 ∈ cs := by
    intro p hp'
    have h1 : p ∈ ps.filter fun q => decide (q.1 = p.1) := List.mem_filter.mpr ⟨hp', by simp⟩
    rw [ho p.1] at h1
    obtain ⟨q1, q2⟩ := p
    have h2 := (List.of_mem_zip (List.mem_filter.mp h1).1).1
    obtain ⟨n, hn, e⟩ := List.mem_map.mp h2
    show q1 ∈ cs
    rw [← e]; exact hm n hn
  have e := classes hp hc hk
  have e2 : ps.map Prod.snd = cs.flatMap fun c => (((ns.map codeOf).zip tv).filter fun p => decide (p.1 = c)).map Prod.snd := by
    conv => lhs; rw [e]
    rw [List.map_flatMap]
    rw [List.flatMap_def, List.flatMap_def]
    refine congrArg List.flatten (List.map_congr_left fun c _ => ?_)
    rw [ho c]
  rw [e2]
  exact datAll_flat (fun c => group_of c hd) cs
def codeD : Dat → Int
  | .int i => i
  | .str x => ((x.cps.getD 0 0 : Nat) : Int)
  | _ => 0
def keyed (d : Dat) : Dat := pairD (codeD d) d
def Plain (d : Dat) : Prop := (∃ i, d = Dat.int i) ∨ ∃ c : Nat, c < 1114112 ∧ d = Dat.str (PySem.Str.mk #[c])
theorem code_nn (n : Int) : 0 ≤ (n.fdiv 2).fmod 55296 ∧ (n.fdiv 2).fmod 55296 < 55296 := by
  have e : (n.fdiv 2).fmod 55296 = (n.fdiv 2) % 55296 := Int.fmod_eq_emod_of_nonneg _ (by decide)
  rw [e]; omega
theorem plain_thing (n : Int) : Plain (thingOf n) := by
  unfold thingOf
  have := code_nn n
  split
  · exact .inr ⟨_, by omega, rfl⟩
  · exact .inl ⟨_, rfl⟩
theorem code_thing (n : Int) : codeD (thingOf n) = codeOf n := by
  unfold thingOf codeOf
  have := code_nn n
  split
  · show ((((n.fdiv 2).fmod 55296).toNat : Nat) : Int) = _
    omega
  · rfl
theorem due_eq (ns cs : List Int) : (cs.flatMap (grouped ns)).map keyed = dueOf ns cs := by
  unfold dueOf
  rw [List.map_flatMap, List.flatMap_def, List.flatMap_def]
  refine congrArg List.flatten (List.map_congr_left fun c _ => List.map_congr_left fun d hd => ?_)
  obtain ⟨n, hn, rfl⟩ := List.mem_map.mp hd
  have e : codeOf n = c := by simpa using (List.mem_filter.mp hn).2
  show pairD (codeD (thingOf n)) (thingOf n) = pairD c (thingOf n)
  rw [code_thing, e]
theorem plain_all {ns cs : List Int} : ∀ d ∈ cs.flatMap (grouped ns), Plain d := by
  intro d hd
  obtain ⟨c, _, h⟩ := List.mem_flatMap.mp hd
  obtain ⟨n, _, rfl⟩ := List.mem_map.mp h
  exact plain_thing n
theorem due_ok (ns cs : List Int) : ∀ d ∈ dueOf ns cs, kqdOk 8 d = true := by
  intro d hd
  obtain ⟨c, _, h⟩ := List.mem_flatMap.mp hd
  obtain ⟨e, he, rfl⟩ := List.mem_map.mp h
  obtain ⟨n, _, rfl⟩ := List.mem_map.mp he
  rcases plain_thing n with ⟨i, q⟩ | ⟨k, hk, q⟩
  · rw [q]; rfl
  · rw [q]
    simp [pairD, kqdOk, PyData.strOk]
    omega
theorem strict_of {cs : List Int} {G : List Grp} {ns : List Int} {tv : List Value} (hR : R1 ns tv G) (hP : cs.Perm (G.map (·.code))) (hs : cs.Pairwise fun x y => x ≤ y) : cs.Pairwise fun x y => x < y := by
  have hn : cs.Nodup := hP.nodup_iff.mpr hR.nodup
  exact (hs.and hn).imp fun h => by have := h.1; have := h.2; omega
theorem codes_in {cs : List Int} {G : List Grp} {ns : List Int} {tv : List Value} (hR : R1 ns tv G) (hP : cs.Perm (G.map (·.code))) : ∀ n ∈ ns, codeOf n ∈ cs := by
  intro n hn
  obtain ⟨g, hg, e⟩ := hR.all n hn
  exact hP.mem_iff.mpr (List.mem_map.mpr ⟨g, hg, e⟩)
end Mine

-- the sort by key, the comprehension, the end
namespace Mine
theorem dat_at {vs : List Value} {ds : List Dat} {i : Nat} {v : Value} (h : DatAll [] vs ds) (hv : vs[i]? = some v) : ∃ d, ds[i]? = some d ∧ DatIn [] v d := by
  have hi : i < ds.length := by rw [← h.length]; exact (List.getElem?_eq_some_iff.mp hv).1
  obtain ⟨v', hv', hD⟩ := h.get hi
  rw [hv] at hv'
  cases hv'
  exact ⟨_, List.getElem?_eq_getElem hi, hD⟩
section
variable {prog : Program} {w : World} {A : Around} {E : Value → Shared → Prop} {s : Shared} {h₀ : Heap} {L l : Addr} {m : PySem.Str → Option Value} {news : List (Addr × Obj)}
theorem th_sorted {ns cs : List Int} {G : List Grp} {tv : List Value} {f : Value} {kw : List (PySem.Str × Value)} {Q : Value → Shared → Prop} (F : Fr h₀ L s.heap m) (N : News h₀ L s.heap news) (hl : s.heap.IsList l tv.toArray) (hR : R1 ns tv G) (h64 : ns.length < 64)
    (hP : cs.Perm (G.map (·.code))) (hs : cs.Pairwise fun x y => x ≤ y)
    (ha1 : argsOk "sorted" ⟨[.ref l], kw⟩) (ha2 : ∀ x, argsOk "list.sort" ⟨[.ref x], kw⟩) (ht : ∀ x, Builtin.«list.sort» ⟨[.ref x], kw⟩ = ksk_tree x f false)
    (turnI : ∀ (i : Int) (t : Tok) (h : Heap) (tk : Nat) (own : List (Addr × Obj)), Fr h₀ L h m → News h₀ L h (news ++ own) →
      wpAny (model prog w) A.in1.in1 (call f [.int i t]) (KskEnd h₀ L m (news ++ own) i { s with heap := h, toks := tk }) (fun _ _ => False) { s with heap := h, toks := tk })
    (turnS : ∀ (c : Nat) (t : Tok) (h : Heap) (tk : Nat) (own : List (Addr × Obj)), Fr h₀ L h m → News h₀ L h (news ++ own) →
      wpAny (model prog w) A.in1.in1 (call f [.str (PySem.Str.mk #[c]) t]) (KskEnd h₀ L m (news ++ own) ((c : Nat) : Int) { s with heap := h, toks := tk }) (fun _ _ => False) { s with heap := h, toks := tk })
    (h : ∀ (D : Addr) (out : List Value) (c : Nat) (h' : Heap) (tk : Nat), Fr h₀ L h' m → News h₀ L h' ((D, W.listOf out.toArray c) :: news) → (∀ q ∈ news, q.1 < D) → DatAll [] out (cs.flatMap (grouped ns)) → out.length < 4096 → Q (.ref D) { s with heap := h', toks := tk }) :
    wpAny (model prog w) A (call (.builtin "sorted") [.ref l] kw) Q E s := by
  have hlen : tv.length = ns.length := by have := hR.things.length; rwa [List.length_map] at this
  refine sk_sorted (kz := ns.map codeOf) F N hl (by rw [List.length_map, hlen]) (by omega) ha1 ha2 ht (fun i v k hv hk h tk own F' N' => ?_) fun D h' tk out c F' N' l1 ko => ?_
  · obtain ⟨d, hd, hD⟩ := dat_at hR.things hv
    rw [List.getElem?_map] at hd hk
    obtain ⟨n, hn, rfl⟩ := Option.map_eq_some_iff.mp hd
    rw [hn] at hk
    have ek : codeOf n = k := Option.some.inj hk
    rw [← code_thing] at ek
    rcases plain_thing n with ⟨i, q⟩ | ⟨c, _, q⟩
    · rw [q] at hD ek
      cases hD
      have ek' : i = k := ek
      subst ek'
      exact turnI _ _ h tk own F' N'
    · rw [q] at hD ek
      cases hD
      have ek' : ((c : Nat) : Int) = k := ek
      subst ek'
      exact turnS _ _ h tk own F' N'
  · have hd := sorted_out1 hR.things (strict_of hR hP hs) (codes_in hR hP) ko
    have e : out = out.toList.toArray := by simp
    refine h D out.toList c h' tk F' (by rw [← e]; exact N') l1 hd ?_
    obtain ⟨ps, e1, e2, _⟩ := ko
    rw [e1, List.length_map, e2]; omega
end
def TupEl (nw : List (Addr × Obj)) (c : Int) (d : Dat) (y : Value) (news' : List (Addr × Obj)) : Prop :=
  ∃ (T : Addr) (t : Tok) (v : Value) (k : Nat), y = .ref T ∧ news' = (T, ({ cls := .type "tuple", data := .seq [Value.int c t, v].toArray k } : Obj)) :: nw ∧ DatIn [] v d
theorem src_mono {h₀ : Heap} {ax : Addr} {its : Array Value} {nw : List (Addr × Obj)} {p : Addr × Obj} (h : LCg.SrcAt h₀ ax its nw) : LCg.SrcAt h₀ ax its (p :: nw) := by
  rcases h with h | ⟨o, hm, r⟩
  · exact .inl h
  · exact .inr ⟨o, .tail _ hm, r⟩
section
variable {prog : Program} {w : World} {A : Around} {h₀ : Heap} {L : Addr} {m : PySem.Str → Option Value} {env : Env} {elt : PySem.Expr} {x : PySem.Str} {scope : Scope} {cl : List (PySem.Str × Addr)} {s : Shared} {ax : Addr} {Fin : List Value → List (Addr × Obj) → Prop} {base : List (Addr × Obj)}
theorem comp_rest {vs : List Value} {ds : List Dat} (hd : DatAll [] vs ds) (hp : ∀ d ∈ ds, Plain d) (hS : LCg.SrcAt h₀ ax vs.toArray base)
    (turnI : ∀ (i : Int) (t : Tok) I oI C oC D m₂ ys tl h tk (E' : Value → Shared → Prop), LCg.NsObj oC m₂ → m₂ x = some (.int i t) → Fr h₀ L h m → News h₀ L h ((I, oI) :: (C, oC) :: (D, LCg.lst ys) :: (tl ++ base)) → LCg.Off3 I C D (tl ++ base) → ((@Ne Nat I C) ∧ (@Ne Nat I D) ∧ (@Ne Nat C D)) → LCg.SrcAt h₀ ax vs.toArray (tl ++ base) →
      wpAny (model prog w) A (eval elt (compEnvC scope cl C env)) (LCg.CompEnd h₀ L m { s with heap := h, toks := tk } I oI C oC D (LCg.lst ys) (LCg.SrcAt h₀ ax vs.toArray) (fun y news' => TupEl (tl ++ base) i (Dat.int i) y news')) E' { s with heap := h, toks := tk })
    (turnS : ∀ (c : Nat) (t : Tok) I oI C oC D m₂ ys tl h tk (E' : Value → Shared → Prop), LCg.NsObj oC m₂ → m₂ x = some (.str (PySem.Str.mk #[c]) t) → Fr h₀ L h m → News h₀ L h ((I, oI) :: (C, oC) :: (D, LCg.lst ys) :: (tl ++ base)) → LCg.Off3 I C D (tl ++ base) → ((@Ne Nat I C) ∧ (@Ne Nat I D) ∧ (@Ne Nat C D)) → LCg.SrcAt h₀ ax vs.toArray (tl ++ base) →
      wpAny (model prog w) A (eval elt (compEnvC scope cl C env)) (LCg.CompEnd h₀ L m { s with heap := h, toks := tk } I oI C oC D (LCg.lst ys) (LCg.SrcAt h₀ ax vs.toArray) (fun y news' => TupEl (tl ++ base) ((c : Nat) : Int) (Dat.str (PySem.Str.mk #[c])) y news')) E' { s with heap := h, toks := tk })
    (fin : ∀ ys tl, DatAll (tl ++ base) ys (ds.map keyed) → Fin ys (tl ++ base)) : LCg.CompRest prog w A h₀ L m env elt x scope cl s (LCg.SrcAt h₀ ax vs.toArray) (fun i v => vs.toArray[i]? = some v) Fin vs.toArray.size 0 [] base := by
  have hlen := hd.length
  have key : ∀ (j i : Nat) (ys : List Value) (tl : List (Addr × Obj)), i + j = vs.length → DatAll (tl ++ base) ys ((ds.take i).map keyed) → LCg.SrcAt h₀ ax vs.toArray (tl ++ base) →
      LCg.CompRest prog w A h₀ L m env elt x scope cl s (LCg.SrcAt h₀ ax vs.toArray) (fun i v => vs.toArray[i]? = some v) Fin j i ys (tl ++ base) := by
    intro j
    induction j with
    | zero =>
      intro i ys tl hi hy _
      rw [show ds.take i = ds from List.take_of_length_le (by omega)] at hy
      exact LCg.CompRest.zero (fin ys tl hy)
    | succ j ih =>
      intro i ys tl hi hy hs
      refine LCg.CompRest.succ ?_
      intro v I oI C oC D m₂ h tk E' hv hC hx F N off ne
      have hv' : vs[i]? = some v := by simpa using hv
      obtain ⟨d, hdi, hD⟩ := dat_at hd hv'
      have ht : ds.take (i + 1) = ds.take i ++ [d] := by rw [List.take_add_one, hdi]; rfl
      have go : ∀ (c : Int), codeD d = c → ∀ y s₂, LCg.CompEnd h₀ L m { s with heap := h, toks := tk } I oI C oC D (LCg.lst ys) (LCg.SrcAt h₀ ax vs.toArray) (fun y news' => TupEl (tl ++ base) c d y news') y s₂ →
          LCg.CompEnd h₀ L m { s with heap := h, toks := tk } I oI C oC D (LCg.lst ys) (LCg.SrcAt h₀ ax vs.toArray) (fun y news' => LCg.CompRest prog w A h₀ L m env elt x scope cl s (LCg.SrcAt h₀ ax vs.toArray) (fun i v => vs.toArray[i]? = some v) Fin j (i + 1) (ys ++ [y]) news') y s₂ := by
        rintro c hc y s₂ ⟨h', tk', nw, e, F', N', off', hS', T, t, u, k, rfl, hn, hu⟩
        subst hn
        refine ⟨h', tk', _, e, F', N', off', hS', ?_⟩
        refine ih (i + 1) _ ((T, ({ cls := .type "tuple", data := .seq [Value.int c t, u].toArray k } : Obj)) :: tl) (by omega) ?_ hS'
        rw [ht, List.map_append]
        refine (hy.mono fun p hp => .tail _ hp).append (.cons ?_ .nil)
        show DatIn _ (.ref T) (pairD (codeD d) d)
        rw [hc]
        exact DatIn.tuple (.head _) (.cons (.int c t) (.cons (hu.mono fun _ h => absurd h List.not_mem_nil) .nil))
      rcases hp d (List.mem_of_getElem? hdi) with ⟨i', q⟩ | ⟨c, _, q⟩
      · subst q
        cases hD
        exact wpAny_mono (turnI _ _ I oI C oC D m₂ ys tl h tk E' hC hx F N off ne hs) (fun y s₂ hq => go _ rfl y s₂ hq) fun _ _ e => e
      · subst q
        cases hD
        exact wpAny_mono (turnS _ _ I oI C oC D m₂ ys tl h tk E' hC hx F N off ne hs) (fun y s₂ hq => go _ rfl y s₂ hq) fun _ _ e => e
  have h0 := key vs.length 0 [] [] (by omega) (by simp only [List.take_zero, List.map_nil]; exact .nil) hS
  rw [List.size_toArray]
  exact h0
theorem comp_end {T I C D : Addr} {oI oC oD : Obj} {its : Array Value} {nw : List (Addr × Obj)} {c : Int} {t : Tok} {v : Value} {k : Nat} {d : Dat} {s₁ : Shared} {h' : Heap} {tk : Nat} (F : Fr h₀ L h' m)
    (N : News h₀ L h' ((T, ({ cls := .type "tuple", data := .seq [Value.int c t, v].toArray k } : Obj)) :: (I, oI) :: (C, oC) :: (D, oD) :: nw)) (hT : I < T ∧ C < T ∧ D < T ∧ AllLt T nw) (off : LCg.Off3 I C D nw) (hS : LCg.SrcAt h₀ ax its nw) (hv : DatIn [] v d) :
    LCg.CompEnd h₀ L m s₁ I oI C oC D oD (LCg.SrcAt h₀ ax its) (fun y news' => TupEl nw c d y news') (.ref T) { s₁ with heap := h', toks := tk } := by
  refine LCg.CompEnd.intro F N ((T, ({ cls := .type "tuple", data := .seq [Value.int c t, v].toArray k } : Obj)) :: nw) ?_ ⟨⟨Nat.ne_of_gt hT.1, Nat.ne_of_gt hT.2.1, Nat.ne_of_gt hT.2.2.1⟩, off⟩ (src_mono hS) ⟨T, t, v, k, rfl, rfl, hv⟩
  intro p hp
  simp only [List.mem_cons] at hp ⊢
  rcases hp with h | h | h | h | h
  · exact .inr (.inl h)
  · exact .inr (.inr (.inl h))
  · exact .inr (.inr (.inr (.inl h)))
  · exact .inl h
  · exact .inr (.inr (.inr (.inr h)))
theorem src_in {h₀ : Heap} {ax : Addr} {vs : List Value} {k : Nat} {r : List (Addr × Obj)} : LCg.SrcAt h₀ ax vs.toArray ((ax, W.listOf vs.toArray k) :: r) := .inr ⟨_, .head _, rfl, _, rfl⟩
end
-- the two lists
theorem eq_due {prog : Program} {w : World} {A : Around} {E : Value → Shared → Prop} {s : Shared} {h₀ : Heap} {L a b : Addr} {news n₁ n₂ : List (Addr × Obj)} {xs ys : List Value} {ka kb : Nat} {ns cs : List Int} {Q : Value → Shared → Prop} {o1 o2 : Obj}
    (N : News h₀ L s.heap news) (ma : (a, o1) ∈ news) (ca : o1.cls = .type "list") (da : o1.data = .seq xs.toArray ka) (Da : DatAll n₁ xs ((cs.flatMap (grouped ns)).map keyed)) (sa : ∀ p ∈ n₁, p ∈ news)
    (mb : (b, o2) ∈ news) (cb : o2.cls = .type "list") (db : o2.data = .seq ys.toArray kb) (Db : DatAll n₂ ys (dueOf ns cs)) (sb : ∀ p ∈ n₂, p ∈ news) (hu : A.units + 64 < cLine) (h : Q (.bool true) s) : wpAny (model prog w) A (compareOp .Eq (.ref a) (.ref b)) Q E s := by
  rw [due_eq] at Da
  refine kqd_eq N ma ca da Da sa mb cb db Db sb (due_ok ns cs) (due_ok ns cs) hu ?_
  simpa using h
end Mine

open Mine
local macro_rules | `(tactic| walk_at "pyIter ref") => `(tactic| (k_of "n" => (k_here; (with_reducible show wpAny _ _ (pyIter (Value.ref _)) (fun it s₂ => LoopAtV _ _ _ _ _ _ _ _ _ it s₂) _ _); (rename Fr _ _ _ _ => lF'); (rename News _ _ _ _ => lN'); ((with_unfolding_all refine' loop1 [Str.ofString "code", Str.ofString "thing"] (by rfl) (by assumption) ?k64 lF' lN' (by assumption) ?_ ?_)); (case k64 => omega); (all_goals clear lF' lN'); (all_goals (first | (intro kG kTv kKt kOd kPre kN kPost kT kU kH kTk kOwn kEq kL1 kL2 kR kS kD kO1 kO2 kFr kNews; (have kL3 := congrArg List.length kEq); (simp only [List.length_append, List.length_cons] at kL3)) | (intro kG kTv kKt kOd kU kH kTk kL1 kL2 kR kS kD kO2 kFr kNews))); (all_goals (try k_fold)))))
local macro_rules | `(tactic| walk_at "pyIter ref") => `(tactic| (k_of "code" => (k_here; (with_reducible show wpAny _ _ (pyIter (Value.ref _)) (fun it s₂ => LoopAtV _ _ _ _ _ _ _ _ _ it s₂) _ _); (rename Fr _ _ _ _ => lF'); (rename News _ _ _ _ => lN'); (rename R1 _ _ _ => lR'); (rename OwnOff (List.map gObj _) _ => lO'); (rename IntsAre _ _ => lI'); ((with_unfolding_all refine' loop2 [Str.ofString "thing"] (by rfl) lF' lN' lI' lR' (by assumption) ?k64 ?_ ?kO ?_)); (case k64 => omega); (case kO => (exact off_of_lt (by assumption))); (all_goals clear lF' lN'); (all_goals (first | (intro kDv kKd kTl kPre kN kPost kT kU kH kTk kOwn kEq kMem kSep kO3 kDat kL5 kFr kNews) | (intro kDv kKd kTl kU kH kTk kO3 kDat kL5 kFr kNews))); (all_goals (try k_fold)))))
local macro_rules | `(tactic| walk_at "pyIter ref") => `(tactic| (k_of "thing" => (k_here; (with_reducible show wpAny _ _ (pyIter (Value.ref _)) (fun it s₂ => LoopAtV _ _ _ _ _ _ _ _ _ it s₂) _ _); (rename Fr _ _ _ _ => lF'); (rename News _ _ _ _ => lN'); ((with_unfolding_all refine' loop3s [] (by rfl) lF' lN' (by assumption) (by assumption) (by assumption) (by assumption) ?k64 (by assumption) ?_ ?_)); (case k64 => omega); (all_goals clear lF' lN'); (all_goals (first | (intro kDv' kKd' kTl' kPre' kDd kPost' kV kU kH kTk kOwn' kIn kSep' kO4 kDat' kL6 kFr kNews) | (intro kDv' kKd' kTl' kU kH kTk kO4 kDat' kFr kNews))); (all_goals (try k_fold)))))
local macro_rules | `(tactic| walk_at "call builtin:sorted") => `(tactic| (k_here; (with_reducible show wpAny _ _ (call (Value.builtin "sorted") [Value.ref _]) _ _ _); (rename Fr _ _ _ _ => lF'); (rename News _ _ _ _ => lN'); ((with_unfolding_all refine g_sorted (by rfl) lF' lN' (by k_mem) (by assumption) (by assumption) (by assumption) ?_)); clear lF' lN'; intro D' v' cs' c' h' tk' F' N' l1 kI kP kSo kLc; (try k_lt l1)))
local macro_rules | `(tactic| walk_at "exec For Name Subscript cons nil") => `(tactic| (k_here; (rename Fr _ _ _ _ => lF'); (with_unfolding_all refine' For_invVF lF' ?k1 ?k2 ?_; (case k1 => exact rfl); (case k2 => exact rfl); k_whole)))
local macro_rules | `(tactic| walk_at "compareOp NotIn int ref") => `(tactic| (k_here; (rename News _ _ _ _ => lN'); ((with_unfolding_all refine g_notin lN' (by assumption) (by assumption) (by assumption) (by omega) (by assumption) (by assumption) (fun kAbs => ?_) (fun kG1 kG2 kgc kga kgk kgv kE kC kLg kN2 kn1 kOff => ?_))); (all_goals (try ((with_reducible have kE9 := kE); clear kE9 lN')))))
local macro_rules | `(tactic| walk_at "setItem ref int") => `(tactic| (k_here; (rename Fr _ _ _ _ => lF'); (rename News _ _ _ _ => lN'); ((with_unfolding_all refine g_set lF' lN' (by assumption) (by assumption) (by k_ne) (by k_ne) (by k_ne) (OwnOff.ne (by assumption) (.tail _ (.head _))) (by assumption) ?_)); clear lF' lN'; intro h' o' F' N' hd'))
local macro_rules | `(tactic| walk_at "subscriptTail Name Name ref int") => `(tactic| (k_here; (rename News _ _ _ _ => lN'); first | (with_unfolding_all refine g_item_new lN' (.tail _ (.tail _ (.head _))) (by assumption) (by assumption) ?_ (by with_unfolding_all rfl) (by intro _; with_unfolding_all rfl)) | (with_unfolding_all refine g_item_old lN' (.tail _ (.tail _ (.head _))) (by assumption) (by assumption) (by assumption) (by assumption) ?_ (by with_unfolding_all rfl) (by intro _; with_unfolding_all rfl)) | (((with_unfolding_all refine g_item_in lN' (.tail _ (.tail _ (.tail _ (.head _)))) (by assumption) (by assumption) (by assumption) (by assumption) ?_ (by with_unfolding_all rfl) (by intro _; with_unfolding_all rfl))); intro kG1 kG2 ka kkc kgv kE kGv)))
local macro_rules | `(tactic| walk_at "InvEndG") => `(tactic| ((rename Fr _ _ _ _ => lF'); (rename News _ _ _ _ => lN'); (try simp only [List.push_toArray] at lN'); (first | (with_unfolding_all refine' end1_new lF' lN' (by assumption) (by assumption) (by assumption) (by assumption) (by assumption) ?e1 (by assumption) ?e2 ?e3) | (with_unfolding_all refine' end1_old lF' lN' (by assumption) (by assumption) (by assumption) (by assumption) (by assumption) ?e1 ?e2 ?e3)); (case e2 => (first | exact int_thing (by assumption) | exact str_thing (by assumption))); (case e1 => (first | exact int_code (by assumption) | exact str_code (by assumption) | exact Eq.trans (by assumption) (int_code (by assumption)) | exact Eq.trans (by assumption) (str_code (by assumption)))); (case e3 => ((intro z h1 h2; (obtain ⟨h3, h4, h5⟩ := sto2 h2); (repeat (first | rw [if_neg h1] | rw [if_neg h3] | rw [if_neg h4] | rw [if_neg h5])))))))
local macro_rules | `(tactic| walk_at "InvEndG") => `(tactic| ((with_reducible show InvEndG _ _ (KdS _ _ _ _ _ _ _ _ _ _) _ _ _); (rename Fr _ _ _ _ => lF'); (rename News _ _ _ _ => lN'); (try simp only [List.push_toArray] at lN'); (first | ((with_unfolding_all refine' end3s (by assumption) lF' lN' (by assumption) (by assumption) (by assumption) ?e3)) | ((with_unfolding_all refine' end2 (by assumption) lF' lN' (by assumption) (by assumption) ?e3))); (case e3 => ((intro z h1 h2; (try (obtain ⟨h3, h5⟩ := sto1 h2)); (repeat (first | rw [if_neg h1] | rw [if_neg h3] | rw [if_neg h5] | rw [if_neg nil_no])))))))
local macro_rules | `(tactic| walk_at "newTuple") => `(tactic| (k_here; k_dflt (refine' kup_newTuple ?F ?N ?_ ?z; (case F => k_asm); (case N => k_asm); (case z => kmk_size)); intro D' h' F' N' l1; (try k_lt l1); (try k_sweep)))
local macro_rules | `(tactic| walk_at "eval ListComp") => `(tactic| (k_here; k_dflt (refine LCg.ListComp_U (F₀ := by k_asm) (by with_unfolding_all rfl) (by decide) (by rfl) (by decide) (by rfl) ?_)))
local macro_rules | `(tactic| walk_at "call builtin:sorted") => `(tactic| (k_here; ((show wpAny _ _ (call (Value.builtin _) [Value.ref _] [(PySem.Str.ofString "key", _)]) _ _ _)); (rename Fr _ _ _ _ => lF'); (rename News _ _ _ _ => lN'); (rename R1 _ _ _ => lR'); ((with_unfolding_all refine' th_sorted lF' lN' (News.isList lN' (.tail _ (.tail _ (.head _)))) lR' ?k64 (by assumption) (by assumption) (ksk_s1 _ _) (fun x' => ksk_l1 _ _) (fun x' => ksk_t1 _ _) (fun i' t' h' tk' own' F' N' => ?_) (fun c' t' h' tk' own' F' N' => ?_) (fun D' out' c' h' tk' F' N' l1 kO9 kL9 => ?_))); (case k64 => omega); (all_goals clear lF' lN'); (all_goals (try k_lt l1)); (all_goals (try k_fold))))
local macro_rules | `(tactic| walk_at "KskEnd") => `(tactic| (refine KskEnd.intro (by assumption) (by assumption) (fun _ h => h)))
local macro_rules | `(tactic| walk_at "CompSrc") => `(tactic| (k_here; k_dflt ((refine LCg.CompSrc.ledger (by rfl) (by k_asm) (by k_asm) (by k_mem) ?ksz ?_); (case ksz => ((rw [List.size_toArray, sizeLine_eq]; omega))); intro g'; ((refine' comp_rest (by assumption) plain_all src_in (fun i' t' I' oI' C' oC' D' m' ys' tl' h' tk' E' hC' hx' F' N' off' ne' src' => ?_) (fun c' t' I' oI' C' oC' D' m' ys' tl' h' tk' E' hC' hx' F' N' off' ne' src' => ?_) (fun ys' tl' kDy => ?_))); kcf_last)))
local macro_rules | `(tactic| walk_at "CompEnd") => `(tactic| ((rename Fr _ _ _ _ => lF'); (rename News _ _ _ _ => lN'); ((with_unfolding_all refine comp_end lF' lN' (by assumption) (by assumption) (by assumption) (by first | exact DatIn.int _ _ | exact DatIn.str _ _)))))
local macro_rules | `(tactic| walk_at "compareOp Eq ref ref") => `(tactic| (k_here; (with_reducible show wpAny _ _ (compareOp CmpOp.Eq (Value.ref _) (Value.ref _)) _ _ _); (rename News _ _ _ _ => lN'); ((with_unfolding_all refine eq_due lN' (.head _) rfl rfl (by assumption) (fun p hp => .tail _ hp) (.tail _ (List.mem_append_right _ (.tail _ (.head _)))) rfl rfl (by assumption) (fun p hp => .tail _ (List.mem_append_right _ (.tail _ (.tail _ hp)))) (by ke_room) ?_))))
set_option maxHeartbeats 8000000 in
theorem PySem.Challenge.cw_dm0036_01_holds : PySem.Challenge.rw_dm0036_01.Holds := by
  open_k

import PyProof.Rows.All
import Wide.All
import OpenK.AllK
import Wide.FinOn
import PyProof.FactsAll.tuple_iterator
import PyProof.ExcAttrAll.AssertionError
import Open.Row
import KE.KRevIter
import Lean
import PySem.Challenge.RW_au5005_04

set_option Elab.async false
set_option maxRecDepth 100000
set_option maxHeartbeats 0
set_option linter.unusedVariables false

namespace Mine
section
/-- the tree that the law lays: a leaf of the row, or a node with what it tells as its first leaf -/
inductive Sh where
  | leaf (i : Nat)
  | node (first : Int) (kids : List Sh)
def Sh.first : Sh → Int
  | .leaf i => i
  | .node f _ => f
def Sh.isLeaf : Sh → Bool
  | .leaf _ => true
  | .node _ _ => false
def Sh.size (lens : List Nat) : Sh → Nat
  | .leaf i => lens.getD i 0
  | .node _ ks => ks.length
/-- what a kid's last link is due to be -/
def due (ks : List Sh) (nb : Int) (j : Nat) : Int := match ks[j + 1]? with | some x => x.first | none => nb
/-- what _check finds -/
def chk (lens : List Nat) (links : List Int) : Nat → Sh → Int → Bool
  | 0, _, _ => true
  | _, .leaf _, _ => true
  | _ + 1, .node f [], _ => decide (f < 0)
  | d + 1, .node f (k :: ks), nb =>
    decide (0 ≤ f) && (k :: ks).all (fun x => (x.isLeaf == k.isLeaf) && decide (0 < x.size lens)) && decide (f = k.first) &&
      (List.range (ks.length + 1)).all fun j => match (k :: ks)[j]? with
        | some x => if k.isLeaf then decide (links.getD x.first.toNat (-1) = due (k :: ks) nb j) else chk lens links d x (due (k :: ks) nb j)
        | none => true
section
variable {lens : List Nat} {links : List Int} {d : Nat} {f nb : Int} {k : Sh} {ks : List Sh}
/-- one kid's part -/
def kidOk (lens : List Nat) (links : List Int) (d : Nat) (k : Sh) (ks : List Sh) (nb : Int) (j : Nat) : Bool := match (k :: ks)[j]? with
        | some x => if k.isLeaf then decide (links.getD x.first.toNat (-1) = due (k :: ks) nb j) else chk lens links d x (due (k :: ks) nb j)
        | none => true
def kidSame (lens : List Nat) (k x : Sh) : Bool := (x.isLeaf == k.isLeaf) && decide (0 < x.size lens)
theorem chk_cons : chk lens links (d + 1) (.node f (k :: ks)) nb = (decide (0 ≤ f) && (k :: ks).all (kidSame lens k) && decide (f = k.first) && (List.range (ks.length + 1)).all (kidOk lens links d k ks nb)) := by
  conv => lhs; unfold chk
  rfl
theorem chk_false1 (h : f < 0) : chk lens links (d + 1) (.node f (k :: ks)) nb = false := by
  rw [chk_cons, decide_eq_false (by omega)]; rfl
theorem chk_false2 {x : Sh} (h : x ∈ k :: ks) (h' : kidSame lens k x = false) : chk lens links (d + 1) (.node f (k :: ks)) nb = false := by
  rw [chk_cons, show (k :: ks).all (kidSame lens k) = false from List.all_eq_false.mpr ⟨x, h, by simp [h']⟩]; simp
theorem chk_false3 (h : f ≠ k.first) : chk lens links (d + 1) (.node f (k :: ks)) nb = false := by
  rw [chk_cons, decide_eq_false h]; simp
theorem chk_false4 {j : Nat} (h : j < ks.length + 1) (h' : kidOk lens links d k ks nb j = false) : chk lens links (d + 1) (.node f (k :: ks)) nb = false := by
  rw [chk_cons, show (List.range (ks.length + 1)).all (kidOk lens links d k ks nb) = false from List.all_eq_false.mpr ⟨j, List.mem_range.mpr h, by simp [h']⟩]; simp
theorem chk_true (h1 : 0 ≤ f) (h2 : ∀ x ∈ k :: ks, kidSame lens k x = true) (h3 : f = k.first) (h4 : ∀ j, j < ks.length + 1 → kidOk lens links d k ks nb j = true) : chk lens links (d + 1) (.node f (k :: ks)) nb = true := by
  rw [chk_cons, decide_eq_true h1, decide_eq_true h3, List.all_eq_true.mpr h2, List.all_eq_true.mpr (fun j hj => h4 j (List.mem_range.mp hj))]; rfl
theorem due_last {j : Nat} (h : j + 1 = ks.length + 1) : due (k :: ks) nb j = nb := by
  unfold due; rw [List.getElem?_eq_none (by simp; omega)]
theorem due_next {j : Nat} {x : Sh} (h : (k :: ks)[j + 1]? = some x) : due (k :: ks) nb j = x.first := by
  unfold due; rw [h]
end
end
end Mine

namespace Mine
section
/-- a row of the law's list of nodes: what it tells as its first leaf, its kids' numbers, its leftmost leaf -/
structure Nod where
  f : Int
  kids : List Int
  due : Int
mutual
/-- the node s is laid over the leaves a, .., a + n - 1 with the rows m, .., m' - 1 -/
inductive Nest (N : List Nod) : Nat → Int → Nat → Nat → Nat → Nat → Prop
  | leaf (a m : Nat) : Nest N 0 (a : Int) a 1 m m
  | node (d a n m m' : Nat) (p : Nod) : N[m']? = some p → p.due = (a : Int) → p.kids ≠ [] → Segs N d p.kids a n m m' → Nest N (d + 1) ((m' : Int) + 100) a n m (m' + 1)
inductive Segs (N : List Nod) : Nat → List Int → Nat → Nat → Nat → Nat → Prop
  | nil (d a m : Nat) : Segs N d [] a 0 m m
  | snoc (d a n n' m m' m'' : Nat) (ks : List Int) (k : Int) : Segs N d ks a n m m' → Nest N d k (a + n) n' m' m'' → 0 < n' → Segs N d (ks ++ [k]) a (n + n') m m''
end
/-- the shape that a number stands for -/
def mk (N : List Nod) : Nat → Int → Sh
  | 0, s => .leaf s.toNat
  | d + 1, s => if s < 0 then .node (-1) [] else if s < 100 then .leaf s.toNat else match N[(s - 100).toNat]? with
    | some p => .node p.f (p.kids.map (mk N d))
    | none => .leaf 0
/-- it can be made -/
def Vld (N : List Nod) (nB : Nat) : Nat → Int → Prop
  | 0, s => 0 ≤ s ∧ s < 100 ∧ s < nB
  | d + 1, s => s < 0 ∨ (0 ≤ s ∧ s < 100 ∧ s < nB) ∨ ∃ p, 100 ≤ s ∧ N[(s - 100).toNat]? = some p ∧ p.kids ≠ [] ∧ p.kids.length ≤ 30 ∧ -1 ≤ p.f ∧ p.f < nB ∧ ∀ k ∈ p.kids, Vld N nB d k
mutual
theorem Nest.cong {N N' : List Nod} (c : ∀ (j : Nat) p, N[j]? = some p → ∃ q, N'[j]? = some q ∧ q.kids = p.kids ∧ q.due = p.due) : ∀ {d s a n m m'}, Nest N d s a n m m' → Nest N' d s a n m m'
  | _, _, _, _, _, _, .leaf a m => .leaf a m
  | _, _, _, _, _, _, .node d a n m m' p h1 h2 h3 h4 => by
    obtain ⟨q, e1, e2, e3⟩ := c _ _ h1
    exact .node d a n m m' q e1 (e3.trans h2) (by rw [e2]; exact h3) (by rw [e2]; exact Segs.cong c h4)
theorem Segs.cong {N N' : List Nod} (c : ∀ (j : Nat) p, N[j]? = some p → ∃ q, N'[j]? = some q ∧ q.kids = p.kids ∧ q.due = p.due) : ∀ {d ks a n m m'}, Segs N d ks a n m m' → Segs N' d ks a n m m'
  | _, _, _, _, _, _, .nil d a m => .nil d a m
  | _, _, _, _, _, _, .snoc d a n n' m m' m'' ks k h1 h2 h3 => .snoc d a n n' m m' m'' ks k (Segs.cong c h1) (Nest.cong c h2) h3
end
theorem cong_app {N Y : List Nod} : ∀ (j : Nat) p, N[j]? = some p → ∃ q, (N ++ Y)[j]? = some q ∧ q.kids = p.kids ∧ q.due = p.due := fun j p h => by
  refine ⟨p, ?_, rfl, rfl⟩
  rcases Nat.lt_or_ge j N.length with q | q
  · rw [List.getElem?_append_left q]; exact h
  · rw [List.getElem?_eq_none q] at h; cases h
theorem Segs.nil_n {N : List Nod} {d a n m m'} (h : Segs N d [] a n m m') : n = 0 := by
  generalize e : ([] : List Int) = ks at h
  cases h with
  | nil => rfl
  | snoc => simp at e
end
end Mine

namespace Mine
section
def linksOk (links : List Int) (a n : Nat) (nb : Int) : Prop := ∀ i, a ≤ i → i < a + n → links.getD i (-1) = if i + 1 < a + n then ((i + 1 : Nat) : Int) else nb
def lensOk (lens : List Nat) (a n : Nat) : Prop := ∀ i, a ≤ i → i < a + n → 0 < lens.getD i 0
def nodesOk (N : List Nod) (m m' : Nat) : Prop := ∀ j, m ≤ j → j < m' → ∀ p, N[j]? = some p → p.f = p.due
theorem linksOk_snoc {links a n n' nb} (h : 0 < n') : linksOk links a (n + n') nb ↔ linksOk links a n ((a + n : Nat) : Int) ∧ linksOk links (a + n) n' nb := by
  constructor
  · intro k
    refine ⟨fun i h1 h2 => ?_, fun i h1 h2 => ?_⟩
    · rw [k i h1 (by omega), if_pos (by omega)]
      split
      · rfl
      · congr 1; omega
    · rw [k i (by omega) (by omega)]
      by_cases q : i + 1 < a + n + n'
      · rw [if_pos (by omega), if_pos q]
      · rw [if_neg (by omega), if_neg q]
  · rintro ⟨k1, k2⟩ i h1 h2
    by_cases q : i < a + n
    · rw [k1 i h1 q, if_pos (show i + 1 < a + (n + n') by omega)]
      split
      · rfl
      · congr 1; omega
    · rw [k2 i (by omega) (by omega)]
      by_cases q : i + 1 < a + n + n'
      · rw [if_pos q, if_pos (by omega)]
      · rw [if_neg q, if_neg (by omega)]
theorem lensOk_snoc {lens a n n'} : lensOk lens a (n + n') ↔ lensOk lens a n ∧ lensOk lens (a + n) n' := by
  constructor
  · intro k; exact ⟨fun i h1 h2 => k i h1 (by omega), fun i h1 h2 => k i (by omega) (by omega)⟩
  · rintro ⟨k1, k2⟩ i h1 h2
    by_cases q : i < a + n
    · exact k1 i h1 q
    · exact k2 i (by omega) (by omega)
theorem nodesOk_snoc {N m m' m''} (h : m ≤ m') (h' : m' ≤ m'') : nodesOk N m m'' ↔ nodesOk N m m' ∧ nodesOk N m' m'' := by
  constructor
  · intro k; exact ⟨fun i h1 h2 => k i h1 (by omega), fun i h1 h2 => k i (by omega) (by omega)⟩
  · rintro ⟨k1, k2⟩ i h1 h2
    by_cases q : i < m'
    · exact k1 i h1 q
    · exact k2 i (by omega) (by omega)
mutual
theorem Nest.le {N : List Nod} : ∀ {d s a n m m'}, Nest N d s a n m m' → m ≤ m'
  | _, _, _, _, _, _, .leaf a m => Nat.le_refl _
  | _, _, _, _, _, _, .node d a n m m' p h1 h2 h3 h4 => Nat.le_succ_of_le (Segs.le h4)
theorem Segs.le {N : List Nod} : ∀ {d ks a n m m'}, Segs N d ks a n m m' → m ≤ m'
  | _, _, _, _, _, _, .nil d a m => Nat.le_refl _
  | _, _, _, _, _, _, .snoc d a n n' m m' m'' ks k h1 h2 h3 => Nat.le_trans (Segs.le h1) (Nest.le h2)
end
theorem Segs.posn {N : List Nod} {d ks a n m m'} (h : Segs N d ks a n m m') (hk : ks ≠ []) : 0 < n := by
  cases h with
  | nil => exact absurd rfl hk
  | snoc n n' m' ks k h1 h2 h3 => omega
mutual
theorem Nest.dues {N : List Nod} : ∀ {d s a n m m'}, Nest N d s a n m m' → ∀ j, m ≤ j → j < m' → ∃ p, N[j]? = some p ∧ (a : Int) ≤ p.due ∧ p.due < (a + n : Nat)
  | _, _, _, _, _, _, .leaf a m => fun j h1 h2 => by omega
  | _, _, _, _, _, _, .node d a n m m' p h1 h2 h3 h4 => fun j k1 k2 => by
    by_cases q : j < m'
    · exact Segs.dues h4 j k1 q
    · have : j = m' := by omega
      subst this
      have := h4.posn h3
      exact ⟨p, h1, by omega, by omega⟩
theorem Segs.dues {N : List Nod} : ∀ {d ks a n m m'}, Segs N d ks a n m m' → ∀ j, m ≤ j → j < m' → ∃ p, N[j]? = some p ∧ (a : Int) ≤ p.due ∧ p.due < (a + n : Nat)
  | _, _, _, _, _, _, .nil d a m => fun j h1 h2 => by omega
  | _, _, _, _, _, _, .snoc d a n n' m m' m'' ks k h1 h2 h3 => fun j k1 k2 => by
    by_cases q : j < m'
    · obtain ⟨p, e1, e2, e3⟩ := Segs.dues h1 j k1 q
      exact ⟨p, e1, e2, by omega⟩
    · obtain ⟨p, e1, e2, e3⟩ := Nest.dues h2 j (by omega) k2
      exact ⟨p, e1, by omega, by omega⟩
end
theorem Nest.some {N : List Nod} {d s a n m m'} (h : Nest N (d + 1) s a n m m') : m < m' := by
  cases h with
  | node d a n m m' p h1 h2 h3 h4 => have := h4.le; omega
/-- a kid's part, over a whole list -/
def kidL (lens : List Nat) (links : List Int) (d : Nat) (il : Bool) (L : List Sh) (nb : Int) (j : Nat) : Prop := ∀ x, L[j]? = some x → if il then links.getD x.first.toNat (-1) = due L nb j else chk lens links d x (due L nb j) = true
def AllK (lens : List Nat) (links : List Int) (d : Nat) (il : Bool) (L : List Sh) (nb : Int) : Prop := ∀ j, j < L.length → kidL lens links d il L nb j
theorem due_lt {L : List Sh} {x : Sh} {nb : Int} {j : Nat} (h : j < L.length) : due (L ++ [x]) nb j = due L x.first j := by
  unfold due
  by_cases q : j + 1 < L.length
  · rw [List.getElem?_append_left q, List.getElem?_eq_getElem q]
  · have : j + 1 = L.length := by omega
    rw [List.getElem?_append_right (by omega), this, Nat.sub_self, List.getElem?_eq_none (Nat.le_refl _)]; rfl
theorem due_eq {L : List Sh} {x : Sh} {nb : Int} : due (L ++ [x]) nb L.length = nb := by
  unfold due; rw [List.getElem?_eq_none (by simp)]
theorem AllK_snoc {lens links d il} {L : List Sh} {x : Sh} {nb : Int} : AllK lens links d il (L ++ [x]) nb ↔ AllK lens links d il L x.first ∧ (if il then links.getD x.first.toNat (-1) = nb else chk lens links d x nb = true) := by
  constructor
  · intro k
    refine ⟨fun j hj y hy => ?_, ?_⟩
    · have := k j (by simp; omega) y (by rw [List.getElem?_append_left hj]; exact hy)
      rw [due_lt hj] at this; exact this
    · have := k L.length (by simp) x (by simp)
      rw [due_eq] at this; exact this
  · rintro ⟨k1, k2⟩ j hj y hy
    by_cases q : j < L.length
    · rw [List.getElem?_append_left q] at hy
      rw [due_lt q]; exact k1 j q y hy
    · have : j = L.length := by simp at hj; omega
      subst this
      simp at hy; subst hy
      rw [due_eq]; exact k2
theorem chk_iff {lens links d f} {L : List Sh} {nb : Int} {k : Sh} (h0 : L[0]? = some k) : chk lens links (d + 1) (.node f L) nb = true ↔ 0 ≤ f ∧ (∀ x ∈ L, kidSame lens k x = true) ∧ f = k.first ∧ AllK lens links d k.isLeaf L nb := by
  cases L with
  | nil => simp at h0
  | cons k' ks =>
    simp at h0; subst h0
    rw [chk_cons]
    simp only [Bool.and_eq_true, decide_eq_true_eq, List.all_eq_true, List.mem_range]
    constructor
    · rintro ⟨⟨⟨h1, h2⟩, h3⟩, h4⟩
      refine ⟨h1, h2, h3, fun j hj y hy => ?_⟩
      have := h4 j (by simpa using hj)
      unfold kidOk at this
      rw [hy] at this
      simp only at this
      cases q : k'.isLeaf with
      | true => simpa [q] using this
      | false => simpa [q] using this
    · rintro ⟨h1, h2, h3, h4⟩
      refine ⟨⟨⟨h1, h2⟩, h3⟩, fun j hj => ?_⟩
      unfold kidOk
      cases hy : (k' :: ks)[j]? with
      | none => rfl
      | some y =>
        have := h4 j (by simpa using hj) y hy
        cases q : k'.isLeaf with
        | true => simpa [q] using this
        | false => simpa [q] using this
theorem mk_leaf {N : List Nod} {d : Nat} {a : Nat} (h : a < 100) : mk N d (a : Int) = .leaf a := by
  cases d with
  | zero => simp [mk]
  | succ d => unfold mk; rw [if_neg (by omega), if_pos (by omega)]; simp
theorem mk_node {N : List Nod} {d m : Nat} {p : Nod} (h : N[m]? = some p) : mk N (d + 1) ((m : Int) + 100) = .node p.f (p.kids.map (mk N d)) := by
  conv => lhs; unfold mk
  rw [if_neg (by omega), if_neg (by omega), show ((m : Int) + 100 - 100).toNat = m by omega, h]
theorem Segs.zero {N : List Nod} : ∀ {d ks a n m m'}, Segs N d ks a n m m' → d = 0 → m = m' ∧ ks.length = n ∧ ∀ j, j < n → ks[j]? = some (((a + j : Nat)) : Int)
  | _, _, _, _, _, _, .nil d a m, _ => ⟨rfl, rfl, fun j h => absurd h (Nat.not_lt_zero _)⟩
  | _, _, _, _, _, _, .snoc d a n n' m m' m'' ks k h1 h2 h3, hd => by
    subst hd
    obtain ⟨e1, e2, e3⟩ := Segs.zero h1 rfl
    cases h2 with
    | leaf a' m =>
      refine ⟨e1, by simp [e2], fun j hj => ?_⟩
      by_cases q : j < n
      · rw [List.getElem?_append_left (by omega)]; exact e3 j q
      · have : j = n := by omega
        subst this
        rw [List.getElem?_append_right (by omega), e2]; simp
theorem Segs.allK0 {N : List Nod} {lens links} : ∀ {d ks a n m m'}, Segs N d ks a n m m' → d = 0 → a + n ≤ 100 → ∀ nb, AllK lens links 0 true (ks.map (mk N 0)) nb ↔ linksOk links a n nb
  | _, _, _, _, _, _, .nil d a m, _, _, nb => ⟨fun _ i h1 h2 => by omega, fun _ j hj => by simp at hj⟩
  | _, _, _, _, _, _, .snoc d a n n' m m' m'' ks k h1 h2 h3, hd, hb, nb => by
    subst hd
    cases h2 with
    | leaf a' m =>
      rw [List.map_append, List.map_singleton, mk_leaf (by omega), AllK_snoc, linksOk_snoc h3]
      simp only [Sh.first, if_true]
      rw [Segs.allK0 h1 rfl (by omega)]
      constructor
      · rintro ⟨k1, k2⟩
        refine ⟨k1, fun i h1 h2 => ?_⟩
        have : i = a + n := by omega
        subst this
        rw [if_neg (by omega)]; simpa [show ((a : Int) + (n : Int)).toNat = a + n by omega] using k2
      · rintro ⟨k1, k2⟩
        refine ⟨k1, ?_⟩
        have := k2 (a + n) (Nat.le_refl _) (by omega)
        rw [if_neg (by omega)] at this
        simpa [show ((a : Int) + (n : Int)).toNat = a + n by omega] using this
/-- a kid's first leaf, as it is told -/
theorem Nest.first {N : List Nod} {d s a n m m'} (h : Nest N (d + 1) s a n m m') (ok : nodesOk N m m') (L : Nat) (hL : a + n ≤ 100) : (mk N (d + 1) s).first = a ∧ (mk N (d + 1) s).isLeaf = false ∧ 0 < (mk N (d + 1) s).size [] := by
  cases h with
  | node d a n m m' p h1 h2 h3 h4 =>
    rw [mk_node h1]
    refine ⟨?_, rfl, ?_⟩
    · show p.f = _
      rw [ok m' h4.le (by omega) p h1, h2]
    · simp only [Sh.size, List.length_map]; exact List.length_pos_iff.mpr h3
theorem Nest.kind {N : List Nod} {lens} {d s a n m m'} (h : Nest N (d + 1) s a n m m') : (mk N (d + 1) s).isLeaf = false ∧ 0 < (mk N (d + 1) s).size lens := by
  cases h with
  | node d a n m m' p h1 h2 h3 h4 =>
    rw [mk_node h1]
    refine ⟨rfl, ?_⟩
    simp only [Sh.size, List.length_map]; exact List.length_pos_iff.mpr h3
def NestOk (N : List Nod) (lens : List Nat) (links : List Int) (d : Nat) : Prop := ∀ {s a n m m'}, Nest N d s a n m m' → a + n ≤ 100 → ∀ nb, chk lens links d (mk N d s) nb = true ↔ nodesOk N m m' ∧ lensOk lens a n ∧ linksOk links a n nb
theorem Segs.allK {N : List Nod} {lens links} {d : Nat} (ih : NestOk N lens links (d + 1)) : ∀ {e ks a n m m'}, Segs N e ks a n m m' → e = d + 1 → a + n ≤ 100 → ∀ nb, AllK lens links (d + 1) false (ks.map (mk N (d + 1))) nb ↔ nodesOk N m m' ∧ lensOk lens a n ∧ linksOk links a n nb
  | _, _, _, _, _, _, .nil e a m, _, _, nb => ⟨fun _ => ⟨fun j h1 h2 => by omega, fun i h1 h2 => by omega, fun i h1 h2 => by omega⟩, fun _ j hj => by simp at hj⟩
  | _, _, _, _, _, _, .snoc e a n n' m m' m'' ks k h1 h2 h3, he, hb, nb => by
    subst he
    rw [List.map_append, List.map_singleton, AllK_snoc, linksOk_snoc h3, lensOk_snoc, nodesOk_snoc h1.le h2.le]
    simp only [Bool.false_eq_true, if_false]
    rw [ih h2 (by omega)]
    constructor
    · rintro ⟨k1, k2, k3, k4⟩
      rw [(h2.first k2 0 (by omega)).1, Segs.allK ih h1 rfl (by omega)] at k1
      exact ⟨⟨k1.1, k2⟩, ⟨k1.2.1, k3⟩, k1.2.2, k4⟩
    · rintro ⟨⟨k1, k2⟩, ⟨k3, k4⟩, k5, k6⟩
      refine ⟨?_, k2, k4, k6⟩
      rw [(h2.first k2 0 (by omega)).1, Segs.allK ih h1 rfl (by omega)]
      exact ⟨k1, k3, k5⟩
theorem Segs.kinds {N : List Nod} {lens} {d : Nat} : ∀ {e ks a n m m'}, Segs N e ks a n m m' → e = d + 1 → ∀ x ∈ ks.map (mk N (d + 1)), x.isLeaf = false ∧ 0 < x.size lens
  | _, _, _, _, _, _, .nil e a m, _ => fun x hx => by simp at hx
  | _, _, _, _, _, _, .snoc e a n n' m m' m'' ks k h1 h2 h3, he => by
    subst he
    intro x hx
    rw [List.map_append] at hx
    rcases List.mem_append.mp hx with h | h
    · exact Segs.kinds h1 rfl x h
    · simp at h; subst h; exact h2.kind
theorem Segs.nil_m {N : List Nod} {d a n m m'} (h : Segs N d [] a n m m') : n = 0 ∧ m = m' := by
  generalize e : ([] : List Int) = ks at h
  cases h with
  | nil => exact ⟨rfl, rfl⟩
  | snoc => simp at e
theorem Segs.head {N : List Nod} : ∀ {d ks a n m m'}, Segs N d ks a n m m' → ks ≠ [] → ∃ k n' m₁, ks[0]? = some k ∧ Nest N d k a n' m m₁ ∧ n' ≤ n ∧ m₁ ≤ m'
  | _, _, _, _, _, _, .nil e a m, h => absurd rfl h
  | _, _, _, _, _, _, .snoc d a n n' m m' m'' ks k h1 h2 h3, _ => by
    cases ks with
    | nil =>
      obtain ⟨e1, e2⟩ := h1.nil_m
      subst e1; subst e2
      exact ⟨k, n', m'', rfl, by simpa using h2, by omega, Nat.le_refl _⟩
    | cons k0 ks =>
      obtain ⟨k', n'', m₁, e1, e2, e3, e4⟩ := Segs.head h1 (by simp)
      exact ⟨k', n'', m₁, by simpa using e1, e2, by omega, Nat.le_trans e4 h2.le⟩
theorem nestStep {N : List Nod} {lens links} {d : Nat} (ih : d ≠ 0 → NestOk N lens links d) : NestOk N lens links (d + 1) := by
    intro s a n m m' h hb nb
    cases h with
    | node d a n m m' p h1 h2 h3 h4 =>
      rw [mk_node h1]
      obtain ⟨k, n', m₁, e1, e2, e3, e4⟩ := h4.head h3
      have e1' : (p.kids.map (mk N d))[0]? = some (mk N d k) := by rw [List.getElem?_map, e1]; rfl
      rw [chk_iff e1', nodesOk_snoc h4.le (Nat.le_succ m')]
      have own : nodesOk N m' (m' + 1) ↔ p.f = a := by
        constructor
        · intro k; rw [k m' (Nat.le_refl _) (Nat.lt_succ_self _) p h1, h2]
        · intro k j h5 h6 q hq
          have : j = m' := by omega
          subst this
          rw [h1] at hq; cases hq; rw [k, h2]
      rw [own]
      cases d with
      | zero =>
        obtain ⟨z1, z2, z3⟩ := h4.zero rfl
        cases e2 with
        | leaf a' m =>
          rw [mk_leaf (by omega)]
          simp only [Sh.isLeaf, Sh.first]
          rw [h4.allK0 rfl (by omega)]
          have same : (∀ x ∈ p.kids.map (mk N 0), kidSame lens (.leaf a) x = true) ↔ lensOk lens a n := by
            constructor
            · intro k i h5 h6
              have hm := List.mem_of_getElem? (z3 (i - a) (by omega))
              rw [show a + (i - a) = i by omega] at hm
              have := k _ (List.mem_map_of_mem (f := mk N 0) hm)
              rw [mk_leaf (by omega)] at this
              simpa [kidSame, Sh.isLeaf, Sh.size] using this
            · intro k x hx
              obtain ⟨y, hy, rfl⟩ := List.mem_map.mp hx
              obtain ⟨j, hj⟩ := List.mem_iff_getElem?.mp hy
              have hjn : j < n := by
                rcases Nat.lt_or_ge j n with q | q
                · exact q
                · rw [List.getElem?_eq_none (by omega)] at hj; cases hj
              rw [z3 j hjn] at hj; cases hj
              rw [mk_leaf (by omega)]
              have := k (a + j) (by omega) (by omega)
              simpa [kidSame, Sh.isLeaf, Sh.size] using this
          rw [same]
          constructor
          · rintro ⟨k1, k2, k3, k4⟩
            exact ⟨⟨fun j h5 h6 => by omega, k3⟩, k2, k4⟩
          · rintro ⟨⟨k1, k2⟩, k3, k4⟩
            exact ⟨by omega, k3, k2, k4⟩
      | succ d =>
        have ih : NestOk N lens links (d + 1) := ih (by omega)
        have kin := h4.kinds (lens := lens) rfl
        have kmem : mk N (d + 1) k ∈ p.kids.map (mk N (d + 1)) := List.mem_of_getElem? e1'
        have same : ∀ x ∈ p.kids.map (mk N (d + 1)), kidSame lens (mk N (d + 1) k) x = true := by
          intro x hx
          have q1 := kin x hx
          have q2 := kin _ kmem
          simp [kidSame, q1.1, q2.1, q1.2]
        rw [(kin _ kmem).1, Segs.allK ih h4 rfl (by omega)]
        have fst : nodesOk N m m' → (mk N (d + 1) k).first = a := fun ok => (e2.first (fun j h5 h6 => ok j h5 (by omega)) 0 (by omega)).1
        constructor
        · rintro ⟨k1, _, k3, k4, k5, k6⟩
          exact ⟨⟨k4, by rw [k3, fst k4]⟩, k5, k6⟩
        · rintro ⟨⟨k1, k2⟩, k3, k4⟩
          exact ⟨by omega, same, by rw [k2, fst k1], k1, k3, k4⟩
theorem nestOk {N : List Nod} {lens links} (d : Nat) : NestOk N lens links (d + 1) := by
  induction d with
  | zero => exact nestStep fun h => absurd rfl h
  | succ d ih => exact nestStep fun _ => ih
end
end Mine

namespace Mine
section
mutual
theorem Nest.congB {N N' : List Nod} {b : Nat} (c : ∀ (j : Nat) p, j < b → N[j]? = some p → ∃ q, N'[j]? = some q ∧ q.kids = p.kids ∧ q.due = p.due) : ∀ {d s a n m m'}, Nest N d s a n m m' → m' ≤ b → Nest N' d s a n m m'
  | _, _, _, _, _, _, .leaf a m, _ => .leaf a m
  | _, _, _, _, _, _, .node d a n m m' p h1 h2 h3 h4, hb => by
    obtain ⟨q, e1, e2, e3⟩ := c _ _ hb h1
    exact .node d a n m m' q e1 (e3.trans h2) (by rw [e2]; exact h3) (by rw [e2]; exact Segs.congB c h4 (by omega))
theorem Segs.congB {N N' : List Nod} {b : Nat} (c : ∀ (j : Nat) p, j < b → N[j]? = some p → ∃ q, N'[j]? = some q ∧ q.kids = p.kids ∧ q.due = p.due) : ∀ {d ks a n m m'}, Segs N d ks a n m m' → m' ≤ b → Segs N' d ks a n m m'
  | _, _, _, _, _, _, .nil d a m, _ => .nil d a m
  | _, _, _, _, _, _, .snoc d a n n' m m' m'' ks k h1 h2 h3, hb => .snoc d a n n' m m' m'' ks k (Segs.congB c h1 (Nat.le_trans h2.le hb)) (Nest.congB c h2 hb) h3
end
theorem Segs.lenLe {N : List Nod} : ∀ {d ks a n m m'}, Segs N d ks a n m m' → ks.length ≤ n
  | _, _, _, _, _, _, .nil d a m => Nat.le_refl _
  | _, _, _, _, _, _, .snoc d a n n' m m' m'' ks k h1 h2 h3 => by have := h1.lenLe; simp; omega
mutual
theorem Nest.vld {N : List Nod} {nB : Nat} (hf : ∀ p ∈ N, -1 ≤ p.f ∧ p.f < (nB : Int)) (hB : nB ≤ 20) : ∀ {d s a n m m'}, Nest N d s a n m m' → a + n ≤ nB → Vld N nB d s
  | _, _, _, _, _, _, .leaf a m, h => ⟨by omega, by omega, by omega⟩
  | _, _, _, _, _, _, .node d a n m m' p h1 h2 h3 h4, h => .inr (.inr ⟨p, by omega, by rw [show ((m' : Int) + 100 - 100).toNat = m' by omega]; exact h1, h3, by have := h4.lenLe; omega, (hf p (List.mem_of_getElem? h1)).1, (hf p (List.mem_of_getElem? h1)).2, Segs.vld hf hB h4 h⟩)
theorem Segs.vld {N : List Nod} {nB : Nat} (hf : ∀ p ∈ N, -1 ≤ p.f ∧ p.f < (nB : Int)) (hB : nB ≤ 20) : ∀ {d ks a n m m'}, Segs N d ks a n m m' → a + n ≤ nB → ∀ k ∈ ks, Vld N nB d k
  | _, _, _, _, _, _, .nil d a m, h => fun k hk => by cases hk
  | _, _, _, _, _, _, .snoc d a n n' m m' m'' ks k h1 h2 h3, h => fun k' hk => by
    rcases List.mem_append.mp hk with z | z
    · exact Segs.vld hf hB h1 (by omega) k' z
    · rw [List.mem_singleton.mp z]; exact Nest.vld hf hB h2 (by omega)
end
theorem Nest.root {N : List Nod} {d s a n m m'} (h : Nest N (d + 1) s a n m m') : s = ((m' - 1 : Nat) : Int) + 100 := by
  cases h with
  | node d a n m m' p h1 h2 h3 h4 => rfl
theorem Nest.inv {N : List Nod} {d s a n m m'} (h : Nest N (d + 1) s a n m m') : ∃ p m₁, m' = m₁ + 1 ∧ N[m₁]? = Option.some p ∧ p.kids ≠ [] ∧ Segs N d p.kids a n m m₁ := by
  cases h with
  | node d a n m m₁ p h1 h2 h3 h4 => exact ⟨p, _, rfl, h1, h3, h4⟩
/-- a kid of a nest of depth 0 is small -/
theorem Segs.small {N : List Nod} {ks a n m m'} (h : Segs N 0 ks a n m m') (hn : a + n ≤ 20) : ∀ k ∈ ks, k < 100 := by
  intro k hk
  obtain ⟨z1, z2, z3⟩ := h.zero rfl
  obtain ⟨j, hj⟩ := List.mem_iff_getElem?.mp hk
  have hjn : j < n := by
    rcases Nat.lt_or_ge j n with q | q
    · exact q
    · rw [List.getElem?_eq_none (by omega)] at hj; cases hj
  rw [z3 j hjn] at hj; cases hj
  omega
/-- the two special changes are found -/
theorem chk_mixed {N' : List Nod} {lens links} {d m : Nat} {p : Nod} {k0 : Int} {x : Nat} {N : List Nod} {a n m0 m1 : Nat} (hp : N'[m]? = some p) (hk : p.kids = [k0, (x : Int)]) (hx : x < 100) (h0 : Nest N' (d + 1) k0 a n m0 m1) (nb : Int) :
    chk lens links (d + 2) (mk N' (d + 2) ((m : Int) + 100)) nb = false := by
  rw [mk_node hp, hk]
  simp only [List.map_cons, List.map_nil]
  refine chk_false2 (x := mk N' (d + 1) (x : Int)) (.tail _ (.head _)) ?_
  rw [mk_leaf hx]
  show ((Sh.leaf x).isLeaf == (mk N' (d + 1) k0).isLeaf && _) = false
  rw [(h0.kind (lens := lens)).1]
  rfl
theorem chk_none {N' : List Nod} {lens links} {d m : Nat} {p : Nod} {k0 : Int} {ks : List Int} (hp : N'[m]? = some p) (hk : p.kids = k0 :: (ks ++ [-1])) (nb : Int) :
    chk lens links (d + 2) (mk N' (d + 2) ((m : Int) + 100)) nb = false := by
  rw [mk_node hp, hk]
  simp only [List.map_cons, List.map_append, List.map_nil]
  refine chk_false2 (x := mk N' (d + 1) (-1)) (List.mem_cons_of_mem _ (List.mem_append_right _ (.head _))) ?_
  have : mk N' (d + 1) (-1) = .node (-1) [] := by unfold mk; rfl
  rw [this]
  simp [kidSame, Sh.size]
end
end Mine

open PySem PySem.W PySem.Calls PyProof.Rows
namespace Mine

section

abbrev Loc := List (Str × Value)
def put (x : Str) (v : Value) : Loc → Loc
  | [] => [(x, v)]
  | (y, u) :: r => if y = x then (y, v) :: r else (y, u) :: put x v r

theorem lookup_put (x : Str) (v : Value) : ∀ (m : Loc) (y : Str), (put x v m).lookup y = if y = x then some v else m.lookup y
  | [], y => by
    by_cases h : y = x
    · subst h; simp [put]
    · have : (y == x) = false := beq_eq_false_iff_ne.mpr h
      simp [put, h]
  | (z, u) :: r, y => by
    unfold put
    by_cases hz : z = x
    · subst hz
      rw [if_pos rfl]
      by_cases h : y = z
      · subst h; simp
      · have : (y == z) = false := beq_eq_false_iff_ne.mpr h
        simp [List.lookup_cons, this, h]
    · rw [if_neg hz, List.lookup_cons, List.lookup_cons, lookup_put x v r y]
      by_cases h : y = z
      · subst h; simp [hz]
      · have : (y == z) = false := beq_eq_false_iff_ne.mpr h
        simp [this]

/-- an object of the call's own, as it is told -/
inductive AO where
  | inst (C : Addr) (fs : Loc)
  | list (xs : List Value)
  | raw (o : Obj)
  | fld (cls : Value) (vs : List Value)
  | ns (m : Loc)
  | cell (v : Option Value)

structure AH where
  obj : Addr → Option AO
  gens : Array GenState

def AH.set (H : AH) (a : Addr) (o : AO) : AH := ⟨fun b => if b = a then some o else H.obj b, H.gens⟩
theorem AH.set_same {H : AH} {a : Addr} {o : AO} : (H.set a o).obj a = some o := if_pos rfl
theorem AH.set_ne {H : AH} {a b : Addr} {o : AO} (h : b ≠ a) : (H.set a o).obj b = H.obj b := if_neg h
@[ext] theorem AH.ext' {H K : AH} (h : ∀ a, H.obj a = K.obj a) (g : H.gens = K.gens) : H = K := by
  cases H; cases K; simp only at h g; subst g; congr; funext a; exact h a

theorem AH.set_set {H : AH} {a : Addr} {x y : AO} : (H.set a x).set a y = H.set a y := by
  apply AH.ext'
  · intro b; by_cases h : b = a
    · subst h; rw [AH.set_same, AH.set_same]
    · rw [AH.set_ne h, AH.set_ne h, AH.set_ne h]
  · rfl
theorem AH.set_comm {H : AH} {a b : Addr} {x y : AO} (n : a ≠ b) : (H.set a x).set b y = (H.set b y).set a x := by
  apply AH.ext'
  · intro e; by_cases h : e = a
    · subst h; rw [AH.set_ne n, AH.set_same, AH.set_same]
    · rw [AH.set_ne (a := a) h]; by_cases h' : e = b
      · subst h'; rw [AH.set_same, AH.set_same]
      · rw [AH.set_ne h', AH.set_ne h', AH.set_ne h]
  · rfl
theorem AH.set_id {H : AH} {a : Addr} {x : AO} (h : H.obj a = some x) : H.set a x = H := by
  apply AH.ext'
  · intro b; by_cases h' : b = a
    · subst h'; rw [AH.set_same, h]
    · rw [AH.set_ne h']
  · rfl
theorem AH.set_gens {H : AH} {a : Addr} {x : AO} : (H.set a x).gens = H.gens := rfl

def Flds : List DictEntry → Loc → Prop
  | [], [] => True
  | e :: es, (x, v) :: fs => (∃ t, e.key = .str x t) ∧ e.val = v ∧ Flds es fs
  | _, _ => False

theorem isStr_str (x y : Str) (t : Tok) : (Value.str x t).isStr y = (x == y) := rfl
theorem beq_comm_str (x y : Str) : (x == y) = (y == x) := by
  by_cases h : x = y
  · subst h; rfl
  · rw [beq_eq_false_iff_ne.mpr h, beq_eq_false_iff_ne.mpr (Ne.symm h)]

theorem getL_flds (x : Str) : ∀ {es : List DictEntry} {fs : Loc}, Flds es fs → getL x es = some (fs.lookup x) := by
  intro es fs h
  have key : ∀ {es : List DictEntry} {fs : Loc}, Flds es fs → (es.find? (·.key.isStr x)).map (·.val) = fs.lookup x ∧ es.any (·.refKey) = false := by
    intro es
    induction es with
    | nil => intro fs h; cases fs with | nil => exact ⟨rfl, rfl⟩ | cons _ _ => exact h.elim
    | cons e es ih =>
      intro fs h
      cases fs with
      | nil => exact h.elim
      | cons p fs =>
        obtain ⟨y, v⟩ := p
        obtain ⟨⟨t, hk⟩, hv, hr⟩ := h
        obtain ⟨i1, i2⟩ := ih hr
        constructor
        · rw [List.find?_cons, hk, isStr_str, beq_comm_str, List.lookup_cons]
          cases (x == y) with
          | true => simp [hv]
          | false => exact i1
        · rw [List.any_cons, i2, Bool.or_false]
          show DictEntry.refKey e = false
          unfold DictEntry.refKey
          rw [hk]
  obtain ⟨a, b⟩ := key h
  unfold getL
  cases q : es.find? (·.key.isStr x) with
  | some e => rw [q] at a; rw [← a]; rfl
  | none => rw [q] at a; rw [← a, b]; rfl

theorem flds_put (x : Str) (hsh : Int) (t : Tok) (v : Value) : ∀ {es : List DictEntry} {fs : Loc}, Flds es fs → Flds (putL x hsh (.str x t) v es) (put x v fs)
  | [], [], _ => ⟨⟨t, rfl⟩, rfl, trivial⟩
  | e :: es, (y, u) :: fs, ⟨⟨t', hk⟩, hv, hr⟩ => by
    unfold putL put
    rw [hk, isStr_str]
    by_cases h : y = x
    · subst h; simp only [beq_self_eq_true, if_true]; exact ⟨⟨t', rfl⟩, rfl, hr⟩
    · rw [beq_eq_false_iff_ne.mpr h, if_neg (by decide), if_neg h]
      exact ⟨⟨t', hk⟩, hv, flds_put x hsh t v hr⟩
theorem flds_length : ∀ {es : List DictEntry} {fs : Loc}, Flds es fs → es.length = fs.length
  | [], [], _ => rfl
  | _ :: _, (_, _) :: _, ⟨_, _, hr⟩ => by simp [flds_length hr]

/-- the frame that the walk stands in -/
structure Cx where
  base : Heap
  outer : List Env
  fr : List (Addr × Loc)
  cn : Str
  cs : Scope
  L : Addr
  a : Addr
  ccd : Value
  cl : List (Str × Addr)
  os : OsState
abbrev Cx.env (c : Cx) : Env := envX c.cn c.cs c.L c.a c.ccd c.cl

structure Tp where
  P : Program
  loose : List Str
  mean : ExcName → Option Value
  mg : Str → Option Value
  mb : Str → Option Value

structure Ok (K : Frag) (T : Tp) (A : Around) (c : Cx) (d u : Nat) : Prop where
  X : K.In c.base
  T : Top T.P T.loose T.mean T.mg T.mb c.base
  hA : A.frames = some (c.env :: c.outer)
  hk : c.cs.kind = .function
  hd : A.depth + d < recursionLimit
  hu : A.units + u < cLine

/-- the frames beneath, with what their names stand for -/
def Under (base : Heap) : List Env → List (Addr × Loc) → Heap → Prop
  | [], [], _ => True
  | env :: es, p :: fs, h => env.scope.kind = .function ∧ env.frame = some p.1 ∧ base.get? p.1 = none ∧ base.objs.size ≤ p.1 ∧ h.Ns p.1 (fun y => p.2.lookup y) ∧ Under base es fs h
  | _, _, _ => False

theorem Under.turn {base h h' : Heap} : ∀ {es : List Env} {fs : List (Addr × Loc)}, Under base es fs h → (∀ p ∈ fs, h.Ns p.1 (fun y => p.2.lookup y) → h'.Ns p.1 (fun y => p.2.lookup y)) → Under base es fs h'
  | [], [], _, _ => trivial
  | _ :: _, _ :: _, ⟨a, b, d, z, e, r⟩, k => ⟨a, b, d, z, k _ (.head _) e, r.turn fun p hp => k p (.tail _ hp)⟩
theorem Under.ns {base h : Heap} : ∀ {es : List Env} {fs : List (Addr × Loc)}, Under base es fs h → ∀ p ∈ fs, h.Ns p.1 (fun y => p.2.lookup y) ∧ base.get? p.1 = none ∧ base.objs.size ≤ p.1
  | [], _ :: _, h, _, _ => h.elim
  | _ :: _, _ :: _, ⟨_, _, d, z, e, _⟩, _, .head _ => ⟨e, d, z⟩
  | _ :: _, _ :: _, ⟨_, _, _, _, _, r⟩, _, .tail _ h => r.ns _ h
theorem Under.funFrames {base h : Heap} : ∀ {es : List Env} {fs : List (Addr × Loc)}, Under base es fs h → h.FunFrames base es
  | [], [], _ => trivial
  | _ :: _, _ :: _, ⟨a, b, d, _, ⟨o, xs, ep, ho, hd, _⟩, r⟩ => ⟨by rw [a]; decide, ⟨_, o, b, d, ho, fun vs q => by rw [hd] at q; cases q⟩, r.funFrames⟩
theorem Under.frames {base h : Heap} : ∀ {es : List Env} {fs : List (Addr × Loc)}, Under base es fs h → ∀ env ∈ es, ∃ p ∈ fs, env.frame = some p.1
  | _ :: _, _ :: _, ⟨_, b, _, _, _, _⟩, _, .head _ => ⟨_, .head _, b⟩
  | _ :: _, _ :: _, ⟨_, _, _, _, _, r⟩, _, .tail _ h => let ⟨p, hp, e⟩ := r.frames _ h; ⟨p, .tail _ hp, e⟩

def Free (c : Cx) (a : Addr) : Prop := a ≠ c.L ∧ (∀ p ∈ c.fr, p.1 ≠ a) ∧ c.base.get? a = none

def At (h : Heap) (D : Addr → Addr) (a : Addr) : AO → Prop
  | .inst C fs => h.get? a = some (instObj C (D a)) ∧ ∃ es n, h.get? (D a) = some (dictOf es n) ∧ Flds es fs
  | .list xs => ∃ n, h.get? a = some (listOf xs.toArray n)
  | .raw o => h.get? a = some o
  | .fld cls vs => ∃ o, h.get? a = some o ∧ o.cls = cls ∧ o.data = .fields vs.toArray
  | .ns m => h.Ns a (fun y => m.lookup y)
  | .cell v => ∃ o, h.get? a = some o ∧ o.data = .cell v

/-- the addresses that bear what is told -/
def Trk (D : Addr → Addr) (H : AH) (b : Addr) : Prop := (H.obj b).isSome ∨ ∃ a C fs, H.obj a = some (.inst C fs) ∧ D a = b

structure Rep (c : Cx) (D : Addr → Addr) (H : AH) (h : Heap) : Prop where
  at_ : ∀ a ao, H.obj a = some ao → At h D a ao ∧ Free c a
  own : ∀ a C fs, H.obj a = some (.inst C fs) → Free c (D a) ∧ H.obj (D a) = none
  inj : ∀ a C fs a' C' fs', H.obj a = some (.inst C fs) → H.obj a' = some (.inst C' fs') → D a = D a' → a = a'

structure St (c : Cx) (m : Loc) (H : AH) (s : Shared) : Prop where
  base : c.base.StaysIn s.heap
  above : c.base.objs.size ≤ c.L
  ns : s.heap.Ns c.L (fun y => m.lookup y)
  under : Under c.base c.outer c.fr s.heap
  low : ∀ p ∈ c.fr, @LT.lt Nat _ p.1 c.L
  rep : ∃ D, Rep c D H s.heap
  gens : s.gens = H.gens
  os : s.os = c.os

theorem At.there {h : Heap} {D : Addr → Addr} {a : Addr} {ao : AO} (x : At h D a ao) : ∃ o, h.get? a = some o := by
  cases ao with
  | inst C fs => exact ⟨_, x.1⟩
  | list xs => obtain ⟨n, x⟩ := x; exact ⟨_, x⟩
  | raw o => exact ⟨_, x⟩
  | fld cls vs => obtain ⟨o, x, _⟩ := x; exact ⟨_, x⟩
  | ns m => obtain ⟨o, es, ep, x, _⟩ := x; exact ⟨_, x⟩
  | cell v => obtain ⟨o, x, _⟩ := x; exact ⟨_, x⟩
theorem At.keeps {h h' : Heap} {D : Addr → Addr} {a : Addr} {ao : AO} (x : At h D a ao) (k : ∀ o, h.get? a = some o → h'.get? a = some o) (k' : ∀ C fs, ao = .inst C fs → ∀ o, h.get? (D a) = some o → h'.get? (D a) = some o) : At h' D a ao := by
  cases ao with
  | inst C fs => obtain ⟨x1, es, n, x2, x3⟩ := x; exact ⟨k _ x1, es, n, k' _ _ rfl _ x2, x3⟩
  | list xs => obtain ⟨n, x⟩ := x; exact ⟨n, k _ x⟩
  | raw o => exact k _ x
  | fld cls vs => obtain ⟨o, x, y⟩ := x; exact ⟨o, k _ x, y⟩
  | ns m => obtain ⟨o, es, ep, x, r⟩ := x; exact ⟨o, es, ep, k _ x, r⟩
  | cell v => obtain ⟨o, x, y⟩ := x; exact ⟨o, k _ x, y⟩
theorem St.lt {c : Cx} {m : Loc} {H : AH} {s : Shared} (S : St c m H s) {a : Addr} {ao : AO} (h : H.obj a = some ao) : @LT.lt Nat _ a s.heap.objs.size := by
  obtain ⟨D, R⟩ := S.rep
  obtain ⟨o, ho⟩ := (R.at_ a ao h).1.there
  exact Heap.lt_size ho
theorem St.fresh {c : Cx} {m : Loc} {H : AH} {s : Shared} (S : St c m H s) : H.obj s.heap.objs.size = none := by
  cases q : H.obj s.heap.objs.size with
  | none => rfl
  | some ao => exact absurd (S.lt q) (Nat.lt_irrefl _)
theorem Rep.trk {c : Cx} {D : Addr → Addr} {H : AH} {h : Heap} (R : Rep c D H h) {b : Addr} (t : Trk D H b) : Free c b ∧ ∃ o, h.get? b = some o := by
  rcases t with t | ⟨a, C, fs, t, rfl⟩
  · obtain ⟨ao, e⟩ := Option.isSome_iff_exists.mp t
    exact ⟨(R.at_ b ao e).2, (R.at_ b ao e).1.there⟩
  · obtain ⟨x1, es, n, x2, x3⟩ := (R.at_ a _ t).1
    exact ⟨(R.own a C fs t).1, _, x2⟩

/-- what is told stands at a heap that keeps it -/
theorem Rep.keeps {c : Cx} {D : Addr → Addr} {H : AH} {h h' : Heap} (R : Rep c D H h) (k : ∀ b o, Trk D H b → h.get? b = some o → h'.get? b = some o) : Rep c D H h' :=
  ⟨fun a ao e => ⟨(R.at_ a ao e).1.keeps (fun o => k a o (.inl (by rw [e]; rfl))) fun C fs q o => k _ o (.inr ⟨a, C, fs, q ▸ e, rfl⟩), (R.at_ a ao e).2⟩, R.own, R.inj⟩
theorem Rep.frame {c c' : Cx} {D : Addr → Addr} {H : AH} {h : Heap} (R : Rep c D H h) (k : ∀ b, Trk D H b → Free c b → Free c' b) : Rep c' D H h :=
  ⟨fun a ao e => ⟨(R.at_ a ao e).1, k a (.inl (by rw [e]; rfl)) (R.at_ a ao e).2⟩, fun a C fs e => ⟨k _ (.inr ⟨a, C, fs, e, rfl⟩) (R.own a C fs e).1, (R.own a C fs e).2⟩, R.inj⟩

/-- all but P is kept -/
def Kept (P : Addr → Prop) (h h' : Heap) : Prop := ∀ b o, ¬ P b → h.get? b = some o → h'.get? b = some o
theorem Kept.ns {P : Addr → Prop} {h h' : Heap} (k : Kept P h h') {a : Addr} {m : Str → Option Value} (ha : ¬ P a) (n : h.Ns a m) : h'.Ns a m := let ⟨o, es, ep, ho, r⟩ := n; ⟨o, es, ep, k a o ha ho, r⟩

theorem St.toks {c : Cx} {m : Loc} {H : AH} {s : Shared} (S : St c m H s) (tk : Nat) : St c m H { s with toks := tk } := ⟨S.base, S.above, S.ns, S.under, S.low, S.rep, S.gens, S.os⟩

/-- the frame's part of a step -/
theorem St.env {c : Cx} {m : Loc} {H : AH} {s : Shared} (S : St c m H s) {P : Addr → Prop} {h' : Heap} (k : Kept P s.heap h') (hb : ∀ b o, P b → c.base.get? b ≠ some o) (hf : ∀ p ∈ c.fr, ¬ P p.1) :
    c.base.StaysIn h' ∧ Under c.base c.outer c.fr h' :=
  ⟨fun b o e => k b o (fun q => hb b o q e) (S.base b o e), S.under.turn fun p hp n => k.ns (hf p hp) n⟩

/-- a name of the frame is bound anew -/
theorem St.bind {c : Cx} {m : Loc} {H : AH} {s : Shared} (S : St c m H s) {x : Str} {v : Value} {h' : Heap} {tk : Nat} (hn : h'.Ns c.L (fun y => if y = x then some v else m.lookup y)) (hs : Heap.SameBut c.L s.heap h') :
    St c (put x v m) H { s with heap := h', toks := tk } := by
  obtain ⟨D, R⟩ := S.rep
  have k : Kept (· = c.L) s.heap h' := fun b o hb e => (hs.2 b hb).trans e
  obtain ⟨e1, e2⟩ := S.env k (fun b o q e => by subst q; exact absurd (Heap.lt_size e) (Nat.not_lt.mpr S.above)) (fun p hp q => by have := S.low p hp; rw [q] at this; exact Nat.lt_irrefl _ this)
  refine ⟨e1, S.above, ?_, e2, S.low, ⟨D, R.keeps fun b o t e => k b o (R.trk t).1.1 e⟩, S.gens, S.os⟩
  have e : (fun y => (put x v m).lookup y) = fun y => if y = x then some v else m.lookup y := funext fun y => lookup_put x v m y
  rw [e]; exact hn

/-- the heap has grown -/
theorem St.grown {c : Cx} {m : Loc} {H : AH} {s : Shared} (S : St c m H s) {h' : Heap} {tk : Nat} (k : ∀ b o, s.heap.get? b = some o → h'.get? b = some o) : St c m H { s with heap := h', toks := tk } := by
  obtain ⟨D, R⟩ := S.rep
  have k' : Kept (fun _ => False) s.heap h' := fun b o _ e => k b o e
  obtain ⟨e1, e2⟩ := S.env k' (fun _ _ q => q.elim) (fun _ _ q => q)
  exact ⟨e1, S.above, k'.ns id S.ns, e2, S.low, ⟨D, R.keeps fun b o _ e => k b o e⟩, S.gens, S.os⟩

/-- an object of the call's own is changed -/
theorem St.changeK {c : Cx} {m : Loc} {H : AH} {s : Shared} (S : St c m H s) {a : Addr} {ao ao' : AO} {h' : Heap} {tk : Nat} (ha : H.obj a = some ao) (hi' : ∀ C fs, ao' ≠ .inst C fs)
    (k : Kept (· = a) s.heap h') (hn : ∀ D, At h' D a ao') : St c m (H.set a ao') { s with heap := h', toks := tk } := by
  obtain ⟨D, R⟩ := S.rep
  have fa := (R.at_ a ao ha).2
  obtain ⟨e1, e2⟩ := S.env k (fun b o q e => by subst q; rw [fa.2.2] at e; cases e) (fun p hp q => fa.2.1 p hp q)
  refine ⟨e1, S.above, k.ns (Ne.symm fa.1) S.ns, e2, S.low, ⟨D, ?_, ?_, ?_⟩, S.gens, S.os⟩
  · intro b bo e
    by_cases hb : b = a
    · subst hb; rw [AH.set_same] at e; cases e; exact ⟨hn D, fa⟩
    · rw [AH.set_ne hb] at e
      obtain ⟨x, f⟩ := R.at_ b bo e
      refine ⟨x.keeps (fun o => k b o hb) (fun C fs q o => k _ o (fun q' => ?_)), f⟩
      subst q
      have := (R.own b C fs e).2; rw [q', ha] at this; cases this
  · intro b C fs e
    have hb : b ≠ a := by rintro rfl; rw [AH.set_same] at e; exact hi' C fs (Option.some.inj e)
    rw [AH.set_ne hb] at e
    obtain ⟨f, z⟩ := R.own b C fs e
    refine ⟨f, ?_⟩
    rw [AH.set_ne (by intro q; rw [q, ha] at z; cases z)]; exact z
  · intro b C fs b' C' fs' e e' q
    have hb : b ≠ a := by rintro rfl; rw [AH.set_same] at e; exact hi' C fs (Option.some.inj e)
    have hb' : b' ≠ a := by rintro rfl; rw [AH.set_same] at e'; exact hi' C' fs' (Option.some.inj e')
    rw [AH.set_ne hb] at e; rw [AH.set_ne hb'] at e'
    exact R.inj b C fs b' C' fs' e e' q
theorem St.change {c : Cx} {m : Loc} {H : AH} {s : Shared} (S : St c m H s) {a : Addr} {ao ao' : AO} {h' : Heap} {tk : Nat} (ha : H.obj a = some ao) (hi' : ∀ C fs, ao' ≠ .inst C fs)
    (hs : Heap.SameBut a s.heap h') (hn : ∀ D, At h' D a ao') : St c m (H.set a ao') { s with heap := h', toks := tk } := S.changeK ha hi' (fun b o hb e => (hs.2 b hb).trans e) hn

/-- an object is told no more -/
def AH.del (H : AH) (a : Addr) : AH := ⟨fun b => if b = a then none else H.obj b, H.gens⟩
theorem AH.del_same {H : AH} {a : Addr} : (H.del a).obj a = none := if_pos rfl
theorem AH.del_ne {H : AH} {a b : Addr} (h : b ≠ a) : (H.del a).obj b = H.obj b := if_neg h
theorem AH.del_set {H : AH} {a : Addr} {x : AO} (h : H.obj a = none) : (H.set a x).del a = H := by
  apply AH.ext'
  · intro b; by_cases q : b = a
    · subst q; rw [AH.del_same, h]
    · rw [AH.del_ne q, AH.set_ne q]
  · rfl
theorem AH.del_none {H : AH} {a : Addr} (h : H.obj a = none) : H.del a = H := by
  apply AH.ext'
  · intro b; by_cases q : b = a
    · subst q; rw [AH.del_same, h]
    · rw [AH.del_ne q]
  · rfl
theorem AH.del_set' {H : AH} {a : Addr} {x : AO} : (H.set a x).del a = H.del a := by
  apply AH.ext'
  · intro b; by_cases q : b = a
    · subst q; rw [AH.del_same, AH.del_same]
    · rw [AH.del_ne q, AH.del_ne q, AH.set_ne q]
  · rfl
theorem AH.del_set_ne {H : AH} {a b : Addr} {x : AO} (n : a ≠ b) : (H.set a x).del b = (H.del b).set a x := by
  apply AH.ext'
  · intro e; by_cases q : e = b
    · subst q; rw [AH.del_same, AH.set_ne (Ne.symm n), AH.del_same]
    · rw [AH.del_ne q]; by_cases q' : e = a
      · subst q'; rw [AH.set_same, AH.set_same]
      · rw [AH.set_ne q', AH.set_ne q', AH.del_ne q]
  · rfl
theorem St.drop {c : Cx} {m : Loc} {H : AH} {s : Shared} (S : St c m H s) {a : Addr} {ao : AO} {h' : Heap} {tk : Nat} (ha : H.obj a = some ao) (hi : ∀ C fs, ao ≠ .inst C fs) (k : Kept (· = a) s.heap h') : St c m (H.del a) { s with heap := h', toks := tk } := by
  obtain ⟨D, R⟩ := S.rep
  have fa := (R.at_ a ao ha).2
  obtain ⟨e1, e2⟩ := S.env k (fun b o q e => by subst q; rw [fa.2.2] at e; cases e) (fun p hp q => fa.2.1 p hp q)
  have old : ∀ b ao', (H.del a).obj b = some ao' → b ≠ a ∧ H.obj b = some ao' := fun b ao' e => by
    have hb : b ≠ a := by rintro rfl; rw [AH.del_same] at e; cases e
    rw [AH.del_ne hb] at e; exact ⟨hb, e⟩
  refine ⟨e1, S.above, k.ns (Ne.symm fa.1) S.ns, e2, S.low, ⟨D, ?_, ?_, ?_⟩, S.gens, S.os⟩
  · intro b bo e
    obtain ⟨hb, e⟩ := old b bo e
    obtain ⟨x, f⟩ := R.at_ b bo e
    refine ⟨x.keeps (fun o => k b o hb) (fun C fs q o => k _ o (fun q' => ?_)), f⟩
    subst q
    have := (R.own b C fs e).2; rw [q', ha] at this; cases this
  · intro b C fs e
    obtain ⟨hb, e⟩ := old b _ e
    obtain ⟨f, z⟩ := R.own b C fs e
    refine ⟨f, ?_⟩
    rw [AH.del_ne (by intro q; rw [q, ha] at z; cases z)]; exact z
  · intro b C fs b' C' fs' e e' q
    exact R.inj b C fs b' C' fs' (old _ _ e).2 (old _ _ e').2 q

/-- new objects of the call's own: all is kept, one more is told -/
theorem St.more {c : Cx} {m : Loc} {H : AH} {s : Shared} (S : St c m H s) {a : Addr} {ao : AO} {h' : Heap} {tk : Nat} (hi : ∀ C fs, ao ≠ .inst C fs) (k : ∀ b o, s.heap.get? b = some o → h'.get? b = some o)
    (hfree : s.heap.objs.size ≤ a) (hn : ∀ D, At h' D a ao) : H.obj a = none ∧ St c m (H.set a ao) { s with heap := h', toks := tk } := by
  have hL : @LT.lt Nat _ c.L s.heap.objs.size := S.ns.lt
  have hlt : ∀ b ao, H.obj b = some ao → @LT.lt Nat _ b s.heap.objs.size := fun b ao e => S.lt e
  have S' := S.grown (tk := tk) k
  obtain ⟨D, R⟩ := S.rep
  have free : Free c a := ⟨Nat.ne_of_gt (Nat.lt_of_lt_of_le hL hfree), fun p hp => Nat.ne_of_lt (Nat.lt_of_lt_of_le (Nat.lt_trans (S.low p hp) hL) hfree), by
    cases q : c.base.get? a with
    | none => rfl
    | some o' => exact absurd (Heap.lt_size (S.base _ _ q)) (Nat.not_lt.mpr hfree)⟩
  have hx : H.obj a = none := by
    cases q : H.obj a with
    | none => rfl
    | some ao => exact absurd (hlt _ _ q) (Nat.not_lt.mpr hfree)
  refine ⟨hx, S'.base, S'.above, S'.ns, S'.under, S'.low, ⟨D, ?_, ?_, ?_⟩, S'.gens, S'.os⟩
  · intro b bo e
    by_cases hb : b = a
    · subst hb; rw [AH.set_same] at e; cases e; exact ⟨hn D, free⟩
    · rw [AH.set_ne hb] at e
      obtain ⟨x, f⟩ := R.at_ b bo e
      exact ⟨x.keeps (fun o => k b o) (fun _ _ _ o => k _ o), f⟩
  · intro b C fs e
    have hb : b ≠ a := by rintro rfl; rw [AH.set_same] at e; exact hi C fs (Option.some.inj e)
    rw [AH.set_ne hb] at e
    obtain ⟨f, z⟩ := R.own b C fs e
    obtain ⟨x1, es, n, x2, x3⟩ := (R.at_ b _ e).1
    have := Heap.lt_size x2
    refine ⟨f, ?_⟩
    rw [AH.set_ne (Nat.ne_of_lt (Nat.lt_of_lt_of_le this hfree))]; exact z
  · intro b C fs b' C' fs' e e' q
    have hb : b ≠ a := by rintro rfl; rw [AH.set_same] at e; exact hi C fs (Option.some.inj e)
    have hb' : b' ≠ a := by rintro rfl; rw [AH.set_same] at e'; exact hi C' fs' (Option.some.inj e')
    rw [AH.set_ne hb] at e; rw [AH.set_ne hb'] at e'
    exact R.inj b C fs b' C' fs' e e' q
theorem St.push {c : Cx} {m : Loc} {H : AH} {hp : Heap} {g : Array GenState} {dr : Drawn} {t : Nat} {os : OsState} (S : St c m H ⟨hp, g, dr, t, os⟩) {o : Obj} {ao : AO} (tk : Nat)
    (hi : ∀ C fs, ao ≠ .inst C fs) (hn : ∀ D, (hp.push o).get? hp.objs.size = some o → At (hp.push o) D hp.objs.size ao) (hfree : o.isFreed = false := by rfl) :
    St c m (H.set hp.objs.size ao) ⟨hp.push o, g, dr, tk, os⟩ :=
  (S.more hi (fun b o e => Heap.get?_push_of_some _ e) (Nat.le_refl _) fun D => hn D (Heap.get?_push_size _ hfree)).2

/-! the library's view: a ground that the frame stands on, and the news -/
theorem extract_get {h : Heap} {n : Nat} {b : Addr} (hb : @LT.lt Nat _ b n) : (⟨h.objs.extract 0 n, h.life⟩ : Heap).get? b = h.get? b := by
  unfold Heap.get?
  have : (h.objs.extract 0 n)[b]? = h.objs[b]? := by
    rw [Array.getElem?_extract]
    simp
    intro hn
    have hb' : @LT.lt Nat _ b n := hb
    have hn' : @LE.le Nat _ (min n h.objs.size) b := hn
    show @LE.le Nat _ h.objs.size b
    omega
  simp only [this]
theorem extract_le {h : Heap} {n : Nat} {b : Addr} {o : Obj} (e : (⟨h.objs.extract 0 n, h.life⟩ : Heap).get? b = some o) : @LT.lt Nat _ b n := by
  have := Heap.lt_size e
  have h2 : (h.objs.extract 0 n).size ≤ n := by simp; omega
  exact Nat.lt_of_lt_of_le this h2

theorem Rep.news {c : Cx} {D : Addr → Addr} {H : AH} {h : Heap} (R : Rep c D H h) (x : Addr) : ∃ news : List (Addr × Obj), (∀ p ∈ news, h.get? p.1 = some p.2 ∧ Free c p.1) ∧ (∀ p ∈ news, p.1 ≠ x) ∧
    ∀ b o, b ≠ x → h.get? b = some o → Trk D H b → (b, o) ∈ news := by
  classical
  have inv : ∀ p ∈ (List.range h.objs.size).filterMap fun b => if b ≠ x ∧ Trk D H b then (h.get? b).map fun o => (b, o) else none, h.get? p.1 = some p.2 ∧ Free c p.1 ∧ p.1 ≠ x := by
    intro p hp
    obtain ⟨b, _, hb⟩ := List.mem_filterMap.mp hp
    split at hb
    · rename_i hc
      obtain ⟨o, ho, rfl⟩ := Option.map_eq_some_iff.mp hb
      exact ⟨ho, (R.trk hc.2).1, hc.1⟩
    · cases hb
  refine ⟨_, fun p hp => ⟨(inv p hp).1, (inv p hp).2.1⟩, fun p hp => (inv p hp).2.2, ?_⟩
  intro b o hb e hc
  exact List.mem_filterMap.mpr ⟨b, List.mem_range.mpr (Heap.lt_size e), by rw [if_pos ⟨hb, hc⟩, e]; rfl⟩


def grd (h : Heap) (L : Addr) (news : List (Addr × Obj)) : Heap := hideAll ⟨h.objs.extract 0 L, h.life⟩ (news.map (·.1))
theorem St.ground {c : Cx} {m : Loc} {H : AH} {s : Shared} (S : St c m H s) {news : List (Addr × Obj)} (N : ∀ p ∈ news, s.heap.get? p.1 = some p.2 ∧ Free c p.1) :
    Fr (grd s.heap c.L news) c.L s.heap (fun y => m.lookup y) ∧ News (grd s.heap c.L news) c.L s.heap news ∧ c.base.StaysIn (grd s.heap c.L news) ∧
      ∀ h', Fr (grd s.heap c.L news) c.L h' (fun y => m.lookup y) → c.base.StaysIn h' ∧ Under c.base c.outer c.fr h' := by
  have getE : ∀ {b : Addr} {o : Obj}, s.heap.get? b = some o → @LT.lt Nat _ b c.L → (∀ p ∈ news, p.1 ≠ b) → (grd s.heap c.L news).get? b = some o := fun {b o} e hb hn =>
    hideAll_get _ ((extract_get hb).trans e) fun q => by obtain ⟨p, hp, q'⟩ := List.mem_map.mp q; exact hn p hp q'
  have getO : ∀ {b : Addr} {o : Obj}, (grd s.heap c.L news).get? b = some o → s.heap.get? b = some o := fun {b o} e => by
    have := of_hideAll _ e
    exact (extract_get (extract_le this)).symm.trans this
  have hbase : c.base.StaysIn (grd s.heap c.L news) := fun b o e => getE (S.base b o e) (Nat.lt_of_lt_of_le (Heap.lt_size e) S.above) fun p hp q => by
    have := (N p hp).2.2.2; rw [q, e] at this; cases this
  refine ⟨⟨S.ns, fun b o e => getO e, ?_⟩, fun p hp => ⟨(N p hp).1, (N p hp).2.1, hideAll_none _ (List.mem_map_of_mem hp)⟩, hbase, fun h' F' => ⟨fun b o e => F'.keep _ _ (hbase b o e), S.under.turn fun p hp n => ?_⟩⟩
  · unfold grd; rw [hideAll_size]; show (s.heap.objs.extract 0 c.L).size ≤ c.L; simp; omega
  · obtain ⟨o, es, ep, ho, r⟩ := n
    exact ⟨o, es, ep, F'.keep _ _ (getE ho (S.low p hp) fun q hq e => (N q hq).2.2.1 p hp e.symm), r⟩

/-- an attribute is stored -/
theorem St.put {c : Cx} {m : Loc} {H : AH} {s : Shared} (S : St c m H s) {a C : Addr} {fs : Loc} (ha : H.obj a = some (.inst C fs)) {x : Str} {v : Value} :
    ∃ h₀ dx es n news, s.heap.get? a = some (instObj C dx) ∧ s.heap.get? dx = some (dictOf es n) ∧ Flds es fs ∧ Fr h₀ c.L s.heap (fun y => m.lookup y) ∧ News h₀ c.L s.heap ((dx, dictOf es n) :: news) ∧ (∀ p ∈ news, p.1 ≠ dx) ∧ c.base.StaysIn h₀ ∧
      ∀ h' es' n' tk, Fr h₀ c.L h' (fun y => m.lookup y) → News h₀ c.L h' ((dx, dictOf es' n') :: news) → Flds es' (put x v fs) → St c m (H.set a (.inst C (put x v fs))) { s with heap := h', toks := tk } := by
  obtain ⟨D, R⟩ := S.rep
  obtain ⟨⟨x1, es, n, x2, x3⟩, f⟩ := R.at_ a _ ha
  obtain ⟨fd, zd⟩ := R.own a C fs ha
  obtain ⟨news, N, ne, mem⟩ := R.news (D a)
  have N' : ∀ p ∈ (D a, dictOf es n) :: news, s.heap.get? p.1 = some p.2 ∧ Free c p.1 := by
    intro p hp
    rcases List.mem_cons.mp hp with rfl | hp
    · exact ⟨x2, fd⟩
    · exact N p hp
  obtain ⟨F₀, N₀, b₀, k₀⟩ := S.ground N'
  refine ⟨_, D a, es, n, news, x1, x2, x3, F₀, N₀, ne, b₀, fun h' es' n' tk hF hN hf => ?_⟩
  have old : ∀ b C' fs', (H.set a (.inst C (Mine.put x v fs))).obj b = some (.inst C' fs') → ∃ fs₀, H.obj b = some (.inst C' fs₀) := by
    intro b C' fs' e
    by_cases hb : b = a
    · subst hb; rw [AH.set_same] at e; cases e; exact ⟨_, ha⟩
    · rw [AH.set_ne hb] at e; exact ⟨_, e⟩
  obtain ⟨e1, e2⟩ := k₀ h' hF
  have kp : ∀ b o, b ≠ D a → Trk D H b → s.heap.get? b = some o → h'.get? b = some o := fun b o hb t e => (hN _ (List.mem_cons_of_mem _ (mem b o hb e t))).1
  refine ⟨e1, S.above, hF.ns, e2, S.low, ⟨D, ?_, ?_, ?_⟩, S.gens, S.os⟩
  · intro b bo e
    by_cases hb : b = a
    · subst hb
      rw [AH.set_same] at e; cases e
      exact ⟨⟨kp b _ (by intro q; rw [← q, ha] at zd; cases zd) (.inl (by rw [ha]; rfl)) x1, es', n', (hN _ (List.mem_cons_self ..)).1, hf⟩, f⟩
    · rw [AH.set_ne hb] at e
      obtain ⟨y, f'⟩ := R.at_ b bo e
      have nb : b ≠ D a := by intro q; rw [← q, e] at zd; cases zd
      refine ⟨y.keeps (fun o => kp b o nb (.inl (by rw [e]; rfl))) (fun C' fs' q o => kp _ o (fun q' => ?_) (.inr ⟨b, C', fs', q ▸ e, rfl⟩)), f'⟩
      subst q
      exact hb (R.inj _ _ _ _ _ _ e ha q')
  · intro b C' fs' e
    obtain ⟨fs₀, e₀⟩ := old b C' fs' e
    obtain ⟨f', z⟩ := R.own b C' fs₀ e₀
    refine ⟨f', ?_⟩
    rw [AH.set_ne (by intro q; rw [q, ha] at z; cases z)]; exact z
  · intro b C' fs' b' C'' fs'' e e' q
    obtain ⟨_, e₀⟩ := old b C' fs' e
    obtain ⟨_, e₁⟩ := old b' C'' fs'' e'
    exact R.inj _ _ _ _ _ _ e₀ e₁ q

/-- a new object without attributes -/
theorem St.pushInst {c : Cx} {m : Loc} {H : AH} {hp : Heap} {g : Array GenState} {dr : Drawn} {t : Nat} {os : OsState} (S : St c m H ⟨hp, g, dr, t, os⟩) (C : Addr) (tk : Nat) :
    St c m (H.set (hp.objs.size + 1) (.inst C [])) ⟨(hp.push emptyDict).push (instObj C hp.objs.size), g, dr, tk, os⟩ ∧ H.obj (hp.objs.size + 1) = none := by
  have kp : ∀ b o, hp.get? b = some o → ((hp.push emptyDict).push (instObj C hp.objs.size)).get? b = some o := fun b o e => Heap.get?_push_of_some _ (Heap.get?_push_of_some _ e)
  have S' := S.grown (tk := tk) kp
  have hfr := S.fresh
  have hlt : ∀ a ao, H.obj a = some ao → @LT.lt Nat _ a hp.objs.size := fun a ao e => S.lt e
  have hL : @LT.lt Nat _ c.L hp.objs.size := S.ns.lt
  have hlow := S.low
  have hbase := S.base
  obtain ⟨D, R⟩ := S.rep
  simp only at R hfr hbase
  have hx : H.obj (hp.objs.size + 1) = none := by
    cases q : H.obj (hp.objs.size + 1) with
    | none => rfl
    | some ao => have := hlt _ _ q; omega
  have sz : (hp.push emptyDict).objs.size = hp.objs.size + 1 := Heap.size_push ..
  have free : ∀ b : Nat, hp.objs.size ≤ b → Free c b := fun b hb => ⟨Nat.ne_of_gt (Nat.lt_of_lt_of_le hL hb), fun p hp' => Nat.ne_of_lt (Nat.lt_of_lt_of_le (Nat.lt_trans (hlow p hp') hL) hb), by
    cases q : c.base.get? b with
    | none => rfl
    | some o' => exact absurd (Heap.lt_size (hbase _ _ q)) (Nat.not_lt.mpr hb)⟩
  have dlt : ∀ b C' fs', H.obj b = some (.inst C' fs') → @LT.lt Nat _ (D b) hp.objs.size := fun b C' fs' e => by
    obtain ⟨x1, es, n, x2, x3⟩ := (R.at_ b _ e).1
    exact Heap.lt_size x2
  refine ⟨⟨S'.base, S'.above, S'.ns, S'.under, S'.low, ⟨fun b => if b = hp.objs.size + 1 then hp.objs.size else D b, ?_, ?_, ?_⟩, S'.gens, S'.os⟩, hx⟩
  · intro b bo e
    by_cases hb : b = hp.objs.size + 1
    · subst hb
      rw [AH.set_same] at e; cases e
      refine ⟨⟨?_, [], 0, ?_, trivial⟩, free _ (by omega)⟩
      · show _ = some (instObj C (if _ then _ else _)); rw [if_pos rfl]
        have := Heap.get?_push_size (h := hp.push emptyDict) (o := instObj C hp.objs.size) rfl
        rwa [sz] at this
      · show Heap.get? _ (if _ then _ else _) = _; rw [if_pos rfl]; exact Heap.get?_push_of_some _ (Heap.get?_push_size _ rfl)
    · rw [AH.set_ne hb] at e
      obtain ⟨y, f⟩ := R.at_ b bo e
      refine ⟨?_, f⟩
      cases bo with
      | inst C' fs' =>
        obtain ⟨y1, es2, n2, y2, y3⟩ := y
        refine ⟨?_, es2, n2, ?_, y3⟩
        · show _ = some (instObj C' (if b = hp.objs.size + 1 then hp.objs.size else D b)); rw [if_neg hb]; exact kp _ _ y1
        · show Heap.get? _ (if b = hp.objs.size + 1 then hp.objs.size else D b) = _; rw [if_neg hb]; exact kp _ _ y2
      | list xs => obtain ⟨n2, y⟩ := y; exact ⟨n2, kp _ _ y⟩
      | raw o => exact kp _ _ y
      | fld cls vs => obtain ⟨o, y, z⟩ := y; exact ⟨o, kp _ _ y, z⟩
      | ns m => obtain ⟨o, es, ep, y, r⟩ := y; exact ⟨o, es, ep, kp _ _ y, r⟩
      | cell v => obtain ⟨o, y, z⟩ := y; exact ⟨o, kp _ _ y, z⟩
  · intro b C' fs' e
    by_cases hb : b = hp.objs.size + 1
    · subst hb
      show Free c (if _ then _ else _) ∧ AH.obj _ (if _ then _ else _) = none
      rw [if_pos rfl, AH.set_ne (Nat.ne_of_lt (Nat.lt_succ_self _))]
      exact ⟨free _ (Nat.le_refl _), hfr⟩
    · rw [AH.set_ne hb] at e
      obtain ⟨f', z⟩ := R.own b C' fs' e
      have := dlt b C' fs' e
      show Free c (if _ then _ else _) ∧ AH.obj _ (if _ then _ else _) = none
      rw [if_neg hb, AH.set_ne (Nat.ne_of_lt (Nat.lt_succ_of_lt this))]
      exact ⟨f', z⟩
  · intro b C' fs' b' C'' fs'' e e' q
    by_cases hb : b = hp.objs.size + 1 <;> by_cases hb' : b' = hp.objs.size + 1
    · rw [hb, hb']
    · rw [AH.set_ne hb'] at e'
      have := dlt _ _ _ e'
      simp only [if_pos hb, if_neg hb'] at q; exact absurd q.symm (Nat.ne_of_lt this)
    · rw [AH.set_ne hb] at e
      have := dlt _ _ _ e
      simp only [if_neg hb, if_pos hb'] at q; exact absurd q (Nat.ne_of_lt this)
    · rw [AH.set_ne hb] at e; rw [AH.set_ne hb'] at e'
      simp only [if_neg hb, if_neg hb'] at q
      exact R.inj _ _ _ _ _ _ e e' q

theorem St.eq {c : Cx} {m : Loc} {H H' : AH} {s : Shared} (S : St c m H s) (e : H = H') : St c m H' s := e ▸ S
theorem St.eqm {c : Cx} {m m' : Loc} {H : AH} {s : Shared} (S : St c m H s) (e : m = m') : St c m' H s := e ▸ S

/-- forgetting -/
def AH.Le (H K : AH) : Prop := (∀ a ao, H.obj a = some ao → K.obj a = some ao) ∧ H.gens = K.gens
theorem St.forget {c : Cx} {m : Loc} {H K : AH} {s : Shared} (S : St c m K s) (l : H.Le K) : St c m H s := by
  obtain ⟨D, R⟩ := S.rep
  refine ⟨S.base, S.above, S.ns, S.under, S.low, ⟨D, fun a ao e => R.at_ a ao (l.1 a ao e), fun a C fs e => ?_, fun a C fs a' C' fs' e e' => R.inj a C fs a' C' fs' (l.1 _ _ e) (l.1 _ _ e')⟩, S.gens.trans l.2.symm, S.os⟩
  obtain ⟨f, z⟩ := R.own a C fs (l.1 _ _ e)
  refine ⟨f, ?_⟩
  cases q : H.obj (D a) with
  | none => rfl
  | some x => rw [l.1 _ _ q] at z; cases z

/-- the ground: what lies beneath the frame and is not told -/
theorem St.view {c : Cx} {m : Loc} {H : AH} {s : Shared} (S : St c m H s) : ∃ (h₀ : Heap) (news : List (Addr × Obj)), Fr h₀ c.L s.heap (fun y => m.lookup y) ∧ News h₀ c.L s.heap news ∧ c.base.StaysIn h₀ ∧
    (∀ h' tk, Fr h₀ c.L h' (fun y => m.lookup y) → News h₀ c.L h' news → St c m H { s with heap := h', toks := tk }) ∧
    (∀ h' l o ao tk, Fr h₀ c.L h' (fun y => m.lookup y) → News h₀ c.L h' ((l, o) :: news) → (∀ p ∈ news, p.1 < l) → s.heap.objs.size ≤ l → (∀ C fs, ao ≠ .inst C fs) → (∀ D, h'.get? l = some o → At h' D l ao) →
      H.obj l = none ∧ St c m (H.set l ao) { s with heap := h', toks := tk }) := by
  obtain ⟨D, R⟩ := S.rep
  obtain ⟨news, N, ne, mem⟩ := R.news s.heap.objs.size
  obtain ⟨F, Nw, hbase, k₀⟩ := S.ground N
  have back : ∀ h' tk, Fr (grd s.heap c.L news) c.L h' (fun y => m.lookup y) → News (grd s.heap c.L news) c.L h' news → St c m H { s with heap := h', toks := tk } := by
    intro h' tk F' N'
    obtain ⟨e1, e2⟩ := k₀ h' F'
    exact ⟨e1, S.above, F'.ns, e2, S.low, ⟨D, R.keeps fun b o t e => (N' (b, o) (mem b o (Nat.ne_of_lt (Heap.lt_size e)) e t)).1⟩, S.gens, S.os⟩
  refine ⟨_, news, F, Nw, hbase, back, ?_⟩
  intro h' l o ao tk F' N' hlt hge hi hat
  have tl : News _ c.L h' news := fun p hp => N' p (List.mem_cons_of_mem _ hp)
  have S' := back h' tk F' tl
  have hl : H.obj l = none := by
    cases q : H.obj l with
    | none => rfl
    | some ao' => exact absurd (S.lt q) (Nat.not_lt.mpr hge)
  have hLs : @LT.lt Nat _ c.L s.heap.objs.size := S.ns.lt
  obtain ⟨R'⟩ : Nonempty (Rep c D H h') := ⟨R.keeps fun b o t e => (tl (b, o) (mem b o (Nat.ne_of_lt (Heap.lt_size e)) e t)).1⟩
  have free : Free c l := ⟨Nat.ne_of_gt (Nat.lt_of_lt_of_le hLs hge), fun p hp => Nat.ne_of_lt (Nat.lt_of_lt_of_le (Nat.lt_trans (S.low p hp) hLs) hge), by
    cases q : c.base.get? l with
    | none => rfl
    | some o' => exact absurd (Heap.lt_size (S.base _ _ q)) (Nat.not_lt.mpr hge)⟩
  refine ⟨hl, S'.base, S'.above, S'.ns, S'.under, S'.low, ⟨D, ?_, ?_, ?_⟩, S'.gens, S'.os⟩
  · intro b bo e
    by_cases hb : b = l
    · subst hb; rw [AH.set_same] at e; cases e; exact ⟨hat D (N' _ (List.mem_cons_self ..)).1, free⟩
    · rw [AH.set_ne hb] at e; exact R'.at_ b bo e
  · intro b C fs e
    have hb : b ≠ l := by rintro rfl; rw [AH.set_same] at e; exact hi C fs (Option.some.inj e)
    rw [AH.set_ne hb] at e
    obtain ⟨f, z⟩ := R'.own b C fs e
    refine ⟨f, ?_⟩
    obtain ⟨x1, es, n, x2, x3⟩ := (R.at_ b _ e).1
    rw [AH.set_ne (Nat.ne_of_lt (Nat.lt_of_lt_of_le (Heap.lt_size x2) hge))]; exact z
  · intro b C fs b' C' fs' e e' q
    have hb : b ≠ l := by rintro rfl; rw [AH.set_same] at e; exact hi C fs (Option.some.inj e)
    have hb' : b' ≠ l := by rintro rfl; rw [AH.set_same] at e'; exact hi C' fs' (Option.some.inj e')
    rw [AH.set_ne hb] at e; rw [AH.set_ne hb'] at e'
    exact R'.inj b C fs b' C' fs' e e' q
end

section

/-! statements -/
def Nx (M : Model) (A : Around) (env : Env) (rest : List Stmt) (Q : Flow → Shared → Prop) (E : Value → Shared → Prop) (f : Flow) (s : Shared) : Prop :=
  match f with
  | .next => wpAny M A (execs rest env) Q E s
  | f => Q f s

section
variable {M : Model} {A : Around} {env : Env} {rest : List Stmt} {E : Value → Shared → Prop} {s : Shared} {Q : Flow → Shared → Prop}
theorem nx_next (h : wpAny M A (execs rest env) Q E s) : Nx M A env rest Q E .next s := h
theorem nx_ret {v : Value} (h : Q (.ret v) s) : Nx M A env rest Q E (.ret v) s := h
theorem nx_brk (h : Q .brk s) : Nx M A env rest Q E .brk s := h
theorem nx_cont (h : Q .cont s) : Nx M A env rest Q E .cont s := h
theorem ex_cons {st : Stmt} (h : wpAny M A (exec st env) (Nx M A env rest Q E) E s) : wpAny M A (execs (st :: rest) env) Q E s :=
  wpAny_execs_cons (wpAny_mono h (fun f s' h' => by cases f <;> exact h') fun _ _ x => x)
theorem ex_nil (h : Q .next s) : wpAny M A (execs [] env) Q E s := wpAny_execs_nil h
theorem ex_assign {x pos' value pos} (h : wpAny M A (eval value env) (fun v s₁ => wpAny M A (storeName env x v) (fun _ s₂ => wpAny M A (execs rest env) Q E s₂) E s₁) E s)
    (hs : swapsWith value (some (.Name x pos')) pos.line env = pure false := by with_unfolding_all rfl) :
    wpAny M A (execs (.Assign [.Name x pos'] value pos :: rest) env) Q E s :=
  ex_cons (wpAny_Assign_Name h hs)
theorem ex_if {test body orelse pos} (h : wpAny M A (isTrue test env (eval test env))
      (fun b s₂ => if b = true then wpAny M A (execs body env) (Nx M A env rest Q E) E s₂ else wpAny M A (execs orelse env) (Nx M A env rest Q E) E s₂) E s) :
    wpAny M A (execs (.If test body orelse pos :: rest) env) Q E s := ex_cons (wpAny_If h)
theorem ex_ret {e pos} (h : wpAny M A (eval e env) (fun v => Q (.ret v)) E s) : wpAny M A (execs (.Return (some e) pos :: rest) env) Q E s := ex_cons (wpAny_Return_some h)
theorem ex_ret0 {pos} (h : Q (.ret .none) s) : wpAny M A (execs (.Return none pos :: rest) env) Q E s := ex_cons (wpAny_Return_none h)
theorem ex_pass {pos} (h : wpAny M A (execs rest env) Q E s) : wpAny M A (execs (.Pass pos :: rest) env) Q E s := ex_cons (wpAny_Pass h)
end

section
variable {prog : Program} {w : World} {K : Frag} {T : Tp} {A : Around} {c : Cx} {m : Loc} {H : AH} {s : Shared} {E : Value → Shared → Prop} {d u : Nat}

theorem inK (O : Ok K T A c d u) (S : St c m H s) : K.In s.heap := O.X.keeps S.base
theorem topS (O : Ok K T A c d u) (S : St c m H s) : Top T.P T.loose T.mean T.mg T.mb s.heap := O.T.keeps S.base

/-! names -/
theorem nameL {x pos v} {Q : Value → Shared → Prop} (S : St c m H s) (hx : c.env.kindOf x = some .local) (hv : m.lookup x = some v) (h : Q v s) (hk : c.cs.kind = .function := by rfl)
    (hd : (x == ("__debug__" : Str)) = false := by decide) : wpAny (model prog w) A (eval (.Name x pos) c.env) Q E s := wpAny_Name (wpAny_loadName_local hk hx S.ns hv h) hd
theorem nameK {x pos v} {Q : Value → Shared → Prop} (O : Ok K T A c d u) (S : St c m H s) (hx : c.env.kindOf x = some .globalImplicit) (e : nsIn K mainGlobals x = some (some v)) (h : Q v s) (hk : c.cs.kind = .function := by rfl)
    (hd : (x == ("__debug__" : Str)) = false := by decide) : wpAny (model prog w) A (eval (.Name x pos) c.env) Q E s := Name_function_global hk hx (loadGlobal_global (env := c.env) (topS O S).g (mg_of (inK O S) (topS O S).g e) h) hd
theorem nameB {x pos v} {Q : Value → Shared → Prop} (O : Ok K T A c d u) (S : St c m H s) (hx : c.env.kindOf x = some .globalImplicit) (e : nsIn K mainGlobals x = some none) (hv : bootBuiltins x = some v) (hn : x ≠ "__name__") (h : Q v s) (hk : c.cs.kind = .function := by rfl)
    (hd : (x == ("__debug__" : Str)) = false := by decide) : wpAny (model prog w) A (eval (.Name x pos) c.env) Q E s := Name_function_global hk hx (loadGlobal_builtin (env := c.env) (topS O S).g (mg_none_of (inK O S) (topS O S).g e) (topS O S).b (((topS O S).builtins x hn).trans hv) h) hd
theorem storeL {x : Str} {v : Value} {Q : Unit → Shared → Prop} (S : St c m H s) (hx : c.env.kindOf x = some .local) (h : ∀ s', St c (put x v m) H s' → Q () s') (hk : c.cs.kind = .function := by rfl) :
    wpAny (model prog w) A (storeName c.env x v) Q E s :=
  wpAny_storeName_local hx S.ns (fun _ hn hs => h _ (S.bind hn hs)) (by show (c.cs.kind == .class || (c.cs.kind == .module && c.L != mainGlobals)) = false; rw [hk]; rfl)

/-! constants -/
theorem constInt {i k pos} {env : Env} {Q : Value → Shared → Prop} (S : St c m H s) (h : ∀ tk s', St c m H s' → Q (.int i tk) s') : wpAny (model prog w) A (eval (.Constant (.int i) k pos) env) Q E s :=
  wpAny_Constant_int (h _ _ (S.toks _))
theorem constStr {x k pos} {env : Env} {Q : Value → Shared → Prop} (S : St c m H s) (h : ∀ tk s', St c m H s' → Q (.str x tk) s') : wpAny (model prog w) A (eval (.Constant (.str x) k pos) env) Q E s :=
  Calls.Constant_str (h _ _ (S.toks _))
theorem constNone {k pos} {env : Env} {Q : Value → Shared → Prop} (h : Q .none s) : wpAny (model prog w) A (eval (.Constant .none k pos) env) Q E s := wpAny_Constant_none h
theorem constBool {b k pos} {env : Env} {Q : Value → Shared → Prop} (h : Q (.bool b) s) : wpAny (model prog w) A (eval (.Constant (.bool b) k pos) env) Q E s := fun _ _ _ => h

/-! instances -/
theorem St.inst {a C : Addr} {fs : Loc} (S : St c m H s) (hi : H.obj a = some (.inst C fs)) : ∃ dx es n, InstAt s.heap a (instObj C dx) C (some (dictOf es n)) ∧ Flds es fs := by
  obtain ⟨D, R⟩ := S.rep
  obtain ⟨⟨x1, es, n, x2, x3⟩, _⟩ := R.at_ a _ hi
  exact ⟨D a, es, n, ⟨x1, rfl, rfl, x2⟩, x3⟩

/-- an attribute of its own -/
theorem attrOwn {a C : Addr} {fs : Loc} {name : Str} {v : Value} {attr : Option Value} {expr : Bool} {Q : Value → Shared → Prop} (O : Ok K T A c d u) (S : St c m H s) (hi : H.obj a = some (.inst C fs)) (hl : fs.lookup name = some v)
    (hg : plainGet K C name = true) (hh : hasDictIn K C = true) (ha : findIn K (.ref C) name = some attr) (hn : noGet K attr = true) (hv : handedIn v = true) (h : ∀ s', St c m H s' → Q v s') :
    wpAny (model prog w) A (getAttr (.ref a) name expr) Q E s := by
  obtain ⟨dx, es, n, I, F⟩ := S.inst hi
  exact get_value (inK O S) I (plainGet_of hg).1 (findObj_own hh ha hn (by rw [lookIn_dict, getL_flds name F, hl])) hv (h _ (S.toks _))
/-- an attribute of the class -/
theorem attrCls {a C : Addr} {fs : Loc} {name : Str} {v : Value} {expr : Bool} {Q : Value → Shared → Prop} (O : Ok K T A c d u) (S : St c m H s) (hi : H.obj a = some (.inst C fs)) (hl : fs.lookup name = none)
    (hg : plainGet K C name = true) (hh : hasDictIn K C = true) (ha : findIn K (.ref C) name = some (some v)) (hn : specialIn K v "__get__" = some none) (hv : handedIn v = true) (hc : copiedNames.contains name = false) (h : ∀ s', St c m H s' → Q v s') :
    wpAny (model prog w) A (getAttr (.ref a) name expr) Q E s := by
  obtain ⟨dx, es, n, I, F⟩ := S.inst hi
  exact get_value (inK O S) I (plainGet_of hg).1 (findObj_cls hh ha hn hv hc (by rw [lookIn_dict, getL_flds name F, hl])) hv (h _ (S.toks _))
/-- a property -/
theorem attrProp {a C p fget : Addr} {fs : Loc} {name : Str} {rest : List Value} {expr : Bool} {Q : Value → Shared → Prop} (O : Ok K T A c d u) (S : St c m H s) (hi : H.obj a = some (.inst C fs))
    (hg : plainGet K C name = true) (hh : hasDictIn K C = true) (ha : findIn K (.ref C) name = some (some (.ref p))) (hn : specialIn K (.ref p) "__get__" = some (some (.builtin "property.__get__"))) (ht : takesIn K (.ref p) = some true) (hp : recIn K p "property" = some (.ref fget :: rest))
    (h : ∀ s', St c m H s' → codeAny (model prog w) A.in1 (.call (.ref fget) ⟨[.ref a], []⟩) (fun r s' => match r with | .ok (.ret v) => wpAny (model prog w) A (handedOut v) Q E s' | .ok _ => False | .error e => wpAny (model prog w) A (noteIf true (.ref a) (.str name s.toks) e) (fun _ s'' => E e s'') E s') s') :
    wpAny (model prog w) A (getAttr (.ref a) name expr) Q E s := by
  obtain ⟨dx, es, n, I, F⟩ := S.inst hi
  exact get_bind (inK O S) I (plainGet_of hg).1 (findObj_data (by obtain ⟨cd, hc, _⟩ := any_some hh; rw [hc]; rfl) ha hn ht) (plainGet_of hg).2 (wpAny_call (prop_get (s := { s with toks := s.toks + 1 }) (show K.In s.heap from inK O S) hp (h _ (S.toks _))))
/-- a bound method -/
theorem attrMeth {a C f : Addr} {fs : Loc} {name : Str} {expr : Bool} {Q : Value → Shared → Prop} (O : Ok K T A c d u) (S : St c m H s) (hi : H.obj a = some (.inst C fs)) (hl : fs.lookup name = none)
    (hg : plainGet K C name = true) (hh : hasDictIn K C = true) (ha : findIn K (.ref C) name = some (some (.ref f))) (hn : specialIn K (.ref f) "__get__" = some (some (.builtin "function.__get__"))) (ht : takesIn K (.ref f) = some false)
    (hf : isFn K (.ref f) = true) (hc : copiedNames.contains name = false)
    (h : ∀ q s', H.obj q = none → St c m (H.set q (.raw (methodObj (.ref f) (.ref a)))) s' → Q (.ref q) s') :
    wpAny (model prog w) A (getAttr (.ref a) name expr) Q E s := by
  obtain ⟨dx, es, n, I, F⟩ := S.inst hi
  have X := inK O S
  have hfd : findObj K C (some (dictOf es n)) name = some (.bind (.builtin "function.__get__") (.ref f)) := by
    obtain ⟨cd, hcd, hd⟩ := any_some hh
    unfold findObj
    rw [hcd, Option.bind_some, ha, Option.bind_some]
    dsimp only
    rw [hn, Option.bind_some]
    dsimp only
    rw [ht, Option.bind_some]
    dsimp only
    have ho : W.ownOf cd (some (dictOf es n)) name = some none := by
      unfold W.ownOf; rw [if_pos hd]; show lookIn name _ = _; rw [lookIn_dict, getL_flds name F, hl]
    rw [ho, Option.bind_some]
    dsimp only
    rw [hc]
    rfl
  refine get_bind X I (plainGet_of hg).1 hfd (plainGet_of hg).2 ?_
  refine wpAny_call (fn_get (s := { s with toks := s.toks + 1 }) X (beq_iff_eq.mp hf) ?_)
  obtain ⟨hp, g, dr, t, os⟩ := s
  refine handed_on rfl (h _ _ S.fresh (S.push _ (by intro _ _ q; cases q) (fun _ e => e)))

/-- a method called -/
theorem methInst {a C f : Addr} {fs : Loc} {name : Str} {pl : Sem Bool} {Q : Value × List Value → Shared → Prop} (O : Ok K T A c d u) (S : St c m H s) (hi : H.obj a = some (.inst C fs)) (hl : fs.lookup name = none)
    (hg : plainGet K C name = true) (hf : findIn K (.ref C) name = some (some (.ref f))) (ht : isFn K (.ref f) = true) (h : Q (.ref f, [.ref a]) s) : wpAny (model prog w) A (getMethod (.ref a) name pl) Q E s := by
  obtain ⟨dx, es, n, I, F⟩ := S.inst hi
  exact method_fn (inK O S) I (plainGet_of hg).1 (plainGet_of hg).2 hf (beq_iff_eq.mp ht) (by show (lookIn name (dictOf es n)).map _ = _; rw [lookIn_dict, getL_flds name F, hl]; rfl) h

/-- a store into an attribute -/
theorem setOwn {a C : Addr} {fs : Loc} {name : Str} {v : Value} {Q : Unit → Shared → Prop} (O : Ok K T A c d u) (S : St c m H s) (hi : H.obj a = some (.inst C fs))
    (hs : findIn K (.ref C) "__setattr__" = some (some (.builtin "object.__setattr__"))) (hp : plainOver K C = true) (ht : takerIn K C name = some none) (hh : hasDictIn K C = true) (hz : fs.length < 900)
    (h : ∀ s', St c m (H.set a (.inst C (put name v fs))) s' → Q () s') :
    wpAny (model prog w) A (setAttr (.ref a) name v) Q E s := by
  obtain ⟨h₀, dx, es, n, news, I1, I2, F, F₀, N, ne, b₀, k⟩ := S.put (x := name) (v := v) hi
  have I : InstAt s.heap a (instObj C dx) C (some (dictOf es n)) := ⟨I1, rfl, rfl, I2⟩
  have len : ∀ (x : Str) (hsh : Int) (key v : Value) (es : List DictEntry), (putL x hsh key v es).length ≤ es.length + 1 := by
    intro x hsh key v es
    induction es with
    | nil => simp [putL]
    | cons e r ih => unfold putL; split <;> simp <;> omega
  refine set_dict F₀ (O.X.keeps b₀) N I rfl hs hp ht hh (by rw [getL_flds name F]; rfl) rfl (.head ne) ?_ fun h' F' N' => h _ (k h' _ _ _ F' N' (flds_put name _ _ v F))
  have := len name (PyData.keyHash w.params name) (.str name (s.toks + 1)) v es
  rw [flds_length F] at this
  omega
end
end

section
inductive Md where
  | fresh | fly | held
def ExAt (h B : Heap) (e : Addr) (cls a0 : Value) (L : Addr) : Md → Prop
  | .fresh => ∃ oe vs, h.get? e = some oe ∧ oe.cls = cls ∧ oe.data = .fields vs ∧ vs[1]? = some .none ∧ vs[0]? = some a0
  | .fly => h.TracedW B e cls a0
  | .held => h.TracedAtW B e cls a0 (rawInt L)
/-- an exception is under way in the frame -/
structure Exn (c : Cx) (m : Loc) (H : AH) (e : Addr) (cls : Value) (md : Md) (s : Shared) : Prop where
  st : St c m H s
  at_ : ∃ B D a0, c.base.StaysIn B ∧ B.get? c.L = none ∧ (∀ p ∈ c.fr, B.get? p.1 = none) ∧ Rep c D H B ∧ B.StaysIn s.heap ∧ B.get? e = none ∧ ExAt s.heap B e cls a0 c.L md

theorem Under.base {base B h : Heap} : ∀ {es : List Env} {fs : List (Addr × Loc)}, Under base es fs h → (∀ p ∈ fs, B.get? p.1 = none) → h.FunFrames B es
  | [], [], _, _ => trivial
  | _ :: _, _ :: _, ⟨a, b, _, _, ⟨o, xs, ep, ho, hd, _⟩, r⟩, k => ⟨by rw [a]; decide, ⟨_, o, b, k _ (.head _), ho, fun vs q => by rw [hd] at q; cases q⟩, r.base fun p hp => k p (.tail _ hp)⟩
theorem St.funFrames {c : Cx} {m : Loc} {H : AH} {s : Shared} (S : St c m H s) (hk : c.cs.kind = .function) {B : Heap} (hL : B.get? c.L = none) (hf : ∀ p ∈ c.fr, B.get? p.1 = none) : s.heap.FunFrames B (c.env :: c.outer) := by
  obtain ⟨o, xs, ep, ho, hd, _⟩ := S.ns
  exact ⟨by show c.cs.kind ≠ _; rw [hk]; decide, ⟨_, o, rfl, hL, ho, fun vs q => by rw [hd] at q; cases q⟩, S.under.base hf⟩
theorem St.upto {c : Cx} {m : Loc} {H : AH} {s : Shared} (S : St c m H s) {B h' : Heap} {D : Addr → Addr} {tk : Nat} (hb : c.base.StaysIn B) (R : Rep c D H B) (k : B.StaysIn h') (u : s.heap.UpToSlots h') : St c m H { s with heap := h', toks := tk } :=
  ⟨fun b o e => k b o (hb b o e), S.above, u.ns S.ns, S.under.turn fun p hp n => u.ns n, S.low, ⟨D, R.keeps fun b o _ e => k b o e⟩, S.gens, S.os⟩

section
variable {prog : Program} {w : World} {K : Frag} {T : Tp} {A : Around} {c : Cx} {m : Loc} {H : AH} {s : Shared} {E : Value → Shared → Prop} {d u : Nat} {e : Addr} {cls : Value} {md : Md}

theorem Ok.mark' (O : Ok K T A c d u) (x : Option Value) : Ok K T (A.mark x) c d u := ⟨O.X, O.T, O.hA, O.hk, O.hd, O.hu⟩
/-- a new exception -/
theorem Exn.new {h : Heap} (hk : ∀ b o, h.get? b = some o → s.heap.get? b = some o) (S : St c m H { s with heap := h }) (hn : h.get? e = none) {oe : Obj} {vs : Array Value} {a0 : Value}
    (ho : s.heap.get? e = some oe) (hc : oe.cls = cls) (hd : oe.data = .fields vs) (h1 : vs[1]? = some .none) (h0 : vs[0]? = some a0) : Exn c m H e cls .fresh s := by
  have G := S.grown (tk := s.toks) hk
  refine ⟨G, ?_⟩
  obtain ⟨D, R⟩ := S.rep
  have nf : ∀ b, (b = c.L ∨ ∃ p ∈ c.fr, p.1 = b) → (hideAll h (c.L :: c.fr.map (·.1))).get? b = none := by
    intro b hb
    refine hideAll_none _ ?_
    rcases hb with rfl | ⟨p, hp, rfl⟩
    · exact .head _
    · exact .tail _ (List.mem_map_of_mem hp)
  have kp : ∀ b o, Free c b → h.get? b = some o → (hideAll h (c.L :: c.fr.map (·.1))).get? b = some o := fun b o f e => hideAll_get _ e fun q => by
    rcases List.mem_cons.mp q with q | q
    · exact f.1 q
    · obtain ⟨p, hp, q⟩ := List.mem_map.mp q; exact f.2.1 p hp q
  refine ⟨hideAll h (c.L :: c.fr.map (·.1)), D, a0, fun b o q => ?_, nf _ (.inl rfl), fun p hp => nf _ (.inr ⟨p, hp, rfl⟩), R.keeps fun b o t q => kp b o (R.trk t).1 q, fun b o q => hk b o (of_hideAll _ q), ?_, oe, vs, ho, hc, hd, h1, h0⟩
  · refine hideAll_get _ (S.base b o q) fun z => ?_
    rcases List.mem_cons.mp z with z | z
    · subst z; exact absurd (Heap.lt_size q) (Nat.not_lt.mpr S.above)
    · obtain ⟨p, hp, z⟩ := List.mem_map.mp z
      have := (S.under.ns p hp).2.1
      rw [z, q] at this; cases this
  · cases q : (hideAll h (c.L :: c.fr.map (·.1))).get? e with
    | none => rfl
    | some o => have := of_hideAll _ q; rw [hn] at this; cases this

theorem noteAny (O : Ok K T A c d u) (X : Exn c m H e cls md s) {Q : Unit → Shared → Prop} (h : ∀ s', Exn c m H e cls .held s' → Q () s') : wpAny (model prog w) A (noteFrame (.ref e) c.env) Q E s := by
  obtain ⟨S, B, D, a0, b1, b2, b3, R, b4, b5, x⟩ := X
  have ff := S.funFrames O.hk b2 b3
  have fin : ∀ h', Heap.NotedW B (c.env :: c.outer) e cls a0 (rawInt c.L) s.heap h' → Q () { s with heap := h' } := fun h' ⟨k1, _, k3, k4⟩ =>
    h _ ⟨S.upto (tk := s.toks) b1 R k1 k4, B, D, a0, b1, b2, b3, R, k1, b5, k3⟩
  cases md with
  | fresh =>
    obtain ⟨oe, vs, ho, rfl, hd, h1, h0⟩ := x
    unfold noteFrame
    show wpAny _ _ (do let head ← field (.ref e) 1; _) _ _ _
    refine wpAny_bind (wpAny_field ho hd h1 ?_)
    rw [if_neg (by decide)]
    exact wpAny_entryW O.hA ff rfl ho b4 b5 hd (Array.getElem?_eq_some_iff.mp h1).1 h0 fin
  | fly => exact wpAny_noteFrame_onW O.hA ff rfl x b4 b5 fin
  | held => exact wpAny_noteFrame_againW rfl x (h _ ⟨S, B, D, a0, b1, b2, b3, R, b4, b5, x⟩)

theorem unflight (X : Exn c m H e cls md s) (hk : c.cs.kind = .function) (hm : md ≠ .fresh) {Q : Unit → Shared → Prop} (h : ∀ s', Exn c m H e cls .fly s' → Q () s') : wpAny (model prog w) A (setFlight (.ref e) none) Q E s := by
  obtain ⟨S, B, D, a0, b1, b2, b3, R, b4, b5, x⟩ := X
  have ff := S.funFrames hk b2 b3
  have : ∃ fl, s.heap.TracedAtW B e cls a0 fl := by
    cases md with
    | fresh => exact absurd rfl hm
    | fly => exact ⟨_, x.at⟩
    | held => exact ⟨_, x⟩
  obtain ⟨fl, x⟩ := this
  exact wpAny_setFlight_noneW b4 ff x fun h' k1 k2 k3 k4 => h _ ⟨S.upto (tk := s.toks) b1 R k1 fun b o hb hn => ⟨o.slots, k4 b o hb hn⟩, B, D, a0, b1, b2, b3, R, k1, b5, k3⟩

/-- the frame is left -/
theorem leaveAny (O : Ok K T A c d u) (X : Exn c m H e cls md s) {Q : Unit → Shared → Prop} (h : ∀ s', Exn c m H e cls .fly s' → Q () s') : wpAny (model prog w) A (leaving c.env (.ref e)) Q E s := by
  unfold leaving
  exact wpAny_bind (noteAny O X fun s' X' => unflight X' O.hk (by intro q; cases q) h)

theorem Exn.md_trace (X : Exn c m H e cls md s) (hm : md ≠ .fresh) : ∃ oe vs T, s.heap.get? e = some oe ∧ oe.data = .fields vs ∧ vs[1]? = some (.ref T) := by
  obtain ⟨S, B, D, a0, b1, b2, b3, R, b4, b5, x⟩ := X
  cases md with
  | fresh => exact absurd rfl hm
  | fly => obtain ⟨oe, vs, T, oT, ts, he, ⟨hcls, h0⟩, hd, h1, _⟩ := x; exact ⟨oe, vs, T, he, hd, h1⟩
  | held => obtain ⟨oe, vs, T, oT, ts, he, ⟨hcls, h0⟩, hd, h1, _⟩ := x; exact ⟨oe, vs, T, he, hd, h1⟩
/-- back out of a loop's own activation -/
theorem flightHere (X : Exn c m H e cls .held s) (hk : c.cs.kind = .function) {Q : Unit → Shared → Prop} (h : ∀ s', Exn c m H e cls .held s' → Q () s') : wpAny (model prog w) A (setFlight (.ref e) c.env.frame) Q E s := by
  obtain ⟨S, B, D, a0, b1, b2, b3, R, b4, b5, x⟩ := X
  obtain ⟨oe, vs, T, oT, ts, he, hcls, hd, h1, hnT, hTe, hT, hdT, h3⟩ := x
  have hsz3 : 3 < ts.size := (Array.getElem?_eq_some_iff.mp h3).1
  have other : ∀ b, b ≠ T → (s.heap.update T (Obj.mapFields (·.setIfInBounds 3 ((some c.L : Option Addr).elim Value.none fun f => rawInt f)))).get? b = s.heap.get? b :=
    fun b hb => Heap.get?_update_other _ _ (Ne.symm hb)
  have noRecord : ∀ b o, s.heap.get? b = some o → (∀ vs, o.data ≠ .fields vs) → b ≠ T := fun b o hb hnf q => by
    rw [q, hT] at hb; injection hb with hb; subst hb; exact hnf ts hdT
  have k1 : B.StaysIn (s.heap.update T (Obj.mapFields (·.setIfInBounds 3 ((some c.L : Option Addr).elim Value.none fun f => rawInt f)))) := fun b o hbo => (other b fun q => by rw [q, hnT] at hbo; cases hbo).trans (b4 b o hbo)
  unfold setFlight
  refine wpAny_bind (wpAny_field he hd h1 ?_)
  rw [if_pos (show (Value.ref T != Value.none) = true from by simp)]
  refine wpAny_setField hT hdT hsz3 (h _ ⟨S.upto (tk := s.toks) b1 R k1 fun b o hb hn => ⟨o.slots, (other b (noRecord b o hb hn)).trans hb⟩, B, D, a0, b1, b2, b3, R, k1, b5, ?_⟩)
  exact ⟨oe, vs, T, _, _, (other e (Ne.symm hTe)).trans he, hcls, hd, h1, hnT, hTe, Heap.get?_update_self _ hT (Obj.isFreed_of_fields (Obj.data_mapFields hdT _)), Obj.data_mapFields hdT _, by simp [hsz3]⟩
theorem cameBack (X : Exn c m H e cls .held s) (hk : c.cs.kind = .function) (h : ∀ s', Exn c m H e cls .held s' → E (.ref e) s') : cameBackBy (model prog w) A c.env E (.ref e) s := by
  obtain ⟨oe, vs, T, he, hd, h1⟩ := X.md_trace (by intro q; cases q)
  unfold cameBackBy
  refine wpAny_bind (wpAny_field he hd h1 ?_)
  exact flightHere X hk h
theorem noted (O : Ok K T A c d u) (X : Exn c m H e cls md s) (h : ∀ s', Exn c m H e cls .held s' → E (.ref e) s') : notedBy (model prog w) A c.env E (.ref e) s := noteAny O X h

theorem Exn.clsAt (X : Exn c m H e cls md s) : ∃ oe, s.heap.get? e = some oe ∧ oe.cls = cls := by
  obtain ⟨S, B, D, a0, b1, b2, b3, R, b4, b5, x⟩ := X
  cases md with
  | fresh => obtain ⟨oe, vs, ho, hc, _⟩ := x; exact ⟨oe, ho, hc⟩
  | fly => obtain ⟨oe, vs, T, oT, ts, he, ⟨hcls, h0⟩, _⟩ := x; exact ⟨oe, he, hcls⟩
  | held => obtain ⟨oe, vs, T, oT, ts, he, ⟨hcls, h0⟩, _⟩ := x; exact ⟨oe, he, hcls⟩
/-- a clause that takes it -/
theorem tryCaught {T' Xn : String} {x : Str} {np pos : Pos} {b₀ : Stmt} {suite : List Stmt} {rest : List ExceptHandler} {Q : Flow → Shared → Prop} (O : Ok K T A c d u) (X : Exn c m H e (.type Xn) md s) (hx : c.env.kindOf x = some .globalImplicit) (en : nsIn K mainGlobals x = some none) (hv : bootBuiltins x = some (.type T')) (hn : x ≠ "__name__")
    (hexc : isSubtype (.type T') (.type "BaseException") = pure true) (hnt : isSubtype (.type ((Manifest.find? T').elim "type" fun y => y.metatype)) (.type "tuple") = pure false) (hsub : isSubtype (.type Xn) (.type T') = pure true)
    (k : ∀ s', Exn c m H e (.type Xn) .fly s' → wpAny (model prog w) (A.mark (some (.ref e))) (execs (b₀ :: suite) c.env) Q (notedBy (model prog w) (A.mark (some (.ref e))) c.env (cameBackBy (model prog w) A c.env E)) s')
    (hd : (x == ("__debug__" : Str)) = false := by decide) :
    wpAny (model prog w) A (noteFrame (.ref e) c.env) (fun _ s₂ => wpAny (model prog w) A (setFlight (.ref e) none) (fun _ s₃ =>
        wpAny (model prog w) A (handleBy (.ref e) c.env (.ExceptHandler (some (.Name x np)) none (b₀ :: suite) pos :: rest)) Q E s₃) E s₂) E s := by
  refine noteAny O X fun s₁ X₁ => unflight X₁ O.hk (by intro q; cases q) fun s₂ X₂ => ?_
  obtain ⟨oe, ho, hc⟩ := X₂.clsAt
  refine wpAny_handleBy_builtin (X := Xn) (T := T') (b := true) hexc hnt hsub (nameB (O.mark' (some (.ref e))) X₂.st hx en hv hn ⟨rfl, ⟨oe, ho, hc⟩, ?_⟩ O.hk hd)
  exact unflight X₂ O.hk (by intro q; cases q) k
/-- a clause that passes it on -/
theorem tryPass {T' Xn : String} {x : Str} {np pos : Pos} {b₀ : Stmt} {suite : List Stmt} {rest : List ExceptHandler} {Q : Flow → Shared → Prop} (O : Ok K T A c d u) (X : Exn c m H e (.type Xn) .fly s) (hx : c.env.kindOf x = some .globalImplicit) (en : nsIn K mainGlobals x = some none) (hv : bootBuiltins x = some (.type T')) (hn : x ≠ "__name__")
    (hexc : isSubtype (.type T') (.type "BaseException") = pure true) (hnt : isSubtype (.type ((Manifest.find? T').elim "type" fun y => y.metatype)) (.type "tuple") = pure false) (hsub : isSubtype (.type Xn) (.type T') = pure false)
    (k : wpAny (model prog w) A (handleBy (.ref e) c.env rest) Q E s)
    (hd : (x == ("__debug__" : Str)) = false := by decide) :
    wpAny (model prog w) A (handleBy (.ref e) c.env (.ExceptHandler (some (.Name x np)) none (b₀ :: suite) pos :: rest)) Q E s := by
  obtain ⟨oe, ho, hc⟩ := X.clsAt
  exact wpAny_handleBy_builtin (X := Xn) (T := T') (b := false) hexc hnt hsub (nameB (O.mark' (some (.ref e))) X.st hx en hv hn ⟨rfl, ⟨oe, ho, hc⟩, k⟩ O.hk hd)
end
end

section
def flowVal : Flow → Value
  | .ret v => v
  | _ => .none
/-- how a body is left -/
def Lv (c c' : Cx) (m : Loc) (R : Result → Shared → Prop) (fl : Flow) (s' : Shared) : Prop :=
  ∃ m' H', St c' m' H' s' ∧ (St c m H' s' → R (.ok (.ret (flowVal fl))) s')
def Lx (c c' : Cx) (m : Loc) (R : Result → Shared → Prop) (e : Value) (s' : Shared) : Prop :=
  ∃ m' H' a cls md, e = .ref a ∧ Exn c' m' H' a cls md s' ∧ ∀ s'', Exn c m H' a cls .fly s'' → R (.error (.ref a)) s''
theorem lx_intro {c c' : Cx} {m : Loc} {R : Result → Shared → Prop} {a : Addr} {cls : Value} {md : Md} {s' : Shared} {m' H'} (X : Exn c' m' H' a cls md s') (h : ∀ s'', Exn c m H' a cls .fly s'' → R (.error (.ref a)) s'') : Lx c c' m R (.ref a) s' :=
  ⟨m', H', a, cls, md, rfl, X, h⟩
theorem lv_ret {c c' : Cx} {m : Loc} {R : Result → Shared → Prop} {v : Value} {s' : Shared} {m' H'} (S : St c' m' H' s') (h : St c m H' s' → R (.ok (.ret v)) s') : Lv c c' m R (.ret v) s' := ⟨m', H', S, h⟩
theorem lv_next {c c' : Cx} {m : Loc} {R : Result → Shared → Prop} {s' : Shared} {m' H'} (S : St c' m' H' s') (h : St c m H' s' → R (.ok (.ret .none)) s') : Lv c c' m R .next s' := ⟨m', H', S, h⟩

section
variable {prog : Program} {w : World} {K : Frag} {T : Tp} {A : Around} {c : Cx} {m : Loc} {H : AH} {s : Shared} {E : Value → Shared → Prop} {d u : Nat} {R : Result → Shared → Prop}
  {name qual : Str} {params : Arguments} {body : List Stmt} {scope : Scope} {dV kV doc pm cdv ct oc : Value} {an od : Option Addr} {osl : Array (Option Value)} {f : Addr} {args : Args} {binds : List (Str × Value)}

theorem code_fn (O : Ok K T A c (d + 1) (u + 3)) (S : St c m H s)
    (ho : K.lookup f = some ⟨oc, od, .func (fnOf name qual params body scope dV kV doc pm an cdv ct), osl⟩) (hcd : codeIn K cdv qual = true)
    (hbind : K.In s.heap → BindsTo s (fnOf name qual params body scope dV kV doc pm an cdv ct) args binds) (hloc : ∀ y ∈ binds, scope.names.lookup y.1 = some .local)
    (h : ∀ (A' : Around) (outer' : List Env) (fr' : List (Addr × Loc)) (L' : Addr) (s' : Shared), Ok K T A' ⟨c.base, outer', fr', qual, scope, L', f, cdv, [], c.os⟩ d u → A'.handled = A.handled →
      St ⟨c.base, outer', fr', qual, scope, L', f, cdv, [], c.os⟩ binds.reverse H s' →
      wpAny (model prog w) A' (execs body (Cx.env ⟨c.base, outer', fr', qual, scope, L', f, cdv, [], c.os⟩)) (Lv c ⟨c.base, outer', fr', qual, scope, L', f, cdv, [], c.os⟩ m R)
        (Lx c ⟨c.base, outer', fr', qual, scope, L', f, cdv, [], c.os⟩ m R) s')
    (hco : scope.isCoroutine = false) (hgen : scope.isGenerator = false) (hk : scope.kind = .function) (hcell : ∀ x ∈ scope.names, x.2 ≠ .cell) :
    codeAny (model prog w) A (.call (.ref f) args) R s := by
  have hroom : A.depth < recursionLimit := by have := O.hd; omega
  have X := inK O S
  refine codeAny_call_def (fd := fnOf name qual params body scope dV kV doc pm an cdv ct) (body := body) (binds := binds) hroom (X _ _ ho) rfl (topS O S).nolimit (codeRec_of X hcd) rfl (hbind X) hcell hloc (fun h₁ hns hk₁ => ?_) hco hgen hk
  have O' : Ok K T (A.deeper (callEnv (fnOf name qual params body scope dV kV doc pm an cdv ct) s.heap.objs.size f)) ⟨c.base, c.env :: c.outer, (c.L, m) :: c.fr, qual, scope, s.heap.objs.size, f, cdv, [], c.os⟩ d u :=
    ⟨O.X, O.T, Around.frames_deeper O.hA, hk, by have := O.hd; show A.depth + 1 + d < _; omega, by have := O.hu; show A.units + 3 + u < _; omega⟩
  have G := S.grown (tk := s.toks + binds.length) hk₁
  have hL : @LT.lt Nat _ c.L s.heap.objs.size := S.ns.lt
  obtain ⟨D, R₀⟩ := G.rep
  obtain ⟨D₁, R₁⟩ := S.rep
  have S' : St ⟨c.base, c.env :: c.outer, (c.L, m) :: c.fr, qual, scope, s.heap.objs.size, f, cdv, [], c.os⟩ binds.reverse H { s with heap := h₁, toks := s.toks + binds.length } := by
    refine ⟨G.base, Nat.le_trans S.above (Nat.le_of_lt hL), hns, ⟨O.hk, rfl, ?_, S.above, G.ns, G.under⟩, ?_, ⟨D₁, ?_⟩, G.gens, G.os⟩
    · cases q : c.base.get? c.L with
      | none => rfl
      | some o => exact absurd (Heap.lt_size q) (Nat.not_lt.mpr S.above)
    · intro p hp
      rcases List.mem_cons.mp hp with rfl | hp
      · exact hL
      · exact Nat.lt_trans (S.low p hp) hL
    · refine (R₁.keeps fun b o _ e => hk₁ b o e).frame fun b t fb => ⟨?_, ?_, fb.2.2⟩
      · obtain ⟨o, ho⟩ := (R₁.trk t).2
        exact Nat.ne_of_lt (Heap.lt_size ho)
      · intro p hp
        rcases List.mem_cons.mp hp with rfl | hp
        · exact Ne.symm fb.1
        · exact fb.2.1 p hp
  refine wpAny_mono (h _ _ _ _ _ O' rfl S') (fun fl s' hl => ?_) fun e s' hx => ?_
  rotate_left
  · obtain ⟨m', H', a, cls, md, rfl, X', k⟩ := hx
    refine leaveAny O' X' fun s'' X'' => k s'' ?_
    obtain ⟨S'', B, D'', a0, b1, b2, b3, R'', b4, b5, x⟩ := X''
    obtain ⟨_, _, _, _, n0, u0⟩ := S''.under
    refine ⟨⟨S''.base, S.above, n0, u0, S.low, ?_, S''.gens, S''.os⟩, B, D'', a0, b1, b3 (c.L, m) (.head _), fun p hp => b3 p (.tail _ hp), R''.frame fun b _ fb => ⟨fun q => fb.2.1 (c.L, m) (.head _) q.symm, fun p hp => fb.2.1 p (.tail _ hp), fb.2.2⟩, b4, b5, x⟩
    exact ⟨D'', (R''.keeps fun b o _ e => b4 b o e).frame fun b _ fb => ⟨fun q => fb.2.1 (c.L, m) (.head _) q.symm, fun p hp => fb.2.1 p (.tail _ hp), fb.2.2⟩⟩
  obtain ⟨m', H', S'', k⟩ := hl
  obtain ⟨D'', R''⟩ := S''.rep
  have back : St c m H' s' := by
    obtain ⟨_, _, _, _, n0, u0⟩ := S''.under
    exact ⟨S''.base, S.above, n0, u0, S.low, ⟨D'', R''.frame fun b _ fb => ⟨fun q => fb.2.1 (c.L, m) (.head _) q.symm, fun p hp => fb.2.1 p (.tail _ hp), fb.2.2⟩⟩, S''.gens, S''.os⟩
  cases fl <;> exact k back

/-- a call, out of its code -/
theorem call_of {f : Value} {pos : List Value} {kw : List (Str × Value)} {Q : Value → Shared → Prop}
    (hc : codeAny (model prog w) A (.call f ⟨pos, kw⟩) (fun r s' => match r with | .ok (.ret v) => Q v s' | .ok _ => False | .error e => E e s') s) : wpAny (model prog w) A (call f pos kw) Q E s := wpAny_call hc
theorem Ok.in1 (O : Ok K T A c d (u + 1)) : Ok K T A.in1 c d u := ⟨O.X, O.T, O.hA, O.hk, O.hd, by have := O.hu; show A.units + 1 + u < _; omega⟩
theorem Ok.mark (O : Ok K T A c d u) (x : Option Value) : Ok K T (A.mark x) c d u := ⟨O.X, O.T, O.hA, O.hk, O.hd, O.hu⟩
theorem Ok.le {d' u' : Nat} (O : Ok K T A c d u) (hd : d' ≤ d) (hu : u' ≤ u) : Ok K T A c d' u' := ⟨O.X, O.T, O.hA, O.hk, by have := O.hd; omega, by have := O.hu; omega⟩
theorem Ok.make {C : Addr} {vals : List Value} {kw : List (Str × Value)} (O : Ok K T A c (d + 1) (u + 1)) : Ok K T (A.under (.builtin "type.__call__" ⟨.ref C :: vals, kw⟩)) c d u := by
  refine ⟨O.X, O.T, ?_, O.hk, ?_, ?_⟩
  · have e : Code.envs (.builtin "type.__call__" ⟨.ref C :: vals, kw⟩) = [] := by rfl
    simp only [Around.under, e, pushEnvs]; exact O.hA
  · have := O.hd
    rw [depth_under_kw]; omega
  · have := O.hu
    show A.units + Code.cUnits _ + u < _
    have e : Code.cUnits (.builtin "type.__call__" ⟨.ref C :: vals, kw⟩) = 1 := by rfl
    omega

/-- a class called whose __init__ is a def -/
theorem code_make {C fI : Addr} {rest : List Value} {kw : List (Str × Value)} (O : Ok K T A c (d + 1) (u + 1)) (S : St c m H s) (hm : makesIn K C = true) (hi : findIn K (.ref C) "__init__" = some (some (.ref fI))) (hf : isFn K (.ref fI) = true)
    (h : ∀ x s' A', Ok K T A' c d u → A'.handled = A.handled → H.obj x = none → St c m (H.set x (.inst C [])) s' → codeAny (model prog w) A' (.call (.ref fI) ⟨.ref x :: rest, kw⟩) (InitBack x R) s') :
    codeAny (model prog w) A (.call (.ref C) ⟨rest, kw⟩) R s := by
  have X := inK O S
  obtain ⟨hp, g, dr, t, os⟩ := s
  obtain ⟨S', z⟩ := S.pushInst C t
  exact make_core (makes_of X hm) (looks_findIn X hi) (fun self => bind_fn X self (beq_iff_eq.mp hf)) (.inl rfl) (h _ _ _ O.make rfl z S')
theorem init_back {x : Addr} {R : Result → Shared → Prop} {s' : Shared} (h : R (.ok (.ret (.ref x))) s') : InitBack x R (.ok (.ret .none)) s' := ⟨rfl, h⟩
end
end

section
theorem typeCall_list_0 : checkTypeCall "list" ⟨[], []⟩ = pure () := by kernel_rfl
theorem newCall_list_0 : checkBuiltinCall "list.__new__" ⟨[.type "list"], []⟩ = pure () := by kernel_rfl
theorem args_list_init_1 (a : Value) : argsOk "list.__init__" ⟨[a], []⟩ := by unfold argsOk; kernel_rfl
section
variable {prog : Program} {w : World} {K : Frag} {T : Tp} {A : Around} {c : Cx} {m : Loc} {H : AH} {s : Shared} {E : Value → Shared → Prop} {d u : Nat}
theorem code_list_new0 {Q₁ : Value → Shared → Prop}
    (h : Q₁ (.ref s.heap.objs.size) { s with heap := s.heap.push { cls := .type "list", data := .seq #[] } }) :
    codeAny (model prog w) A (.call (.builtin "list.__new__") ⟨[.type "list"], []⟩) (wants Q₁ E) s := by
  refine codeAny_of_tree ?_
  show wpAny _ A.in1 (do checkBuiltinCall "list.__new__" ⟨[.type "list"], []⟩; again (.builtin "list.__new__" ⟨[.type "list"], []⟩)) _ _ s
  refine wpAny_bind (wpAny_of_eq newCall_list_0 (wpAny_pure ⟨plainId_quiet F.plain_list_new _, codeAny_builtin_stack F.entry_list_new rfl fun p st => ?_⟩))
  rw [Around.under_plainId F.plain_list_new _]
  have hsub := sub_list_self
  have hown := owner_list_new
  obtain ⟨hp, g, d, tk, os⟩ := s
  simp only [hown]
  wp_walk
  exact h
theorem list_init0 (S : Addr) {R : Result → Shared → Prop}
    (hS : s.heap.get? S = some { cls := .type "list", data := .seq #[] })
    (hR : R (.ok (.ret .none)) { s with heap := s.heap.update S (Obj.mapSeq (fun _ => (#[] : Array Value))) }) :
    wpAny (model prog w) A.in1 (Builtin.«list.__init__» ⟨[.ref S], []⟩)
      (fun fin s' => match fin with | .done f => R (.ok f) s' | .again c' => c'.quiet = true ∧ codeAny (model prog w) A c' R s') (fun e s' => R (.error e) s') s := by
  show wpAny _ A.in1 (do let old ← Builtin.List.listItems (.ref S); Builtin.List.listUpdate (.ref S) (fun _ => #[]); letGo old.toList.reverse; ret .none) _ _ s
  refine wpAny_bind ?_
  unfold Builtin.List.listItems
  refine wpAny_bind (wpAny_seqItems hS rfl (wpAny_pure ?_))
  show wpAny _ A.in1 (updateSeq S (fun _ => #[]) >>= fun _ => letGo (#[] : Array Value).toList.reverse >>= fun _ => ret .none) _ _ s
  refine wpAny_bind (wpAny_updateSeq hS rfl ?_)
  refine wpAny_bind (wpAny_letGo ?_)
  exact wpAny_pure hR
theorem call_list0 {Q : Value → Shared → Prop} (S : St c m H s) (h : ∀ l s', H.obj l = none → St c m (H.set l (.list [])) s' → Q (.ref l) s') : wpAny (model prog w) A (call (.type "list") []) Q E s := by
  refine callType_codes (Q₁ := fun obj s₁ => obj = .ref s.heap.objs.size ∧ s₁ = { s with heap := s.heap.push { cls := .type "list", data := .seq #[] } }) F.called_list typeCall_list_0 F.entry_list_init
    (code_list_new0 ⟨rfl, rfl⟩) fun obj s₁ h₁ => ?_
  obtain ⟨rfl, rfl⟩ := h₁
  have hS : (s.heap.push { cls := .type "list", data := .seq #[] }).get? s.heap.objs.size = some { cls := .type "list", data := .seq #[] } := Heap.get?_push_size _ rfl
  refine ⟨⟨_, hS, rfl⟩, args_list_init_1 _, list_init0 _ hS ⟨rfl, ?_⟩⟩
  obtain ⟨hp, g, dr, t, os⟩ := s
  have S' := S.push (o := { cls := .type "list", data := .seq #[] }) (ao := .list []) t (by intro _ _ q; cases q) (fun _ e => ⟨0, e⟩)
  have S'' := S'.change (a := hp.objs.size) (ao := .list []) (ao' := .list []) (tk := t) AH.set_same (by intro _ _ q; cases q) (Heap.SameBut.update ..) (fun _ => ⟨0, by
    have := Heap.get?_update_self (Obj.mapSeq (fun _ => (#[] : Array Value))) hS rfl
    simpa [Obj.mapSeq] using this⟩)
  have e : (H.set hp.objs.size (.list [])).set hp.objs.size (.list []) = H.set hp.objs.size (.list []) := by
    ext1
    · rename_i a; by_cases q : a = hp.objs.size
      · subst q; rw [AH.set_same, AH.set_same]
      · rw [AH.set_ne q]
    · rfl
  rw [e] at S''
  exact h _ _ S.fresh S''
end
end

section
theorem ift {b : Bool} {X Y : Prop} (hb : b = true) (h : X) : if b = true then X else Y := by rw [if_pos hb]; exact h
theorem iff_ {b : Bool} {X Y : Prop} (hb : b = false) (h : Y) : if b = true then X else Y := by rw [if_neg (by rw [hb]; decide)]; exact h
theorem ifs {b : Bool} {X Y : Prop} (h : b = true → X) (h' : b = false → Y) : if b = true then X else Y := by
  cases e : b with
  | true => exact ift rfl (h e)
  | false => exact iff_ rfl (h' e)
theorem ne_of_none {H : AH} {a l : Addr} {x : AO} (h : H.obj a = some x) (h' : H.obj l = none) : a ≠ l := by rintro rfl; rw [h] at h'; cases h'
section
variable {M : Model} {A : Around} {env : Env} {rest : List Stmt} {E : Value → Shared → Prop} {s : Shared}
theorem ex_assignAttr {o attr pos' value pos} {Q : Flow → Shared → Prop}
    (h : wpAny M A (eval value env) (fun v s₁ => wpAny M A (eval o env) (fun ov s₂ => wpAny M A (setAttr ov attr v) (fun _ s₃ => wpAny M A (execs rest env) Q E s₃) E s₂) E s₁) E s)
    (hs : swapsWith value (some (.Attribute o attr pos')) pos.line env = pure false := by with_unfolding_all rfl) :
    wpAny M A (execs (.Assign [.Attribute o attr pos'] value pos :: rest) env) Q E s :=
  ex_cons (plainObj_wpAny_Assign_Attribute h hs)
/-- behind an expression that stands for itself -/
def Xn (M : Model) (A : Around) (env : Env) (rest : List Stmt) (Q : Flow → Shared → Prop) (E : Value → Shared → Prop) (v : Value) (s : Shared) : Prop :=
  match v with
  | .ref _ => False
  | _ => wpAny M A (execs rest env) Q E s
theorem ex_expr {e pos} {Q : Flow → Shared → Prop} (h : wpAny M A (eval e env) (Xn M A env rest Q E) E s)
    (hi : interactive env = false := by with_unfolding_all rfl) (hs : swapsWith e none pos.line env = pure false := by with_unfolding_all rfl) :
    wpAny M A (execs (.Expr e pos :: rest) env) Q E s :=
  ex_cons (wpAny_Expr (wpAny_mono h (fun v s' h' => by cases v <;> exact h') fun _ _ x => x) hi hs)
theorem xn_none {Q : Flow → Shared → Prop} (h : wpAny M A (execs rest env) Q E s) : Xn M A env rest Q E .none s := h
theorem cmp1 {l op r pos} {Q : Value → Shared → Prop}
    (h : wpAny M A (eval l env) (fun a s₁ => wpAny M A (eval r env) (fun b s₂ => wpAny M A (compareOp op a b) Q E s₂) E s₁) E s)
    (hm : behindInMarks op r = false := by with_unfolding_all rfl) :
    wpAny M A (eval (.Compare l [op] [r] pos) env) Q E s := wpAny_Compare1 h hm
theorem tcmp1 {l op r pos whole} {Q : Bool → Shared → Prop}
    (h : wpAny M A (eval l env) (fun a s₁ => wpAny M A (eval r env) (fun b s₂ => wpAny M A (compareOp op a b)
      (fun c s₃ => wpAny M A (truthy c) Q E s₃) E s₂) E s₁) E s)
    (hm : behindInMarks op r = false := by with_unfolding_all rfl) : wpAny M A (isTrue (.Compare l [op] [r] pos) env whole) Q E s := wpAny_isTrue_Compare1 h hm
theorem truthyB {b : Bool} {Q : Bool → Shared → Prop} (h : Q b s) : wpAny M A (truthy (.bool b)) Q E s := wpAny_truthy_bool h
theorem tname {x pos} {Q : Bool → Shared → Prop} (h : wpAny M A (eval (.Name x pos) env) (fun v s₁ => wpAny M A (truthy v) Q E s₁) E s) : wpAny M A (isTrue (.Name x pos) env (eval (.Name x pos) env)) Q E s := isTrue_plain h
theorem tattr {o x pos} {Q : Bool → Shared → Prop} (h : wpAny M A (eval (.Attribute o x pos) env) (fun v s₁ => wpAny M A (truthy v) Q E s₁) E s) : wpAny M A (isTrue (.Attribute o x pos) env (eval (.Attribute o x pos) env)) Q E s := isTrue_plain h
theorem tcall {f a k pos} {Q : Bool → Shared → Prop} (h : wpAny M A (eval (.Call f a k pos) env) (fun v s₁ => wpAny M A (truthy v) Q E s₁) E s) : wpAny M A (isTrue (.Call f a k pos) env (eval (.Call f a k pos) env)) Q E s := isTrue_plain h
theorem tsub {f a pos} {Q : Bool → Shared → Prop} (h : wpAny M A (eval (.Subscript f a pos) env) (fun v s₁ => wpAny M A (truthy v) Q E s₁) E s) : wpAny M A (isTrue (.Subscript f a pos) env (eval (.Subscript f a pos) env)) Q E s := isTrue_plain h
theorem tconst {c k pos} {Q : Bool → Shared → Prop} (h : wpAny M A (eval (.Constant c k pos) env) (fun v s₁ => wpAny M A (truthy v) Q E s₁) E s) : wpAny M A (isTrue (.Constant c k pos) env (eval (.Constant c k pos) env)) Q E s := isTrue_plain h
/-! method calls and calls -/
theorem mcall {o : Expr} {name : Str} {apos pos : Pos} {args : List Expr} {Q : Value → Shared → Prop}
    (h : ∀ pl : Sem Bool, wpAny M A (eval o env) (fun ov s₁ => wpAny M A (getMethod ov name pl) (fun fx s₂ => wpAny M A (callWith pos fx.1 fx.2 (backTo pos (starEach args env)) []) Q E s₂) E s₁) E s)
    (pl : Sem Bool)
    (he : eval (.Call (.Attribute o name apos) args [] pos) env = (do
      let ov ← eval o env
      standAt apos.atName
      let (f, first) ← holding [ov] (getMethod ov name pl)
      callWith pos f first (backTo pos (starEach args env)) [])) :
    wpAny M A (eval (.Call (.Attribute o name apos) args [] pos) env) Q E s := MethodCall_ (h pl) he
theorem pcall {func : Expr} {args : List Expr} {pos : Pos} {Q : Value → Shared → Prop}
    (h : wpAny M A (eval func env) (fun f s₁ => wpAny M A (callWith pos f [] (backTo pos (starEach args env)) []) Q E s₁) E s)
    (he : eval (.Call func args [] pos) env = (do callWith pos (← eval func env) [] (backTo pos (starEach args env)) (backToKw pos (keywordEach [] env))) := by with_unfolding_all rfl) :
    wpAny M A (eval (.Call func args [] pos) env) Q E s := Call_ h he
theorem argsNil {pos : Pos} {Q : List Value → Shared → Prop} (h : Q [] s) : wpAny M A (spliced (backTo pos (starEach [] env))) Q E s := spliced_none h
end
section
variable {prog : Program} {w : World} {K : Frag} {T : Tp} {A : Around} {c : Cx} {m : Loc} {H : AH} {s : Shared} {E : Value → Shared → Prop} {d u : Nat} {env : Env}
theorem cwFn {pos : Pos} {f : Addr} {first : List Value} {e : Expr} {rest : List Expr} {Q : Value → Shared → Prop} (O : Ok K T A c d u) (hk : keepIn K (.ref f) = true)
    (h : wpAny (model prog w) A (spliced (backTo pos (starEach (e :: rest) env))) (fun vs s₁ => K.In s₁.heap ∧ wpAny (model prog w) A (call (.ref f) (first ++ vs)) Q E s₁) E s)
    (he : starEach (e :: rest) env = (false, eval e env) :: starEach rest env := by with_unfolding_all rfl) (hplain : (backTo pos (starEach rest env)).any (·.1) = false := by with_unfolding_all rfl) :
    wpAny (model prog w) A (callWith pos (.ref f) first (backTo pos (starEach (e :: rest) env)) []) Q E s := callWith_K (h₀ := c.base) O.X hk h he hplain
theorem cwFn0 {pos : Pos} {f : Addr} {first : List Value} {Q : Value → Shared → Prop} (O : Ok K T A c d u) (S : St c m H s) (hk : keepIn K (.ref f) = true) (h : wpAny (model prog w) A (call (.ref f) (first ++ [])) Q E s) :
    wpAny (model prog w) A (callWith pos (.ref f) first (backTo pos (starEach [] env)) []) Q E s := callWith_K0 (inK O S) hk h
theorem andK {R : Prop} (O : Ok K T A c d u) (S : St c m H s) (h : R) : K.In s.heap ∧ R := ⟨inK O S, h⟩
/-- a method that is no def of the class: a type, a built-in -/
theorem methUsual {a C : Addr} {fs : Loc} {name : Str} {r : Option Value} {pl : Sem Bool} {Q : Value × List Value → Shared → Prop} (O : Ok K T A c d u) (S : St c m H s) (hi : H.obj a = some (.inst C fs))
    (hg : plainGet K C name = true) (hf : findIn K (.ref C) name = some r) (ht : r.all (fun a => (typeIn K a).any fun t => t != .type "function" && t != .type "method_descriptor" && t != .type "wrapper_descriptor") = true)
    (h : wpAny (model prog w) A (getAttr (.ref a) name) (fun v => Q (v, [])) E s) : wpAny (model prog w) A (getMethod (.ref a) name pl) Q E s := by
  obtain ⟨dx, es, n, I, F⟩ := S.inst hi
  exact method_usual (inK O S) I (plainGet_of hg).1 (plainGet_of hg).2 hf ht h
theorem methUsualT {a C : Addr} {fs : Loc} {name : Str} {v t : Value} {pl : Sem Bool} {Q : Value × List Value → Shared → Prop} (O : Ok K T A c d u) (S : St c m H s) (hi : H.obj a = some (.inst C fs))
    (hg : plainGet K C name = true) (hf : findIn K (.ref C) name = some (some v)) (ht : typeOf v = pure t) (hn : (t != .type "function" && t != .type "method_descriptor" && t != .type "wrapper_descriptor") = true)
    (h : wpAny (model prog w) A (getAttr (.ref a) name) (fun v => Q (v, [])) E s) : wpAny (model prog w) A (getMethod (.ref a) name pl) Q E s := by
  obtain ⟨dx, es, n, I, F⟩ := S.inst hi
  have X := inK O S
  have hcan := PySem.F.canon_object_ga
  have u : wpAny (model prog w) A (do return (← getAttr (.ref a) name, ([] : List Value))) Q E s := wpAny_bind (wpAny_mono h (fun _ _ z => wpAny_pure z) fun _ _ z => z)
  unfold getMethod specialOf
  refine wpAny_bind (wpAny_bind (I.type.here ((looks_findIn X (plainGet_of hg).1).here ?_)))
  dsimp only
  rw [hcan, if_neg (by decide)]
  refine wpAny_bind (wpAny_bind (I.type.here ((looks_findIn X (plainGet_of hg).2).here ?_)))
  refine wpAny_bind (wpAny_bind (I.type.here ((looks_findIn X hf).here ?_)))
  refine wpAny_bind ((Looks.of_pure (M := model prog w) (h := s.heap) ht).here ?_)
  rw [if_pos hn]; exact u
open Builtin Builtin.ObjectAttr Builtin.Getset_descriptor in
/-- an attribute of the class that is a built-in type -/
theorem attrClsT {a C : Addr} {fs : Loc} {name : Str} {v t : Value} {expr : Bool} {Q : Value → Shared → Prop} (O : Ok K T A c d u) (S : St c m H s) (hi : H.obj a = some (.inst C fs)) (hl : fs.lookup name = none)
    (hg : plainGet K C name = true) (hh : hasDictIn K C = true) (ha : findIn K (.ref C) name = some (some v)) (ht : typeOf v = pure t) (hn : typeLookup t "__get__" = pure none) (hv : handedIn v = true) (hc : copiedNames.contains name = false) (h : ∀ s', St c m H s' → Q v s') :
    wpAny (model prog w) A (getAttr (.ref a) name expr) Q E s := by
  obtain ⟨dx, es, n, I, F⟩ := S.inst hi
  have X := inK O S
  obtain ⟨cd, hcd, hd⟩ := any_some hh
  have ho : W.ownOf cd (some (dictOf es n)) name = some none := by
    unfold W.ownOf; rw [if_pos hd]; show lookIn name _ = _; rw [lookIn_dict, getL_flds name F, hl]
  have L2 : Looks (model prog w) s.heap (getOf (some v)) none := (Looks.of_pure ht).andThen (Looks.of_pure hn)
  have L1 : Looks (model prog w) s.heap (find (.ref a) (.ref C) name) (.value v) := by
    refine (looks_findIn X ha).andThen (L2.andThen (Looks.now.andThen ((looks_own X I hcd ho).andThen ?_)))
    have G : Looks (model prog w) s.heap (copiedAttributeGuard name (.ref a)) () := by
      unfold copiedAttributeGuard
      dsimp only
      split
      · rename_i q2
        have q2 : copiedNames.contains name = true := q2
        rw [hc] at q2; cases q2
      · exact .now
    exact G.andThen (Looks.tag ((Looks.of_pure (handedOut_of hv)).andThen .now))
  refine get_open X I (plainGet_of hg).1 ?_
  obtain ⟨hh', g, dr, t', os⟩ := s
  have L0 := I.type (M := model prog w)
  refine wpAny_bind (wpAny_pure (wpAny_bind (L0.at (wpAny_bind (L1.at ?_)))))
  refine wpAny_pure ?_
  show wpAny _ _ (handedOut v) _ _ _
  rw [handedOut_of hv]; exact wpAny_pure (h _ (S.toks _))
end
theorem typeOf_list : typeOf (.type "list") = pure (.type "type") := by kernel_rfl
theorem typeLookup_type_get : typeLookup (.type "type") "__get__" = pure none := by rw [typeLookup_type, builtinLookup_eq_fast]; kernel_rfl
end

section
theorem St.isList {c : Cx} {m : Loc} {H : AH} {s : Shared} (S : St c m H s) {l : Addr} {xs : List Value} (h : H.obj l = some (.list xs)) : s.heap.IsList l xs.toArray := by
  obtain ⟨D, R⟩ := S.rep
  obtain ⟨⟨n, x⟩, _⟩ := R.at_ l _ h
  exact ⟨_, x, rfl, n, rfl⟩
theorem St.raw {c : Cx} {m : Loc} {H : AH} {s : Shared} (S : St c m H s) {l : Addr} {o : Obj} (h : H.obj l = some (.raw o)) : s.heap.get? l = some o := by
  obtain ⟨D, R⟩ := S.rep
  exact (R.at_ l _ h).1
abbrev tupO (xs : List Value) : Obj := { cls := .type "tuple", data := .seq xs.toArray }
theorem St.isTup {c : Cx} {m : Loc} {H : AH} {s : Shared} (S : St c m H s) {l : Addr} {xs : List Value} (h : H.obj l = some (.raw (tupO xs))) : IsTup s.heap l xs.toArray := ⟨_, S.raw h, rfl, _, rfl⟩
section
variable {prog : Program} {w : World} {K : Frag} {T : Tp} {A : Around} {c : Cx} {m : Loc} {H : AH} {s : Shared} {E : Value → Shared → Prop} {d u : Nat} {env : Env} {a b : Int} {ta tb : Tok}
section
variable {Q : Value → Shared → Prop}
theorem addI (S : St c m H s) (h : ∀ tk s', St c m H s' → Q (.int (a + b) tk) s') : wpAny (model prog w) A (binaryOp .Add (.int a ta) (.int b tb)) Q E s := add_int (h _ _ (S.toks _))
theorem iaddI (S : St c m H s) (h : ∀ tk s', St c m H s' → Q (.int (a + b) tk) s') : wpAny (model prog w) A (inplaceOp .Add (.int a ta) (.int b tb)) Q E s := iadd_int (h _ _ (S.toks _))
theorem subI (S : St c m H s) (h : ∀ tk s', St c m H s' → Q (.int (a - b) tk) s') : wpAny (model prog w) A (binaryOp .Sub (.int a ta) (.int b tb)) Q E s := sub_int (h _ _ (S.toks _))
theorem isubI (S : St c m H s) (h : ∀ tk s', St c m H s' → Q (.int (a - b) tk) s') : wpAny (model prog w) A (inplaceOp .Sub (.int a ta) (.int b tb)) Q E s := isub_int (h _ _ (S.toks _))
theorem mulI (S : St c m H s) (hm : IntMulOk a b) (h : ∀ tk s', St c m H s' → Q (.int (a * b) tk) s') : wpAny (model prog w) A (binaryOp .Mult (.int a ta) (.int b tb)) Q E s := mul_int (h _ _ (S.toks _)) hm
theorem modI (S : St c m H s) (hb : b ≠ 0) (h : ∀ tk s', St c m H s' → Q (.int (a.fmod b) tk) s') : wpAny (model prog w) A (binaryOp .Mod (.int a ta) (.int b tb)) Q E s := mod_int' hb (h _ _ (S.toks _))
theorem divI (S : St c m H s) (hb : b ≠ 0) (hp : Builtin.divisionGoesByPylong a b = false ∨ PySem.PylongRoom (model prog w) A s) (h : ∀ tk s', St c m H s' → Q (.int (a.fdiv b) tk) s') : wpAny (model prog w) A (binaryOp .FloorDiv (.int a ta) (.int b tb)) Q E s := floordiv_int hb (h _ _ (S.toks _)) hp
theorem negI (S : St c m H s) (h : ∀ tk s', St c m H s' → Q (.int (-a) tk) s') : wpAny (model prog w) A (unaryOp .USub (.int a ta)) Q E s := neg_int (h _ _ (S.toks _))
end

section
variable {Q : Value → Shared → Prop}
theorem newListS {vs : List Value} (S : St c m H s) (hsz : vs.length ≤ sizeLine) (h : ∀ l s', H.obj l = none → St c m (H.set l (.list vs)) s' → Q (.ref l) s') : wpAny (model prog w) A (newList vs) Q E s := by
  obtain ⟨hp, g, dr, t, os⟩ := s
  unfold newList newObj
  dsimp only
  have hs : ¬ (vs.toArray.size > sizeLine) := by simpa using hsz
  rw [if_neg hs]
  unfold newObjAsIs
  refine wpAny_bind (wpAny_alloc ?_)
  refine wpAny_pure ?_
  exact h _ _ S.fresh (S.push _ (by intro _ _ q; cases q) (fun _ e => ⟨0, e⟩))
theorem newTupleS {vs : List Value} (S : St c m H s) (hsz : vs.length ≤ sizeLine) (h : ∀ l s', H.obj l = none → St c m (H.set l (.raw (tupO vs))) s' → Q (.ref l) s') : wpAny (model prog w) A (newTuple vs) Q E s := by
  obtain ⟨hp, g, dr, t, os⟩ := s
  unfold newTuple newObj
  dsimp only
  have hs : ¬ (vs.toArray.size > sizeLine) := by simpa using hsz
  rw [if_neg hs]
  unfold newObjAsIs
  refine wpAny_bind (wpAny_alloc ?_)
  refine wpAny_pure ?_
  exact h _ _ S.fresh (S.push _ (by intro _ _ q; cases q) (fun _ e => e))
theorem appendS {l : Addr} {xs : List Value} {x : Value} (S : St c m H s) (hl : H.obj l = some (.list xs)) (hsz : xs.length ≤ sizeLine) (h : ∀ s', St c m (H.set l (.list (xs ++ [x]))) s' → Q .none s') :
    wpAny (model prog w) A (call (.builtin "list.append") [.ref l, x]) Q E s := by
  obtain ⟨D, R⟩ := S.rep
  obtain ⟨⟨n, e⟩, _⟩ := R.at_ l _ hl
  refine append_at (hsz := by simpa using hsz) e fun h' hs ho' => ?_
  exact h _ (S.change (tk := s.toks) hl (by intro _ _ q; cases q) hs fun D => ⟨n + 1, by rw [ho']; simp⟩)
theorem lenListS {l : Addr} {xs : List Value} (S : St c m H s) (hl : H.obj l = some (.list xs)) (hsz : xs.length ≤ sizeLine) (h : ∀ tk s', St c m H s' → Q (.int xs.length tk) s') :
    wpAny (model prog w) A (call (.builtin "len") [.ref l]) Q E s := by
  refine len_list (S.isList hl) ?_ ?_
  · have : (2:Nat) ^ 24 < 2 ^ 63 := by decide
    have h2 : sizeLine = 2 ^ 24 := rfl
    simp only [List.size_toArray]; omega
  · simp only [List.size_toArray]; exact h _ _ (S.toks _)
theorem lenTupS {l : Addr} {xs : List Value} (S : St c m H s) (hl : H.obj l = some (.raw (tupO xs))) (hsz : xs.length ≤ sizeLine) (h : ∀ tk s', St c m H s' → Q (.int xs.length tk) s') :
    wpAny (model prog w) A (call (.builtin "len") [.ref l]) Q E s := by
  refine len_tuple (S.isTup hl) ?_ ?_
  · have : (2:Nat) ^ 24 < 2 ^ 63 := by decide
    have h2 : sizeLine = 2 ^ 24 := rfl
    simp only [List.size_toArray]; omega
  · simp only [List.size_toArray]; exact h _ _ (S.toks _)
theorem itemListS {value slice : Expr} {l : Addr} {xs : List Value} {k : Int} {u : Tok} {x : Value} (S : St c m H s) (hl : H.obj l = some (.list xs)) (h0 : 0 ≤ k) (hk : k < 2 ^ 63) (hx : xs[k.toNat]? = some x) (h : Q x s)
    (hs : subscripted slice false (.ref l) (.int k u) = operate [.ref l, .int k u] (getItem (.ref l) (.int k u)) := by with_unfolding_all rfl) :
    wpAny (model prog w) A (subscriptTail value slice (.ref l) (.int k u)) Q E s :=
  tail_any (S.isList hl).typeIs slot_list_getitem.lookup (wpAny_getItem_list (S.isList hl) h0 hk (by simpa using hx) h) hs
theorem itemTupS {value slice : Expr} {l : Addr} {xs : List Value} {k : Int} {u : Tok} {x : Value} (S : St c m H s) (hl : H.obj l = some (.raw (tupO xs))) (h0 : 0 ≤ k) (hk : k < 2 ^ 63) (hx : xs[k.toNat]? = some x) (h : Q x s)
    (hs : subscripted slice false (.ref l) (.int k u) = operate [.ref l, .int k u] (getItem (.ref l) (.int k u)) := by with_unfolding_all rfl) :
    wpAny (model prog w) A (subscriptTail value slice (.ref l) (.int k u)) Q E s := by
  have hlt : k.toNat < xs.length := by
    rcases Nat.lt_or_ge k.toNat xs.length with q | q
    · exact q
    · rw [List.getElem?_eq_none q] at hx; cases hx
  refine item_tupleT (S.isTup hl) (by omega) hk (j := k.toNat) ?_ (by simpa using hx) h hs
  unfold seqIndex?
  simp only [List.size_toArray]
  have h1 : ¬ k < 0 := by omega
  simp only [h1, if_false]
  have h2 : 0 ≤ k ∧ k < xs.length := by omega
  simp [h2]
end
end
end

section
abbrev litO (l : Addr) (i : Nat) : AO := .fld (.type "list_iterator") [.ref l, .int i 0]
abbrev titO (l : Addr) (i : Nat) : AO := .fld (.type "tuple_iterator") [.ref l, .int i 0]
abbrev ritO (x left : Int) : AO := .raw { cls := .type "range_iterator", dict := none, data := .fields #[rawInt x, rawInt left, rawInt 1], slots := #[] }
/-- the end of a turn -/
def Tn (I : Shared → Prop) (R : Result → Shared → Prop) (f : Flow) (s : Shared) : Prop :=
  match f with
  | .next | .cont => I s
  | .brk => R (.ok .next) s
  | .ret v => R (.ok (.ret v)) s
section
variable {I : Shared → Prop} {R : Result → Shared → Prop} {s : Shared}
theorem tn_next (h : I s) : Tn I R .next s := h
theorem tn_cont (h : I s) : Tn I R .cont s := h
theorem tn_brk (h : R (.ok .next) s) : Tn I R .brk s := h
theorem tn_ret {v : Value} (h : R (.ok (.ret v)) s) : Tn I R (.ret v) s := h
end
/-- what a loop hands on -/
def Lr (M : Model) (A : Around) (env : Env) (rest : List Stmt) (Q : Flow → Shared → Prop) (E : Value → Shared → Prop) (r : Result) (s : Shared) : Prop :=
  match r with
  | .ok f => Nx M A env rest Q E f s
  | .error e => cameBackBy M A env E e s
section
variable {M : Model} {A : Around} {env : Env} {rest : List Stmt} {E : Value → Shared → Prop} {s : Shared} {Q : Flow → Shared → Prop}
theorem lr_next (h : wpAny M A (execs rest env) Q E s) : Lr M A env rest Q E (.ok .next) s := h
theorem lr_ret {v : Value} (h : Q (.ret v) s) : Lr M A env rest Q E (.ok (.ret v)) s := h
theorem lr_err {e : Value} (h : cameBackBy M A env E e s) : Lr M A env rest Q E (.error e) s := h
theorem ex_for {target iter body orelse pos} (h : wpAny M A (eval iter env) (fun x s₁ => wpAny M A (pyIter x) (fun it s₂ =>
      codeAny M A (.forLoop target it body orelse env) (Lr M A env rest Q E) s₂) E s₁) E s)
    (hs : ∀ x, foldedSetIterable iter env x = pure x := by intro _; with_unfolding_all rfl) :
    wpAny M A (execs (.For target iter body orelse pos :: rest) env) Q E s :=
  ex_cons (wpAny_For (wpAny_mono h (fun x s₁ h₁ => wpAny_mono h₁ (fun it s₂ h₂ => codeAny_mono h₂ fun r s₃ h₃ => by cases r <;> exact h₃) fun _ _ x => x) fun _ _ x => x) hs)
theorem ex_while {test body orelse pos} (h : codeAny M A (.whileLoop test body orelse env) (Lr M A env rest Q E) s) :
    wpAny M A (execs (.While test body orelse pos :: rest) env) Q E s :=
  ex_cons (wpAny_While (codeAny_mono h fun r s₃ h₃ => by cases r <;> exact h₃))
end

section
variable {prog : Program} {w : World} {K : Frag} {T : Tp} {A : Around} {c : Cx} {m : Loc} {H : AH} {s : Shared} {E : Value → Shared → Prop} {d u : Nat} {R : Result → Shared → Prop}
theorem iterList {l : Addr} {xs : List Value} {Q : Value → Shared → Prop} (S : St c m H s) (hl : H.obj l = some (.list xs)) (h : ∀ it s', H.obj it = none → St c m (H.set it (litO l 0)) s' → Q (.ref it) s') : wpAny (model prog w) A (pyIter (.ref l)) Q E s := by
  refine wpAny_pyIter_list (S.isList hl) ?_
  obtain ⟨hp, g, dr, t, os⟩ := s
  exact h _ _ S.fresh (S.push _ (by intro _ _ q; cases q) fun D e => ⟨_, e, rfl, rfl⟩)
theorem iterTup {l : Addr} {xs : List Value} {Q : Value → Shared → Prop} (S : St c m H s) (hl : H.obj l = some (.raw (tupO xs))) (h : ∀ it s', H.obj it = none → St c m (H.set it (titO l 0)) s' → Q (.ref it) s') : wpAny (model prog w) A (pyIter (.ref l)) Q E s := by
  refine wpAny_pyIter_tuple (items := xs.toArray) ?_ ?_
  · obtain ⟨o, a, b, n, e⟩ := S.isTup hl; exact ⟨o, a, b, n, e⟩
  obtain ⟨hp, g, dr, t, os⟩ := s
  exact h _ _ S.fresh (S.push _ (by intro _ _ q; cases q) fun D e => ⟨_, e, rfl, rfl⟩)
theorem callRange1 {n : Int} {t : Tok} {Q : Value → Shared → Prop} (S : St c m H s) (h : ∀ r a b v s', IsRange s'.heap r 0 n 1 a b v → St c m H s' → Q (.ref r) s') : wpAny (model prog w) A (call (.type "range") [.int n t]) Q E s := by
  refine call_range_1 ?_
  obtain ⟨hp, g, dr, t', os⟩ := s
  exact h _ _ _ _ _ (IsRange.new ..) (S.grown (tk := t' + 1 + 1) fun b o e => Heap.get?_push_of_some _ e)
theorem callRange2 {a n : Int} {t t₂ : Tok} {Q : Value → Shared → Prop} (S : St c m H s) (h : ∀ r x b v s', IsRange s'.heap r a n 1 x b v → St c m H s' → Q (.ref r) s') : wpAny (model prog w) A (call (.type "range") [.int a t, .int n t₂]) Q E s := by
  refine call_range_2 ?_
  obtain ⟨hp, g, dr, t', os⟩ := s
  exact h _ _ _ _ _ (IsRange.new ..) (S.grown (tk := t' + 1) fun b o e => Heap.get?_push_of_some _ e)
theorem small_range {a b : Int} (ha : -1000000 ≤ a ∧ a ≤ 1000000) (hb : -1000000 ≤ b ∧ b ≤ 1000000) : Builtin.Range.small a b 1 = true := by
  unfold Builtin.Range.small Builtin.Range.rangeFitsLong
  rw [rangeSize_one]
  have e1 : (1 : Int) > 0 := by decide
  simp only [e1, if_true]
  split <;> simp <;> omega
theorem iterRange {r : Addr} {a b : Int} {t₁ t₂ t₃ : Tok} {Q : Value → Shared → Prop} (S : St c m H s) (hr : IsRange s.heap r a b 1 t₁ t₂ t₃) (ha : -1000000 ≤ a ∧ a ≤ 1000000) (hb : -1000000 ≤ b ∧ b ≤ 1000000)
    (h : ∀ it s', H.obj it = none → St c m (H.set it (ritO a (if a < b then b - a else 0))) s' → Q (.ref it) s') : wpAny (model prog w) A (pyIter (.ref r)) Q E s := by
  refine wpAny_pyIter_range hr (small_range ha hb) ?_
  rw [rangeSize_one]
  obtain ⟨hp, g, dr, t, os⟩ := s
  exact h _ _ S.fresh (S.push _ (by intro _ _ q; cases q) fun D e => e)

/-- drawing from the iterators -/
theorem nextList {it l : Addr} {i : Nat} {xs : List Value} {Q : Option Value → Shared → Prop} (hh : A.handled = none) (S : St c m H s) (hi : H.obj it = some (litO l i)) (hl : H.obj l = some (.list xs))
    (item : ∀ v, xs[i]? = some v → ∀ s', St c m (H.set it (litO l (i + 1))) s' → Q (some v) s') (fin : xs[i]? = none → ∀ s', St c m (H.del it) s' → Q none s') :
    wpAny (model prog w) A (pyNext (.ref it)) Q E s := by
  have hI : s.heap.IsListIter it l i := by
    obtain ⟨D, R⟩ := S.rep
    obtain ⟨⟨o, a, b, c⟩, _⟩ := R.at_ it _ hi
    exact ⟨o, a, b, c⟩
  cases q : xs[i]? with
  | some v =>
    refine wpAny_pyNext_list_item hI (S.isList hl) (by simpa using q) fun h' hI' hs => item v q _ ?_
    exact S.change (tk := s.toks) hi (by intro _ _ q; cases q) hs fun D => let ⟨o, a, b, c⟩ := hI'; ⟨o, a, b, c⟩
  | none =>
    refine wpAny_pyNext_list_end hh hI (S.isList hl) (by simpa using q) fun h' hs => fin q _ ?_
    exact S.drop (tk := s.toks) hi (by intro _ _ q; cases q) fun b o hb e => hs b o hb e
theorem nextTup {it l : Addr} {i : Nat} {xs : List Value} {Q : Option Value → Shared → Prop} (hh : A.handled = none) (S : St c m H s) (hi : H.obj it = some (titO l i)) (hl : H.obj l = some (.raw (tupO xs)))
    (item : ∀ v, xs[i]? = some v → ∀ s', St c m (H.set it (titO l (i + 1))) s' → Q (some v) s') (fin : xs[i]? = none → ∀ s', St c m (H.del it) s' → Q none s') :
    wpAny (model prog w) A (pyNext (.ref it)) Q E s := by
  have hI : s.heap.IsTupleIter it l i := by
    obtain ⟨D, R⟩ := S.rep
    obtain ⟨⟨o, a, b, c⟩, _⟩ := R.at_ it _ hi
    exact ⟨o, a, b, c⟩
  have hT : s.heap.IsTuple l xs.toArray := by obtain ⟨o, a, b, n, e⟩ := S.isTup hl; exact ⟨o, a, b, n, e⟩
  cases q : xs[i]? with
  | some v =>
    refine wpAny_pyNext_tuple_item hI hT (by simpa using q) fun h' hI' hs => item v q _ ?_
    exact S.change (tk := s.toks) hi (by intro _ _ q; cases q) hs fun D => let ⟨o, a, b, c⟩ := hI'; ⟨o, a, b, c⟩
  | none =>
    refine wpAny_pyNext_tuple_end hh hI hT (by simpa using q) fun h' hs => fin q _ ?_
    exact S.drop (tk := s.toks) hi (by intro _ _ q; cases q) fun b o hb e => hs b o hb e
theorem nextRange {it : Addr} {x left : Int} {Q : Option Value → Shared → Prop} (hh : A.handled = none) (S : St c m H s) (hi : H.obj it = some (ritO x left))
    (item : 0 < left → ∀ tk s', St c m (H.set it (ritO (x + 1) (left - 1))) s' → Q (some (.int x tk)) s') (fin : left ≤ 0 → ∀ s', St c m (H.del it) s' → Q none s') :
    wpAny (model prog w) A (pyNext (.ref it)) Q E s := by
  have hI : IsRangeIter s.heap it x left 1 := S.raw hi
  by_cases q : 0 < left
  · refine wpAny_pyNext_range_item hI q fun h' hI' hs => item q _ _ ?_
    exact S.change (tk := s.toks + 1) hi (by intro _ _ q; cases q) hs fun D => hI'
  · refine wpAny_pyNext_range_end hh hI (by omega) fun h' hs => fin (by omega) _ ?_
    exact S.drop (tk := s.toks) hi (by intro _ _ q; cases q) fun b o hb e => hs b o hb e

abbrev Ne' (prog : Program) (w : World) (A : Around) (env : Env) (R : Result → Shared → Prop) : Value → Shared → Prop := notedBy (model prog w) A env fun e s' => R (.error e) s'

theorem loopList {it l : Addr} {xs : List Value} {target : Expr} {body orelse : List Stmt} (hh : A.handled = none) (J : Nat → Loc → AH → Prop)
    (inv : ∀ i m H, J i m H → H.obj it = some (litO l i) ∧ H.obj l = some (.list xs))
    (turn : ∀ i v m H s, i < xs.length → xs[i]? = some v → J i m H → St c m (H.set it (litO l (i + 1))) s →
      wpAny (model prog w) A (assign target c.env v) (fun _ s₂ => wpAny (model prog w) A (execs body c.env) (Tn (fun s => ∃ m H, J (i + 1) m H ∧ St c m H s) R) (Ne' prog w A c.env R) s₂) (Ne' prog w A c.env R) s)
    (fin : ∀ m H s, J xs.length m H → St c m (H.del it) s → wpAny (model prog w) A (execs orelse c.env) (fun f s₃ => R (.ok f) s₃) (Ne' prog w A c.env R) s)
    (h0 : J 0 m H) (S : St c m H s) (ht : ∀ v, letOwnedTupleGo target (.ref it) v = pure () := by intro _; rfl) : codeAny (model prog w) A (.forLoop target (.ref it) body orelse c.env) R s := by
  refine codeAny_forLoop (fun n s => ∃ i m H, i ≤ xs.length ∧ n = xs.length - i ∧ J i m H ∧ St c m H s) ?_ xs.length ⟨0, m, H, Nat.zero_le _, rfl, h0, S⟩ ht
  rintro n s ⟨i, m, H, hi, rfl, hJ, S⟩
  obtain ⟨i1, i2⟩ := inv i m H hJ
  refine nextList hh S i1 i2 (fun v hv s' S' => ?_) (fun hv s' S' => ?_)
  · have hlt : i < xs.length := by
      rcases Nat.lt_or_ge i xs.length with q | q
      · exact q
      · rw [List.getElem?_eq_none q] at hv; cases hv
    refine wpAny_mono (turn i v m H s' hlt hv hJ S') (fun _ s₂ h₂ => wpAny_mono h₂ (fun f s₃ h₃ => ?_) fun _ _ x => x) fun _ _ x => x
    cases f with
    | next => obtain ⟨m', H', j, S''⟩ := h₃; exact ⟨_, by omega, i + 1, m', H', hlt, rfl, j, S''⟩
    | cont => obtain ⟨m', H', j, S''⟩ := h₃; exact ⟨_, by omega, i + 1, m', H', hlt, rfl, j, S''⟩
    | brk => exact h₃
    | ret v => exact h₃
  · have hge : i = xs.length := by
      rcases Nat.lt_or_ge i xs.length with q | q
      · rw [List.getElem?_eq_getElem q] at hv; cases hv
      · omega
    exact fin m H s' (hge ▸ hJ) S'
theorem loopTup {it l : Addr} {xs : List Value} {target : Expr} {body orelse : List Stmt} (hh : A.handled = none) (J : Nat → Loc → AH → Prop)
    (inv : ∀ i m H, J i m H → H.obj it = some (titO l i) ∧ H.obj l = some (.raw (tupO xs)))
    (turn : ∀ i v m H s, i < xs.length → xs[i]? = some v → J i m H → St c m (H.set it (titO l (i + 1))) s →
      wpAny (model prog w) A (assign target c.env v) (fun _ s₂ => wpAny (model prog w) A (execs body c.env) (Tn (fun s => ∃ m H, J (i + 1) m H ∧ St c m H s) R) (Ne' prog w A c.env R) s₂) (Ne' prog w A c.env R) s)
    (fin : ∀ m H s, J xs.length m H → St c m (H.del it) s → wpAny (model prog w) A (execs orelse c.env) (fun f s₃ => R (.ok f) s₃) (Ne' prog w A c.env R) s)
    (h0 : J 0 m H) (S : St c m H s) (ht : ∀ v, letOwnedTupleGo target (.ref it) v = pure () := by intro _; rfl) : codeAny (model prog w) A (.forLoop target (.ref it) body orelse c.env) R s := by
  refine codeAny_forLoop (fun n s => ∃ i m H, i ≤ xs.length ∧ n = xs.length - i ∧ J i m H ∧ St c m H s) ?_ xs.length ⟨0, m, H, Nat.zero_le _, rfl, h0, S⟩ ht
  rintro n s ⟨i, m, H, hi, rfl, hJ, S⟩
  obtain ⟨i1, i2⟩ := inv i m H hJ
  refine nextTup hh S i1 i2 (fun v hv s' S' => ?_) (fun hv s' S' => ?_)
  · have hlt : i < xs.length := by
      rcases Nat.lt_or_ge i xs.length with q | q
      · exact q
      · rw [List.getElem?_eq_none q] at hv; cases hv
    refine wpAny_mono (turn i v m H s' hlt hv hJ S') (fun _ s₂ h₂ => wpAny_mono h₂ (fun f s₃ h₃ => ?_) fun _ _ x => x) fun _ _ x => x
    cases f with
    | next => obtain ⟨m', H', j, S''⟩ := h₃; exact ⟨_, by omega, i + 1, m', H', hlt, rfl, j, S''⟩
    | cont => obtain ⟨m', H', j, S''⟩ := h₃; exact ⟨_, by omega, i + 1, m', H', hlt, rfl, j, S''⟩
    | brk => exact h₃
    | ret v => exact h₃
  · have hge : i = xs.length := by
      rcases Nat.lt_or_ge i xs.length with q | q
      · rw [List.getElem?_eq_getElem q] at hv; cases hv
      · omega
    exact fin m H s' (hge ▸ hJ) S'
/-- over range: a, a + 1, .. -/
theorem loopRange {it : Addr} {a : Int} {N : Nat} {target : Expr} {body orelse : List Stmt} (hh : A.handled = none) (J : Nat → Loc → AH → Prop)
    (inv : ∀ i m H, J i m H → H.obj it = some (ritO (a + i) ((N : Int) - i)))
    (turn : ∀ i tk m H s, i < N → J i m H → St c m (H.set it (ritO (a + (i + 1 : Nat)) ((N : Int) - (i + 1 : Nat)))) s →
      wpAny (model prog w) A (assign target c.env (.int (a + i) tk)) (fun _ s₂ => wpAny (model prog w) A (execs body c.env) (Tn (fun s => ∃ m H, J (i + 1) m H ∧ St c m H s) R) (Ne' prog w A c.env R) s₂) (Ne' prog w A c.env R) s)
    (fin : ∀ m H s, J N m H → St c m (H.del it) s → wpAny (model prog w) A (execs orelse c.env) (fun f s₃ => R (.ok f) s₃) (Ne' prog w A c.env R) s)
    (h0 : J 0 m H) (S : St c m H s) (ht : ∀ v, letOwnedTupleGo target (.ref it) v = pure () := by intro _; rfl) : codeAny (model prog w) A (.forLoop target (.ref it) body orelse c.env) R s := by
  refine codeAny_forLoop (fun n s => ∃ i m H, i ≤ N ∧ n = N - i ∧ J i m H ∧ St c m H s) ?_ N ⟨0, m, H, Nat.zero_le _, rfl, h0, S⟩ ht
  rintro n s ⟨i, m, H, hi, rfl, hJ, S⟩
  have i1 := inv i m H hJ
  refine nextRange hh S i1 (fun hv tk s' S' => ?_) (fun hv s' S' => ?_)
  · have hlt : i < N := by omega
    have e : ritO (a + ↑i + 1) (↑N - ↑i - 1) = ritO (a + (i + 1 : Nat)) ((N : Int) - (i + 1 : Nat)) := by
      rw [show a + (i : Int) + 1 = a + ((i + 1 : Nat) : Int) by omega, show (N : Int) - i - 1 = (N : Int) - ((i + 1 : Nat) : Int) by omega]
    rw [e] at S'
    refine wpAny_mono (turn i tk m H s' hlt hJ S') (fun _ s₂ h₂ => wpAny_mono h₂ (fun f s₃ h₃ => ?_) fun _ _ x => x) fun _ _ x => x
    cases f with
    | next => obtain ⟨m', H', j, S''⟩ := h₃; exact ⟨_, by omega, i + 1, m', H', hlt, rfl, j, S''⟩
    | cont => obtain ⟨m', H', j, S''⟩ := h₃; exact ⟨_, by omega, i + 1, m', H', hlt, rfl, j, S''⟩
    | brk => exact h₃
    | ret v => exact h₃
  · have hge : i = N := by omega
    exact fin m H s' (hge ▸ hJ) S'

/-- a while by a measure -/
theorem loopWhile {test : Expr} {body orelse : List Stmt} (J : Nat → Loc → AH → Prop)
    (turn : ∀ n m H s, J n m H → St c m H s →
      wpAny (model prog w) A (isTrue test c.env (eval test c.env)) (fun b s₂ =>
        if b = true then wpAny (model prog w) A (execs body c.env) (Tn (fun s => ∃ n' m H, n' < n ∧ J n' m H ∧ St c m H s) R) (Ne' prog w A c.env R) s₂
        else wpAny (model prog w) A (execs orelse c.env) (fun f s₃ => R (.ok f) s₃) (Ne' prog w A c.env R) s₂) (Ne' prog w A c.env R) s)
    {n : Nat} (h0 : J n m H) (S : St c m H s) : codeAny (model prog w) A (.whileLoop test body orelse c.env) R s := by
  refine codeAny_whileLoop (fun n s => ∃ m H, J n m H ∧ St c m H s) ?_ n ⟨m, H, h0, S⟩
  rintro n s ⟨m, H, hJ, S⟩
  refine wpAny_mono (turn n m H s hJ S) (fun b s₂ h₂ => ?_) fun _ _ x => x
  cases b with
  | false => simpa using h₂
  | true =>
    simp only [if_true] at h₂ ⊢
    refine wpAny_mono h₂ (fun f s₃ h₃ => ?_) fun _ _ x => x
    cases f with
    | next => obtain ⟨n', m', H', lt, j, S''⟩ := h₃; exact ⟨n', lt, m', H', j, S''⟩
    | cont => obtain ⟨n', m', H', lt, j, S''⟩ := h₃; exact ⟨n', lt, m', H', j, S''⟩
    | brk => exact h₃
    | ret v => exact h₃
theorem asName {x : Str} {pos : Pos} {v : Value} {Q : Unit → Shared → Prop} (h : wpAny (model prog w) A (storeName c.env x v) Q E s) : wpAny (model prog w) A (assign (.Name x pos) c.env v) Q E s := wpAny_assign_Name h
end
end

section
section
variable {prog : Program} {w : World} {K : Frag} {T : Tp} {A : Around} {c : Cx} {m : Loc} {H : AH} {s : Shared} {E : Value → Shared → Prop} {d u : Nat} {R : Result → Shared → Prop}
theorem St.listAt {l : Addr} {xs : List Value} (S : St c m H s) (hl : H.obj l = some (.list xs)) : ∃ n, s.heap.get? l = some (listOf xs.toArray n) := by
  obtain ⟨D, R⟩ := S.rep
  exact (R.at_ l _ hl).1
theorem St.updSeq {l : Addr} {xs ys : List Value} (S : St c m H s) (hl : H.obj l = some (.list xs)) (f : Array Value → Array Value) (hf : f xs.toArray = ys.toArray) (tk : Nat) :
    St c m (H.set l (.list ys)) { s with heap := s.heap.update l (Obj.mapSeq f), toks := tk } := by
  obtain ⟨n, ho⟩ := S.listAt hl
  refine S.change hl (by intro _ _ q; cases q) (Heap.SameBut.update ..) fun D => ?_
  have q := PySem.IsL.update ho f
  rw [hf] at q
  exact ⟨_, q⟩
section
variable {Q : Value → Shared → Prop}
theorem methList {name : Str} {id : String} {pl : Sem Bool} {l : Addr} {xs : List Value} {Q : Value × List Value → Shared → Prop} (S : St c m H s) (hl : H.obj l = some (.list xs)) (slot : Slot "list" name id) (hty : typeOf (.builtin id) = pure (.type "method_descriptor"))
    (h : Q (.builtin id, [.ref l]) s) : wpAny (model prog w) A (getMethod (.ref l) name pl) Q E s := by
  obtain ⟨n, ho⟩ := S.listAt hl
  exact getMethod_builtin ⟨_, ho, rfl⟩ PySem.F.plainAttrs_list slot hty (fun a e => by cases e; exact ⟨_, ho, rfl⟩) h
theorem popS {l : Addr} {xs : List Value} {y : Value} (S : St c m H s) (hl : H.obj l = some (.list (xs ++ [y]))) (hz : (xs ++ [y]).length ≤ sizeLine) (h : ∀ s', St c m (H.set l (.list xs)) s' → Q y s') :
    wpAny (model prog w) A (call (.builtin "list.pop") [.ref l]) Q E s := by
  obtain ⟨n, ho⟩ := S.listAt hl
  have hk : (xs ++ [y]).toArray.size - 1 = xs.length := by rw [List.size_toArray, List.length_append]; rfl
  have hy : (xs ++ [y]).toArray[(xs ++ [y]).toArray.size - 1]? = some y := by rw [hk]; simp
  refine call_meets PySem.F.slot_list_pop ⟨_, ho, rfl⟩ PySem.F.entry_list_pop (PySem.F.args_list_pop_1 _) (PySem.MeetsSeq.list_pop_last l _ n y hy (by rw [List.size_toArray]; exact hz)) ⟨ho, h _ (S.updSeq hl _ ?_ s.toks)⟩
  show (xs ++ [y]).toArray.eraseIdxIfInBounds ((xs ++ [y]).toArray.size - 1) = xs.toArray
  rw [hk, kl_erase, List.append_nil]
theorem setItemS {l : Addr} {xs : List Value} {k : Int} {t : Tok} {v : Value} {Q : Unit → Shared → Prop} (S : St c m H s) (hl : H.obj l = some (.list xs)) (h0 : 0 ≤ k) (hn : k < xs.length) (hz : xs.length ≤ sizeLine)
    (h : ∀ s', St c m (H.set l (.list (xs.set k.toNat v))) s' → Q () s') : wpAny (model prog w) A (setItem (.ref l) (.int k t) v) Q E s := by
  obtain ⟨n, ho⟩ := S.listAt hl
  have h2 : sizeLine = 2 ^ 24 := rfl
  refine ki_setAt ho h0 (by omega) (by simpa using hn) (h _ (S.updSeq hl _ ?_ s.toks))
  simp
theorem concatS {l b : Addr} {xs ys : List Value} (S : St c m H s) (hl : H.obj l = some (.list xs)) (hb : H.obj b = some (.list ys)) (hz : xs.length + ys.length ≤ sizeLine) (h : ∀ r s', H.obj r = none → St c m (H.set r (.list (xs ++ ys))) s' → Q (.ref r) s') :
    wpAny (model prog w) A (binaryOp .Add (.ref l) (.ref b)) Q E s := by
  obtain ⟨h₀, news, F, N, _, _, k⟩ := S.view
  refine add_lists F N (S.isList hl) (S.isList hb) (fun h' F' N' => ?_) hz
  obtain ⟨hr, S'⟩ := k h' _ _ (.list (xs ++ ys)) s.toks F' N' (fun p hp => Heap.lt_size (N p hp).1) (Nat.le_refl _) (by intro _ _ q; cases q) (fun _ e => ⟨0, e⟩)
  exact h _ _ hr S'
theorem listOfList {l : Addr} {xs : List Value} (S : St c m H s) (hl : H.obj l = some (.list xs)) (hz : xs.length ≤ sizeLine) (h : ∀ r s', H.obj r = none → St c m (H.set r (.list xs)) s' → Q (.ref r) s') :
    wpAny (model prog w) A (call (.type "list") [.ref l]) Q E s := by
  obtain ⟨n, ho⟩ := S.listAt hl
  refine call_list_seq (hsz := by simpa using hz) l (.inl rfl) ho rfl rfl fun h' c' hk hD => ?_
  obtain ⟨hr, S'⟩ := S.more (a := s.heap.objs.size) (ao := .list xs) (tk := s.toks) (by intro _ _ q; cases q) hk (Nat.le_refl _) (fun _ => ⟨c', hD⟩)
  exact h _ _ hr S'
theorem listOfTup {l : Addr} {xs : List Value} (S : St c m H s) (hl : H.obj l = some (.raw (tupO xs))) (hz : xs.length ≤ sizeLine) (h : ∀ r s', H.obj r = none → St c m (H.set r (.list xs)) s' → Q (.ref r) s') :
    wpAny (model prog w) A (call (.type "list") [.ref l]) Q E s := by
  have ho := S.raw hl
  refine call_list_seq (hsz := by simpa using hz) l (.inr rfl) ho rfl rfl fun h' c' hk hD => ?_
  obtain ⟨hr, S'⟩ := S.more (a := s.heap.objs.size) (ao := .list xs) (tk := s.toks) (by intro _ _ q; cases q) hk (Nat.le_refl _) (fun _ => ⟨c', hD⟩)
  exact h _ _ hr S'
#check @call_tuple_list
#check @PySem.AutoListH.list___reversed___list_0
#check @slice_list
end
end
end

section
section
variable {prog : Program} {w : World} {K : Frag} {T : Tp} {A : Around} {c : Cx} {m : Loc} {H : AH} {s : Shared} {E : Value → Shared → Prop} {d u : Nat} {R : Result → Shared → Prop}
section
variable {Q : Value → Shared → Prop}
theorem isObj {M : Model} {x y : Addr} {ox oy : Obj} (hx : s.heap.get? x = some ox) (hy : s.heap.get? y = some oy) (hb : ox.cls ≠ .type "tuple") (h : Q (.bool (decide (x = y))) s) : wpAny M A (compareOp .Is (.ref x) (.ref y)) Q E s := by
  by_cases q : x = y
  · subst q
    rw [decide_eq_true rfl] at h
    show wpAny M A (do return .bool (← isSame (.ref x) (.ref x))) Q E s
    unfold isSame
    simp only [beq_self_eq_true, if_true]
    exact wpAny_bind (wpAny_pure (wpAny_pure h))
  · rw [decide_eq_false q] at h
    exact kto_is hx hy q hb h
theorem St.instObj {a C : Addr} {fs : Loc} (S : St c m H s) (hi : H.obj a = some (.inst C fs)) : ∃ dx, s.heap.get? a = some (instObj C dx) := by
  obtain ⟨D, R⟩ := S.rep
  exact ⟨_, (R.at_ a _ hi).1.1⟩
/-- two objects of the call's own -/
theorem isInst {x y C C' : Addr} {fs fs' : Loc} (S : St c m H s) (hx : H.obj x = some (.inst C fs)) (hy : H.obj y = some (.inst C' fs')) (h : Q (.bool (decide (x = y))) s) : wpAny (model prog w) A (compareOp .Is (.ref x) (.ref y)) Q E s := by
  obtain ⟨dx, e⟩ := S.instObj hx
  obtain ⟨dy, e'⟩ := S.instObj hy
  exact isObj e e' (by intro q; cases q) h
/-- two classes of the text -/
theorem isCls {C C' : Addr} {o o' : Obj} (O : Ok K T A c d u) (S : St c m H s) (hx : K.lookup C = some o) (hy : K.lookup C' = some o') (hb : (o.cls == .type "tuple") = false) (h : Q (.bool (decide (C = C'))) s) : wpAny (model prog w) A (compareOp .Is (.ref C) (.ref C')) Q E s :=
  isObj (inK O S _ _ hx) (inK O S _ _ hy) (by intro q; rw [q] at hb; cases hb) h
theorem isRefNone {a : Addr} (h : Q (.bool false) s) : wpAny (model prog w) A (compareOp .Is (.ref a) .none) Q E s := is_ref_none h
theorem isNoneNone (h : Q (.bool true) s) : wpAny (model prog w) A (compareOp .Is .none .none) Q E s := is_none h
theorem isNoneRef {a : Addr} (h : Q (.bool false) s) : wpAny (model prog w) A (compareOp .Is .none (.ref a)) Q E s := by
  show wpAny _ A (do return .bool (← isSame .none (.ref a))) Q E s
  exact wpAny_bind (wpAny_pure (wpAny_pure h))
theorem isNotRefNone {a : Addr} (h : Q (.bool true) s) : wpAny (model prog w) A (compareOp .IsNot (.ref a) .none) Q E s := isnot_ref_none h
theorem isNotNoneNone (h : Q (.bool false) s) : wpAny (model prog w) A (compareOp .IsNot .none .none) Q E s := isNot_none h
/-- type of an object -/
theorem typeInst {a C : Addr} {fs : Loc} (S : St c m H s) (hi : H.obj a = some (.inst C fs)) (h : Q (.ref C) s) : wpAny (model prog w) A (call (.type "type") [.ref a]) Q E s := by
  obtain ⟨dx, es, n, I, F⟩ := S.inst hi
  exact kto_own I h
/-- isinstance -/
theorem isiTup {l : Addr} {xs : List Value} (S : St c m H s) (hl : H.obj l = some (.raw (tupO xs))) (h : Q (.bool true) s) : wpAny (model prog w) A (call (.builtin "isinstance") [.ref l, .type "tuple"]) Q E s :=
  call_isinstance_yes (Tx := "tuple") (T := "tuple") ⟨_, S.raw hl, rfl⟩ (by kernel_rfl) (by rw [isSubtype_type]; kernel_rfl) h
theorem isiYes {a C D : Addr} {fs : Loc} (O : Ok K T A c d u) (S : St c m H s) (hi : H.obj a = some (.inst C fs)) (e : isIn K (.ref C) D = true) (h : Q (.bool true) s) : wpAny (model prog w) A (call (.builtin "isinstance") [.ref a, .ref D]) Q E s := by
  obtain ⟨dx, es, n, I, F⟩ := S.inst hi
  exact isi_call (inK O S) (fun M => I.type) e (by intro q; cases q) h
end
/-! truth -/
section
variable {Q : Bool → Shared → Prop}
theorem fit64 {n : Nat} (h : n ≤ sizeLine) : (n : Int) < 2 ^ 63 := by
  have h2 : sizeLine = 2 ^ 24 := rfl
  omega
theorem truthyList {l : Addr} {xs : List Value} (S : St c m H s) (hl : H.obj l = some (.list xs)) (hz : xs.length ≤ sizeLine) (h : ∀ s', St c m H s' → Q (!xs.isEmpty) s') : wpAny (model prog w) A (truthy (.ref l)) Q E s := by
  refine wpAny_truthy_list (S.isList hl) (by simpa using fit64 hz) ?_
  have := h { s with toks := s.toks + 1 + 1 } (S.toks _)
  simpa using this
theorem truthyTup {l : Addr} {xs : List Value} (S : St c m H s) (hl : H.obj l = some (.raw (tupO xs))) (hz : xs.length ≤ sizeLine) (h : ∀ s', St c m H s' → Q (!xs.isEmpty) s') : wpAny (model prog w) A (truthy (.ref l)) Q E s := by
  refine truthy_tuple (S.isTup hl) (by simpa using fit64 hz) ?_
  have := h { s with toks := s.toks + 1 + 1 } (S.toks _)
  simpa using this
theorem truthyI {n : Int} {t : Tok} (h : Q (n != 0) s) : wpAny (model prog w) A (truthy (.int n t)) Q E s := truthy_int h
theorem truthyNone (h : Q false s) : wpAny (model prog w) A (truthy .none) Q E s := PyProof.Rows.truthy_none h
end
/-! unpacking -/
section
variable {Q : Unit → Shared → Prop}
theorem unpackTup {elts : List Expr} {k : Nat} {pos : Pos} {l : Addr} {xs : List Value} (hh : A.handled = none) (S : St c m H s) (hl : H.obj l = some (.raw (tupO xs)))
    (hn : (assignEach elts c.env).length = xs.length) (hstar : (assignEach elts c.env).findIdx? (·.1) = none)
    (h : ∀ s', St c m H s' → wpAny (model prog w) A (assignInOrder ((assignEach elts c.env).map (·.2)) xs) Q E s') : wpAny (model prog w) A (assign (.Tuple elts k pos) c.env (.ref l)) Q E s := by
  have hT : s.heap.IsTuple l xs.toArray := by obtain ⟨o, a, b, n, e⟩ := S.isTup hl; exact ⟨o, a, b, n, e⟩
  rw [assign_Tuple]
  refine wpAny_bind (wpAny_standAt ?_)
  exact wpAny_unpack_tuple hh hT (by simpa using hn) hstar fun h' he => h _ (S.grown (tk := s.toks) fun b o e => he b o (Nat.ne_of_lt (Heap.lt_size e)) e)
theorem unpackList {elts : List Expr} {k : Nat} {pos : Pos} {l : Addr} {xs : List Value} (hh : A.handled = none) (S : St c m H s) (hl : H.obj l = some (.list xs))
    (hn : (assignEach elts c.env).length = xs.length) (hstar : (assignEach elts c.env).findIdx? (·.1) = none)
    (h : ∀ s', St c m H s' → wpAny (model prog w) A (assignInOrder ((assignEach elts c.env).map (·.2)) xs) Q E s') : wpAny (model prog w) A (assign (.Tuple elts k pos) c.env (.ref l)) Q E s := by
  rw [assign_Tuple]
  refine wpAny_bind (wpAny_standAt ?_)
  unfold unpack
  rw [hn, hstar]
  have := kun_itemsOf (prog := prog) (w := w) (E := E) (Q := fun a s' => wpAny (model prog w) A (assignInOrder (List.map (fun x => x.snd) (assignEach elts c.env)) a) Q E s') hh (S.isList hl) (fun h' he => by
    exact h _ (S.grown (tk := s.toks) fun b o e => he b o (Nat.ne_of_lt (Heap.lt_size e)) e))
  rw [List.size_toArray] at this
  exact wpAny_bind (wpAny_holding this)
theorem aioNil {xs : List Value} (h : Q () s) : wpAny (model prog w) A (assignInOrder [] xs) Q E s := wpAny_pure h
theorem aioCons {t : Value → Sem Unit} {ts : List (Value → Sem Unit)} {x : Value} {xs : List Value}
    (h : wpAny (model prog w) A (t x) (fun _ s₁ => wpAny (model prog w) A (assignInOrder ts xs) Q E s₁) E s) : wpAny (model prog w) A (assignInOrder (t :: ts) (x :: xs)) Q E s := wpAny_bind (wpAny_holding h)
theorem asAttr {o : Expr} {attr : Str} {pos : Pos} {v : Value} (h : wpAny (model prog w) A (eval o c.env) (fun ov s₂ => wpAny (model prog w) A (setAttr ov attr v) Q E s₂) E s) : wpAny (model prog w) A (assign (.Attribute o attr pos) c.env v) Q E s := by
  rw [assign_Attribute]
  exact wpAny_bind (wpAny_holding (wpAny_mono h (fun ov s₂ h₂ => wpAny_bind (wpAny_standAt (wpAny_bind (wpAny_holding (wpAny_mono h₂ (fun _ s₃ h₃ => fun Γ p hΓ => by rw [Sem.wp_release]; exact h₃) fun _ _ x => x))))) fun _ _ x => x))
theorem ex_assignTup {elts k tpos value pos rest} {Q : Flow → Shared → Prop} {env : Env}
    (h : wpAny (model prog w) A (eval value env) (fun v s₁ => wpAny (model prog w) A (assign (.Tuple elts k tpos) env v) (fun _ s₂ => wpAny (model prog w) A (execs rest env) Q E s₂) E s₁) E s)
    (hs : swapsWithSole [.Tuple elts k tpos] value pos.line env = pure false := by with_unfolding_all rfl)
    (hw : swappedStores [.Tuple elts k tpos] value env = pure none := by with_unfolding_all rfl) :
    wpAny (model prog w) A (execs (.Assign [.Tuple elts k tpos] value pos :: rest) env) Q E s := ex_cons (Assign_Tuple h hs hw)
end
/-! list methods -/
section
variable {Q : Value → Shared → Prop}
theorem extendTup {l b : Addr} {xs ys : List Value} (S : St c m H s) (hl : H.obj l = some (.list xs)) (hb : H.obj b = some (.raw (tupO ys))) (hz : xs.length + ys.length ≤ 1000000) (h : ∀ s', St c m (H.set l (.list (xs ++ ys))) s' → Q .none s') :
    wpAny (model prog w) A (call (.builtin "list.extend") [.ref l, .ref b]) Q E s := by
  obtain ⟨n, ho⟩ := S.listAt hl
  have hb' := S.raw hb
  have h2 : sizeLine = 2 ^ 24 := rfl
  have e1 : ¬(!xs.toArray.isEmpty && Builtin.List.listTooLong (xs.toArray.size + ys.toArray.size)) = true := by
    unfold Builtin.List.listTooLong
    simp only [List.size_toArray, h2, Bool.and_eq_true, decide_eq_true_eq, not_and]
    intro _; omega
  exact call_meets PySem.F.slot_list_extend ⟨_, ho, rfl⟩ PySem.F.entry_list_extend (PySem.F.args_list_extend_2 _ _) (PySem.AutoSeq1.list_extend_list_tuple_0 l xs.toArray n b ys.toArray _ e1 (by simp; omega) (by simp; omega)) ⟨ho, hb', h _ (S.updSeq hl _ (by simp) s.toks)⟩
end
end
end

section
theorem owner_rev : Manifest.owners.lookup (String.ofList ['d', 'e', 's', 'r', 'e', 'v', 'e', 'r'].reverse) = some Manifest.sig_reversed := by kernel_rfl
theorem slot_rev_next : Slot "reversed" "__next__" "reversed.__next__" :=
  .of (owner := "reversed") (n := "__next__") (by rw [typeLookup_type, builtinLookup_eq_fast]; kernel_rfl) (by decide +kernel) (by decide +kernel) (by decide +kernel)
    (by first | exact .inl (by decide +kernel) | exact .inr (by decide +kernel)) (by rw [isSubtype_type]; kernel_rfl)
theorem entry_rev_next : entryFor table "reversed.__next__" = some Builtin.«reversed.__next__» := entryFor_of_tree (by kernel_rfl)
theorem args_rev_next_1 (a : Value) : argsOk "reversed.__next__" ⟨[a], []⟩ := by
  unfold argsOk; rw [signature?_of (id := "reversed.__next__") (n := ['_', '_', 't', 'x', 'e', 'n', '_', '_']) (o := ['d', 'e', 's', 'r', 'e', 'v', 'e', 'r']) (by kernel_rfl) owner_rev]; kernel_rfl
theorem look_rev_iter : typeLookup (.type "reversed") "__iter__" = pure (some (.builtin "reversed.__iter__")) := by rw [typeLookup_type, builtinLookup_eq_fast]; kernel_rfl
theorem slot_rev_iter : Slot "reversed" "__iter__" "reversed.__iter__" :=
  .of (owner := "reversed") (n := "__iter__") look_rev_iter (by decide +kernel) (by decide +kernel) (by decide +kernel)
    (by first | exact .inl (by decide +kernel) | exact .inr (by decide +kernel)) (by rw [isSubtype_type]; kernel_rfl)
theorem args_rev_iter_1 (a : Value) : argsOk "reversed.__iter__" ⟨[a], []⟩ := by
  unfold argsOk; rw [signature?_of (id := "reversed.__iter__") (n := ['_', '_', 'r', 'e', 't', 'i', '_', '_']) (o := ['d', 'e', 's', 'r', 'e', 'v', 'e', 'r']) (by kernel_rfl) owner_rev]; kernel_rfl
theorem entry_rev_iter : entryFor table "reversed.__iter__" = some Builtin.«dict_keyiterator.__iter__» :=
  entryFor_alias (id' := "dict_keyiterator.__iter__") (by kernel_rfl) (by first | rfl | decide +kernel | (unfold String.splitOn; simp +decide [String.splitOnAux])) (by decide +kernel) (by kernel_rfl)
theorem slot_rev_hint : Slot "reversed" "__length_hint__" "reversed.__length_hint__" :=
  .of (owner := "reversed") (n := "__length_hint__") (by rw [typeLookup_type, builtinLookup_eq_fast]; kernel_rfl) (by decide +kernel) (by decide +kernel) (by decide +kernel)
    (by first | exact .inl (by decide +kernel) | exact .inr (by decide +kernel)) (by rw [isSubtype_type]; kernel_rfl)
theorem entry_rev_hint : entryFor table "reversed.__length_hint__" = some Builtin.«reversed.__length_hint__» := entryFor_of_tree (by kernel_rfl)
theorem args_rev_hint_1 (a : Value) : argsOk "reversed.__length_hint__" ⟨[a], []⟩ := by
  unfold argsOk; rw [signature?_of (id := "reversed.__length_hint__") (n := ['_', '_', 't', 'n', 'i', 'h', '_', 'h', 't', 'g', 'n', 'e', 'l', '_', '_']) (o := ['d', 'e', 's', 'r', 'e', 'v', 'e', 'r']) (by kernel_rfl) owner_rev]; kernel_rfl
theorem tup_no_rev : typeLookup (.type "tuple") "__reversed__" = pure none := by rw [typeLookup_type, builtinLookup_eq_fast]; kernel_rfl
theorem rev_no_len : typeLookup (.type "reversed") "__len__" = pure none := by rw [typeLookup_type, builtinLookup_eq_fast]; kernel_rfl
theorem rev_sub : isSubtype (.type "reversed") (.type "reversed") = pure true := by rw [isSubtype_type]; kernel_rfl
theorem tup_no_dict : isSubtype (.type "tuple") (.type "dict") = pure false := by rw [isSubtype_type]; kernel_rfl
def rvObj (l : Addr) (i : Int) : Obj := { cls := .type "reversed", data := .fields #[.ref l, rawInt i] }
def IsRv (h : Heap) (a l : Addr) (i : Int) : Prop := ∃ o, h.get? a = some o ∧ o.cls = .type "reversed" ∧ o.data = .fields #[.ref l, rawInt i]
theorem seqIdx {i n : Nat} (h : i < n) : seqIndex? (i : Int) n = some i := by
  unfold seqIndex?
  have h1 : ¬ (i : Int) < 0 := by omega
  simp only [h1, if_false]
  have h2 : 0 ≤ (i : Int) ∧ (i : Int) < n := by omega
  simp [h2]
section
variable {prog : Program} {w : World} {A : Around} {E : Value → Shared → Prop} {s : Shared}
theorem IsRv.typeIs {a l : Addr} {i : Int} (x : IsRv s.heap a l i) : s.TypeIs (.ref a) "reversed" := let ⟨o, ho, hc, _⟩ := x; ⟨o, ho, hc⟩
theorem IsRv.at {h h' : Heap} {a l : Addr} {i : Int} (x : IsRv h a l i) (e : ∀ o, h.get? a = some o → h'.get? a = some o) : IsRv h' a l i := let ⟨o, ho, r⟩ := x; ⟨o, e _ ho, r⟩
theorem slot_rev_init : Slot "reversed" "__init__" "object.__init__" :=
  .of (owner := "object") (n := "__init__") (by rw [typeLookup_type, builtinLookup_eq_fast]; kernel_rfl) (by decide +kernel) (by decide +kernel) (by decide +kernel)
    (by first | exact .inl (by decide +kernel) | exact .inr (by decide +kernel)) (by rw [isSubtype_type]; kernel_rfl)
theorem called_reversed : TypeCalled "reversed" "reversed.__new__" "object.__init__" :=
  ⟨by decide +kernel, by decide +kernel, ⟨_, _, PySem.F.mro_reversed⟩, PySem.F.made_reversed, by decide +kernel, rev_sub, slot_rev_init⟩
theorem rv_new_in {l : Addr} {items : Array Value} (hfit : (items.size : Int) < 2 ^ 63) : MeetsIn prog w (Builtin.«reversed.__new__» ⟨[.type "reversed", .ref l], []⟩) (fun A R s => IsTup s.heap l items ∧
    R (.ok (.ret (.ref s.heap.objs.size))) { s with heap := s.heap.push (rvObj l ((items.size : Int) - 1)), toks := s.toks + 1 + 1 }) :=
  .of_wp fun A R s h => by
    obtain ⟨hl, h⟩ := h
    unfold Builtin.«reversed.__new__»
    refine wpAny_bind (wpAny_of_eq (newClass_reversed _) ?_)
    try dsimp only
    refine wpAny_bind (wpAny_of_eq (a := ()) (by first | rfl | kernel_rfl) ?_)
    refine wpAny_bind (wpAny_of_eq (a := ()) (by first | rfl | kernel_rfl) ?_)
    try dsimp only
    refine wpAny_bind (wpAny_specialOf hl.typeIs tup_no_rev ?_)
    try dsimp only
    refine wpAny_bind ?_
    show wpAny _ _ (isInstance (.ref l) (.type "dict") >>= _) _ _ _
    refine wpAny_bind (wpAny_isInstance (b := false) hl.typeIs tup_no_dict ?_)
    show wpAny _ _ (specialOf (.ref l) (Str.ofString "__getitem__") >>= _) _ _ _
    refine wpAny_bind (wpAny_specialOf hl.typeIs slot_tuple_getitem.lookup ?_)
    show wpAny _ _ (pure true) _ _ _
    refine wpAny_pure ?_
    show wpAny _ _ (call (.builtin "len") [.ref l] >>= _) _ _ _
    refine wpAny_bind (len_tuple hl hfit ?_)
    refine wpAny_bind (wpAny_of_eq (a := some (items.size : Int)) rfl ?_)
    show wpAny _ _ (newObj (.type "reversed") (.fields #[.ref l, rawInt ((items.size : Int) - 1)]) >>= _) _ _ _
    refine wpAny_bind (wpAny_newObj_type ?_)
    exact wpAny_pure ⟨_, rfl, h⟩
theorem call_rv {l : Addr} {items : Array Value} {Q : Value → Shared → Prop} (hl : IsTup s.heap l items) (hfit : (items.size : Int) < 2 ^ 63)
    (h : Q (.ref s.heap.objs.size) { s with heap := s.heap.push (rvObj l ((items.size : Int) - 1)), toks := s.toks + 1 + 1 }) : wpAny (model prog w) A (call (.type "reversed") [.ref l]) Q E s :=
  callType_newIn called_reversed (by decide) (PySem.F.typeCall_reversed_1 _) (PySem.F.newCall_reversed_1 _) (fun obj => PySem.F.args_object_init_2 obj _) PySem.F.entry_reversed_new
    (rv_new_in hfit) ⟨hl, ⟨_, Heap.get?_push_size _ rfl, rfl⟩, h⟩
theorem rv_next {it l : Addr} {i : Nat} {items : Array Value} {x : Value} {Q : Option Value → Shared → Prop} (hit : IsRv s.heap it l (i : Int)) (hl : IsTup s.heap l items) (hi : (i : Int) < 2 ^ 63) (hx : items[i]? = some x)
    (hQ : ∀ h', IsRv h' it l ((i : Int) - 1) → Heap.SameBut it s.heap h' → Q (some x) { s with heap := h', toks := s.toks + 1 }) : wpAny (model prog w) A (pyNext (.ref it)) Q E s := by
  obtain ⟨o, ho, hc, hd⟩ := id hit
  have hlt := (Array.getElem?_eq_some_iff.mp hx).1
  unfold pyNext
  refine wpAny_bind (wpAny_attempt (wpAny_callSpecial?_slot (name := Str.ofString "__next__") hit.typeIs slot_rev_next
    (wpAny_call_entry slot_rev_next hit.typeIs entry_rev_next ?_ (args_rev_next_1 _))))
  unfold Builtin.«reversed.__next__»
  refine wpAny_bind (wpAny_of_eq (a := (Value.ref it, [])) rfl ?_)
  try dsimp only
  refine wpAny_bind (wpAny_field ho hd (x := .ref l) rfl ?_)
  refine wpAny_bind (wpAny_field ho hd (x := rawInt (i : Int)) rfl ?_)
  show wpAny _ _ (if (i : Int) < 0 then _ else _) _ _ s
  rw [if_neg (by omega)]
  refine wpAny_bind (wpAny_specialOf hl.typeIs slot_tuple_getitem.lookup ?_)
  show wpAny _ _ (mkInt (i : Int) >>= _) _ _ _
  refine wpAny_bind (wpAny_mkInt ?_)
  refine wpAny_bind (wpAny_attempt (getItem_tuple (k := (i : Int)) (j := i) (x := x) (by exact hl) (by omega) hi (seqIdx hlt) hx ?_))
  dsimp only
  refine wpAny_bind (wpAny_field ho hd (x := rawInt (i : Int)) rfl ?_)
  refine wpAny_bind (wpAny_setField ho hd (by simp) ?_)
  refine wpAny_pure ⟨x, rfl, wpAny_pure (hQ _ ?_ (Heap.SameBut.update ..))⟩
  exact ⟨_, Heap.get?_update_self _ ho (Obj.isFreed_of_fields (Obj.data_mapFields hd _)), (Obj.cls_mapFields ..).trans hc, by
    rw [Obj.data_mapFields hd]; simp⟩
theorem rv_end {it l : Addr} {Q : Option Value → Shared → Prop} (hh : A.handled = none) (hit : IsRv s.heap it l (-1))
    (hQ : ∀ h', Heap.ExtBut it s.heap h' → Q none { s with heap := h' }) : wpAny (model prog w) A (pyNext (.ref it)) Q E s := by
  obtain ⟨o, ho, hc, hd⟩ := id hit
  unfold pyNext
  refine wpAny_bind (wpAny_attempt (wpAny_callSpecial?_slot (name := Str.ofString "__next__") hit.typeIs slot_rev_next
    (wpAny_call_entry slot_rev_next hit.typeIs entry_rev_next ?_ (args_rev_next_1 _))))
  unfold Builtin.«reversed.__next__»
  refine wpAny_bind (wpAny_of_eq (a := (Value.ref it, [])) rfl ?_)
  try dsimp only
  refine wpAny_bind (wpAny_field ho hd (x := .ref l) rfl ?_)
  refine wpAny_bind (wpAny_field ho hd (x := rawInt (-1)) rfl ?_)
  show wpAny _ _ (if (-1 : Int) < 0 then _ else _) _ _ s
  rw [if_pos (by decide)]
  refine wpAny_bind (wpAny_rule ?_)
  have d1 := Obj.data_mapFields hd (·.setIfInBounds 1 (rawInt (-1)))
  refine wpAny_bind (m := (do setField (.ref it) 1 (rawInt (-1)); setField (.ref it) 0 .none)) (wpAny_bind (wpAny_setField ho hd (by simp) ?_))
  have ho1 := Heap.get?_update_self (Obj.mapFields (·.setIfInBounds 1 (rawInt (-1)))) ho (Obj.isFreed_of_fields d1)
  refine wpAny_setField ho1 d1 (by simp) ?_
  show wpAny _ _ (Builtin.SmallTypes.stopIteration >>= _) _ _ _
  refine wpAny_bind ?_
  unfold Builtin.SmallTypes.stopIteration
  refine wpAny_bind ?_
  simp only [newExc, newTuple]
  refine wpAny_bind (wpAny_newObj_type ?_ (by size_fits))
  refine wpAny_bind (m := firstArgMember _ _) (wpAny_of_eq (a := Value.none) (by first | rfl | (simp only [firstArgMember]; rfl)) ?_)
  refine wpAny_newObj_type ?_ (by size_fits)
  simp only [raiseNew]
  refine wpAny_bind (wpAny_handled ?_)
  first | rw [show A.in1.handled = none from hh] | rw [hh]
  refine wpAny_bind (wpAny_pure (wpAny_throw ?_))
  refine wpAny_bind (wpAny_isInstance (T := "StopIteration") (b := true) ⟨_, Heap.get?_push_size _ rfl, rfl⟩ isSubtype_stop ?_)
  refine wpAny_pure (hQ _ ((Heap.ExtBut.push (Heap.ExtBut.push (fun b o hb e => ?_) _) _)))
  exact (Heap.get?_update_other _ _ (Ne.symm hb)).trans ((Heap.get?_update_other _ _ (Ne.symm hb)).trans e)
theorem rv_iter {it l : Addr} {i : Int} {Q : Value → Shared → Prop} (hit : IsRv s.heap it l i) (h : Q (.ref it) s) : wpAny (model prog w) A (pyIter (.ref it)) Q E s := by
  refine wpAny_pyIter_slot hit.typeIs slot_rev_iter (wpAny_call_entry slot_rev_iter hit.typeIs entry_rev_iter ?_ (args_rev_iter_1 _))
  show wpAny _ _ (ret (.ref it)) _ _ s
  exact wpAny_pure ⟨_, rfl, "reversed", _, hit.typeIs, slot_rev_next.lookup, h⟩
theorem walksRv (hh : A.handled = none) (I l : Addr) (hne : l ≠ I) (items : Array Value) (hfit : (items.size : Int) < 2 ^ 63) :
    Walks prog w A I [I, l] [I] items.size (fun i v => items[items.size - 1 - i]? = some v) (fun i h => i ≤ items.size ∧ IsRv h I l ((items.size : Int) - 1 - (i : Int)) ∧ IsTup h l items) where
  sub := fun b hb => by simp at hb; simp [hb]
  frame := fun _ _ _ x hk => ⟨x.1, x.2.1.at fun o e => hk I (by simp) o e, let ⟨o, ho, r⟩ := x.2.2; ⟨o, hk l (by simp) o ho, r⟩⟩
  item := fun i s Q E hi x hQ => by
    have e : (items.size : Int) - 1 - (i : Int) = ((items.size - 1 - i : Nat) : Int) := by omega
    have hit := x.2.1
    rw [e] at hit
    have hx : items[items.size - 1 - i]? = some (items[items.size - 1 - i]'(by omega)) := Array.getElem?_eq_getElem (by omega)
    refine rv_next hit x.2.2 (by omega) hx fun h' hit' hs' => ?_
    have e2 : ((items.size - 1 - i : Nat) : Int) - 1 = (items.size : Int) - 1 - ((i + 1 : Nat) : Int) := by omega
    rw [e2] at hit'
    exact hQ _ h' (s.toks + 1) hx ⟨hi, hit', let ⟨o, ho, r⟩ := x.2.2; ⟨o, (hs'.2 l hne).trans ho, r⟩⟩ fun b o hb eo => hs'.extBut b o (fun h => hb (by simp [h])) eo
  done := fun s Q E x hQ => by
    have e : (items.size : Int) - 1 - (items.size : Int) = -1 := by omega
    have hit := x.2.1
    rw [e] at hit
    exact rv_end hh hit fun h' he' => hQ h' s.toks fun b o hb eo => he' b o (fun h => hb (by simp [h])) eo
  self := fun _ _ _ _ x hQ => rv_iter x.2.1 hQ
end
end

section
section
variable {prog : Program} {w : World} {A : Around} {s : Shared} {R : Result → Shared → Prop} {E : Value → Shared → Prop}
theorem rv_hint {it l : Addr} {items : Array Value} {Q : Value → Shared → Prop} (hit : IsRv s.heap it l ((items.size : Int) - 1)) (hl : IsTup s.heap l items) (hfit : (items.size : Int) < 2 ^ 63)
    (h : Q (.int items.size (s.toks + 1 + 1)) { s with toks := s.toks + 1 + 1 + 1 }) : wpAny (model prog w) A (call (.builtin "reversed.__length_hint__") [.ref it]) Q E s := by
  obtain ⟨o, ho, hc, hd⟩ := id hit
  refine wpAny_call_entry slot_rev_hint hit.typeIs entry_rev_hint ?_ (args_rev_hint_1 _)
  unfold Builtin.«reversed.__length_hint__»
  refine wpAny_bind (wpAny_of_eq (a := Value.ref it) rfl ?_)
  refine wpAny_bind (wpAny_field ho hd (x := .ref l) rfl ?_)
  rw [if_neg (by exact Bool.false_ne_true)]
  refine wpAny_bind (len_tuple hl hfit ?_)
  refine wpAny_bind (wpAny_of_eq (a := some (items.size : Int)) rfl ?_)
  dsimp only
  refine wpAny_bind (wpAny_field ho hd (x := rawInt _) rfl ?_)
  show wpAny _ _ (if (items.size : Int) < (items.size : Int) - 1 + 1 then _ else _) _ _ _
  rw [if_neg (by omega)]
  show wpAny _ _ (mkInt _ >>= fun v => ret v) _ _ _
  refine wpAny_bind (wpAny_mkInt ?_)
  have e : (items.size : Int) - 1 + 1 = items.size := by omega
  rw [e]
  exact wpAny_pure ⟨_, rfl, h⟩
theorem rv_room {it l : Addr} {items : Array Value} {Q : Bool → Shared → Prop} (hit : IsRv s.heap it l ((items.size : Int) - 1)) (hl : IsTup s.heap l items) (h0 : 0 < items.size) (hz : items.size ≤ sizeLine)
    (h : Q true { s with toks := s.toks + 1 + 1 + 1 }) : wpAny (model prog w) A (Builtin.List.listLengthHint (.ref it)) Q E s := by
  have h2 : sizeLine = 2 ^ 24 := rfl
  unfold Builtin.List.listLengthHint
  refine wpAny_bind (wpAny_specialOf hit.typeIs rev_no_len ?_)
  show wpAny _ _ (specialOf (Value.ref it) (Str.ofString "__length_hint__") >>= _) _ _ _
  refine wpAny_bind (wpAny_specialOf hit.typeIs slot_rev_hint.lookup ?_)
  have e1 : Builtin.List.listLengthHint = Builtin.List.listLengthHint := rfl
  show wpAny _ _ (isInstance (.ref it) (.type "reversed") >>= _) _ _ _
  refine wpAny_bind (wpAny_isInstance (b := true) hit.typeIs rev_sub ?_)
  show wpAny _ _ (rule "list.length-hint.hint" >>= _) _ _ _
  refine wpAny_bind (wpAny_rule ?_)
  refine wpAny_bind (wpAny_of_eq (slot_rev_hint.bind _) ?_)
  refine wpAny_bind (wpAny_attempt (rv_hint hit hl (by omega) ?_))
  show wpAny _ _ (asInt? _ >>= _) _ _ _
  have ea : asInt? (Value.int (items.size : Int) (s.toks + 1 + 1)) = pure (some (items.size : Int)) := rfl
  simp only [ea, pure_bind]
  show wpAny _ _ (if !Builtin.List.listFitsIndex (items.size : Int) then _ else _) _ _ _
  have f1 : Builtin.List.listFitsIndex (items.size : Int) = true := by unfold Builtin.List.listFitsIndex; simp; omega
  simp only [f1, Bool.not_true, Bool.false_eq_true, if_false]
  rw [if_neg (by omega)]
  have f2 : Builtin.List.listTooLong (items.size : Int).toNat = false := by unfold Builtin.List.listTooLong; simp; omega
  simp only [f2, Bool.false_eq_true, if_false]
  refine wpAny_pure ?_
  have f3 : ((items.size : Int) != 0) = true := by rw [bne_iff_ne]; omega
  rw [f3]; exact h
theorem rv_extend (hh : A.handled = none) {I l S : Addr} {items : Array Value} {res : Value} {c₀ : Nat} (hit : IsRv s.heap I l ((items.size : Int) - 1)) (hl : IsTup s.heap l items) (h0 : 0 < items.size) (hz : items.size ≤ sizeLine) (hlI : l ≠ I) (hSI : S ≠ I) (hSl : S ≠ l)
    (hS : s.heap.get? S = some { cls := .type "list", data := .seq #[] c₀ })
    (hR : ∀ s' acc' c', Moved [S, I] (fun a b => b = a) s s' → s'.heap.get? S = some { cls := .type "list", dict := none, data := .seq acc' c', slots := #[] } → ItemsOf (fun i v => items[items.size - 1 - i]? = some v) acc' items.size → R (.ok (.ret res)) s') :
    wpAny (model prog w) A.in1 (Builtin.List.listExtendWith (.ref S) (.ref I) res)
      (fun fin s' => match fin with | .done f => R (.ok f) s' | .again c' => c'.quiet = true ∧ codeAny (model prog w) A c' R s') (fun e s' => R (.error e) s') s := by
  have h2 : sizeLine = 2 ^ 24 := rfl
  have hfit : (items.size : Int) < 2 ^ 63 := by omega
  have W := (walksRv (prog := prog) (w := w) (A := A.in1) hh I l hlI items hfit).toS
  have hSf : S ∉ [I, l] := by simp [hSI, hSl]
  have hst : (0 : Nat) ≤ items.size ∧ IsRv s.heap I l ((items.size : Int) - 1 - ((0 : Nat) : Int)) ∧ IsTup s.heap l items := ⟨Nat.zero_le _, by simpa using hit, hl⟩
  unfold Builtin.List.listExtendWith
  refine wpAny_bind (wpAny_typeOf hit.typeIs ?_)
  have h1 : Builtin.List.listSameRef (.ref S) (.ref I) = false := by simp [Builtin.List.listSameRef, hSI]
  have h2 : (Value.type "reversed" == Value.type "list") = false := by decide
  have h3 : (Value.type "reversed" == Value.type "tuple") = false := by decide
  simp only [h1, h2, h3, Bool.or_false, Bool.false_eq_true, if_false]
  refine wpAny_bind (rv_iter hit ?_)
  refine wpAny_bind (wpAny_holding ?_)
  refine rv_room hit hl h0 hz ?_
  show wpAny _ A.in1 (rule "list.extend.makes-room" >>= fun _ => Builtin.List.listTouch (.ref S) >>= fun _ =>
    again (.builtin "list.extend.loop" ⟨[.ref S, .ref I, res], []⟩)) _ _ _
  refine wpAny_bind (wpAny_rule ?_)
  refine wpAny_bind ?_
  show wpAny _ A.in1 (updateSeq S (·.push .none) >>= fun _ => updateSeq S (·.pop)) _ _ _
  refine wpAny_bind (wpAny_updateSeq hS rfl ?_)
  have hS₂ := Heap.get?_update_self (Obj.mapSeq (·.push Value.none)) hS rfl
  refine wpAny_updateSeq (hz := by seq_fits) hS₂ rfl ?_
  have hS₃ := Heap.get?_update_self (Obj.mapSeq (·.pop)) hS₂ rfl
  have oth : ∀ b o, b ≠ S → s.heap.get? b = some o → ((s.heap.update S (Obj.mapSeq (·.push Value.none))).update S (Obj.mapSeq (·.pop))).get? b = some o :=
    fun b o hb e => (Heap.get?_update_other _ _ (Ne.symm hb)).trans ((Heap.get?_update_other _ _ (Ne.symm hb)).trans e)
  refine wpAny_pure ⟨plainId_quiet PySem.F.plain_extend_loop _, codeAny_extend_loopS W hz _ hSf _ items.size 0 _ _ _ rfl (Nat.zero_le _)
    (W.frame 0 s _ (s.toks + 1 + 1 + 1) hst (by omega) fun b hb o e => oth b o (fun h => hSf (h ▸ hb)) e) hS₃ (ItemsOf.nil _) fun s' acc' c' hm hS' hacc => ?_⟩
  have t3 : s.toks + 1 + 1 + 1 ≤ s'.toks := hm.toks
  exact hR s' acc' c' ⟨fun b o hb e => hm.heap b o hb (oth b o (fun h => hb (h ▸ List.mem_cons_self)) e), hm.gens, hm.drawn, hm.os, by omega⟩ hS' hacc
theorem call_list_rv (hh : A.handled = none) {I l : Addr} {items : Array Value} {Q : Value → Shared → Prop} (hit : IsRv s.heap I l ((items.size : Int) - 1)) (hl : IsTup s.heap l items) (h0 : 0 < items.size) (hz : items.size ≤ sizeLine) (hlI : l ≠ I)
    (hQ : ∀ s' acc' c', Moved [s.heap.objs.size, I] (fun a b => b = a) { s with heap := s.heap.push { cls := .type "list", data := .seq #[] } } s' →
      s'.heap.get? s.heap.objs.size = some { cls := .type "list", dict := none, data := .seq acc' c', slots := #[] } → ItemsOf (fun i v => items[items.size - 1 - i]? = some v) acc' items.size → Q (.ref s.heap.objs.size) s') :
    wpAny (model prog w) A (call (.type "list") [.ref I]) Q E s := by
  have fr : ∀ a : Addr, (∃ o, s.heap.get? a = some o) → s.heap.objs.size ≠ a := fun a ⟨o, ho⟩ => Nat.ne_of_gt (Heap.lt_size ho)
  have n1 : s.heap.objs.size ≠ I := fr I (let ⟨o, ho, _⟩ := hit; ⟨o, ho⟩)
  have n2 : s.heap.objs.size ≠ l := fr l (let ⟨o, ho, _⟩ := hl; ⟨o, ho⟩)
  refine callType_codes (Q₁ := fun obj s₁ => obj = .ref s.heap.objs.size ∧ s₁ = { s with heap := s.heap.push { cls := .type "list", data := .seq #[] } }) PySem.F.called_list (PySem.F.typeCall_list_1 _) PySem.F.entry_list_init
    (code_list_new _ ⟨rfl, rfl⟩) fun obj s₁ h₁ => ?_
  obtain ⟨rfl, rfl⟩ := h₁
  have hS : (s.heap.push { cls := .type "list", data := .seq #[] }).get? s.heap.objs.size = some { cls := .type "list", data := .seq #[] } := Heap.get?_push_size _ rfl
  refine ⟨⟨_, hS, rfl⟩, PySem.F.args_list_init_2 _ _, ?_⟩
  show wpAny _ A.in1.in1 (do let old ← Builtin.List.listItems (.ref _); Builtin.List.listUpdate (.ref _) (fun _ => #[]); letGo old.toList.reverse; Builtin.List.listExtendWith (.ref _) (.ref I) .none) _ _ _
  refine wpAny_bind ?_
  unfold Builtin.List.listItems
  refine wpAny_bind (wpAny_seqItems hS rfl (wpAny_pure ?_))
  show wpAny _ _ (updateSeq _ (fun _ => #[]) >>= fun _ => letGo (#[] : Array Value).toList.reverse >>= fun _ => Builtin.List.listExtendWith (.ref _) (.ref I) .none) _ _ _
  refine wpAny_bind (wpAny_updateSeq hS rfl ?_)
  have hS₂ := Heap.get?_update_self (Obj.mapSeq (fun _ => (#[] : Array Value))) hS rfl
  have oth : ∀ b o, b ≠ s.heap.objs.size → (s.heap.push { cls := .type "list", data := .seq #[] }).get? b = some o → ((s.heap.push { cls := .type "list", data := .seq #[] }).update s.heap.objs.size (Obj.mapSeq (fun _ => (#[] : Array Value)))).get? b = some o :=
    fun b o hb e => (Heap.get?_update_other _ _ (Ne.symm hb)).trans e
  refine wpAny_bind (wpAny_letGo ?_)
  refine rv_extend (A := A.in1) (show A.in1.handled = none from hh) (l := l) (items := items) (S := s.heap.objs.size) (c₀ := ?c0) ?a ?b h0 hz hlI n1 n2 ?c ?d
  case c => exact hS₂
  case a => exact hit.at fun o e => oth _ _ n1.symm (Heap.get?_push_of_some _ e)
  case b => exact let ⟨o, ho, r⟩ := hl; ⟨o, oth _ _ n2.symm (Heap.get?_push_of_some _ ho), r⟩
  intro s' acc' c' hm hS' hacc
  exact ⟨rfl, hQ s' acc' c' ⟨fun b o hb e => hm.heap b o hb (oth b o (fun h => hb (h ▸ List.mem_cons_self)) e), hm.gens, hm.drawn, hm.os, hm.toks⟩ hS' hacc⟩
end
end

section
section
variable {prog : Program} {w : World} {K : Frag} {T : Tp} {A : Around} {c : Cx} {m : Loc} {H : AH} {s : Shared} {E : Value → Shared → Prop} {d u : Nat} {R : Result → Shared → Prop}
theorem St.two (S : St c m H s) {a b : Addr} {ao ao' bo : AO} (ha : H.obj a = some ao) (hb : H.obj b = some bo) (hne : a ≠ b) (ib : ∀ C fs, bo ≠ .inst C fs) (ia' : ∀ C fs, ao' ≠ .inst C fs) {h' : Heap} {tk : Nat}
    (k : ∀ x o, x ≠ a → x ≠ b → s.heap.get? x = some o → h'.get? x = some o) (hn : ∀ D, At h' D a ao') : St c m ((H.del b).set a ao') { s with heap := h', toks := tk } := by
  obtain ⟨D, R⟩ := S.rep
  obtain ⟨o, ho⟩ := (R.at_ a ao ha).1.there
  obtain ⟨o', ho'⟩ := (hn D).there
  have hf : o.isFreed = false := (Heap.get?_some_iff.mp ho).2
  have S1 := S.drop (h' := h'.update a (fun _ => o)) (tk := tk) hb ib (fun x ox hx e => by
    by_cases q : x = a
    · subst q; rw [ho] at e; cases e; exact Heap.get?_update_self _ ho' hf
    · exact (Heap.get?_update_other _ _ (Ne.symm q)).trans (k x ox q hx e))
  have S2 := S1.changeK (a := a) (ao := ao) (ao' := ao') (h' := h') (tk := tk) ((AH.del_ne hne).trans ha) ia' (fun x ox hx e => by
    rw [Heap.get?_update_other _ _ (Ne.symm hx)] at e; exact e) hn
  exact S2
abbrev rvO (l : Addr) (i : Int) : AO := .fld (.type "reversed") [.ref l, rawInt i]
theorem revTupS {l : Addr} {xs : List Value} {Q : Value → Shared → Prop} (S : St c m H s) (hl : H.obj l = some (.raw (tupO xs))) (hz : xs.length ≤ sizeLine)
    (h : ∀ r s', H.obj r = none → St c m (H.set r (rvO l ((xs.length : Int) - 1))) s' → Q (.ref r) s') : wpAny (model prog w) A (call (.type "reversed") [.ref l]) Q E s := by
  refine call_rv (S.isTup hl) (by simpa using fit64 hz) ?_
  obtain ⟨hp, g, dr, t, os⟩ := s
  exact h _ _ S.fresh (S.push _ (by intro _ _ q; cases q) fun D e => ⟨_, e, rfl, by simp [rvObj]⟩)
theorem listRevS {r l : Addr} {xs : List Value} {Q : Value → Shared → Prop} (hh : A.handled = none) (S : St c m H s) (hr : H.obj r = some (rvO l ((xs.length : Int) - 1))) (hl : H.obj l = some (.raw (tupO xs))) (h0 : 0 < xs.length) (hz : xs.length ≤ sizeLine)
    (h : ∀ D s', H.obj D = none → St c m ((H.del r).set D (.list xs.reverse)) s' → Q (.ref D) s') : wpAny (model prog w) A (call (.type "list") [.ref r]) Q E s := by
  have hit : IsRv s.heap r l ((xs.toArray.size : Int) - 1) := by
    obtain ⟨D, R⟩ := S.rep
    obtain ⟨⟨o, a, b, c⟩, _⟩ := R.at_ r _ hr
    exact ⟨o, a, b, by simpa using c⟩
  have hne : l ≠ r := by rintro rfl; rw [hl] at hr; cases hr
  refine call_list_rv hh hit (S.isTup hl) (by simpa using h0) (by simpa using hz) hne fun s' acc c' hm hS hacc => ?_
  have e : acc.toList = xs.reverse := by
    obtain ⟨z, f⟩ := hacc
    simp only [List.size_toArray] at z f
    refine List.ext_getElem? fun i => ?_
    rw [Array.getElem?_toList]
    cases q : acc[i]? with
    | none =>
      have : acc.size ≤ i := by simpa using q
      rw [List.getElem?_eq_none (by simp; omega)]
    | some v =>
      have lt : i < acc.size := (Array.getElem?_eq_some_iff.mp q).1
      have fv := f i v q
      rw [List.getElem?_reverse (by omega)]
      simp only [List.getElem?_toArray] at fv
      exact fv.symm
  have S1 := (show St c m H ⟨s.heap, s.gens, s.drawn, s.toks, s.os⟩ from S).push (o := { cls := .type "list", data := .seq #[] }) (ao := .list []) s.toks (by intro _ _ q; cases q) (fun _ e => ⟨0, e⟩)
  have hD : H.obj s.heap.objs.size = none := S.fresh
  have nr : s.heap.objs.size ≠ r := Ne.symm (ne_of_none hr hD)
  have S2 := S1.two (a := s.heap.objs.size) (b := r) (ao' := .list xs.reverse) (h' := s'.heap) (tk := s'.toks) AH.set_same ((AH.set_ne (Ne.symm nr)).trans hr) nr (by intro _ _ q; cases q) (by intro _ _ q; cases q)
    (fun x o hx hx' e => hm.heap x o (by simp [hx, hx']) e) (fun D => ⟨c', by rw [hS, ← e]⟩)
  rw [AH.del_set_ne nr, AH.set_set] at S2
  refine h _ _ hD ?_
  obtain ⟨hp, g, dr, t, os⟩ := s'
  have g1 : g = s.gens := hm.gens
  have g2 : dr = s.drawn := hm.drawn
  have g3 : os = s.os := hm.os
  subst g1 g2 g3
  exact S2
theorem tupOfList {l : Addr} {xs : List Value} {Q : Value → Shared → Prop} (S : St c m H s) (hl : H.obj l = some (.list xs)) (hz : xs.length ≤ sizeLine)
    (h : ∀ r s', H.obj r = none → St c m (H.set r (.raw (tupO xs))) s' → Q (.ref r) s') : wpAny (model prog w) A (call (.type "tuple") [.ref l]) Q E s := by
  refine call_tuple_list (S.isList hl) (fun h' k => ?_) (by simpa using hz)
  have S1 := S.grown (tk := s.toks) k
  exact h _ _ S1.fresh (S1.push _ (by intro _ _ q; cases q) fun _ e => e)
end
end

section
theorem AH.Le.refl (H : AH) : H.Le H := ⟨fun _ _ e => e, rfl⟩
theorem AH.Le.trans {H K L : AH} (a : H.Le K) (b : K.Le L) : H.Le L := ⟨fun x ao e => b.1 x ao (a.1 x ao e), a.2.trans b.2⟩
theorem AH.Le.set {H K : AH} {a : Addr} {x : AO} (l : H.Le K) (h : H.obj a = none) : H.Le (K.set a x) := ⟨fun b ao e => by
  rw [AH.set_ne (by rintro rfl; rw [h] at e; cases e)]; exact l.1 b ao e, l.2⟩
theorem AH.Le.del {H K : AH} {a : Addr} (l : H.Le K) (h : H.obj a = none) : H.Le (K.del a) := ⟨fun b ao e => by
  rw [AH.del_ne (by rintro rfl; rw [h] at e; cases e)]; exact l.1 b ao e, l.2⟩
theorem AH.del_le {H : AH} {a : Addr} : (H.del a).Le H := ⟨fun b ao e => by
  rw [AH.del_ne (by rintro rfl; rw [AH.del_same] at e; cases e)] at e; exact e, rfl⟩
theorem AH.del_mono {H K : AH} {a : Addr} (l : H.Le K) : (H.del a).Le (K.del a) := ⟨fun b ao e => by
  have hb : b ≠ a := by rintro rfl; rw [AH.del_same] at e; cases e
  rw [AH.del_ne hb] at e ⊢; exact l.1 b ao e, l.2⟩
theorem AH.Le.none {H K : AH} {a : Addr} (l : H.Le K) (h : K.obj a = none) : H.obj a = none := by
  cases q : H.obj a with
  | none => rfl
  | some x => rw [l.1 _ _ q] at h; cases h
theorem AH.Le.none_del {H K : AH} {a b : Addr} (l : (H.del b).Le K) (h : K.obj a = Option.none) (n : a ≠ b) : H.obj a = Option.none := by
  have := l.none h
  rwa [AH.del_ne n] at this
theorem AH.Le.setdel {H K : AH} {a : Addr} {x : AO} (n : H.obj a = Option.none) (l : ((H.set a x).del a).Le K) : H.Le K := by rwa [AH.del_set n] at l
theorem AH.Le.up {H K : AH} {a : Addr} {x : AO} (l : H.Le K) (e : H.obj a = some x) : K.obj a = some x := l.1 a x e
theorem AH.le_set {H : AH} {a : Addr} {x : AO} (h : H.obj a = none) : H.Le (H.set a x) := (AH.Le.refl H).set h
def AH.less (H : AH) (xs : List Addr) : AH := ⟨fun b => if b ∈ xs then none else H.obj b, H.gens⟩
theorem AH.less_obj {H : AH} {xs : List Addr} {b : Addr} (h : b ∉ xs) : (H.less xs).obj b = H.obj b := if_neg h
theorem AH.less_in {H : AH} {xs : List Addr} {b : Addr} (h : b ∈ xs) : (H.less xs).obj b = none := if_pos h
theorem AH.less_le {H K : AH} {xs : List Addr} (l : H.Le K) : (H.less xs).Le (K.less xs) := ⟨fun b ao e => by
  by_cases q : b ∈ xs
  · rw [AH.less_in q] at e; cases e
  · rw [AH.less_obj q] at e ⊢; exact l.1 b ao e, l.2⟩
theorem AH.less_set {H : AH} {xs : List Addr} {a : Addr} {x : AO} (h : a ∈ xs) : (H.set a x).less xs = H.less xs := by
  apply AH.ext'
  · intro b
    by_cases q : b ∈ xs
    · rw [AH.less_in q, AH.less_in q]
    · rw [AH.less_obj q, AH.less_obj q, AH.set_ne (by rintro rfl; exact q h)]
  · rfl
theorem AH.less_del {H : AH} {xs : List Addr} {a : Addr} (h : a ∈ xs) : (H.del a).less xs = H.less xs := by
  apply AH.ext'
  · intro b
    by_cases q : b ∈ xs
    · rw [AH.less_in q, AH.less_in q]
    · rw [AH.less_obj q, AH.less_obj q, AH.del_ne (by rintro rfl; exact q h)]
  · rfl
theorem AH.less_ge {H K : AH} {xs : List Addr} (l : H.Le K) (h : ∀ a ∈ xs, H.obj a = none) : H.Le (K.less xs) := ⟨fun b ao e => by
  rw [AH.less_obj (fun q => by rw [h b q] at e; cases e)]; exact l.1 b ao e, l.2⟩

theorem AH.less_del_le {H : AH} {a : Addr} {xs : List Addr} (h : a ∈ xs) : (H.less xs).Le (H.del a) := ⟨fun b ao e => by
  by_cases q : b ∈ xs
  · rw [AH.less_in q] at e; cases e
  · rw [AH.less_obj q] at e; rw [AH.del_ne (by rintro rfl; exact q h)]; exact e, rfl⟩
theorem AH.less_up {H K : AH} {a : Addr} {xs : List Addr} {x : AO} (l : (H.less xs).Le K) (h : a ∉ xs) (e : H.obj a = some x) : K.obj a = some x := l.1 a x ((AH.less_obj h).trans e)
theorem AH.none_set {H : AH} {a b : Addr} {x : AO} (h : (H.set a x).obj b = none) : H.obj b = none := by
  by_cases q : b = a
  · subst q; rw [AH.set_same] at h; cases h
  · rwa [AH.set_ne q] at h
theorem AH.none_of_none {H : AH} {a b : Addr} (h : H.obj b = none) : (H.del a).obj b = none := by
  by_cases q : b = a
  · subst q; exact AH.del_same
  · rw [AH.del_ne q, h]
/-- objects that are told, and are not the same -/
def Tl (H : AH) (xs : List Addr) : Prop := xs.Pairwise (· ≠ ·) ∧ ∀ a ∈ xs, (H.obj a).isSome
inductive Pr (a b : Addr) : List Addr → Prop
  | hd {xs} : b ∈ xs → Pr a b (a :: xs)
  | hd' {xs} : a ∈ xs → Pr a b (b :: xs)
  | tl {x xs} : Pr a b xs → Pr a b (x :: xs)
theorem Tl.ne {H : AH} {xs : List Addr} {a b : Addr} (Y : Tl H xs) (p : Pr a b xs) : a ≠ b := by
  have y := Y.1
  clear Y
  induction p with
  | hd h => exact (List.pairwise_cons.mp y).1 _ h
  | hd' h => exact Ne.symm ((List.pairwise_cons.mp y).1 _ h)
  | tl _ ih => exact ih (List.pairwise_cons.mp y).2
theorem Tl.nil {H : AH} : Tl H [] := ⟨.nil, by simp⟩
theorem Tl.one {H : AH} {a : Addr} {x : AO} (h : H.obj a = some x) : Tl H [a] := ⟨by simp, by simp [h]⟩
theorem Tl.two {H : AH} {a b : Addr} {x y : AO} (h : H.obj a = some x) (h' : H.obj b = some y) (n : a ≠ b) : Tl H [a, b] := ⟨by simp [n], by simp [h, h']⟩
theorem Tl.three {H : AH} {a b c : Addr} {x y z : AO} (h : H.obj a = some x) (h' : H.obj b = some y) (h'' : H.obj c = some z) (n : a ≠ b) (n' : a ≠ c) (n'' : b ≠ c) : Tl H [a, b, c] := ⟨by simp [n, n', n''], by simp [h, h', h'']⟩
theorem Tl.set {H : AH} {xs : List Addr} {a : Addr} {x : AO} (Y : Tl H xs) : Tl (H.set a x) xs := ⟨Y.1, fun b hb => by
  by_cases q : b = a
  · subst q; rw [AH.set_same]; rfl
  · rw [AH.set_ne q]; exact Y.2 b hb⟩
theorem Tl.new {H : AH} {xs : List Addr} {a : Addr} {x : AO} (Y : Tl H xs) (h : H.obj a = none) : Tl (H.set a x) (a :: xs) := ⟨List.pairwise_cons.mpr ⟨fun b hb q => (by
  have := Y.2 b hb
  rw [← q, h] at this
  exact Bool.noConfusion this), Y.1⟩, fun b hb => by
  rcases List.mem_cons.mp hb with rfl | hb
  · rw [AH.set_same]; rfl
  · exact (Y.set (a := a) (x := x)).2 b hb⟩
theorem Tl.le {H K : AH} {xs : List Addr} (l : H.Le K) (Y : Tl H xs) : Tl K xs := ⟨Y.1, fun b hb => by
  obtain ⟨x, e⟩ := Option.isSome_iff_exists.mp (Y.2 b hb)
  rw [l.1 _ _ e]; rfl⟩
theorem Tl.dle {H K : AH} {xs : List Addr} {a : Addr} {x : AO} (l : (H.del a).Le K) (e : K.obj a = some x) (Y : Tl H xs) : Tl K xs := ⟨Y.1, fun b hb => by
  by_cases q : b = a
  · subst q; rw [e]; rfl
  · obtain ⟨y, f⟩ := Option.isSome_iff_exists.mp (Y.2 b hb)
    rw [l.1 _ _ ((AH.del_ne q).trans f)]; rfl⟩
/-- what was not told before -/
theorem Tl.add {H K : AH} {xs : List Addr} {a : Addr} {x : AO} (Y : Tl H xs) (h : H.obj a = none) (Z : Tl K xs) (e : K.obj a = some x) : Tl K (a :: xs) := ⟨List.pairwise_cons.mpr ⟨fun b hb q => (by
  have := Y.2 b hb
  rw [← q, h] at this
  exact Bool.noConfusion this), Y.1⟩, fun b hb => by
  rcases List.mem_cons.mp hb with rfl | hb
  · rw [e]; rfl
  · exact Z.2 b hb⟩
theorem Tl.add2 {H K : AH} {xs : List Addr} {a b : Addr} {x y : AO} (Y : Tl H xs) (ha : H.obj a = none) (hb : H.obj b = none) (n : a ≠ b) (Z : Tl K xs) (e : K.obj a = some x) (e' : K.obj b = some y) : Tl K (b :: a :: xs) :=
  ⟨List.pairwise_cons.mpr ⟨fun c hc q => (by
    rcases List.mem_cons.mp hc with rfl | hc
    · exact n q.symm
    · have := Y.2 c hc
      rw [← q, hb] at this
      exact Bool.noConfusion this), (Y.add ha Z e).1⟩, fun c hc => by
    rcases List.mem_cons.mp hc with rfl | hc
    · rw [e']; rfl
    · exact (Y.add ha Z e).2 c hc⟩
theorem Tl.tail {H : AH} {xs : List Addr} {a : Addr} (Y : Tl H (a :: xs)) : Tl H xs := ⟨(List.pairwise_cons.mp Y.1).2, fun b hb => Y.2 b (.tail _ hb)⟩
theorem Tl.del {H : AH} {xs : List Addr} {a : Addr} (Y : Tl H (a :: xs)) : Tl (H.del a) xs := ⟨(List.pairwise_cons.mp Y.1).2, fun b hb => by
  rw [AH.del_ne (Ne.symm ((List.pairwise_cons.mp Y.1).1 b hb))]; exact Y.2 b (.tail _ hb)⟩

section
variable {prog : Program} {w : World} {K : Frag} {T : Tp} {A : Around} {c : Cx} {m : Loc} {H : AH} {s : Shared} {E : Value → Shared → Prop} {d u : Nat} {R : Result → Shared → Prop}
theorem Tl.newS {xs : List Addr} {a : Addr} {x : AO} (_S : St c m (H.set a x) s) (h : H.obj a = none) (Y : Tl H xs) : Tl (H.set a x) (a :: xs) := Y.new h
/-- what the element's walk is given and owes -/
structure El (c : Cx) (m : Loc) (H₀ : AH) (it D C : Addr) (x : Str) (v : Value) (K : AH) (s : Shared) : Prop where
  st : St c m K s
  le : H₀.Le K
  it' : (K.obj it).isSome
  D' : (K.obj D).isSome
  C' : K.obj C = some (.ns [(x, v)])
def ElQ (c : Cx) (m : Loc) (it D C : Addr) (P : Value → AH → Prop) (K : AH) (v : Value) (s : Shared) : Prop := ∃ K', K.Le K' ∧ P v (K'.less [it, D, C]) ∧ St c m K' s

theorem compBlock {elt iter : Expr} {x : Str} {px : Pos} {scope : Scope} {cl : List (Str × Addr)} {pos : Pos} {H₀ : AH} {it : Addr} {a : Int} {N : Nat} (P : Nat → Value → AH → Prop) {RR : Value → Addr → Result → Shared → Prop}
    (hh : A.handled = none) (S : St c m (H₀.set it (ritO a N)) s) (hit : H₀.obj it = none) (hN : N ≤ sizeLine)
    (hcell : ∀ y ∈ scope.names, y.2 ≠ .cell) (hkind : scope.kind = .function) (hx : scope.names.lookup x = some .local)
    (mono : ∀ i v K K', K.Le K' → P i v K → P i v K')
    (helt : ∀ D C i tk K s E', i < N → H₀.obj D = none → H₀.obj C = none → El c m H₀ it D C x (.int (a + (i : Int)) tk) K s → wpAny (model prog w) A (eval elt (compEnvC scope cl C c.env)) (ElQ c m it D C (P i) K) E' s)
    (hR : ∀ D C vs mC K s', H₀.Le K → H₀.obj D = none → K.obj D = none → K.obj C = none → D ≠ C → vs.length = N → (∀ (j : Nat) v, vs[j]? = some v → P j v K) → St c m ((K.set D (.list vs)).set C (.ns mC)) s' → RR (.ref D) C (.ok .next) s') :
    wpAny (model prog w) A (newList []) (fun acc s₃ => wpAny (model prog w) A (newFunctionEnv scope c.env.globals cl [] c.env.qual none .none (some c.env)) (fun cenv s₄ =>
      codeAny (model prog w) A (.compStart (.ListComp elt [⟨.Name x px, iter, [], 0⟩] scope pos) 0 (.ref it) acc { cenv with scope := relabel scope c.env }) (RR acc cenv.locals) s₄) E s₃) E s := by
  refine newListS S (Nat.zero_le _) fun D s₁ hD S₁ => ?_
  refine wpAny_newFunctionEnv hcell (by intro y hy; simp at hy) (fun h₁ hns hsb => ?_) hkind
  have k₁ : ∀ b o, s₁.heap.get? b = some o → h₁.get? b = some o := fun b o e => hsb.extBut b o (Nat.ne_of_lt (Heap.lt_size e)) (Heap.get?_push_of_some _ e)
  obtain ⟨hC, S₂⟩ := S₁.more (a := s₁.heap.objs.size) (ao := .ns []) (h' := h₁) (tk := s₁.toks + ([] : List (Str × Value)).length) (by intro _ _ q; cases q) k₁ (Nat.le_refl _) (fun _ => hns)
  have hD0 : H₀.obj D = none := by rw [AH.set_ne (by rintro rfl; rw [AH.set_same] at hD; cases hD)] at hD; exact hD
  have nDi : D ≠ it := by rintro rfl; rw [AH.set_same] at hD; cases hD
  have nCD : s₁.heap.objs.size ≠ D := by intro q; rw [q, AH.set_same] at hC; cases hC
  have nCi : s₁.heap.objs.size ≠ it := by
    intro q
    rw [q, AH.set_ne (Ne.symm nDi), AH.set_same] at hC; cases hC
  have hC0 : H₀.obj s₁.heap.objs.size = none := by rw [AH.set_ne nCD, AH.set_ne nCi] at hC; exact hC
  show codeAny (model prog w) A (.compStart (.ListComp elt [⟨.Name x px, iter, [], 0⟩] scope pos) 0 (.ref it) (.ref D) (compEnvC scope cl s₁.heap.objs.size c.env)) (RR (.ref D) s₁.heap.objs.size) _
  generalize s₁.heap.objs.size = C at hC S₂ nCD nCi hC0 ⊢
  have inL : ∀ b ∈ [it, D, C], H₀.obj b = none := by
    intro b hb
    simp only [List.mem_cons, List.not_mem_nil, or_false] at hb
    rcases hb with rfl | rfl | rfl
    · exact hit
    · exact hD0
    · exact hC0
  have loop : ∀ s, St c m (((H₀.set it (ritO a N)).set D (.list [])).set C (.ns [])) s →
      codeAny (model prog w) A (.compLoop (.ListComp elt [⟨.Name x px, iter, [], 0⟩] scope pos) 0 (.ref it) (.ref D) (compEnvC scope cl C c.env)) (RR (.ref D) C) s := by
    intro s S₂
    refine codeAny_compLoop_list (fun n s => ∃ i K vs mC, i ≤ N ∧ n = N - i ∧ H₀.Le (K.less [it, D, C]) ∧ K.obj it = some (ritO (a + i) ((N : Int) - i)) ∧ K.obj D = some (.list vs) ∧ K.obj C = some (.ns mC) ∧ (∀ v, put x v mC = [(x, v)]) ∧ vs.length = i ∧
      (∀ (j : Nat) v, vs[j]? = some v → P j v (K.less [it, D, C])) ∧ St c m K s) ?_ N ⟨0, _, [], [], Nat.zero_le _, rfl, ?_, ?_, ?_, AH.set_same, fun _ => rfl, rfl, by intro j v q; simp at q, S₂⟩
    rotate_left
    · rw [AH.less_set (by simp), AH.less_set (by simp), AH.less_set (by simp)]; exact AH.less_ge (AH.Le.refl _) inL
    · rw [AH.set_ne (Ne.symm nCi), AH.set_ne (Ne.symm nDi), AH.set_same]; simp
    · rw [AH.set_ne (Ne.symm nCD), AH.set_same]
    rintro n s ⟨i, K, vs, mC, hi, rfl, hle, hKi, hKD, hKC, hput, hlen, hP, S⟩
    refine nextRange hh S hKi (fun hv tk s' S' => ?_) (fun hv s' S' => ?_)
    · have hlt : i < N := by omega
      have e : ritO (a + ↑i + 1) (↑N - ↑i - 1) = ritO (a + (i + 1 : Nat)) ((N : Int) - (i + 1 : Nat)) := by
        rw [show a + (i : Int) + 1 = a + ((i + 1 : Nat) : Int) by omega, show (N : Int) - i - 1 = (N : Int) - ((i + 1 : Nat) : Int) by omega]
      rw [e] at S'
      have hC1 : (K.set it (ritO (a + (i + 1 : Nat)) ((N : Int) - (i + 1 : Nat)))).obj C = some (.ns mC) := (AH.set_ne nCi).trans hKC
      obtain ⟨D', R'⟩ := S'.rep
      have hn := (R'.at_ C _ hC1).1
      refine wpAny_assign_Name (wpAny_storeName_local (lookup_relabel_local hx) hn (fun h₂ hn₂ hs₂ => ?_) (by simp [compEnvC, relabel, hkind]))
      have S3 := S'.change (a := C) (ao := .ns mC) (ao' := .ns [(x, .int (a + (i : Int)) tk)]) (h' := h₂) (tk := s'.toks + 1) hC1 (by intro _ _ q; cases q) hs₂ (fun _ => by
        show h₂.Ns C (fun y => [(x, Value.int (a + (i : Int)) tk)].lookup y)
        have e : (fun y => [(x, Value.int (a + (i : Int)) tk)].lookup y) = fun y => if y = x then some (.int (a + (i : Int)) tk) else mC.lookup y := by
          rw [← hput]; exact funext fun y => lookup_put x _ mC y
        rw [e]; exact hn₂)
      generalize hK3 : (K.set it (ritO (a + (i + 1 : Nat)) ((N : Int) - (i + 1 : Nat)))).set C (.ns [(x, .int (a + (i : Int)) tk)]) = K3 at S3
      have f1 : K3.obj it = some (ritO (a + (i + 1 : Nat)) ((N : Int) - (i + 1 : Nat))) := by rw [← hK3, AH.set_ne (Ne.symm nCi), AH.set_same]
      have f2 : K3.obj D = some (.list vs) := by rw [← hK3, AH.set_ne (Ne.symm nCD), AH.set_ne nDi]; exact hKD
      have f3 : K3.obj C = some (.ns [(x, .int (a + (i : Int)) tk)]) := by rw [← hK3, AH.set_same]
      have f4 : K3.less [it, D, C] = K.less [it, D, C] := by rw [← hK3, AH.less_set (by simp), AH.less_set (by simp)]
      have f5 : H₀.Le K3 := ⟨fun b ao e => by
        have := hle.1 b ao e
        have nb : b ∉ [it, D, C] := fun q => by rw [inL b q] at e; cases e
        rw [← f4, AH.less_obj nb] at this; exact this, hle.2.trans (by rw [← hK3]; rfl)⟩
      refine wpAny_mono (helt D C i tk K3 _ _ hlt hD0 hC0 ⟨S3, f5, by rw [f1]; rfl, by rw [f2]; rfl, f3⟩) (fun v s₄ h₄ => ?_) fun _ _ x => x
      obtain ⟨K', l', p', S4⟩ := h₄
      have hsz : vs.length ≤ sizeLine := by omega
      refine appendS S4 (l'.1 _ _ f2) hsz fun s₅ S5 => ?_
      have f6 : (K'.set D (.list (vs ++ [v]))).less [it, D, C] = K'.less [it, D, C] := AH.less_set (by simp)
      refine ⟨_, by omega, i + 1, _, vs ++ [v], [(x, .int (a + (i : Int)) tk)], hlt, rfl, ?_, ?_, AH.set_same, ?_, fun _ => by simp [put], by simp [hlen], fun j v' q => ?_, S5⟩
      · rw [f6]; exact (f4 ▸ hle).trans (AH.less_le l')
      · rw [AH.set_ne (Ne.symm nDi)]; exact l'.1 _ _ f1
      · rw [AH.set_ne nCD]; exact l'.1 _ _ f3
      · rw [f6]
        by_cases q' : j < vs.length
        · rw [List.getElem?_append_left q'] at q
          exact mono j v' _ _ (AH.less_le l') (f4 ▸ hP j v' q)
        · have q2 : j = vs.length := by
            have : j < (vs ++ [v]).length := by
              rcases Nat.lt_or_ge j (vs ++ [v]).length with z | z
              · exact z
              · rw [List.getElem?_eq_none z] at q; cases q
            simp at this; omega
          subst q2
          rw [List.getElem?_append_right (Nat.le_refl _)] at q
          simp at q; subst q
          rw [hlen]; exact p'
    · have hge : i = N := by omega
      refine hR D C vs mC (K.less [it, D, C]) s' hle hD0 (AH.less_in (by simp)) (AH.less_in (by simp)) (Ne.symm nCD) (hlen.trans hge) hP (S'.eq ?_)
      apply AH.ext'
      · intro b
        by_cases q1 : b = it
        · subst q1; rw [AH.del_same, AH.set_ne (Ne.symm nCi), AH.set_ne (Ne.symm nDi), AH.less_in (by simp)]
        · rw [AH.del_ne q1]
          by_cases q2 : b = C
          · subst q2; rw [AH.set_same]; exact hKC
          · rw [AH.set_ne q2]
            by_cases q3 : b = D
            · subst q3; rw [AH.set_same]; exact hKD
            · rw [AH.set_ne q3, AH.less_obj (by simp [q1, q2, q3])]
      · rfl
  have fi : (((H₀.set it (ritO a N)).set D (.list [])).set C (.ns [])).obj it = some (ritO a N) := by rw [AH.set_ne (Ne.symm nCi), AH.set_ne (Ne.symm nDi), AH.set_same]
  exact codeAny_compStart_list (loop _ S₂) (wpAny_pyIter_rangeiter (S₂.raw fi) (loop _ S₂))

/-- a list comprehension over a range -/
theorem listComp {elt iter : Expr} {x : Str} {px : Pos} {scope : Scope} {cl : List (Str × Addr)} {pos : Pos} {Q : Value → Shared → Prop} (P : Nat → Value → AH → Prop)
    (hclos : closureFor scope c.env = pure cl) (hcell : ∀ y ∈ scope.names, y.2 ≠ .cell) (hkind : scope.kind = .function)
    (hnames : ∀ y ∈ scope.names, y.2 = .local → scope.names.lookup y.1 = some .local) (hx : scope.names.lookup x = some .local) (hh : A.handled = none)
    (mono : ∀ i v K K', K.Le K' → P i v K → P i v K')
    (h : wpAny (model prog w) A (eval iter c.env) (fun xv s₁ => wpAny (model prog w) A (pyIter xv) (fun itv s₂ => ∃ it H₀ a N, itv = .ref it ∧ St c m (H₀.set it (ritO a N)) s₂ ∧ H₀.obj it = none ∧ N ≤ sizeLine ∧
      (∀ D C i tk K s E', i < N → H₀.obj D = none → H₀.obj C = none → El c m H₀ it D C x (.int (a + (i : Int)) tk) K s → wpAny (model prog w) A (eval elt (compEnvC scope cl C c.env)) (ElQ c m it D C (P i) K) E' s) ∧
      (∀ D vs K s', H₀.Le K → H₀.obj D = none → K.obj D = none → vs.length = N → (∀ (j : Nat) v, vs[j]? = some v → P j v K) → St c m (K.set D (.list vs)) s' → Q (.ref D) s')) E s₁) E s)
    (hs : ∀ x, foldedSetIterable iter c.env x = pure x := by intro _; rfl) :
    wpAny (model prog w) A (eval (.ListComp elt [⟨.Name x px, iter, [], 0⟩] scope pos) c.env) Q E s := by
  rw [eval_ListComp]
  refine wpAny_comprehension_free (use := none) rfl hs hclos hkind hnames (wpAny_mono h (fun xv s₁ h₁ => wpAny_mono h₁ (fun itv s₂ h₂ => ?_) fun _ _ e => e) fun _ _ e => e)
  obtain ⟨it, H₀, a, N, rfl, S, hit, hN, helt, hQ⟩ := h₂
  refine compBlock P (RR := fun acc C => compPost (model prog w) A E none Q acc C) hh S hit hN hcell hkind hx mono helt ?_
  intro D C vs mC K s' hle hD hKD hKC nDC hlen hP S'
  obtain ⟨D', R'⟩ := S'.rep
  refine ⟨_, (R'.at_ C _ AH.set_same).1, fun h' hs' => ?_⟩
  have S2 := S'.drop (a := C) (h' := h') (tk := s'.toks) AH.set_same (by intro _ _ q; cases q) (fun b o hb e => (hs'.2 b hb).trans e)
  rw [AH.del_set ((AH.set_ne (Ne.symm nDC)).trans hKC)] at S2
  exact hQ D vs K _ hle hD hKD hlen hP S2

/-- the same, bound to a local name -/
theorem ex_assignComp {elt iter : Expr} {x y : Str} {px py : Pos} {scope : Scope} {cl : List (Str × Addr)} {pos spos : Pos} {rest : List Stmt} {Q : Flow → Shared → Prop} (P : Nat → Value → AH → Prop)
    (hsw : swapsWith (.ListComp elt [⟨.Name x px, iter, [], 0⟩] scope pos) (some (.Name y py)) spos.line c.env = pure true)
    (hclos : closureFor scope c.env = pure cl) (hcell : ∀ y ∈ scope.names, y.2 ≠ .cell) (hkind : scope.kind = .function)
    (hnames : ∀ y ∈ scope.names, y.2 = .local → scope.names.lookup y.1 = some .local) (hx : scope.names.lookup x = some .local) (hh : A.handled = none)
    (hy : c.env.kindOf y = some .local) (hk : c.cs.kind = .function)
    (mono : ∀ i v K K', K.Le K' → P i v K → P i v K')
    (h : wpAny (model prog w) A (eval iter c.env) (fun xv s₁ => wpAny (model prog w) A (pyIter xv) (fun itv s₂ => ∃ it H₀ a N, itv = .ref it ∧ St c m (H₀.set it (ritO a N)) s₂ ∧ H₀.obj it = none ∧ N ≤ sizeLine ∧
      (∀ D C i tk K s E', i < N → H₀.obj D = none → H₀.obj C = none → El c m H₀ it D C x (.int (a + (i : Int)) tk) K s → wpAny (model prog w) A (eval elt (compEnvC scope cl C c.env)) (ElQ c m it D C (P i) K) E' s) ∧
      (∀ D vs K s', H₀.Le K → H₀.obj D = none → K.obj D = none → vs.length = N → (∀ (j : Nat) v, vs[j]? = some v → P j v K) → St c (put y (.ref D) m) (K.set D (.list vs)) s' → wpAny (model prog w) A (execs rest c.env) Q E s')) E s₁) E s)
    (hs : ∀ x, foldedSetIterable iter c.env x = pure x := by intro _; rfl) :
    wpAny (model prog w) A (execs (.Assign [.Name y py] (.ListComp elt [⟨.Name x px, iter, [], 0⟩] scope pos) spos :: rest) c.env) Q E s := by
  refine ex_cons ?_
  rw [exec_Assign_Name_used _ _ _ _ hsw]
  refine wpAny_bind (wpAny_standAt (wpAny_bind ?_))
  show wpAny _ A (do let _ ← comprehension (.ListComp elt [⟨.Name x px, iter, [], 0⟩] scope pos) scope c.env _ (newList []) false (eval iter c.env) (some (assign (.Name y py) c.env))) _ _ s
  refine wpAny_bind (wpAny_mono (wpAny_comprehension_free (use := some (assign (.Name y py) c.env)) (Q := fun _ s' => wpAny (model prog w) A (execs rest c.env) Q E s') rfl hs hclos hkind hnames
    (wpAny_mono h (fun xv s₁ h₁ => wpAny_mono h₁ (fun itv s₂ h₂ => ?_) fun _ _ e => e) fun _ _ e => e)) (fun _ s' hq => wpAny_pure (wpAny_pure hq)) fun _ _ e => e)
  obtain ⟨it, H₀, a, N, rfl, S, hit, hN, helt, hQ⟩ := h₂
  refine compBlock P (RR := fun acc C => compPost (model prog w) A E (some (assign (.Name y py) c.env)) (fun _ s' => wpAny (model prog w) A (execs rest c.env) Q E s') acc C) hh S hit hN hcell hkind hx mono helt ?_
  intro D C vs mC K s' hle hD hKD hKC nDC hlen hP S'
  show wpAny _ A (assign (.Name y py) c.env (.ref D)) _ _ _
  refine asName (storeL S' hy (fun s'' S'' => ?_) hk)
  obtain ⟨D', R'⟩ := S''.rep
  refine ⟨_, (R'.at_ C _ AH.set_same).1, fun h' hs' => ?_⟩
  have S2 := S''.drop (a := C) (h' := h') (tk := s''.toks) AH.set_same (by intro _ _ q; cases q) (fun b o hb e => (hs'.2 b hb).trans e)
  rw [AH.del_set ((AH.set_ne (Ne.symm nDC)).trans hKC)] at S2
  exact hQ D vs K _ hle hD hKD hlen hP S2
end
end

section
section
variable {prog : Program} {w : World} {K : Frag} {T : Tp} {A : Around} {c : Cx} {m : Loc} {H : AH} {s : Shared} {E : Value → Shared → Prop} {d u : Nat} {R : Result → Shared → Prop} {env : Env} {rest : List Stmt}
/-! names of a comprehension, and cells -/
theorem nameCL {scope : Scope} {cl : List (Str × Addr)} {C : Addr} {mC : Loc} {x pos v} {Q : Value → Shared → Prop} (S : St c m H s) (hC : H.obj C = some (.ns mC)) (hk : scope.kind = .function) (hx : (compEnvC scope cl C c.env).kindOf x = some .local) (hv : mC.lookup x = some v) (h : Q v s)
    (hd : (x == ("__debug__" : Str)) = false := by decide) : wpAny (model prog w) A (eval (.Name x pos) (compEnvC scope cl C c.env)) Q E s := by
  obtain ⟨D, R⟩ := S.rep
  exact wpAny_Name (wpAny_loadName_local (by simp [compEnvC, relabel, hk]) hx (R.at_ C _ hC).1 hv h) hd
theorem nameCK {scope : Scope} {cl : List (Str × Addr)} {C : Addr} {x pos v} {Q : Value → Shared → Prop} (O : Ok K T A c d u) (S : St c m H s) (hx : (compEnvC scope cl C c.env).kindOf x = some .globalImplicit) (e : nsIn K mainGlobals x = some (some v)) (h : Q v s) (hk : scope.kind = .function := by rfl)
    (hd : (x == ("__debug__" : Str)) = false := by decide) : wpAny (model prog w) A (eval (.Name x pos) (compEnvC scope cl C c.env)) Q E s :=
  Name_function_global (by simp [compEnvC, relabel, hk]) hx (loadGlobal_global (env := compEnvC scope cl C c.env) (topS O S).g (mg_of (inK O S) (topS O S).g e) h) hd
theorem nameCB {scope : Scope} {cl : List (Str × Addr)} {C : Addr} {x pos v} {Q : Value → Shared → Prop} (O : Ok K T A c d u) (S : St c m H s) (hx : (compEnvC scope cl C c.env).kindOf x = some .globalImplicit) (e : nsIn K mainGlobals x = some none) (hv : bootBuiltins x = some v) (hn : x ≠ "__name__") (h : Q v s) (hk : scope.kind = .function := by rfl)
    (hd : (x == ("__debug__" : Str)) = false := by decide) : wpAny (model prog w) A (eval (.Name x pos) (compEnvC scope cl C c.env)) Q E s :=
  Name_function_global (by simp [compEnvC, relabel, hk]) hx (loadGlobal_builtin (env := compEnvC scope cl C c.env) (topS O S).g (mg_none_of (inK O S) (topS O S).g e) (topS O S).b (((topS O S).builtins x hn).trans hv) h) hd
theorem nameCell {x pos v} {ca : Addr} {Q : Value → Shared → Prop} (S : St c m H s) (hk : env.scope.kind = .function) (hx : env.kindOf x = some .cell) (hc : env.cells.lookup x = some ca) (hv : H.obj ca = some (.cell (some v))) (h : Q v s)
    (hd : (x == ("__debug__" : Str)) = false := by decide) : wpAny (model prog w) A (eval (.Name x pos) env) Q E s := by
  obtain ⟨D, R⟩ := S.rep
  exact wpAny_Name (wpAny_loadName_cell hk hx hc (R.at_ ca _ hv).1 h) hd
theorem storeCell {x : Str} {v : Value} {ca : Addr} {v₀ : Option Value} {Q : Unit → Shared → Prop} (S : St c m H s) (hx : c.env.kindOf x = some .cell) (hc : c.cl.lookup x = some ca) (hv : H.obj ca = some (.cell v₀)) (h : ∀ s', St c m (H.set ca (.cell (some v))) s' → Q () s') (hk : c.cs.kind = .function := by rfl) :
    wpAny (model prog w) A (storeName c.env x v) Q E s := by
  obtain ⟨D, R⟩ := S.rep
  refine wpAny_storeName_cell hk hx hc (R.at_ ca _ hv).1 fun h' hv' hs => h _ (S.change (tk := s.toks) hv (by intro _ _ q; cases q) hs fun _ => hv')
/-! slices -/
theorem evSlice {lower upper step : Option Expr} {p : Pos} {Q : Value → Shared → Prop}
    (h : wpAny (model prog w) A (evalPart lower env) (fun l s₁ => wpAny (model prog w) A (evalPart upper env) (fun u s₂ => wpAny (model prog w) A (evalPart step env) (fun st s₃ =>
      Q (.ref s₃.heap.objs.size) { s₃ with heap := s₃.heap.push { cls := .type "slice", data := .fields #[l, u, st] } }) E s₂) E s₁) E s) :
    wpAny (model prog w) A (eval (.Slice lower upper step p) env) Q E s := wpAny_Slice h
theorem partSome {e : Expr} {Q : Value → Shared → Prop} (h : wpAny (model prog w) A (eval e env) Q E s) : wpAny (model prog w) A (evalPart (some e) env) Q E s := h
theorem partNone {Q : Value → Shared → Prop} (h : Q .none s) : wpAny (model prog w) A (evalPart none env) Q E s := wpAny_pure h
theorem slicePush {vl vu vk : Value} {Q : Value → Shared → Prop} (S : St c m H s) (h : ∀ sl s', H.obj sl = none → St c m (H.set sl (.fld (.type "slice") [vl, vu, vk])) s' → Q (.ref sl) s') :
    Q (.ref s.heap.objs.size) { s with heap := s.heap.push { cls := .type "slice", data := .fields #[vl, vu, vk] } } := by
  obtain ⟨hp, g, dr, t, os⟩ := s
  exact h _ _ S.fresh (S.push _ (by intro _ _ q; cases q) fun _ e => ⟨_, e, rfl, rfl⟩)
theorem sliceS {value slice : Expr} {l sl : Addr} {xs ys : List Value} {vl vu vk : Value} {lo hi st : Option Int} {ops : List Value} {Q : Value → Shared → Prop} (S : St c m H s) (hl : H.obj l = some (.list xs)) (hsl : H.obj sl = some (.fld (.type "slice") [vl, vu, vk]))
    (pl : IsPart vl lo) (pu : IsPart vu hi) (pk : IsPart vk st) (h0 : st ≠ some 0) (hz : xs.length ≤ sizeLine) (hy : (slicePick xs.toArray lo hi st).toList = ys)
    (h : ∀ r s', H.obj r = none → St c m (H.set r (.list ys)) s' → Q (.ref r) s')
    (hs : subscripted slice false (.ref l) (.ref sl) = operate ops (getItem (.ref l) (.ref sl)) := by with_unfolding_all rfl) :
    wpAny (model prog w) A (subscriptTail value slice (.ref l) (.ref sl)) Q E s := by
  have hS : s.heap.IsSliceOf sl vl vu vk := by
    obtain ⟨D, R⟩ := S.rep
    obtain ⟨⟨o, a, b, c⟩, _⟩ := R.at_ sl _ hsl
    exact ⟨o, a, b, by simpa using c⟩
  refine tail_any (S.isList hl).typeIs list_getitem_lookup (wpAny_getItem_list_slice (S.isList hl) hS pl pu pk h0 ?_ (by simpa using hz)) hs
  obtain ⟨hp, g, dr, t, os⟩ := s
  exact h _ _ S.fresh (S.push _ (by intro _ _ q; cases q) fun _ e => ⟨0, by rw [e, ← hy]⟩)
theorem sliceT {value slice : Expr} {l : Addr} {xs ys : List Value} {vl vu vk : Value} {lo hi st : Option Int} {Q : Value → Shared → Prop} (S : St c m H s) (hl : H.obj l = some (.list xs))
    (pl : IsPart vl lo) (pu : IsPart vu hi) (pk : IsPart vk st) (h0 : st ≠ some 0) (hz : xs.length ≤ sizeLine) (hy : (slicePick xs.toArray lo hi st).toList = ys)
    (h : ∀ r s', H.obj r = none → St c m (H.set r (.list ys)) s' → Q (.ref r) s')
    (hs : ∀ sl, ∃ ops, subscripted slice false (.ref l) (.ref sl) = operate ops (getItem (.ref l) (.ref sl)) := by intro _; exact ⟨_, by with_unfolding_all rfl⟩) :
    wpAny (model prog w) A (subscriptTail value slice (.ref l) (.ref s.heap.objs.size)) Q E { s with heap := s.heap.push { cls := .type "slice", data := .fields #[vl, vu, vk] } } := by
  refine slicePush (Q := fun v s' => wpAny (model prog w) A (subscriptTail value slice (.ref l) v) Q E s') S fun sl s' hsl S' => ?_
  obtain ⟨ops, e⟩ := hs sl
  refine sliceS (ops := ops) S' ((AH.set_ne (ne_of_none hl hsl)).trans hl) AH.set_same pl pu pk h0 hz hy (fun r s'' hr S'' => ?_) e
  have n : r ≠ sl := by rintro rfl; rw [AH.set_same] at hr; cases hr
  have hr' : H.obj r = none := by rw [AH.set_ne n] at hr; exact hr
  refine h r s'' hr' (S''.forget ⟨fun b ao q => ?_, rfl⟩)
  by_cases z : b = r
  · subst z; rw [AH.set_same] at q ⊢; exact q
  · rw [AH.set_ne z] at q ⊢
    rw [AH.set_ne (by rintro rfl; rw [hsl] at q; cases q)]; exact q
theorem listRevT {r l : Addr} {xs : List Value} {Q : Value → Shared → Prop} (hh : A.handled = none) (S : St c m (H.set r (rvO l ((xs.length : Int) - 1))) s) (hr : H.obj r = none) (hl : H.obj l = some (.raw (tupO xs))) (h0 : 0 < xs.length) (hz : xs.length ≤ sizeLine)
    (h : ∀ D s', H.obj D = none → St c m (H.set D (.list xs.reverse)) s' → Q (.ref D) s') : wpAny (model prog w) A (call (.type "list") [.ref r]) Q E s := by
  refine listRevS hh S AH.set_same ((AH.set_ne (ne_of_none hl hr)).trans hl) h0 hz fun D s' hD S' => ?_
  rw [AH.del_set hr] at S'
  refine h D s' ?_ S'
  rwa [AH.set_ne (by rintro rfl; rw [AH.set_same] at hD; cases hD)] at hD
def evens : List Value → List Value
  | [] => []
  | [x] => [x]
  | x :: _ :: r => x :: evens r
theorem evens_get : ∀ (xs : List Value) (k : Nat), (evens xs)[k]? = xs[2 * k]?
  | [], k => by simp [evens]
  | [x], 0 => rfl
  | [x], k + 1 => by simp [evens]; 
  | x :: y :: r, 0 => rfl
  | x :: y :: r, k + 1 => by
    show (evens r)[k]? = (x :: y :: r)[2 * (k + 1)]?
    rw [evens_get r k, show 2 * (k + 1) = 2 * k + 1 + 1 by omega]; rfl
theorem evens_length : ∀ xs : List Value, (evens xs).length = (xs.length + 1) / 2
  | [] => rfl
  | [x] => by simp [evens]
  | x :: y :: r => by simp [evens, evens_length r]; omega
theorem pick_evens (xs : List Value) : (slicePick xs.toArray none none (some 2)).toList = evens xs := by
  have e : sliceBounds none none (some 2) xs.length = (0, (xs.length : Int), 2) := by simp [sliceBounds]
  unfold slicePick
  rw [List.size_toArray, e]
  have e2 : sliceRange 0 (xs.length : Int) 2 = (List.range ((xs.length + 1) / 2)).map fun k => 2 * k := by
    unfold sliceRange
    have h1 : (2 : Int) > 0 := by decide
    simp only [h1, if_true]
    have h2 : (if (0 : Int) < (xs.length : Int) then ((xs.length : Int) - 0 + 2 - 1) / 2 else 0).toNat = (xs.length + 1) / 2 := by
      split
      · omega
      · omega
    rw [h2]
    apply List.map_congr_left
    intro k _
    omega
  rw [e2]
  have key : ∀ n, n ≤ (xs.length + 1) / 2 → ((List.range n).map fun k => 2 * k).filterMap (xs.toArray[·]?) = (evens xs).take n := by
    intro n
    induction n with
    | zero => intro _; simp
    | succ n ih =>
      intro hn
      rw [List.range_succ, List.map_append, List.filterMap_append, ih (by omega)]
      have lt : 2 * n < xs.length := by omega
      have q : (evens xs)[n]? = some xs[2 * n] := by rw [evens_get, List.getElem?_eq_getElem lt]
      rw [List.take_add_one, q]
      simp [lt]
  rw [key _ (Nat.le_refl _), List.take_of_length_le (by rw [evens_length]; omega)]
theorem pick_take (xs : List Value) (b : Nat) : (slicePick xs.toArray none (some (b : Int)) none).toList = xs.take b := by rw [slicePick_upto']
theorem pick_run (xs : List Value) (a b : Nat) (hb : b ≤ xs.length) (hab : a ≤ b) : (slicePick xs.toArray (some (a : Int)) (some (b : Int)) none).toList = (xs.drop a).take (b - a) := by rw [slicePick_run _ _ _ (by simpa using hb) hab]
/-! a store into a place -/
theorem ex_assignSub {o i pos' value pos} {Q : Flow → Shared → Prop}
    (h : wpAny (model prog w) A (eval value env) (fun v s₁ => wpAny (model prog w) A (eval o env) (fun ov s₂ => wpAny (model prog w) A (eval i env) (fun iv s₃ =>
      wpAny (model prog w) A (setItem ov iv v) (fun _ s₄ => wpAny (model prog w) A (execs rest env) Q E s₄) E s₃) E s₂) E s₁) E s)
    (hs : swapsWith value (some (.Subscript o i pos')) pos.line env = pure false := by with_unfolding_all rfl) :
    wpAny (model prog w) A (execs (.Assign [.Subscript o i pos'] value pos :: rest) env) Q E s := ex_cons (wpAny_Assign_Subscript h hs)
/-! raise and try -/
theorem ex_raise {cls newId initId : String} (FC : ExcCallFacts cls newId initId) (FR : ExcRaiseFacts cls) {x : Str} {np cpos pos : Pos} {e₀ : Expr} {es : List Expr} {Q : Flow → Shared → Prop} (hh : A.handled = none)
    (h : wpAny (model prog w) A (eval (.Name x np) env) (fun f s₁ => f = .type cls ∧ wpAny (model prog w) A (spliced (backTo cpos (starEach (e₀ :: es) env)))
      (fun vs s₂ => vs.length ≤ sizeLine ∧ ∀ h' e, Heap.MadeExc s₂.heap h' e cls vs → E (.ref e) { s₂ with heap := h' }) E s₁) E s)
    (he : starEach (e₀ :: es) env = (false, eval e₀ env) :: starEach es env := by with_unfolding_all rfl) (hplain : (backTo cpos (starEach es env)).any (·.1) = false := by with_unfolding_all rfl) :
    wpAny (model prog w) A (execs (.Raise (some (.Call (.Name x np) (e₀ :: es) [] cpos)) none pos :: rest) env) Q E s := ex_cons (Raise_madeB FC FR hh h he hplain)
theorem raised {cls : String} {vs : List Value} (S : St c m H s) (k : ∀ e s', Exn c m H e (.type cls) .fresh s' → E (.ref e) s') : ∀ h' e, Heap.MadeExc s.heap h' e cls vs → E (.ref e) { s with heap := h' } := by
  intro h' e hm
  obtain ⟨t, ht, _, _⟩ := hm.there
  refine k e _ (Exn.new (h := s.heap) (s := { s with heap := h' }) (fun b o q => hm.keeps b o q) S hm.new ht rfl rfl rfl rfl)
/-- how a try's body ends -/
def Ty (M : Model) (A : Around) (env : Env) (orelse rest : List Stmt) (Q : Flow → Shared → Prop) (E : Value → Shared → Prop) (f : Flow) (s : Shared) : Prop :=
  match f with
  | .next => wpAny M A (execs orelse env) (Nx M A env rest Q E) E s
  | f => Q f s
theorem ty_next {M : Model} {orelse rest : List Stmt} {Q : Flow → Shared → Prop} (h : wpAny M A (execs orelse env) (Nx M A env rest Q E) E s) : Ty M A env orelse rest Q E .next s := h
theorem ty_ret {M : Model} {orelse rest : List Stmt} {Q : Flow → Shared → Prop} {v : Value} (h : Q (.ret v) s) : Ty M A env orelse rest Q E (.ret v) s := h
/-- an exception that reaches the clauses -/
def Th (M : Model) (A : Around) (env : Env) (hs : List ExceptHandler) (rest : List Stmt) (Q : Flow → Shared → Prop) (E : Value → Shared → Prop) (e : Value) (s : Shared) : Prop :=
  wpAny M A (noteFrame e env) (fun _ s₂ => wpAny M A (setFlight e none) (fun _ s₃ => wpAny M A (handleBy e env hs) (Nx M A env rest Q E) E s₃) E s₂) E s
theorem ex_try {body orelse : List Stmt} {h₀ : ExceptHandler} {hs : List ExceptHandler} {pos : Pos} {Q : Flow → Shared → Prop}
    (h : wpAny (model prog w) A (execs body env) (Ty (model prog w) A env orelse rest Q E) (Th (model prog w) A env (h₀ :: hs) rest Q E) s) :
    wpAny (model prog w) A (execs (.Try body (h₀ :: hs) orelse [] pos :: rest) env) Q E s :=
  ex_cons (wpAny_Try_except (wpAny_mono h (fun f s₁ h₁ => by cases f <;> exact h₁) fun e s₁ h₁ => h₁))
/-! a bound method called -/
theorem cwMeth {pos : Pos} {q g : Addr} {self : Value} {first : List Value} {e : Expr} {es : List Expr} {Q : Value → Shared → Prop} (hf : fnIn K g = true)
    (h : wpAny (model prog w) A (spliced (backTo pos (starEach (e :: es) env))) (fun vs s₁ => MethP K q g self s₁.heap ∧ wpAny (model prog w) A (call (.ref q) (first ++ vs)) Q E s₁) E s)
    (he : starEach (e :: es) env = (false, eval e env) :: starEach es env := by with_unfolding_all rfl) (hplain : (backTo pos (starEach es env)).any (·.1) = false := by with_unfolding_all rfl) :
    wpAny (model prog w) A (callWith pos (.ref q) first (backTo pos (starEach (e :: es) env)) []) Q E s := by
  rw [he] at h ⊢
  exact callWith_of (by show ((false || (backTo pos (starEach es env)).any (·.1)) || false) = false; rw [hplain]; rfl) (keeps_M hf) (Calls.evalArgs_plain h)
theorem andM {Rr : Prop} {q g : Addr} {self : Value} (O : Ok K T A c d u) (S : St c m H s) (hq : H.obj q = some (.raw (methodObj (.ref g) self))) (h : Rr) : MethP K q g self s.heap ∧ Rr := ⟨⟨S.raw hq, inK O S⟩, h⟩
theorem callMeth {q : Addr} {f self : Value} {pos : List Value} {kw : List (Str × Value)} {Q : Value → Shared → Prop} (S : St c m H s) (hq : H.obj q = some (.raw (methodObj f self)))
    (h : codeAny (model prog w) A (.call f ⟨self :: pos, kw⟩) (fun r s' => match r with | .ok (.ret v) => Q v s' | .ok _ => False | .error e => E e s') s) : wpAny (model prog w) A (call (.ref q) pos kw) Q E s :=
  wpAny_call (method_call (S.raw hq) h)
/-! classes of the text -/
theorem methCls {C : Addr} {name : Str} {pl : Sem Bool} {Q : Value × List Value → Shared → Prop} (O : Ok K T A c d u) (S : St c m H s) (hg : specialIn K (.ref C) "__getattribute__" = some (some (.builtin "type.__getattribute__")))
    (h : wpAny (model prog w) A (getAttr (.ref C) name) (fun v => Q (v, [])) E s) : wpAny (model prog w) A (getMethod (.ref C) name pl) Q E s := method_cls (inK O S) hg h
theorem clsVal {C : Addr} {name : Str} {mc a : Value} {expr : Bool} {Q : Value → Shared → Prop} (O : Ok K T A c d u) (S : St c m H s) (hm : typeIn K (.ref C) = some mc) (hr : readsIn K C mc = true) (e : findCls K (.ref C) mc name = some (.val a)) (hh : handedIn a = true)
    (h : ∀ s', St c m H s' → Q a s') : wpAny (model prog w) A (getAttr (.ref C) name expr) Q E s := let _ := hm; cls_value (inK O S) hr e hh (h _ (S.toks _))
/-! range with a step -/
abbrev ritK (x left k : Int) : AO := .raw { cls := .type "range_iterator", dict := none, data := .fields #[rawInt x, rawInt left, rawInt k], slots := #[] }
theorem callRange3 {a n k : Int} {t t₂ t₃ : Tok} {Q : Value → Shared → Prop} (S : St c m H s) (hk : k ≠ 0) (hp : Builtin.divisionGoesByPylong (n - a) k = false) (h : ∀ r x b v s', IsRange s'.heap r a n k x b v → St c m H s' → Q (.ref r) s') : wpAny (model prog w) A (call (.type "range") [.int a t, .int n t₂, .int k t₃]) Q E s := by
  refine call_range_3 hk ?_ (Or.inl hp)
  obtain ⟨hp, g, dr, t', os⟩ := s
  exact h _ _ _ _ _ (IsRange.new ..) (S.grown (tk := t') fun b o e => Heap.get?_push_of_some _ e)
theorem iterRangeK {r : Addr} {a b k n : Int} {t₁ t₂ t₃ : Tok} {Q : Value → Shared → Prop} (S : St c m H s) (hr : IsRange s.heap r a b k t₁ t₂ t₃) (hs : Builtin.Range.small a b k = true) (hn : Builtin.Range.rangeSize a b k = n)
    (h : ∀ it s', H.obj it = none → St c m (H.set it (ritK a n k)) s' → Q (.ref it) s') : wpAny (model prog w) A (pyIter (.ref r)) Q E s := by
  refine wpAny_pyIter_range hr hs ?_
  rw [hn]
  obtain ⟨hp, g, dr, t, os⟩ := s
  exact h _ _ S.fresh (S.push _ (by intro _ _ q; cases q) fun D e => e)
theorem nextRangeK {it : Addr} {x left k : Int} {Q : Option Value → Shared → Prop} (hh : A.handled = none) (S : St c m H s) (hi : H.obj it = some (ritK x left k))
    (item : 0 < left → ∀ tk s', St c m (H.set it (ritK (x + k) (left - 1) k)) s' → Q (some (.int x tk)) s') (fin : left ≤ 0 → ∀ s', St c m (H.del it) s' → Q none s') :
    wpAny (model prog w) A (pyNext (.ref it)) Q E s := by
  have hI : IsRangeIter s.heap it x left k := S.raw hi
  by_cases q : 0 < left
  · refine wpAny_pyNext_range_item hI q fun h' hI' hs => item q _ _ ?_
    exact S.change (tk := s.toks + 1) hi (by intro _ _ q; cases q) hs fun D => hI'
  · refine wpAny_pyNext_range_end hh hI (by omega) fun h' hs => fin (by omega) _ ?_
    exact S.drop (tk := s.toks) hi (by intro _ _ q; cases q) fun b o hb e => hs b o hb e
theorem loopRangeK {it : Addr} {a k : Int} {N : Nat} {target : Expr} {body orelse : List Stmt} (hh : A.handled = none) (J : Nat → Loc → AH → Prop)
    (inv : ∀ i m H, J i m H → H.obj it = some (ritK (a + k * i) ((N : Int) - i) k))
    (turn : ∀ i tk m H s, i < N → J i m H → St c m (H.set it (ritK (a + k * (i + 1 : Nat)) ((N : Int) - (i + 1 : Nat)) k)) s →
      wpAny (model prog w) A (assign target c.env (.int (a + k * i) tk)) (fun _ s₂ => wpAny (model prog w) A (execs body c.env) (Tn (fun s => ∃ m H, J (i + 1) m H ∧ St c m H s) R) (Ne' prog w A c.env R) s₂) (Ne' prog w A c.env R) s)
    (fin : ∀ m H s, J N m H → St c m (H.del it) s → wpAny (model prog w) A (execs orelse c.env) (fun f s₃ => R (.ok f) s₃) (Ne' prog w A c.env R) s)
    (h0 : J 0 m H) (S : St c m H s) (ht : ∀ v, letOwnedTupleGo target (.ref it) v = pure () := by intro _; rfl) : codeAny (model prog w) A (.forLoop target (.ref it) body orelse c.env) R s := by
  refine codeAny_forLoop (fun n s => ∃ i m H, i ≤ N ∧ n = N - i ∧ J i m H ∧ St c m H s) ?_ N ⟨0, m, H, Nat.zero_le _, rfl, h0, S⟩ ht
  rintro n s ⟨i, m, H, hi, rfl, hJ, S⟩
  have i1 := inv i m H hJ
  refine nextRangeK hh S i1 (fun hv tk s' S' => ?_) (fun hv s' S' => ?_)
  · have hlt : i < N := by omega
    have e : ritK (a + k * ↑i + k) (↑N - ↑i - 1) k = ritK (a + k * (i + 1 : Nat)) ((N : Int) - (i + 1 : Nat)) k := by
      have : k * ((i + 1 : Nat) : Int) = k * i + k := by rw [show ((i + 1 : Nat) : Int) = (i : Int) + 1 by omega, Int.mul_add, Int.mul_one]
      rw [this, show a + k * (i : Int) + k = a + (k * i + k) by omega, show (N : Int) - i - 1 = (N : Int) - ((i + 1 : Nat) : Int) by omega]
    rw [e] at S'
    refine wpAny_mono (turn i tk m H s' hlt hJ S') (fun _ s₂ h₂ => wpAny_mono h₂ (fun f s₃ h₃ => ?_) fun _ _ x => x) fun _ _ x => x
    cases f with
    | next => obtain ⟨m', H', j, S''⟩ := h₃; exact ⟨_, by omega, i + 1, m', H', hlt, rfl, j, S''⟩
    | cont => obtain ⟨m', H', j, S''⟩ := h₃; exact ⟨_, by omega, i + 1, m', H', hlt, rfl, j, S''⟩
    | brk => exact h₃
    | ret v => exact h₃
  · have hge : i = N := by omega
    exact fin m H s' (hge ▸ hJ) S'
/-! more of ints and lists -/
theorem maxI {a b : Int} {t t₂ : Tok} {Q : Value → Shared → Prop} (hh : A.handled = none) (S : St c m H s) (h : ∀ tk s', St c m H s' → Q (.int (if b > a then b else a) tk) s') : wpAny (model prog w) A (call (.builtin "max") [.int a t, .int b t₂]) Q E s :=
  max_two_ints hh fun h' tk hk => by
    split
    · rename_i q; have := h t₂ _ (S.grown (tk := tk) hk); rw [if_pos q] at this; exact this
    · rename_i q; have := h t _ (S.grown (tk := tk) hk); rw [if_neg q] at this; exact this
end
end

section
/-! the told heap as a list of cells -/
abbrev Hp := List (Addr × AO)
/-- no generators (for now) -/
def GZ := { g : Array GenState // g = #[] }
def oh (g : GZ) (G : Hp) : AH := ⟨fun a => G.lookup a, g.1⟩
def Nd (G : Hp) : Prop := (G.map Prod.fst).Nodup
theorem lk_none {a : Addr} : ∀ {G : Hp}, G.lookup a = none ↔ a ∉ G.map Prod.fst
  | [] => by simp
  | (b, y) :: G => by
    rw [List.lookup_cons]
    by_cases h : a = b
    · subst h; simp
    · have : (a == b) = false := beq_eq_false_iff_ne.mpr h
      simp [this, lk_none, h]
theorem lk_mem {a : Addr} {x : AO} : ∀ {G : Hp}, Nd G → (G.lookup a = some x ↔ (a, x) ∈ G)
  | [], _ => by simp
  | (b, y) :: G, nd => by
    rw [List.lookup_cons]
    have nd' : b ∉ G.map Prod.fst ∧ Nd G := List.nodup_cons.mp nd
    by_cases h : a = b
    · subst h
      simp only [beq_self_eq_true, List.mem_cons, Prod.mk.injEq, true_and]
      constructor
      · rintro q; exact .inl (Option.some.inj q).symm
      · rintro (rfl | q)
        · rfl
        · exact absurd (List.mem_map_of_mem (f := Prod.fst) q) nd'.1
    · have : (a == b) = false := beq_eq_false_iff_ne.mpr h
      simp only [this, List.mem_cons, Prod.mk.injEq, h, false_and, false_or]
      exact lk_mem nd'.2
theorem Nd.perm {G G' : Hp} (nd : Nd G) (p : G.Perm G') : Nd G' := (p.map Prod.fst).nodup_iff.mp nd
theorem Nd.cons {G : Hp} {a : Addr} {x : AO} (nd : Nd G) (h : G.lookup a = none) : Nd ((a, x) :: G) := List.nodup_cons.mpr ⟨lk_none.mp h, nd⟩
theorem Nd.tail {G : Hp} {p : Addr × AO} (nd : Nd (p :: G)) : Nd G := (List.nodup_cons.mp nd).2
theorem Nd.out {G : Hp} {a : Addr} {x : AO} (nd : Nd ((a, x) :: G)) : a ∉ G.map Prod.fst := (List.nodup_cons.mp nd).1
theorem Nd.swap {G : Hp} {a : Addr} {x y : AO} (nd : Nd ((a, x) :: G)) : Nd ((a, y) :: G) := nd
theorem Nd.ne {G : Hp} {a b : Addr} {x y : AO} (nd : Nd ((a, x) :: G)) (h : (b, y) ∈ G) : b ≠ a := by
  rintro rfl; exact nd.out (List.mem_map_of_mem (f := Prod.fst) h)
theorem Nd.app {F G : Hp} (nd : Nd (F ++ G)) : Nd F ∧ Nd G := by
  unfold Nd at nd; rw [List.map_append] at nd
  exact ⟨(List.nodup_append.mp nd).1, (List.nodup_append.mp nd).2.1⟩
theorem oh_ext {H : AH} {G : Hp} {g : GZ} (nd : Nd G) (hg : H.gens = g.1) (h : ∀ a x, H.obj a = some x ↔ (a, x) ∈ G) : H = oh g G := by
  apply AH.ext'
  · intro a
    apply Option.ext
    intro x
    rw [h a x]; exact (lk_mem nd).symm
  · exact hg

/-- G without the cell a -/
def Rm (G : Hp) (a : Addr) (x : AO) (G' : Hp) : Prop := G.Perm ((a, x) :: G')
def Up (G : Hp) (a : Addr) (x y : AO) (G' : Hp) : Prop := ∃ R, G.Perm ((a, x) :: R) ∧ G'.Perm ((a, y) :: R)
/-- G' out of G, in another order, less some -/
def Sb (G G' : Hp) : Prop := ∃ X, G.Perm (G' ++ X)
/-- G without the cells of F -/
def Rc (G F G' : Hp) : Prop := G.Perm (F ++ G')
section
variable {G G' F F' G1 : Hp} {a b : Addr} {x y z : AO} {p : Addr × AO}
theorem mem_hd : (a, x) ∈ (a, x) :: G := .head _
theorem mem_tl (h : (a, x) ∈ G) : (a, x) ∈ p :: G := .tail _ h
theorem mem_al (h : (a, x) ∈ F) : (a, x) ∈ F ++ G := List.mem_append_left _ h
theorem mem_ar (h : (a, x) ∈ G) : (a, x) ∈ F ++ G := List.mem_append_right _ h
theorem rm_hd : Rm ((a, x) :: G) a x G := .refl _
theorem rm_tl (h : Rm G a x G') : Rm (p :: G) a x (p :: G') := (List.Perm.cons p h).trans (.swap ..)
theorem rm_al (h : Rm F a x F') : Rm (F ++ G) a x (F' ++ G) := List.Perm.append_right G h
theorem rm_ar (h : Rm G a x G') : Rm (F ++ G) a x (F ++ G') := (List.Perm.append_left F h).trans List.perm_middle
theorem up_hd : Up ((a, x) :: G) a x y ((a, y) :: G) := ⟨G, .refl _, .refl _⟩
theorem up_tl (h : Up G a x y G') : Up (p :: G) a x y (p :: G') := let ⟨R, h1, h2⟩ := h; ⟨p :: R, rm_tl h1, rm_tl h2⟩
theorem up_al (h : Up F a x y F') : Up (F ++ G) a x y (F' ++ G) := let ⟨R, h1, h2⟩ := h; ⟨R ++ G, rm_al h1, rm_al h2⟩
theorem up_ar (h : Up G a x y G') : Up (F ++ G) a x y (F ++ G') := let ⟨R, h1, h2⟩ := h; ⟨F ++ R, rm_ar h1, rm_ar h2⟩
theorem rc_hd : Rc (F ++ G) F G := .refl _
theorem rc_id : Rc F F [] := by unfold Rc; rw [List.append_nil]
theorem rc_tl (h : Rc G F G') : Rc (p :: G) F (p :: G') := (List.Perm.cons p h).trans List.perm_middle.symm
theorem rc_ar (h : Rc G F G') : Rc (G1 ++ G) F (G1 ++ G') := by
  refine (List.Perm.append_left G1 h).trans ?_
  rw [← List.append_assoc, ← List.append_assoc]
  exact List.Perm.append_right _ List.perm_append_comm
theorem rc_al (h : Rc F G1 F') : Rc (F ++ G) G1 (F' ++ G) := by unfold Rc; rw [← List.append_assoc]; exact List.Perm.append_right G h
theorem sb_refl : Sb G G := ⟨[], by simp⟩
theorem sb_nil : Sb G [] := ⟨G, .refl _⟩
theorem sb_cons (h : Rm G a x G1) (k : Sb G1 G') : Sb G ((a, x) :: G') := let ⟨X, q⟩ := k; ⟨X, h.trans (.cons _ q)⟩
theorem sb_app (h : Rc G F G1) (k : Sb G1 G') : Sb G (F ++ G') := let ⟨X, q⟩ := k; ⟨X, h.trans (by rw [List.append_assoc]; exact List.Perm.append_left F q)⟩
theorem sb_drop (h : Sb G G') : Sb (p :: G) G' := let ⟨X, q⟩ := h; ⟨p :: X, (List.Perm.cons p q).trans List.perm_middle.symm⟩
theorem sb_dropF (h : Sb G G') : Sb (F ++ G) G' := let ⟨X, q⟩ := h; ⟨F ++ X, by
  refine (List.Perm.append_left F q).trans ?_
  rw [← List.append_assoc, ← List.append_assoc]
  exact List.Perm.append_right _ List.perm_append_comm⟩
theorem sb_chunk (h : Rc G F G1) : Sb G F := ⟨G1, h⟩
theorem Sb.nd (h : Sb G G') (nd : Nd G) : Nd G' := let ⟨X, q⟩ := h; (nd.perm q).app.1
theorem Sb.mem (h : Sb G G') (k : (a, x) ∈ G') : (a, x) ∈ G := let ⟨X, q⟩ := h; q.symm.subset (List.mem_append_left _ k)
theorem Rm.mem (h : Rm G a x G') : (a, x) ∈ G := h.symm.subset (.head _)
theorem Rm.out (h : Rm G a x G') (nd : Nd G) : Nd ((a, x) :: G') := nd.perm h
theorem Nd.mem_eq (nd : Nd G) (h : (a, x) ∈ G) (k : (a, y) ∈ G) : x = y := Option.some.inj (((lk_mem nd).mpr h).symm.trans ((lk_mem nd).mpr k))
theorem mem_rm (h : (a, x) ∈ G) : ∃ G', Rm G a x G' := by
  obtain ⟨s, t, rfl⟩ := List.append_of_mem h
  exact ⟨s ++ t, List.perm_middle⟩
end

/-- the state: locals m, told cells G -/
structure Sg (c : Cx) (m : Loc) (G : Hp) (s : Shared) : Prop where
  nd : Nd G
  st : ∃ g, St c m (oh g G) s
section
variable {c : Cx} {m m' : Loc} {G G' F G1 : Hp} {s s' : Shared} {a b l : Addr} {x y : AO} {g : GZ}
theorem Sg.of {H : AH} (g : GZ) (nd : Nd G) (hg : H.gens = g.1) (h : ∀ a x, H.obj a = some x ↔ (a, x) ∈ G) (S : St c m H s) : Sg c m G s := ⟨nd, g, S.eq (oh_ext nd hg h)⟩
theorem Sg.gens (S : Sg c m G s) : s.gens = #[] := let ⟨_, g, S⟩ := S; S.gens.trans g.2
theorem oh_get (nd : Nd G) (h : (a, x) ∈ G) : (oh g G).obj a = some x := (lk_mem nd).mpr h
theorem oh_none {G : Hp} (h : (oh g G).obj a = none) : G.lookup a = none := h
theorem Sg.same (nd : Nd G) (S : St c m (oh g G) s) : Sg c m G s := ⟨nd, g, S⟩
theorem Sg.new (nd : Nd G) (hl : (oh g G).obj l = none) (S : St c m ((oh g G).set l x) s) : Sg c m ((l, x) :: G) s := by
  refine Sg.of g (nd.cons hl) rfl (fun a y => ?_) S
  by_cases h : a = l
  · subst h
    rw [AH.set_same]
    constructor
    · intro q; cases q; exact .head _
    · intro q
      have := (nd.cons (x := x) hl).mem_eq q (.head _)
      rw [this]
  · rw [AH.set_ne h]
    show G.lookup a = some y ↔ _
    rw [lk_mem nd]
    constructor
    · exact fun q => .tail _ q
    · intro q
      rcases List.mem_cons.mp q with q | q
      · exact absurd (Prod.mk.inj q).1 h
      · exact q
theorem Sg.rm (nd : Nd G) (r : Rm G a x G') (S : St c m ((oh g G).del a) s) : Sg c m G' s := by
  have nd' := nd.perm r
  refine Sg.of g nd'.tail rfl (fun b y => ?_) S
  by_cases h : b = a
  · subst h
    rw [AH.del_same]
    exact ⟨fun q => (by cases q), fun q => absurd (List.mem_map_of_mem (f := Prod.fst) q) nd'.out⟩
  · rw [AH.del_ne h]
    show G.lookup b = some y ↔ _
    rw [lk_mem nd, r.mem_iff]
    constructor
    · intro q
      rcases List.mem_cons.mp q with q | q
      · exact absurd (Prod.mk.inj q).1 h
      · exact q
    · exact fun q => .tail _ q
theorem Sg.perm (S : Sg c m G s) (p : G.Perm G') : Sg c m G' s := by
  obtain ⟨nd, g, S⟩ := S
  exact Sg.of g (nd.perm p) rfl (fun a x => by rw [← p.mem_iff]; exact lk_mem nd) S
theorem Sg.upd (nd : Nd G) (u : Up G a x y G') (S : St c m ((oh g G).set a y) s) : Sg c m G' s := by
  obtain ⟨R, h1, h2⟩ := u
  have n1 := nd.perm h1
  have n2 : Nd ((a, y) :: R) := n1.swap
  refine Sg.of g (n2.perm h2.symm) rfl (fun b z => ?_) S
  rw [h2.mem_iff]
  by_cases h : b = a
  · subst h
    rw [AH.set_same]
    constructor
    · intro q; cases q; exact .head _
    · intro q; rw [n2.mem_eq q (.head _)]
  · rw [AH.set_ne h]
    show G.lookup b = some z ↔ _
    rw [lk_mem nd, h1.mem_iff]
    constructor
    · intro q
      rcases List.mem_cons.mp q with q | q
      · exact absurd (Prod.mk.inj q).1 h
      · exact .tail _ q
    · intro q
      rcases List.mem_cons.mp q with q | q
      · exact absurd (Prod.mk.inj q).1 h
      · exact .tail _ q
theorem Sg.sub (S : Sg c m G s) (h : Sb G G') : Sg c m G' s := by
  obtain ⟨nd, g, S⟩ := S
  refine ⟨h.nd nd, g, S.forget ⟨fun a ao e => ?_, rfl⟩⟩
  exact (lk_mem nd).mpr (h.mem ((lk_mem (h.nd nd)).mp e))
theorem Sg.pull (r : Rm G a x G') (S : Sg c m G s) : Sg c m ((a, x) :: G') s := S.perm r
theorem Sg.pullc (r : Rc G F G') (S : Sg c m G s) : Sg c m (F ++ G') s := S.perm r
theorem Sg.drop {p : Addr × AO} (S : Sg c m (p :: G) s) : Sg c m G s := S.sub (sb_drop sb_refl)
theorem Sg.ne (S : Sg c m ((a, x) :: G) s) (h : (b, y) ∈ G) : b ≠ a := S.nd.ne h
end
/-- an exception is under way -/
structure Xg (c : Cx) (m : Loc) (G : Hp) (e : Addr) (cls : Value) (md : Md) (s : Shared) : Prop where
  nd : Nd G
  ex : ∃ g, Exn c m (oh g G) e cls md s

section
variable {prog : Program} {w : World} {K : Frag} {T : Tp} {A : Around} {c : Cx} {m : Loc} {G G' : Hp} {s : Shared} {E : Value → Shared → Prop} {d u : Nat} {R : Result → Shared → Prop}
theorem gInK (O : Ok K T A c d u) (S : Sg c m G s) : K.In s.heap := let ⟨_, _, S⟩ := S; inK O S
theorem gNameL {x pos v} {Q : Value → Shared → Prop} (S : Sg c m G s) (hx : c.env.kindOf x = some .local) (hv : m.lookup x = some v) (h : Q v s) (hk : c.cs.kind = .function := by rfl) (hd : (x == ("__debug__" : Str)) = false := by decide) : wpAny (model prog w) A (eval (.Name x pos) c.env) Q E s := let ⟨_, _, S⟩ := S; nameL S hx hv h hk hd
theorem gNameK {x pos v} {Q : Value → Shared → Prop} (O : Ok K T A c d u) (S : Sg c m G s) (hx : c.env.kindOf x = some .globalImplicit) (e : nsIn K mainGlobals x = some (some v)) (h : Q v s) (hk : c.cs.kind = .function := by rfl) (hd : (x == ("__debug__" : Str)) = false := by decide) : wpAny (model prog w) A (eval (.Name x pos) c.env) Q E s := let ⟨_, _, S⟩ := S; nameK O S hx e h hk hd
theorem gNameB {x pos v} {Q : Value → Shared → Prop} (O : Ok K T A c d u) (S : Sg c m G s) (hx : c.env.kindOf x = some .globalImplicit) (e : nsIn K mainGlobals x = some none) (hv : bootBuiltins x = some v) (hn : x ≠ "__name__") (h : Q v s) (hk : c.cs.kind = .function := by rfl) (hd : (x == ("__debug__" : Str)) = false := by decide) : wpAny (model prog w) A (eval (.Name x pos) c.env) Q E s := let ⟨_, _, S⟩ := S; nameB O S hx e hv hn h hk hd
theorem gStoreL {x : Str} {v : Value} {Q : Unit → Shared → Prop} (S : Sg c m G s) (hx : c.env.kindOf x = some .local) (h : ∀ s', Sg c (put x v m) G s' → Q () s') (hk : c.cs.kind = .function := by rfl) : wpAny (model prog w) A (storeName c.env x v) Q E s :=
  let ⟨nd, _, S⟩ := S; storeL S hx (fun s' S' => h s' ⟨nd, _, S'⟩) hk
theorem gConstInt {i k pos} {env : Env} {Q : Value → Shared → Prop} (S : Sg c m G s) (h : ∀ tk s', Sg c m G s' → Q (.int i tk) s') : wpAny (model prog w) A (eval (.Constant (.int i) k pos) env) Q E s := let ⟨nd, _, S⟩ := S; constInt S fun tk s' S' => h tk s' ⟨nd, _, S'⟩
theorem gConstStr {x k pos} {env : Env} {Q : Value → Shared → Prop} (S : Sg c m G s) (h : ∀ tk s', Sg c m G s' → Q (.str x tk) s') : wpAny (model prog w) A (eval (.Constant (.str x) k pos) env) Q E s := let ⟨nd, _, S⟩ := S; constStr S fun tk s' S' => h tk s' ⟨nd, _, S'⟩
theorem gAttrOwn {a C : Addr} {fs : Loc} {name : Str} {v : Value} {attr : Option Value} {expr : Bool} {Q : Value → Shared → Prop} (O : Ok K T A c d u) (S : Sg c m G s) (hi : (a, .inst C fs) ∈ G) (hl : fs.lookup name = some v)
    (hg : plainGet K C name = true) (hh : hasDictIn K C = true) (ha : findIn K (.ref C) name = some attr) (hn : noGet K attr = true) (hv : handedIn v = true) (h : ∀ s', Sg c m G s' → Q v s') :
    wpAny (model prog w) A (getAttr (.ref a) name expr) Q E s := let ⟨nd, _, S⟩ := S; attrOwn O S (oh_get nd hi) hl hg hh ha hn hv fun s' S' => h s' ⟨nd, _, S'⟩
theorem gAttrCls {a C : Addr} {fs : Loc} {name : Str} {v : Value} {expr : Bool} {Q : Value → Shared → Prop} (O : Ok K T A c d u) (S : Sg c m G s) (hi : (a, .inst C fs) ∈ G) (hl : fs.lookup name = none)
    (hg : plainGet K C name = true) (hh : hasDictIn K C = true) (ha : findIn K (.ref C) name = some (some v)) (hn : specialIn K v "__get__" = some none) (hv : handedIn v = true) (hc : copiedNames.contains name = false) (h : ∀ s', Sg c m G s' → Q v s') :
    wpAny (model prog w) A (getAttr (.ref a) name expr) Q E s := let ⟨nd, _, S⟩ := S; attrCls O S (oh_get nd hi) hl hg hh ha hn hv hc fun s' S' => h s' ⟨nd, _, S'⟩
theorem gAttrProp {a C p fget : Addr} {fs : Loc} {name : Str} {rest : List Value} {expr : Bool} {Q : Value → Shared → Prop} (O : Ok K T A c d u) (S : Sg c m G s) (hi : (a, .inst C fs) ∈ G)
    (hg : plainGet K C name = true) (hh : hasDictIn K C = true) (ha : findIn K (.ref C) name = some (some (.ref p))) (hn : specialIn K (.ref p) "__get__" = some (some (.builtin "property.__get__"))) (ht : takesIn K (.ref p) = some true) (hp : recIn K p "property" = some (.ref fget :: rest))
    (h : ∀ s', Sg c m G s' → codeAny (model prog w) A.in1 (.call (.ref fget) ⟨[.ref a], []⟩) (fun r s' => match r with | .ok (.ret v) => wpAny (model prog w) A (handedOut v) Q E s' | .ok _ => False | .error e => wpAny (model prog w) A (noteIf true (.ref a) (.str name s.toks) e) (fun _ s'' => E e s'') E s') s') :
    wpAny (model prog w) A (getAttr (.ref a) name expr) Q E s := let ⟨nd, _, S⟩ := S; attrProp O S (oh_get nd hi) hg hh ha hn ht hp fun s' S' => h s' ⟨nd, _, S'⟩
theorem gAttrMeth {a C f : Addr} {fs : Loc} {name : Str} {expr : Bool} {Q : Value → Shared → Prop} (O : Ok K T A c d u) (S : Sg c m G s) (hi : (a, .inst C fs) ∈ G) (hl : fs.lookup name = none)
    (hg : plainGet K C name = true) (hh : hasDictIn K C = true) (ha : findIn K (.ref C) name = some (some (.ref f))) (hn : specialIn K (.ref f) "__get__" = some (some (.builtin "function.__get__"))) (ht : takesIn K (.ref f) = some false)
    (hf : isFn K (.ref f) = true) (hc : copiedNames.contains name = false)
    (h : ∀ q s', Sg c m ((q, .raw (methodObj (.ref f) (.ref a))) :: G) s' → Q (.ref q) s') :
    wpAny (model prog w) A (getAttr (.ref a) name expr) Q E s := let ⟨nd, _, S⟩ := S; attrMeth O S (oh_get nd hi) hl hg hh ha hn ht hf hc fun q s' hq S' => h q s' (Sg.new nd hq S')
theorem gAttrClsT {a C : Addr} {fs : Loc} {name : Str} {v t : Value} {expr : Bool} {Q : Value → Shared → Prop} (O : Ok K T A c d u) (S : Sg c m G s) (hi : (a, .inst C fs) ∈ G) (hl : fs.lookup name = none)
    (hg : plainGet K C name = true) (hh : hasDictIn K C = true) (ha : findIn K (.ref C) name = some (some v)) (ht : typeOf v = pure t) (hn : typeLookup t "__get__" = pure none) (hv : handedIn v = true) (hc : copiedNames.contains name = false) (h : ∀ s', Sg c m G s' → Q v s') :
    wpAny (model prog w) A (getAttr (.ref a) name expr) Q E s := let ⟨nd, _, S⟩ := S; attrClsT O S (oh_get nd hi) hl hg hh ha ht hn hv hc fun s' S' => h s' ⟨nd, _, S'⟩
theorem gClsVal {C : Addr} {name : Str} {mc a : Value} {expr : Bool} {Q : Value → Shared → Prop} (O : Ok K T A c d u) (S : Sg c m G s) (hm : typeIn K (.ref C) = some mc) (hr : readsIn K C mc = true) (e : findCls K (.ref C) mc name = some (.val a)) (hh : handedIn a = true)
    (h : ∀ s', Sg c m G s' → Q a s') : wpAny (model prog w) A (getAttr (.ref C) name expr) Q E s := let ⟨nd, _, S⟩ := S; clsVal O S hm hr e hh fun s' S' => h s' ⟨nd, _, S'⟩
theorem gMethInst {a C f : Addr} {fs : Loc} {name : Str} {pl : Sem Bool} {Q : Value × List Value → Shared → Prop} (O : Ok K T A c d u) (S : Sg c m G s) (hi : (a, .inst C fs) ∈ G) (hl : fs.lookup name = none)
    (hg : plainGet K C name = true) (hf : findIn K (.ref C) name = some (some (.ref f))) (ht : isFn K (.ref f) = true) (h : Q (.ref f, [.ref a]) s) : wpAny (model prog w) A (getMethod (.ref a) name pl) Q E s := let ⟨nd, _, S⟩ := S; methInst O S (oh_get nd hi) hl hg hf ht h
theorem gMethCls {C : Addr} {name : Str} {pl : Sem Bool} {Q : Value × List Value → Shared → Prop} (O : Ok K T A c d u) (S : Sg c m G s) (hg : specialIn K (.ref C) "__getattribute__" = some (some (.builtin "type.__getattribute__")))
    (h : wpAny (model prog w) A (getAttr (.ref C) name) (fun v => Q (v, [])) E s) : wpAny (model prog w) A (getMethod (.ref C) name pl) Q E s := let ⟨nd, _, S⟩ := S; methCls O S hg h
theorem gMethUsual {a C : Addr} {fs : Loc} {name : Str} {r : Option Value} {pl : Sem Bool} {Q : Value × List Value → Shared → Prop} (O : Ok K T A c d u) (S : Sg c m G s) (hi : (a, .inst C fs) ∈ G)
    (hg : plainGet K C name = true) (hf : findIn K (.ref C) name = some r) (ht : r.all (fun a => (typeIn K a).any fun t => t != .type "function" && t != .type "method_descriptor" && t != .type "wrapper_descriptor") = true)
    (h : wpAny (model prog w) A (getAttr (.ref a) name) (fun v => Q (v, [])) E s) : wpAny (model prog w) A (getMethod (.ref a) name pl) Q E s := let ⟨nd, _, S⟩ := S; methUsual O S (oh_get nd hi) hg hf ht h
theorem gMethUsualT {a C : Addr} {fs : Loc} {name : Str} {v t : Value} {pl : Sem Bool} {Q : Value × List Value → Shared → Prop} (O : Ok K T A c d u) (S : Sg c m G s) (hi : (a, .inst C fs) ∈ G)
    (hg : plainGet K C name = true) (hf : findIn K (.ref C) name = some (some v)) (ht : typeOf v = pure t) (hn : (t != .type "function" && t != .type "method_descriptor" && t != .type "wrapper_descriptor") = true)
    (h : wpAny (model prog w) A (getAttr (.ref a) name) (fun v => Q (v, [])) E s) : wpAny (model prog w) A (getMethod (.ref a) name pl) Q E s := let ⟨nd, _, S⟩ := S; methUsualT O S (oh_get nd hi) hg hf ht hn h
theorem gMethList {name : Str} {id : String} {pl : Sem Bool} {l : Addr} {xs : List Value} {Q : Value × List Value → Shared → Prop} (S : Sg c m G s) (hl : (l, .list xs) ∈ G) (slot : Slot "list" name id) (hty : typeOf (.builtin id) = pure (.type "method_descriptor"))
    (h : Q (.builtin id, [.ref l]) s) : wpAny (model prog w) A (getMethod (.ref l) name pl) Q E s := let ⟨nd, _, S⟩ := S; methList S (oh_get nd hl) slot hty h
theorem gSetOwn {a C : Addr} {fs : Loc} {name : Str} {v : Value} {Q : Unit → Shared → Prop} (O : Ok K T A c d u) (S : Sg c m G s) (hi : Up G a (.inst C fs) (.inst C (put name v fs)) G')
    (hs : findIn K (.ref C) "__setattr__" = some (some (.builtin "object.__setattr__"))) (hp : plainOver K C = true) (ht : takerIn K C name = some none) (hh : hasDictIn K C = true) (hz : fs.length < 900)
    (h : ∀ s', Sg c m G' s' → Q () s') :
    wpAny (model prog w) A (setAttr (.ref a) name v) Q E s := let ⟨nd, _, S⟩ := S; setOwn O S (oh_get nd (let ⟨_, h1, _⟩ := hi; Rm.mem h1)) hs hp ht hh hz fun s' S' => h s' (Sg.upd nd hi S')
theorem gCwFn0 {pos : Pos} {f : Addr} {first : List Value} {env : Env} {Q : Value → Shared → Prop} (O : Ok K T A c d u) (S : Sg c m G s) (hk : keepIn K (.ref f) = true) (h : wpAny (model prog w) A (call (.ref f) (first ++ [])) Q E s) :
    wpAny (model prog w) A (callWith pos (.ref f) first (backTo pos (starEach [] env)) []) Q E s := let ⟨nd, _, S⟩ := S; cwFn0 O S hk h
theorem gAndK {R : Prop} (O : Ok K T A c d u) (S : Sg c m G s) (h : R) : K.In s.heap ∧ R := ⟨gInK O S, h⟩
theorem gAndM {Rr : Prop} {q g : Addr} {self : Value} (O : Ok K T A c d u) (S : Sg c m G s) (hq : (q, .raw (methodObj (.ref g) self)) ∈ G) (h : Rr) : MethP K q g self s.heap ∧ Rr := let ⟨nd, _, S⟩ := S; andM O S (oh_get nd hq) h
theorem gCallMeth {q : Addr} {f self : Value} {pos : List Value} {kw : List (Str × Value)} {Q : Value → Shared → Prop} (S : Sg c m G s) (hq : (q, .raw (methodObj f self)) ∈ G)
    (h : codeAny (model prog w) A (.call f ⟨self :: pos, kw⟩) (fun r s' => match r with | .ok (.ret v) => Q v s' | .ok _ => False | .error e => E e s') s) : wpAny (model prog w) A (call (.ref q) pos kw) Q E s := let ⟨nd, _, S⟩ := S; callMeth S (oh_get nd hq) h
section
variable {a b : Int} {ta tb : Tok} {Q : Value → Shared → Prop}
theorem gAddI (S : Sg c m G s) (h : ∀ tk s', Sg c m G s' → Q (.int (a + b) tk) s') : wpAny (model prog w) A (binaryOp .Add (.int a ta) (.int b tb)) Q E s := let ⟨nd, _, S⟩ := S; addI S fun tk s' S' => h tk s' ⟨nd, _, S'⟩
theorem gIaddI (S : Sg c m G s) (h : ∀ tk s', Sg c m G s' → Q (.int (a + b) tk) s') : wpAny (model prog w) A (inplaceOp .Add (.int a ta) (.int b tb)) Q E s := let ⟨nd, _, S⟩ := S; iaddI S fun tk s' S' => h tk s' ⟨nd, _, S'⟩
theorem gSubI (S : Sg c m G s) (h : ∀ tk s', Sg c m G s' → Q (.int (a - b) tk) s') : wpAny (model prog w) A (binaryOp .Sub (.int a ta) (.int b tb)) Q E s := let ⟨nd, _, S⟩ := S; subI S fun tk s' S' => h tk s' ⟨nd, _, S'⟩
theorem gIsubI (S : Sg c m G s) (h : ∀ tk s', Sg c m G s' → Q (.int (a - b) tk) s') : wpAny (model prog w) A (inplaceOp .Sub (.int a ta) (.int b tb)) Q E s := let ⟨nd, _, S⟩ := S; isubI S fun tk s' S' => h tk s' ⟨nd, _, S'⟩
theorem gMulI (S : Sg c m G s) (hm : IntMulOk a b) (h : ∀ tk s', Sg c m G s' → Q (.int (a * b) tk) s') : wpAny (model prog w) A (binaryOp .Mult (.int a ta) (.int b tb)) Q E s := let ⟨nd, _, S⟩ := S; mulI S hm fun tk s' S' => h tk s' ⟨nd, _, S'⟩
theorem gModI (S : Sg c m G s) (hb : b ≠ 0) (h : ∀ tk s', Sg c m G s' → Q (.int (a.fmod b) tk) s') : wpAny (model prog w) A (binaryOp .Mod (.int a ta) (.int b tb)) Q E s := let ⟨nd, _, S⟩ := S; modI S hb fun tk s' S' => h tk s' ⟨nd, _, S'⟩
theorem gDivI (S : Sg c m G s) (hb : b ≠ 0) (hp : Builtin.divisionGoesByPylong a b = false ∨ PySem.PylongRoom (model prog w) A s) (h : ∀ tk s', Sg c m G s' → Q (.int (a.fdiv b) tk) s') : wpAny (model prog w) A (binaryOp .FloorDiv (.int a ta) (.int b tb)) Q E s := let ⟨nd, _, S⟩ := S; divI S hb hp fun tk s' S' => h tk s' ⟨nd, _, S'⟩
theorem gNegI (S : Sg c m G s) (h : ∀ tk s', Sg c m G s' → Q (.int (-a) tk) s') : wpAny (model prog w) A (unaryOp .USub (.int a ta)) Q E s := let ⟨nd, _, S⟩ := S; negI S fun tk s' S' => h tk s' ⟨nd, _, S'⟩
theorem gMaxI (hh : A.handled = none) (S : Sg c m G s) (h : ∀ tk s', Sg c m G s' → Q (.int (if b > a then b else a) tk) s') : wpAny (model prog w) A (call (.builtin "max") [.int a ta, .int b tb]) Q E s := let ⟨nd, _, S⟩ := S; maxI hh S fun tk s' S' => h tk s' ⟨nd, _, S'⟩
end
section
variable {Q : Value → Shared → Prop}
theorem gNewList {vs : List Value} (S : Sg c m G s) (hsz : vs.length ≤ sizeLine) (h : ∀ l s', Sg c m ((l, .list vs) :: G) s' → Q (.ref l) s') : wpAny (model prog w) A (newList vs) Q E s := let ⟨nd, _, S⟩ := S; newListS S hsz fun l s' hl S' => h l s' (Sg.new nd hl S')
theorem gNewTup {vs : List Value} (S : Sg c m G s) (hsz : vs.length ≤ sizeLine) (h : ∀ l s', Sg c m ((l, .raw (tupO vs)) :: G) s' → Q (.ref l) s') : wpAny (model prog w) A (newTuple vs) Q E s := let ⟨nd, _, S⟩ := S; newTupleS S hsz fun l s' hl S' => h l s' (Sg.new nd hl S')
theorem gList0 (S : Sg c m G s) (h : ∀ l s', Sg c m ((l, .list []) :: G) s' → Q (.ref l) s') : wpAny (model prog w) A (call (.type "list") []) Q E s := let ⟨nd, _, S⟩ := S; call_list0 S fun l s' hl S' => h l s' (Sg.new nd hl S')
theorem gAppend {l : Addr} {xs : List Value} {x : Value} (S : Sg c m G s) (hl : Up G l (.list xs) (.list (xs ++ [x])) G') (hsz : xs.length ≤ sizeLine) (h : ∀ s', Sg c m G' s' → Q .none s') :
    wpAny (model prog w) A (call (.builtin "list.append") [.ref l, x]) Q E s := let ⟨nd, _, S⟩ := S; appendS S (oh_get nd (let ⟨_, h1, _⟩ := hl; Rm.mem h1)) hsz fun s' S' => h s' (Sg.upd nd hl S')
theorem gPop {l : Addr} {xs : List Value} {y : Value} (S : Sg c m G s) (hl : Up G l (.list (xs ++ [y])) (.list xs) G') (hz : (xs ++ [y]).length ≤ sizeLine) (h : ∀ s', Sg c m G' s' → Q y s') :
    wpAny (model prog w) A (call (.builtin "list.pop") [.ref l]) Q E s := let ⟨nd, _, S⟩ := S; popS S (oh_get nd (let ⟨_, h1, _⟩ := hl; Rm.mem h1)) hz fun s' S' => h s' (Sg.upd nd hl S')
theorem gExtendTup {l b : Addr} {xs ys : List Value} (S : Sg c m G s) (hl : Up G l (.list xs) (.list (xs ++ ys)) G') (hb : (b, .raw (tupO ys)) ∈ G) (hz : xs.length + ys.length ≤ 1000000) (h : ∀ s', Sg c m G' s' → Q .none s') :
    wpAny (model prog w) A (call (.builtin "list.extend") [.ref l, .ref b]) Q E s := let ⟨nd, _, S⟩ := S; extendTup S (oh_get nd (let ⟨_, h1, _⟩ := hl; Rm.mem h1)) (oh_get nd hb) hz fun s' S' => h s' (Sg.upd nd hl S')
theorem gLenList {l : Addr} {xs : List Value} (S : Sg c m G s) (hl : (l, .list xs) ∈ G) (hsz : xs.length ≤ sizeLine) (h : ∀ tk s', Sg c m G s' → Q (.int xs.length tk) s') :
    wpAny (model prog w) A (call (.builtin "len") [.ref l]) Q E s := let ⟨nd, _, S⟩ := S; lenListS S (oh_get nd hl) hsz fun tk s' S' => h tk s' ⟨nd, _, S'⟩
theorem gLenTup {l : Addr} {xs : List Value} (S : Sg c m G s) (hl : (l, .raw (tupO xs)) ∈ G) (hsz : xs.length ≤ sizeLine) (h : ∀ tk s', Sg c m G s' → Q (.int xs.length tk) s') :
    wpAny (model prog w) A (call (.builtin "len") [.ref l]) Q E s := let ⟨nd, _, S⟩ := S; lenTupS S (oh_get nd hl) hsz fun tk s' S' => h tk s' ⟨nd, _, S'⟩
theorem gItemList {value slice : Expr} {l : Addr} {xs : List Value} {k : Int} {u : Tok} {x : Value} (S : Sg c m G s) (hl : (l, .list xs) ∈ G) (h0 : 0 ≤ k) (hk : k < 2 ^ 63) (hx : xs[k.toNat]? = some x) (h : Q x s)
    (hs : subscripted slice false (.ref l) (.int k u) = operate [.ref l, .int k u] (getItem (.ref l) (.int k u)) := by with_unfolding_all rfl) : wpAny (model prog w) A (subscriptTail value slice (.ref l) (.int k u)) Q E s := let ⟨nd, _, S⟩ := S; itemListS S (oh_get nd hl) h0 hk hx h hs
theorem gItemTup {value slice : Expr} {l : Addr} {xs : List Value} {k : Int} {u : Tok} {x : Value} (S : Sg c m G s) (hl : (l, .raw (tupO xs)) ∈ G) (h0 : 0 ≤ k) (hk : k < 2 ^ 63) (hx : xs[k.toNat]? = some x) (h : Q x s)
    (hs : subscripted slice false (.ref l) (.int k u) = operate [.ref l, .int k u] (getItem (.ref l) (.int k u)) := by with_unfolding_all rfl) : wpAny (model prog w) A (subscriptTail value slice (.ref l) (.int k u)) Q E s := let ⟨nd, _, S⟩ := S; itemTupS S (oh_get nd hl) h0 hk hx h hs
theorem gConcat {l b : Addr} {xs ys : List Value} (S : Sg c m G s) (hl : (l, .list xs) ∈ G) (hb : (b, .list ys) ∈ G) (hz : xs.length + ys.length ≤ sizeLine) (h : ∀ r s', Sg c m ((r, .list (xs ++ ys)) :: G) s' → Q (.ref r) s') :
    wpAny (model prog w) A (binaryOp .Add (.ref l) (.ref b)) Q E s := let ⟨nd, _, S⟩ := S; concatS S (oh_get nd hl) (oh_get nd hb) hz fun r s' hr S' => h r s' (Sg.new nd hr S')
theorem gListOfList {l : Addr} {xs : List Value} (S : Sg c m G s) (hl : (l, .list xs) ∈ G) (hz : xs.length ≤ sizeLine) (h : ∀ r s', Sg c m ((r, .list xs) :: G) s' → Q (.ref r) s') :
    wpAny (model prog w) A (call (.type "list") [.ref l]) Q E s := let ⟨nd, _, S⟩ := S; listOfList S (oh_get nd hl) hz fun r s' hr S' => h r s' (Sg.new nd hr S')
theorem gListOfTup {l : Addr} {xs : List Value} (S : Sg c m G s) (hl : (l, .raw (tupO xs)) ∈ G) (hz : xs.length ≤ sizeLine) (h : ∀ r s', Sg c m ((r, .list xs) :: G) s' → Q (.ref r) s') :
    wpAny (model prog w) A (call (.type "list") [.ref l]) Q E s := let ⟨nd, _, S⟩ := S; listOfTup S (oh_get nd hl) hz fun r s' hr S' => h r s' (Sg.new nd hr S')
theorem gTupOfList {l : Addr} {xs : List Value} (S : Sg c m G s) (hl : (l, .list xs) ∈ G) (hz : xs.length ≤ sizeLine) (h : ∀ r s', Sg c m ((r, .raw (tupO xs)) :: G) s' → Q (.ref r) s') :
    wpAny (model prog w) A (call (.type "tuple") [.ref l]) Q E s := let ⟨nd, _, S⟩ := S; tupOfList S (oh_get nd hl) hz fun r s' hr S' => h r s' (Sg.new nd hr S')
theorem gRevTup {l : Addr} {xs : List Value} (S : Sg c m G s) (hl : (l, .raw (tupO xs)) ∈ G) (hz : xs.length ≤ sizeLine) (h : ∀ r s', Sg c m ((r, rvO l ((xs.length : Int) - 1)) :: G) s' → Q (.ref r) s') :
    wpAny (model prog w) A (call (.type "reversed") [.ref l]) Q E s := let ⟨nd, _, S⟩ := S; revTupS S (oh_get nd hl) hz fun r s' hr S' => h r s' (Sg.new nd hr S')
theorem gListRev {r l : Addr} {xs : List Value} (hh : A.handled = none) (S : Sg c m ((r, rvO l ((xs.length : Int) - 1)) :: G) s) (hl : (l, .raw (tupO xs)) ∈ G) (h0 : 0 < xs.length) (hz : xs.length ≤ sizeLine) (h : ∀ D s', Sg c m ((D, .list xs.reverse) :: G) s' → Q (.ref D) s') :
    wpAny (model prog w) A (call (.type "list") [.ref r]) Q E s := by
  obtain ⟨nd, g, S⟩ := S
  refine listRevS hh S (oh_get nd (.head _)) (oh_get nd (.tail _ hl)) h0 hz fun D s' hD S' => h D s' ?_
  have nD : (oh g G).obj D = none := by
    have h1 := lk_none.mp (oh_none hD)
    exact lk_none.mpr fun q => h1 (List.mem_cons_of_mem _ q)
  have e : (oh g ((r, rvO l ((xs.length : Int) - 1)) :: G)).del r = oh g G := by
    refine oh_ext nd.tail rfl ?_
    intro a x
    by_cases q : a = r
    · subst q; rw [AH.del_same]; exact ⟨fun z => (by cases z), fun z => absurd (List.mem_map_of_mem (f := Prod.fst) z) nd.out⟩
    · rw [AH.del_ne q]; show List.lookup _ _ = _ ↔ _
      rw [lk_mem nd]
      exact ⟨fun z => by rcases List.mem_cons.mp z with z | z; exact absurd (Prod.mk.inj z).1 q; exact z, fun z => .tail _ z⟩
  rw [e] at S'
  exact Sg.new nd.tail nD S'
theorem gIsInst {x y C C' : Addr} {fs fs' : Loc} (S : Sg c m G s) (hx : (x, .inst C fs) ∈ G) (hy : (y, .inst C' fs') ∈ G) (h : Q (.bool (decide (x = y))) s) : wpAny (model prog w) A (compareOp .Is (.ref x) (.ref y)) Q E s := let ⟨nd, _, S⟩ := S; isInst S (oh_get nd hx) (oh_get nd hy) h
theorem gIsCls {C C' : Addr} {o o' : Obj} (O : Ok K T A c d u) (S : Sg c m G s) (hx : K.lookup C = some o) (hy : K.lookup C' = some o') (hb : (o.cls == .type "tuple") = false) (h : Q (.bool (decide (C = C'))) s) : wpAny (model prog w) A (compareOp .Is (.ref C) (.ref C')) Q E s := let ⟨nd, _, S⟩ := S; isCls O S hx hy hb h
theorem gTypeInst {a C : Addr} {fs : Loc} (S : Sg c m G s) (hi : (a, .inst C fs) ∈ G) (h : Q (.ref C) s) : wpAny (model prog w) A (call (.type "type") [.ref a]) Q E s := let ⟨nd, _, S⟩ := S; typeInst S (oh_get nd hi) h
theorem gIsiTup {l : Addr} {xs : List Value} (S : Sg c m G s) (hl : (l, .raw (tupO xs)) ∈ G) (h : Q (.bool true) s) : wpAny (model prog w) A (call (.builtin "isinstance") [.ref l, .type "tuple"]) Q E s := let ⟨nd, _, S⟩ := S; isiTup S (oh_get nd hl) h
theorem gIsiYes {a C D : Addr} {fs : Loc} (O : Ok K T A c d u) (S : Sg c m G s) (hi : (a, .inst C fs) ∈ G) (e : isIn K (.ref C) D = true) (h : Q (.bool true) s) : wpAny (model prog w) A (call (.builtin "isinstance") [.ref a, .ref D]) Q E s := let ⟨nd, _, S⟩ := S; isiYes O S (oh_get nd hi) e h
end
theorem gTruthyList {Q : Bool → Shared → Prop} {l : Addr} {xs : List Value} (S : Sg c m G s) (hl : (l, .list xs) ∈ G) (hz : xs.length ≤ sizeLine) (h : ∀ s', Sg c m G s' → Q (!xs.isEmpty) s') : wpAny (model prog w) A (truthy (.ref l)) Q E s := let ⟨nd, _, S⟩ := S; truthyList S (oh_get nd hl) hz fun s' S' => h s' ⟨nd, _, S'⟩
theorem gTruthyTup {Q : Bool → Shared → Prop} {l : Addr} {xs : List Value} (S : Sg c m G s) (hl : (l, .raw (tupO xs)) ∈ G) (hz : xs.length ≤ sizeLine) (h : ∀ s', Sg c m G s' → Q (!xs.isEmpty) s') : wpAny (model prog w) A (truthy (.ref l)) Q E s := let ⟨nd, _, S⟩ := S; truthyTup S (oh_get nd hl) hz fun s' S' => h s' ⟨nd, _, S'⟩
theorem gSetItem {l : Addr} {xs : List Value} {k : Int} {t : Tok} {v : Value} {Q : Unit → Shared → Prop} (S : Sg c m G s) (hl : Up G l (.list xs) (.list (xs.set k.toNat v)) G') (h0 : 0 ≤ k) (hn : k < xs.length) (hz : xs.length ≤ sizeLine)
    (h : ∀ s', Sg c m G' s' → Q () s') : wpAny (model prog w) A (setItem (.ref l) (.int k t) v) Q E s := let ⟨nd, _, S⟩ := S; setItemS S (oh_get nd (let ⟨_, h1, _⟩ := hl; Rm.mem h1)) h0 hn hz fun s' S' => h s' (Sg.upd nd hl S')
theorem gUnpackTup {Q : Unit → Shared → Prop} {elts : List Expr} {k : Nat} {pos : Pos} {l : Addr} {xs : List Value} (hh : A.handled = none) (S : Sg c m G s) (hl : (l, .raw (tupO xs)) ∈ G)
    (hn : (assignEach elts c.env).length = xs.length) (hstar : (assignEach elts c.env).findIdx? (·.1) = none)
    (h : ∀ s', Sg c m G s' → wpAny (model prog w) A (assignInOrder ((assignEach elts c.env).map (·.2)) xs) Q E s') : wpAny (model prog w) A (assign (.Tuple elts k pos) c.env (.ref l)) Q E s := let ⟨nd, _, S⟩ := S; unpackTup hh S (oh_get nd hl) hn hstar fun s' S' => h s' ⟨nd, _, S'⟩
theorem gUnpackList {Q : Unit → Shared → Prop} {elts : List Expr} {k : Nat} {pos : Pos} {l : Addr} {xs : List Value} (hh : A.handled = none) (S : Sg c m G s) (hl : (l, .list xs) ∈ G)
    (hn : (assignEach elts c.env).length = xs.length) (hstar : (assignEach elts c.env).findIdx? (·.1) = none)
    (h : ∀ s', Sg c m G s' → wpAny (model prog w) A (assignInOrder ((assignEach elts c.env).map (·.2)) xs) Q E s') : wpAny (model prog w) A (assign (.Tuple elts k pos) c.env (.ref l)) Q E s := let ⟨nd, _, S⟩ := S; unpackList hh S (oh_get nd hl) hn hstar fun s' S' => h s' ⟨nd, _, S'⟩
/-! slices -/
theorem gSlicePush {vl vu vk : Value} {Q : Value → Shared → Prop} (S : Sg c m G s) (h : ∀ sl s', Sg c m ((sl, .fld (.type "slice") [vl, vu, vk]) :: G) s' → Q (.ref sl) s') :
    Q (.ref s.heap.objs.size) { s with heap := s.heap.push { cls := .type "slice", data := .fields #[vl, vu, vk] } } := let ⟨nd, _, S⟩ := S; slicePush S fun sl s' hsl S' => h sl s' (Sg.new nd hsl S')
theorem gSlice {value slice : Expr} {l sl : Addr} {xs ys : List Value} {vl vu vk : Value} {lo hi st : Option Int} {Q : Value → Shared → Prop} (S : Sg c m G s) (hl : (l, .list xs) ∈ G) (hsl : Rm G sl (.fld (.type "slice") [vl, vu, vk]) G')
    (pl : IsPart vl lo) (pu : IsPart vu hi) (pk : IsPart vk st) (h0 : st ≠ some 0) (hz : xs.length ≤ sizeLine) (hy : (slicePick xs.toArray lo hi st).toList = ys)
    (h : ∀ r s', Sg c m ((r, .list ys) :: G') s' → Q (.ref r) s')
    (hs : ∃ ops, subscripted slice false (.ref l) (.ref sl) = operate ops (getItem (.ref l) (.ref sl)) := by exact ⟨_, by with_unfolding_all rfl⟩) :
    wpAny (model prog w) A (subscriptTail value slice (.ref l) (.ref sl)) Q E s := by
  obtain ⟨nd, g, S⟩ := S
  obtain ⟨ops, e⟩ := hs
  exact sliceS S (oh_get nd hl) (oh_get nd hsl.mem) pl pu pk h0 hz hy (fun r s' hr S' => h r s' ((Sg.new nd hr S').sub (sb_cons rm_hd (let ⟨X, q⟩ := sb_drop (p := (sl, .fld (.type "slice") [vl, vu, vk])) (sb_refl (G := G')); ⟨X, List.Perm.trans hsl q⟩)))) e
theorem gSliceT {value slice : Expr} {l : Addr} {xs ys : List Value} {vl vu vk : Value} {lo hi st : Option Int} {Q : Value → Shared → Prop} (S : Sg c m G s) (hl : (l, .list xs) ∈ G)
    (pl : IsPart vl lo) (pu : IsPart vu hi) (pk : IsPart vk st) (h0 : st ≠ some 0) (hz : xs.length ≤ sizeLine) (hy : (slicePick xs.toArray lo hi st).toList = ys)
    (h : ∀ r s', Sg c m ((r, .list ys) :: G) s' → Q (.ref r) s')
    (hs : ∀ sl, ∃ ops, subscripted slice false (.ref l) (.ref sl) = operate ops (getItem (.ref l) (.ref sl)) := by intro _; exact ⟨_, by with_unfolding_all rfl⟩) :
    wpAny (model prog w) A (subscriptTail value slice (.ref l) (.ref s.heap.objs.size)) Q E { s with heap := s.heap.push { cls := .type "slice", data := .fields #[vl, vu, vk] } } := let ⟨nd, _, S⟩ := S; sliceT S (oh_get nd hl) pl pu pk h0 hz hy (fun r s' hr S' => h r s' (Sg.new nd hr S')) hs
/-! iterators -/
theorem gIterList {l : Addr} {xs : List Value} {Q : Value → Shared → Prop} (S : Sg c m G s) (hl : (l, .list xs) ∈ G) (h : ∀ it s', Sg c m ((it, litO l 0) :: G) s' → Q (.ref it) s') : wpAny (model prog w) A (pyIter (.ref l)) Q E s := let ⟨nd, _, S⟩ := S; iterList S (oh_get nd hl) fun it s' hi S' => h it s' (Sg.new nd hi S')
theorem gIterTup {l : Addr} {xs : List Value} {Q : Value → Shared → Prop} (S : Sg c m G s) (hl : (l, .raw (tupO xs)) ∈ G) (h : ∀ it s', Sg c m ((it, titO l 0) :: G) s' → Q (.ref it) s') : wpAny (model prog w) A (pyIter (.ref l)) Q E s := let ⟨nd, _, S⟩ := S; iterTup S (oh_get nd hl) fun it s' hi S' => h it s' (Sg.new nd hi S')
theorem gRange1 {n : Int} {t : Tok} {Q : Value → Shared → Prop} (S : Sg c m G s) (h : ∀ r a b v s', IsRange s'.heap r 0 n 1 a b v → Sg c m G s' → Q (.ref r) s') : wpAny (model prog w) A (call (.type "range") [.int n t]) Q E s := let ⟨nd, _, S⟩ := S; callRange1 S fun r a b v s' hr S' => h r a b v s' hr ⟨nd, _, S'⟩
theorem gRange2 {a n : Int} {t t₂ : Tok} {Q : Value → Shared → Prop} (S : Sg c m G s) (h : ∀ r x b v s', IsRange s'.heap r a n 1 x b v → Sg c m G s' → Q (.ref r) s') : wpAny (model prog w) A (call (.type "range") [.int a t, .int n t₂]) Q E s := let ⟨nd, _, S⟩ := S; callRange2 S fun r a b v s' hr S' => h r a b v s' hr ⟨nd, _, S'⟩
theorem gRange3 {a n k : Int} {t t₂ t₃ : Tok} {Q : Value → Shared → Prop} (S : Sg c m G s) (hk : k ≠ 0) (hp : Builtin.divisionGoesByPylong (n - a) k = false) (h : ∀ r x b v s', IsRange s'.heap r a n k x b v → Sg c m G s' → Q (.ref r) s') : wpAny (model prog w) A (call (.type "range") [.int a t, .int n t₂, .int k t₃]) Q E s := let ⟨nd, _, S⟩ := S; callRange3 S hk hp fun r a b v s' hr S' => h r a b v s' hr ⟨nd, _, S'⟩
/-- a range by ones: N items from a on -/
theorem gIterRange {r : Addr} {a b : Int} {N : Nat} {t₁ t₂ t₃ : Tok} {Q : Value → Shared → Prop} (S : Sg c m G s) (hr : IsRange s.heap r a b 1 t₁ t₂ t₃) (ha : -1000000 ≤ a ∧ a ≤ 1000000) (hb : -1000000 ≤ b ∧ b ≤ 1000000) (hN : (N : Int) = if a < b then b - a else 0)
    (h : ∀ it s', Sg c m ((it, ritO a N) :: G) s' → Q (.ref it) s') : wpAny (model prog w) A (pyIter (.ref r)) Q E s := let ⟨nd, _, S⟩ := S; iterRange S hr ha hb fun it s' hi S' => h it s' (Sg.new nd hi (hN ▸ S'))
theorem gIterRangeK {r : Addr} {a b k : Int} {N : Nat} {t₁ t₂ t₃ : Tok} {Q : Value → Shared → Prop} (S : Sg c m G s) (hr : IsRange s.heap r a b k t₁ t₂ t₃) (hs : Builtin.Range.small a b k = true) (hn : Builtin.Range.rangeSize a b k = N)
    (h : ∀ it s', Sg c m ((it, ritK a N k) :: G) s' → Q (.ref it) s') : wpAny (model prog w) A (pyIter (.ref r)) Q E s := let ⟨nd, _, S⟩ := S; iterRangeK S hr hs hn fun it s' hi S' => h it s' (Sg.new nd hi S')

end
end

section
theorem ritO0 {a N : Int} : ritO (a + ((0 : Nat) : Int)) (N - ((0 : Nat) : Int)) = ritO a N := by rw [show a + ((0 : Nat) : Int) = a by omega, show N - ((0 : Nat) : Int) = N by omega]
theorem ritK0 {a N k : Int} : ritK (a + k * ((0 : Nat) : Int)) (N - ((0 : Nat) : Int)) k = ritK a N k := by rw [show a + k * ((0 : Nat) : Int) = a by simp, show N - ((0 : Nat) : Int) = N by omega]
/-- a source of items: the cell of its iterator behind i draws -/
structure Src (prog : Program) (w : World) (A : Around) (c : Cx) (it : Addr) (f : Nat → AO) (N : Nat) (item : Nat → Value → Prop) (pre : Hp → Prop) : Prop where
  mono : ∀ p G, pre G → pre (p :: G)
  next : ∀ {i : Nat} {m : Loc} {G : Hp} {s : Shared} {Q : Option Value → Shared → Prop} {E : Value → Shared → Prop}, i ≤ N → pre G → Sg c m ((it, f i) :: G) s →
    (∀ v s', i < N → item i v → Sg c m ((it, f (i + 1)) :: G) s' → Q (some v) s') → (∀ s', i = N → Sg c m G s' → Q none s') → wpAny (model prog w) A (pyNext (.ref it)) Q E s
  again : ∀ {m : Loc} {G : Hp} {s : Shared} {Q : Value → Shared → Prop} {E : Value → Shared → Prop}, pre G → Sg c m ((it, f 0) :: G) s → (∀ s', Sg c m ((it, f 0) :: G) s' → Q (.ref it) s') → wpAny (model prog w) A (pyIter (.ref it)) Q E s

theorem entry_tupiter_iter : entryFor table "tuple_iterator.__iter__" = some Builtin.«dict_keyiterator.__iter__» :=
  entryFor_alias (id' := "dict_keyiterator.__iter__") (by kernel_rfl) rfl (by decide +kernel) (by kernel_rfl)
section
variable {prog : Program} {w : World} {K : Frag} {T : Tp} {A : Around} {c : Cx} {m : Loc} {G G' : Hp} {s : Shared} {E : Value → Shared → Prop} {d u : Nat} {R : Result → Shared → Prop}
theorem srcList {it l : Addr} {xs : List Value} (hh : A.handled = none) : Src prog w A c it (fun i => litO l i) xs.length (fun i v => xs[i]? = some v) (fun G => (l, .list xs) ∈ G) where
  mono p G h := .tail _ h
  next := by
    intro i m G s Q E hi hp ⟨nd, g, S⟩ h1 h2
    refine nextList hh S (oh_get nd (.head _)) (oh_get nd (.tail _ hp)) (fun v hv s' S' => ?_) (fun hv s' S' => ?_)
    · refine h1 v s' ?_ hv (Sg.upd nd up_hd S')
      rcases Nat.lt_or_ge i xs.length with q | q
      · exact q
      · rw [List.getElem?_eq_none q] at hv; cases hv
    · refine h2 s' ?_ (Sg.rm nd rm_hd S')
      rcases Nat.lt_or_ge i xs.length with q | q
      · rw [List.getElem?_eq_getElem q] at hv; cases hv
      · omega
  again := by
    intro m G s Q E hp S h
    obtain ⟨nd, g, S'⟩ := S
    obtain ⟨D, R⟩ := S'.rep
    obtain ⟨o, e1, e2, e3⟩ := (R.at_ it _ (oh_get nd (.head _))).1
    exact wpAny_pyIter_listiter (i := 0) ⟨o, e1, e2, by simpa using e3⟩ (h _ ⟨nd, g, S'⟩)
theorem srcTup {it l : Addr} {xs : List Value} (hh : A.handled = none) : Src prog w A c it (fun i => titO l i) xs.length (fun i v => xs[i]? = some v) (fun G => (l, .raw (tupO xs)) ∈ G) where
  mono p G h := .tail _ h
  next := by
    intro i m G s Q E hi hp ⟨nd, g, S⟩ h1 h2
    refine nextTup hh S (oh_get nd (.head _)) (oh_get nd (.tail _ hp)) (fun v hv s' S' => ?_) (fun hv s' S' => ?_)
    · refine h1 v s' ?_ hv (Sg.upd nd up_hd S')
      rcases Nat.lt_or_ge i xs.length with q | q
      · exact q
      · rw [List.getElem?_eq_none q] at hv; cases hv
    · refine h2 s' ?_ (Sg.rm nd rm_hd S')
      rcases Nat.lt_or_ge i xs.length with q | q
      · rw [List.getElem?_eq_getElem q] at hv; cases hv
      · omega
  again := by
    intro m G s Q E hp S h
    obtain ⟨nd, g, S'⟩ := S
    obtain ⟨D, R⟩ := S'.rep
    obtain ⟨o, e1, e2, e3⟩ := (R.at_ it _ (oh_get nd (.head _))).1
    have hT : s.TypeIs (.ref it) "tuple_iterator" := ⟨o, e1, e2⟩
    refine wpAny_pyIter_slot hT PySem.F.slot_tuple_iterator_iter (wpAny_call_entry PySem.F.slot_tuple_iterator_iter hT entry_tupiter_iter ?_ (PySem.F.args_tuple_iterator_iter_1 _))
    show wpAny _ _ (ret (.ref it)) _ _ s
    exact wpAny_pure ⟨_, rfl, "tuple_iterator", _, hT, PySem.F.slot_tuple_iterator_next.lookup, h _ ⟨nd, g, S'⟩⟩
theorem srcRange {it : Addr} {a : Int} {N : Nat} (hh : A.handled = none) : Src prog w A c it (fun i => ritO (a + i) ((N : Int) - i)) N (fun i v => ∃ tk, v = .int (a + i) tk) (fun _ => True) where
  mono p G h := h
  next := by
    intro i m G s Q E hi hp ⟨nd, g, S⟩ h1 h2
    refine nextRange hh S (oh_get nd (.head _)) (fun hv tk s' S' => ?_) (fun hv s' S' => ?_)
    · have e : ritO (a + ↑i + 1) (↑N - ↑i - 1) = ritO (a + (i + 1 : Nat)) ((N : Int) - (i + 1 : Nat)) := by
        rw [show a + (i : Int) + 1 = a + ((i + 1 : Nat) : Int) by omega, show (N : Int) - i - 1 = (N : Int) - ((i + 1 : Nat) : Int) by omega]
      rw [e] at S'
      exact h1 _ s' (by omega) ⟨tk, rfl⟩ (Sg.upd nd up_hd S')
    · exact h2 s' (by omega) (Sg.rm nd rm_hd S')
  again := by
    intro m G s Q E hp ⟨nd, g, S⟩ h
    exact wpAny_pyIter_rangeiter (S.raw (oh_get nd (.head _))) (h _ ⟨nd, g, S⟩)
theorem srcRangeK {it : Addr} {a k : Int} {N : Nat} (hh : A.handled = none) : Src prog w A c it (fun i => ritK (a + k * i) ((N : Int) - i) k) N (fun i v => ∃ tk, v = .int (a + k * i) tk) (fun _ => True) where
  mono p G h := h
  next := by
    intro i m G s Q E hi hp ⟨nd, g, S⟩ h1 h2
    refine nextRangeK hh S (oh_get nd (.head _)) (fun hv tk s' S' => ?_) (fun hv s' S' => ?_)
    · have e : ritK (a + k * ↑i + k) (↑N - ↑i - 1) k = ritK (a + k * (i + 1 : Nat)) ((N : Int) - (i + 1 : Nat)) k := by
        rw [show a + k * (i : Int) + k = a + k * ((i + 1 : Nat) : Int) by rw [Int.natCast_add]; simp [Int.mul_add, Int.add_assoc], show (N : Int) - i - 1 = (N : Int) - ((i + 1 : Nat) : Int) by omega]
      rw [e] at S'
      exact h1 _ s' (by omega) ⟨tk, rfl⟩ (Sg.upd nd up_hd S')
    · exact h2 s' (by omega) (Sg.rm nd rm_hd S')
  again := by
    intro m G s Q E hp ⟨nd, g, S⟩ h
    exact wpAny_pyIter_rangeiter (S.raw (oh_get nd (.head _))) (h _ ⟨nd, g, S⟩)

/-- a for over a source -/
theorem gFor {it : Addr} {f : Nat → AO} {N : Nat} {item : Nat → Value → Prop} {pre : Hp → Prop} {target : Expr} {body orelse : List Stmt} (src : Src prog w A c it f N item pre) (J : Nat → Loc → Hp → Prop)
    (inv : ∀ i m G, J i m G → pre G)
    (turn : ∀ i v m G s, i < N → item i v → J i m G → Sg c m ((it, f (i + 1)) :: G) s →
      wpAny (model prog w) A (assign target c.env v) (fun _ s₂ => wpAny (model prog w) A (execs body c.env) (Tn (fun s => ∃ m G, J (i + 1) m G ∧ Sg c m ((it, f (i + 1)) :: G) s) R) (Ne' prog w A c.env R) s₂) (Ne' prog w A c.env R) s)
    (fin : ∀ m G s, J N m G → Sg c m G s → wpAny (model prog w) A (execs orelse c.env) (fun f s₃ => R (.ok f) s₃) (Ne' prog w A c.env R) s)
    {x0 : AO} (S : Sg c m ((it, x0) :: G) s) (h0 : J 0 m G) (h00 : f 0 = x0 := by first | rfl | exact ritO0 | exact ritK0) (ht : ∀ v, letOwnedTupleGo target (.ref it) v = pure () := by intro _; rfl) : codeAny (model prog w) A (.forLoop target (.ref it) body orelse c.env) R s := by
  subst h00
  refine codeAny_forLoop (fun n s => ∃ i m G, i ≤ N ∧ n = N - i ∧ J i m G ∧ Sg c m ((it, f i) :: G) s) ?_ N ⟨0, m, G, Nat.zero_le _, rfl, h0, S⟩ ht
  rintro n s ⟨i, m, G, hi, rfl, hJ, S⟩
  refine src.next hi (inv i m G hJ) S (fun v s' hlt hv S' => ?_) (fun s' hN S' => ?_)
  · refine wpAny_mono (turn i v m G s' hlt hv hJ S') (fun _ s₂ h₂ => wpAny_mono h₂ (fun f s₃ h₃ => ?_) fun _ _ x => x) fun _ _ x => x
    cases f with
    | next => obtain ⟨m', H', j, S''⟩ := h₃; exact ⟨_, by omega, i + 1, m', H', hlt, rfl, j, S''⟩
    | cont => obtain ⟨m', H', j, S''⟩ := h₃; exact ⟨_, by omega, i + 1, m', H', hlt, rfl, j, S''⟩
    | brk => exact h₃
    | ret v => exact h₃
  · exact fin m G s' (hN ▸ hJ) S'
/-- a while by a measure -/
theorem gWhile {test : Expr} {body orelse : List Stmt} (J : Nat → Loc → Hp → Prop)
    (turn : ∀ n m G s, J n m G → Sg c m G s →
      wpAny (model prog w) A (isTrue test c.env (eval test c.env)) (fun b s₂ =>
        if b = true then wpAny (model prog w) A (execs body c.env) (Tn (fun s => ∃ n' m G, n' < n ∧ J n' m G ∧ Sg c m G s) R) (Ne' prog w A c.env R) s₂
        else wpAny (model prog w) A (execs orelse c.env) (fun f s₃ => R (.ok f) s₃) (Ne' prog w A c.env R) s₂) (Ne' prog w A c.env R) s)
    {n : Nat} (h0 : J n m G) (S : Sg c m G s) : codeAny (model prog w) A (.whileLoop test body orelse c.env) R s := by
  refine codeAny_whileLoop (fun n s => ∃ m G, J n m G ∧ Sg c m G s) ?_ n ⟨m, G, h0, S⟩
  rintro n s ⟨m, G, hJ, S⟩
  refine wpAny_mono (turn n m G s hJ S) (fun b s₂ h₂ => ?_) fun _ _ x => x
  cases b with
  | false => simpa using h₂
  | true =>
    simp only [if_true] at h₂ ⊢
    refine wpAny_mono h₂ (fun f s₃ h₃ => ?_) fun _ _ x => x
    cases f with
    | next => obtain ⟨n', m', H', q, j, S''⟩ := h₃; exact ⟨n', q, m', H', j, S''⟩
    | cont => obtain ⟨n', m', H', q, j, S''⟩ := h₃; exact ⟨n', q, m', H', j, S''⟩
    | brk => exact h₃
    | ret v => exact h₃

/-- a comprehension's element: with at most one test -/
def Elt (prog : Program) (w : World) (A : Around) (cenv : Env) (ifs : List Expr) (elt : Expr) (Q : Option Value → Shared → Prop) (s : Shared) : Prop :=
  match ifs with
  | [] => ∀ E, wpAny (model prog w) A (eval elt cenv) (fun v s => Q (some v) s) E s
  | [t] => ∀ E, wpAny (model prog w) A (isTrue t cenv (eval t cenv)) (fun b s => if b = true then wpAny (model prog w) A (eval elt cenv) (fun v s => Q (some v) s) E s else Q none s) E s
  | _ => False
theorem gCompBlock {elt iter : Expr} {ifs : List Expr} {x : Str} {px : Pos} {scope : Scope} {cl : List (Str × Addr)} {pos : Pos} {it : Addr} {f : Nat → AO} {N : Nat} {item : Nat → Value → Prop} {pre : Hp → Prop}
    (src : Src prog w A c it f N item pre) (I : Nat → List Value → Hp → Prop) {RR : Value → Addr → Result → Shared → Prop}
    (S : Sg c m ((it, f 0) :: G) s) (hN : N ≤ sizeLine) (h0 : I 0 [] G) (inv : ∀ i vs G, I i vs G → pre G)
    (hcell : ∀ y ∈ scope.names, y.2 ≠ .cell) (hkind : scope.kind = .function) (hx : scope.names.lookup x = some .local)
    (helt : ∀ i v vs C D G s, i < N → item i v → I i vs G → Sg c m ((C, .ns [(x, v)]) :: (D, .list vs) :: (it, f (i + 1)) :: G) s →
      Elt prog w A (compEnvC scope cl C c.env) ifs elt (fun o s' => ∃ G', I (i + 1) (match o with | some y => vs ++ [y] | none => vs) G' ∧ Sg c m ((C, .ns [(x, v)]) :: (D, .list vs) :: (it, f (i + 1)) :: G') s') s)
    (hR : ∀ D C vs mC G s', I N vs G → Sg c m ((C, .ns mC) :: (D, .list vs) :: G) s' → RR (.ref D) C (.ok .next) s') :
    wpAny (model prog w) A (newList []) (fun acc s₃ => wpAny (model prog w) A (newFunctionEnv scope c.env.globals cl [] c.env.qual none .none (some c.env)) (fun cenv s₄ =>
      codeAny (model prog w) A (.compStart (.ListComp elt [⟨.Name x px, iter, ifs, 0⟩] scope pos) 0 (.ref it) acc { cenv with scope := relabel scope c.env }) (RR acc cenv.locals) s₄) E s₃) E s := by
  refine gNewList S (Nat.zero_le _) fun D s₁ S₁ => ?_
  refine wpAny_newFunctionEnv hcell (by intro y hy; simp at hy) (fun h₁ hns hsb => ?_) hkind
  have k₁ : ∀ b o, s₁.heap.get? b = some o → h₁.get? b = some o := fun b o e => hsb.extBut b o (Nat.ne_of_lt (Heap.lt_size e)) (Heap.get?_push_of_some _ e)
  have S₂ : Sg c m ((s₁.heap.objs.size, .ns []) :: (D, .list []) :: (it, f 0) :: G) { s₁ with heap := h₁, toks := s₁.toks + ([] : List (Str × Value)).length } := by
    obtain ⟨nd, g, S₁⟩ := S₁
    obtain ⟨hC, S₂⟩ := S₁.more (a := s₁.heap.objs.size) (ao := .ns []) (h' := h₁) (tk := s₁.toks + ([] : List (Str × Value)).length) (by intro _ _ q; cases q) k₁ (Nat.le_refl _) (fun _ => hns)
    exact Sg.new nd hC S₂
  show codeAny (model prog w) A (.compStart (.ListComp elt [⟨.Name x px, iter, ifs, 0⟩] scope pos) 0 (.ref it) (.ref D) (compEnvC scope cl s₁.heap.objs.size c.env)) (RR (.ref D) s₁.heap.objs.size) _
  generalize s₁.heap.objs.size = C at S₂ ⊢
  have loop : ∀ s, Sg c m ((C, .ns []) :: (D, .list []) :: (it, f 0) :: G) s →
      codeAny (model prog w) A (.compLoop (.ListComp elt [⟨.Name x px, iter, ifs, 0⟩] scope pos) 0 (.ref it) (.ref D) (compEnvC scope cl C c.env)) (RR (.ref D) C) s := by
    intro s S₂
    refine codeAny_compLoop_tests (fun n s => ∃ i G vs mC, i ≤ N ∧ n = N - i ∧ vs.length ≤ i ∧ (∀ v, put x v mC = [(x, v)]) ∧ I i vs G ∧ Sg c m ((C, .ns mC) :: (D, .list vs) :: (it, f i) :: G) s) ?_ N ⟨0, G, [], [], Nat.zero_le _, rfl, Nat.le_refl _, fun _ => rfl, h0, S₂⟩
    rintro n s ⟨i, G, vs, mC, hi, rfl, hlen, hput, hI, S⟩
    have S := S.perm (show List.Perm _ ((it, f i) :: (C, .ns mC) :: (D, .list vs) :: G) from (List.Perm.cons _ (.swap ..)).trans (.swap ..))
    refine src.next hi (src.mono _ _ (src.mono _ _ (inv _ _ _ hI))) S (fun v s' hlt hv S' => ?_) (fun s' hiN S' => ?_)
    · have S' := S'.perm (show List.Perm _ ((C, .ns mC) :: (it, f (i + 1)) :: (D, .list vs) :: G) from .swap ..)
      obtain ⟨nd, g, St'⟩ := S'
      obtain ⟨D', R'⟩ := St'.rep
      have hn := (R'.at_ C _ (oh_get nd (.head _))).1
      refine wpAny_assign_Name (wpAny_storeName_local (lookup_relabel_local hx) hn (fun h₂ hn₂ hs₂ => ?_) (by simp [compEnvC, relabel, hkind]))
      have S3 := St'.change (a := C) (ao := .ns mC) (ao' := .ns [(x, v)]) (h' := h₂) (tk := s'.toks + 1) (oh_get nd (.head _)) (by intro _ _ q; cases q) hs₂ (fun _ => by
        show h₂.Ns C (fun y => [(x, v)].lookup y)
        have e : (fun y => [(x, v)].lookup y) = fun y => if y = x then some v else mC.lookup y := by
          rw [← hput]; exact funext fun y => lookup_put x _ mC y
        rw [e]; exact hn₂)
      have S4 := (Sg.upd nd up_hd S3).perm (show List.Perm _ ((C, .ns [(x, v)]) :: (D, .list vs) :: (it, f (i + 1)) :: G) from .cons _ (.swap ..))
      have fin : ∀ (y : Value) s₅, (∃ G', I (i + 1) (vs ++ [y]) G' ∧ Sg c m ((C, .ns [(x, v)]) :: (D, .list vs) :: (it, f (i + 1)) :: G') s₅) → ∀ E', wpAny (model prog w) A (call (.builtin "list.append") [.ref D, y])
          (fun _ s₅ => ∃ m', m' < N - i ∧ ∃ i G vs mC, i ≤ N ∧ m' = N - i ∧ vs.length ≤ i ∧ (∀ v, put x v mC = [(x, v)]) ∧ I i vs G ∧ Sg c m ((C, .ns mC) :: (D, .list vs) :: (it, f i) :: G) s₅) E' s₅ := by
        rintro y s₅ ⟨G', hI', S5⟩ E'
        exact gAppend S5 (up_tl up_hd) (by omega) fun s₆ S6 => ⟨_, by omega, i + 1, G', vs ++ [y], _, hlt, rfl, by simp; omega, fun _ => by simp [put], hI', S6⟩
      have skip : ∀ s₅, (∃ G', I (i + 1) vs G' ∧ Sg c m ((C, .ns [(x, v)]) :: (D, .list vs) :: (it, f (i + 1)) :: G') s₅) →
          ∃ m', m' < N - i ∧ ∃ i G vs mC, i ≤ N ∧ m' = N - i ∧ vs.length ≤ i ∧ (∀ v, put x v mC = [(x, v)]) ∧ I i vs G ∧ Sg c m ((C, .ns mC) :: (D, .list vs) :: (it, f i) :: G) s₅ := by
        rintro s₅ ⟨G', hI', S5⟩
        exact ⟨_, by omega, i + 1, G', vs, _, hlt, rfl, by omega, fun _ => by simp [put], hI', S5⟩
      have hE := helt i v vs C D G _ hlt hv hI S4
      match ifs, hE with
      | [], hE =>
        refine wpAny_tests_nil ?_
        rw [if_pos rfl]
        exact wpAny_mono (hE _) (fun y s₅ h₅ => fin y s₅ h₅ _) fun _ _ x => x
      | [t], hE =>
        refine wpAny_tests_one (wpAny_mono (hE _) (fun b s₅ h₅ => ?_) fun _ _ x => x)
        cases b with
        | true =>
          rw [if_pos rfl] at h₅ ⊢
          exact wpAny_mono h₅ (fun y s₅ h₅ => fin y s₅ h₅ _) fun _ _ x => x
        | false =>
          rw [if_neg (by decide)] at h₅ ⊢
          exact skip _ h₅
      | _ :: _ :: _, hE => exact hE.elim
    · exact hR D C vs mC G s' (hiN ▸ hI) S'
  refine codeAny_compStart_list (loop _ S₂) ?_
  have S₃ := S₂.perm (show List.Perm _ ((it, f 0) :: (C, .ns []) :: (D, .list []) :: G) from (List.Perm.cons _ (.swap ..)).trans (.swap ..))
  exact src.again (src.mono _ _ (src.mono _ _ (inv _ _ _ h0))) S₃ fun s' S' => loop _ (S'.perm ((List.Perm.swap ..).trans (.cons _ (.swap ..))))
/-- a list comprehension with one clause -/
def CompK (prog : Program) (w : World) (A : Around) (c : Cx) (scope : Scope) (cl : List (Str × Addr)) (x : Str) (ifs : List Expr) (elt : Expr) (m : Loc) (Q : Addr → List Value → Hp → Shared → Prop) (itv : Value) (s₂ : Shared) : Prop :=
  ∃ it f N item pre G x0, ∃ (I : Nat → List Value → Hp → Prop), itv = .ref it ∧ Src prog w A c it f N item pre ∧ f 0 = x0 ∧ N ≤ sizeLine ∧ Sg c m ((it, x0) :: G) s₂ ∧ I 0 [] G ∧ (∀ i vs G, I i vs G → pre G) ∧
    (∀ i v vs C D G s, i < N → item i v → I i vs G → Sg c m ((C, .ns [(x, v)]) :: (D, .list vs) :: (it, f (i + 1)) :: G) s →
      Elt prog w A (compEnvC scope cl C c.env) ifs elt (fun o s' => ∃ G', I (i + 1) (match o with | some y => vs ++ [y] | none => vs) G' ∧ Sg c m ((C, .ns [(x, v)]) :: (D, .list vs) :: (it, f (i + 1)) :: G') s') s) ∧
    (∀ D vs G s', I N vs G → Sg c m ((D, .list vs) :: G) s' → Q D vs G s')
theorem gComp {elt iter : Expr} {ifs : List Expr} {x : Str} {px : Pos} {scope : Scope} {cl : List (Str × Addr)} {pos : Pos} {Q : Value → Shared → Prop} (_S : Sg c m G s)
    (hclos : closureFor scope c.env = pure cl) (hcell : ∀ y ∈ scope.names, y.2 ≠ .cell) (hkind : scope.kind = .function)
    (hnames : ∀ y ∈ scope.names, y.2 = .local → scope.names.lookup y.1 = some .local) (hx : scope.names.lookup x = some .local)
    (h : wpAny (model prog w) A (eval iter c.env) (fun xv s₁ => wpAny (model prog w) A (pyIter xv) (CompK prog w A c scope cl x ifs elt m (fun D _ _ s' => Q (.ref D) s')) E s₁) E s)
    (hs : ∀ x, foldedSetIterable iter c.env x = pure x := by intro _; rfl) :
    wpAny (model prog w) A (eval (.ListComp elt [⟨.Name x px, iter, ifs, 0⟩] scope pos) c.env) Q E s := by
  rw [eval_ListComp]
  refine wpAny_comprehension_free (use := none) rfl hs hclos hkind hnames (wpAny_mono h (fun xv s₁ h₁ => wpAny_mono h₁ (fun itv s₂ h₂ => ?_) fun _ _ e => e) fun _ _ e => e)
  obtain ⟨it, f, N, item, pre, G, x0, I, rfl, src, rfl, hN, S, h0, inv, helt, hQ⟩ := h₂
  refine gCompBlock src I (RR := fun acc C => compPost (model prog w) A E none Q acc C) S hN h0 inv hcell hkind hx helt ?_
  intro D C vs mC G s' hI S'
  obtain ⟨nd, g, S''⟩ := S'
  obtain ⟨D', R'⟩ := S''.rep
  refine ⟨_, (R'.at_ C _ (oh_get nd (.head _))).1, fun h' hs' => ?_⟩
  have S2 := S''.drop (a := C) (h' := h') (tk := s'.toks) (oh_get nd (.head _)) (by intro _ _ q; cases q) (fun b o hb e => (hs'.2 b hb).trans e)
  exact hQ D vs G _ hI (Sg.rm nd rm_hd S2)
/-- the same, bound to a local name -/
theorem gAssignComp {elt iter : Expr} {ifs : List Expr} {x y : Str} {px py : Pos} {scope : Scope} {cl : List (Str × Addr)} {pos spos : Pos} {rest : List Stmt} {Q : Flow → Shared → Prop} (_S : Sg c m G s)
    (hsw : swapsWith (.ListComp elt [⟨.Name x px, iter, ifs, 0⟩] scope pos) (some (.Name y py)) spos.line c.env = pure true)
    (hclos : closureFor scope c.env = pure cl) (hcell : ∀ y ∈ scope.names, y.2 ≠ .cell) (hkind : scope.kind = .function)
    (hnames : ∀ y ∈ scope.names, y.2 = .local → scope.names.lookup y.1 = some .local) (hx : scope.names.lookup x = some .local)
    (hy : c.env.kindOf y = some .local) (hk : c.cs.kind = .function)
    (h : wpAny (model prog w) A (eval iter c.env) (fun xv s₁ => wpAny (model prog w) A (pyIter xv) (CompK prog w A c scope cl x ifs elt m (fun D vs G s' => ∀ s'', Sg c (put y (.ref D) m) ((D, .list vs) :: G) s'' → wpAny (model prog w) A (execs rest c.env) Q E s'')) E s₁) E s)
    (hs : ∀ x, foldedSetIterable iter c.env x = pure x := by intro _; rfl) :
    wpAny (model prog w) A (execs (.Assign [.Name y py] (.ListComp elt [⟨.Name x px, iter, ifs, 0⟩] scope pos) spos :: rest) c.env) Q E s := by
  refine ex_cons ?_
  rw [exec_Assign_Name_used _ _ _ _ hsw]
  refine wpAny_bind (wpAny_standAt (wpAny_bind ?_))
  show wpAny _ A (do let _ ← comprehension (.ListComp elt [⟨.Name x px, iter, ifs, 0⟩] scope pos) scope c.env _ (newList []) false (eval iter c.env) (some (assign (.Name y py) c.env))) _ _ s
  refine wpAny_bind (wpAny_mono (wpAny_comprehension_free (use := some (assign (.Name y py) c.env)) (Q := fun _ s' => wpAny (model prog w) A (execs rest c.env) Q E s') rfl hs hclos hkind hnames
    (wpAny_mono h (fun xv s₁ h₁ => wpAny_mono h₁ (fun itv s₂ h₂ => ?_) fun _ _ e => e) fun _ _ e => e)) (fun _ s' hq => wpAny_pure (wpAny_pure hq)) fun _ _ e => e)
  obtain ⟨it, f, N, item, pre, G, x0, I, rfl, src, rfl, hN, S, h0, inv, helt, hQ⟩ := h₂
  refine gCompBlock src I (RR := fun acc C => compPost (model prog w) A E (some (assign (.Name y py) c.env)) (fun _ s' => wpAny (model prog w) A (execs rest c.env) Q E s') acc C) S hN h0 inv hcell hkind hx helt ?_
  intro D C vs mC G s' hI S'
  show wpAny _ A (assign (.Name y py) c.env (.ref D)) _ _ _
  obtain ⟨nd', g', S1⟩ := S'
  refine asName (storeL S1 hy (fun s'' S'' => ?_) hk)
  obtain ⟨D', R'⟩ := S''.rep
  refine ⟨_, (R'.at_ C _ (oh_get nd' (.head _))).1, fun h' hs' => ?_⟩
  have S2 := S''.drop (a := C) (h' := h') (tk := s''.toks) (oh_get nd' (.head _)) (by intro _ _ q; cases q) (fun b o hb e => (hs'.2 b hb).trans e)
  have S1' : Sg c m ((D, .list vs) :: G) s' := (Sg.same nd' S1).drop
  exact hQ D vs G s' hI S1' _ (Sg.rm nd' rm_hd S2)
end
end

section
section
variable {prog : Program} {w : World} {K : Frag} {T : Tp} {A : Around} {c c' : Cx} {m m' : Loc} {G G' : Hp} {s s' : Shared} {E : Value → Shared → Prop} {d u : Nat} {R : Result → Shared → Prop} {e : Addr} {cls : Value} {md : Md}
theorem gl_ret {v : Value} (S : Sg c' m' G' s') (h : Sg c m G' s' → R (.ok (.ret v)) s') : Lv c c' m R (.ret v) s' := let ⟨nd, g, S⟩ := S; ⟨m', oh g G', S, fun S => h ⟨nd, g, S⟩⟩
theorem gl_next (S : Sg c' m' G' s') (h : Sg c m G' s' → R (.ok (.ret .none)) s') : Lv c c' m R .next s' := let ⟨nd, g, S⟩ := S; ⟨m', oh g G', S, fun S => h ⟨nd, g, S⟩⟩
theorem gx_intro (X : Xg c' m' G' e cls md s') (h : ∀ s'', Xg c m G' e cls .fly s'' → R (.error (.ref e)) s'') : Lx c c' m R (.ref e) s' := let ⟨nd, g, X⟩ := X; lx_intro X fun s'' X'' => h s'' ⟨nd, g, X''⟩
theorem gRaised {cls : String} {vs : List Value} (S : Sg c m G s) (k : ∀ e s', Xg c m G e (.type cls) .fresh s' → E (.ref e) s') : ∀ h' e, Heap.MadeExc s.heap h' e cls vs → E (.ref e) { s with heap := h' } :=
  let ⟨nd, g, S⟩ := S; raised S fun e s' X => k e s' ⟨nd, g, X⟩
theorem Xg.st (X : Xg c m G e cls md s) : Sg c m G s := let ⟨nd, g, X⟩ := X; ⟨nd, g, X.st⟩
theorem gNoted (O : Ok K T A c d u) (X : Xg c m G e cls md s) (h : ∀ s', Xg c m G e cls .held s' → E (.ref e) s') : notedBy (model prog w) A c.env E (.ref e) s := let ⟨nd, g, X⟩ := X; noted O X fun s' X' => h s' ⟨nd, g, X'⟩
theorem gCameBack (X : Xg c m G e cls .held s) (hk : c.cs.kind = .function) (h : ∀ s', Xg c m G e cls .held s' → E (.ref e) s') : cameBackBy (model prog w) A c.env E (.ref e) s := let ⟨nd, g, X⟩ := X; cameBack X hk fun s' X' => h s' ⟨nd, g, X'⟩
theorem gTryCaught {T' Xn : String} {x : Str} {np pos : Pos} {b₀ : Stmt} {suite : List Stmt} {rest : List ExceptHandler} {Q : Flow → Shared → Prop} (O : Ok K T A c d u) (X : Xg c m G e (.type Xn) md s) (hx : c.env.kindOf x = some .globalImplicit) (en : nsIn K mainGlobals x = some none) (hv : bootBuiltins x = some (.type T')) (hn : x ≠ "__name__")
    (hexc : isSubtype (.type T') (.type "BaseException") = pure true) (hnt : isSubtype (.type ((Manifest.find? T').elim "type" fun y => y.metatype)) (.type "tuple") = pure false) (hsub : isSubtype (.type Xn) (.type T') = pure true)
    (k : ∀ s', Xg c m G e (.type Xn) .fly s' → wpAny (model prog w) (A.mark (some (.ref e))) (execs (b₀ :: suite) c.env) Q (notedBy (model prog w) (A.mark (some (.ref e))) c.env (cameBackBy (model prog w) A c.env E)) s')
    (hd : (x == ("__debug__" : Str)) = false := by decide) :
    wpAny (model prog w) A (noteFrame (.ref e) c.env) (fun _ s₂ => wpAny (model prog w) A (setFlight (.ref e) none) (fun _ s₃ =>
        wpAny (model prog w) A (handleBy (.ref e) c.env (.ExceptHandler (some (.Name x np)) none (b₀ :: suite) pos :: rest)) Q E s₃) E s₂) E s := let ⟨nd, g, X⟩ := X; tryCaught O X hx en hv hn hexc hnt hsub (fun s' X' => k s' ⟨nd, g, X'⟩) hd
theorem Xg.sub {G' : Hp} (X : Xg c m G e cls md s) (h : Sb G G') : Xg c m G' e cls md s := by
  obtain ⟨nd, g, ⟨st, B, D, a0, b1, b2, b3, ⟨r1, r2, r3⟩, b4, b5, x⟩⟩ := X
  have le : (oh g G').Le (oh g G) := ⟨fun a ao e => (lk_mem nd).mpr (h.mem ((lk_mem (h.nd nd)).mp e)), rfl⟩
  refine ⟨h.nd nd, g, st.forget le, B, D, a0, b1, b2, b3, ⟨fun a ao e => r1 a ao (le.1 a ao e), fun a C fs e => ⟨(r2 a C fs (le.1 _ _ e)).1, ?_⟩, fun a C fs a' C' fs' e e' => r3 a C fs a' C' fs' (le.1 _ _ e) (le.1 _ _ e')⟩, b4, b5, x⟩
  have := (r2 a C fs (le.1 _ _ e)).2
  cases q : (oh g G').obj (D a) with
  | none => rfl
  | some y => rw [le.1 _ _ q] at this; cases this

variable {name qual : Str} {params : Arguments} {body : List Stmt} {scope : Scope} {dV kV doc pm cdv ct oc : Value} {an od : Option Addr} {osl : Array (Option Value)} {f : Addr} {args : Args} {binds : List (Str × Value)}
theorem gFn (O : Ok K T A c (d + 1) (u + 3)) (S : Sg c m G s)
    (ho : K.lookup f = some ⟨oc, od, .func (fnOf name qual params body scope dV kV doc pm an cdv ct), osl⟩) (hcd : codeIn K cdv qual = true)
    (hbind : K.In s.heap → BindsTo s (fnOf name qual params body scope dV kV doc pm an cdv ct) args binds) (hloc : ∀ y ∈ binds, scope.names.lookup y.1 = some .local)
    (h : ∀ (A' : Around) (outer' : List Env) (fr' : List (Addr × Loc)) (L' : Addr) (s' : Shared), Ok K T A' ⟨c.base, outer', fr', qual, scope, L', f, cdv, [], c.os⟩ d u → A'.handled = A.handled →
      Sg ⟨c.base, outer', fr', qual, scope, L', f, cdv, [], c.os⟩ binds.reverse G s' →
      wpAny (model prog w) A' (execs body (Cx.env ⟨c.base, outer', fr', qual, scope, L', f, cdv, [], c.os⟩)) (Lv c ⟨c.base, outer', fr', qual, scope, L', f, cdv, [], c.os⟩ m R)
        (Lx c ⟨c.base, outer', fr', qual, scope, L', f, cdv, [], c.os⟩ m R) s')
    (hco : scope.isCoroutine = false) (hgen : scope.isGenerator = false) (hk : scope.kind = .function) (hcell : ∀ x ∈ scope.names, x.2 ≠ .cell) :
    codeAny (model prog w) A (.call (.ref f) args) R s := let ⟨nd, g, S⟩ := S; code_fn O S ho hcd hbind hloc (fun A' o f L s' O' hA S' => h A' o f L s' O' hA ⟨nd, g, S'⟩) hco hgen hk hcell
/-- a class called whose __init__ is a def -/
theorem gMake {C fI : Addr} {rest : List Value} {kw : List (Str × Value)} (O : Ok K T A c (d + 1) (u + 1)) (S : Sg c m G s) (hm : makesIn K C = true) (hi : findIn K (.ref C) "__init__" = some (some (.ref fI))) (hf : isFn K (.ref fI) = true)
    (h : ∀ x s' A', Ok K T A' c d u → A'.handled = A.handled → Sg c m ((x, .inst C []) :: G) s' → codeAny (model prog w) A' (.call (.ref fI) ⟨.ref x :: rest, kw⟩) (InitBack x R) s') :
    codeAny (model prog w) A (.call (.ref C) ⟨rest, kw⟩) R s := let ⟨nd, g, S⟩ := S; code_make O S hm hi hf fun x s' A' O' hA hx S' => h x s' A' O' hA (Sg.new nd hx S')
end
end

section
variable {prog : Program} {w : World} {A : Around} {E : Value → Shared → Prop} {s : Shared} {env : Env}
theorem cwT1 {pos : Pos} {T : String} {e : Expr} {rest : List Expr} {Q : Value → Shared → Prop}
    (h : wpAny (model prog w) A (spliced (backTo pos (starEach (e :: rest) env))) (fun vs s₁ => wpAny (model prog w) A (call (.type T) vs) Q E s₁) E s)
    (he : starEach (e :: rest) env = (false, eval e env) :: starEach rest env := by with_unfolding_all rfl) (hplain : (backTo pos (starEach rest env)).any (·.1) = false := by with_unfolding_all rfl) :
    wpAny (model prog w) A (callWith pos (.type T) [] (backTo pos (starEach (e :: rest) env)) []) Q E s := PyProof.Rows.callWith_type1 h he hplain
theorem cwB1 {pos : Pos} {id : String} {first : List Value} {e : Expr} {rest : List Expr} {Q : Value → Shared → Prop}
    (h : wpAny (model prog w) A (spliced (backTo pos (starEach (e :: rest) env))) (fun vs s₁ => wpAny (model prog w) A (call (.builtin id) (first ++ vs)) Q E s₁) E s)
    (he : starEach (e :: rest) env = (false, eval e env) :: starEach rest env := by with_unfolding_all rfl) (hplain : (backTo pos (starEach rest env)).any (·.1) = false := by with_unfolding_all rfl) :
    wpAny (model prog w) A (callWith pos (.builtin id) first (backTo pos (starEach (e :: rest) env)) []) Q E s := callWith_method1 h he hplain
theorem cwB1n {pos : Pos} {id : String} {e : Expr} {rest : List Expr} {Q : Value → Shared → Prop}
    (h : wpAny (model prog w) A (spliced (backTo pos (starEach (e :: rest) env))) (fun vs s₁ => wpAny (model prog w) A (call (.builtin id) vs) Q E s₁) E s)
    (he : starEach (e :: rest) env = (false, eval e env) :: starEach rest env := by with_unfolding_all rfl) (hplain : (backTo pos (starEach rest env)).any (·.1) = false := by with_unfolding_all rfl) :
    wpAny (model prog w) A (callWith pos (.builtin id) [] (backTo pos (starEach (e :: rest) env)) []) Q E s := cwB1 (first := []) h he hplain
theorem cwB1s {pos : Pos} {id : String} {a : Value} {e : Expr} {rest : List Expr} {Q : Value → Shared → Prop}
    (h : wpAny (model prog w) A (spliced (backTo pos (starEach (e :: rest) env))) (fun vs s₁ => wpAny (model prog w) A (call (.builtin id) (a :: vs)) Q E s₁) E s)
    (he : starEach (e :: rest) env = (false, eval e env) :: starEach rest env := by with_unfolding_all rfl) (hplain : (backTo pos (starEach rest env)).any (·.1) = false := by with_unfolding_all rfl) :
    wpAny (model prog w) A (callWith pos (.builtin id) [a] (backTo pos (starEach (e :: rest) env)) []) Q E s := cwB1 (first := [a]) h he hplain
theorem argsMore {e : Expr} {rest : List Expr} {pos : Pos} {Q : List Value → Shared → Prop}
    (h : wpAny (model prog w) A (eval e env) (fun v s₁ => wpAny (model prog w) A (spliced (backTo pos (starEach rest env))) (fun vs s₂ => Q (v :: vs) s₂) E s₁) E s)
    (he : starEach (e :: rest) env = (false, eval e env) :: starEach rest env := by with_unfolding_all rfl) : wpAny (model prog w) A (spliced (backTo pos (starEach (e :: rest) env))) Q E s := spliced_more h he
section
variable {a b : Int} {t u : Tok} {Q : Value → Shared → Prop}
theorem ltI (h : Q (.bool (decide (a < b))) s) : wpAny (model prog w) A (compareOp .Lt (.int a t) (.int b u)) Q E s := wpAny_lt_int h
theorem gtI (h : Q (.bool (decide (b < a))) s) : wpAny (model prog w) A (compareOp .Gt (.int a t) (.int b u)) Q E s := SiftDown.gt_int h
theorem leI (h : Q (.bool (decide (a ≤ b))) s) : wpAny (model prog w) A (compareOp .LtE (.int a t) (.int b u)) Q E s := PyProof.Rows.le_int h
theorem geI (h : Q (.bool (decide (b ≤ a))) s) : wpAny (model prog w) A (compareOp .GtE (.int a t) (.int b u)) Q E s := PyProof.Rows.ge_int h
theorem eqI (h : Q (.bool (a == b)) s) : wpAny (model prog w) A (compareOp .Eq (.int a t) (.int b u)) Q E s := IsLeap.wpAny_eq_int' h
theorem neI (h : Q (.bool (a != b)) s) : wpAny (model prog w) A (compareOp .NotEq (.int a t) (.int b u)) Q E s := IsLeap.wpAny_ne_int h
end
end
theorem put_lt {x : Str} {v : Value} {n : Nat} : ∀ {m : Loc}, m.length < n → (put x v m).length < n + 1
  | [], h => by simp [put]; omega
  | (y, u) :: r, h => by
    unfold put
    split
    · simp at h ⊢; omega
    · simp only [List.length_cons] at h ⊢
      have := put_lt (x := x) (v := v) (n := n - 1) (m := r) (by omega)
      omega
theorem lk_same {x : Str} {v : Value} {m : Loc} : (put x v m).lookup x = some v := by rw [lookup_put, if_pos rfl]
theorem lk_ne {x y : Str} {v u : Value} {m : Loc} (n : y ≠ x) (h : m.lookup y = some u) : (put x v m).lookup y = some u := by rw [lookup_put, if_neg n, h]
theorem some_get {xs : List Value} {k : Nat} (h : k < xs.length) : ∃ y, xs[k]? = some y := ⟨_, List.getElem?_eq_getElem h⟩
theorem le_sz {n : Nat} (h : n ≤ 1000000) : n ≤ sizeLine := by have h2 : sizeLine = 2 ^ 24 := rfl; omega

/-! evidence -/
theorem lk_hd {x : Str} {v : Value} {m : Loc} : ((x, v) :: m).lookup x = some v := by rw [List.lookup_cons]; simp
theorem lk_tl {x y : Str} {v : Value} {m : Loc} {o : Option Value} (n : y ≠ x) (h : m.lookup y = o) : ((x, v) :: m).lookup y = o := by
  rw [List.lookup_cons, beq_eq_false_iff_ne.mpr n]; exact h
theorem pe_hd {x : Str} {v u : Value} {m : Loc} : put x v ((x, u) :: m) = (x, v) :: m := by unfold put; rw [if_pos rfl]
theorem pe_tl {x y : Str} {v u : Value} {m m' : Loc} (n : y ≠ x) (h : put x v m = m') : put x v ((y, u) :: m) = (y, u) :: m' := by
  conv => lhs; unfold put
  rw [if_neg n, h]
theorem pe_nil {x : Str} {v : Value} : put x v [] = [(x, v)] := rfl

section
variable {prog : Program} {w : World} {K : Frag} {T : Tp} {A : Around} {c : Cx} {m : Loc} {G G' : Hp} {s : Shared} {E : Value → Shared → Prop} {d u : Nat} {env : Env}
theorem gNameCL {scope : Scope} {cl : List (Str × Addr)} {C : Addr} {mC : Loc} {x pos v} {Q : Value → Shared → Prop} (S : Sg c m G s) (hC : (C, .ns mC) ∈ G) (hk : scope.kind = .function) (hx : (compEnvC scope cl C c.env).kindOf x = some .local) (hv : mC.lookup x = some v) (h : Q v s)
    (hd : (x == ("__debug__" : Str)) = false := by decide) : wpAny (model prog w) A (eval (.Name x pos) (compEnvC scope cl C c.env)) Q E s := let ⟨nd, g, S⟩ := S; nameCL S (oh_get nd hC) hk hx hv h hd
theorem gNameCK {scope : Scope} {cl : List (Str × Addr)} {C : Addr} {x pos v} {Q : Value → Shared → Prop} (O : Ok K T A c d u) (S : Sg c m G s) (hx : (compEnvC scope cl C c.env).kindOf x = some .globalImplicit) (e : nsIn K mainGlobals x = some (some v)) (h : Q v s) (hk : scope.kind = .function := by rfl) (hd : (x == ("__debug__" : Str)) = false := by decide) : wpAny (model prog w) A (eval (.Name x pos) (compEnvC scope cl C c.env)) Q E s := let ⟨nd, g, S⟩ := S; nameCK O S hx e h hk hd
theorem gNameCB {scope : Scope} {cl : List (Str × Addr)} {C : Addr} {x pos v} {Q : Value → Shared → Prop} (O : Ok K T A c d u) (S : Sg c m G s) (hx : (compEnvC scope cl C c.env).kindOf x = some .globalImplicit) (e : nsIn K mainGlobals x = some none) (hv : bootBuiltins x = some v) (hn : x ≠ "__name__") (h : Q v s) (hk : scope.kind = .function := by rfl) (hd : (x == ("__debug__" : Str)) = false := by decide) : wpAny (model prog w) A (eval (.Name x pos) (compEnvC scope cl C c.env)) Q E s := let ⟨nd, g, S⟩ := S; nameCB O S hx e hv hn h hk hd
theorem gNameCell {x pos v} {ca : Addr} {Q : Value → Shared → Prop} (S : Sg c m G s) (hk : env.scope.kind = .function) (hx : env.kindOf x = some .cell) (hc : env.cells.lookup x = some ca) (hv : (ca, .cell (some v)) ∈ G) (h : Q v s)
    (hd : (x == ("__debug__" : Str)) = false := by decide) : wpAny (model prog w) A (eval (.Name x pos) env) Q E s := let ⟨nd, g, S⟩ := S; nameCell S hk hx hc (oh_get nd hv) h hd
theorem gStoreCell {x : Str} {v : Value} {ca : Addr} {v₀ : Option Value} {Q : Unit → Shared → Prop} (S : Sg c m G s) (hx : c.env.kindOf x = some .cell) (hc : c.cl.lookup x = some ca) (hv : Up G ca (.cell v₀) (.cell (some v)) G') (h : ∀ s', Sg c m G' s' → Q () s') (hk : c.cs.kind = .function := by rfl) :
    wpAny (model prog w) A (storeName c.env x v) Q E s := let ⟨nd, g, S⟩ := S; storeCell S hx hc (oh_get nd (let ⟨_, h1, _⟩ := hv; Rm.mem h1)) (fun s' S' => h s' (Sg.upd nd hv S')) hk
theorem gSetOwn' {a C : Addr} {fs fs' : Loc} {name : Str} {v : Value} {Q : Unit → Shared → Prop} (O : Ok K T A c d u) (S : Sg c m G s) (hm : (a, .inst C fs) ∈ G) (hput : put name v fs = fs') (hi : Up G a (.inst C fs) (.inst C fs') G')
    (hs : findIn K (.ref C) "__setattr__" = some (some (.builtin "object.__setattr__"))) (hp : plainOver K C = true) (ht : takerIn K C name = some none) (hh : hasDictIn K C = true) (hz : fs.length < 900)
    (h : ∀ s', Sg c m G' s' → Q () s') :
    wpAny (model prog w) A (setAttr (.ref a) name v) Q E s := gSetOwn O S (hput ▸ hi) hs hp ht hh hz h
theorem gAppend' {Q : Value → Shared → Prop} {l : Addr} {xs ys : List Value} {x : Value} (S : Sg c m G s) (hm : (l, .list xs) ∈ G) (he : xs ++ [x] = ys) (hl : Up G l (.list xs) (.list ys) G') (hsz : xs.length ≤ sizeLine) (h : ∀ s', Sg c m G' s' → Q .none s') :
    wpAny (model prog w) A (call (.builtin "list.append") [.ref l, x]) Q E s := gAppend S (he ▸ hl) hsz h
end
section
variable {prog : Program} {w : World} {K : Frag} {T : Tp} {A : Around} {c : Cx} {m : Loc} {G G' : Hp} {s : Shared} {E : Value → Shared → Prop} {d u : Nat} {env : Env}
theorem gCwMeth {pos : Pos} {q g : Addr} {self : Value} {first : List Value} {e : Expr} {es : List Expr} {Q : Value → Shared → Prop} (O : Ok K T A c d u) (S : Sg c m G s) (hq : (q, .raw (methodObj (.ref g) self)) ∈ G) (hf : fnIn K g = true)
    (h : wpAny (model prog w) A (spliced (backTo pos (starEach (e :: es) env))) (fun vs s₁ => MethP K q g self s₁.heap ∧ wpAny (model prog w) A (call (.ref q) (first ++ vs)) Q E s₁) E s)
    (he : starEach (e :: es) env = (false, eval e env) :: starEach es env := by with_unfolding_all rfl) (hplain : (backTo pos (starEach es env)).any (·.1) = false := by with_unfolding_all rfl) :
    wpAny (model prog w) A (callWith pos (.ref q) first (backTo pos (starEach (e :: es) env)) []) Q E s := cwMeth hf h he hplain
theorem gItemNeg {value slice : Expr} {l : Addr} {xs : List Value} {k : Int} {u : Tok} {x : Value} {Q : Value → Shared → Prop} (S : Sg c m G s) (hl : (l, .list xs) ∈ G) (h0 : k < 0) (hk : -(2 ^ 63) ≤ k) (hn : -(xs.length : Int) ≤ k) (hx : xs[(k + xs.length).toNat]? = some x) (h : Q x s)
    (hs : subscripted slice false (.ref l) (.int k u) = operate [.ref l, .int k u] (getItem (.ref l) (.int k u)) := by with_unfolding_all rfl) :
    wpAny (model prog w) A (subscriptTail value slice (.ref l) (.int k u)) Q E s := let ⟨nd, _, S⟩ := S
  tail_any (S.isList (oh_get nd hl)).typeIs slot_list_getitem.lookup (wpAny_getItem_list_neg (S.isList (oh_get nd hl)) h0 (by simpa using hn) hk (by simpa using hx) h) hs
end
theorem Sg.take1 {c : Cx} {m : Loc} {G G1 : Hp} {s : Shared} {a : Addr} {x : AO} (S : Sg c m G s) (r : Rm G a x G1) : Sg c m ((a, x) :: G1) s := S.perm r
theorem Sg.take2 {c : Cx} {m : Loc} {G G1 G2 : Hp} {s : Shared} {a b : Addr} {x y : AO} (S : Sg c m G s) (r : Rm G a x G1) (r' : Rm G1 b y G2) : Sg c m ((a, x) :: (b, y) :: G2) s := (S.perm r).perm (List.Perm.cons _ r')
theorem ref_ne {a b : Addr} (h : a ≠ b) : Value.ref a ≠ Value.ref b := fun q => h (by cases q; rfl)

-- these keys go by turns, not by calling themselves: a key that falls is dear (all lines of walk_at are tried)
-- V: a name's value
local macro_rules | `(tactic| walk_at "V") => `(tactic| first | (with_reducible assumption) | (with_reducible exact lk_hd) | (with_reducible exact lk_same) | ((repeat (first | (with_reducible exact lk_hd) | (with_reducible exact lk_same) | ((with_reducible apply lk_ne); decide) | ((with_reducible apply lk_tl); decide))); first | done | (with_reducible assumption) | with_unfolding_all rfl))
-- PE: a field stored
local macro_rules | `(tactic| walk_at "PE") => `(tactic| ((repeat (first | (with_reducible exact pe_hd) | (with_reducible exact pe_nil) | ((with_reducible apply pe_tl); decide))); first | done | with_unfolding_all rfl))
-- Z: a size
local macro_rules | `(tactic| walk_at "Z") => `(tactic| first | (with_reducible assumption) | with_unfolding_all exact Nat.le_of_ble_eq_true rfl | (refine le_sz ?_; (try simp only [List.length_append, List.length_cons, List.length_nil, List.length_reverse, List.length_take, List.length_drop, List.length_set, List.length_map, List.length_insertIdx, List.length_eraseIdx]); omega))
-- H: a cell
local macro_rules | `(tactic| walk_at "H1") => `(tactic| first | (with_reducible exact mem_hd) | (with_reducible assumption) | ((with_reducible apply mem_tl); walk_at "H1") | ((with_reducible apply mem_al); walk_at "H1") | ((with_reducible apply mem_ar); walk_at "H1"))
local macro_rules | `(tactic| walk_at "H") => `(tactic| first | (with_reducible exact mem_hd) | (with_reducible assumption) | ((repeat (first | (with_reducible exact mem_hd) | (with_reducible apply mem_tl) | (with_reducible assumption) | ((with_reducible apply mem_al); first | with_reducible assumption | (with_reducible exact mem_hd) | (with_reducible exact mem_tl mem_hd)) | (with_reducible apply mem_ar))); first | done | (with_reducible assumption)))
local macro_rules | `(tactic| walk_at "U0") => `(tactic| first | (with_reducible exact up_hd) | ((with_reducible apply up_tl); walk_at "U0") | ((with_reducible apply up_al); walk_at "U0") | ((with_reducible apply up_ar); walk_at "U0"))
local macro_rules | `(tactic| walk_at "U") => `(tactic| first | (with_reducible exact up_hd) | ((repeat (first | (with_reducible exact up_hd) | (with_reducible apply up_tl) | (with_reducible exact up_al up_hd) | (with_reducible exact up_al (up_tl up_hd)) | (with_reducible apply up_ar))); done) | walk_at "U0")
local macro_rules | `(tactic| walk_at "R0") => `(tactic| first | (with_reducible exact rm_hd) | (with_reducible assumption) | ((with_reducible apply rm_tl); walk_at "R0") | ((with_reducible apply rm_al); walk_at "R0") | ((with_reducible apply rm_ar); walk_at "R0"))
local macro_rules | `(tactic| walk_at "R") => `(tactic| first | (with_reducible exact rm_hd) | ((repeat (first | (with_reducible exact rm_hd) | (with_reducible apply rm_tl) | (with_reducible assumption) | (with_reducible exact rm_al rm_hd) | (with_reducible exact rm_al (rm_tl rm_hd)) | (with_reducible apply rm_ar))); first | done | (with_reducible assumption)) | walk_at "R0")
local macro_rules | `(tactic| walk_at "RC0") => `(tactic| first | (with_reducible exact rc_hd) | (with_reducible exact rc_id) | ((with_reducible apply rc_tl); walk_at "RC0") | ((with_reducible apply rc_ar); walk_at "RC0") | ((with_reducible apply rc_al); walk_at "RC0"))
local macro_rules | `(tactic| walk_at "RC") => `(tactic| first | (with_reducible exact rc_hd) | (with_reducible exact rc_id) | ((repeat (first | (with_reducible exact rc_hd) | (with_reducible exact rc_id) | (with_reducible apply rc_tl) | (with_reducible apply rc_ar))); done) | walk_at "RC0")
local macro_rules | `(tactic| walk_at "Q0") => `(tactic| first | (with_reducible exact sb_refl) | (with_reducible exact sb_nil) | ((with_reducible apply sb_cons); walk_at "R"; walk_at "Q0") | ((with_reducible apply sb_app); walk_at "RC"; walk_at "Q0") | ((with_reducible apply sb_drop); walk_at "Q0") | ((with_reducible apply sb_dropF); walk_at "Q0") | ((with_reducible apply sb_chunk); walk_at "RC"))
local macro_rules | `(tactic| walk_at "Q") => `(tactic| first | (with_reducible exact sb_refl) | (with_reducible exact sb_nil) | ((repeat (first | (with_reducible exact sb_refl) | (with_reducible exact sb_nil) | ((with_reducible apply sb_cons); walk_at "R") | ((with_reducible apply sb_app); walk_at "RC") | (with_reducible apply sb_drop) | (with_reducible apply sb_dropF))); done) | walk_at "Q0")
-- statements
local macro_rules | `(tactic| walk_at "WS") => `(tactic| first
  | with_reducible refine ex_assign ?_
  | with_reducible refine ex_assignAttr ?_
  | with_reducible refine ex_assignSub ?_
  | with_reducible refine ex_assignTup ?_
  | with_reducible refine ex_expr ?_
  | with_reducible refine ex_if ?_
  | with_reducible refine ex_ret ?_
  | with_reducible refine ex_ret0 ?_
  | with_reducible refine ex_nil ?_
  | with_reducible refine ex_pass ?_
  | with_reducible refine ex_for ?_
  | with_reducible refine ex_while ?_
  | with_reducible refine ex_try ?_)
local macro_rules | `(tactic| walk_at "WN") => `(tactic| first
  | ((with_reducible show wpAny _ _ (eval (Expr.Name _ _) (compEnvC _ _ _ _)) _ _ _); first
     | with_reducible refine gNameCL (by assumption) (by walk_at "H") (by with_unfolding_all rfl) (by with_unfolding_all rfl) (by walk_at "V") ?_
     | with_reducible refine gNameCell (by assumption) (by with_unfolding_all rfl) (by with_unfolding_all rfl) (by with_unfolding_all rfl) (by walk_at "H") ?_
     | with_reducible refine gNameCK (by assumption) (by assumption) (by with_unfolding_all rfl) (by k_is) ?_
     | with_reducible refine gNameCB (by assumption) (by assumption) (by with_unfolding_all rfl) (by k_is) (by first | boot_fast | boot_by_name) (by decide) ?_)
  | ((with_reducible show wpAny _ _ (eval (Expr.Name _ _) (Cx.env _)) _ _ _); first
     | with_reducible refine gNameL (by assumption) (by with_unfolding_all rfl) (by walk_at "V") ?_
     | with_reducible refine gNameK (by assumption) (by assumption) (by with_unfolding_all rfl) (by k_is) ?_
     | with_reducible refine gNameB (by assumption) (by assumption) (by with_unfolding_all rfl) (by k_is) (by first | boot_fast | boot_by_name) (by decide) ?_
     | with_reducible refine gNameCell (by assumption) (by with_unfolding_all rfl) (by with_unfolding_all rfl) (by with_unfolding_all rfl) (by walk_at "H") ?_)
  | refine gNameL (by assumption) (by rfl) (by walk_at "V") ?_
  | refine gNameK (by assumption) (by assumption) (by rfl) (by k_is) ?_
  | refine gNameB (by assumption) (by assumption) (by rfl) (by k_is) (by first | boot_fast | boot_by_name) (by decide) ?_
  | refine gNameCL (by assumption) (by walk_at "H") (by rfl) (by rfl) (by walk_at "V") ?_
  | refine gNameCell (by assumption) (by rfl) (by rfl) (by rfl) (by walk_at "H") ?_
  | refine gNameCK (by assumption) (by assumption) (by rfl) (by k_is) ?_
  | refine gNameCB (by assumption) (by assumption) (by rfl) (by k_is) (by first | boot_fast | boot_by_name) (by decide) ?_)
local macro_rules | `(tactic| walk_at "WA") => `(tactic| first
  | (with_reducible refine gClsVal (by assumption) (by assumption) (by k_is) (by k_is) (by k_is) (by first | with_unfolding_all rfl | assumption) ?_; intro s S)
  | (with_reducible refine gAttrOwn (by assumption) (by assumption) (by walk_at "H") (by walk_at "V") (by k_is) (by k_is) (by k_is) (by k_is) (by first | with_unfolding_all rfl | assumption) ?_; intro s S)
  | (with_reducible refine gAttrMeth (by assumption) (by assumption) (by walk_at "H") (by walk_at "V") (by k_is) (by k_is) (by k_is) (by k_is) (by k_is) (by k_is) (by decide +kernel) ?_; intro q s S)
  | (with_reducible refine gAttrProp (by assumption) (by assumption) (by walk_at "H") (by k_is) (by k_is) (by k_is) (by k_is) (by k_is) (by k_is) ?_; intro s S)
  | (with_reducible refine gAttrCls (by assumption) (by assumption) (by walk_at "H") (by walk_at "V") (by k_is) (by k_is) (by k_is) (by k_is) (by first | with_unfolding_all rfl | assumption) (by decide +kernel) ?_; intro s S)
  | (with_reducible refine gAttrClsT (by assumption) (by assumption) (by walk_at "H") (by walk_at "V") (by k_is) (by k_is) (by k_is) typeOf_list typeLookup_type_get (by first | with_unfolding_all rfl | assumption) (by decide +kernel) ?_; intro s S))
local macro_rules | `(tactic| walk_at "WM") => `(tactic| first
  | with_reducible refine gMethCls (by assumption) (by assumption) (by k_is) ?_
  | with_reducible refine gMethInst (by assumption) (by assumption) (by walk_at "H") (by walk_at "V") (by k_is) (by k_is) (by k_is) ?_
  | with_reducible refine gMethList (by assumption) (by walk_at "H") PySem.F.slot_list_append (by kernel_rfl) ?_
  | with_reducible refine gMethList (by assumption) (by walk_at "H") PySem.F.slot_list_pop (by kernel_rfl) ?_
  | with_reducible refine gMethList (by assumption) (by walk_at "H") PySem.F.slot_list_extend (by kernel_rfl) ?_
  | with_reducible refine gMethUsualT (by assumption) (by assumption) (by walk_at "H") (by k_is) (by k_is) typeOf_list (by decide) ?_
  | with_reducible refine gMethUsual (by assumption) (by assumption) (by walk_at "H") (by k_is) (by k_is) (by k_is) ?_)
local macro_rules | `(tactic| walk_at "WT") => `(tactic| (with_reducible refine gSetOwn' (by assumption) (by assumption) (by walk_at "H") (by walk_at "PE") (by walk_at "U") (by k_is) (by k_is) (by k_is) (by k_is) (by first | with_unfolding_all exact Nat.le_of_ble_eq_true rfl | assumption | exact Nat.lt_of_lt_of_le (put_lt (by assumption)) (by decide) | omega) ?_; intro s S))
local macro_rules | `(tactic| walk_at "WX") => `(tactic| first
  | with_reducible refine isRefNone ?_
  | with_reducible refine isNoneNone ?_
  | with_reducible refine isNoneRef ?_
  | with_reducible refine isNotRefNone ?_
  | with_reducible refine isNotNoneNone ?_
  | with_reducible refine ltI ?_
  | with_reducible refine gtI ?_
  | with_reducible refine leI ?_
  | with_reducible refine geI ?_
  | with_reducible refine eqI ?_
  | with_reducible refine neI ?_
  | ((with_reducible show wpAny _ _ (compareOp .Is (Value.ref _) (Value.ref _)) _ _ _); first
     | with_reducible refine gIsCls (by assumption) (by assumption) (by k_is) (by k_is) (by with_unfolding_all rfl) ?_
     | with_reducible refine gIsInst (by assumption) (by walk_at "H") (by walk_at "H") ?_))
local macro_rules | `(tactic| walk_at "WO") => `(tactic| first
  | ((with_reducible show wpAny _ _ (binaryOp .Add (Value.int _ _) (Value.int _ _)) _ _ _); with_reducible refine gAddI (by assumption) ?_; intro tk s S)
  | ((with_reducible show wpAny _ _ (binaryOp .Sub (Value.int _ _) (Value.int _ _)) _ _ _); with_reducible refine gSubI (by assumption) ?_; intro tk s S)
  | ((with_reducible show wpAny _ _ (binaryOp .Mod (Value.int _ _) (Value.int _ _)) _ _ _); with_reducible refine gModI (by assumption) (by first | decide | omega) ?_; intro tk s S)
  | ((with_reducible show wpAny _ _ (unaryOp .USub (Value.int _ _)) _ _ _); with_reducible refine gNegI (by assumption) ?_; intro tk s S)
  | ((with_reducible show wpAny _ _ (binaryOp .Mult (Value.int _ _) (Value.int _ _)) _ _ _); with_reducible refine gMulI (by assumption) (by mul_fits) ?_; intro tk s S)
  | ((with_reducible show wpAny _ _ (binaryOp .FloorDiv (Value.int _ _) (Value.int _ _)) _ _ _); with_reducible refine gDivI (by assumption) (by decide) (.inl (PyProof.noPylong_small (by decide))) ?_; intro tk s S)
  | ((with_reducible show wpAny _ _ (inplaceOp .Add (Value.int _ _) (Value.int _ _)) _ _ _); with_reducible refine gIaddI (by assumption) ?_; intro tk s S)
  | ((with_reducible show wpAny _ _ (inplaceOp .Sub (Value.int _ _) (Value.int _ _)) _ _ _); with_reducible refine gIsubI (by assumption) ?_; intro tk s S)
  | ((with_reducible show wpAny _ _ (binaryOp .Add (Value.ref _) (Value.ref _)) _ _ _); with_reducible refine gConcat (by assumption) (by walk_at "H") (by walk_at "H") (by walk_at "Z") ?_; intro l s S))
-- calls of built-ins
local macro_rules | `(tactic| walk_at "WF") => `(tactic| first
  | ((with_reducible show wpAny _ _ (call (.builtin "len") _) _ _ _); first
     | (with_reducible refine gLenList (by assumption) (by walk_at "H") (by walk_at "Z") ?_; intro tk s S)
     | (with_reducible refine gLenTup (by assumption) (by walk_at "H") (by walk_at "Z") ?_; intro tk s S))
  | ((with_reducible show wpAny _ _ (call (.builtin "list.append") _) _ _ _); with_reducible refine gAppend' (by assumption) (by walk_at "H") rfl (by walk_at "U") (by walk_at "Z") ?_; intro s S)
  | ((with_reducible show wpAny _ _ (call (.builtin "list.pop") [_]) _ _ _); with_reducible refine gPop (by assumption) (by walk_at "U") (by walk_at "Z") ?_; intro s S)
  | ((with_reducible show wpAny _ _ (call (.type "range") [_]) _ _ _); with_reducible refine gRange1 (by assumption) ?_; intro r a b v s hr S)
  | ((with_reducible show wpAny _ _ (call (.type "range") [_, _]) _ _ _); with_reducible refine gRange2 (by assumption) ?_; intro r a b v s hr S)
  | ((with_reducible show wpAny _ _ (call (.type "list") []) _ _ _); with_reducible refine gList0 (by assumption) ?_; intro l s S)
  | ((with_reducible show wpAny _ _ (call (.type "tuple") [_]) _ _ _); with_reducible refine gTupOfList (by assumption) (by walk_at "H") (by walk_at "Z") ?_; intro l s S)
  | ((with_reducible show wpAny _ _ (call (.type "reversed") [_]) _ _ _); with_reducible refine gRevTup (by assumption) (by walk_at "H") (by walk_at "Z") ?_; intro l s S)
  | ((with_reducible show wpAny _ _ (call (.builtin "isinstance") _) _ _ _); first
     | with_reducible refine gIsiTup (by assumption) (by walk_at "H") ?_
     | with_reducible refine gIsiYes (by assumption) (by assumption) (by walk_at "H") (by k_is) ?_)
  | ((with_reducible show wpAny _ _ (call (.type "type") [_]) _ _ _); with_reducible refine gTypeInst (by assumption) (by walk_at "H") ?_)
  | ((with_reducible show wpAny _ _ (call (.builtin "list.extend") _) _ _ _); with_reducible refine gExtendTup (by assumption) (by walk_at "U") (by walk_at "H") (by first | assumption | omega | (simp only [List.length_append, List.length_cons, List.length_nil]; omega)) ?_; intro s S))
local macro_rules | `(tactic| walk_at "WC") => `(tactic| first
  | with_reducible refine PyProof.Rows.callWith_type0 ?_
  | ((with_reducible show wpAny _ _ (callWith _ (Value.ref _) _ (backTo _ (starEach [] _)) []) _ _ _); with_reducible refine gCwFn0 (by assumption) (by assumption) (by k_is) ?_)
  | ((with_reducible show wpAny _ _ (callWith _ (Value.ref _) _ (backTo _ (starEach (_ :: _) _)) []) _ _ _); first | with_reducible refine cwFn (by assumption) (by k_is) ?_ | with_reducible refine gCwMeth (by assumption) (by assumption) (by walk_at "H") (by k_is) ?_ | refine cwFn (by assumption) (by k_is) ?_ | refine gCwMeth (by assumption) (by assumption) (by walk_at "H") (by k_is) ?_)
  | with_reducible refine cwT1 ?_
  | with_reducible refine callWith_method0 ?_
  | with_reducible refine cwB1n ?_
  | with_reducible refine cwB1s ?_
  | with_reducible refine cwB1 ?_)
local macro_rules | `(tactic| walk_at "WI") => `(tactic| first
  | ((with_reducible show wpAny _ _ (isTrue (Expr.Compare _ _ _ _) _ _) _ _ _); with_reducible refine tcmp1 ?_)
  | with_reducible refine tname ?_
  | with_reducible refine tattr ?_
  | with_reducible refine tcall ?_
  | with_reducible refine tsub ?_
  | with_reducible refine tconst ?_
  | with_reducible refine isTrue_not ?_
  | with_reducible refine isTrue_and ?_
  | with_reducible refine isTrue_or ?_
  | with_reducible refine isTrue_and_nil ?_
  | with_reducible refine isTrue_or_nil ?_
  | with_reducible refine isTrue_IfExp ?_)
-- an index
local macro_rules | `(tactic| walk_at "I") => `(tactic| first | (with_reducible assumption) | omega | decide | (simp only [List.length_cons, List.length_nil, List.length_append]; omega))
local macro_rules | `(tactic| walk_at "WG") => `(tactic| first
  | (with_reducible refine gItemTup (by assumption) (by walk_at "H") (by walk_at "I") (by walk_at "I") (by first | assumption | with_unfolding_all rfl) ?_)
  | (with_reducible refine gItemList (by assumption) (by walk_at "H") (by walk_at "I") (by walk_at "I") (by first | assumption | with_unfolding_all rfl) ?_)
  | (refine gItemTup (by assumption) (by walk_at "H") (by walk_at "I") (by walk_at "I") (by first | assumption | rfl) ?_)
  | (refine gItemList (by assumption) (by walk_at "H") (by walk_at "I") (by walk_at "I") (by first | assumption | rfl) ?_))
-- truth
local macro_rules | `(tactic| walk_at "WB") => `(tactic| first
  | with_reducible refine truthyB ?_
  | with_reducible refine truthyI ?_
  | with_reducible refine truthyNone ?_
  | (with_reducible refine gTruthyList (by assumption) (by walk_at "H") (by walk_at "Z") ?_; intro s S)
  | (with_reducible refine gTruthyTup (by assumption) (by walk_at "H") (by walk_at "Z") ?_; intro s S))
-- expressions
local macro_rules | `(tactic| walk_at "WE") => `(tactic| first
  | ((with_reducible show wpAny _ _ (eval (Expr.Name _ _) _) _ _ _); walk_at "WN")
  | with_reducible refine Attribute_any_ ?_
  | ((with_reducible show wpAny _ _ (eval (Expr.Call (Expr.Attribute _ _ _) _ [] _) _) _ _ _); refine MethodCall_ ?_)
  | with_reducible refine pcall ?_
  | with_reducible refine wpAny_BinOp ?_
  | with_reducible refine cmp1 ?_
  | with_reducible refine UnaryOp_ ?_
  | with_reducible refine IfExp_ ?_
  | with_reducible refine evSlice ?_
  | with_reducible refine List_ ?_
  | with_reducible refine Tuple_ ?_
  | with_reducible refine Subscript_ ?_
  | ((with_reducible show wpAny _ _ (eval (Expr.Constant (Const.int _) _ _) _) _ _ _); with_reducible refine gConstInt (by assumption) ?_; intro tk s S)
  | with_reducible refine constNone ?_
  | with_reducible refine constBool ?_
  | ((with_reducible show wpAny _ _ (eval (Expr.Constant (Const.str _) _ _) _) _ _ _); with_reducible refine gConstStr (by assumption) ?_; intro tk s S)
  | with_reducible refine BoolOp_and ?_
  | with_reducible refine BoolOp_or ?_
  | with_reducible refine BoolOp_one ?_)
-- all
local macro_rules | `(tactic| walk_at "WW") => `(tactic| first
  | ((with_reducible show wpAny _ _ (eval _ _) _ _ _); walk_at "WE")
  | ((with_reducible show wpAny _ _ (getAttr (Value.ref _) _ _) _ _ _); walk_at "WA")
  | ((with_reducible show wpAny _ _ (callWith _ _ _ _ _) _ _ _); walk_at "WC")
  | ((with_reducible show wpAny _ _ (spliced (backTo _ (starEach (_ :: _) _))) _ _ _); with_reducible refine argsMore ?_)
  | ((with_reducible show wpAny _ _ (spliced (backTo _ (starEach [] _))) _ _ _); with_reducible refine argsNil ?_)
  | ((with_reducible show wpAny _ _ (call _ _) _ _ _); walk_at "WF")
  | ((with_reducible show wpAny _ _ (getMethod (Value.ref _) _ _) _ _ _); walk_at "WM")
  | ((with_reducible show wpAny _ _ (execs _ _) _ _ _); walk_at "WS")
  | ((with_reducible show wpAny _ _ (isTrue _ _ _) _ _ _); walk_at "WI")
  | ((with_reducible show wpAny _ _ (storeName _ _ _) _ _ _); first | (with_reducible refine gStoreL (by assumption) (by with_unfolding_all rfl) ?_; intro s S) | (with_reducible refine gStoreCell (by assumption) (by with_unfolding_all rfl) (by with_unfolding_all rfl) (by walk_at "U") ?_; intro s S))
  | ((with_reducible show wpAny _ _ (compareOp _ _ _) _ _ _); walk_at "WX")
  | ((with_reducible show wpAny _ _ (truthy _) _ _ _); walk_at "WB")
  | ((with_reducible show wpAny _ _ (binaryOp _ _ _) _ _ _); walk_at "WO")
  | ((with_reducible show wpAny _ _ (setAttr (Value.ref _) _ _) _ _ _); walk_at "WT")
  | ((with_reducible show wpAny _ _ (inplaceOp _ _ _) _ _ _); walk_at "WO")
  | ((with_reducible show wpAny _ _ (unaryOp _ _) _ _ _); walk_at "WO")
  | ((with_reducible show wpAny _ _ (spliced _) _ _ _); first | refine argsNil ?_ | refine argsMore ?_)
  | ((with_reducible show wpAny _ _ (newList _) _ _ _); with_reducible refine gNewList (by assumption) (by walk_at "Z") ?_; intro l s S)
  | ((with_reducible show wpAny _ _ (newTuple _) _ _ _); with_reducible refine gNewTup (by assumption) (by walk_at "Z") ?_; intro l s S)
  | ((with_reducible show wpAny _ _ (evalPart _ _) _ _ _); first | refine partSome ?_ | refine partNone ?_)
  | ((with_reducible show wpAny _ _ (assign (Expr.Name _ _) _ _) _ _ _); refine asName ?_)
  | ((with_reducible show wpAny _ _ (assign (Expr.Tuple _ _ _) _ _) _ _ _); first | (with_reducible refine gUnpackTup (by assumption) (by assumption) (by walk_at "H") (by with_unfolding_all rfl) (by with_unfolding_all rfl) ?_; intro s S) | (with_reducible refine gUnpackList (by assumption) (by assumption) (by walk_at "H") (by with_unfolding_all rfl) (by with_unfolding_all rfl) ?_; intro s S))
  | ((with_reducible show wpAny _ _ (subscriptTail _ _ _ (Value.int _ _)) _ _ _); walk_at "WG")
  | ((with_reducible show wpAny _ _ (setItem _ _ _) _ _ _); (with_reducible refine gSetItem (by assumption) (by walk_at "U") (by walk_at "I") (by walk_at "I") (by walk_at "Z") ?_; intro s S))
  | ((with_reducible show wpAny _ _ (assign (Expr.Attribute _ _ _) _ _) _ _ _); refine asAttr ?_)
  | ((with_reducible show wpAny _ _ (assignInOrder _ _) _ _ _); first | refine aioNil ?_ | refine aioCons ?_))
local macro_rules | `(tactic| walk_at "W") => `(tactic| first
  | ((with_reducible show wpAny _ _ _ _ _ _); walk_at "WW")
  | ((with_reducible refine gSlicePush (by assumption) ?_); intro l s S)
  | ((with_reducible show Frag.In _ _ ∧ _); with_reducible refine gAndK (by assumption) (by assumption) ?_; (try dsimp only [List.nil_append, List.cons_append]))
  | ((with_reducible show MethP _ _ _ _ _ ∧ _); with_reducible refine gAndM (by assumption) (by assumption) (by walk_at "H") ?_; (try dsimp only [List.nil_append, List.cons_append]))
  | with_reducible refine xn_none ?_
  | with_reducible refine nx_next ?_
  | with_reducible refine nx_ret ?_
  | with_reducible refine nx_brk ?_
  | with_reducible refine nx_cont ?_
  | with_reducible refine tn_next ?_
  | with_reducible refine tn_cont ?_
  | with_reducible refine tn_brk ?_
  | with_reducible refine tn_ret ?_
  | with_reducible refine ty_next ?_
  | with_reducible refine ty_ret ?_
  | with_reducible refine lr_next ?_
  | with_reducible refine lr_ret ?_
  | ((with_reducible show (if (_ : Bool) = true then _ else _)); first | refine ift (by first | with_unfolding_all rfl | assumption) ?_ | refine iff_ (by first | with_unfolding_all rfl | assumption) ?_)
  | ((with_reducible refine gl_ret (by assumption) ?_); intro S)
  | ((with_reducible refine gl_next (by assumption) ?_); intro S))
-- F: a def entered
local macro_rules | `(tactic| walk_at "FB") => `(tactic| first | exact fun _ => BindsTo.of_eq rfl | exact fun X => binds_K X rfl (by k_is) rfl rfl rfl)

section
abbrev iv (p : Int × Tok) : Value := .int p.1 p.2
theorem readsIv {h : Heap} : ∀ kz : List (Int × Tok), ReadsAll h (kz.map iv) (kz.map fun p => PyData.int p.1) []
  | [] => .nil
  | p :: kz => ReadsAll.cons (as := []) (.int p.1 p.2) (readsIv kz)
theorem iv_lay : ∀ kz : List (Int × Tok), PyData.canLayAll0 (kz.map fun p => PyData.int p.1) = true
  | [] => rfl
  | p :: kz => by simp only [List.map_cons, PyData.canLayAll0, PyData.canLay0, Bool.true_and]; exact iv_lay kz
theorem iv_depth : ∀ kz : List (Int × Tok), PyData.depthAll (kz.map fun p => PyData.int p.1) = 0
  | [] => rfl
  | p :: kz => by simp only [List.map_cons, PyData.depthAll, PyData.depth, iv_depth kz]; rfl
theorem iv_eqv : ∀ k1 k2 : List (Int × Tok), PyData.eqvAll (k1.map fun p => PyData.int p.1) (k2.map fun p => PyData.int p.1) = decide (k1.map Prod.fst = k2.map Prod.fst)
  | [], [] => by simp [PyData.eqvAll]
  | [], _ :: _ => by simp [PyData.eqvAll]
  | _ :: _, [] => by simp [PyData.eqvAll]
  | p :: k1, q :: k2 => by
    simp only [List.map_cons, PyData.eqvAll, PyData.eqv, iv_eqv k1 k2, List.cons.injEq]
    by_cases h : p.1 = q.1 <;> simp [h]
/-- lists of ints, each a cell -/
inductive KC (G : Hp) : List Addr → List (List (Int × Tok)) → Prop
  | nil : KC G [] []
  | cons {a kz as ks} : (a, AO.list (kz.map iv)) ∈ G → KC G as ks → KC G (a :: as) (kz :: ks)
theorem KC.le {G G' : Hp} (l : ∀ p ∈ G, p ∈ G') : ∀ {as ks}, KC G as ks → KC G' as ks
  | _, _, .nil => .nil
  | _, _, .cons h r => .cons (l _ h) (r.le l)
theorem KC.snoc {G : Hp} {a : Addr} {kz : List (Int × Tok)} (h : (a, AO.list (kz.map iv)) ∈ G) : ∀ {as ks}, KC G as ks → KC G (as ++ [a]) (ks ++ [kz])
  | _, _, .nil => .cons h .nil
  | _, _, .cons h' r => .cons h' (r.snoc h)
theorem KC.len {G : Hp} : ∀ {as ks}, KC G as ks → as.length = ks.length
  | _, _, .nil => rfl
  | _, _, .cons _ r => by simp [r.len]
theorem KC.get {G : Hp} : ∀ {as ks}, KC G as ks → ∀ (i : Nat) a kz, as[i]? = some a → ks[i]? = some kz → (a, AO.list (kz.map iv)) ∈ G
  | _, _, .nil, i, a, kz, h, _ => by simp at h
  | _, _, .cons h' r, 0, a, kz, h, k => by simp at h k; subst h; subst k; exact h'
  | _, _, .cons h' r, i + 1, a, kz, h, k => r.get i a kz (by simpa using h) (by simpa using k)
theorem KC.set {G : Hp} {b : Addr} {kz' : List (Int × Tok)} (h : (b, AO.list (kz'.map iv)) ∈ G) : ∀ {as ks}, KC G as ks → ∀ (i : Nat), KC G (as.set i b) (ks.set i kz')
  | _, _, .nil, i => .nil
  | _, _, .cons h' r, 0 => .cons h r
  | _, _, .cons h' r, i + 1 => .cons h' (r.set h i)
section
variable {prog : Program} {w : World} {K : Frag} {T : Tp} {A : Around} {c : Cx} {m : Loc} {G G' : Hp} {s : Shared} {E : Value → Shared → Prop} {d u : Nat} {Q : Value → Shared → Prop}
theorem Sg.reads {l : Addr} {vs : List Value} {ds : List PyData} {as : List Addr} (S : Sg c m G s) (hl : (l, .list vs) ∈ G) (r : ReadsAll s.heap vs ds as) : Reads s.heap (.ref l) (.list ds) (l :: as) := by
  obtain ⟨nd, g, S⟩ := S
  obtain ⟨n, e⟩ := S.listAt (oh_get nd hl)
  exact .list e rfl rfl (by simpa using r)
theorem Sg.kc (S : Sg c m G s) : ∀ {as ks}, KC G as ks → ∃ bs, ReadsAll s.heap (as.map Value.ref) (ks.map fun kz => PyData.list (kz.map fun p => PyData.int p.1)) bs
  | _, _, .nil => ⟨[], .nil⟩
  | _, _, .cons h r => let ⟨bs, k⟩ := S.kc r; ⟨_, .cons (S.reads h (readsIv _)) k⟩
theorem gEqIv {l1 l2 : Addr} {k1 k2 : List (Int × Tok)} (O : Ok K T A c d (u + 2)) (S : Sg c m G s) (h1 : (l1, .list (k1.map iv)) ∈ G) (h2 : (l2, .list (k2.map iv)) ∈ G) (h : Q (.bool (decide (k1.map Prod.fst = k2.map Prod.fst))) s) :
    wpAny (model prog w) A (compareOp .Eq (.ref l1) (.ref l2)) Q E s := by
  refine SeqAt.compareEq_reads (S.reads h1 (readsIv k1)) (S.reads h2 (readsIv k2)) (by simp only [PyData.canLay0]; exact iv_lay k1) (by simp only [PyData.canLay0]; exact iv_lay k2) ?_ ?_
  · have := O.hu
    simp only [PyData.depth, iv_depth]; omega
  · simp only [PyData.eqv, iv_eqv]; exact h
theorem kc_lay : ∀ ks : List (List (Int × Tok)), PyData.canLayAll0 (ks.map fun kz => PyData.list (kz.map fun p => PyData.int p.1)) = true
  | [] => rfl
  | k :: ks => by simp only [List.map_cons, PyData.canLayAll0, PyData.canLay0, iv_lay, Bool.true_and]; exact kc_lay ks
theorem gNotInNil {l e : Addr} {as : List Addr} {ks : List (List (Int × Tok))} (O : Ok K T A c d (u + 4)) (S : Sg c m G s) (hl : (l, .list (as.map Value.ref)) ∈ G) (hk : KC G as ks) (he : (e, .list []) ∈ G) (h : Q (.bool (!ks.any (·.isEmpty))) s) :
    wpAny (model prog w) A (compareOp .NotIn (.ref e) (.ref l)) Q E s := by
  obtain ⟨bs, r⟩ := S.kc hk
  refine SeqAt.notIn_list_reads (S.reads hl r) (S.reads he .nil) (kc_lay ks) rfl ?_ ?_
  · have := O.hu
    have h2 : min (PyData.depthAll (ks.map fun kz => PyData.list (kz.map fun p => PyData.int p.1))) (PyData.depth (.list [])) ≤ 1 := Nat.le_trans (Nat.min_le_right _ _) (by simp [PyData.depth, PyData.depthAll])
    omega
  · rw [List.any_map]
    have : ((fun y => PyData.eqv y (PyData.list [])) ∘ fun kz : List (Int × Tok) => PyData.list (kz.map fun p => PyData.int p.1)) = fun kz => kz.isEmpty := by
      funext kz
      cases kz <;> simp [PyData.eqv, PyData.eqvAll]
    rw [this]; exact h
/-! a list beneath the call -/
theorem Sg.baseList {l : Addr} {xs : List Value} (S : Sg c m G s) (B : c.base.IsList l xs.toArray) : s.heap.IsList l xs.toArray := by
  obtain ⟨nd, g, S⟩ := S
  obtain ⟨o, e1, e2⟩ := B
  exact ⟨o, S.base _ _ e1, e2⟩
theorem bItem {value slice : Expr} {l : Addr} {xs : List Value} {k : Int} {t : Tok} {x : Value} (S : Sg c m G s) (B : c.base.IsList l xs.toArray) (h0 : 0 ≤ k) (hk : k < 2 ^ 63) (hx : xs[k.toNat]? = some x) (h : Q x s)
    (hs : subscripted slice false (.ref l) (.int k t) = operate [.ref l, .int k t] (getItem (.ref l) (.int k t)) := by with_unfolding_all rfl) : wpAny (model prog w) A (subscriptTail value slice (.ref l) (.int k t)) Q E s :=
  tail_any (S.baseList B).typeIs slot_list_getitem.lookup (wpAny_getItem_list (S.baseList B) h0 hk (by simpa using hx) h) hs
theorem bSlice {value slice : Expr} {l : Addr} {xs ys : List Value} {vl vu vk : Value} {lo hi st : Option Int} (S : Sg c m G s) (B : c.base.IsList l xs.toArray)
    (pl : IsPart vl lo) (pu : IsPart vu hi) (pk : IsPart vk st) (h0 : st ≠ some 0) (hz : xs.length ≤ sizeLine) (hy : (slicePick xs.toArray lo hi st).toList = ys)
    (h : ∀ r s', Sg c m ((r, .list ys) :: G) s' → Q (.ref r) s')
    (hs : ∀ sl, ∃ ops, subscripted slice false (.ref l) (.ref sl) = operate ops (getItem (.ref l) (.ref sl)) := by intro _; exact ⟨_, by with_unfolding_all rfl⟩) :
    wpAny (model prog w) A (subscriptTail value slice (.ref l) (.ref s.heap.objs.size)) Q E { s with heap := s.heap.push { cls := .type "slice", data := .fields #[vl, vu, vk] } } := by
  refine gSlicePush (Q := fun v s' => wpAny (model prog w) A (subscriptTail value slice (.ref l) v) Q E s') S fun sl s' S' => ?_
  obtain ⟨ops, e⟩ := hs sl
  have hS : s'.heap.IsSliceOf sl vl vu vk := by
    obtain ⟨nd, g, S'⟩ := S'
    obtain ⟨D, R⟩ := S'.rep
    obtain ⟨⟨o, a, b, c⟩, _⟩ := R.at_ sl _ (oh_get nd (.head _))
    exact ⟨o, a, b, by simpa using c⟩
  refine tail_any (S'.baseList B).typeIs list_getitem_lookup (wpAny_getItem_list_slice (S'.baseList B) hS pl pu pk h0 ?_ (by simpa using hz)) e
  obtain ⟨nd, g, S2⟩ := S'
  obtain ⟨hp, g', dr, t, os⟩ := s'
  exact h _ _ ((Sg.new nd S2.fresh (S2.push (ao := .list ys) t (by intro _ _ q; cases q) fun _ e => ⟨0, by rw [e, ← hy]⟩)).sub (sb_cons rm_hd (sb_drop sb_refl)))
theorem Sg.tok (S : Sg c m G s) (tk : Nat) : Sg c m G { s with toks := tk } := let ⟨nd, g, S⟩ := S; ⟨nd, g, S.toks tk⟩
theorem bLen {l : Addr} {xs : List Value} (S : Sg c m G s) (B : c.base.IsList l xs.toArray) (hsz : xs.length ≤ sizeLine) (h : ∀ tk s', Sg c m G s' → Q (.int xs.length tk) s') :
    wpAny (model prog w) A (call (.builtin "len") [.ref l]) Q E s := by
  refine len_list (S.baseList B) ?_ ?_
  · have : (2:Nat) ^ 24 < 2 ^ 63 := by decide
    have h2 : sizeLine = 2 ^ 24 := rfl
    simp only [List.size_toArray]; omega
  · simp only [List.size_toArray]; exact h _ _ (S.tok _)
theorem bTruthy {Q : Bool → Shared → Prop} {l : Addr} {xs : List Value} (S : Sg c m G s) (B : c.base.IsList l xs.toArray) (hz : xs.length ≤ sizeLine) (h : ∀ s', Sg c m G s' → Q (!xs.isEmpty) s') : wpAny (model prog w) A (truthy (.ref l)) Q E s := by
  refine wpAny_truthy_list (S.baseList B) (by simpa using fit64 hz) ?_
  have := h { s with toks := s.toks + 1 + 1 } (S.tok _)
  simpa using this
end
end

section
/-- what a told cell says of the object that the head laid there -/
def RawOf (x : AO) (o : Obj) : Prop := x = .raw o ∨ ∃ v, x = .cell v ∧ o.data = .cell v
theorem joinS {base : Heap} {cn : Str} {scope : Scope} {L fa : Addr} {cd : Value} {cl : List (Str × Addr)} {os : OsState} {m : Str → Option Value} {mL : Loc} {news : List (Addr × Obj)} {G : Hp} {s : Shared}
    (F : Fr base L s.heap m) (N : News base L s.heap news) (hm : ∀ y, m y = mL.lookup y) (nd : Nd G)
    (hG : ∀ p ∈ G, ∃ o, (p.1, o) ∈ news ∧ RawOf p.2 o) (hg : s.gens = #[]) (hos : s.os = os) : Sg ⟨base, [], [], cn, scope, L, fa, cd, cl, os⟩ mL G s := by
  have ni : ∀ a C fs, (oh ⟨#[], rfl⟩ G).obj a = some (.inst C fs) → False := fun a C fs h => by
    obtain ⟨o, _, h | ⟨v, h, _⟩⟩ := hG _ ((lk_mem nd).mp h)
    · cases h
    · cases h
  refine ⟨nd, ⟨#[], rfl⟩, F.keep, F.above, ?_, trivial, fun _ h => (by cases h), ⟨id, fun a ao h => ?_, fun a C fs h => (ni a C fs h).elim, fun a C fs _ _ _ h => (ni a C fs h).elim⟩, hg, hos⟩
  · have e : m = fun y => mL.lookup y := funext hm
    rw [← e]; exact F.ns
  · obtain ⟨o, h1, h2⟩ := hG _ ((lk_mem nd).mp h)
    obtain ⟨n1, n2, n3⟩ := N _ h1
    refine ⟨?_, n2, fun _ h => (by cases h), n3⟩
    rcases h2 with h2 | ⟨v, h2, h3⟩
    · have h2 : ao = .raw o := h2
      subst h2; exact n1
    · have h2 : ao = .cell v := h2
      subst h2; exact ⟨o, n1, h3⟩
theorem grownAll {h : Heap} : ∀ {tabs : List (Addr × Addr)}, (∀ q ∈ tabs, h.get? q.2 = some (tabObj #[])) → GrownAll tabs h
  | [], _ => trivial
  | _ :: _, k => ⟨⟨_, k _ (.head _)⟩, grownAll fun q hq => k q (.tail _ hq)⟩
/-- the head's tables of code, as told cells -/
abbrev tabG (tabs : List (Addr × Addr)) : Hp := tabs.map fun q => (q.2, AO.raw (tabObj #[]))
theorem joinE {c : Cx} {m : Loc} {s s₁ : Shared} {cw : ClaimW} {clA : Str → Option Addr} {mean : ExcName → Option Value} {args : List WData} {tabs : List (Addr × Addr)}
    (S : Sg c m (tabG tabs) s) (hb : s₁.heap = c.base) (ho : s₁.os = c.os) (hr : ∀ cls, cw.raises args cls = false) (hp : cw.post args (.bool true) args = true) :
    GoodW cw clA mean args s₁ (.ok (.ret (.bool true))) s ∧ GrownAll tabs s.heap := by
  have hg := S.gens
  obtain ⟨nd, g, S⟩ := S
  refine ⟨goodW_bool (L := c.L) (m := fun y => m.lookup y) (by rw [hb]; exact ⟨S.ns, S.base, S.above⟩) hg hr hp (S.os.trans ho.symm), grownAll fun q hq => ?_⟩
  obtain ⟨D, R⟩ := S.rep
  exact (R.at_ _ _ (oh_get nd (List.mem_map_of_mem (f := fun q : Addr × Addr => (q.2, AO.raw (tabObj #[]))) hq))).1
theorem post_law (l : OpenLaw) (args : List WData) : (RowW.claim l.row.toRowW).post args (.bool true) args = true := by
  show (WShape.has [] (.bool true) .bool && WTm.holds [] (.eq .res (.lit (.bool true))) _) = true
  have h1 : WShape.has [] (.bool true) .bool = true := by rfl
  rw [h1, Bool.true_and]
  have h2 : same (WData.bool true) (WData.bool true) = true := by first | rfl | decide | (simp [same])
  simp [WTm.holds, WTm.value, h2]
theorem ints_of : ∀ {vs : List Value} {ns : List Int}, IntsAre vs ns → ∃ sz : List (Int × Tok), vs = sz.map iv ∧ sz.map Prod.fst = ns := by
  intro vs ns h
  induction h with
  | nil => exact ⟨[], rfl, rfl⟩
  | cons => rename_i ih; obtain ⟨sz, h1, h2⟩ := ih; exact ⟨(_, _) :: sz, by rw [h1]; rfl, by rw [← h2]; rfl⟩
end

/- The head lays for each tree of objects a twin and a proof that they are equal; these few proofs alone would make the compiled file over 400 MB. A name that is taken keeps the library from laying that twin. -/

theorem twin0 : PySem.Manifest.find? = PySem.Manifest.find? := rfl

name_quick tw3305484393793572933 for PySem.Manifest.find? by Mine.twin0

name_quick tw16205121719441760329 for PySem.Manifest.find? by Mine.twin0

name_quick tw5770473976442655180 for PySem.Manifest.find? by Mine.twin0

name_quick tw17303753813447770047 for PySem.Manifest.find? by Mine.twin0

name_quick tw18433661640194798115 for PySem.Manifest.find? by Mine.twin0

name_quick tw15827291900760341736 for PySem.Manifest.find? by Mine.twin0

name_quick tw17870795968462158745 for PySem.Manifest.find? by Mine.twin0

name_quick tw14980807874102419987 for PySem.Manifest.find? by Mine.twin0

name_quick tw10878125777651788114 for PySem.Manifest.find? by Mine.twin0

name_quick tw5410312429549583576 for PySem.Manifest.find? by Mine.twin0

name_quick tw10442358123752649682 for PySem.Manifest.find? by Mine.twin0

name_quick tw1700660337713781336 for PySem.Manifest.find? by Mine.twin0

name_quick tw14682916456496288721 for PySem.Manifest.find? by Mine.twin0

name_quick tw16984122934176923128 for PySem.Manifest.find? by Mine.twin0

name_quick tw1104824148652047619 for PySem.Manifest.find? by Mine.twin0

name_quick tw16322415745300102972 for PySem.Manifest.find? by Mine.twin0

name_quick tw2452820758585089575 for PySem.Manifest.find? by Mine.twin0

name_quick tw18132841703628828796 for PySem.Manifest.find? by Mine.twin0

name_quick tw53402867556234148 for PySem.Manifest.find? by Mine.twin0

name_quick tw926213455627471399 for PySem.Manifest.find? by Mine.twin0

open_top hd for PySem.Challenge.rw_au5005_04

section
section
variable {prog : Program} {w : World} {T : Tp} {A : Around} {c : Cx} {m : Loc} {G : Hp} {s : Shared} {R : Result → Shared → Prop}
abbrev setF (l : Addr) (nx : Value) : Loc := [(Str.ofString "_keys", .ref l), (Str.ofString "_next", nx)]
abbrev bucF (l v : Addr) (nx : Value) : Loc := [(Str.ofString "_keys", .ref l), (Str.ofString "_next", nx), (Str.ofString "_values", .ref v)]
abbrev treF (v1 v2 : Value) (l : Addr) (fb : Value) : Loc := [(Str.ofString "max_leaf_size", v1), (Str.ofString "max_internal_size", v2), (Str.ofString "_data", .ref l), (Str.ofString "_firstbucket", fb)]
abbrev itF (k : Value) (ch : Value) : Loc := [(Str.ofString "key", k), (Str.ofString "child", ch)]
inductive ClrF : Loc → (Addr → Loc) → Prop
  | new : ClrF [] (fun l => setF l .none)
  | set (l nx) : ClrF (setF l nx) (fun l => setF l .none)
  | buc (l v nx) : ClrF (bucF l v nx) (fun l => bucF l v .none)
-- _BucketBase.clear
theorem sclear {a C : Addr} {fs : Loc} {fs' : Addr → Loc} (O : Ok (Mine.hd.heap_39 w.params) T A c 2 10) (S : Sg c m ((a, .inst C fs) :: G) s) (hC : C = 599 ∨ C = 452) (hf : ClrF fs fs')
  (ret : ∀ l s', Sg c m ((l, .list []) :: (a, .inst C (fs' l)) :: G) s' → R (.ok (.ret .none)) s') :
  codeAny (model prog w) A (.call (.ref 178) ⟨[.ref a], []⟩) R s := by
  rcases hC with rfl | rfl <;> cases hf
  all_goals
    refine' gFn (binds := [(Str.ofString "self", .ref a)]) O S (by k_is) (by k_is) (by walk_at "FB") (locs rfl) (fun A' outer' fr' L' s O' hA' S => ?_) (by rfl) (by rfl) (by rfl) (by decide)
    repeat walk_at "W"
    exact ret _ _ (by assumption)
theorem bclear {a : Addr} {fs : Loc} (O : Ok (Mine.hd.heap_39 w.params) T A c 4 20) (S : Sg c m ((a, .inst 452 fs) :: G) s) (hf : fs = [] ∨ (∃ l v nx, fs = bucF l v nx))
  (ret : ∀ l v s', Sg c m ((v, .list []) :: (l, .list []) :: (a, .inst 452 (bucF l v .none)) :: G) s' → R (.ok (.ret .none)) s') :
  codeAny (model prog w) A (.call (.ref 364) ⟨[.ref a], []⟩) R s := by
  rcases hf with rfl | ⟨l, v, nx, rfl⟩
  all_goals
    refine' gFn (binds := [(Str.ofString "self", .ref a)]) O S (by k_is) (by k_is) (by walk_at "FB") (locs rfl) (fun A' outer' fr' L' s O' hA' S => ?_) (by rfl) (by rfl) (by rfl) (by decide)
    repeat walk_at "W"
    refine call_of (sclear (O'.le (by omega) (by omega)) (by assumption) (.inr rfl) (by constructor) ?_)
    intro l s S
    repeat walk_at "W"
    exact ret _ _ _ (by assumption)
theorem makeSet (O : Ok (Mine.hd.heap_39 w.params) T A c 8 40) (S : Sg c m G s)
  (ret : ∀ x l s', Sg c m ((l, .list []) :: (x, .inst 599 (setF l .none)) :: G) s' → R (.ok (.ret (.ref x))) s') :
  codeAny (model prog w) A (.call (.ref 599) ⟨[], []⟩) R s := by
  refine gMake (fI := 64) O S (by k_is) (by k_is) (by k_is) (fun x s₁ A₁ O₁ hA₁ S₁ => ?_)
  refine' gFn (binds := [(Str.ofString "self", .ref x), (Str.ofString "items", .none)]) O₁ S₁ (by k_is) (by k_is) (by walk_at "FB") (locs rfl) (fun A' outer' fr' L' s O' hA' S => ?_) (by rfl) (by rfl) (by rfl) (by decide)
  repeat walk_at "W"
  refine call_of (sclear (O'.le (by omega) (by omega)) (by assumption) (.inl rfl) .new ?_)
  intro l s S
  repeat walk_at "W"
  refine init_back ?_
  exact ret _ _ _ (by assumption)
theorem makeBucket (O : Ok (Mine.hd.heap_39 w.params) T A c 10 50) (S : Sg c m G s)
  (ret : ∀ x l v s', Sg c m ((v, .list []) :: (l, .list []) :: (x, .inst 452 (bucF l v .none)) :: G) s' → R (.ok (.ret (.ref x))) s') :
  codeAny (model prog w) A (.call (.ref 452) ⟨[], []⟩) R s := by
  refine gMake (fI := 64) O S (by k_is) (by k_is) (by k_is) (fun x s₁ A₁ O₁ hA₁ S₁ => ?_)
  refine' gFn (binds := [(Str.ofString "self", .ref x), (Str.ofString "items", .none)]) O₁ S₁ (by k_is) (by k_is) (by walk_at "FB") (locs rfl) (fun A' outer' fr' L' s O' hA' S => ?_) (by rfl) (by rfl) (by rfl) (by decide)
  repeat walk_at "W"
  refine call_of (bclear (O'.le (by omega) (by omega)) (by assumption) (.inl rfl) ?_)
  intro l v s S
  repeat walk_at "W"
  refine init_back ?_
  exact ret _ _ _ _ (by assumption)
-- _Tree.clear of an empty tree
theorem tclear {a l C : Addr} {v1 v2 fb : Value} (O : Ok (Mine.hd.heap_39 w.params) T A c 2 10) (S : Sg c m ((l, .list []) :: (a, .inst C (treF v1 v2 l fb)) :: G) s) (hC : C = 967 ∨ C = 1000)
  (ret : ∀ s', Sg c m ((l, .list []) :: (a, .inst C (treF v1 v2 l .none)) :: G) s' → R (.ok (.ret .none)) s') :
  codeAny (model prog w) A (.call (.ref 680) ⟨[.ref a], []⟩) R s := by
  rcases hC with rfl | rfl
  all_goals
    refine' gFn (binds := [(Str.ofString "self", .ref a)]) O S (by k_is) (by k_is) (by walk_at "FB") (locs rfl) (fun A' outer' fr' L' s O' hA' S => ?_) (by rfl) (by rfl) (by rfl) (by decide)
    repeat walk_at "W"
    exact ret _ (by assumption)
theorem makeTree {C : Addr} (O : Ok (Mine.hd.heap_39 w.params) T A c 8 40) (S : Sg c m G s) (hC : C = 967 ∨ C = 1000)
  (ret : ∀ x l v1 v2 s', Sg c m ((l, .list []) :: (x, .inst C (treF v1 v2 l .none)) :: G) s' → R (.ok (.ret (.ref x))) s') :
  codeAny (model prog w) A (.call (.ref C) ⟨[], []⟩) R s := by
  have hC' := hC
  rcases hC with rfl | rfl
  all_goals
    refine gMake (fI := 637) O S (by k_is) (by k_is) (by k_is) (fun x s₁ A₁ O₁ hA₁ S₁ => ?_)
    refine' gFn (binds := [(Str.ofString "self", .ref x), (Str.ofString "items", .none), (Str.ofString "max_leaf_size", .int 120 _), (Str.ofString "max_internal_size", .int 500 _)]) O₁ S₁ (by k_is) (by k_is) (by walk_at "FB") (locs rfl) (fun A' outer' fr' L' s O' hA' S => ?_) (by rfl) (by rfl) (by rfl) (by decide)
    repeat walk_at "W"
    refine call_of (tclear (O'.le (by omega) (by omega)) (by assumption) hC' ?_)
    intro s S
    repeat walk_at "W"
    refine init_back ?_
    exact ret _ _ _ _ _ (by assumption)
theorem makeItem {k ch : Value} (O : Ok (Mine.hd.heap_39 w.params) T A c 8 40) (S : Sg c m G s)
  (ret : ∀ x s', Sg c m ((x, .inst 618 (itF k ch)) :: G) s' → R (.ok (.ret (.ref x))) s') :
  codeAny (model prog w) A (.call (.ref 618) ⟨[k, ch], []⟩) R s := by
  refine gMake (fI := 615) O S (by k_is) (by k_is) (by k_is) (fun x s₁ A₁ O₁ hA₁ S₁ => ?_)
  refine' gFn (binds := [(Str.ofString "self", .ref x), (Str.ofString "key", k), (Str.ofString "child", ch)]) O₁ S₁ (by k_is) (by k_is) (by walk_at "FB") (locs rfl) (fun A' outer' fr' L' s O' hA' S => ?_) (by rfl) (by rfl) (by rfl) (by decide)
  repeat walk_at "W"
  refine init_back ?_
  exact ret _ _ (by assumption)
end
end

section
/-- a bucket's row: key, value, key, .. -/
def inter : List Value → List Value → List Value
  | k :: ks, v :: vs => k :: v :: inter ks vs
  | _, _ => []
theorem inter_len : ∀ {ks vs : List Value}, ks.length = vs.length → (inter ks vs).length = 2 * ks.length
  | [], [], _ => rfl
  | k :: ks, v :: vs, h => by simp only [List.length_cons] at h; simp only [inter, List.length_cons]; rw [inter_len (by omega)]; omega
theorem inter_even : ∀ {ks vs : List Value} (i : Nat), ks.length = vs.length → (inter ks vs)[2 * i]? = ks[i]?
  | [], [], i, _ => by simp [inter]
  | k :: ks, v :: vs, 0, _ => rfl
  | k :: ks, v :: vs, i + 1, h => by rw [show 2 * (i + 1) = 2 * i + 1 + 1 by omega]; simp only [inter, List.getElem?_cons_succ]; exact inter_even i (by simpa using h)
theorem inter_odd : ∀ {ks vs : List Value} (i : Nat), ks.length = vs.length → (inter ks vs)[2 * i + 1]? = vs[i]?
  | [], [], i, _ => by simp [inter]
  | k :: ks, v :: vs, 0, _ => rfl
  | k :: ks, v :: vs, i + 1, h => by rw [show 2 * (i + 1) + 1 = 2 * i + 1 + 1 + 1 by omega]; simp only [inter, List.getElem?_cons_succ]; exact inter_odd i (by simpa using h)
theorem take_snoc {xs : List Value} {i : Nat} {y : Value} (h : xs[i]? = some y) : xs.take (i + 1) = xs.take i ++ [y] := by rw [List.take_add_one, h]; rfl
theorem getLt {xs : List Value} {i : Nat} (h : i < xs.length) : ∃ y, xs[i]? = some y := ⟨_, List.getElem?_eq_getElem h⟩
/-- a node's row behind its first child -/
def rowV : List (Value × Addr) → List Value
  | [] => []
  | (k, c) :: r => k :: .ref c :: rowV r
theorem rowV_len : ∀ r : List (Value × Addr), (rowV r).length = 2 * r.length
  | [] => rfl
  | (k, c) :: r => by simp only [rowV, List.length_cons, rowV_len r]; omega
theorem rowV_snoc (k : Value) (c : Addr) : ∀ r : List (Value × Addr), rowV (r ++ [(k, c)]) = rowV r ++ [k, .ref c]
  | [] => rfl
  | (k', c') :: r => by simp [rowV, rowV_snoc k c r]
theorem evens_row (c0 : Addr) : ∀ (q r : List (Value × Addr)), r = q.reverse → evens (Value.ref c0 :: rowV r).reverse = (q.map fun p => Value.ref p.2) ++ [.ref c0]
  | [], r, h => by subst h; rfl
  | (k, c) :: q, r, h => by
    subst h
    rw [show ((k, c) :: q).reverse = q.reverse ++ [(k, c)] from List.reverse_cons, rowV_snoc, ← List.cons_append, List.reverse_append]
    show Value.ref c :: evens (Value.ref c0 :: rowV q.reverse).reverse = _
    rw [evens_row c0 q _ rfl]
    rfl
/-- the items of a node -/
def itH (CI : Addr) : List Addr → List (Value × Addr) → Hp
  | a :: as, (k, c) :: r => (a, .inst CI (itF k (.ref c))) :: itH CI as r
  | _, _ => []
theorem itH_snoc (CI a : Addr) (k : Value) (c : Addr) : ∀ (as : List Addr) (r : List (Value × Addr)), as.length = r.length → itH CI (as ++ [a]) (r ++ [(k, c)]) = itH CI as r ++ [(a, .inst CI (itF k (.ref c)))]
  | [], [], _ => rfl
  | a' :: as, (k', c') :: r, h => by simp only [List.cons_append, itH]; rw [itH_snoc CI a k c as r (by simpa using h)]
theorem itH_snoc' {CI a : Addr} {k : Value} {c : Addr} {p : Value × Addr} {as : List Addr} {r : List (Value × Addr)} (h : as.length = r.length + 1) : itH CI (as ++ [a]) (p :: (r ++ [(k, c)])) = itH CI as (p :: r) ++ [(a, .inst CI (itF k (.ref c)))] := itH_snoc CI a k c as (p :: r) h
theorem itH_mem {CI : Addr} : ∀ {as : List Addr} {r : List (Value × Addr)} {i : Nat} {a : Addr} {p : Value × Addr}, as[i]? = some a → r[i]? = some p → (a, AO.inst CI (itF p.1 (.ref p.2))) ∈ itH CI as r
  | a' :: as, (k, c) :: r, 0, a, p, h, h' => by simp at h h'; subst h; subst h'; exact .head _
  | a' :: as, (k, c) :: r, i + 1, a, p, h, h' => by simp at h h'; exact .tail _ (itH_mem h h')
section
variable {prog : Program} {w : World} {T : Tp} {A : Around} {c : Cx} {m : Loc} {G : Hp} {s : Shared} {R : Result → Shared → Prop}
theorem setSet {x l0 st row : Addr} {nx0 : Value} {ks nx : List Value} (O : Ok (Mine.hd.heap_39 w.params) T A c 8 40) (hh : A.handled = none) (S : Sg c m ((x, .inst 599 (setF l0 nx0)) :: G) s) (hs : (st, .raw (tupO (.ref row :: nx))) ∈ G) (hr : (row, .raw (tupO ks)) ∈ G)
  (hz : ks.length ≤ 1000) (hn : nx = [] ∨ ∃ b, nx = [.ref b])
  (ret : ∀ l s', Sg c m ((l, .list ks) :: (x, .inst 599 (setF l (nx.headD .none))) :: G) s' → R (.ok (.ret .none)) s') :
  codeAny (model prog w) A (.call (.ref 559) ⟨[.ref x, .ref st], []⟩) R s := by
  rcases hn with rfl | ⟨b, rfl⟩
  all_goals
    refine' gFn (binds := [(Str.ofString "self", .ref x), (Str.ofString "state", .ref st)]) O S (by k_is) (by k_is) (by walk_at "FB") (locs rfl) (fun A' outer' fr' L' s O' hA' S => ?_) (by rfl) (by rfl) (by rfl) (by decide)
    have hh' : A'.handled = none := hA'.trans hh
    repeat walk_at "W"
    refine call_of (sclear (O'.le (by omega) (by omega)) (by assumption) (.inl rfl) (.set ..) ?_)
    intro l s S
    repeat walk_at "W"
    exact ret _ _ (by assumption)
theorem setBuc {x l0 v0 st row : Addr} {nx0 : Value} {ks vs nx : List Value} (O : Ok (Mine.hd.heap_39 w.params) T A c 10 50) (hh : A.handled = none) (S : Sg c m ((x, .inst 452 (bucF l0 v0 nx0)) :: G) s) (hs : (st, .raw (tupO (.ref row :: nx))) ∈ G) (hr : (row, .raw (tupO (inter ks vs))) ∈ G)
  (hkv : ks.length = vs.length) (hz : ks.length ≤ 1000) (hn : nx = [] ∨ ∃ b, nx = [.ref b])
  (ret : ∀ l v s', Sg c m ((v, .list vs) :: (l, .list ks) :: (x, .inst 452 (bucF l v (nx.headD .none))) :: G) s' → R (.ok (.ret .none)) s') :
  codeAny (model prog w) A (.call (.ref 442) ⟨[.ref x, .ref st], []⟩) R s := by
  have hil := inter_len hkv
  rcases hn with rfl | ⟨b, rfl⟩
  all_goals
    refine' gFn (binds := [(Str.ofString "self", .ref x), (Str.ofString "state", .ref st)]) O S (by k_is) (by k_is) (by walk_at "FB") (locs rfl) (fun A' outer' fr' L' s O' hA' S => ?_) (by rfl) (by rfl) (by rfl) (by decide)
    have hh' : A'.handled = none := hA'.trans hh
    repeat walk_at "W"
    refine call_of (bclear (O'.le (by omega) (by omega)) (by assumption) (.inr ⟨_, _, _, rfl⟩) ?_)
    intro l v s S
    repeat walk_at "W"
    refine gRange3 (by assumption) (by decide) (PyProof.noPylong_small (by omega)) ?_
    intro r a0 b0 v0 s hr0 S
    refine gIterRangeK (N := ks.length) S hr0 (by unfold Builtin.Range.small Builtin.Range.rangeFitsLong Builtin.Range.rangeSize; simp; omega) (by unfold Builtin.Range.rangeSize; simp; omega) ?_
    intro it s S
    refine gFor (srcRangeK hh') (fun i m' G' => m'.lookup (Str.ofString "keys") = some (.ref l) ∧ m'.lookup (Str.ofString "values") = some (.ref v) ∧ m'.lookup (Str.ofString "state") = some (.ref row) ∧
      G' = (v, .list (vs.take i)) :: (l, .list (ks.take i)) :: (x, .inst 452 (bucF l v _)) :: G) (fun _ _ _ _ => trivial) ?_ ?_ S ⟨by walk_at "V", by walk_at "V", by walk_at "V", rfl⟩
    · rintro i v1 m' G' s hi ⟨tk, rfl⟩ ⟨j1, j2, j3, rfl⟩ S
      obtain ⟨y1, e1⟩ := getLt (xs := ks) hi
      obtain ⟨y2, e2⟩ := getLt (xs := vs) (hkv ▸ hi)
      have f1 : (inter ks vs)[(0 + 2 * (i : Int)).toNat]? = some y1 := by rw [show (0 + 2 * (i : Int)).toNat = 2 * i by omega, inter_even _ hkv, e1]
      have f2 : (inter ks vs)[(0 + 2 * (i : Int) + 1).toNat]? = some y2 := by rw [show (0 + 2 * (i : Int) + 1).toNat = 2 * i + 1 by omega, inter_odd _ hkv, e2]
      repeat walk_at "W"
      refine ⟨_, _, ?_, by assumption⟩
      exact ⟨by walk_at "V", by walk_at "V", by walk_at "V", by rw [take_snoc e1, take_snoc e2]⟩
    · rintro m' G' s ⟨j1, j2, j3, rfl⟩ S
      rw [List.take_length, hkv, List.take_length] at S
      repeat walk_at "W"
      exact ret _ _ _ (by assumption)
theorem setTree_Tree {x l st row c0 : Addr} {rest : List (Value × Addr)} {v1 v2 fb fb0 : Value} (O : Ok (Mine.hd.heap_39 w.params) T A c 12 80) (hh : A.handled = none) (S : Sg c m ((l, .list []) :: (x, .inst 967 (treF v1 v2 l fb0)) :: G) s)
  (hs : (st, .raw (tupO [.ref row, fb])) ∈ G) (hr : (row, .raw (tupO (.ref c0 :: rowV rest))) ∈ G) (hz : rest.length ≤ 40)
  (hk : ∀ p ∈ (Value.none, c0) :: rest, ∃ fs, (p.2, AO.inst 967 fs) ∈ G ∨ (p.2, AO.inst 452 fs) ∈ G) (hf : handedIn fb = true)
  (ret : ∀ ia s', ia.length = rest.length + 1 → Sg c m (itH 618 ia ((.none, c0) :: rest) ++ (l, .list (ia.map Value.ref)) :: (x, .inst 967 (treF v1 v2 l fb)) :: G) s' → R (.ok (.ret .none)) s') :
  codeAny (model prog w) A (.call (.ref 827) ⟨[.ref x, .ref st], []⟩) R s := by
  have hrl := rowV_len rest
  have hev := evens_row c0 rest.reverse rest (by simp)
  have hC' : 967 = 967 ∨ 967 = 1000 := by decide
  refine' gFn (binds := [(Str.ofString "self", .ref x), (Str.ofString "state", .ref st)]) O S (by k_is) (by k_is) (by walk_at "FB") (locs rfl) (fun A' outer' fr' L' s O' hA' S => ?_) (by rfl) (by rfl) (by rfl) (by decide)
  have hh' : A'.handled = none := hA'.trans hh
  repeat walk_at "W"
  refine call_of (tclear (O'.le (by omega) (by omega)) (by assumption) hC' ?_)
  intro s S
  repeat walk_at "W"
  refine gListRev hh' (by assumption) (by walk_at "H") (by simp) (le_sz (by simp; omega)) ?_
  intro D s S
  repeat walk_at "W"
  refine gSliceT (by assumption) (by walk_at "H") .none .none (.int 2 _) (by decide) (le_sz (by simp; omega)) (pick_evens _) ?_
  intro ev s S
  rw [hev] at S
  refine gIterList (by assumption) (by walk_at "H") ?_
  intro it s S
  refine gFor (srcList (l := ev) hh') (fun i m' G' => m'.lookup (Str.ofString "self") = some (.ref x) ∧ m'.lookup (Str.ofString "data") = some (.ref D) ∧
    G' = (ev, AO.list ((rest.reverse.map fun p => Value.ref p.2) ++ [Value.ref c0])) :: (D, AO.list (Value.ref c0 :: rowV rest).reverse) :: (l, .list []) :: (x, .inst 967 (treF v1 v2 l fb)) :: G) (fun _ _ _ J => by rw [J.2.2]; exact .head _) ?_ ?_ S ⟨by walk_at "V", by walk_at "V", rfl⟩
  · rintro i v m' G' s hi hv ⟨j1, j2, rfl⟩ S
    obtain ⟨b, rfl, hb⟩ : ∃ b, v = .ref b ∧ b ∈ ((Value.none, c0) :: rest).map Prod.snd := by
      have := List.mem_of_getElem? hv
      simp only [List.mem_append, List.mem_map, List.mem_reverse, List.mem_singleton] at this
      rcases this with ⟨p, hp, rfl⟩ | rfl
      · exact ⟨p.2, rfl, List.mem_map_of_mem (f := Prod.snd) (.tail _ hp)⟩
      · exact ⟨c0, rfl, .head _⟩
    obtain ⟨p, hp, rfl⟩ := List.mem_map.mp hb
    obtain ⟨fs, hb | hb⟩ := hk p hp
    all_goals
      repeat walk_at "W"
      refine ⟨_, _, ?_, by assumption⟩
      exact ⟨by walk_at "V", by walk_at "V", rfl⟩
  · rintro m' G' s ⟨j1, j2, rfl⟩ S
    rw [List.reverse_cons] at S
    repeat walk_at "W"
    refine call_of (makeItem (O'.le (by omega) (by omega)) (by assumption) ?_)
    intro t0 s S
    repeat walk_at "W"
    have S := Sg.sub ‹_› (show Sb _ ((D, .list (rowV rest).reverse) :: ((t0, .inst 618 (itF .none (.ref c0))) :: (l, .list ([] ++ [Value.ref t0])) :: (x, .inst 967 (treF v1 v2 l fb)) :: G)) from by walk_at "Q")
    refine gWhile (n := rest.length) (fun n m' G' => ∃ r1 r2 ia, rest = r1 ++ r2 ∧ n = r2.length ∧ ia.length = r1.length + 1 ∧ m'.lookup (Str.ofString "self") = some (.ref x) ∧ m'.lookup (Str.ofString "data") = some (.ref D) ∧
      G' = (D, .list (rowV r2).reverse) :: (itH 618 ia ((.none, c0) :: r1) ++ (l, .list (ia.map Value.ref)) :: (x, .inst 967 (treF v1 v2 l fb)) :: G)) ?_ ⟨[], rest, [t0], rfl, rfl, rfl, by walk_at "V", by walk_at "V", rfl⟩ S
    rintro n m' G' s ⟨r1, r2, ia, e1, hn, hia, j1, j2, rfl⟩ S
    rcases r2 with _ | ⟨⟨k, b⟩, r3⟩
    · repeat walk_at "W"
      rw [List.append_nil] at e1
      subst e1
      exact ret ia _ (by omega) (Sg.sub (by assumption) (by walk_at "Q"))
    · have hl3 : r1.length + r3.length + 1 ≤ 40 := by rw [e1] at hz; simp at hz; omega
      have hr3 := rowV_len r3
      have e3 : (rowV ((k, b) :: r3)).reverse = ((rowV r3).reverse ++ [Value.ref b]) ++ [k] := by simp [rowV]
      rw [e3] at S
      repeat walk_at "W"
      refine ift (by simp) ?_
      repeat walk_at "W"
      refine call_of (makeItem (O'.le (by omega) (by omega)) (by assumption) ?_)
      intro t1 s S
      repeat walk_at "W"
      have S := Sg.sub ‹_› (show Sb _ ((D, .list (rowV r3).reverse) :: (itH 618 ia ((.none, c0) :: r1) ++ (t1, .inst 618 (itF k (.ref b))) :: (l, .list (ia.map Value.ref ++ [Value.ref t1])) :: (x, .inst 967 (treF v1 v2 l fb)) :: G)) from by walk_at "Q")
      refine ⟨r3.length, _, _, by simp [hn], ⟨r1 ++ [(k, b)], r3, ia ++ [t1], by rw [e1]; simp, rfl, by simp [hia], by walk_at "V", by walk_at "V", ?_⟩, S⟩
      rw [itH_snoc' hia, List.append_assoc, List.map_append]
      rfl
theorem setTree_TreeSet {x l st row c0 : Addr} {rest : List (Value × Addr)} {v1 v2 fb fb0 : Value} (O : Ok (Mine.hd.heap_39 w.params) T A c 12 80) (hh : A.handled = none) (S : Sg c m ((l, .list []) :: (x, .inst 1000 (treF v1 v2 l fb0)) :: G) s)
  (hs : (st, .raw (tupO [.ref row, fb])) ∈ G) (hr : (row, .raw (tupO (.ref c0 :: rowV rest))) ∈ G) (hz : rest.length ≤ 40)
  (hk : ∀ p ∈ (Value.none, c0) :: rest, ∃ fs, (p.2, AO.inst 1000 fs) ∈ G ∨ (p.2, AO.inst 599 fs) ∈ G) (hf : handedIn fb = true)
  (ret : ∀ ia s', ia.length = rest.length + 1 → Sg c m (itH 618 ia ((.none, c0) :: rest) ++ (l, .list (ia.map Value.ref)) :: (x, .inst 1000 (treF v1 v2 l fb)) :: G) s' → R (.ok (.ret .none)) s') :
  codeAny (model prog w) A (.call (.ref 827) ⟨[.ref x, .ref st], []⟩) R s := by
  have hrl := rowV_len rest
  have hev := evens_row c0 rest.reverse rest (by simp)
  have hC' : 1000 = 967 ∨ 1000 = 1000 := by decide
  refine' gFn (binds := [(Str.ofString "self", .ref x), (Str.ofString "state", .ref st)]) O S (by k_is) (by k_is) (by walk_at "FB") (locs rfl) (fun A' outer' fr' L' s O' hA' S => ?_) (by rfl) (by rfl) (by rfl) (by decide)
  have hh' : A'.handled = none := hA'.trans hh
  repeat walk_at "W"
  refine call_of (tclear (O'.le (by omega) (by omega)) (by assumption) hC' ?_)
  intro s S
  repeat walk_at "W"
  refine gListRev hh' (by assumption) (by walk_at "H") (by simp) (le_sz (by simp; omega)) ?_
  intro D s S
  repeat walk_at "W"
  refine gSliceT (by assumption) (by walk_at "H") .none .none (.int 2 _) (by decide) (le_sz (by simp; omega)) (pick_evens _) ?_
  intro ev s S
  rw [hev] at S
  refine gIterList (by assumption) (by walk_at "H") ?_
  intro it s S
  refine gFor (srcList (l := ev) hh') (fun i m' G' => m'.lookup (Str.ofString "self") = some (.ref x) ∧ m'.lookup (Str.ofString "data") = some (.ref D) ∧
    G' = (ev, AO.list ((rest.reverse.map fun p => Value.ref p.2) ++ [Value.ref c0])) :: (D, AO.list (Value.ref c0 :: rowV rest).reverse) :: (l, .list []) :: (x, .inst 1000 (treF v1 v2 l fb)) :: G) (fun _ _ _ J => by rw [J.2.2]; exact .head _) ?_ ?_ S ⟨by walk_at "V", by walk_at "V", rfl⟩
  · rintro i v m' G' s hi hv ⟨j1, j2, rfl⟩ S
    obtain ⟨b, rfl, hb⟩ : ∃ b, v = .ref b ∧ b ∈ ((Value.none, c0) :: rest).map Prod.snd := by
      have := List.mem_of_getElem? hv
      simp only [List.mem_append, List.mem_map, List.mem_reverse, List.mem_singleton] at this
      rcases this with ⟨p, hp, rfl⟩ | rfl
      · exact ⟨p.2, rfl, List.mem_map_of_mem (f := Prod.snd) (.tail _ hp)⟩
      · exact ⟨c0, rfl, .head _⟩
    obtain ⟨p, hp, rfl⟩ := List.mem_map.mp hb
    obtain ⟨fs, hb | hb⟩ := hk p hp
    all_goals
      repeat walk_at "W"
      refine ⟨_, _, ?_, by assumption⟩
      exact ⟨by walk_at "V", by walk_at "V", rfl⟩
  · rintro m' G' s ⟨j1, j2, rfl⟩ S
    rw [List.reverse_cons] at S
    repeat walk_at "W"
    refine call_of (makeItem (O'.le (by omega) (by omega)) (by assumption) ?_)
    intro t0 s S
    repeat walk_at "W"
    have S := Sg.sub ‹_› (show Sb _ ((D, .list (rowV rest).reverse) :: ((t0, .inst 618 (itF .none (.ref c0))) :: (l, .list ([] ++ [Value.ref t0])) :: (x, .inst 1000 (treF v1 v2 l fb)) :: G)) from by walk_at "Q")
    refine gWhile (n := rest.length) (fun n m' G' => ∃ r1 r2 ia, rest = r1 ++ r2 ∧ n = r2.length ∧ ia.length = r1.length + 1 ∧ m'.lookup (Str.ofString "self") = some (.ref x) ∧ m'.lookup (Str.ofString "data") = some (.ref D) ∧
      G' = (D, .list (rowV r2).reverse) :: (itH 618 ia ((.none, c0) :: r1) ++ (l, .list (ia.map Value.ref)) :: (x, .inst 1000 (treF v1 v2 l fb)) :: G)) ?_ ⟨[], rest, [t0], rfl, rfl, rfl, by walk_at "V", by walk_at "V", rfl⟩ S
    rintro n m' G' s ⟨r1, r2, ia, e1, hn, hia, j1, j2, rfl⟩ S
    rcases r2 with _ | ⟨⟨k, b⟩, r3⟩
    · repeat walk_at "W"
      rw [List.append_nil] at e1
      subst e1
      exact ret ia _ (by omega) (Sg.sub (by assumption) (by walk_at "Q"))
    · have hl3 : r1.length + r3.length + 1 ≤ 40 := by rw [e1] at hz; simp at hz; omega
      have hr3 := rowV_len r3
      have e3 : (rowV ((k, b) :: r3)).reverse = ((rowV r3).reverse ++ [Value.ref b]) ++ [k] := by simp [rowV]
      rw [e3] at S
      repeat walk_at "W"
      refine ift (by simp) ?_
      repeat walk_at "W"
      refine call_of (makeItem (O'.le (by omega) (by omega)) (by assumption) ?_)
      intro t1 s S
      repeat walk_at "W"
      have S := Sg.sub ‹_› (show Sb _ ((D, .list (rowV r3).reverse) :: (itH 618 ia ((.none, c0) :: r1) ++ (t1, .inst 618 (itF k (.ref b))) :: (l, .list (ia.map Value.ref ++ [Value.ref t1])) :: (x, .inst 1000 (treF v1 v2 l fb)) :: G)) from by walk_at "Q")
      refine ⟨r3.length, _, _, by simp [hn], ⟨r1 ++ [(k, b)], r3, ia ++ [t1], by rw [e1]; simp, rfl, by simp [hia], by walk_at "V", by walk_at "V", ?_⟩, S⟩
      rw [itH_snoc' hia, List.append_assoc, List.map_append]
      rfl
end
end

section
/-- a leaf by its number, or none -/
def bv (B : List Addr) (i : Int) : Value := if i < 0 then .none else match B[i.toNat]? with | some a => .ref a | none => .none
/-- the leaves as they were laid -/
def LeavesAt (G : Hp) (CB : Addr) (B : List Addr) (lens : List Nat) (links : List Int) : Prop :=
  B.Nodup ∧ lens.length = B.length ∧ links.length = B.length ∧ (∀ l ∈ links, -1 ≤ l ∧ l < B.length) ∧ (∀ n ∈ lens, n ≤ 1000) ∧ ∀ (i : Nat) a, B[i]? = some a → ∃ l fs xs, (a, AO.inst CB fs) ∈ G ∧ fs.lookup (Str.ofString "_keys") = some (.ref l) ∧ fs.lookup (Str.ofString "_next") = some (bv B (links.getD i (-1))) ∧
    (l, .list xs) ∈ G ∧ xs.length = lens.getD i 0
/-- a tree as it was laid -/
def TreeAt (G : Hp) (C CI : Addr) (B : List Addr) : Nat → Sh → Addr → Prop
  | _, .leaf i, a => B[i]? = some a
  | 0, .node _ _, _ => False
  | d + 1, .node f ks, a => ∃ l v1 v2 ia kids, (a, AO.inst C (treF v1 v2 l (bv B f))) ∈ G ∧ (l, .list (ia.map Value.ref)) ∈ G ∧ ia.length = kids.length ∧ kids.length = ks.length ∧ ks.length ≤ 40 ∧ (∀ p ∈ itH CI ia kids, p ∈ G) ∧ (-1 ≤ f ∧ f < B.length) ∧
      ∀ (i : Nat) k, ks[i]? = some k → ∃ p, kids[i]? = some p ∧ TreeAt G C CI B d k p.2
theorem LeavesAt.le {G K CB B lens links} (L : LeavesAt G CB B lens links) (l : ∀ p ∈ G, p ∈ K) : LeavesAt K CB B lens links :=
  ⟨L.1, L.2.1, L.2.2.1, L.2.2.2.1, L.2.2.2.2.1, fun i a e => let ⟨k, fs, xs, h1, h2, h3, h4, h5⟩ := L.2.2.2.2.2 i a e; ⟨k, fs, xs, l _ h1, h2, h3, l _ h4, h5⟩⟩
theorem TreeAt.le {G K C CI B} (l : ∀ p ∈ G, p ∈ K) : ∀ {d sh a}, TreeAt G C CI B d sh a → TreeAt K C CI B d sh a
  | 0, .leaf _, _, h => h
  | _ + 1, .leaf _, _, h => h
  | 0, .node _ _, _, h => h
  | d + 1, .node f ks, a, ⟨k, v1, v2, ia, kids, h1, h2, h3, h4, h5, h6, h7, h8⟩ => ⟨k, v1, v2, ia, kids, l _ h1, l _ h2, h3, h4, h5, fun p hp => l _ (h6 p hp), h7, fun i x e => let ⟨b, e1, e2⟩ := h8 i x e; ⟨b, e1, TreeAt.le l e2⟩⟩
theorem bv_neg {B : List Addr} {i : Int} (h : i < 0) : bv B i = .none := by unfold bv; rw [if_pos h]
theorem bv_ge {B : List Addr} {i : Int} (h : 0 ≤ i) (h' : i < B.length) : ∃ a, B[i.toNat]? = some a ∧ bv B i = .ref a := by
  have lt : i.toNat < B.length := by omega
  refine ⟨_, List.getElem?_eq_getElem lt, ?_⟩
  unfold bv; rw [if_neg (by omega), List.getElem?_eq_getElem lt]
theorem bv_at {B : List Addr} {i : Nat} {a : Addr} (h : B[i]? = some a) : bv B (i : Int) = .ref a ∧ i < B.length := by
  unfold bv; rw [if_neg (by omega), show ((i : Int)).toNat = i by omega, h]
  refine ⟨rfl, ?_⟩
  rcases Nat.lt_or_ge i B.length with q | q
  · exact q
  · rw [List.getElem?_eq_none q] at h; cases h
theorem bv_handed {B : List Addr} {i : Int} : handedIn (bv B i) = true := by
  unfold bv
  split
  · rfl
  · split <;> rfl
section
variable {prog : Program} {w : World} {T : Tp} {A : Around} {c : Cx} {m : Loc} {G : Hp} {s : Shared} {R : Result → Shared → Prop} {E : Value → Shared → Prop} {Q : Value → Shared → Prop}
theorem isBv {CB : Addr} {B : List Addr} {lens : List Nat} {links : List Int} {i j : Int} (S : Sg c m G s) (L : LeavesAt G CB B lens links) (hi : -1 ≤ i ∧ i < B.length) (hj : -1 ≤ j ∧ j < B.length) (h : Q (.bool (decide (i = j))) s) :
    wpAny (model prog w) A (compareOp .Is (bv B i) (bv B j)) Q E s := by
  by_cases qi : i < 0
  · rw [bv_neg qi]
    by_cases qj : j < 0
    · rw [bv_neg qj]
      rw [show decide (i = j) = true from decide_eq_true (by omega)] at h
      exact isNoneNone h
    · obtain ⟨b, e, e'⟩ := bv_ge (B := B) (i := j) (by omega) hj.2
      rw [e']
      rw [show decide (i = j) = false from decide_eq_false (by omega)] at h
      exact isNoneRef h
  · obtain ⟨a, e, e'⟩ := bv_ge (B := B) (i := i) (by omega) hi.2
    rw [e']
    by_cases qj : j < 0
    · rw [bv_neg qj]
      rw [show decide (i = j) = false from decide_eq_false (by omega)] at h
      exact isRefNone h
    · obtain ⟨b, f, f'⟩ := bv_ge (B := B) (i := j) (by omega) hj.2
      rw [f']
      obtain ⟨_, fs, _, o1, _⟩ := L.2.2.2.2.2 _ _ e
      obtain ⟨_, fs', _, o2, _⟩ := L.2.2.2.2.2 _ _ f
      refine gIsInst S o1 o2 ?_
      have q : (a = b) ↔ i = j := by
        constructor
        · rintro rfl
          have l1 : i.toNat < B.length := by omega
          have l2 : j.toNat < B.length := by omega
          rw [List.getElem?_eq_getElem l1] at e
          rw [List.getElem?_eq_getElem l2] at f
          have := (List.getElem_inj (h₀ := l1) (h₁ := l2) L.1).mp ((Option.some.inj e).trans (Option.some.inj f).symm)
          omega
        · rintro rfl
          rw [e] at f; exact Option.some.inj f
      rw [show decide (a = b) = decide (i = j) from by by_cases z : i = j <;> simp [q, z]]
      exact h
theorem isBvE {CB : Addr} {B : List Addr} {lens : List Nat} {links : List Int} {i j : Int} {v : Value} (S : Sg c m G s) (L : LeavesAt G CB B lens links) (hi : -1 ≤ i ∧ i < B.length) (hj : -1 ≤ j ∧ j < B.length) (e : bv B j = v) (h : Q (.bool (decide (i = j))) s) :
    wpAny (model prog w) A (compareOp .Is (bv B i) v) Q E s := by subst e; exact isBv S L hi hj h
theorem linkRange {G : Hp} {CB : Addr} {B : List Addr} {lens : List Nat} {links : List Int} (L : LeavesAt G CB B lens links) (i : Nat) (hB : 0 < B.length) : -1 ≤ links.getD i (-1) ∧ links.getD i (-1) < B.length := by
  rw [List.getD_eq_getElem?_getD]
  cases q : links[i]? with
  | none => simp only [Option.getD_none]; omega
  | some l => exact L.2.2.2.1 l (List.mem_of_getElem? q)
theorem bvNone {B : List Addr} {i : Int} (hi : -1 ≤ i ∧ i < B.length) (h : Q (.bool (decide (i < 0))) s) : wpAny (model prog w) A (compareOp .Is (bv B i) .none) Q E s := by
  by_cases q : i < 0
  · rw [bv_neg q]; rw [decide_eq_true q] at h; exact isNoneNone h
  · obtain ⟨b, e, e'⟩ := bv_ge (B := B) (i := i) (by omega) hi.2
    rw [e']; rw [decide_eq_false q] at h; exact isRefNone h
theorem bvSome {B : List Addr} {i : Int} (hi : -1 ≤ i ∧ i < B.length) (h : Q (.bool (decide (0 ≤ i))) s) : wpAny (model prog w) A (compareOp .IsNot (bv B i) .none) Q E s := by
  by_cases q : i < 0
  · rw [bv_neg q]; rw [decide_eq_false (by omega)] at h; exact isNotNoneNone h
  · obtain ⟨b, e, e'⟩ := bv_ge (B := B) (i := i) (by omega) hi.2
    rw [e']; rw [decide_eq_true (by omega)] at h; exact isNotRefNone h
theorem sizeLeaf {x l C : Addr} {xs : List Value} {fs : Loc} (O : Ok (Mine.hd.heap_39 w.params) T A c 4 20) (S : Sg c m G s) (hC : C = 599 ∨ C = 452) (hx : (x, .inst C fs) ∈ G) (hf : fs.lookup (Str.ofString "_keys") = some (.ref l)) (hl : (l, .list xs) ∈ G) (hz : xs.length ≤ 1000)
  (ret : ∀ tk s', Sg c m G s' → R (.ok (.ret (.int xs.length tk))) s') : codeAny (model prog w) A (.call (.ref 192) ⟨[.ref x], []⟩) R s := by
  rcases hC with rfl | rfl
  all_goals
    refine' gFn (binds := [(Str.ofString "self", .ref x)]) O S (by k_is) (by k_is) (by walk_at "FB") (locs rfl) (fun A' outer' fr' L' s O' hA' S => ?_) (by rfl) (by rfl) (by rfl) (by decide)
    repeat walk_at "W"
    exact ret _ _ (by assumption)
theorem sizeTree {x l C : Addr} {xs : List Value} {v1 v2 fb : Value} (O : Ok (Mine.hd.heap_39 w.params) T A c 4 20) (S : Sg c m G s) (hC : C = 967 ∨ C = 1000) (hx : (x, .inst C (treF v1 v2 l fb)) ∈ G) (hl : (l, .list xs) ∈ G) (hz : xs.length ≤ 1000)
  (ret : ∀ tk s', Sg c m G s' → R (.ok (.ret (.int xs.length tk))) s') : codeAny (model prog w) A (.call (.ref 701) ⟨[.ref x], []⟩) R s := by
  rcases hC with rfl | rfl
  all_goals
    refine' gFn (binds := [(Str.ofString "self", .ref x)]) O S (by k_is) (by k_is) (by walk_at "FB") (locs rfl) (fun A' outer' fr' L' s O' hA' S => ?_) (by rfl) (by rfl) (by rfl) (by decide)
    repeat walk_at "W"
    exact ret _ _ (by assumption)
theorem assertB {x : Addr} {v : Value} {b : Bool} {msg : Value} (O : Ok (Mine.hd.heap_39 w.params) T A c 4 20) (hh : A.handled = none) (S : Sg c m G s) (hb : v = .bool b ∨ ∃ n tk, v = .int n tk ∧ b = (n != 0))
  (ret : b = true → ∀ s', Sg c m G s' → R (.ok (.ret .none)) s') (exc : b = false → ∀ e s', Xg c m G e (.type "AssertionError") .fly s' → R (.error (.ref e)) s') : codeAny (model prog w) A (.call (.ref 834) ⟨[.ref x, v, msg], []⟩) R s := by
  refine' gFn (binds := [(Str.ofString "self", .ref x), (Str.ofString "condition", v), (Str.ofString "message", msg)]) O S (by k_is) (by k_is) (by walk_at "FB") (locs rfl) (fun A' outer' fr' L' s O' hA' S => ?_) (by rfl) (by rfl) (by rfl) (by decide)
  have hh' : A'.handled = none := hA'.trans hh
  rcases hb with rfl | ⟨n, tk, rfl, hb⟩
  all_goals cases b
  · repeat walk_at "W"
    refine ex_raise PySem.F.excCall_AssertionError PySem.F.excRaise_AssertionError hh' ?_
    refine gNameB (by assumption) ‹_› (by rfl) (by k_is) (by first | boot_fast | boot_by_name) (by decide) ⟨rfl, ?_⟩
    repeat walk_at "W"
    refine ⟨by walk_at "Z", gRaised (by assumption) fun e s' X => ?_⟩
    exact gx_intro X fun s'' X'' => exc rfl e s'' X''
  · repeat walk_at "W"
    exact ret rfl _ (by assumption)
  · repeat walk_at "W"
    refine ift (by rw [← hb]; rfl) ?_
    refine ex_raise PySem.F.excCall_AssertionError PySem.F.excRaise_AssertionError hh' ?_
    refine gNameB (by assumption) ‹_› (by rfl) (by k_is) (by first | boot_fast | boot_by_name) (by decide) ⟨rfl, ?_⟩
    repeat walk_at "W"
    refine ⟨by walk_at "Z", gRaised (by assumption) fun e s' X => ?_⟩
    exact gx_intro X fun s'' X'' => exc rfl e s'' X''
  · repeat walk_at "W"
    refine iff_ (by rw [← hb]; rfl) ?_
    repeat walk_at "W"
    exact ret rfl _ (by assumption)
end
end

section
theorem item_at {ia : List Addr} {i : Nat} {a : Addr} (h : ia[i]? = some a) : (ia.map Value.ref)[i]? = some (.ref a) := by rw [List.getElem?_map, h]; rfl
/-- what a kid's cells tell -/
def KidCell (G : Hp) (C CB : Addr) (B : List Addr) (lens : List Nat) (links : List Int) (x : Sh) (b : Addr) (Cx : Addr) (fs : Loc) : Prop :=
  (b, AO.inst Cx fs) ∈ G ∧ ((x.isLeaf = true ∧ Cx = CB ∧ ∃ i l xs, x = .leaf i ∧ B[i]? = some b ∧ fs.lookup (Str.ofString "_keys") = some (.ref l) ∧ (l, AO.list xs) ∈ G ∧ xs.length = x.size lens ∧ x.size lens ≤ 1000 ∧ fs.lookup (Str.ofString "_next") = some (bv B (links.getD i (-1)))) ∨
    (x.isLeaf = false ∧ Cx = C ∧ ∃ v1 v2 l, ∃ ia : List Addr, fs = treF v1 v2 l (bv B x.first) ∧ (l, AO.list (ia.map Value.ref)) ∈ G ∧ ia.length = x.size lens ∧ x.size lens ≤ 1000))
theorem kidCell {G : Hp} {C CB CI : Addr} {B : List Addr} {lens : List Nat} {links : List Int} {d : Nat} {x : Sh} {b : Addr} (L : LeavesAt G CB B lens links) (X : TreeAt G C CI B d x b) : (∃ Cx fs, KidCell G C CB B lens links x b Cx fs) ∧ -1 ≤ x.first ∧ x.first < B.length := by
  cases x with
  | leaf i =>
    have X : B[i]? = some b := by cases d <;> exact X
    obtain ⟨l, fs, xs, h1, h2, h3, h4, h5⟩ := L.2.2.2.2.2 i b X
    have hb := (bv_at X).2
    refine ⟨⟨CB, fs, h1, .inl ⟨rfl, rfl, i, l, xs, rfl, X, h2, h4, h5, ?_, h3⟩⟩, by simp only [Sh.first]; omega, by simp only [Sh.first]; omega⟩
    have : i < lens.length := by rw [L.2.1]; exact hb
    show lens.getD i 0 ≤ 1000
    rw [List.getD_eq_getElem?_getD, List.getElem?_eq_getElem this]
    exact L.2.2.2.2.1 _ (List.getElem_mem this)
  | node f ks =>
    cases d with
    | zero => exact X.elim
    | succ d =>
      obtain ⟨l, v1, v2, ia, kids, h1, h2, h3, h4, h5, h6, h7, h8⟩ := X
      exact ⟨⟨C, _, h1, .inr ⟨rfl, rfl, v1, v2, l, ia, rfl, h2, by simp only [Sh.size]; omega, by simp only [Sh.size]; omega⟩⟩, h7⟩
section
variable {prog : Program} {w : World} {T : Tp}
def CkSpec_Tree (prog : Program) (w : World) (T : Tp) (B : List Addr) (lens : List Nat) (links : List Int) (d : Nat) : Prop :=
  ∀ {A : Around} {c : Cx} {m : Loc} {G : Hp} {s : Shared} {R : Result → Shared → Prop} {x : Addr} {f : Int} {ks : List Sh} {nb : Int} {args : Args}, (args = ⟨[.ref x, bv B nb], []⟩ ∨ (args = ⟨[.ref x], []⟩ ∧ nb < 0)) → Ok (Mine.hd.heap_39 w.params) T A c (20 * d + 20) (100 * d + 100) → A.handled = none → Sg c m G s →
    LeavesAt G 452 B lens links → TreeAt G 967 618 B d (.node f ks) x → (-1 ≤ nb ∧ nb < B.length) →
    (ret : chk lens links d (.node f ks) nb = true → ∀ s', Sg c m G s' → R (.ok (.ret .none)) s') →
    (exc : chk lens links d (.node f ks) nb = false → ∀ e s', Xg c m G e (.type "AssertionError") .fly s' → R (.error (.ref e)) s') →
    codeAny (model prog w) A (.call (.ref 842) args) R s
theorem ck_Tree {B : List Addr} {lens : List Nat} {links : List Int} {d : Nat} (ih : CkSpec_Tree prog w T B lens links d) : CkSpec_Tree prog w T B lens links (d + 1) := by
  intro A c m G s R x f ks nb args ha O hh S L X hn ret exc
  obtain ⟨l, v1, v2, ia, kids, o1, o2, n1, n2, n3, o3, hf, hk⟩ := X
  have hbf := bv_handed (B := B) (i := f)
  have hbn := bv_handed (B := B) (i := nb)
  refine' gFn (binds := [(Str.ofString "self", .ref x), (Str.ofString "nextbucket", bv B nb)]) (O.le (d' := 20 * d + 40) (u' := 100 * d + 200) (by omega) (by omega)) S (by k_is) (by k_is) (fun X => by rcases ha with rfl | ⟨rfl, hb⟩; exact binds_K X rfl (by k_is) rfl rfl rfl; rw [bv_neg hb]; exact binds_K X rfl (by k_is) rfl rfl rfl) (locs rfl) (fun A' outer' fr' L' s O' hA' S => ?_) (by rfl) (by rfl) (by rfl) (by decide)
  have hh' : A'.handled = none := hA'.trans hh
  cases ks with
  | nil =>
    have hia : ia = [] := List.eq_nil_of_length_eq_zero (by simp only [List.length_nil] at n2; omega)
    subst hia
    repeat walk_at "W"
    refine bvNone hf ?_
    repeat walk_at "W"
    refine gCallMeth (by assumption) (by walk_at "H") (assertB (O'.le (by omega) (by omega)) hh' (by assumption) (.inl rfl) (fun hb s S => ?_) (fun hb e s X => ?_))
    · have hb' : chk lens links (d + 1) (.node f []) nb = true := hb
      show Xn _ _ _ _ _ _ _ _
      repeat walk_at "W"
      exact ret hb' _ (Sg.sub (by assumption) (by walk_at "Q"))
    · have hb' : chk lens links (d + 1) (.node f []) nb = false := hb
      exact gx_intro X fun s'' X'' => exc hb' e s'' (X''.sub (by walk_at "Q"))
  | cons k ks =>
    have hia : ia.length = ks.length + 1 := by simp only [List.length_cons] at n2; omega
    have hgen : ∀ (i : Nat) x, (k :: ks)[i]? = some x → ∃ a, ∃ p : Value × Addr, ia[i]? = some a ∧ (a, AO.inst 618 (itF p.1 (.ref p.2))) ∈ G ∧ TreeAt G 967 618 B d x p.2 := by
      intro i x hx
      obtain ⟨p, hp, ht⟩ := hk i x hx
      have lt : i < ia.length := by
        rcases Nat.lt_or_ge i kids.length with q | q
        · omega
        · rw [List.getElem?_eq_none q] at hp; cases hp
      exact ⟨ia[i], p, List.getElem?_eq_getElem lt, o3 _ (itH_mem (List.getElem?_eq_getElem lt) hp), ht⟩
    obtain ⟨a0, p0, ea0, ia0, t0⟩ := hgen 0 k rfl
    obtain ⟨⟨C0, fs0, kc0⟩, hf0⟩ := kidCell L t0
    have oc0 := kc0.1
    have item0 : (ia.map Value.ref)[(0 : Int).toNat]? = some (.ref a0) := item_at ea0
    have hne : (!(ia.map Value.ref).isEmpty) = true := by cases ia with | nil => simp at hia | cons _ _ => rfl
    repeat walk_at "W"
    refine iff_ (by rw [hne]; rfl) ?_
    repeat walk_at "W"
    refine bvSome hf ?_
    repeat walk_at "W"
    refine gCallMeth (by assumption) (by walk_at "H") (assertB (O'.le (by omega) (by omega)) hh' (by assumption) (.inl rfl) (fun hb s S => ?_) (fun hb e s X => ?_))
    rotate_left
    · exact gx_intro X fun s'' X'' => exc (chk_false1 (by simpa using hb)) e s'' (X''.sub (by walk_at "Q"))
    have h0 : 0 ≤ f := by simpa using hb
    show Xn _ _ _ _ _ _ _ _
    repeat walk_at "W"
    refine gIterList (by assumption) (by walk_at "H") ?_
    intro it s S
    refine gFor (srcList (l := l) (xs := ia.map Value.ref) hh') (fun i m' G' => ∃ q, m'.lookup (Str.ofString "self") = some (.ref x) ∧ m'.lookup (Str.ofString "data") = some (.ref l) ∧ m'.lookup (Str.ofString "assert_") = some (.ref q) ∧ m'.lookup (Str.ofString "child_class") = some (.ref C0) ∧ m'.lookup (Str.ofString "nextbucket") = some (bv B nb) ∧
      G' = (q, .raw (methodObj (.ref 834) (.ref x))) :: G ∧ ∀ (j : Nat) y, j < i → (k :: ks)[j]? = some y → kidSame lens k y = true) ?_ ?_ ?_ S ⟨_, by walk_at "V", by walk_at "V", by walk_at "V", by walk_at "V", by walk_at "V", rfl, fun j y hj => absurd hj (Nat.not_lt_zero _)⟩
    · rintro i m' G' ⟨q, j1, j2, j3, j4, j5, rfl, j6⟩; exact .tail _ o2
    · rintro i v m' G' s hi hv ⟨q, j1, j2, j3, j4, j5, rfl, j6⟩ S
      obtain ⟨y, ey⟩ : ∃ y, (k :: ks)[i]? = some y := ⟨_, List.getElem?_eq_getElem (by simp at hi ⊢; omega)⟩
      obtain ⟨a, p, ea, oa, ty⟩ := hgen i y ey
      have : v = .ref a := by rw [item_at ea] at hv; exact (Option.some.inj hv).symm
      subst this
      obtain ⟨⟨Cy, fy, oy, hy⟩, hfy⟩ := kidCell L ty
      have hmem : y ∈ k :: ks := List.mem_of_getElem? ey
      rcases hy with ⟨yl, rfl, iy, ly, xsy, hyy, eB, f1, f2, f3, f4, f5⟩ | ⟨yl, rfl, v1y, v2y, ly, iay, rfl, f2, f3, f4⟩ <;> rcases kc0.2 with ⟨kl, rfl, -⟩ | ⟨kl, rfl, -⟩
      all_goals
        repeat walk_at "W"
        refine gCallMeth (by assumption) (by walk_at "H") (assertB (O'.le (by omega) (by omega)) hh' (by assumption) (.inl rfl) (fun hb s S => ?_) (fun hb e s X => by cases hb))
        show Xn _ _ _ _ _ _ _ _
        repeat walk_at "W"
        refine gCallMeth (by assumption) (by walk_at "H") (assertB (O'.le (by omega) (by omega)) hh' (by assumption) (.inl rfl) (fun hb s S => ?_) (fun hb e s X => ?_))
        rotate_left
        · first
            | exact absurd hb (by decide)
            | exact gNoted O' X fun s X => lr_err (gCameBack X rfl fun s X => gx_intro X fun s'' X'' => exc (chk_false2 hmem (by simp [kidSame, yl, kl])) e s'' (X''.sub (by walk_at "Q")))
      rotate_left
      · exact absurd hb (by decide)
      · exact absurd hb (by decide)
      · show Xn _ _ _ _ _ _ _ _
        repeat walk_at "W"
        refine sizeTree (C := 967) (O'.le (by omega) (by omega)).in1 (by assumption) (by decide) (by walk_at "H") (by walk_at "H") (by simp; omega) (fun tk s S => ?_)
        refine handed_on rfl ?_
        repeat walk_at "W"
        refine gCallMeth (by assumption) (by walk_at "H") (assertB (O'.le (by omega) (by omega)) hh' (by assumption) (.inr ⟨_, _, rfl, rfl⟩) (fun hb s S => ?_) (fun hb e s X => ?_))
        · show Xn _ _ _ _ _ _ _ _
          repeat walk_at "W"
          refine ⟨_, _, ?_, by assumption⟩
          refine ⟨q, by walk_at "V", by walk_at "V", by walk_at "V", by walk_at "V", by walk_at "V", rfl, fun j z hj ez => ?_⟩
          by_cases hji : j < i
          · exact j6 j z hji ez
          · have : j = i := by omega
            subst this
            rw [ey] at ez; cases ez
            have hb' : ((iay.map Value.ref).length : Int) ≠ 0 := by simpa using hb
            have : 0 < y.size lens := by rw [List.length_map] at hb'; omega
            simp [kidSame, yl, kl, this]
        · exact gNoted O' X fun s X => lr_err (gCameBack X rfl fun s X => gx_intro X fun s'' X'' => exc (chk_false2 hmem (by have hb' : ((iay.map Value.ref).length : Int) = 0 := (by simpa using hb); have : y.size lens = 0 := (by rw [List.length_map] at hb'; omega); simp [kidSame, this])) e s'' (X''.sub (by walk_at "Q")))
      · show Xn _ _ _ _ _ _ _ _
        repeat walk_at "W"
        refine sizeLeaf (C := 452) (O'.le (by omega) (by omega)).in1 (by assumption) (by decide) (by walk_at "H") f1 (by walk_at "H") (by omega) (fun tk s S => ?_)
        refine handed_on rfl ?_
        repeat walk_at "W"
        refine gCallMeth (by assumption) (by walk_at "H") (assertB (O'.le (by omega) (by omega)) hh' (by assumption) (.inr ⟨_, _, rfl, rfl⟩) (fun hb s S => ?_) (fun hb e s X => ?_))
        · show Xn _ _ _ _ _ _ _ _
          repeat walk_at "W"
          refine ⟨_, _, ?_, by assumption⟩
          refine ⟨q, by walk_at "V", by walk_at "V", by walk_at "V", by walk_at "V", by walk_at "V", rfl, fun j z hj ez => ?_⟩
          by_cases hji : j < i
          · exact j6 j z hji ez
          · have : j = i := by omega
            subst this
            rw [ey] at ez; cases ez
            have hb' : (xsy.length : Int) ≠ 0 := by simpa using hb
            have : 0 < y.size lens := by omega
            simp [kidSame, yl, kl, this]
        · exact gNoted O' X fun s X => lr_err (gCameBack X rfl fun s X => gx_intro X fun s'' X'' => exc (chk_false2 hmem (by have hb' : (xsy.length : Int) = 0 := (by simpa using hb); have : y.size lens = 0 := (by omega); simp [kidSame, this])) e s'' (X''.sub (by walk_at "Q")))
    rintro m' G' s ⟨q, j1, j2, j3, j4, j5, rfl, j6⟩ S
    have all2 : ∀ y ∈ k :: ks, kidSame lens k y = true := by
      intro y hy
      obtain ⟨i, hi, rfl⟩ := List.mem_iff_getElem.mp hy
      exact j6 i _ (by simp at hi ⊢; omega) (List.getElem?_eq_getElem hi)
    have kidItem : ∀ (i : Nat) y, (k :: ks)[i]? = some y → ∃ a b Cy fy, (ia.map Value.ref)[i]? = some (.ref a) ∧ (∃ kv, (a, AO.inst 618 (itF kv (.ref b))) ∈ G) ∧ TreeAt G 967 618 B d y b ∧ KidCell G 967 452 B lens links y b Cy fy ∧ (-1 ≤ y.first ∧ y.first < B.length) ∧ y.isLeaf = k.isLeaf := by
      intro i y ey
      obtain ⟨a, p, ea, oa, ty⟩ := hgen i y ey
      obtain ⟨⟨Cy, fy, ky⟩, hfy⟩ := kidCell L ty
      refine ⟨a, p.2, Cy, fy, item_at ea, ⟨_, oa⟩, ty, ky, hfy, ?_⟩
      have := all2 y (List.mem_of_getElem? ey)
      simp only [kidSame, Bool.and_eq_true, beq_iff_eq] at this
      exact this.1
    have hBpos : 0 < B.length := by omega
    have hks : ks.length ≤ 39 := by simp at n3; omega
    rcases kc0.2 with ⟨kl, rfl, i0, l0, xs0, rfl, eB, g1, g2, g3, g4, g5⟩ | ⟨kl, rfl, w1, w2, l0, ia0, rfl, g2, g3, g4⟩
    · -- leaves below
      repeat walk_at "W"
      refine isBvE (by assumption) (L.le (fun p hp => .tail _ hp)) hf (j := (i0 : Int)) hf0 (bv_at eB).1 ?_
      repeat walk_at "W"
      refine gCallMeth (by assumption) (by walk_at "H") (assertB (O'.le (by omega) (by omega)) hh' (by assumption) (.inl rfl) (fun hb s S => ?_) (fun hb e s X => ?_))
      rotate_left
      · exact gx_intro X fun s'' X'' => exc (chk_false3 (by simpa [Sh.first] using hb)) e s'' (X''.sub (by walk_at "Q"))
      have h3 : f = (Sh.leaf i0).first := by simpa [Sh.first] using hb
      show Xn _ _ _ _ _ _ _ _
      repeat walk_at "W"
      refine gIterRange (N := ks.length) (by assumption) (by assumption) (by omega) (by simp; omega) (by simp; omega) ?_
      intro it s S
      refine gFor (srcRange hh') (fun i m' G' => ∃ q, m'.lookup (Str.ofString "self") = some (.ref x) ∧ m'.lookup (Str.ofString "data") = some (.ref l) ∧ m'.lookup (Str.ofString "assert_") = some (.ref q) ∧ m'.lookup (Str.ofString "nextbucket") = some (bv B nb) ∧
        G' = (q, .raw (methodObj (.ref 834) (.ref x))) :: G ∧ ∀ (j : Nat), j < i → kidOk lens links d (.leaf i0) ks nb j = true) (fun _ _ _ _ => trivial) ?_ ?_ S ⟨_, by walk_at "V", by walk_at "V", by walk_at "V", by walk_at "V", rfl, fun j hj => absurd hj (Nat.not_lt_zero _)⟩
      · rintro i v m' G' s hi ⟨tk, rfl⟩ ⟨q, j1, j2, j3, j5, rfl, j6⟩ S
        obtain ⟨y, ey⟩ : ∃ y, (Sh.leaf i0 :: ks)[i]? = some y := ⟨_, List.getElem?_eq_getElem (by simp; omega)⟩
        obtain ⟨z, ez⟩ : ∃ z, (Sh.leaf i0 :: ks)[i + 1]? = some z := ⟨_, List.getElem?_eq_getElem (by simp; omega)⟩
        obtain ⟨ay, by', Cy, fy, ey1, ⟨kvy, oy⟩, ty, ⟨oby, ky⟩, ry, sy⟩ := kidItem i y ey
        obtain ⟨az, bz, Cz, fz, ez1, ⟨kvz, oz⟩, tz, ⟨obz, kz⟩, rz, sz⟩ := kidItem (i + 1) z ez
        rcases ky with ⟨_, rfl, iy, ly, xsy, rfl, eBy, y1, y2, y3, y4, y5⟩ | ⟨q1, _⟩
        rotate_left
        · rw [q1, kl] at sy; cases sy
        rcases kz with ⟨_, rfl, iz, lz, xsz, rfl, eBz, z1, z2, z3, z4, z5⟩ | ⟨q1, _⟩
        rotate_left
        · rw [q1, kl] at sz; cases sz
        have e1 : (ia.map Value.ref)[(0 + (i : Int)).toNat]? = some (.ref ay) := by rw [show (0 + (i : Int)).toNat = i by omega]; exact ey1
        have e2 : (ia.map Value.ref)[(0 + (i : Int) + 1).toNat]? = some (.ref az) := by rw [show (0 + (i : Int) + 1).toNat = i + 1 by omega]; exact ez1
        have hbl := bv_handed (B := B) (i := links.getD iy (-1))
        repeat walk_at "W"
        refine isBvE (by assumption) (L.le (fun p hp => .tail _ (.tail _ hp))) (linkRange L iy hBpos) (j := (iz : Int)) rz (bv_at eBz).1 ?_
        repeat walk_at "W"
        have hko : kidOk lens links d (.leaf i0) ks nb i = decide (links.getD iy (-1) = (iz : Int)) := by
          unfold kidOk
          rw [ey, due_next ez]
          rfl
        refine gCallMeth (by assumption) (by walk_at "H") (assertB (O'.le (by omega) (by omega)) hh' (by assumption) (.inl rfl) (fun hb s S => ?_) (fun hb e s X => ?_))
        · show Xn _ _ _ _ _ _ _ _
          repeat walk_at "W"
          refine ⟨_, _, ?_, by assumption⟩
          refine ⟨q, by walk_at "V", by walk_at "V", by walk_at "V", by walk_at "V", rfl, fun j hj => ?_⟩
          by_cases hji : j < i
          · exact j6 j hji
          · have : j = i := by omega
            subst this
            rw [hko]; exact hb
        · exact gNoted O' X fun s X => lr_err (gCameBack X rfl fun s X => gx_intro X fun s'' X'' => exc (chk_false4 (j := i) (by omega) (by rw [hko]; exact hb)) e s'' (X''.sub (by walk_at "Q")))
      · rintro m' G' s ⟨q, j1, j2, j3, j5, rfl, j6⟩ S
        obtain ⟨y, ey⟩ : ∃ y, (Sh.leaf i0 :: ks)[ks.length]? = some y := ⟨_, List.getElem?_eq_getElem (by simp)⟩
        obtain ⟨ay, by', Cy, fy, ey1, ⟨kvy, oy⟩, ty, ⟨oby, ky⟩, ry, sy⟩ := kidItem ks.length y ey
        rcases ky with ⟨_, rfl, iy, ly, xsy, rfl, eBy, y1, y2, y3, y4, y5⟩ | ⟨q1, _⟩
        rotate_left
        · rw [q1, kl] at sy; cases sy
        have e1 : (ia.map Value.ref)[(-1 + ((ia.map Value.ref).length : Int)).toNat]? = some (.ref ay) := by rw [show (-1 + ((ia.map Value.ref).length : Int)).toNat = ks.length by simp; omega]; exact ey1
        have hbl := bv_handed (B := B) (i := links.getD iy (-1))
        repeat walk_at "W"
        refine gItemNeg (by assumption) (by walk_at "H") (by decide) (by decide) (by simp; omega) e1 ?_
        repeat walk_at "W"
        refine isBv (by assumption) (L.le (fun p hp => .tail _ hp)) (linkRange L iy hBpos) hn ?_
        repeat walk_at "W"
        have hko : kidOk lens links d (.leaf i0) ks nb ks.length = decide (links.getD iy (-1) = nb) := by
          unfold kidOk
          rw [ey, due_last rfl]
          rfl
        refine gCallMeth (by assumption) (by walk_at "H") (assertB (O'.le (by omega) (by omega)) hh' (by assumption) (.inl rfl) (fun hb s S => ?_) (fun hb e s X => ?_))
        · show Xn _ _ _ _ _ _ _ _
          repeat walk_at "W"
          refine ret (chk_true h0 all2 h3 fun j hj => ?_) _ (Sg.sub (by assumption) (by walk_at "Q"))
          by_cases hji : j < ks.length
          · exact j6 j hji
          · have : j = ks.length := by omega
            rw [this, hko]; exact hb
        · exact gx_intro X fun s'' X'' => exc (chk_false4 (j := ks.length) (by omega) (by rw [hko]; exact hb)) e s'' (X''.sub (by walk_at "Q"))
    · -- nodes below
      have hbk := bv_handed (B := B) (i := k.first)
      repeat walk_at "W"
      refine isBv (by assumption) (L.le (fun p hp => .tail _ hp)) hf hf0 ?_
      repeat walk_at "W"
      refine gCallMeth (by assumption) (by walk_at "H") (assertB (O'.le (by omega) (by omega)) hh' (by assumption) (.inl rfl) (fun hb s S => ?_) (fun hb e s X => ?_))
      rotate_left
      · exact gx_intro X fun s'' X'' => exc (chk_false3 (by simpa using hb)) e s'' (X''.sub (by walk_at "Q"))
      have h3 : f = k.first := by simpa using hb
      show Xn _ _ _ _ _ _ _ _
      repeat walk_at "W"
      refine gIterRange (N := ks.length) (by assumption) (by assumption) (by omega) (by simp; omega) (by simp; omega) ?_
      intro it s S
      refine gFor (srcRange hh') (fun i m' G' => ∃ q, m'.lookup (Str.ofString "self") = some (.ref x) ∧ m'.lookup (Str.ofString "data") = some (.ref l) ∧ m'.lookup (Str.ofString "nextbucket") = some (bv B nb) ∧
        G' = (q, .raw (methodObj (.ref 834) (.ref x))) :: G ∧ ∀ (j : Nat), j < i → kidOk lens links d k ks nb j = true) (fun _ _ _ _ => trivial) ?_ ?_ S ⟨_, by walk_at "V", by walk_at "V", by walk_at "V", rfl, fun j hj => absurd hj (Nat.not_lt_zero _)⟩
      · rintro i v m' G' s hi ⟨tk, rfl⟩ ⟨q, j1, j2, j5, rfl, j6⟩ S
        obtain ⟨y, ey⟩ : ∃ y, (k :: ks)[i]? = some y := ⟨_, List.getElem?_eq_getElem (by simp; omega)⟩
        obtain ⟨z, ez⟩ : ∃ z, (k :: ks)[i + 1]? = some z := ⟨_, List.getElem?_eq_getElem (by simp; omega)⟩
        obtain ⟨ay, by', Cy, fy, ey1, ⟨kvy, oy⟩, ty, ⟨oby, ky⟩, ry, sy⟩ := kidItem i y ey
        obtain ⟨az, bz, Cz, fz, ez1, ⟨kvz, oz⟩, tz, ⟨obz, kz⟩, rz, sz⟩ := kidItem (i + 1) z ez
        rcases ky with ⟨q1, _⟩ | ⟨_, rfl, v1y, v2y, ly, iay, rfl, y2, y3, y4⟩
        · rw [q1, kl] at sy; cases sy
        rcases kz with ⟨q1, _⟩ | ⟨_, rfl, v1z, v2z, lz, iaz, rfl, z2, z3, z4⟩
        · rw [q1, kl] at sz; cases sz
        have e1 : (ia.map Value.ref)[(0 + (i : Int)).toNat]? = some (.ref ay) := by rw [show (0 + (i : Int)).toNat = i by omega]; exact ey1
        have e2 : (ia.map Value.ref)[(0 + (i : Int) + 1).toNat]? = some (.ref az) := by rw [show (0 + (i : Int) + 1).toNat = i + 1 by omega]; exact ez1
        have hbl := bv_handed (B := B) (i := z.first)
        cases y with
        | leaf iy => rw [kl] at sy; cases sy
        | node fy ksy =>
        have hko : kidOk lens links d k ks nb i = chk lens links d (.node fy ksy) z.first := by
          unfold kidOk
          rw [ey, due_next ez]
          simp only [kl]
          rfl
        repeat walk_at "W"
        refine call_of (ih (.inl rfl) (O'.le (by omega) (by omega)) hh' (by assumption) (L.le (fun p hp => .tail _ (.tail _ hp))) (ty.le (fun p hp => .tail _ (.tail _ hp))) rz (fun hb s S => ?_) (fun hb e s X => ?_))
        · show Xn _ _ _ _ _ _ _ _
          repeat walk_at "W"
          refine ⟨_, _, ?_, by assumption⟩
          refine ⟨q, by walk_at "V", by walk_at "V", by walk_at "V", rfl, fun j hj => ?_⟩
          by_cases hji : j < i
          · exact j6 j hji
          · have : j = i := by omega
            subst this
            rw [hko]; exact hb
        · exact gNoted O' X fun s X => lr_err (gCameBack X rfl fun s X => gx_intro X fun s'' X'' => exc (chk_false4 (j := i) (by omega) (by rw [hko]; exact hb)) e s'' (X''.sub (by walk_at "Q")))
      · rintro m' G' s ⟨q, j1, j2, j5, rfl, j6⟩ S
        obtain ⟨y, ey⟩ : ∃ y, (k :: ks)[ks.length]? = some y := ⟨_, List.getElem?_eq_getElem (by simp)⟩
        obtain ⟨ay, by', Cy, fy, ey1, ⟨kvy, oy⟩, ty, ⟨oby, ky⟩, ry, sy⟩ := kidItem ks.length y ey
        rcases ky with ⟨q1, _⟩ | ⟨_, rfl, v1y, v2y, ly, iay, rfl, y2, y3, y4⟩
        · rw [q1, kl] at sy; cases sy
        have e1 : (ia.map Value.ref)[(-1 + ((ia.map Value.ref).length : Int)).toNat]? = some (.ref ay) := by rw [show (-1 + ((ia.map Value.ref).length : Int)).toNat = ks.length by simp; omega]; exact ey1
        cases y with
        | leaf iy => rw [kl] at sy; cases sy
        | node fy ksy =>
        have hko : kidOk lens links d k ks nb ks.length = chk lens links d (.node fy ksy) nb := by
          unfold kidOk
          rw [ey, due_last rfl]
          simp only [kl]
          rfl
        repeat walk_at "W"
        refine gItemNeg (by assumption) (by walk_at "H") (by decide) (by decide) (by simp; omega) e1 ?_
        repeat walk_at "W"
        refine call_of (ih (.inl rfl) (O'.le (by omega) (by omega)) hh' (by assumption) (L.le (fun p hp => .tail _ hp)) (ty.le (fun p hp => .tail _ hp)) hn (fun hb s S => ?_) (fun hb e s X => ?_))
        · show Xn _ _ _ _ _ _ _ _
          repeat walk_at "W"
          refine ret (chk_true h0 all2 h3 fun j hj => ?_) _ (Sg.sub (by assumption) (by walk_at "Q"))
          by_cases hji : j < ks.length
          · exact j6 j hji
          · have : j = ks.length := by omega
            rw [this, hko]; exact hb
        · exact gx_intro X fun s'' X'' => exc (chk_false4 (j := ks.length) (by omega) (by rw [hko]; exact hb)) e s'' (X''.sub (by walk_at "Q"))
def CkSpec_TreeSet (prog : Program) (w : World) (T : Tp) (B : List Addr) (lens : List Nat) (links : List Int) (d : Nat) : Prop :=
  ∀ {A : Around} {c : Cx} {m : Loc} {G : Hp} {s : Shared} {R : Result → Shared → Prop} {x : Addr} {f : Int} {ks : List Sh} {nb : Int} {args : Args}, (args = ⟨[.ref x, bv B nb], []⟩ ∨ (args = ⟨[.ref x], []⟩ ∧ nb < 0)) → Ok (Mine.hd.heap_39 w.params) T A c (20 * d + 20) (100 * d + 100) → A.handled = none → Sg c m G s →
    LeavesAt G 599 B lens links → TreeAt G 1000 618 B d (.node f ks) x → (-1 ≤ nb ∧ nb < B.length) →
    (ret : chk lens links d (.node f ks) nb = true → ∀ s', Sg c m G s' → R (.ok (.ret .none)) s') →
    (exc : chk lens links d (.node f ks) nb = false → ∀ e s', Xg c m G e (.type "AssertionError") .fly s' → R (.error (.ref e)) s') →
    codeAny (model prog w) A (.call (.ref 842) args) R s
theorem ck_TreeSet {B : List Addr} {lens : List Nat} {links : List Int} {d : Nat} (ih : CkSpec_TreeSet prog w T B lens links d) : CkSpec_TreeSet prog w T B lens links (d + 1) := by
  intro A c m G s R x f ks nb args ha O hh S L X hn ret exc
  obtain ⟨l, v1, v2, ia, kids, o1, o2, n1, n2, n3, o3, hf, hk⟩ := X
  have hbf := bv_handed (B := B) (i := f)
  have hbn := bv_handed (B := B) (i := nb)
  refine' gFn (binds := [(Str.ofString "self", .ref x), (Str.ofString "nextbucket", bv B nb)]) (O.le (d' := 20 * d + 40) (u' := 100 * d + 200) (by omega) (by omega)) S (by k_is) (by k_is) (fun X => by rcases ha with rfl | ⟨rfl, hb⟩; exact binds_K X rfl (by k_is) rfl rfl rfl; rw [bv_neg hb]; exact binds_K X rfl (by k_is) rfl rfl rfl) (locs rfl) (fun A' outer' fr' L' s O' hA' S => ?_) (by rfl) (by rfl) (by rfl) (by decide)
  have hh' : A'.handled = none := hA'.trans hh
  cases ks with
  | nil =>
    have hia : ia = [] := List.eq_nil_of_length_eq_zero (by simp only [List.length_nil] at n2; omega)
    subst hia
    repeat walk_at "W"
    refine bvNone hf ?_
    repeat walk_at "W"
    refine gCallMeth (by assumption) (by walk_at "H") (assertB (O'.le (by omega) (by omega)) hh' (by assumption) (.inl rfl) (fun hb s S => ?_) (fun hb e s X => ?_))
    · have hb' : chk lens links (d + 1) (.node f []) nb = true := hb
      show Xn _ _ _ _ _ _ _ _
      repeat walk_at "W"
      exact ret hb' _ (Sg.sub (by assumption) (by walk_at "Q"))
    · have hb' : chk lens links (d + 1) (.node f []) nb = false := hb
      exact gx_intro X fun s'' X'' => exc hb' e s'' (X''.sub (by walk_at "Q"))
  | cons k ks =>
    have hia : ia.length = ks.length + 1 := by simp only [List.length_cons] at n2; omega
    have hgen : ∀ (i : Nat) x, (k :: ks)[i]? = some x → ∃ a, ∃ p : Value × Addr, ia[i]? = some a ∧ (a, AO.inst 618 (itF p.1 (.ref p.2))) ∈ G ∧ TreeAt G 1000 618 B d x p.2 := by
      intro i x hx
      obtain ⟨p, hp, ht⟩ := hk i x hx
      have lt : i < ia.length := by
        rcases Nat.lt_or_ge i kids.length with q | q
        · omega
        · rw [List.getElem?_eq_none q] at hp; cases hp
      exact ⟨ia[i], p, List.getElem?_eq_getElem lt, o3 _ (itH_mem (List.getElem?_eq_getElem lt) hp), ht⟩
    obtain ⟨a0, p0, ea0, ia0, t0⟩ := hgen 0 k rfl
    obtain ⟨⟨C0, fs0, kc0⟩, hf0⟩ := kidCell L t0
    have oc0 := kc0.1
    have item0 : (ia.map Value.ref)[(0 : Int).toNat]? = some (.ref a0) := item_at ea0
    have hne : (!(ia.map Value.ref).isEmpty) = true := by cases ia with | nil => simp at hia | cons _ _ => rfl
    repeat walk_at "W"
    refine iff_ (by rw [hne]; rfl) ?_
    repeat walk_at "W"
    refine bvSome hf ?_
    repeat walk_at "W"
    refine gCallMeth (by assumption) (by walk_at "H") (assertB (O'.le (by omega) (by omega)) hh' (by assumption) (.inl rfl) (fun hb s S => ?_) (fun hb e s X => ?_))
    rotate_left
    · exact gx_intro X fun s'' X'' => exc (chk_false1 (by simpa using hb)) e s'' (X''.sub (by walk_at "Q"))
    have h0 : 0 ≤ f := by simpa using hb
    show Xn _ _ _ _ _ _ _ _
    repeat walk_at "W"
    refine gIterList (by assumption) (by walk_at "H") ?_
    intro it s S
    refine gFor (srcList (l := l) (xs := ia.map Value.ref) hh') (fun i m' G' => ∃ q, m'.lookup (Str.ofString "self") = some (.ref x) ∧ m'.lookup (Str.ofString "data") = some (.ref l) ∧ m'.lookup (Str.ofString "assert_") = some (.ref q) ∧ m'.lookup (Str.ofString "child_class") = some (.ref C0) ∧ m'.lookup (Str.ofString "nextbucket") = some (bv B nb) ∧
      G' = (q, .raw (methodObj (.ref 834) (.ref x))) :: G ∧ ∀ (j : Nat) y, j < i → (k :: ks)[j]? = some y → kidSame lens k y = true) ?_ ?_ ?_ S ⟨_, by walk_at "V", by walk_at "V", by walk_at "V", by walk_at "V", by walk_at "V", rfl, fun j y hj => absurd hj (Nat.not_lt_zero _)⟩
    · rintro i m' G' ⟨q, j1, j2, j3, j4, j5, rfl, j6⟩; exact .tail _ o2
    · rintro i v m' G' s hi hv ⟨q, j1, j2, j3, j4, j5, rfl, j6⟩ S
      obtain ⟨y, ey⟩ : ∃ y, (k :: ks)[i]? = some y := ⟨_, List.getElem?_eq_getElem (by simp at hi ⊢; omega)⟩
      obtain ⟨a, p, ea, oa, ty⟩ := hgen i y ey
      have : v = .ref a := by rw [item_at ea] at hv; exact (Option.some.inj hv).symm
      subst this
      obtain ⟨⟨Cy, fy, oy, hy⟩, hfy⟩ := kidCell L ty
      have hmem : y ∈ k :: ks := List.mem_of_getElem? ey
      rcases hy with ⟨yl, rfl, iy, ly, xsy, hyy, eB, f1, f2, f3, f4, f5⟩ | ⟨yl, rfl, v1y, v2y, ly, iay, rfl, f2, f3, f4⟩ <;> rcases kc0.2 with ⟨kl, rfl, -⟩ | ⟨kl, rfl, -⟩
      all_goals
        repeat walk_at "W"
        refine gCallMeth (by assumption) (by walk_at "H") (assertB (O'.le (by omega) (by omega)) hh' (by assumption) (.inl rfl) (fun hb s S => ?_) (fun hb e s X => by cases hb))
        show Xn _ _ _ _ _ _ _ _
        repeat walk_at "W"
        refine gCallMeth (by assumption) (by walk_at "H") (assertB (O'.le (by omega) (by omega)) hh' (by assumption) (.inl rfl) (fun hb s S => ?_) (fun hb e s X => ?_))
        rotate_left
        · first
            | exact absurd hb (by decide)
            | exact gNoted O' X fun s X => lr_err (gCameBack X rfl fun s X => gx_intro X fun s'' X'' => exc (chk_false2 hmem (by simp [kidSame, yl, kl])) e s'' (X''.sub (by walk_at "Q")))
      rotate_left
      · exact absurd hb (by decide)
      · exact absurd hb (by decide)
      · show Xn _ _ _ _ _ _ _ _
        repeat walk_at "W"
        refine sizeTree (C := 1000) (O'.le (by omega) (by omega)).in1 (by assumption) (by decide) (by walk_at "H") (by walk_at "H") (by simp; omega) (fun tk s S => ?_)
        refine handed_on rfl ?_
        repeat walk_at "W"
        refine gCallMeth (by assumption) (by walk_at "H") (assertB (O'.le (by omega) (by omega)) hh' (by assumption) (.inr ⟨_, _, rfl, rfl⟩) (fun hb s S => ?_) (fun hb e s X => ?_))
        · show Xn _ _ _ _ _ _ _ _
          repeat walk_at "W"
          refine ⟨_, _, ?_, by assumption⟩
          refine ⟨q, by walk_at "V", by walk_at "V", by walk_at "V", by walk_at "V", by walk_at "V", rfl, fun j z hj ez => ?_⟩
          by_cases hji : j < i
          · exact j6 j z hji ez
          · have : j = i := by omega
            subst this
            rw [ey] at ez; cases ez
            have hb' : ((iay.map Value.ref).length : Int) ≠ 0 := by simpa using hb
            have : 0 < y.size lens := by rw [List.length_map] at hb'; omega
            simp [kidSame, yl, kl, this]
        · exact gNoted O' X fun s X => lr_err (gCameBack X rfl fun s X => gx_intro X fun s'' X'' => exc (chk_false2 hmem (by have hb' : ((iay.map Value.ref).length : Int) = 0 := (by simpa using hb); have : y.size lens = 0 := (by rw [List.length_map] at hb'; omega); simp [kidSame, this])) e s'' (X''.sub (by walk_at "Q")))
      · show Xn _ _ _ _ _ _ _ _
        repeat walk_at "W"
        refine sizeLeaf (C := 599) (O'.le (by omega) (by omega)).in1 (by assumption) (by decide) (by walk_at "H") f1 (by walk_at "H") (by omega) (fun tk s S => ?_)
        refine handed_on rfl ?_
        repeat walk_at "W"
        refine gCallMeth (by assumption) (by walk_at "H") (assertB (O'.le (by omega) (by omega)) hh' (by assumption) (.inr ⟨_, _, rfl, rfl⟩) (fun hb s S => ?_) (fun hb e s X => ?_))
        · show Xn _ _ _ _ _ _ _ _
          repeat walk_at "W"
          refine ⟨_, _, ?_, by assumption⟩
          refine ⟨q, by walk_at "V", by walk_at "V", by walk_at "V", by walk_at "V", by walk_at "V", rfl, fun j z hj ez => ?_⟩
          by_cases hji : j < i
          · exact j6 j z hji ez
          · have : j = i := by omega
            subst this
            rw [ey] at ez; cases ez
            have hb' : (xsy.length : Int) ≠ 0 := by simpa using hb
            have : 0 < y.size lens := by omega
            simp [kidSame, yl, kl, this]
        · exact gNoted O' X fun s X => lr_err (gCameBack X rfl fun s X => gx_intro X fun s'' X'' => exc (chk_false2 hmem (by have hb' : (xsy.length : Int) = 0 := (by simpa using hb); have : y.size lens = 0 := (by omega); simp [kidSame, this])) e s'' (X''.sub (by walk_at "Q")))
    rintro m' G' s ⟨q, j1, j2, j3, j4, j5, rfl, j6⟩ S
    have all2 : ∀ y ∈ k :: ks, kidSame lens k y = true := by
      intro y hy
      obtain ⟨i, hi, rfl⟩ := List.mem_iff_getElem.mp hy
      exact j6 i _ (by simp at hi ⊢; omega) (List.getElem?_eq_getElem hi)
    have kidItem : ∀ (i : Nat) y, (k :: ks)[i]? = some y → ∃ a b Cy fy, (ia.map Value.ref)[i]? = some (.ref a) ∧ (∃ kv, (a, AO.inst 618 (itF kv (.ref b))) ∈ G) ∧ TreeAt G 1000 618 B d y b ∧ KidCell G 1000 599 B lens links y b Cy fy ∧ (-1 ≤ y.first ∧ y.first < B.length) ∧ y.isLeaf = k.isLeaf := by
      intro i y ey
      obtain ⟨a, p, ea, oa, ty⟩ := hgen i y ey
      obtain ⟨⟨Cy, fy, ky⟩, hfy⟩ := kidCell L ty
      refine ⟨a, p.2, Cy, fy, item_at ea, ⟨_, oa⟩, ty, ky, hfy, ?_⟩
      have := all2 y (List.mem_of_getElem? ey)
      simp only [kidSame, Bool.and_eq_true, beq_iff_eq] at this
      exact this.1
    have hBpos : 0 < B.length := by omega
    have hks : ks.length ≤ 39 := by simp at n3; omega
    rcases kc0.2 with ⟨kl, rfl, i0, l0, xs0, rfl, eB, g1, g2, g3, g4, g5⟩ | ⟨kl, rfl, w1, w2, l0, ia0, rfl, g2, g3, g4⟩
    · -- leaves below
      repeat walk_at "W"
      refine isBvE (by assumption) (L.le (fun p hp => .tail _ hp)) hf (j := (i0 : Int)) hf0 (bv_at eB).1 ?_
      repeat walk_at "W"
      refine gCallMeth (by assumption) (by walk_at "H") (assertB (O'.le (by omega) (by omega)) hh' (by assumption) (.inl rfl) (fun hb s S => ?_) (fun hb e s X => ?_))
      rotate_left
      · exact gx_intro X fun s'' X'' => exc (chk_false3 (by simpa [Sh.first] using hb)) e s'' (X''.sub (by walk_at "Q"))
      have h3 : f = (Sh.leaf i0).first := by simpa [Sh.first] using hb
      show Xn _ _ _ _ _ _ _ _
      repeat walk_at "W"
      refine gIterRange (N := ks.length) (by assumption) (by assumption) (by omega) (by simp; omega) (by simp; omega) ?_
      intro it s S
      refine gFor (srcRange hh') (fun i m' G' => ∃ q, m'.lookup (Str.ofString "self") = some (.ref x) ∧ m'.lookup (Str.ofString "data") = some (.ref l) ∧ m'.lookup (Str.ofString "assert_") = some (.ref q) ∧ m'.lookup (Str.ofString "nextbucket") = some (bv B nb) ∧
        G' = (q, .raw (methodObj (.ref 834) (.ref x))) :: G ∧ ∀ (j : Nat), j < i → kidOk lens links d (.leaf i0) ks nb j = true) (fun _ _ _ _ => trivial) ?_ ?_ S ⟨_, by walk_at "V", by walk_at "V", by walk_at "V", by walk_at "V", rfl, fun j hj => absurd hj (Nat.not_lt_zero _)⟩
      · rintro i v m' G' s hi ⟨tk, rfl⟩ ⟨q, j1, j2, j3, j5, rfl, j6⟩ S
        obtain ⟨y, ey⟩ : ∃ y, (Sh.leaf i0 :: ks)[i]? = some y := ⟨_, List.getElem?_eq_getElem (by simp; omega)⟩
        obtain ⟨z, ez⟩ : ∃ z, (Sh.leaf i0 :: ks)[i + 1]? = some z := ⟨_, List.getElem?_eq_getElem (by simp; omega)⟩
        obtain ⟨ay, by', Cy, fy, ey1, ⟨kvy, oy⟩, ty, ⟨oby, ky⟩, ry, sy⟩ := kidItem i y ey
        obtain ⟨az, bz, Cz, fz, ez1, ⟨kvz, oz⟩, tz, ⟨obz, kz⟩, rz, sz⟩ := kidItem (i + 1) z ez
        rcases ky with ⟨_, rfl, iy, ly, xsy, rfl, eBy, y1, y2, y3, y4, y5⟩ | ⟨q1, _⟩
        rotate_left
        · rw [q1, kl] at sy; cases sy
        rcases kz with ⟨_, rfl, iz, lz, xsz, rfl, eBz, z1, z2, z3, z4, z5⟩ | ⟨q1, _⟩
        rotate_left
        · rw [q1, kl] at sz; cases sz
        have e1 : (ia.map Value.ref)[(0 + (i : Int)).toNat]? = some (.ref ay) := by rw [show (0 + (i : Int)).toNat = i by omega]; exact ey1
        have e2 : (ia.map Value.ref)[(0 + (i : Int) + 1).toNat]? = some (.ref az) := by rw [show (0 + (i : Int) + 1).toNat = i + 1 by omega]; exact ez1
        have hbl := bv_handed (B := B) (i := links.getD iy (-1))
        repeat walk_at "W"
        refine isBvE (by assumption) (L.le (fun p hp => .tail _ (.tail _ hp))) (linkRange L iy hBpos) (j := (iz : Int)) rz (bv_at eBz).1 ?_
        repeat walk_at "W"
        have hko : kidOk lens links d (.leaf i0) ks nb i = decide (links.getD iy (-1) = (iz : Int)) := by
          unfold kidOk
          rw [ey, due_next ez]
          rfl
        refine gCallMeth (by assumption) (by walk_at "H") (assertB (O'.le (by omega) (by omega)) hh' (by assumption) (.inl rfl) (fun hb s S => ?_) (fun hb e s X => ?_))
        · show Xn _ _ _ _ _ _ _ _
          repeat walk_at "W"
          refine ⟨_, _, ?_, by assumption⟩
          refine ⟨q, by walk_at "V", by walk_at "V", by walk_at "V", by walk_at "V", rfl, fun j hj => ?_⟩
          by_cases hji : j < i
          · exact j6 j hji
          · have : j = i := by omega
            subst this
            rw [hko]; exact hb
        · exact gNoted O' X fun s X => lr_err (gCameBack X rfl fun s X => gx_intro X fun s'' X'' => exc (chk_false4 (j := i) (by omega) (by rw [hko]; exact hb)) e s'' (X''.sub (by walk_at "Q")))
      · rintro m' G' s ⟨q, j1, j2, j3, j5, rfl, j6⟩ S
        obtain ⟨y, ey⟩ : ∃ y, (Sh.leaf i0 :: ks)[ks.length]? = some y := ⟨_, List.getElem?_eq_getElem (by simp)⟩
        obtain ⟨ay, by', Cy, fy, ey1, ⟨kvy, oy⟩, ty, ⟨oby, ky⟩, ry, sy⟩ := kidItem ks.length y ey
        rcases ky with ⟨_, rfl, iy, ly, xsy, rfl, eBy, y1, y2, y3, y4, y5⟩ | ⟨q1, _⟩
        rotate_left
        · rw [q1, kl] at sy; cases sy
        have e1 : (ia.map Value.ref)[(-1 + ((ia.map Value.ref).length : Int)).toNat]? = some (.ref ay) := by rw [show (-1 + ((ia.map Value.ref).length : Int)).toNat = ks.length by simp; omega]; exact ey1
        have hbl := bv_handed (B := B) (i := links.getD iy (-1))
        repeat walk_at "W"
        refine gItemNeg (by assumption) (by walk_at "H") (by decide) (by decide) (by simp; omega) e1 ?_
        repeat walk_at "W"
        refine isBv (by assumption) (L.le (fun p hp => .tail _ hp)) (linkRange L iy hBpos) hn ?_
        repeat walk_at "W"
        have hko : kidOk lens links d (.leaf i0) ks nb ks.length = decide (links.getD iy (-1) = nb) := by
          unfold kidOk
          rw [ey, due_last rfl]
          rfl
        refine gCallMeth (by assumption) (by walk_at "H") (assertB (O'.le (by omega) (by omega)) hh' (by assumption) (.inl rfl) (fun hb s S => ?_) (fun hb e s X => ?_))
        · show Xn _ _ _ _ _ _ _ _
          repeat walk_at "W"
          refine ret (chk_true h0 all2 h3 fun j hj => ?_) _ (Sg.sub (by assumption) (by walk_at "Q"))
          by_cases hji : j < ks.length
          · exact j6 j hji
          · have : j = ks.length := by omega
            rw [this, hko]; exact hb
        · exact gx_intro X fun s'' X'' => exc (chk_false4 (j := ks.length) (by omega) (by rw [hko]; exact hb)) e s'' (X''.sub (by walk_at "Q"))
    · -- nodes below
      have hbk := bv_handed (B := B) (i := k.first)
      repeat walk_at "W"
      refine isBv (by assumption) (L.le (fun p hp => .tail _ hp)) hf hf0 ?_
      repeat walk_at "W"
      refine gCallMeth (by assumption) (by walk_at "H") (assertB (O'.le (by omega) (by omega)) hh' (by assumption) (.inl rfl) (fun hb s S => ?_) (fun hb e s X => ?_))
      rotate_left
      · exact gx_intro X fun s'' X'' => exc (chk_false3 (by simpa using hb)) e s'' (X''.sub (by walk_at "Q"))
      have h3 : f = k.first := by simpa using hb
      show Xn _ _ _ _ _ _ _ _
      repeat walk_at "W"
      refine gIterRange (N := ks.length) (by assumption) (by assumption) (by omega) (by simp; omega) (by simp; omega) ?_
      intro it s S
      refine gFor (srcRange hh') (fun i m' G' => ∃ q, m'.lookup (Str.ofString "self") = some (.ref x) ∧ m'.lookup (Str.ofString "data") = some (.ref l) ∧ m'.lookup (Str.ofString "nextbucket") = some (bv B nb) ∧
        G' = (q, .raw (methodObj (.ref 834) (.ref x))) :: G ∧ ∀ (j : Nat), j < i → kidOk lens links d k ks nb j = true) (fun _ _ _ _ => trivial) ?_ ?_ S ⟨_, by walk_at "V", by walk_at "V", by walk_at "V", rfl, fun j hj => absurd hj (Nat.not_lt_zero _)⟩
      · rintro i v m' G' s hi ⟨tk, rfl⟩ ⟨q, j1, j2, j5, rfl, j6⟩ S
        obtain ⟨y, ey⟩ : ∃ y, (k :: ks)[i]? = some y := ⟨_, List.getElem?_eq_getElem (by simp; omega)⟩
        obtain ⟨z, ez⟩ : ∃ z, (k :: ks)[i + 1]? = some z := ⟨_, List.getElem?_eq_getElem (by simp; omega)⟩
        obtain ⟨ay, by', Cy, fy, ey1, ⟨kvy, oy⟩, ty, ⟨oby, ky⟩, ry, sy⟩ := kidItem i y ey
        obtain ⟨az, bz, Cz, fz, ez1, ⟨kvz, oz⟩, tz, ⟨obz, kz⟩, rz, sz⟩ := kidItem (i + 1) z ez
        rcases ky with ⟨q1, _⟩ | ⟨_, rfl, v1y, v2y, ly, iay, rfl, y2, y3, y4⟩
        · rw [q1, kl] at sy; cases sy
        rcases kz with ⟨q1, _⟩ | ⟨_, rfl, v1z, v2z, lz, iaz, rfl, z2, z3, z4⟩
        · rw [q1, kl] at sz; cases sz
        have e1 : (ia.map Value.ref)[(0 + (i : Int)).toNat]? = some (.ref ay) := by rw [show (0 + (i : Int)).toNat = i by omega]; exact ey1
        have e2 : (ia.map Value.ref)[(0 + (i : Int) + 1).toNat]? = some (.ref az) := by rw [show (0 + (i : Int) + 1).toNat = i + 1 by omega]; exact ez1
        have hbl := bv_handed (B := B) (i := z.first)
        cases y with
        | leaf iy => rw [kl] at sy; cases sy
        | node fy ksy =>
        have hko : kidOk lens links d k ks nb i = chk lens links d (.node fy ksy) z.first := by
          unfold kidOk
          rw [ey, due_next ez]
          simp only [kl]
          rfl
        repeat walk_at "W"
        refine call_of (ih (.inl rfl) (O'.le (by omega) (by omega)) hh' (by assumption) (L.le (fun p hp => .tail _ (.tail _ hp))) (ty.le (fun p hp => .tail _ (.tail _ hp))) rz (fun hb s S => ?_) (fun hb e s X => ?_))
        · show Xn _ _ _ _ _ _ _ _
          repeat walk_at "W"
          refine ⟨_, _, ?_, by assumption⟩
          refine ⟨q, by walk_at "V", by walk_at "V", by walk_at "V", rfl, fun j hj => ?_⟩
          by_cases hji : j < i
          · exact j6 j hji
          · have : j = i := by omega
            subst this
            rw [hko]; exact hb
        · exact gNoted O' X fun s X => lr_err (gCameBack X rfl fun s X => gx_intro X fun s'' X'' => exc (chk_false4 (j := i) (by omega) (by rw [hko]; exact hb)) e s'' (X''.sub (by walk_at "Q")))
      · rintro m' G' s ⟨q, j1, j2, j5, rfl, j6⟩ S
        obtain ⟨y, ey⟩ : ∃ y, (k :: ks)[ks.length]? = some y := ⟨_, List.getElem?_eq_getElem (by simp)⟩
        obtain ⟨ay, by', Cy, fy, ey1, ⟨kvy, oy⟩, ty, ⟨oby, ky⟩, ry, sy⟩ := kidItem ks.length y ey
        rcases ky with ⟨q1, _⟩ | ⟨_, rfl, v1y, v2y, ly, iay, rfl, y2, y3, y4⟩
        · rw [q1, kl] at sy; cases sy
        have e1 : (ia.map Value.ref)[(-1 + ((ia.map Value.ref).length : Int)).toNat]? = some (.ref ay) := by rw [show (-1 + ((ia.map Value.ref).length : Int)).toNat = ks.length by simp; omega]; exact ey1
        cases y with
        | leaf iy => rw [kl] at sy; cases sy
        | node fy ksy =>
        have hko : kidOk lens links d k ks nb ks.length = chk lens links d (.node fy ksy) nb := by
          unfold kidOk
          rw [ey, due_last rfl]
          simp only [kl]
          rfl
        repeat walk_at "W"
        refine gItemNeg (by assumption) (by walk_at "H") (by decide) (by decide) (by simp; omega) e1 ?_
        repeat walk_at "W"
        refine call_of (ih (.inl rfl) (O'.le (by omega) (by omega)) hh' (by assumption) (L.le (fun p hp => .tail _ hp)) (ty.le (fun p hp => .tail _ hp)) hn (fun hb s S => ?_) (fun hb e s X => ?_))
        · show Xn _ _ _ _ _ _ _ _
          repeat walk_at "W"
          refine ret (chk_true h0 all2 h3 fun j hj => ?_) _ (Sg.sub (by assumption) (by walk_at "Q"))
          by_cases hji : j < ks.length
          · exact j6 j hji
          · have : j = ks.length := by omega
            rw [this, hko]; exact hb
        · exact gx_intro X fun s'' X'' => exc (chk_false4 (j := ks.length) (by omega) (by rw [hko]; exact hb)) e s'' (X''.sub (by walk_at "Q"))
end
end

section
theorem inter_snoc {k v : Value} : ∀ {ks vs : List Value}, ks.length = vs.length → inter (ks ++ [k]) (vs ++ [v]) = inter ks vs ++ [k] ++ [v]
  | [], [], _ => rfl
  | a :: ks, b :: vs, h => by simp only [List.cons_append, inter]; rw [inter_snoc (by simpa using h)]
section
variable {prog : Program} {w : World} {T : Tp} {A : Around} {c : Cx} {m : Loc} {G : Hp} {s : Shared} {R : Result → Shared → Prop}
theorem lawRow {kl : Addr} {mp : Bool} {kv : List Value} (O : Ok (Mine.hd.heap_39 w.params) T A c 4 30) (hh : A.handled = none) (S : Sg c m G s) (hk : (kl, .list kv) ∈ G) (hz : kv.length ≤ 100) (hi : ∀ v ∈ kv, ∃ n tk, v = .int n tk)
  (ret : ∀ r row s', Sg c m ((r, .raw (tupO row)) :: G) s' → (mp = true → ∃ vs, kv.length = vs.length ∧ row = inter kv vs) → (mp = false → row = kv) → R (.ok (.ret (.ref r))) s') :
  codeAny (model prog w) A (.call (.ref 1039) ⟨[.bool mp, .ref kl], []⟩) R s := by
  refine' gFn (binds := [(Str.ofString "mapping", .bool mp), (Str.ofString "keys", .ref kl)]) O S (by k_is) (by k_is) (by walk_at "FB") (locs rfl) (fun A' outer' fr' L' s O' hA' S => ?_) (by rfl) (by rfl) (by rfl) (by decide)
  have hh' : A'.handled = none := hA'.trans hh
  repeat walk_at "W"
  rename_i r _ _ _ _
  refine gIterList (by assumption) (by walk_at "H") ?_
  intro it s S
  refine gFor (srcList (l := kl) (xs := kv) hh') (fun i m' G' => m'.lookup (Str.ofString "mapping") = some (.bool mp) ∧ m'.lookup (Str.ofString "row") = some (.ref r) ∧
    ∃ row, G' = (r, .list row) :: G ∧ (mp = true → ∃ vs, (kv.take i).length = vs.length ∧ row = inter (kv.take i) vs) ∧ (mp = false → row = kv.take i)) ?_ ?_ ?_ S ⟨by walk_at "V", by walk_at "V", [], rfl, fun _ => ⟨[], rfl, rfl⟩, fun _ => rfl⟩
  · rintro i m' G' ⟨j1, j2, row, rfl, j3, j4⟩; exact .tail _ hk
  · rintro i v m' G' s hlt hv ⟨j1, j2, row, rfl, j3, j4⟩ S
    obtain ⟨n, tk, rfl⟩ := hi v (List.mem_of_getElem? hv)
    have hrow : row.length ≤ 200 := by
      cases mp with
      | true => obtain ⟨vs, h1, rfl⟩ := j3 rfl; rw [inter_len h1]; simp; omega
      | false => rw [j4 rfl]; simp; omega
    cases mp with
    | true =>
      repeat walk_at "W"
      obtain ⟨vs, h1, rfl⟩ := j3 rfl
      refine ⟨_, _, ?_, by assumption⟩
      refine ⟨by walk_at "V", by walk_at "V", _, rfl, fun _ => ⟨_, ?_, by rw [take_snoc hv, inter_snoc h1]⟩, fun h => (by cases h)⟩
      rw [take_snoc hv, List.length_append, List.length_append, h1]; rfl
    | false =>
      repeat walk_at "W"
      refine ⟨_, _, ?_, by assumption⟩
      exact ⟨by walk_at "V", by walk_at "V", _, rfl, fun h => (by cases h), fun _ => by rw [j4 rfl, take_snoc hv]⟩
  · rintro m' G' s ⟨j1, j2, row, rfl, j3, j4⟩ S
    rw [List.take_length] at j3 j4
    have hrow : row.length ≤ 200 := by
      cases mp with
      | true => obtain ⟨vs, h1, rfl⟩ := j3 rfl; rw [inter_len h1]; omega
      | false => rw [j4 rfl]; omega
    repeat walk_at "W"
    exact ret _ _ _ (Sg.sub (by assumption) (by walk_at "Q")) j3 j4
theorem ckAll_Tree {B : List Addr} {lens : List Nat} {links : List Int} : ∀ d, CkSpec_Tree prog w T B lens links d
  | 0 => fun _ _ _ _ _ X _ _ _ => (show False from X).elim
  | d + 1 => ck_Tree (ckAll_Tree d)
theorem lawRefused_Tree {B : List Addr} {lens : List Nat} {links : List Int} {d : Nat} {f : Int} {ks : List Sh} {x : Addr} (O : Ok (Mine.hd.heap_39 w.params) T A c (20 * d + 30) (100 * d + 120)) (hh : A.handled = none) (S : Sg c m G s)
  (L : LeavesAt G 452 B lens links) (X : TreeAt G 967 618 B d (.node f ks) x)
  (ret : ∀ s', Sg c m G s' → R (.ok (.ret (.bool (!chk lens links d (.node f ks) (-1))))) s') :
  codeAny (model prog w) A (.call (.ref 1060) ⟨[.ref x], []⟩) R s := by
  refine' gFn (binds := [(Str.ofString "tree", .ref x)]) O S (by k_is) (by k_is) (by walk_at "FB") (locs rfl) (fun A' outer' fr' L' s O' hA' S => ?_) (by rfl) (by rfl) (by rfl) (by decide)
  have hh' : A'.handled = none := hA'.trans hh
  have hx : ∃ l v1 v2, (x, AO.inst 967 (treF v1 v2 l (bv B f))) ∈ G := by
    cases d with
    | zero => exact X.elim
    | succ d => obtain ⟨l, v1, v2, ia, kids, h1, _⟩ := X; exact ⟨l, v1, v2, h1⟩
  obtain ⟨l, v1, v2, hx⟩ := hx
  repeat walk_at "W"
  refine call_of (ckAll_Tree d (.inr ⟨rfl, by decide⟩) (O'.le (by omega) (by omega)) hh' (by assumption) L X (nb := -1) (by omega) (fun hb s S => ?_) (fun hb e s X => ?_))
  · show Xn _ _ _ _ _ _ _ _
    repeat walk_at "W"
    have := ret _ ‹_›
    rw [hb] at this
    exact this
  · refine gTryCaught (T' := "AssertionError") O' X (by rfl) (by k_is) (by first | boot_fast | boot_by_name) (by decide) (by rw [isSubtype_type]; kernel_rfl) (by rw [isSubtype_type]; kernel_rfl) (by rw [isSubtype_type]; kernel_rfl) (fun s X => ?_)
    have S := X.st
    repeat walk_at "W"
    have := ret _ ‹_›
    rw [hb] at this
    exact this
theorem ckAll_TreeSet {B : List Addr} {lens : List Nat} {links : List Int} : ∀ d, CkSpec_TreeSet prog w T B lens links d
  | 0 => fun _ _ _ _ _ X _ _ _ => (show False from X).elim
  | d + 1 => ck_TreeSet (ckAll_TreeSet d)
theorem lawRefused_TreeSet {B : List Addr} {lens : List Nat} {links : List Int} {d : Nat} {f : Int} {ks : List Sh} {x : Addr} (O : Ok (Mine.hd.heap_39 w.params) T A c (20 * d + 30) (100 * d + 120)) (hh : A.handled = none) (S : Sg c m G s)
  (L : LeavesAt G 599 B lens links) (X : TreeAt G 1000 618 B d (.node f ks) x)
  (ret : ∀ s', Sg c m G s' → R (.ok (.ret (.bool (!chk lens links d (.node f ks) (-1))))) s') :
  codeAny (model prog w) A (.call (.ref 1060) ⟨[.ref x], []⟩) R s := by
  refine' gFn (binds := [(Str.ofString "tree", .ref x)]) O S (by k_is) (by k_is) (by walk_at "FB") (locs rfl) (fun A' outer' fr' L' s O' hA' S => ?_) (by rfl) (by rfl) (by rfl) (by decide)
  have hh' : A'.handled = none := hA'.trans hh
  have hx : ∃ l v1 v2, (x, AO.inst 1000 (treF v1 v2 l (bv B f))) ∈ G := by
    cases d with
    | zero => exact X.elim
    | succ d => obtain ⟨l, v1, v2, ia, kids, h1, _⟩ := X; exact ⟨l, v1, v2, h1⟩
  obtain ⟨l, v1, v2, hx⟩ := hx
  repeat walk_at "W"
  refine call_of (ckAll_TreeSet d (.inr ⟨rfl, by decide⟩) (O'.le (by omega) (by omega)) hh' (by assumption) L X (nb := -1) (by omega) (fun hb s S => ?_) (fun hb e s X => ?_))
  · show Xn _ _ _ _ _ _ _ _
    repeat walk_at "W"
    have := ret _ ‹_›
    rw [hb] at this
    exact this
  · refine gTryCaught (T' := "AssertionError") O' X (by rfl) (by k_is) (by first | boot_fast | boot_by_name) (by decide) (by rw [isSubtype_type]; kernel_rfl) (by rw [isSubtype_type]; kernel_rfl) (by rw [isSubtype_type]; kernel_rfl) (fun s X => ?_)
    have S := X.st
    repeat walk_at "W"
    have := ret _ ‹_›
    rw [hb] at this
    exact this
end
end

section
def IntV (v : Value) (n : Int) : Prop := ∃ tk, v = .int n tk
def IntsV (kv : List Value) (ks : List Int) : Prop := kv.length = ks.length ∧ ∀ (i : Nat) n, ks[i]? = some n → ∃ tk, kv[i]? = some (.int n tk)
def NodesAt (G : Hp) (na : List Addr) (N : List Nod) : Prop := na.length = N.length ∧ ∀ (j : Nat) p, N[j]? = some p → ∃ a kl fv dv kv, na[j]? = some a ∧ (a, AO.list [fv, .ref kl, dv]) ∈ G ∧ IntV fv p.f ∧ IntV dv p.due ∧ (kl, AO.list kv) ∈ G ∧ IntsV kv p.kids
theorem NodesAt.le {G G' : Hp} {na : List Addr} {N : List Nod} (h : NodesAt G na N) (l : ∀ p ∈ G, p ∈ G') : NodesAt G' na N :=
  ⟨h.1, fun j p e => let ⟨a, kl, fv, dv, kv, h1, h2, h3, h4, h5, h6⟩ := h.2 j p e; ⟨a, kl, fv, dv, kv, h1, l _ h2, h3, h4, l _ h5, h6⟩⟩
section
variable {prog : Program} {w : World} {T : Tp}
def MadeSpec_Tree (prog : Program) (w : World) (T : Tp) (B : List Addr) (lens : List Nat) (links : List Int) (N : List Nod) (d : Nat) : Prop :=
  ∀ {A : Around} {c : Cx} {m : Loc} {G : Hp} {s : Shared} {R : Result → Shared → Prop} {X : Hp} {ml nl : Addr} {na : List Addr} {spot : Int} {tk : Tok}, Ok (Mine.hd.heap_39 w.params) T A c (20 * d + 40) (100 * d + 150) → A.handled = none → Sg c m (X ++ G) s →
    (ml, AO.list (B.map Value.ref)) ∈ G → (nl, AO.list (na.map Value.ref)) ∈ G → LeavesAt G 452 B lens links → NodesAt G na N → Vld N B.length d spot → B.length ≤ 50 → N.length ≤ 100 →
    (ret : ∀ a F s', Sg c m (X ++ (F ++ G)) s' → TreeAt (F ++ G) 967 618 B d (mk N d spot) a → R (.ok (.ret (.ref a))) s') →
    codeAny (model prog w) A (.call (.ref 1053) ⟨[.bool true, .ref ml, .ref nl, .int spot tk], []⟩) R s
theorem lawMade_Tree {B : List Addr} {lens : List Nat} {links : List Int} {N : List Nod} {d : Nat} (ih : ∀ d', d = d' + 1 → MadeSpec_Tree prog w T B lens links N d') : MadeSpec_Tree prog w T B lens links N d := by
  intro A c m G s R X ml nl na spot tk O hh S hml hnl L NA hv hB hN ret
  refine' gFn (binds := [(Str.ofString "mapping", .bool true), (Str.ofString "made", .ref ml), (Str.ofString "nodes", .ref nl), (Str.ofString "spot", .int spot tk)]) (O.le (d' := 20 * d + 39) (u' := 100 * d + 140) (by omega) (by omega)) S (by k_is) (by k_is) (by walk_at "FB") (locs rfl) (fun A' outer' fr' L' s O' hA' S => ?_) (by rfl) (by rfl) (by rfl) (by decide)
  have hh' : A'.handled = none := hA'.trans hh
  have leaf : 0 ≤ spot → spot < 100 → spot < B.length → mk N d spot = .leaf spot.toNat := by
    intro h1 h2 h3
    cases d with
    | zero => rfl
    | succ d => unfold mk; rw [if_neg (by omega), if_pos h2]
  have hv' : (spot < 0 ∧ mk N d spot = .node (-1) [] ∧ ∃ d', d = d' + 1) ∨ (0 ≤ spot ∧ spot < 100 ∧ spot < B.length) ∨ ∃ d' p, d = d' + 1 ∧ 100 ≤ spot ∧ N[(spot - 100).toNat]? = some p ∧ p.kids ≠ [] ∧ p.kids.length ≤ 30 ∧ -1 ≤ p.f ∧ p.f < B.length ∧ (∀ k ∈ p.kids, Vld N B.length d' k) ∧ mk N d spot = .node p.f (p.kids.map (mk N d')) := by
    cases d with
    | zero => exact .inr (.inl hv)
    | succ d =>
      rcases hv with h | h | ⟨p, h1, h2, h3, h4, h5, h6, h7⟩
      · exact .inl ⟨h, by unfold mk; rw [if_pos h], d, rfl⟩
      · exact .inr (.inl h)
      · exact .inr (.inr ⟨d, p, rfl, h1, h2, h3, h4, h5, h6, h7, by conv => lhs; unfold mk
                                                                    rw [if_neg (by omega), if_neg (by omega), h2]⟩)
  rcases hv' with ⟨h1, h2, d', rfl⟩ | ⟨h1, h2, h3⟩ | ⟨d', p, rfl, h1, h2, h3, h4, h5, h6, h7, h8⟩
  · have c1 : decide (spot < 0) = true := decide_eq_true h1
    repeat walk_at "W"
    refine call_of (makeTree (C := 967) (O'.le (by omega) (by omega)) (by assumption) (by decide) ?_)
    intro x l v1 v2 s S
    repeat walk_at "W"
    refine ret x [(l, .list []), (x, .inst 967 (treF v1 v2 l .none))] _ (Sg.sub (G := (l, .list []) :: (x, .inst 967 (treF v1 v2 l .none)) :: (X ++ G)) ‹_› (show Sb _ (X ++ ((l, .list []) :: (x, .inst 967 (treF v1 v2 l .none)) :: G)) from by walk_at "Q")) ?_
    rw [h2]
    exact ⟨l, v1, v2, [], [], .tail _ (by rw [bv_neg (by decide)]; exact .head _), .head _, rfl, rfl, by decide, fun p hp => (by cases hp), ⟨by decide, by omega⟩, fun i k hk => (by simp at hk)⟩
  · have c1 : decide (spot < 0) = false := decide_eq_false (by omega)
    have c2 : decide (spot < 100) = true := decide_eq_true h2
    have lt : spot.toNat < B.length := by omega
    have e1 : (B.map Value.ref)[spot.toNat]? = some (.ref B[spot.toNat]) := by rw [List.getElem?_map, List.getElem?_eq_getElem lt]; rfl
    repeat walk_at "W"
    refine ret B[spot.toNat] [] _ ‹_› ?_
    rw [leaf h1 h2 h3]
    have : B[spot.toNat]? = some B[spot.toNat] := List.getElem?_eq_getElem lt
    cases d <;> exact this
  · have c1 : decide (spot < 0) = false := decide_eq_false (by omega)
    have c2 : decide (spot < 100) = false := decide_eq_false (by omega)
    obtain ⟨a, kl, fv, dv, kv, n1, n2, ⟨tf, rfl⟩, ⟨td, rfl⟩, n5, n6, n7⟩ := NA.2 _ p h2
    have e1 : (na.map Value.ref)[(spot - 100).toNat]? = some (.ref a) := item_at n1
    have ih : MadeSpec_Tree prog w T B lens links N d' := ih d' rfl
    obtain ⟨k0, hk0⟩ : ∃ k0, p.kids[0]? = some k0 := by cases hq : p.kids with | nil => exact absurd hq h3 | cons k _ => exact ⟨k, rfl⟩
    obtain ⟨tk0, e2⟩ := n7 0 k0 hk0
    have e2' : kv[(0 : Int).toNat]? = some (.int k0 tk0) := e2
    have hkl : kv.length = p.kids.length := n6
    have hpos : 0 < p.kids.length := List.length_pos_iff.mpr h3
    have lt : (spot - 100).toNat < na.length := by
      rcases Nat.lt_or_ge (spot - 100).toNat na.length with q | q
      · exact q
      · rw [List.getElem?_eq_none q] at n1; cases n1
    have hb1 : (spot - 100) < 1000 := by have := NA.1; omega
    repeat walk_at "W"
    refine call_of (ih (O'.le (by omega) (by omega)) hh' (by assumption) hml hnl L NA (h7 k0 (List.mem_of_getElem? hk0)) hB hN ?_)
    intro a0 F0 s S T0
    repeat walk_at "W"
    refine gIterRange (N := p.kids.length - 1) (by assumption) (by assumption) (by omega) (by omega) (by split <;> omega) ?_
    intro it s S
    refine gFor (srcRange hh') (fun i m' G' => ∃ rl F r, m'.lookup (Str.ofString "mapping") = some (.bool true) ∧ m'.lookup (Str.ofString "made") = some (.ref ml) ∧ m'.lookup (Str.ofString "nodes") = some (.ref nl) ∧ m'.lookup (Str.ofString "first") = some (.int p.f tf) ∧ m'.lookup (Str.ofString "kids") = some (.ref kl) ∧ m'.lookup (Str.ofString "row") = some (.ref rl) ∧
      G' = (rl, .list (.ref a0 :: rowV r)) :: (X ++ (F ++ G)) ∧ r.length = i ∧ TreeAt (F ++ G) 967 618 B d' (mk N d' k0) a0 ∧ ∀ (j : Nat) q, r[j]? = some q → ∃ k, p.kids[j + 1]? = some k ∧ TreeAt (F ++ G) 967 618 B d' (mk N d' k) q.2) (fun _ _ _ _ => trivial) ?_ ?_ S
      ⟨_, F0, [], by walk_at "V", by walk_at "V", by walk_at "V", by walk_at "V", by walk_at "V", by walk_at "V", rfl, rfl, T0, fun j q h => (by simp at h)⟩
    · rintro i v m' G' s hi ⟨tk1, rfl⟩ ⟨rl, F, r, j1, j2, j3, j4, j5, j6, rfl, j7, j8, j9⟩ S
      obtain ⟨k, hk⟩ : ∃ k, p.kids[i + 1]? = some k := ⟨_, List.getElem?_eq_getElem (by omega)⟩
      obtain ⟨tkk, e3⟩ := n7 (i + 1) k hk
      have e3' : kv[(1 + (i : Int)).toNat]? = some (.int k tkk) := by rw [show (1 + (i : Int)).toNat = i + 1 by omega]; exact e3
      have hrl := rowV_len r
      repeat walk_at "W"
      obtain ⟨v10, S⟩ : ∃ v10, Sg _ _ (((it, ritO (1 + ((i + 1 : Nat) : Int)) (((p.kids.length - 1 : Nat) : Int) - ((i + 1 : Nat) : Int))) :: (rl, .list (.ref a0 :: rowV r ++ [v10])) :: X) ++ (F ++ G)) _ := ⟨_, ‹_›⟩
      refine call_of (ih (X := (it, ritO (1 + ((i + 1 : Nat) : Int)) (((p.kids.length - 1 : Nat) : Int) - ((i + 1 : Nat) : Int))) :: (rl, .list (.ref a0 :: rowV r ++ [v10])) :: X) (O'.le (by omega) (by omega)) hh' S (List.mem_append_right _ hml) (List.mem_append_right _ hnl) (L.le fun q hq => List.mem_append_right _ hq) (NA.le fun q hq => List.mem_append_right _ hq) (h7 k (List.mem_of_getElem? hk)) hB hN ?_)
      intro b F' s S T1
      have S : Sg _ _ ((it, ritO (1 + ((i + 1 : Nat) : Int)) (((p.kids.length - 1 : Nat) : Int) - ((i + 1 : Nat) : Int))) :: (rl, .list (.ref a0 :: rowV r ++ [v10])) :: (X ++ (F' ++ (F ++ G)))) _ := S
      repeat walk_at "W"
      refine ⟨_, _, ?_, by assumption⟩
      refine ⟨rl, F' ++ F, r ++ [(v10, b)], by walk_at "V", by walk_at "V", by walk_at "V", by walk_at "V", by walk_at "V", by walk_at "V", by rw [rowV_snoc, List.append_assoc F' F G]; simp, by simp [j7], j8.le (fun q hq => by rw [List.append_assoc]; exact List.mem_append_right _ hq), fun j q hq => ?_⟩
      rw [List.append_assoc]
      rcases Nat.lt_or_ge j r.length with z | z
      · rw [List.getElem?_append_left z] at hq
        obtain ⟨k', e, t'⟩ := j9 j q hq
        exact ⟨k', e, t'.le fun q hq => List.mem_append_right _ hq⟩
      · rw [List.getElem?_append_right z] at hq
        have : j = r.length := by
          rcases Nat.lt_or_ge (j - r.length) 1 with y | y
          · omega
          · rw [List.getElem?_eq_none (by simp; omega)] at hq; cases hq
        subst this
        simp at hq
        subst hq
        exact ⟨k, by rw [j7]; exact hk, T1⟩
    · rintro m' G' s ⟨rl, F, r, j1, j2, j3, j4, j5, j6, rfl, j7, j8, j9⟩ S
      have hrl := rowV_len r
      have hkk : ∀ q ∈ (Value.none, a0) :: r, ∃ fs, (q.2, AO.inst 967 fs) ∈ F ++ G ∨ (q.2, AO.inst 452 fs) ∈ F ++ G := by
        have one : ∀ sh b, TreeAt (F ++ G) 967 618 B d' sh b → ∃ fs, (b, AO.inst 967 fs) ∈ F ++ G ∨ (b, AO.inst 452 fs) ∈ F ++ G := by
          intro sh b t
          obtain ⟨⟨Cx, fs, hc, ⟨_, rfl, _⟩ | ⟨_, rfl, _⟩⟩, _⟩ := kidCell (L.le fun q hq => List.mem_append_right F hq) t
          · exact ⟨fs, .inr hc⟩
          · exact ⟨fs, .inl hc⟩
        intro q hq
        rcases List.mem_cons.mp hq with rfl | hq
        · exact one _ _ j8
        · obtain ⟨j, hj, rfl⟩ := List.mem_iff_getElem.mp hq
          obtain ⟨k, _, t⟩ := j9 j _ (List.getElem?_eq_getElem hj)
          exact one _ _ t
      repeat walk_at "W"
      refine call_of (makeTree (C := 967) (O'.le (by omega) (by omega)) (by assumption) (by decide) ?_)
      intro x l v1 v2 s S
      have fin : ∀ ia s', ia.length = r.length + 1 → Sg c m (X ++ (itH 618 ia ((Value.none, a0) :: r) ++ (l, .list (ia.map Value.ref)) :: (x, .inst 967 (treF v1 v2 l (bv B p.f))) :: (F ++ G))) s' → R (.ok (.ret (.ref x))) s' := by
        intro ia s' hia S
        refine ret x (itH 618 ia ((Value.none, a0) :: r) ++ (l, .list (ia.map Value.ref)) :: (x, .inst 967 (treF v1 v2 l (bv B p.f))) :: F) s' (by rw [List.append_assoc]; exact S) ?_
        rw [h8, List.append_assoc]
        refine ⟨l, v1, v2, ia, (Value.none, a0) :: r, List.mem_append_right _ (.tail _ (.head _)), List.mem_append_right _ (.head _), by simp [hia], by simp; omega, by simp; omega, fun q hq => List.mem_append_left _ hq, ⟨h5, h6⟩, fun i y hy => ?_⟩
        rw [List.getElem?_map] at hy
        obtain ⟨k, hk, rfl⟩ := Option.map_eq_some_iff.mp hy
        have up : ∀ q ∈ F ++ G, q ∈ itH 618 ia ((Value.none, a0) :: r) ++ (((l, AO.list (ia.map Value.ref)) :: (x, .inst 967 (treF v1 v2 l (bv B p.f))) :: F) ++ G) := fun q hq => List.mem_append_right _ (.tail _ (.tail _ hq))
        cases i with
        | zero =>
          rw [hk0] at hk; cases hk
          exact ⟨_, rfl, j8.le up⟩
        | succ i =>
          have hi : i < r.length := by
            rcases Nat.lt_or_ge (i + 1) p.kids.length with z | z
            · omega
            · rw [List.getElem?_eq_none z] at hk; cases hk
          obtain ⟨k', e, t⟩ := j9 i r[i] (List.getElem?_eq_getElem hi)
          rw [hk] at e; cases e
          exact ⟨r[i], List.getElem?_eq_getElem hi, t.le up⟩
      by_cases hf0 : p.f < 0
      · have c3 : decide (0 ≤ p.f) = false := decide_eq_false (by omega)
        rw [bv_neg hf0] at fin
        repeat walk_at "W"
        refine call_of (setTree_Tree (O'.le (by omega) (by omega)) hh' (Sg.take2 ‹_› (by walk_at "R") (by walk_at "R")) (by walk_at "H") (by walk_at "H") (by omega) (fun q hq => let ⟨fs, h⟩ := hkk q hq; ⟨fs, h.imp (fun h => by walk_at "H") (fun h => by walk_at "H")⟩) (by rfl) ?_)
        intro ia s hia S
        repeat walk_at "W"
        exact fin ia _ hia (Sg.sub ‹_› (by walk_at "Q"))
      · have c3 : decide (0 ≤ p.f) = true := decide_eq_true (by omega)
        obtain ⟨b, e5, e6⟩ := bv_ge (B := B) (i := p.f) (by omega) h6
        have e4 : (B.map Value.ref)[p.f.toNat]? = some (.ref b) := item_at e5
        rw [e6] at fin
        repeat walk_at "W"
        refine call_of (setTree_Tree (O'.le (by omega) (by omega)) hh' (Sg.take2 ‹_› (by walk_at "R") (by walk_at "R")) (by walk_at "H") (by walk_at "H") (by omega) (fun q hq => let ⟨fs, h⟩ := hkk q hq; ⟨fs, h.imp (fun h => by walk_at "H") (fun h => by walk_at "H")⟩) (by rfl) ?_)
        intro ia s hia S
        repeat walk_at "W"
        exact fin ia _ hia (Sg.sub ‹_› (by walk_at "Q"))
theorem lawMadeAll_Tree {B : List Addr} {lens : List Nat} {links : List Int} {N : List Nod} : ∀ d, MadeSpec_Tree prog w T B lens links N d
  | 0 => lawMade_Tree fun d' h => (by cases h)
  | d + 1 => lawMade_Tree fun d' h => (by cases h; exact lawMadeAll_Tree d)
def MadeSpec_TreeSet (prog : Program) (w : World) (T : Tp) (B : List Addr) (lens : List Nat) (links : List Int) (N : List Nod) (d : Nat) : Prop :=
  ∀ {A : Around} {c : Cx} {m : Loc} {G : Hp} {s : Shared} {R : Result → Shared → Prop} {X : Hp} {ml nl : Addr} {na : List Addr} {spot : Int} {tk : Tok}, Ok (Mine.hd.heap_39 w.params) T A c (20 * d + 40) (100 * d + 150) → A.handled = none → Sg c m (X ++ G) s →
    (ml, AO.list (B.map Value.ref)) ∈ G → (nl, AO.list (na.map Value.ref)) ∈ G → LeavesAt G 599 B lens links → NodesAt G na N → Vld N B.length d spot → B.length ≤ 50 → N.length ≤ 100 →
    (ret : ∀ a F s', Sg c m (X ++ (F ++ G)) s' → TreeAt (F ++ G) 1000 618 B d (mk N d spot) a → R (.ok (.ret (.ref a))) s') →
    codeAny (model prog w) A (.call (.ref 1053) ⟨[.bool false, .ref ml, .ref nl, .int spot tk], []⟩) R s
theorem lawMade_TreeSet {B : List Addr} {lens : List Nat} {links : List Int} {N : List Nod} {d : Nat} (ih : ∀ d', d = d' + 1 → MadeSpec_TreeSet prog w T B lens links N d') : MadeSpec_TreeSet prog w T B lens links N d := by
  intro A c m G s R X ml nl na spot tk O hh S hml hnl L NA hv hB hN ret
  refine' gFn (binds := [(Str.ofString "mapping", .bool false), (Str.ofString "made", .ref ml), (Str.ofString "nodes", .ref nl), (Str.ofString "spot", .int spot tk)]) (O.le (d' := 20 * d + 39) (u' := 100 * d + 140) (by omega) (by omega)) S (by k_is) (by k_is) (by walk_at "FB") (locs rfl) (fun A' outer' fr' L' s O' hA' S => ?_) (by rfl) (by rfl) (by rfl) (by decide)
  have hh' : A'.handled = none := hA'.trans hh
  have leaf : 0 ≤ spot → spot < 100 → spot < B.length → mk N d spot = .leaf spot.toNat := by
    intro h1 h2 h3
    cases d with
    | zero => rfl
    | succ d => unfold mk; rw [if_neg (by omega), if_pos h2]
  have hv' : (spot < 0 ∧ mk N d spot = .node (-1) [] ∧ ∃ d', d = d' + 1) ∨ (0 ≤ spot ∧ spot < 100 ∧ spot < B.length) ∨ ∃ d' p, d = d' + 1 ∧ 100 ≤ spot ∧ N[(spot - 100).toNat]? = some p ∧ p.kids ≠ [] ∧ p.kids.length ≤ 30 ∧ -1 ≤ p.f ∧ p.f < B.length ∧ (∀ k ∈ p.kids, Vld N B.length d' k) ∧ mk N d spot = .node p.f (p.kids.map (mk N d')) := by
    cases d with
    | zero => exact .inr (.inl hv)
    | succ d =>
      rcases hv with h | h | ⟨p, h1, h2, h3, h4, h5, h6, h7⟩
      · exact .inl ⟨h, by unfold mk; rw [if_pos h], d, rfl⟩
      · exact .inr (.inl h)
      · exact .inr (.inr ⟨d, p, rfl, h1, h2, h3, h4, h5, h6, h7, by conv => lhs; unfold mk
                                                                    rw [if_neg (by omega), if_neg (by omega), h2]⟩)
  rcases hv' with ⟨h1, h2, d', rfl⟩ | ⟨h1, h2, h3⟩ | ⟨d', p, rfl, h1, h2, h3, h4, h5, h6, h7, h8⟩
  · have c1 : decide (spot < 0) = true := decide_eq_true h1
    repeat walk_at "W"
    refine call_of (makeTree (C := 1000) (O'.le (by omega) (by omega)) (by assumption) (by decide) ?_)
    intro x l v1 v2 s S
    repeat walk_at "W"
    refine ret x [(l, .list []), (x, .inst 1000 (treF v1 v2 l .none))] _ (Sg.sub (G := (l, .list []) :: (x, .inst 1000 (treF v1 v2 l .none)) :: (X ++ G)) ‹_› (show Sb _ (X ++ ((l, .list []) :: (x, .inst 1000 (treF v1 v2 l .none)) :: G)) from by walk_at "Q")) ?_
    rw [h2]
    exact ⟨l, v1, v2, [], [], .tail _ (by rw [bv_neg (by decide)]; exact .head _), .head _, rfl, rfl, by decide, fun p hp => (by cases hp), ⟨by decide, by omega⟩, fun i k hk => (by simp at hk)⟩
  · have c1 : decide (spot < 0) = false := decide_eq_false (by omega)
    have c2 : decide (spot < 100) = true := decide_eq_true h2
    have lt : spot.toNat < B.length := by omega
    have e1 : (B.map Value.ref)[spot.toNat]? = some (.ref B[spot.toNat]) := by rw [List.getElem?_map, List.getElem?_eq_getElem lt]; rfl
    repeat walk_at "W"
    refine ret B[spot.toNat] [] _ ‹_› ?_
    rw [leaf h1 h2 h3]
    have : B[spot.toNat]? = some B[spot.toNat] := List.getElem?_eq_getElem lt
    cases d <;> exact this
  · have c1 : decide (spot < 0) = false := decide_eq_false (by omega)
    have c2 : decide (spot < 100) = false := decide_eq_false (by omega)
    obtain ⟨a, kl, fv, dv, kv, n1, n2, ⟨tf, rfl⟩, ⟨td, rfl⟩, n5, n6, n7⟩ := NA.2 _ p h2
    have e1 : (na.map Value.ref)[(spot - 100).toNat]? = some (.ref a) := item_at n1
    have ih : MadeSpec_TreeSet prog w T B lens links N d' := ih d' rfl
    obtain ⟨k0, hk0⟩ : ∃ k0, p.kids[0]? = some k0 := by cases hq : p.kids with | nil => exact absurd hq h3 | cons k _ => exact ⟨k, rfl⟩
    obtain ⟨tk0, e2⟩ := n7 0 k0 hk0
    have e2' : kv[(0 : Int).toNat]? = some (.int k0 tk0) := e2
    have hkl : kv.length = p.kids.length := n6
    have hpos : 0 < p.kids.length := List.length_pos_iff.mpr h3
    have lt : (spot - 100).toNat < na.length := by
      rcases Nat.lt_or_ge (spot - 100).toNat na.length with q | q
      · exact q
      · rw [List.getElem?_eq_none q] at n1; cases n1
    have hb1 : (spot - 100) < 1000 := by have := NA.1; omega
    repeat walk_at "W"
    refine call_of (ih (O'.le (by omega) (by omega)) hh' (by assumption) hml hnl L NA (h7 k0 (List.mem_of_getElem? hk0)) hB hN ?_)
    intro a0 F0 s S T0
    repeat walk_at "W"
    refine gIterRange (N := p.kids.length - 1) (by assumption) (by assumption) (by omega) (by omega) (by split <;> omega) ?_
    intro it s S
    refine gFor (srcRange hh') (fun i m' G' => ∃ rl F r, m'.lookup (Str.ofString "mapping") = some (.bool false) ∧ m'.lookup (Str.ofString "made") = some (.ref ml) ∧ m'.lookup (Str.ofString "nodes") = some (.ref nl) ∧ m'.lookup (Str.ofString "first") = some (.int p.f tf) ∧ m'.lookup (Str.ofString "kids") = some (.ref kl) ∧ m'.lookup (Str.ofString "row") = some (.ref rl) ∧
      G' = (rl, .list (.ref a0 :: rowV r)) :: (X ++ (F ++ G)) ∧ r.length = i ∧ TreeAt (F ++ G) 1000 618 B d' (mk N d' k0) a0 ∧ ∀ (j : Nat) q, r[j]? = some q → ∃ k, p.kids[j + 1]? = some k ∧ TreeAt (F ++ G) 1000 618 B d' (mk N d' k) q.2) (fun _ _ _ _ => trivial) ?_ ?_ S
      ⟨_, F0, [], by walk_at "V", by walk_at "V", by walk_at "V", by walk_at "V", by walk_at "V", by walk_at "V", rfl, rfl, T0, fun j q h => (by simp at h)⟩
    · rintro i v m' G' s hi ⟨tk1, rfl⟩ ⟨rl, F, r, j1, j2, j3, j4, j5, j6, rfl, j7, j8, j9⟩ S
      obtain ⟨k, hk⟩ : ∃ k, p.kids[i + 1]? = some k := ⟨_, List.getElem?_eq_getElem (by omega)⟩
      obtain ⟨tkk, e3⟩ := n7 (i + 1) k hk
      have e3' : kv[(1 + (i : Int)).toNat]? = some (.int k tkk) := by rw [show (1 + (i : Int)).toNat = i + 1 by omega]; exact e3
      have hrl := rowV_len r
      repeat walk_at "W"
      obtain ⟨v10, S⟩ : ∃ v10, Sg _ _ (((it, ritO (1 + ((i + 1 : Nat) : Int)) (((p.kids.length - 1 : Nat) : Int) - ((i + 1 : Nat) : Int))) :: (rl, .list (.ref a0 :: rowV r ++ [v10])) :: X) ++ (F ++ G)) _ := ⟨_, ‹_›⟩
      refine call_of (ih (X := (it, ritO (1 + ((i + 1 : Nat) : Int)) (((p.kids.length - 1 : Nat) : Int) - ((i + 1 : Nat) : Int))) :: (rl, .list (.ref a0 :: rowV r ++ [v10])) :: X) (O'.le (by omega) (by omega)) hh' S (List.mem_append_right _ hml) (List.mem_append_right _ hnl) (L.le fun q hq => List.mem_append_right _ hq) (NA.le fun q hq => List.mem_append_right _ hq) (h7 k (List.mem_of_getElem? hk)) hB hN ?_)
      intro b F' s S T1
      have S : Sg _ _ ((it, ritO (1 + ((i + 1 : Nat) : Int)) (((p.kids.length - 1 : Nat) : Int) - ((i + 1 : Nat) : Int))) :: (rl, .list (.ref a0 :: rowV r ++ [v10])) :: (X ++ (F' ++ (F ++ G)))) _ := S
      repeat walk_at "W"
      refine ⟨_, _, ?_, by assumption⟩
      refine ⟨rl, F' ++ F, r ++ [(v10, b)], by walk_at "V", by walk_at "V", by walk_at "V", by walk_at "V", by walk_at "V", by walk_at "V", by rw [rowV_snoc, List.append_assoc F' F G]; simp, by simp [j7], j8.le (fun q hq => by rw [List.append_assoc]; exact List.mem_append_right _ hq), fun j q hq => ?_⟩
      rw [List.append_assoc]
      rcases Nat.lt_or_ge j r.length with z | z
      · rw [List.getElem?_append_left z] at hq
        obtain ⟨k', e, t'⟩ := j9 j q hq
        exact ⟨k', e, t'.le fun q hq => List.mem_append_right _ hq⟩
      · rw [List.getElem?_append_right z] at hq
        have : j = r.length := by
          rcases Nat.lt_or_ge (j - r.length) 1 with y | y
          · omega
          · rw [List.getElem?_eq_none (by simp; omega)] at hq; cases hq
        subst this
        simp at hq
        subst hq
        exact ⟨k, by rw [j7]; exact hk, T1⟩
    · rintro m' G' s ⟨rl, F, r, j1, j2, j3, j4, j5, j6, rfl, j7, j8, j9⟩ S
      have hrl := rowV_len r
      have hkk : ∀ q ∈ (Value.none, a0) :: r, ∃ fs, (q.2, AO.inst 1000 fs) ∈ F ++ G ∨ (q.2, AO.inst 599 fs) ∈ F ++ G := by
        have one : ∀ sh b, TreeAt (F ++ G) 1000 618 B d' sh b → ∃ fs, (b, AO.inst 1000 fs) ∈ F ++ G ∨ (b, AO.inst 599 fs) ∈ F ++ G := by
          intro sh b t
          obtain ⟨⟨Cx, fs, hc, ⟨_, rfl, _⟩ | ⟨_, rfl, _⟩⟩, _⟩ := kidCell (L.le fun q hq => List.mem_append_right F hq) t
          · exact ⟨fs, .inr hc⟩
          · exact ⟨fs, .inl hc⟩
        intro q hq
        rcases List.mem_cons.mp hq with rfl | hq
        · exact one _ _ j8
        · obtain ⟨j, hj, rfl⟩ := List.mem_iff_getElem.mp hq
          obtain ⟨k, _, t⟩ := j9 j _ (List.getElem?_eq_getElem hj)
          exact one _ _ t
      repeat walk_at "W"
      refine call_of (makeTree (C := 1000) (O'.le (by omega) (by omega)) (by assumption) (by decide) ?_)
      intro x l v1 v2 s S
      have fin : ∀ ia s', ia.length = r.length + 1 → Sg c m (X ++ (itH 618 ia ((Value.none, a0) :: r) ++ (l, .list (ia.map Value.ref)) :: (x, .inst 1000 (treF v1 v2 l (bv B p.f))) :: (F ++ G))) s' → R (.ok (.ret (.ref x))) s' := by
        intro ia s' hia S
        refine ret x (itH 618 ia ((Value.none, a0) :: r) ++ (l, .list (ia.map Value.ref)) :: (x, .inst 1000 (treF v1 v2 l (bv B p.f))) :: F) s' (by rw [List.append_assoc]; exact S) ?_
        rw [h8, List.append_assoc]
        refine ⟨l, v1, v2, ia, (Value.none, a0) :: r, List.mem_append_right _ (.tail _ (.head _)), List.mem_append_right _ (.head _), by simp [hia], by simp; omega, by simp; omega, fun q hq => List.mem_append_left _ hq, ⟨h5, h6⟩, fun i y hy => ?_⟩
        rw [List.getElem?_map] at hy
        obtain ⟨k, hk, rfl⟩ := Option.map_eq_some_iff.mp hy
        have up : ∀ q ∈ F ++ G, q ∈ itH 618 ia ((Value.none, a0) :: r) ++ (((l, AO.list (ia.map Value.ref)) :: (x, .inst 1000 (treF v1 v2 l (bv B p.f))) :: F) ++ G) := fun q hq => List.mem_append_right _ (.tail _ (.tail _ hq))
        cases i with
        | zero =>
          rw [hk0] at hk; cases hk
          exact ⟨_, rfl, j8.le up⟩
        | succ i =>
          have hi : i < r.length := by
            rcases Nat.lt_or_ge (i + 1) p.kids.length with z | z
            · omega
            · rw [List.getElem?_eq_none z] at hk; cases hk
          obtain ⟨k', e, t⟩ := j9 i r[i] (List.getElem?_eq_getElem hi)
          rw [hk] at e; cases e
          exact ⟨r[i], List.getElem?_eq_getElem hi, t.le up⟩
      by_cases hf0 : p.f < 0
      · have c3 : decide (0 ≤ p.f) = false := decide_eq_false (by omega)
        rw [bv_neg hf0] at fin
        repeat walk_at "W"
        refine call_of (setTree_TreeSet (O'.le (by omega) (by omega)) hh' (Sg.take2 ‹_› (by walk_at "R") (by walk_at "R")) (by walk_at "H") (by walk_at "H") (by omega) (fun q hq => let ⟨fs, h⟩ := hkk q hq; ⟨fs, h.imp (fun h => by walk_at "H") (fun h => by walk_at "H")⟩) (by rfl) ?_)
        intro ia s hia S
        repeat walk_at "W"
        exact fin ia _ hia (Sg.sub ‹_› (by walk_at "Q"))
      · have c3 : decide (0 ≤ p.f) = true := decide_eq_true (by omega)
        obtain ⟨b, e5, e6⟩ := bv_ge (B := B) (i := p.f) (by omega) h6
        have e4 : (B.map Value.ref)[p.f.toNat]? = some (.ref b) := item_at e5
        rw [e6] at fin
        repeat walk_at "W"
        refine call_of (setTree_TreeSet (O'.le (by omega) (by omega)) hh' (Sg.take2 ‹_› (by walk_at "R") (by walk_at "R")) (by walk_at "H") (by walk_at "H") (by omega) (fun q hq => let ⟨fs, h⟩ := hkk q hq; ⟨fs, h.imp (fun h => by walk_at "H") (fun h => by walk_at "H")⟩) (by rfl) ?_)
        intro ia s hia S
        repeat walk_at "W"
        exact fin ia _ hia (Sg.sub ‹_› (by walk_at "Q"))
theorem lawMadeAll_TreeSet {B : List Addr} {lens : List Nat} {links : List Int} {N : List Nod} : ∀ d, MadeSpec_TreeSet prog w T B lens links N d
  | 0 => lawMade_TreeSet fun d' h => (by cases h)
  | d + 1 => lawMade_TreeSet fun d' h => (by cases h; exact lawMadeAll_TreeSet d)
end
end

section
/-- a row of the law's list of nodes, as it lies -/
structure NdC where
  na : Addr
  kl : Addr
  f : Int
  tf : Tok
  due : Int
  td : Tok
  kids : List (Int × Tok)
def NdC.nod (c : NdC) : Nod := ⟨c.f, c.kids.map Prod.fst, c.due⟩
def NdC.cells (c : NdC) : Hp := [(c.na, .list [.int c.f c.tf, .ref c.kl, .int c.due c.td]), (c.kl, .list (c.kids.map iv))]
def ndH (ns : List NdC) : Hp := ns.flatMap NdC.cells
abbrev ndL (ns : List NdC) : List Value := ns.map fun c => Value.ref c.na
theorem ndH_snoc (ns : List NdC) (c : NdC) : ndH (ns ++ [c]) = ndH ns ++ c.cells := by simp [ndH]
theorem pick_run' (xs : List Value) (a b : Nat) {la lb : Int} (ha : la = a) (hb' : lb = b) (hb : b ≤ xs.length) (hab : a ≤ b) : (slicePick xs.toArray (some la) (some lb) none).toList = (xs.drop a).take (b - a) := by
  subst ha; subst hb'; exact pick_run xs a b hb hab
theorem run_get {xs : List Value} {a b j : Nat} (h : j < b - a) : ((xs.drop a).take (b - a))[j]? = xs[a + j]? := by
  rw [List.getElem?_take_of_lt h, List.getElem?_drop]
theorem run_len {xs : List Value} {a b : Nat} (hb : b ≤ xs.length) : ((xs.drop a).take (b - a)).length = b - a := by
  rw [List.length_take, List.length_drop]; omega
section
variable {prog : Program} {w : World} {T : Tp}
def NestSpec (prog : Program) (w : World) (T : Tp) (d : Nat) : Prop :=
  ∀ {A : Around} {c : Cx} {m : Loc} {G : Hp} {s : Shared} {R : Result → Shared → Prop} {mp : Value} {sl ll nl : Addr} {sv lv : List Value} {ns : List NdC} {a n : Nat} {lev : Int} {tkl : Tok}, Ok (Mine.hd.heap_39 w.params) T A c (20 * d + 20) (100 * d + 60) → A.handled = none →
    Sg c m ((nl, .list (ndL ns)) :: (ndH ns ++ G)) s → (sl, AO.list sv) ∈ G → (ll, AO.list lv) ∈ G → sv.length = n → 0 < n → n ≤ 20 → (∀ j, j < n → ∃ tk, sv[j]? = some (.int ((a : Int) + j) tk)) → lv.length + 1 = n →
    (∀ v ∈ lv, ∃ x tk, v = .int x tk ∧ lev ≤ x ∧ x ≤ 2) → lev = 3 - (d : Int) → d ≤ 3 → ns.length + d * n ≤ 1000 →
    (ret : ∀ X spot tk s', Sg c m ((nl, .list (ndL (ns ++ X))) :: (ndH (ns ++ X) ++ G)) s' → Nest ((ns ++ X).map NdC.nod) d spot a n ns.length (ns ++ X).length → X.length ≤ d * n → (∀ c ∈ X, c.f = c.due) → R (.ok (.ret (.int spot tk))) s') →
    codeAny (model prog w) A (.call (.ref 1046) ⟨[mp, .ref sl, .ref ll, .int lev tkl, .ref nl], []⟩) R s
theorem lawNest0 : NestSpec prog w T 0 := by
  intro A c m G s R mp sl ll nl sv lv ns a n lev tkl O hh S hsl hll hn hpos hn20 hsv hlv hlev hl hd hb ret
  refine' gFn (binds := [(Str.ofString "mapping", mp), (Str.ofString "spots", .ref sl), (Str.ofString "levels", .ref ll), (Str.ofString "level", .int lev tkl), (Str.ofString "nodes", .ref nl)]) O S (by k_is) (by k_is) (by walk_at "FB") (locs rfl) (fun A' outer' fr' L' s O' hA' S => ?_) (by rfl) (by rfl) (by rfl) (by decide)
  have hh' : A'.handled = none := hA'.trans hh
  have c1 : (lev == 3) = true := beq_iff_eq.mpr (by omega)
  have h1 : n = 1 := by
    cases lv with
    | nil => simp at hlv; omega
    | cons v r => obtain ⟨x, tk, _, h2, h3⟩ := hlev v (.head _); omega
  obtain ⟨tk0, e0⟩ := hsv 0 hpos
  have e0' : sv[(0 : Int).toNat]? = some (.int ((a : Int) + (0 : Nat)) tk0) := e0
  repeat walk_at "W"
  have := ret [] _ tk0 _ (by rw [List.append_nil]; assumption) (by rw [h1, List.append_nil]; exact .leaf a ns.length) (Nat.zero_le _) (fun c hc => by cases hc)
  simpa using this
theorem lawNest1 {d : Nat} (ih : NestSpec prog w T d) : NestSpec prog w T (d + 1) := by
  intro A c m G s R mp sl ll nl sv lv ns a n lev tkl O hh S hsl hll hn hpos hn20 hsv hlv hlev hl hd hb ret
  refine' gFn (binds := [(Str.ofString "mapping", mp), (Str.ofString "spots", .ref sl), (Str.ofString "levels", .ref ll), (Str.ofString "level", .int lev tkl), (Str.ofString "nodes", .ref nl)]) (O.le (d' := 20 * d + 40) (u' := 100 * d + 160) (by omega) (by omega)) S (by k_is) (by k_is) (by walk_at "FB") (locs rfl) (fun A' outer' fr' L' s O' hA' S => ?_) (by rfl) (by rfl) (by rfl) (by decide)
  have hh' : A'.handled = none := hA'.trans hh
  have c1 : (lev == 3) = false := beq_eq_false_iff_ne.mpr (by omega)
  obtain ⟨tk0, e0⟩ := hsv 0 hpos
  have e0' : sv[(0 : Int).toNat]? = some (.int (a : Int) tk0) := by simpa using e0
  have hdn : (d + 1) * n = d * n + n := by rw [Nat.add_mul, Nat.one_mul]
  repeat walk_at "W"
  refine gIterRange (N := n) (by assumption) (by assumption) (by omega) (by omega) (by split <;> omega) ?_
  intro it s S
  obtain ⟨kl, tks, S, hkl⟩ : ∃ kl tks, Sg _ (put (Str.ofString "start") (.int 0 tks) (put (Str.ofString "kids") (.ref kl) _)) ((it, ritO 0 n) :: (nl, .list (ndL (ns ++ []))) :: (ndH (ns ++ []) ++ (kl, .list (([] : List (Int × Tok)).map iv)) :: G)) s ∧ True := ⟨_, _, Sg.sub S (by simp only [List.append_nil, List.map_nil]; walk_at "Q"), trivial⟩
  refine gFor (srcRange hh') (fun i m' G' => ∃ st tks X kz, m'.lookup (Str.ofString "mapping") = some mp ∧ m'.lookup (Str.ofString "spots") = some (.ref sl) ∧ m'.lookup (Str.ofString "levels") = some (.ref ll) ∧ m'.lookup (Str.ofString "level") = some (.int lev tkl) ∧ m'.lookup (Str.ofString "nodes") = some (.ref nl) ∧ m'.lookup (Str.ofString "kids") = some (.ref kl) ∧
    m'.lookup (Str.ofString "start") = some (.int (st : Nat) tks) ∧ G' = (nl, .list (ndL (ns ++ X))) :: (ndH (ns ++ X) ++ (kl, .list (kz.map iv)) :: G) ∧ Segs ((ns ++ X).map NdC.nod) d (kz.map Prod.fst) a st ns.length (ns ++ X).length ∧ X.length ≤ d * st ∧ st ≤ i ∧ kz.length ≤ i ∧
    (∀ (j : Nat) x tk, st ≤ j → j < i → lv[j]? = some (.int x tk) → x ≠ lev) ∧ (i = n → st = n) ∧ ∀ c ∈ X, c.f = c.due) (fun _ _ _ _ => trivial) ?_ ?_ S
    ⟨0, tks, [], [], by walk_at "V", by walk_at "V", by walk_at "V", by walk_at "V", by walk_at "V", by walk_at "V", by walk_at "V", rfl, by rw [List.append_nil]; exact .nil _ _ _, Nat.zero_le _, Nat.le_refl _, Nat.le_refl _, fun j x tk h1 h2 => by omega, fun h => by omega, fun c hc => by cases hc⟩
  · rintro i v m' G' s hi ⟨tki, rfl⟩ ⟨st, tks, X, kz, j1, j2, j3, j4, j5, j6, j7, rfl, jS, jX, jst, jkz, jl, jn, jf⟩ S
    have hxd : d * st + d * (i + 1 - st) ≤ d * n := by rw [← Nat.mul_add]; exact Nat.mul_le_mul_left d (by omega)
    have hlen : ns.length + X.length ≤ 1000 := by omega
    have hndl : (ndL (ns ++ X)).length = ns.length + X.length := by simp
    have h3 : (((0 : Int) + (i : Int) + 1 == (sv.length : Int)) = true) ∨ (∃ x tkx, i + 1 < n ∧ ((0 : Int) + (i : Int) + 1 == (sv.length : Int)) = false ∧ lv[((0 : Int) + (i : Int)).toNat]? = some (.int x tkx) ∧ (x == lev) = true) ∨
        (∃ x tkx, i + 1 < n ∧ ((0 : Int) + (i : Int) + 1 == (sv.length : Int)) = false ∧ lv[((0 : Int) + (i : Int)).toNat]? = some (.int x tkx) ∧ (x == lev) = false ∧ lv[i]? = some (.int x tkx) ∧ x ≠ lev) := by
      by_cases hi1 : i + 1 = n
      · exact .inl (beq_iff_eq.mpr (by omega))
      · obtain ⟨v, hv⟩ : ∃ v, lv[i]? = some v := ⟨_, List.getElem?_eq_getElem (by omega)⟩
        obtain ⟨x, tkx, rfl, hx1, hx2⟩ := hlev v (List.mem_of_getElem? hv)
        have hv' : lv[((0 : Int) + (i : Int)).toNat]? = some (.int x tkx) := by rw [show ((0 : Int) + (i : Int)).toNat = i by omega]; exact hv
        have c2 : ((0 : Int) + (i : Int) + 1 == (sv.length : Int)) = false := beq_eq_false_iff_ne.mpr (by omega)
        by_cases hxl : x = lev
        · exact .inr (.inl ⟨x, tkx, by omega, c2, hv', beq_iff_eq.mpr hxl⟩)
        · exact .inr (.inr ⟨x, tkx, by omega, c2, hv', beq_eq_false_iff_ne.mpr hxl, hv, hxl⟩)
    have hsv2 : ∀ j, j < i + 1 - st → ∃ tk, ((sv.drop st).take (i + 1 - st))[j]? = some (.int (((a + st : Nat) : Int) + j) tk) := fun j hj => by
      obtain ⟨tk, e⟩ := hsv (st + j) (by omega)
      rw [show ((a : Int) + ((st + j : Nat) : Int)) = ((a + st : Nat) : Int) + j by omega] at e
      exact ⟨tk, by rw [run_get hj, e]⟩
    have hlv2 : ((lv.drop st).take (i - st)).length + 1 = i + 1 - st := by rw [run_len (by omega)]; omega
    have hlev2 : ∀ v ∈ (lv.drop st).take (i - st), ∃ x tk, v = .int x tk ∧ lev + 1 ≤ x ∧ x ≤ 2 := by
      intro v hv
      obtain ⟨j, hj⟩ := List.mem_iff_getElem?.mp hv
      have hji : j < i - st := by
        rcases Nat.lt_or_ge j (i - st) with z | z
        · exact z
        · rw [List.getElem?_eq_none (by rw [run_len (by omega)]; exact z)] at hj; cases hj
      rw [run_get hji] at hj
      obtain ⟨x, tk, rfl, h1, h2⟩ := hlev v (List.mem_of_getElem? hj)
      have := jl (st + j) x tk (by omega) (by omega) hj
      exact ⟨x, tk, rfl, by omega, h2⟩
    rcases h3 with c2 | ⟨x, tkx, hin, c2, hv', c3⟩ | ⟨x, tkx, hin, c2, hv', c3, hv, hxl⟩
    rotate_left 2
    · repeat walk_at "W"
      refine ⟨_, _, ?_, by assumption⟩
      refine ⟨st, tks, X, kz, by walk_at "V", by walk_at "V", by walk_at "V", by walk_at "V", by walk_at "V", by walk_at "V", by walk_at "V", rfl, jS, jX, by omega, by omega, fun j x' tk h1 h2 h3 => ?_, fun h => by omega, jf⟩
      by_cases hji : j < i
      · exact jl j x' tk h1 hji h3
      · have : j = i := by omega
        subst this
        rw [hv] at h3; cases h3
        exact hxl
    all_goals
      repeat walk_at "W"
      refine gSliceT (by assumption) (by walk_at "H") (.int _ _) (.int _ _) .none (by decide) (le_sz (by omega)) (pick_run' sv st (i + 1) rfl (by omega) (by omega) (by omega)) ?_
      intro sl2 s S
      repeat walk_at "W"
      refine gSliceT (by assumption) (by walk_at "H") (.int _ _) (.int _ _) .none (by decide) (le_sz (by omega)) (pick_run' lv st i rfl (by omega) (by omega) (by omega)) ?_
      intro ll2 s S
      repeat walk_at "W"
      have S := Sg.sub ‹_› (show Sb _ ((nl, .list (ndL (ns ++ X))) :: (ndH (ns ++ X) ++ ((it, _) :: (sl2, _) :: (ll2, _) :: (kl, .list (kz.map iv)) :: G))) from by walk_at "Q")
      refine call_of (ih (a := a + st) (n := i + 1 - st) (O'.le (by omega) (by omega)) hh' S (by walk_at "H") (by walk_at "H") (run_len (by omega)) (by omega) (by omega) hsv2 hlv2 hlev2 (by omega) (by omega) (by rw [List.length_append]; omega) ?_)
      intro X' spot tk s S hN hXl hXf
      repeat walk_at "W"
      have S := Sg.sub ‹_› (show Sb _ ((it, _) :: (nl, .list (ndL (ns ++ X ++ X'))) :: (ndH (ns ++ X ++ X') ++ (kl, .list (kz.map iv ++ [Value.int spot tk])) :: G)) from by walk_at "Q")
      have eN : (ns ++ (X ++ X')).map NdC.nod = (ns ++ X).map NdC.nod ++ X'.map NdC.nod := by simp
      have eN2 : (ns ++ X ++ X').map NdC.nod = (ns ++ X).map NdC.nod ++ X'.map NdC.nod := by simp
      have hs := Segs.snoc d a st (i + 1 - st) ns.length (ns ++ X).length (ns ++ X ++ X').length (kz.map Prod.fst) spot (Segs.cong cong_app jS) (eN2 ▸ hN) (by omega)
      rw [show st + (i + 1 - st) = i + 1 by omega] at hs
      refine ⟨_, _, ⟨i + 1, _, X ++ X', kz ++ [(spot, tk)], by walk_at "V", by walk_at "V", by walk_at "V", by walk_at "V", by walk_at "V", by walk_at "V", by rw [show ((i + 1 : Nat) : Int) = 0 + (i : Int) + 1 by omega]; walk_at "V", by rw [← List.append_assoc, List.map_append]; rfl, ?_, ?_, Nat.le_refl _, by simp; omega, fun j x tk h1 h2 => by omega, fun h => h, fun c hc => ?_⟩, S⟩
      · rw [eN, show (kz ++ [(spot, tk)]).map Prod.fst = kz.map Prod.fst ++ [spot] by simp, show (ns ++ (X ++ X')).length = (ns ++ X ++ X').length by rw [List.append_assoc]]; exact hs
      · rw [List.length_append]
        have : d * (i + 1) = d * st + d * (i + 1 - st) := by rw [← Nat.mul_add]; congr 1; omega
        omega
      · rcases List.mem_append.mp hc with h | h
        · exact jf c h
        · exact hXf c h
  · rintro m' G' s ⟨st, tks, X, kz, j1, j2, j3, j4, j5, j6, j7, rfl, jS, jX, jst, jkz, jl, jn, jf⟩ S
    have hst := jn rfl
    subst hst
    have hndl : (ndL (ns ++ X)).length = ns.length + X.length := by simp
    have hlen : ns.length + X.length ≤ 1000 := by omega
    repeat walk_at "W"
    obtain ⟨na, S⟩ : ∃ na, Sg c m ((nl, .list (ndL (ns ++ X) ++ [.ref na])) :: (ndH (ns ++ X) ++ (na, .list [.int (a : Int) tk0, .ref kl, .int (a : Int) tk0]) :: (kl, .list (kz.map iv)) :: G)) _ := ⟨_, Sg.sub ‹_› (by walk_at "Q")⟩
    generalize hcc : (⟨na, kl, (a : Int), tk0, (a : Int), tk0, kz⟩ : NdC) = cc
    have eL : ndL (ns ++ (X ++ [cc])) = ndL (ns ++ X) ++ [.ref na] := by subst hcc; simp [ndL]
    have eH : ndH (ns ++ (X ++ [cc])) ++ G = ndH (ns ++ X) ++ (na, .list [.int (a : Int) tk0, .ref kl, .int (a : Int) tk0]) :: (kl, .list (kz.map iv)) :: G := by subst hcc; rw [← List.append_assoc, ndH_snoc, List.append_assoc]; rfl
    have eN : (ns ++ (X ++ [cc])).map NdC.nod = (ns ++ X).map NdC.nod ++ [cc.nod] := by simp
    have hne : cc.nod.kids ≠ [] := by
      subst hcc
      intro h
      have h' : kz.map Prod.fst = [] := h
      rw [h'] at jS
      have := jS.nil_n
      omega
    have hN : Nest ((ns ++ (X ++ [cc])).map NdC.nod) (d + 1) (((ns ++ X).length : Nat) + 100) a st ns.length (ns ++ (X ++ [cc])).length := by
      rw [eN, show (ns ++ (X ++ [cc])).length = (ns ++ X).length + 1 by simp; omega]
      refine Nest.node d a st ns.length (ns ++ X).length cc.nod ?_ (by subst hcc; rfl) hne ?_
      · rw [List.getElem?_append_right (by simp)]; simp
      · have : cc.nod.kids = kz.map Prod.fst := by subst hcc; rfl
        rw [this]; exact Segs.cong cong_app jS
    have e : ∀ v tk, v = (((ns ++ X).length : Nat) : Int) + 100 → R (.ok (.ret (.int v tk))) _ := fun v tk h => by
      subst h
      refine ret (X ++ [cc]) _ tk _ (by rw [eL, eH]; exact S) hN (by rw [List.length_append]; simp; omega) (fun c hc => ?_)
      rcases List.mem_append.mp hc with h | h
      · exact jf c h
      · rw [List.mem_singleton.mp h]; subst hcc; rfl
    exact e _ _ (by simp; omega)
theorem lawNestAll : ∀ d, NestSpec prog w T d
  | 0 => lawNest0
  | d + 1 => lawNest1 (lawNestAll d)
end
end

section
theorem pick_mem {xs : List Value} {lo hi st : Option Int} {v : Value} (h : v ∈ (slicePick xs.toArray lo hi st).toList) : v ∈ xs := by
  unfold slicePick at h
  simp only [List.mem_filterMap] at h
  obtain ⟨j, _, hj⟩ := h
  exact List.mem_of_getElem? (by simpa using hj)
theorem pick_take' (xs : List Value) (b : Nat) {e : Int} (h : e = b) : (slicePick xs.toArray none (some e) none).toList = xs.take b := by subst h; exact pick_take xs b
theorem up_nd {c : NdC} {f' : Int} {t' : Tok} : ∀ {ns : List NdC} {j : Nat}, ns[j]? = some c → Up (ndH ns) c.na (.list [.int c.f c.tf, .ref c.kl, .int c.due c.td]) (.list [.int f' t', .ref c.kl, .int c.due c.td]) (ndH (ns.set j { c with f := f', tf := t' }))
  | a :: ns, 0, h => by simp at h; subst h; exact up_hd
  | a :: ns, j + 1, h => by
    have := up_nd (f' := f') (t' := t') (ns := ns) (j := j) (by simpa using h)
    exact up_tl (up_tl this)
theorem ndL_set {c c' : NdC} (h : c'.na = c.na) : ∀ {ns : List NdC} {j : Nat}, ns[j]? = some c → ndL (ns.set j c') = ndL ns
  | a :: ns, 0, e => by simp at e; subst e; simp [ndL, h]
  | a :: ns, j + 1, e => by have := ndL_set h (ns := ns) (j := j) (by simpa using e); simp only [ndL, List.set_cons_succ, List.map_cons] at this ⊢; rw [this]
theorem ndL_get {ns : List NdC} {j : Nat} {c : NdC} (h : ns[j]? = some c) : (ndL ns)[j]? = some (.ref c.na) := by simp [ndL, List.getElem?_map, h]
def upTo (i : Nat) : List Int := (List.range i).map fun j => ((j + 1 : Nat) : Int)
theorem upTo_succ (i : Nat) : upTo (i + 1) = upTo i ++ [((i + 1 : Nat) : Int)] := by simp [upTo, List.range_succ]
theorem upTo_len (i : Nat) : (upTo i).length = i := by simp [upTo]
theorem fmodN (x : Int) {k : Nat} (h : 0 < k) : ∃ n : Nat, n < k ∧ x.fmod (k : Int) = n := by
  have h1 := Int.fmod_nonneg_of_pos x (b := (k : Int)) (by omega)
  have h2 := Int.fmod_lt_of_pos x (b := (k : Int)) (by omega)
  exact ⟨(x.fmod k).toNat, by omega, by omega⟩
section
variable {prog : Program} {w : World} {K : Frag} {T : Tp} {A : Around} {c : Cx} {m : Loc} {G : Hp} {s : Shared} {d u : Nat}
/-- script[0] if script else 0 -/
theorem evHead {Q : Value → Shared → Prop} {E : Value → Shared → Prop} {sl ca : Addr} {sz : List (Int × Tok)} {p1 p2 p3 p4 p5 p6 : Pos} {k1 k2 : Nat} (S : Sg c m G s) (B : c.base.IsList sl (sz.map iv).toArray) (hz : sz.length ≤ 1000)
    (hk : c.cs.kind = .function) (hx : c.env.kindOf (Str.ofString "script") = some .cell) (hc : c.cl.lookup (Str.ofString "script") = some ca) (hv : (ca, .cell (some (.ref sl))) ∈ G)
    (h : ∀ hd tk s', Sg c m G s' → Q (.int hd tk) s') :
    wpAny (model prog w) A (eval (.IfExp (.Name (Str.ofString "script") p1) (.Subscript (.Name (Str.ofString "script") p2) (.Constant (.int 0) k1 p3) p4) (.Constant (.int 0) k2 p5) p6) c.env) Q E s := by
  have nm : ∀ {p Q s}, Sg c m G s → Q (Value.ref sl) s → wpAny (model prog w) A (eval (.Name (Str.ofString "script") p) c.env) Q E s := fun S h => gNameCell S hk hx hc hv h
  refine IfExp_ (tname (nm S (bTruthy S B (le_sz (by simp; omega)) fun s S => ?_)))
  cases sz with
  | nil => exact gConstInt S fun tk s S => h _ _ _ S
  | cons p r =>
    refine Subscript_ (nm S (gConstInt S fun tk s S => bItem S B (by decide) (by decide) (x := .int p.1 p.2) rfl (h _ _ _ S)))
end
section
variable {prog : Program} {w : World} {T : Tp} {A : Around} {s : Shared}
abbrev frF_Tree (q : Addr × Addr × Addr) (nx : Value) : Loc := bucF q.2.1 q.2.2 nx
theorem mkLeaf_Tree {c : Cx} {m : Loc} {G : Hp} {R : Result → Shared → Prop} (O : Ok (Mine.hd.heap_39 w.params) T A c 10 50) (S : Sg c m G s) (ret : ∀ q s', Sg c m ((q.1, .inst 452 (frF_Tree q .none)) :: G) s' → R (.ok (.ret (.ref q.1))) s') :
    codeAny (model prog w) A (.call (.ref 452) ⟨[], []⟩) R s := makeBucket O S fun x l v s' S => ret (x, l, v) s' (S.sub (sb_drop (sb_drop sb_refl)))
theorem setLeaf_Tree {c : Cx} {m : Loc} {G : Hp} {R : Result → Shared → Prop} {q : Addr × Addr × Addr} {st row : Addr} {kv rv nx : List Value} (O : Ok (Mine.hd.heap_39 w.params) T A c 10 50) (hh : A.handled = none) (S : Sg c m ((q.1, .inst 452 (frF_Tree q .none)) :: G) s) (hs : (st, .raw (tupO (.ref row :: nx))) ∈ G) (hr : (row, .raw (tupO rv)) ∈ G)
    (h1 : true = true → ∃ vs, kv.length = vs.length ∧ rv = inter kv vs) (h2 : true = false → rv = kv) (hz : kv.length ≤ 100) (hn : nx = [] ∨ ∃ b, nx = [.ref b])
    (ret : ∀ l fs s', fs.lookup (Str.ofString "_keys") = some (.ref l) → fs.lookup (Str.ofString "_next") = some (nx.headD .none) → Sg c m ((l, .list kv) :: (q.1, .inst 452 fs) :: G) s' → R (.ok (.ret .none)) s') :
    codeAny (model prog w) A (.call (.ref 442) ⟨[.ref q.1, .ref st], []⟩) R s := by
  obtain ⟨vs, e1, rfl⟩ := h1 rfl
  refine setBuc O hh S hs hr e1 (by omega) hn fun l v s' S => ret l _ s' ?_ ?_ (S.sub (sb_drop sb_refl))
  · walk_at "V"
  · walk_at "V"
abbrev frF_TreeSet (q : Addr × Addr × Addr) (nx : Value) : Loc := setF q.2.1 nx
theorem mkLeaf_TreeSet {c : Cx} {m : Loc} {G : Hp} {R : Result → Shared → Prop} (O : Ok (Mine.hd.heap_39 w.params) T A c 10 50) (S : Sg c m G s) (ret : ∀ q s', Sg c m ((q.1, .inst 599 (frF_TreeSet q .none)) :: G) s' → R (.ok (.ret (.ref q.1))) s') :
    codeAny (model prog w) A (.call (.ref 599) ⟨[], []⟩) R s := makeSet (O.le (by omega) (by omega)) S fun x l s' S => ret (x, l, l) s' (S.sub (sb_drop sb_refl))
theorem setLeaf_TreeSet {c : Cx} {m : Loc} {G : Hp} {R : Result → Shared → Prop} {q : Addr × Addr × Addr} {st row : Addr} {kv rv nx : List Value} (O : Ok (Mine.hd.heap_39 w.params) T A c 10 50) (hh : A.handled = none) (S : Sg c m ((q.1, .inst 599 (frF_TreeSet q .none)) :: G) s) (hs : (st, .raw (tupO (.ref row :: nx))) ∈ G) (hr : (row, .raw (tupO rv)) ∈ G)
    (h1 : false = true → ∃ vs, kv.length = vs.length ∧ rv = inter kv vs) (h2 : false = false → rv = kv) (hz : kv.length ≤ 100) (hn : nx = [] ∨ ∃ b, nx = [.ref b])
    (ret : ∀ l fs s', fs.lookup (Str.ofString "_keys") = some (.ref l) → fs.lookup (Str.ofString "_next") = some (nx.headD .none) → Sg c m ((l, .list kv) :: (q.1, .inst 599 fs) :: G) s' → R (.ok (.ret .none)) s') :
    codeAny (model prog w) A (.call (.ref 559) ⟨[.ref q.1, .ref st], []⟩) R s := by
  obtain rfl := h2 rfl
  refine setSet (O.le (by omega) (by omega)) hh S hs hr (by omega) hn fun l s' S => ret l _ s' ?_ ?_ S
  · walk_at "V"
  · walk_at "V"
def todoH_Tree (ts : List (Addr × Addr × Addr)) : Hp := ts.map fun q => (q.1, .inst 452 (frF_Tree q .none))
theorem lawD_Tree {name qual : Str} {params : Arguments} {body : List Stmt} {scope : Scope} {dV kV doc pm cdv ct oc : Value} {an od : Option Addr} {osl : Array (Option Value)}
    {base : Heap} {cn : Str} {L fa : Addr} {cd : Value} {a1 a2 a3 a4 : Addr} {os : OsState} {Gt : Hp} {Q : Flow → Shared → Prop} {E : Value → Shared → Prop}
    (ho : (Mine.hd.heap_39 w.params).lookup 1065 = some ⟨oc, od, .func (fnOf name qual params body scope dV kV doc pm an cdv ct), osl⟩)
    (O : Ok (Mine.hd.heap_39 w.params) T A ⟨base, [], [], cn, scope, L, fa, cd, [(Str.ofString "top", a4), (Str.ofString "mapping", a3), (Str.ofString "head", a2), (Str.ofString "script", a1)], os⟩ 200 1000) (hh : A.handled = none)
    {m : Loc} {cnt d : Nat} {tkc tkr : Tok} {kL lL nl : Addr} {ka na : List Addr} {kzs : List (List (Int × Tok))} {lz : List (Int × Tok)} {N : List Nod} {Fk Fn G0 : Hp} {sb : Bool} {root : Int}
    (S : Sg ⟨base, [], [], cn, scope, L, fa, cd, [(Str.ofString "top", a4), (Str.ofString "mapping", a3), (Str.ofString "head", a2), (Str.ofString "script", a1)], os⟩ m ((nl, .list (na.map Value.ref)) :: (kL, .list (ka.map Value.ref)) :: (lL, .list (lz.map iv)) :: (Fn ++ (Fk ++ G0))) s)
    (v1 : m.lookup (Str.ofString "count") = some (.int (cnt : Int) tkc)) (v2 : m.lookup (Str.ofString "keys") = some (.ref kL)) (v3 : m.lookup (Str.ofString "links") = some (.ref lL)) (v4 : m.lookup (Str.ofString "nodes") = some (.ref nl)) (v5 : m.lookup (Str.ofString "root") = some (.int root tkr)) (v6 : m.lookup (Str.ofString "sound") = some (.bool sb))
    (m3 : (a3, AO.cell (some (.bool true))) ∈ G0) (hsb : Sb G0 Gt)
    (hcnt1 : 1 ≤ cnt) (hcnt2 : cnt ≤ 8) (hd1 : 1 ≤ d) (hd3 : d ≤ 3) (hka : ka.length = cnt) (hKC : KC Fk ka kzs) (hKl : ∀ k ∈ kzs, k.length ≤ 2) (hlzl : lz.length = cnt) (hlr : ∀ p ∈ lz, (-1 : Int) ≤ p.1 ∧ p.1 < (cnt : Int))
    (hNA : NodesAt Fn na N) (hNl : N.length ≤ 24) (hV : Vld N cnt d root) (hr : 100 ≤ root) (hs : chk (kzs.map List.length) (lz.map Prod.fst) d (mk N d root) (-1) = sb)
    (fin : ∀ m s, Sg ⟨base, [], [], cn, scope, L, fa, cd, [(Str.ofString "top", a4), (Str.ofString "mapping", a3), (Str.ofString "head", a2), (Str.ofString "script", a1)], os⟩ m Gt s → Q (.ret (.bool true)) s) :
    wpAny (model prog w) A (execs (body.drop 14) (Cx.env ⟨base, [], [], cn, scope, L, fa, cd, [(Str.ofString "top", a4), (Str.ofString "mapping", a3), (Str.ofString "head", a2), (Str.ofString "script", a1)], os⟩)) Q E s := by
  have e := (show (Mine.hd.heap_39 w.params).lookup 1065 = some ⟨_, _, .func (fnOf _ _ _ _ _ _ _ _ _ _ _ _), _⟩ by k_is).symm.trans ho
  injection e with e
  injection e with _ _ e _
  injection e with e
  simp only [fnOf, FuncData.mk.injEq, FuncBody.stmts.injEq] at e
  obtain ⟨-, -, -, rfl, rfl, -⟩ := e
  clear ho
  simp only [List.drop_succ_cons, List.drop_zero]
  refine gAssignComp S (by rfl) (by rfl) (by decide) (by rfl) (by decide) (by rfl) (by rfl) (by rfl) ?_
  repeat walk_at "W"
  refine gIterRange (N := cnt) (by assumption) (by assumption) (by omega) (by omega) (by split <;> omega) ?_
  intro it s S
  refine ⟨it, fun i => ritO (0 + (i : Int)) ((cnt : Int) - i), cnt, _, _, _, _, fun i vs G' => ∃ ts, vs = (ts.map fun q : Addr × Addr × Addr => q.1).map Value.ref ∧ ts.length = i ∧ G' = todoH_Tree ts ++ ((nl, .list (na.map Value.ref)) :: (kL, .list (ka.map Value.ref)) :: (lL, .list (lz.map iv)) :: (Fn ++ (Fk ++ G0))), rfl, srcRange hh, ritO0, le_sz (by omega), S, ⟨[], rfl, rfl, rfl⟩, fun _ _ _ _ => trivial, ?_, ?_⟩
  · rintro i v vs C D G' s hi ⟨tk, rfl⟩ ⟨ts, rfl, hts, rfl⟩ S E'
    repeat walk_at "W"
    refine call_of (mkLeaf_Tree (O.le (by omega) (by omega)) (by assumption) ?_)
    intro q s S
    refine ⟨_, ⟨ts ++ [q], by rw [List.map_append, List.map_append]; rfl, by simp [hts], rfl⟩, Sg.sub S ?_⟩
    rw [show todoH_Tree (ts ++ [q]) = todoH_Tree ts ++ [(q.1, .inst 452 (frF_Tree q .none))] by simp [todoH_Tree], List.append_assoc]
    show Sb _ ((C, _) :: (D, _) :: (it, _) :: (todoH_Tree ts ++ (q.1, .inst 452 (frF_Tree q .none)) :: ((nl, .list (na.map Value.ref)) :: (kL, .list (ka.map Value.ref)) :: (lL, .list (lz.map iv)) :: (Fn ++ (Fk ++ G0)))))
    walk_at "Q"
  rintro mL vs G' s ⟨ts, rfl, hts, rfl⟩ S' s S
  clear S'
  have hBn : (ts.map fun q : Addr × Addr × Addr => q.1).Nodup := by
    have := S.nd.tail.app.1
    unfold Nd todoH_Tree at this
    rw [List.map_map] at this
    exact this
  have hkl : kzs.length = cnt := by rw [← hka]; exact hKC.len.symm
  generalize hG1 : (nl, AO.list (na.map Value.ref)) :: (kL, AO.list (ka.map Value.ref)) :: (lL, AO.list (lz.map iv)) :: (Fn ++ (Fk ++ G0)) = G1 at S
  have g1 : (nl, AO.list (na.map Value.ref)) ∈ G1 := by rw [← hG1]; exact .head _
  have g2 : (kL, AO.list (ka.map Value.ref)) ∈ G1 := by rw [← hG1]; exact .tail _ (.head _)
  have g3 : (lL, AO.list (lz.map iv)) ∈ G1 := by rw [← hG1]; exact .tail _ (.tail _ (.head _))
  have g4 : ∀ p ∈ Fn, p ∈ G1 := fun p hp => by rw [← hG1]; exact .tail _ (.tail _ (.tail _ (List.mem_append_left _ hp)))
  have g5 : ∀ p ∈ Fk, p ∈ G1 := fun p hp => by rw [← hG1]; exact .tail _ (.tail _ (.tail _ (List.mem_append_right _ (List.mem_append_left _ hp))))
  have g6 : (a3, AO.cell (some (.bool true))) ∈ G1 := by rw [← hG1]; exact .tail _ (.tail _ (.tail _ (List.mem_append_right _ (List.mem_append_right _ m3))))
  have g7 : Sb G1 Gt := by
    rw [← hG1]
    obtain ⟨Z, hZ⟩ := hsb
    exact sb_drop (sb_drop (sb_drop (sb_dropF (sb_dropF ⟨Z, hZ⟩))))
  repeat walk_at "W"
  refine gIterRange (N := cnt) (by assumption) (by assumption) (by omega) (by omega) (by split <;> omega) ?_
  intro it s S
  refine gFor (srcRange hh) (fun i m' G' => ∃ Fd, m'.lookup (Str.ofString "count") = some (.int (cnt : Int) tkc) ∧ m'.lookup (Str.ofString "keys") = some (.ref kL) ∧ m'.lookup (Str.ofString "links") = some (.ref lL) ∧ m'.lookup (Str.ofString "nodes") = some (.ref nl) ∧ m'.lookup (Str.ofString "root") = some (.int root tkr) ∧ m'.lookup (Str.ofString "sound") = some (.bool sb) ∧ m'.lookup (Str.ofString "made") = some (.ref mL) ∧
    G' = (mL, .list ((ts.map fun q : Addr × Addr × Addr => q.1).map Value.ref)) :: (Fd ++ (todoH_Tree (ts.drop i) ++ G1)) ∧ ∀ (j : Nat) q, j < i → ts[j]? = some q → ∃ l fs kz p, kzs[j]? = some kz ∧ lz[j]? = some p ∧ (q.1, AO.inst 452 fs) ∈ Fd ∧ fs.lookup (Str.ofString "_keys") = some (.ref l) ∧ fs.lookup (Str.ofString "_next") = some (bv (ts.map fun q : Addr × Addr × Addr => q.1) p.1) ∧ (l, AO.list (kz.map iv)) ∈ Fd) (fun _ _ _ _ => trivial) ?_ ?_ S
    ⟨[], by walk_at "V", by walk_at "V", by walk_at "V", by walk_at "V", by walk_at "V", by walk_at "V", by walk_at "V", rfl, fun j q h => absurd h (Nat.not_lt_zero _)⟩
  · rintro i v m' G' s hi ⟨tk, rfl⟩ ⟨Fd, j1, j2, j3, j4, j5, j6, j7, rfl, jF⟩ S
    have hits : i < ts.length := by omega
    obtain ⟨q, hq⟩ : ∃ q, ts[i]? = some q := ⟨_, List.getElem?_eq_getElem hits⟩
    obtain ⟨kz, hkz⟩ : ∃ kz, kzs[i]? = some kz := ⟨_, List.getElem?_eq_getElem (by omega)⟩
    obtain ⟨a, ha⟩ : ∃ a, ka[i]? = some a := ⟨_, List.getElem?_eq_getElem (by omega)⟩
    obtain ⟨p, hp⟩ : ∃ p, lz[i]? = some p := ⟨_, List.getElem?_eq_getElem (by omega)⟩
    have e0 : ((0 : Int) + (i : Int)).toNat = i := by omega
    have el : (lz.map iv)[((0 : Int) + (i : Int)).toNat]? = some (.int p.1 p.2) := by rw [e0, List.getElem?_map, hp]; rfl
    have ek : (ka.map Value.ref)[((0 : Int) + (i : Int)).toNat]? = some (.ref a) := by rw [e0]; exact item_at ha
    have em : ((ts.map fun q : Addr × Addr × Addr => q.1).map Value.ref)[((0 : Int) + (i : Int)).toNat]? = some (.ref q.1) := by rw [e0]; exact item_at (by rw [List.getElem?_map, hq]; rfl)
    have hkc : (a, AO.list (kz.map iv)) ∈ G1 := g5 _ (hKC.get i a kz ha hkz)
    have hkz2 : kz.length ≤ 2 := hKl kz (List.mem_of_getElem? hkz)
    have hpr := hlr p (List.mem_of_getElem? hp)
    have edrop : todoH_Tree (ts.drop i) = (q.1, .inst 452 (frF_Tree q .none)) :: todoH_Tree (ts.drop (i + 1)) := by
      rw [List.drop_eq_getElem_cons hits]
      rw [List.getElem?_eq_getElem hits] at hq
      rw [Option.some.inj hq]; rfl
    rw [edrop] at S
    have hints : ∀ v ∈ kz.map iv, ∃ n tk, v = .int n tk := fun v hv => by obtain ⟨z, _, rfl⟩ := List.mem_map.mp hv; exact ⟨z.1, z.2, rfl⟩
    have leave : ∀ {c' : Cx} {m2 : Loc} {s : Shared} l fs, Sg c' m2 ((it, ritO (0 + ((i + 1 : Nat) : Int)) ((cnt : Int) - ((i + 1 : Nat) : Int))) :: (mL, .list ((ts.map fun q : Addr × Addr × Addr => q.1).map Value.ref)) :: (l, .list (kz.map iv)) :: (q.1, .inst 452 fs) :: (Fd ++ (todoH_Tree (ts.drop (i + 1)) ++ G1))) s →
        fs.lookup (Str.ofString "_keys") = some (.ref l) → fs.lookup (Str.ofString "_next") = some (bv (ts.map fun q : Addr × Addr × Addr => q.1) p.1) → m2.lookup (Str.ofString "count") = some (.int (cnt : Int) tkc) → m2.lookup (Str.ofString "keys") = some (.ref kL) → m2.lookup (Str.ofString "links") = some (.ref lL) → m2.lookup (Str.ofString "nodes") = some (.ref nl) → m2.lookup (Str.ofString "root") = some (.int root tkr) → m2.lookup (Str.ofString "sound") = some (.bool sb) → m2.lookup (Str.ofString "made") = some (.ref mL) →
        ∃ m G, (∃ Fd : Hp, m.lookup (Str.ofString "count") = some (.int (cnt : Int) tkc) ∧ m.lookup (Str.ofString "keys") = some (.ref kL) ∧ m.lookup (Str.ofString "links") = some (.ref lL) ∧ m.lookup (Str.ofString "nodes") = some (.ref nl) ∧ m.lookup (Str.ofString "root") = some (.int root tkr) ∧ m.lookup (Str.ofString "sound") = some (.bool sb) ∧ m.lookup (Str.ofString "made") = some (.ref mL) ∧
          G = (mL, AO.list ((ts.map fun q : Addr × Addr × Addr => q.1).map Value.ref)) :: (Fd ++ (todoH_Tree (ts.drop (i + 1)) ++ G1)) ∧ ∀ (j : Nat) q, j < i + 1 → ts[j]? = some q → ∃ l fs kz p, kzs[j]? = some kz ∧ lz[j]? = some p ∧ (q.1, AO.inst 452 fs) ∈ Fd ∧ fs.lookup (Str.ofString "_keys") = some (.ref l) ∧ fs.lookup (Str.ofString "_next") = some (bv (ts.map fun q : Addr × Addr × Addr => q.1) p.1) ∧ (l, AO.list (kz.map iv)) ∈ Fd) ∧
          Sg c' m ((it, ritO (0 + ((i + 1 : Nat) : Int)) ((cnt : Int) - ((i + 1 : Nat) : Int))) :: G) s :=
      fun {c' m2 s} l fs S f1 f2 q1 q2 q3 q4 q5 q6 q7 => ⟨_, _, ⟨(l, .list (kz.map iv)) :: (q.1, .inst 452 fs) :: Fd, q1, q2, q3, q4, q5, q6, q7, rfl, fun j q' hj hq' => by
        by_cases hji : j < i
        · obtain ⟨l', fs', kz', p', z1, z2, z3, z4, z5, z6⟩ := jF j q' hji hq'
          exact ⟨l', fs', kz', p', z1, z2, .tail _ (.tail _ z3), z4, z5, .tail _ (.tail _ z6)⟩
        · have : j = i := by omega
          subst this
          rw [hq] at hq'; cases hq'
          exact ⟨l, fs, kz, p, hkz, hp, .tail _ (.head _), f1, f2, .head _⟩⟩, S⟩
    by_cases hneg : p.1 < 0
    · have c1 : decide (p.1 < 0) = true := decide_eq_true hneg
      repeat walk_at "W"
      refine call_of (lawRow (O.le (by omega) (by omega)) hh (by assumption) (by walk_at "H") (by simp; omega) hints ?_)
      intro r rv s S h1 h2
      repeat walk_at "W"
      refine call_of (setLeaf_Tree (q := q) (O.le (by omega) (by omega)) hh (Sg.take1 ‹_› (by walk_at "R")) (by walk_at "H") (by walk_at "H") h1 h2 (by simp; omega) (.inl rfl) ?_)
      intro l fs s f1 f2 S
      repeat walk_at "W"
      exact leave l fs (Sg.sub ‹_› (by walk_at "Q")) f1 (by rw [f2, bv_neg hneg]; rfl) (by walk_at "V") (by walk_at "V") (by walk_at "V") (by walk_at "V") (by walk_at "V") (by walk_at "V") (by walk_at "V")
    · have c1 : decide (p.1 < 0) = false := decide_eq_false hneg
      obtain ⟨b, hb1, hb2⟩ := bv_ge (B := ts.map fun q : Addr × Addr × Addr => q.1) (i := p.1) (by omega) (by rw [List.length_map, hts]; exact hpr.2)
      have em2 : ((ts.map fun q : Addr × Addr × Addr => q.1).map Value.ref)[p.1.toNat]? = some (.ref b) := item_at hb1
      repeat walk_at "W"
      refine call_of (lawRow (O.le (by omega) (by omega)) hh (by assumption) (by walk_at "H") (by simp; omega) hints ?_)
      intro r rv s S h1 h2
      repeat walk_at "W"
      refine call_of (setLeaf_Tree (q := q) (O.le (by omega) (by omega)) hh (Sg.take1 ‹_› (by walk_at "R")) (by walk_at "H") (by walk_at "H") h1 h2 (by simp; omega) (.inr ⟨_, rfl⟩) ?_)
      intro l fs s f1 f2 S
      repeat walk_at "W"
      exact leave l fs (Sg.sub ‹_› (by walk_at "Q")) f1 (by rw [f2, hb2]; rfl) (by walk_at "V") (by walk_at "V") (by walk_at "V") (by walk_at "V") (by walk_at "V") (by walk_at "V") (by walk_at "V")
  · rintro m' G' s ⟨Fd, j1, j2, j3, j4, j5, j6, j7, rfl, jF⟩ S
    have hdr : todoH_Tree (ts.drop cnt) = [] := by rw [List.drop_eq_nil_of_le (by omega)]; rfl
    rw [hdr, List.nil_append] at S
    have hBl : (ts.map fun q : Addr × Addr × Addr => q.1).length = cnt := by simp [hts]
    generalize hbs : (ts.map fun q : Addr × Addr × Addr => q.1) = bs at S hBn hBl jF
    have L : ∀ Z, LeavesAt ((Z ++ ((mL, AO.list (bs.map Value.ref)) :: (Fd ++ G1)))) 452 bs (kzs.map List.length) (lz.map Prod.fst) := by
      intro Z
      refine ⟨hBn, by simp [hkl, hBl], by simp [hlzl, hBl], fun l hl => ?_, fun n hn => ?_, fun i a hi => ?_⟩
      · obtain ⟨p, hp, rfl⟩ := List.mem_map.mp hl
        have := hlr p hp
        omega
      · obtain ⟨k, hk, rfl⟩ := List.mem_map.mp hn
        have := hKl k hk
        omega
      · rw [← hbs, List.getElem?_map] at hi
        obtain ⟨q, hq, rfl⟩ := Option.map_eq_some_iff.mp hi
        have hic : i < cnt := by
          rcases Nat.lt_or_ge i ts.length with z | z
          · omega
          · rw [List.getElem?_eq_none z] at hq; cases hq
        obtain ⟨l, fs, kz, p, z1, z2, z3, z4, z5, z6⟩ := jF i q hic hq
        refine ⟨l, fs, _, List.mem_append_right _ (.tail _ (List.mem_append_left _ z3)), z4, ?_, List.mem_append_right _ (.tail _ (List.mem_append_left _ z6)), ?_⟩
        · rw [z5, List.getD_eq_getElem?_getD, List.getElem?_map, z2]; rfl
        · rw [List.getD_eq_getElem?_getD, List.getElem?_map, z1]; simp
    obtain ⟨f, ks, hsh⟩ : ∃ f ks, mk N d root = .node f ks := by
      cases d with
      | zero => omega
      | succ d =>
        rcases hV with h | h | ⟨p, h1, h2, h3, h4, h5, h6, h7⟩
        · omega
        · omega
        · unfold mk
          rw [if_neg (by omega), if_neg (by omega), h2]
          exact ⟨_, _, rfl⟩
    refine ex_nil (lr_next ?_)
    repeat walk_at "W"
    refine call_of (lawMadeAll_Tree d (X := []) (G := (mL, AO.list (bs.map Value.ref)) :: (Fd ++ G1)) (O.le (by omega) (by omega)) hh ‹_› (.head _) (.tail _ (List.mem_append_right _ g1)) (L []) (hNA.le fun p hp => .tail _ (List.mem_append_right _ (g4 p hp))) (by rw [hBl]; exact hV) (by omega) (by omega) ?_)
    intro a F s S TA
    have S : Sg _ _ (F ++ ((mL, AO.list (bs.map Value.ref)) :: (Fd ++ G1))) _ := S
    rw [hsh] at TA hs
    repeat walk_at "W"
    refine call_of (lawRefused_Tree (O.le (by omega) (by omega)) hh ‹_› (L F) TA ?_)
    intro s S
    rw [hs]
    repeat walk_at "W"
    refine PyProof.Rows.eq_bool ?_
    rw [show ((!sb) == sb) = false by cases sb <;> rfl]
    repeat walk_at "W"
    refine call_of (makeTree (C := 967) (O.le (by omega) (by omega)) (by assumption) (by decide) ?_)
    intro x l v1 v2 s S
    repeat walk_at "W"
    have S : Sg _ _ (((l, AO.list []) :: (x, .inst 967 (treF v1 v2 l .none)) :: F) ++ ((mL, AO.list (bs.map Value.ref)) :: (Fd ++ G1))) _ := ‹_›
    refine call_of (lawRefused_Tree (d := 1) (f := -1) (ks := []) (B := bs) (x := x) (O.le (by omega) (by omega)) hh S (L _) ⟨l, v1, v2, [], [], .tail _ (by rw [bv_neg (by decide)]; exact .head _), .head _, rfl, rfl, by decide, fun p hp => (by cases hp), ⟨by decide, by omega⟩, fun i k hk => (by simp at hk)⟩ ?_)
    intro s S
    refine not_of (truthyB ?_)
    show Q (.ret (.bool true)) s
    exact fin _ s (S.sub (sb_dropF (sb_drop (sb_dropF g7))))
def todoH_TreeSet (ts : List (Addr × Addr × Addr)) : Hp := ts.map fun q => (q.1, .inst 599 (frF_TreeSet q .none))
theorem lawD_TreeSet {name qual : Str} {params : Arguments} {body : List Stmt} {scope : Scope} {dV kV doc pm cdv ct oc : Value} {an od : Option Addr} {osl : Array (Option Value)}
    {base : Heap} {cn : Str} {L fa : Addr} {cd : Value} {a1 a2 a3 a4 : Addr} {os : OsState} {Gt : Hp} {Q : Flow → Shared → Prop} {E : Value → Shared → Prop}
    (ho : (Mine.hd.heap_39 w.params).lookup 1065 = some ⟨oc, od, .func (fnOf name qual params body scope dV kV doc pm an cdv ct), osl⟩)
    (O : Ok (Mine.hd.heap_39 w.params) T A ⟨base, [], [], cn, scope, L, fa, cd, [(Str.ofString "top", a4), (Str.ofString "mapping", a3), (Str.ofString "head", a2), (Str.ofString "script", a1)], os⟩ 200 1000) (hh : A.handled = none)
    {m : Loc} {cnt d : Nat} {tkc tkr : Tok} {kL lL nl : Addr} {ka na : List Addr} {kzs : List (List (Int × Tok))} {lz : List (Int × Tok)} {N : List Nod} {Fk Fn G0 : Hp} {sb : Bool} {root : Int}
    (S : Sg ⟨base, [], [], cn, scope, L, fa, cd, [(Str.ofString "top", a4), (Str.ofString "mapping", a3), (Str.ofString "head", a2), (Str.ofString "script", a1)], os⟩ m ((nl, .list (na.map Value.ref)) :: (kL, .list (ka.map Value.ref)) :: (lL, .list (lz.map iv)) :: (Fn ++ (Fk ++ G0))) s)
    (v1 : m.lookup (Str.ofString "count") = some (.int (cnt : Int) tkc)) (v2 : m.lookup (Str.ofString "keys") = some (.ref kL)) (v3 : m.lookup (Str.ofString "links") = some (.ref lL)) (v4 : m.lookup (Str.ofString "nodes") = some (.ref nl)) (v5 : m.lookup (Str.ofString "root") = some (.int root tkr)) (v6 : m.lookup (Str.ofString "sound") = some (.bool sb))
    (m3 : (a3, AO.cell (some (.bool false))) ∈ G0) (hsb : Sb G0 Gt)
    (hcnt1 : 1 ≤ cnt) (hcnt2 : cnt ≤ 8) (hd1 : 1 ≤ d) (hd3 : d ≤ 3) (hka : ka.length = cnt) (hKC : KC Fk ka kzs) (hKl : ∀ k ∈ kzs, k.length ≤ 2) (hlzl : lz.length = cnt) (hlr : ∀ p ∈ lz, (-1 : Int) ≤ p.1 ∧ p.1 < (cnt : Int))
    (hNA : NodesAt Fn na N) (hNl : N.length ≤ 24) (hV : Vld N cnt d root) (hr : 100 ≤ root) (hs : chk (kzs.map List.length) (lz.map Prod.fst) d (mk N d root) (-1) = sb)
    (fin : ∀ m s, Sg ⟨base, [], [], cn, scope, L, fa, cd, [(Str.ofString "top", a4), (Str.ofString "mapping", a3), (Str.ofString "head", a2), (Str.ofString "script", a1)], os⟩ m Gt s → Q (.ret (.bool true)) s) :
    wpAny (model prog w) A (execs (body.drop 14) (Cx.env ⟨base, [], [], cn, scope, L, fa, cd, [(Str.ofString "top", a4), (Str.ofString "mapping", a3), (Str.ofString "head", a2), (Str.ofString "script", a1)], os⟩)) Q E s := by
  have e := (show (Mine.hd.heap_39 w.params).lookup 1065 = some ⟨_, _, .func (fnOf _ _ _ _ _ _ _ _ _ _ _ _), _⟩ by k_is).symm.trans ho
  injection e with e
  injection e with _ _ e _
  injection e with e
  simp only [fnOf, FuncData.mk.injEq, FuncBody.stmts.injEq] at e
  obtain ⟨-, -, -, rfl, rfl, -⟩ := e
  clear ho
  simp only [List.drop_succ_cons, List.drop_zero]
  refine gAssignComp S (by rfl) (by rfl) (by decide) (by rfl) (by decide) (by rfl) (by rfl) (by rfl) ?_
  repeat walk_at "W"
  refine gIterRange (N := cnt) (by assumption) (by assumption) (by omega) (by omega) (by split <;> omega) ?_
  intro it s S
  refine ⟨it, fun i => ritO (0 + (i : Int)) ((cnt : Int) - i), cnt, _, _, _, _, fun i vs G' => ∃ ts, vs = (ts.map fun q : Addr × Addr × Addr => q.1).map Value.ref ∧ ts.length = i ∧ G' = todoH_TreeSet ts ++ ((nl, .list (na.map Value.ref)) :: (kL, .list (ka.map Value.ref)) :: (lL, .list (lz.map iv)) :: (Fn ++ (Fk ++ G0))), rfl, srcRange hh, ritO0, le_sz (by omega), S, ⟨[], rfl, rfl, rfl⟩, fun _ _ _ _ => trivial, ?_, ?_⟩
  · rintro i v vs C D G' s hi ⟨tk, rfl⟩ ⟨ts, rfl, hts, rfl⟩ S E'
    repeat walk_at "W"
    refine call_of (mkLeaf_TreeSet (O.le (by omega) (by omega)) (by assumption) ?_)
    intro q s S
    refine ⟨_, ⟨ts ++ [q], by rw [List.map_append, List.map_append]; rfl, by simp [hts], rfl⟩, Sg.sub S ?_⟩
    rw [show todoH_TreeSet (ts ++ [q]) = todoH_TreeSet ts ++ [(q.1, .inst 599 (frF_TreeSet q .none))] by simp [todoH_TreeSet], List.append_assoc]
    show Sb _ ((C, _) :: (D, _) :: (it, _) :: (todoH_TreeSet ts ++ (q.1, .inst 599 (frF_TreeSet q .none)) :: ((nl, .list (na.map Value.ref)) :: (kL, .list (ka.map Value.ref)) :: (lL, .list (lz.map iv)) :: (Fn ++ (Fk ++ G0)))))
    walk_at "Q"
  rintro mL vs G' s ⟨ts, rfl, hts, rfl⟩ S' s S
  clear S'
  have hBn : (ts.map fun q : Addr × Addr × Addr => q.1).Nodup := by
    have := S.nd.tail.app.1
    unfold Nd todoH_TreeSet at this
    rw [List.map_map] at this
    exact this
  have hkl : kzs.length = cnt := by rw [← hka]; exact hKC.len.symm
  generalize hG1 : (nl, AO.list (na.map Value.ref)) :: (kL, AO.list (ka.map Value.ref)) :: (lL, AO.list (lz.map iv)) :: (Fn ++ (Fk ++ G0)) = G1 at S
  have g1 : (nl, AO.list (na.map Value.ref)) ∈ G1 := by rw [← hG1]; exact .head _
  have g2 : (kL, AO.list (ka.map Value.ref)) ∈ G1 := by rw [← hG1]; exact .tail _ (.head _)
  have g3 : (lL, AO.list (lz.map iv)) ∈ G1 := by rw [← hG1]; exact .tail _ (.tail _ (.head _))
  have g4 : ∀ p ∈ Fn, p ∈ G1 := fun p hp => by rw [← hG1]; exact .tail _ (.tail _ (.tail _ (List.mem_append_left _ hp)))
  have g5 : ∀ p ∈ Fk, p ∈ G1 := fun p hp => by rw [← hG1]; exact .tail _ (.tail _ (.tail _ (List.mem_append_right _ (List.mem_append_left _ hp))))
  have g6 : (a3, AO.cell (some (.bool false))) ∈ G1 := by rw [← hG1]; exact .tail _ (.tail _ (.tail _ (List.mem_append_right _ (List.mem_append_right _ m3))))
  have g7 : Sb G1 Gt := by
    rw [← hG1]
    obtain ⟨Z, hZ⟩ := hsb
    exact sb_drop (sb_drop (sb_drop (sb_dropF (sb_dropF ⟨Z, hZ⟩))))
  repeat walk_at "W"
  refine gIterRange (N := cnt) (by assumption) (by assumption) (by omega) (by omega) (by split <;> omega) ?_
  intro it s S
  refine gFor (srcRange hh) (fun i m' G' => ∃ Fd, m'.lookup (Str.ofString "count") = some (.int (cnt : Int) tkc) ∧ m'.lookup (Str.ofString "keys") = some (.ref kL) ∧ m'.lookup (Str.ofString "links") = some (.ref lL) ∧ m'.lookup (Str.ofString "nodes") = some (.ref nl) ∧ m'.lookup (Str.ofString "root") = some (.int root tkr) ∧ m'.lookup (Str.ofString "sound") = some (.bool sb) ∧ m'.lookup (Str.ofString "made") = some (.ref mL) ∧
    G' = (mL, .list ((ts.map fun q : Addr × Addr × Addr => q.1).map Value.ref)) :: (Fd ++ (todoH_TreeSet (ts.drop i) ++ G1)) ∧ ∀ (j : Nat) q, j < i → ts[j]? = some q → ∃ l fs kz p, kzs[j]? = some kz ∧ lz[j]? = some p ∧ (q.1, AO.inst 599 fs) ∈ Fd ∧ fs.lookup (Str.ofString "_keys") = some (.ref l) ∧ fs.lookup (Str.ofString "_next") = some (bv (ts.map fun q : Addr × Addr × Addr => q.1) p.1) ∧ (l, AO.list (kz.map iv)) ∈ Fd) (fun _ _ _ _ => trivial) ?_ ?_ S
    ⟨[], by walk_at "V", by walk_at "V", by walk_at "V", by walk_at "V", by walk_at "V", by walk_at "V", by walk_at "V", rfl, fun j q h => absurd h (Nat.not_lt_zero _)⟩
  · rintro i v m' G' s hi ⟨tk, rfl⟩ ⟨Fd, j1, j2, j3, j4, j5, j6, j7, rfl, jF⟩ S
    have hits : i < ts.length := by omega
    obtain ⟨q, hq⟩ : ∃ q, ts[i]? = some q := ⟨_, List.getElem?_eq_getElem hits⟩
    obtain ⟨kz, hkz⟩ : ∃ kz, kzs[i]? = some kz := ⟨_, List.getElem?_eq_getElem (by omega)⟩
    obtain ⟨a, ha⟩ : ∃ a, ka[i]? = some a := ⟨_, List.getElem?_eq_getElem (by omega)⟩
    obtain ⟨p, hp⟩ : ∃ p, lz[i]? = some p := ⟨_, List.getElem?_eq_getElem (by omega)⟩
    have e0 : ((0 : Int) + (i : Int)).toNat = i := by omega
    have el : (lz.map iv)[((0 : Int) + (i : Int)).toNat]? = some (.int p.1 p.2) := by rw [e0, List.getElem?_map, hp]; rfl
    have ek : (ka.map Value.ref)[((0 : Int) + (i : Int)).toNat]? = some (.ref a) := by rw [e0]; exact item_at ha
    have em : ((ts.map fun q : Addr × Addr × Addr => q.1).map Value.ref)[((0 : Int) + (i : Int)).toNat]? = some (.ref q.1) := by rw [e0]; exact item_at (by rw [List.getElem?_map, hq]; rfl)
    have hkc : (a, AO.list (kz.map iv)) ∈ G1 := g5 _ (hKC.get i a kz ha hkz)
    have hkz2 : kz.length ≤ 2 := hKl kz (List.mem_of_getElem? hkz)
    have hpr := hlr p (List.mem_of_getElem? hp)
    have edrop : todoH_TreeSet (ts.drop i) = (q.1, .inst 599 (frF_TreeSet q .none)) :: todoH_TreeSet (ts.drop (i + 1)) := by
      rw [List.drop_eq_getElem_cons hits]
      rw [List.getElem?_eq_getElem hits] at hq
      rw [Option.some.inj hq]; rfl
    rw [edrop] at S
    have hints : ∀ v ∈ kz.map iv, ∃ n tk, v = .int n tk := fun v hv => by obtain ⟨z, _, rfl⟩ := List.mem_map.mp hv; exact ⟨z.1, z.2, rfl⟩
    have leave : ∀ {c' : Cx} {m2 : Loc} {s : Shared} l fs, Sg c' m2 ((it, ritO (0 + ((i + 1 : Nat) : Int)) ((cnt : Int) - ((i + 1 : Nat) : Int))) :: (mL, .list ((ts.map fun q : Addr × Addr × Addr => q.1).map Value.ref)) :: (l, .list (kz.map iv)) :: (q.1, .inst 599 fs) :: (Fd ++ (todoH_TreeSet (ts.drop (i + 1)) ++ G1))) s →
        fs.lookup (Str.ofString "_keys") = some (.ref l) → fs.lookup (Str.ofString "_next") = some (bv (ts.map fun q : Addr × Addr × Addr => q.1) p.1) → m2.lookup (Str.ofString "count") = some (.int (cnt : Int) tkc) → m2.lookup (Str.ofString "keys") = some (.ref kL) → m2.lookup (Str.ofString "links") = some (.ref lL) → m2.lookup (Str.ofString "nodes") = some (.ref nl) → m2.lookup (Str.ofString "root") = some (.int root tkr) → m2.lookup (Str.ofString "sound") = some (.bool sb) → m2.lookup (Str.ofString "made") = some (.ref mL) →
        ∃ m G, (∃ Fd : Hp, m.lookup (Str.ofString "count") = some (.int (cnt : Int) tkc) ∧ m.lookup (Str.ofString "keys") = some (.ref kL) ∧ m.lookup (Str.ofString "links") = some (.ref lL) ∧ m.lookup (Str.ofString "nodes") = some (.ref nl) ∧ m.lookup (Str.ofString "root") = some (.int root tkr) ∧ m.lookup (Str.ofString "sound") = some (.bool sb) ∧ m.lookup (Str.ofString "made") = some (.ref mL) ∧
          G = (mL, AO.list ((ts.map fun q : Addr × Addr × Addr => q.1).map Value.ref)) :: (Fd ++ (todoH_TreeSet (ts.drop (i + 1)) ++ G1)) ∧ ∀ (j : Nat) q, j < i + 1 → ts[j]? = some q → ∃ l fs kz p, kzs[j]? = some kz ∧ lz[j]? = some p ∧ (q.1, AO.inst 599 fs) ∈ Fd ∧ fs.lookup (Str.ofString "_keys") = some (.ref l) ∧ fs.lookup (Str.ofString "_next") = some (bv (ts.map fun q : Addr × Addr × Addr => q.1) p.1) ∧ (l, AO.list (kz.map iv)) ∈ Fd) ∧
          Sg c' m ((it, ritO (0 + ((i + 1 : Nat) : Int)) ((cnt : Int) - ((i + 1 : Nat) : Int))) :: G) s :=
      fun {c' m2 s} l fs S f1 f2 q1 q2 q3 q4 q5 q6 q7 => ⟨_, _, ⟨(l, .list (kz.map iv)) :: (q.1, .inst 599 fs) :: Fd, q1, q2, q3, q4, q5, q6, q7, rfl, fun j q' hj hq' => by
        by_cases hji : j < i
        · obtain ⟨l', fs', kz', p', z1, z2, z3, z4, z5, z6⟩ := jF j q' hji hq'
          exact ⟨l', fs', kz', p', z1, z2, .tail _ (.tail _ z3), z4, z5, .tail _ (.tail _ z6)⟩
        · have : j = i := by omega
          subst this
          rw [hq] at hq'; cases hq'
          exact ⟨l, fs, kz, p, hkz, hp, .tail _ (.head _), f1, f2, .head _⟩⟩, S⟩
    by_cases hneg : p.1 < 0
    · have c1 : decide (p.1 < 0) = true := decide_eq_true hneg
      repeat walk_at "W"
      refine call_of (lawRow (O.le (by omega) (by omega)) hh (by assumption) (by walk_at "H") (by simp; omega) hints ?_)
      intro r rv s S h1 h2
      repeat walk_at "W"
      refine call_of (setLeaf_TreeSet (q := q) (O.le (by omega) (by omega)) hh (Sg.take1 ‹_› (by walk_at "R")) (by walk_at "H") (by walk_at "H") h1 h2 (by simp; omega) (.inl rfl) ?_)
      intro l fs s f1 f2 S
      repeat walk_at "W"
      exact leave l fs (Sg.sub ‹_› (by walk_at "Q")) f1 (by rw [f2, bv_neg hneg]; rfl) (by walk_at "V") (by walk_at "V") (by walk_at "V") (by walk_at "V") (by walk_at "V") (by walk_at "V") (by walk_at "V")
    · have c1 : decide (p.1 < 0) = false := decide_eq_false hneg
      obtain ⟨b, hb1, hb2⟩ := bv_ge (B := ts.map fun q : Addr × Addr × Addr => q.1) (i := p.1) (by omega) (by rw [List.length_map, hts]; exact hpr.2)
      have em2 : ((ts.map fun q : Addr × Addr × Addr => q.1).map Value.ref)[p.1.toNat]? = some (.ref b) := item_at hb1
      repeat walk_at "W"
      refine call_of (lawRow (O.le (by omega) (by omega)) hh (by assumption) (by walk_at "H") (by simp; omega) hints ?_)
      intro r rv s S h1 h2
      repeat walk_at "W"
      refine call_of (setLeaf_TreeSet (q := q) (O.le (by omega) (by omega)) hh (Sg.take1 ‹_› (by walk_at "R")) (by walk_at "H") (by walk_at "H") h1 h2 (by simp; omega) (.inr ⟨_, rfl⟩) ?_)
      intro l fs s f1 f2 S
      repeat walk_at "W"
      exact leave l fs (Sg.sub ‹_› (by walk_at "Q")) f1 (by rw [f2, hb2]; rfl) (by walk_at "V") (by walk_at "V") (by walk_at "V") (by walk_at "V") (by walk_at "V") (by walk_at "V") (by walk_at "V")
  · rintro m' G' s ⟨Fd, j1, j2, j3, j4, j5, j6, j7, rfl, jF⟩ S
    have hdr : todoH_TreeSet (ts.drop cnt) = [] := by rw [List.drop_eq_nil_of_le (by omega)]; rfl
    rw [hdr, List.nil_append] at S
    have hBl : (ts.map fun q : Addr × Addr × Addr => q.1).length = cnt := by simp [hts]
    generalize hbs : (ts.map fun q : Addr × Addr × Addr => q.1) = bs at S hBn hBl jF
    have L : ∀ Z, LeavesAt ((Z ++ ((mL, AO.list (bs.map Value.ref)) :: (Fd ++ G1)))) 599 bs (kzs.map List.length) (lz.map Prod.fst) := by
      intro Z
      refine ⟨hBn, by simp [hkl, hBl], by simp [hlzl, hBl], fun l hl => ?_, fun n hn => ?_, fun i a hi => ?_⟩
      · obtain ⟨p, hp, rfl⟩ := List.mem_map.mp hl
        have := hlr p hp
        omega
      · obtain ⟨k, hk, rfl⟩ := List.mem_map.mp hn
        have := hKl k hk
        omega
      · rw [← hbs, List.getElem?_map] at hi
        obtain ⟨q, hq, rfl⟩ := Option.map_eq_some_iff.mp hi
        have hic : i < cnt := by
          rcases Nat.lt_or_ge i ts.length with z | z
          · omega
          · rw [List.getElem?_eq_none z] at hq; cases hq
        obtain ⟨l, fs, kz, p, z1, z2, z3, z4, z5, z6⟩ := jF i q hic hq
        refine ⟨l, fs, _, List.mem_append_right _ (.tail _ (List.mem_append_left _ z3)), z4, ?_, List.mem_append_right _ (.tail _ (List.mem_append_left _ z6)), ?_⟩
        · rw [z5, List.getD_eq_getElem?_getD, List.getElem?_map, z2]; rfl
        · rw [List.getD_eq_getElem?_getD, List.getElem?_map, z1]; simp
    obtain ⟨f, ks, hsh⟩ : ∃ f ks, mk N d root = .node f ks := by
      cases d with
      | zero => omega
      | succ d =>
        rcases hV with h | h | ⟨p, h1, h2, h3, h4, h5, h6, h7⟩
        · omega
        · omega
        · unfold mk
          rw [if_neg (by omega), if_neg (by omega), h2]
          exact ⟨_, _, rfl⟩
    refine ex_nil (lr_next ?_)
    repeat walk_at "W"
    refine call_of (lawMadeAll_TreeSet d (X := []) (G := (mL, AO.list (bs.map Value.ref)) :: (Fd ++ G1)) (O.le (by omega) (by omega)) hh ‹_› (.head _) (.tail _ (List.mem_append_right _ g1)) (L []) (hNA.le fun p hp => .tail _ (List.mem_append_right _ (g4 p hp))) (by rw [hBl]; exact hV) (by omega) (by omega) ?_)
    intro a F s S TA
    have S : Sg _ _ (F ++ ((mL, AO.list (bs.map Value.ref)) :: (Fd ++ G1))) _ := S
    rw [hsh] at TA hs
    repeat walk_at "W"
    refine call_of (lawRefused_TreeSet (O.le (by omega) (by omega)) hh ‹_› (L F) TA ?_)
    intro s S
    rw [hs]
    repeat walk_at "W"
    refine PyProof.Rows.eq_bool ?_
    rw [show ((!sb) == sb) = false by cases sb <;> rfl]
    repeat walk_at "W"
    refine call_of (makeTree (C := 1000) (O.le (by omega) (by omega)) (by assumption) (by decide) ?_)
    intro x l v1 v2 s S
    repeat walk_at "W"
    have S : Sg _ _ (((l, AO.list []) :: (x, .inst 1000 (treF v1 v2 l .none)) :: F) ++ ((mL, AO.list (bs.map Value.ref)) :: (Fd ++ G1))) _ := ‹_›
    refine call_of (lawRefused_TreeSet (d := 1) (f := -1) (ks := []) (B := bs) (x := x) (O.le (by omega) (by omega)) hh S (L _) ⟨l, v1, v2, [], [], .tail _ (by rw [bv_neg (by decide)]; exact .head _), .head _, rfl, rfl, by decide, fun p hp => (by cases hp), ⟨by decide, by omega⟩, fun i k hk => (by simp at hk)⟩ ?_)
    intro s S
    refine not_of (truthyB ?_)
    show Q (.ret (.bool true)) s
    exact fin _ s (S.sub (sb_dropF (sb_drop (sb_dropF g7))))
theorem lawD {name qual : Str} {params : Arguments} {body : List Stmt} {scope : Scope} {dV kV doc pm cdv ct oc : Value} {an od : Option Addr} {osl : Array (Option Value)}
    {base : Heap} {cn : Str} {L fa : Addr} {cd : Value} {a1 a2 a3 a4 : Addr} {os : OsState} {Gt : Hp} {Q : Flow → Shared → Prop} {E : Value → Shared → Prop}
    (ho : (Mine.hd.heap_39 w.params).lookup 1065 = some ⟨oc, od, .func (fnOf name qual params body scope dV kV doc pm an cdv ct), osl⟩)
    (O : Ok (Mine.hd.heap_39 w.params) T A ⟨base, [], [], cn, scope, L, fa, cd, [(Str.ofString "top", a4), (Str.ofString "mapping", a3), (Str.ofString "head", a2), (Str.ofString "script", a1)], os⟩ 200 1000) (hh : A.handled = none)
    {m : Loc} {cnt d : Nat} {tkc tkr : Tok} {kL lL nl : Addr} {ka na : List Addr} {kzs : List (List (Int × Tok))} {lz : List (Int × Tok)} {N : List Nod} {Fk Fn G0 : Hp} {mp sb : Bool} {root : Int}
    (S : Sg ⟨base, [], [], cn, scope, L, fa, cd, [(Str.ofString "top", a4), (Str.ofString "mapping", a3), (Str.ofString "head", a2), (Str.ofString "script", a1)], os⟩ m ((nl, .list (na.map Value.ref)) :: (kL, .list (ka.map Value.ref)) :: (lL, .list (lz.map iv)) :: (Fn ++ (Fk ++ G0))) s)
    (v1 : m.lookup (Str.ofString "count") = some (.int (cnt : Int) tkc)) (v2 : m.lookup (Str.ofString "keys") = some (.ref kL)) (v3 : m.lookup (Str.ofString "links") = some (.ref lL)) (v4 : m.lookup (Str.ofString "nodes") = some (.ref nl)) (v5 : m.lookup (Str.ofString "root") = some (.int root tkr)) (v6 : m.lookup (Str.ofString "sound") = some (.bool sb))
    (m3 : (a3, AO.cell (some (.bool mp))) ∈ G0) (hsb : Sb G0 Gt)
    (hcnt1 : 1 ≤ cnt) (hcnt2 : cnt ≤ 8) (hd1 : 1 ≤ d) (hd3 : d ≤ 3) (hka : ka.length = cnt) (hKC : KC Fk ka kzs) (hKl : ∀ k ∈ kzs, k.length ≤ 2) (hlzl : lz.length = cnt) (hlr : ∀ p ∈ lz, (-1 : Int) ≤ p.1 ∧ p.1 < (cnt : Int))
    (hNA : NodesAt Fn na N) (hNl : N.length ≤ 24) (hV : Vld N cnt d root) (hr : 100 ≤ root) (hs : chk (kzs.map List.length) (lz.map Prod.fst) d (mk N d root) (-1) = sb)
    (fin : ∀ m s, Sg ⟨base, [], [], cn, scope, L, fa, cd, [(Str.ofString "top", a4), (Str.ofString "mapping", a3), (Str.ofString "head", a2), (Str.ofString "script", a1)], os⟩ m Gt s → Q (.ret (.bool true)) s) :
    wpAny (model prog w) A (execs (body.drop 14) (Cx.env ⟨base, [], [], cn, scope, L, fa, cd, [(Str.ofString "top", a4), (Str.ofString "mapping", a3), (Str.ofString "head", a2), (Str.ofString "script", a1)], os⟩)) Q E s := by
  cases mp with
  | true => exact lawD_Tree ho O hh S v1 v2 v3 v4 v5 v6 m3 hsb hcnt1 hcnt2 hd1 hd3 hka hKC hKl hlzl hlr hNA hNl hV hr hs fin
  | false => exact lawD_TreeSet ho O hh S v1 v2 v3 v4 v5 v6 m3 hsb hcnt1 hcnt2 hd1 hd3 hka hKC hKl hlzl hlr hNA hNl hV hr hs fin
end
end

section
theorem linksOk_iff {l : List Int} {cnt : Nat} (h : l.length = cnt) (h1 : 1 ≤ cnt) : linksOk l 0 cnt (-1) ↔ l = upTo (cnt - 1) ++ [-1] := by
  have hu : (upTo (cnt - 1) ++ [(-1 : Int)]).length = cnt := by simp [upTo_len]; omega
  have hg : ∀ i, i < cnt → (upTo (cnt - 1) ++ [(-1 : Int)])[i]? = some (if i + 1 < cnt then ((i + 1 : Nat) : Int) else -1) := by
    intro i hi
    by_cases q : i + 1 < cnt
    · rw [if_pos q, List.getElem?_append_left (by rw [upTo_len]; omega), upTo, List.getElem?_map, List.getElem?_range (by omega)]; rfl
    · have : i = (upTo (cnt - 1)).length := by rw [upTo_len]; omega
      rw [if_neg q, List.getElem?_append_right (by omega), this, Nat.sub_self]; rfl
  constructor
  · intro k
    apply List.ext_getElem?
    intro i
    by_cases hi : i < cnt
    · have := k i (Nat.zero_le _) (by omega)
      rw [List.getD_eq_getElem?_getD, List.getElem?_eq_getElem (by omega)] at this
      rw [hg i hi, List.getElem?_eq_getElem (by omega)]
      simp only [Option.getD_some, Nat.zero_add] at this
      rw [this]
    · rw [List.getElem?_eq_none (by omega), List.getElem?_eq_none (by omega)]
  · rintro rfl i _ hi
    rw [List.getD_eq_getElem?_getD, hg i (by omega)]
    simp
theorem lensOk_iff {kzs : List (List (Int × Tok))} {cnt : Nat} (h : kzs.length = cnt) : lensOk (kzs.map List.length) 0 cnt ↔ (!kzs.any (·.isEmpty)) = true := by
  simp only [Bool.not_eq_true', List.any_eq_false]
  constructor
  · intro k x hx
    obtain ⟨i, hi, rfl⟩ := List.mem_iff_getElem.mp hx
    have := k i (Nat.zero_le _) (by omega)
    rw [List.getD_eq_getElem?_getD, List.getElem?_map, List.getElem?_eq_getElem hi] at this
    simp only [Option.map_some, Option.getD_some] at this
    intro q
    rw [List.isEmpty_iff.mp q] at this
    simp at this
  · intro k i _ hi
    rw [List.getD_eq_getElem?_getD, List.getElem?_map, List.getElem?_eq_getElem (by omega)]
    simp only [Option.map_some, Option.getD_some]
    have := k _ (List.getElem_mem (l := kzs) (n := i) (by omega))
    cases q : kzs[i] with
    | nil => rw [q] at this; simp at this
    | cons _ _ => simp
theorem nodesOk_iff {X : List NdC} : nodesOk (X.map NdC.nod) 0 X.length ↔ (X.all fun c => c.f == c.due) = true := by
  rw [List.all_eq_true]
  constructor
  · intro k c hc
    obtain ⟨i, hi, rfl⟩ := List.mem_iff_getElem.mp hc
    have := k i (Nat.zero_le _) hi X[i].nod (by rw [List.getElem?_map, List.getElem?_eq_getElem hi]; rfl)
    exact beq_iff_eq.mpr this
  · intro k i _ hi p hp
    rw [List.getElem?_map, List.getElem?_eq_getElem hi] at hp
    cases hp
    exact beq_iff_eq.mp (k _ (List.getElem_mem hi))
theorem ndH_mem {X : List NdC} {c : NdC} (h : c ∈ X) : (c.na, AO.list [.int c.f c.tf, .ref c.kl, .int c.due c.td]) ∈ ndH X ∧ (c.kl, AO.list (c.kids.map iv)) ∈ ndH X :=
  ⟨List.mem_flatMap.mpr ⟨c, h, .head _⟩, List.mem_flatMap.mpr ⟨c, h, .tail _ (.head _)⟩⟩
theorem permA {α : Type _} {x y z u v : α} {P Q : List α} : List.Perm (x :: y :: z :: ((P ++ [u, v]) ++ Q)) (u :: v :: x :: y :: z :: (P ++ Q)) := by
  have h : List.Perm ((P ++ [u, v]) ++ Q) ([u, v] ++ (P ++ Q)) := by
    rw [List.append_assoc]
    exact List.perm_append_comm_assoc P [u, v] Q
  exact ((h.cons z).cons y).cons x |>.trans (List.perm_append_comm_assoc [x, y, z] [u, v] (P ++ Q))
section
variable {prog : Program} {w : World} {T : Tp} {A : Around} {s : Shared}
theorem joinT {A : Around} {c : Cx} {m : Loc} {G : Hp} {t : Sem Bool} {Q : Bool → Shared → Prop} {E : Value → Shared → Prop} {P : Bool → Prop} (S : Sg c m G s) (h : wpAny (model prog w) A t (fun b s' => P b ∧ Sg c m G s') E s) (k : ∀ b s', P b → Sg c m G s' → Q b s') : wpAny (model prog w) A t Q E s :=
  wpAny_mono h (fun b s' h => k b s' h.1 h.2) (fun _ _ x => x)
theorem lawC3 {name qual : Str} {params : Arguments} {body : List Stmt} {scope : Scope} {dV kV doc pm cdv ct oc : Value} {an od : Option Addr} {osl : Array (Option Value)}
    {base : Heap} {cn : Str} {L fa : Addr} {cd : Value} {a1 a2 a3 a4 : Addr} {os : OsState} {Gt : Hp} {Q : Flow → Shared → Prop} {E : Value → Shared → Prop}
    (ho : (Mine.hd.heap_39 w.params).lookup 1065 = some ⟨oc, od, .func (fnOf name qual params body scope dV kV doc pm an cdv ct), osl⟩)
    (O : Ok (Mine.hd.heap_39 w.params) T A ⟨base, [], [], cn, scope, L, fa, cd, [(Str.ofString "top", a4), (Str.ofString "mapping", a3), (Str.ofString "head", a2), (Str.ofString "script", a1)], os⟩ 200 1000) (hh : A.handled = none)
    {m : Loc} {cnt d : Nat} {tkc tkh tkr : Tok} {kL lL nl : Addr} {ka : List Addr} {kzs : List (List (Int × Tok))} {lz : List (Int × Tok)} {X : List NdC} {Fk G0 : Hp} {mp sb : Bool} {hd root : Int}
    (S : Sg ⟨base, [], [], cn, scope, L, fa, cd, [(Str.ofString "top", a4), (Str.ofString "mapping", a3), (Str.ofString "head", a2), (Str.ofString "script", a1)], os⟩ m ((nl, .list (ndL X)) :: (kL, .list (ka.map Value.ref)) :: (lL, .list (lz.map iv)) :: (ndH X ++ (Fk ++ G0))) s)
    (v1 : m.lookup (Str.ofString "count") = some (.int (cnt : Int) tkc)) (v2 : m.lookup (Str.ofString "keys") = some (.ref kL)) (v3 : m.lookup (Str.ofString "links") = some (.ref lL)) (v4 : m.lookup (Str.ofString "nodes") = some (.ref nl)) (v5 : m.lookup (Str.ofString "root") = some (.int root tkr))
    (v6 : m.lookup (Str.ofString "sound") = some (.bool sb)) (hs : chk (kzs.map List.length) (lz.map Prod.fst) d (mk (X.map NdC.nod) d root) (-1) = sb)
    (m2 : (a2, AO.cell (some (.int hd tkh))) ∈ G0) (m3 : (a3, AO.cell (some (.bool mp))) ∈ G0) (hsb : Sb G0 Gt)
    (hcnt1 : 1 ≤ cnt) (hcnt2 : cnt ≤ 8) (hd1 : 1 ≤ d) (hd3 : d ≤ 3) (hka : ka.length = cnt) (hKC : KC Fk ka kzs) (hKl : ∀ k ∈ kzs, k.length ≤ 2) (hlzl : lz.length = cnt) (hlr : ∀ p ∈ lz, (-1 : Int) ≤ p.1 ∧ p.1 < (cnt : Int))
    (hN : Nest (X.map NdC.nod) d root 0 cnt 0 X.length) (hXl : X.length ≤ 24) (hXf : ∀ c ∈ X, (-1 : Int) ≤ c.f ∧ c.f < (cnt : Int))
    (fin : ∀ m s, Sg ⟨base, [], [], cn, scope, L, fa, cd, [(Str.ofString "top", a4), (Str.ofString "mapping", a3), (Str.ofString "head", a2), (Str.ofString "script", a1)], os⟩ m Gt s → Q (.ret (.bool true)) s) :
    wpAny (model prog w) A (execs (body.drop 12) (Cx.env ⟨base, [], [], cn, scope, L, fa, cd, [(Str.ofString "top", a4), (Str.ofString "mapping", a3), (Str.ofString "head", a2), (Str.ofString "script", a1)], os⟩)) Q E s := by
  have e := (show (Mine.hd.heap_39 w.params).lookup 1065 = some ⟨_, _, .func (fnOf _ _ _ _ _ _ _ _ _ _ _ _), _⟩ by k_is).symm.trans ho
  injection e with e
  injection e with _ _ e _
  injection e with e
  simp only [fnOf, FuncData.mk.injEq, FuncBody.stmts.injEq] at e
  obtain ⟨-, -, -, rfl, rfl, -⟩ := e
  have ho' := ho
  clear ho
  simp only [List.drop_succ_cons, List.drop_zero]
  have hNAg : ∀ Y : List NdC, NodesAt (ndH Y) (Y.map NdC.na) (Y.map NdC.nod) := fun Y => ⟨by simp, fun j p hp => by
    rw [List.getElem?_map] at hp
    obtain ⟨c, hc, rfl⟩ := Option.map_eq_some_iff.mp hp
    have hm := ndH_mem (List.mem_of_getElem? hc)
    exact ⟨c.na, c.kl, _, _, _, by rw [List.getElem?_map, hc]; rfl, hm.1, ⟨_, rfl⟩, ⟨_, rfl⟩, hm.2, by simp [NdC.nod], fun i n hn => by
      simp only [NdC.nod, List.getElem?_map] at hn
      obtain ⟨z, hz, rfl⟩ := Option.map_eq_some_iff.mp hn
      exact ⟨z.2, by rw [List.getElem?_map, hz]; rfl⟩⟩⟩
  have eLg : ∀ Y : List NdC, ndL Y = (Y.map NdC.na).map Value.ref := fun Y => by simp [ndL]
  have hfN : ∀ p ∈ X.map NdC.nod, (-1 : Int) ≤ p.f ∧ p.f < (cnt : Int) := fun p hp => by
    obtain ⟨c, hc, rfl⟩ := List.mem_map.mp hp; exact hXf c hc
  have hV0 := hN.vld hfN (by omega) (by omega)
  have hXlen0 : 0 < X.length := by
    cases d with
    | zero => omega
    | succ d => exact hN.some
  obtain ⟨Xi, c, rfl⟩ : ∃ Xi c, X = Xi ++ [c] := ⟨X.dropLast, X.getLast (List.length_pos_iff.mp hXlen0), (List.dropLast_concat_getLast _).symm⟩
  have hlast : (Xi ++ [c]).length = Xi.length + 1 := by simp
  have hc : (Xi ++ [c])[Xi.length]? = some c := by simp
  have hroot : root = (Xi.length : Int) + 100 := by
    cases d with
    | zero => omega
    | succ d => have := hN.root; rw [hlast] at this; simpa using this
  obtain ⟨d', rfl⟩ : ∃ d', d = d' + 1 := ⟨d - 1, by omega⟩
  obtain ⟨p, m₁, q1, q2, q3, q4⟩ := hN.inv
  have : m₁ = Xi.length := by rw [hlast] at q1; omega
  subst this
  have hpc : p = c.nod := by rw [List.getElem?_map, hc] at q2; exact (Option.some.inj q2).symm
  subst hpc
  have hkn : c.kids ≠ [] := fun h => q3 (by simp [NdC.nod, h])
  have hkl := q4.lenLe
  have hkl' : c.kids.length ≤ 8 := by simp [NdC.nod] at hkl; omega
  obtain ⟨z0, kr, hkr⟩ : ∃ z0 kr, c.kids = z0 :: kr := by cases h : c.kids with | nil => exact absurd h hkn | cons a b => exact ⟨a, b, rfl⟩
  have er : (ndL (Xi ++ [c]))[(root - 100).toNat]? = some (.ref c.na) := by rw [show (root - 100).toNat = Xi.length by omega]; exact ndL_get hc
  have hr1 : 0 ≤ root - 100 := by omega
  have hr2 : root - 100 < 2 ^ 63 := by omega
  have e0 : (c.kids.map iv)[(0 : Int).toNat]? = some (iv z0) := by rw [hkr]; rfl
  have hXl' : Xi.length + 1 ≤ 24 := by simpa using hXl
  rw [ndH_snoc] at S
  have S : Sg _ m ((c.na, .list [.int c.f c.tf, .ref c.kl, .int c.due c.td]) :: (c.kl, .list (c.kids.map iv)) :: (nl, .list (ndL (Xi ++ [c]))) :: (kL, .list (ka.map Value.ref)) :: (lL, .list (lz.map iv)) :: (ndH Xi ++ (Fk ++ G0))) s := S.perm permA
  /- whatever the root is now -/
  have toD : ∀ (m2 : Loc) (s : Shared) (c' : NdC) (sb' : Bool), c'.na = c.na → Sg _ m2 ((c'.na, .list [.int c'.f c'.tf, .ref c'.kl, .int c'.due c'.td]) :: (c'.kl, .list (c'.kids.map iv)) :: (nl, .list (ndL (Xi ++ [c]))) :: (kL, .list (ka.map Value.ref)) :: (lL, .list (lz.map iv)) :: (ndH Xi ++ (Fk ++ G0))) s →
      m2.lookup (Str.ofString "count") = some (.int (cnt : Int) tkc) → m2.lookup (Str.ofString "keys") = some (.ref kL) → m2.lookup (Str.ofString "links") = some (.ref lL) → m2.lookup (Str.ofString "nodes") = some (.ref nl) → m2.lookup (Str.ofString "root") = some (.int root tkr) → m2.lookup (Str.ofString "sound") = some (.bool sb') →
      Vld ((Xi ++ [c']).map NdC.nod) cnt (d' + 1) root → chk (kzs.map List.length) (lz.map Prod.fst) (d' + 1) (mk ((Xi ++ [c']).map NdC.nod) (d' + 1) root) (-1) = sb' → _ :=
    fun m2 s c' sb' hna S v1 v2 v3 v4 v5 v6 hV hs => lawD (prog := prog) (E := E) (Q := Q) (m := m2) (s := s) (Fn := ndH (Xi ++ [c'])) ho' O hh (by
      have eL : ndL (Xi ++ [c]) = ((Xi ++ [c']).map NdC.na).map Value.ref := by rw [← eLg]; simp [ndL, hna]
      rw [eL] at S
      rw [ndH_snoc]
      exact S.perm permA.symm) v1 v2 v3 v4 v5 v6 m3 hsb hcnt1 hcnt2 hd1 hd3 hka hKC hKl hlzl hlr (hNAg _) (by simpa using hXl) hV (by omega) hs fin
  have big : ∀ z ∈ c.kids, 100 ≤ z.1 → 0 < d' := fun z hz h => by
    rcases Nat.eq_zero_or_pos d' with q | q
    · subst q
      have := q4.small (by omega) z.1 (by simp only [NdC.nod]; exact List.mem_map_of_mem (f := Prod.fst) hz)
      omega
    · exact q
  have same : ∀ c' : NdC, ∀ (j : Nat) p, j < Xi.length → ((Xi ++ [c]).map NdC.nod)[j]? = some p → ∃ q, ((Xi ++ [c']).map NdC.nod)[j]? = some q ∧ q.kids = p.kids ∧ q.due = p.due := fun c' j p hj h => ⟨p, by
    rw [List.map_append, List.getElem?_append_left (by simpa using hj)] at h ⊢; exact h, rfl, rfl⟩
  have hp' : ∀ c' : NdC, ((Xi ++ [c']).map NdC.nod)[Xi.length]? = some c'.nod := fun c' => by simp
  have segs' : ∀ c' : NdC, Segs ((Xi ++ [c']).map NdC.nod) d' c.nod.kids 0 cnt 0 Xi.length := fun c' => q4.congB (same c') (Nat.le_refl _)
  have hf' : ∀ c' : NdC, c'.f = c.f → ∀ p ∈ (Xi ++ [c']).map NdC.nod, (-1 : Int) ≤ p.f ∧ p.f < (cnt : Int) := fun c' hcf p hp => by
    obtain ⟨x, hx, rfl⟩ := List.mem_map.mp hp
    rcases List.mem_append.mp hx with h | h
    · exact hXf x (by simp [h])
    · rw [List.mem_singleton.mp h]
      show -1 ≤ c'.f ∧ c'.f < _
      rw [hcf]; exact hXf c (by simp)
  have vld' : ∀ c' : NdC, c'.f = c.f → c'.kids ≠ [] → c'.kids.length ≤ 9 → (∀ z ∈ c'.kids, Vld ((Xi ++ [c']).map NdC.nod) cnt d' z.1) → Vld ((Xi ++ [c']).map NdC.nod) cnt (d' + 1) root := fun c' hcf h1 h2 h3 => by
    have b := hXf c (by simp)
    refine .inr (.inr ⟨c'.nod, by omega, by rw [show (root - 100).toNat = Xi.length by omega]; exact hp' c', by simpa [NdC.nod] using h1, by simp [NdC.nod]; omega, by show -1 ≤ c'.f; rw [hcf]; exact b.1, by show c'.f < _; rw [hcf]; exact b.2, fun k hk => ?_⟩)
    obtain ⟨z, hz, rfl⟩ := List.mem_map.mp hk
    exact h3 z hz
  have kidV : ∀ c' : NdC, c'.f = c.f → ∀ z ∈ c.kids, Vld ((Xi ++ [c']).map NdC.nod) cnt d' z.1 := fun c' hcf z hz => (segs' c').vld (hf' c' hcf) (by omega) (by omega) z.1 (List.mem_map_of_mem (f := Prod.fst) hz)
  repeat ((fail_if_success (with_reducible show wpAny _ _ (isTrue _ _ _) _ _ _)); walk_at "W")
  refine joinT (P := fun b => b = true → ∃ z1 ∈ c.kids, 100 ≤ z1.1) ‹_› ?_ ?_
  · by_cases h : 1 < c.kids.length
    · obtain ⟨z1, e1⟩ : ∃ z1, c.kids[1]? = some z1 := ⟨_, List.getElem?_eq_getElem h⟩
      have e1' : (c.kids.map iv)[(1 : Int).toNat]? = some (iv z1) := by show (c.kids.map iv)[1]? = _; rw [List.getElem?_map, e1]; rfl
      have hl : decide ((1 : Int) < ((c.kids.map iv).length : Int)) = true := by simp; omega
      by_cases h1 : 100 ≤ z1.1
      · have h1' : decide ((100 : Int) ≤ z1.1) = true := by simpa using h1
        repeat walk_at "W"
        refine ifs (fun _ => ?_) (fun _ => ?_)
        · repeat walk_at "W"
          exact ⟨fun _ => ⟨z1, List.mem_of_getElem? e1, h1⟩, by assumption⟩
        · exact ⟨fun q => (by cases q), by assumption⟩
      · have h1' : decide ((100 : Int) ≤ z1.1) = false := by simpa using h1
        repeat walk_at "W"
        exact ⟨fun q => (by cases q), by assumption⟩
    · have hl : decide ((1 : Int) < ((c.kids.map iv).length : Int)) = false := by simp; omega
      repeat walk_at "W"
      exact ⟨fun q => (by cases q), by assumption⟩
  intro b1 s hb1 S
  refine ifs (fun hb => ?_) (fun hb => ?_)
  · obtain ⟨z1, hz1, hz1'⟩ := hb1 hb
    have hd' := big z1 hz1 hz1'
    repeat walk_at "W"
    obtain ⟨l, l1, l2, tk, S⟩ : ∃ l l1 l2 tk, Sg _ (put (Str.ofString "sound") (.bool false) (put (Str.ofString "kids") (.ref c.kl) m)) ((l, .list [iv z0, .int ((cnt : Int) - 1) tk]) :: (l2, .list [.int ((cnt : Int) - 1) tk]) :: (l1, .list [iv z0]) :: (c.na, .list [.int c.f c.tf, .ref l, .int c.due c.td]) :: (c.kl, .list (c.kids.map iv)) :: (nl, .list (ndL (Xi ++ [c]))) :: (kL, .list (ka.map Value.ref)) :: (lL, .list (lz.map iv)) :: (ndH Xi ++ (Fk ++ G0))) _ := ⟨_, _, _, _, ‹_›⟩
    have S := Sg.sub S (show Sb _ ((c.na, .list [.int c.f c.tf, .ref l, .int c.due c.td]) :: (l, .list [iv z0, .int ((cnt : Int) - 1) tk]) :: (nl, .list (ndL (Xi ++ [c]))) :: (kL, .list (ka.map Value.ref)) :: (lL, .list (lz.map iv)) :: (ndH Xi ++ (Fk ++ G0))) from by walk_at "Q")
    obtain ⟨d'', rfl⟩ : ∃ d'', d' = d'' + 1 := ⟨d' - 1, by omega⟩
    refine toD _ _ { c with kl := l, kids := [z0, ((cnt : Int) - 1, tk)] } false rfl S (by walk_at "V") (by walk_at "V") (by walk_at "V") (by walk_at "V") (by walk_at "V") (by walk_at "V") (vld' _ rfl (by simp) (by simp) fun z hz => ?_) ?_
    · rcases List.mem_cons.mp hz with rfl | hz
      · exact kidV { c with kl := l, kids := [z, ((cnt : Int) - 1, tk)] } rfl _ (by rw [hkr]; exact .head _)
      · rw [List.mem_singleton.mp hz]
        exact .inr (.inl ⟨by show 0 ≤ (cnt : Int) - 1; omega, by show (cnt : Int) - 1 < 100; omega, by show (cnt : Int) - 1 < cnt; omega⟩)
    · obtain ⟨k, n', m₁, f1, f2, f3, f4⟩ := (segs' { c with kl := l, kids := [z0, ((cnt : Int) - 1, tk)] }).head q3
      have : k = z0.1 := by rw [show c.nod.kids = z0.1 :: kr.map Prod.fst by simp [NdC.nod, hkr]] at f1; exact (Option.some.inj f1).symm
      subst this
      rw [hroot]
      exact chk_mixed (N := []) (x := cnt - 1) (hp' { c with kl := l, kids := [z0, ((cnt : Int) - 1, tk)] }) (show [z0.1, (cnt : Int) - 1] = [z0.1, ((cnt - 1 : Nat) : Int)] by rw [show ((cnt - 1 : Nat) : Int) = (cnt : Int) - 1 by omega]) (by omega) f2 (-1)
  repeat ((fail_if_success (with_reducible show wpAny _ _ (isTrue _ _ _) _ _ _)); walk_at "W")
  refine joinT (P := fun b => b = true → 100 ≤ z0.1) ‹_› ?_ ?_
  · cases h1 : decide ((100 : Int) ≤ z0.1) with
    | true =>
      repeat walk_at "W"
      refine ifs (fun _ => ?_) (fun _ => ?_)
      · repeat walk_at "W"
        exact ⟨fun _ => by simpa using h1, by assumption⟩
      · exact ⟨fun q => (by cases q), by assumption⟩
    | false =>
      repeat walk_at "W"
      exact ⟨fun q => (by cases q), by assumption⟩
  intro b2 s hb2 S
  refine ifs (fun hb' => ?_) (fun hb' => ?_)
  · have hd' := big z0 (by rw [hkr]; exact .head _) (hb2 hb')
    repeat walk_at "W"
    obtain ⟨l, l1, tk, S⟩ : ∃ l l1 tk, Sg _ (put (Str.ofString "sound") (.bool false) (put (Str.ofString "kids") (.ref c.kl) m)) ((l, .list (c.kids.map iv ++ [.int (-1) tk])) :: (l1, .list [.int (-1) tk]) :: (c.na, .list [.int c.f c.tf, .ref l, .int c.due c.td]) :: (c.kl, .list (c.kids.map iv)) :: (nl, .list (ndL (Xi ++ [c]))) :: (kL, .list (ka.map Value.ref)) :: (lL, .list (lz.map iv)) :: (ndH Xi ++ (Fk ++ G0))) _ := ⟨_, _, _, ‹_›⟩
    have S := Sg.sub S (show Sb _ ((c.na, .list [.int c.f c.tf, .ref l, .int c.due c.td]) :: (l, .list (c.kids.map iv ++ [.int (-1) tk])) :: (nl, .list (ndL (Xi ++ [c]))) :: (kL, .list (ka.map Value.ref)) :: (lL, .list (lz.map iv)) :: (ndH Xi ++ (Fk ++ G0))) from by walk_at "Q")
    rw [show c.kids.map iv ++ [Value.int (-1) tk] = (c.kids ++ [(-1, tk)]).map iv by simp [iv]] at S
    obtain ⟨d'', rfl⟩ : ∃ d'', d' = d'' + 1 := ⟨d' - 1, by omega⟩
    refine toD _ _ { c with kl := l, kids := c.kids ++ [(-1, tk)] } false rfl S (by walk_at "V") (by walk_at "V") (by walk_at "V") (by walk_at "V") (by walk_at "V") (by walk_at "V") (vld' _ rfl (by simp) (by simp; omega) fun z hz => ?_) ?_
    · rcases List.mem_append.mp hz with hz | hz
      · exact kidV { c with kl := l, kids := c.kids ++ [(-1, tk)] } rfl _ hz
      · rw [List.mem_singleton.mp hz]
        exact .inl (by show (-1 : Int) < 0; omega)
    · rw [hroot]
      exact chk_none (k0 := z0.1) (ks := kr.map Prod.fst) (hp' { c with kl := l, kids := c.kids ++ [(-1, tk)] }) (by show (c.kids ++ [(-1, tk)]).map Prod.fst = _; rw [hkr]; simp) (-1)
  repeat walk_at "W"
  exact toD _ _ c sb rfl (by assumption) (by walk_at "V") (by walk_at "V") (by walk_at "V") (by walk_at "V") (by walk_at "V") (by walk_at "V") hV0 hs
theorem lawC2 {name qual : Str} {params : Arguments} {body : List Stmt} {scope : Scope} {dV kV doc pm cdv ct oc : Value} {an od : Option Addr} {osl : Array (Option Value)}
    {base : Heap} {cn : Str} {L fa : Addr} {cd : Value} {a1 a2 a3 a4 : Addr} {os : OsState} {Gt : Hp} {Q : Flow → Shared → Prop} {E : Value → Shared → Prop}
    (ho : (Mine.hd.heap_39 w.params).lookup 1065 = some ⟨oc, od, .func (fnOf name qual params body scope dV kV doc pm an cdv ct), osl⟩)
    (O : Ok (Mine.hd.heap_39 w.params) T A ⟨base, [], [], cn, scope, L, fa, cd, [(Str.ofString "top", a4), (Str.ofString "mapping", a3), (Str.ofString "head", a2), (Str.ofString "script", a1)], os⟩ 200 1000) (hh : A.handled = none)
    {m : Loc} {cnt d : Nat} {tkc tkh tkr : Tok} {kL lL nl : Addr} {ka : List Addr} {kzs : List (List (Int × Tok))} {lz : List (Int × Tok)} {X : List NdC} {Fk G0 : Hp} {mp sb : Bool} {hd root : Int}
    (S : Sg ⟨base, [], [], cn, scope, L, fa, cd, [(Str.ofString "top", a4), (Str.ofString "mapping", a3), (Str.ofString "head", a2), (Str.ofString "script", a1)], os⟩ m ((nl, .list (ndL X)) :: (kL, .list (ka.map Value.ref)) :: (lL, .list (lz.map iv)) :: (ndH X ++ (Fk ++ G0))) s)
    (v1 : m.lookup (Str.ofString "count") = some (.int (cnt : Int) tkc)) (v2 : m.lookup (Str.ofString "keys") = some (.ref kL)) (v3 : m.lookup (Str.ofString "links") = some (.ref lL)) (v4 : m.lookup (Str.ofString "nodes") = some (.ref nl)) (v5 : m.lookup (Str.ofString "root") = some (.int root tkr))
    (v6 : m.lookup (Str.ofString "sound") = some (.bool sb)) (hsb1 : sb = (decide (lz.map Prod.fst = upTo (cnt - 1) ++ [-1]) && !kzs.any (·.isEmpty)))
    (m2 : (a2, AO.cell (some (.int hd tkh))) ∈ G0) (m3 : (a3, AO.cell (some (.bool mp))) ∈ G0) (hsb : Sb G0 Gt)
    (hcnt1 : 1 ≤ cnt) (hcnt2 : cnt ≤ 8) (hd1 : 1 ≤ d) (hd3 : d ≤ 3) (hka : ka.length = cnt) (hKC : KC Fk ka kzs) (hKl : ∀ k ∈ kzs, k.length ≤ 2) (hlzl : lz.length = cnt) (hlr : ∀ p ∈ lz, (-1 : Int) ≤ p.1 ∧ p.1 < (cnt : Int))
    (hN : Nest (X.map NdC.nod) d root 0 cnt 0 X.length) (hXl : X.length ≤ 24) (hXf : ∀ c ∈ X, (-1 : Int) ≤ c.f ∧ c.f < (cnt : Int))
    (fin : ∀ m s, Sg ⟨base, [], [], cn, scope, L, fa, cd, [(Str.ofString "top", a4), (Str.ofString "mapping", a3), (Str.ofString "head", a2), (Str.ofString "script", a1)], os⟩ m Gt s → Q (.ret (.bool true)) s) :
    wpAny (model prog w) A (execs (body.drop 11) (Cx.env ⟨base, [], [], cn, scope, L, fa, cd, [(Str.ofString "top", a4), (Str.ofString "mapping", a3), (Str.ofString "head", a2), (Str.ofString "script", a1)], os⟩)) Q E s := by
  have e := (show (Mine.hd.heap_39 w.params).lookup 1065 = some ⟨_, _, .func (fnOf _ _ _ _ _ _ _ _ _ _ _ _), _⟩ by k_is).symm.trans ho
  injection e with e
  injection e with _ _ e _
  injection e with e
  simp only [fnOf, FuncData.mk.injEq, FuncBody.stmts.injEq] at e
  obtain ⟨-, -, -, rfl, rfl, -⟩ := e
  have ho' := ho
  clear ho
  simp only [List.drop_succ_cons, List.drop_zero]
  repeat walk_at "W"
  refine gIterList (by assumption) (by walk_at "H") ?_
  intro it s S
  refine gFor (srcList (l := nl) (xs := ndL X) hh) (fun i m' G' => m'.lookup (Str.ofString "count") = some (.int (cnt : Int) tkc) ∧ m'.lookup (Str.ofString "keys") = some (.ref kL) ∧ m'.lookup (Str.ofString "links") = some (.ref lL) ∧ m'.lookup (Str.ofString "nodes") = some (.ref nl) ∧ m'.lookup (Str.ofString "root") = some (.int root tkr) ∧ m'.lookup (Str.ofString "sound") = some (.bool (sb && (X.take i).all fun c => c.f == c.due)) ∧
    G' = (nl, .list (ndL X)) :: (kL, .list (ka.map Value.ref)) :: (lL, .list (lz.map iv)) :: (ndH X ++ (Fk ++ G0))) (fun i m' G' J => by rw [J.2.2.2.2.2.2]; exact .head _) ?_ ?_ S ⟨v1, v2, v3, v4, v5, by rw [v6]; simp, rfl⟩
  · rintro i v m' G' s hi hv ⟨j1, j2, j3, j4, j5, j6, rfl⟩ S
    obtain ⟨c, hc⟩ : ∃ c, X[i]? = some c := ⟨_, List.getElem?_eq_getElem (by simpa using hi)⟩
    have hvc : v = .ref c.na := by rw [ndL_get hc] at hv; exact (Option.some.inj hv).symm
    subst hvc
    have hm := (ndH_mem (List.mem_of_getElem? hc)).1
    have et : (X.take (i + 1)).all (fun c => c.f == c.due) = ((X.take i).all (fun c => c.f == c.due) && (c.f == c.due)) := by
      rw [List.take_add_one, hc]; simp
    repeat walk_at "W"
    refine ifs (fun hb => ?_) (fun hb => ?_)
    · repeat walk_at "W"
      refine ⟨_, _, ?_, by assumption⟩
      refine ⟨by walk_at "V", by walk_at "V", by walk_at "V", by walk_at "V", by walk_at "V", ?_, rfl⟩
      have hf : (c.f == c.due) = false := by simpa [bne] using hb
      rw [et, hf, Bool.and_false, Bool.and_false]
      walk_at "V"
    · repeat walk_at "W"
      refine ⟨_, _, ?_, by assumption⟩
      refine ⟨by walk_at "V", by walk_at "V", by walk_at "V", by walk_at "V", by walk_at "V", ?_, rfl⟩
      have hf : (c.f == c.due) = true := by simpa [bne] using hb
      rw [et, hf, Bool.and_true]
      walk_at "V"
  · rintro m' G' s ⟨j1, j2, j3, j4, j5, j6, rfl⟩ S
    refine ex_nil (lr_next ?_)
    rw [show (ndL X).length = X.length by simp, List.take_length] at j6
    refine lawC3 ho' O hh S j1 j2 j3 j4 j5 j6 ?_ m2 m3 hsb hcnt1 hcnt2 hd1 hd3 hka hKC hKl hlzl hlr hN hXl hXf fin
    rw [Bool.eq_iff_iff]
    cases d with
    | zero => omega
    | succ d =>
      rw [nestOk d hN (by omega), hsb1, nodesOk_iff, lensOk_iff (by rw [← hka]; exact hKC.len.symm), linksOk_iff (by simp [hlzl]) hcnt1]
      simp only [Bool.and_eq_true, decide_eq_true_eq]
      constructor
      · rintro ⟨h1, h2, h3⟩; exact ⟨⟨h3, h2⟩, h1⟩
      · rintro ⟨⟨h3, h2⟩, h1⟩; exact ⟨h1, h2, h3⟩
theorem lawC {name qual : Str} {params : Arguments} {body : List Stmt} {scope : Scope} {dV kV doc pm cdv ct oc : Value} {an od : Option Addr} {osl : Array (Option Value)}
    {base : Heap} {cn : Str} {L fa : Addr} {cd : Value} {a1 a2 a3 a4 : Addr} {os : OsState} {Gt : Hp} {Q : Flow → Shared → Prop} {E : Value → Shared → Prop}
    (ho : (Mine.hd.heap_39 w.params).lookup 1065 = some ⟨oc, od, .func (fnOf name qual params body scope dV kV doc pm an cdv ct), osl⟩)
    (O : Ok (Mine.hd.heap_39 w.params) T A ⟨base, [], [], cn, scope, L, fa, cd, [(Str.ofString "top", a4), (Str.ofString "mapping", a3), (Str.ofString "head", a2), (Str.ofString "script", a1)], os⟩ 200 1000) (hh : A.handled = none)
    {m : Loc} {cnt d : Nat} {tkc tkh tkr : Tok} {kL lL nl : Addr} {ka : List Addr} {kzs : List (List (Int × Tok))} {lz : List (Int × Tok)} {X : List NdC} {Fk G0 : Hp} {mp : Bool} {hd root : Int}
    (S : Sg ⟨base, [], [], cn, scope, L, fa, cd, [(Str.ofString "top", a4), (Str.ofString "mapping", a3), (Str.ofString "head", a2), (Str.ofString "script", a1)], os⟩ m ((nl, .list (ndL X)) :: (kL, .list (ka.map Value.ref)) :: (lL, .list (lz.map iv)) :: (ndH X ++ (Fk ++ G0))) s)
    (v1 : m.lookup (Str.ofString "count") = some (.int (cnt : Int) tkc)) (v2 : m.lookup (Str.ofString "keys") = some (.ref kL)) (v3 : m.lookup (Str.ofString "links") = some (.ref lL)) (v4 : m.lookup (Str.ofString "nodes") = some (.ref nl)) (v5 : m.lookup (Str.ofString "root") = some (.int root tkr))
    (m2 : (a2, AO.cell (some (.int hd tkh))) ∈ G0) (m3 : (a3, AO.cell (some (.bool mp))) ∈ G0) (hsb : Sb G0 Gt)
    (hcnt1 : 1 ≤ cnt) (hcnt2 : cnt ≤ 8) (hd1 : 1 ≤ d) (hd3 : d ≤ 3) (hka : ka.length = cnt) (hKC : KC Fk ka kzs) (hKl : ∀ k ∈ kzs, k.length ≤ 2) (hlzl : lz.length = cnt) (hlr : ∀ p ∈ lz, (-1 : Int) ≤ p.1 ∧ p.1 < (cnt : Int))
    (hN : Nest (X.map NdC.nod) d root 0 cnt 0 X.length) (hXl : X.length ≤ 24) (hXf : ∀ c ∈ X, (-1 : Int) ≤ c.f ∧ c.f < (cnt : Int))
    (fin : ∀ m s, Sg ⟨base, [], [], cn, scope, L, fa, cd, [(Str.ofString "top", a4), (Str.ofString "mapping", a3), (Str.ofString "head", a2), (Str.ofString "script", a1)], os⟩ m Gt s → Q (.ret (.bool true)) s) :
    wpAny (model prog w) A (execs (body.drop 10) (Cx.env ⟨base, [], [], cn, scope, L, fa, cd, [(Str.ofString "top", a4), (Str.ofString "mapping", a3), (Str.ofString "head", a2), (Str.ofString "script", a1)], os⟩)) Q E s := by
  have e := (show (Mine.hd.heap_39 w.params).lookup 1065 = some ⟨_, _, .func (fnOf _ _ _ _ _ _ _ _ _ _ _ _), _⟩ by k_is).symm.trans ho
  injection e with e
  injection e with _ _ e _
  injection e with e
  simp only [fnOf, FuncData.mk.injEq, FuncBody.stmts.injEq] at e
  obtain ⟨-, -, -, rfl, rfl, -⟩ := e
  have ho' := ho
  clear ho
  simp only [List.drop_succ_cons, List.drop_zero]
  repeat walk_at "W"
  refine gComp ‹_› (by rfl) (by decide) (by rfl) (by decide) (by rfl) ?_
  repeat walk_at "W"
  refine gIterRange (N := cnt - 1) (by assumption) (by assumption) (by omega) (by omega) (by split <;> omega) ?_
  intro it s S
  refine ⟨it, fun i => ritO (0 + (i : Int)) (((cnt - 1 : Nat) : Int) - i), cnt - 1, _, _, _, _, fun i vs G' => ∃ kz : List (Int × Tok), vs = kz.map iv ∧ kz.map Prod.fst = upTo i ∧ G' = ((nl, .list (ndL X)) :: (kL, .list (ka.map Value.ref)) :: (lL, .list (lz.map iv)) :: (ndH X ++ (Fk ++ G0))), rfl, srcRange hh, ritO0, le_sz (by omega), S, ⟨[], rfl, rfl, rfl⟩, fun _ _ _ _ => trivial, ?_, ?_⟩
  · rintro i v vs C D G' s hi ⟨tk, rfl⟩ ⟨kz, rfl, hkz, rfl⟩ S E'
    repeat walk_at "W"
    refine ⟨_, ⟨kz ++ [(_, _)], (by rw [List.map_append]; rfl), ?_, rfl⟩, by assumption⟩
    rw [List.map_append, hkz, upTo_succ]
    simp
  rintro lD vs G' s ⟨kz, rfl, hkz, rfl⟩ S
  have hkzl' : kz.length = cnt - 1 := by have := congrArg List.length hkz; simpa [upTo_len] using this
  repeat walk_at "W"
  refine gEqIv (k1 := lz) (k2 := kz ++ [(-1, _)]) (O.le (Nat.le_refl _) (by omega : 998 + 2 ≤ 1000)) ‹_› (by walk_at "H") (by rw [List.map_append]; show (_, AO.list (List.map iv kz ++ [Value.int (-1) _])) ∈ _; walk_at "H") ?_
  have ez : ∀ t : Tok, (kz ++ [((-1 : Int), t)]).map Prod.fst = upTo (cnt - 1) ++ [-1] := fun t => by rw [List.map_append, hkz]; rfl
  rw [ez]
  repeat walk_at "W"
  refine ifs (fun hb => ?_) (fun hb => ?_)
  · repeat walk_at "W"
    refine gNotInNil (O.le (Nat.le_refl _) (by omega : 996 + 4 ≤ 1000)) ‹_› (by walk_at "H") (hKC.le fun p hp => .tail _ (.tail _ (.tail _ (.tail _ (.tail _ (.tail _ (.tail _ (List.mem_append_right _ (List.mem_append_left _ hp))))))))) (by walk_at "H") ?_
    refine gStoreL ‹_› (by rfl) ?_
    intro s S
    refine lawC2 (sb := !kzs.any (·.isEmpty)) ho' O hh (Sg.sub ‹_› (show Sb _ ((nl, .list (ndL X)) :: (kL, .list (ka.map Value.ref)) :: (lL, .list (lz.map iv)) :: (ndH X ++ (Fk ++ G0))) from by walk_at "Q")) (by walk_at "V") (by walk_at "V") (by walk_at "V") (by walk_at "V") (by walk_at "V") (by walk_at "V") (by rw [hb]; rfl) m2 m3 hsb hcnt1 hcnt2 hd1 hd3 hka hKC hKl hlzl hlr hN hXl hXf fin
  · refine gStoreL ‹_› (by rfl) ?_
    intro s S
    refine lawC2 (sb := decide (lz.map Prod.fst = upTo (cnt - 1) ++ [-1])) ho' O hh (Sg.sub ‹_› (show Sb _ ((nl, .list (ndL X)) :: (kL, .list (ka.map Value.ref)) :: (lL, .list (lz.map iv)) :: (ndH X ++ (Fk ++ G0))) from by walk_at "Q")) (by walk_at "V") (by walk_at "V") (by walk_at "V") (by walk_at "V") (by walk_at "V") (by walk_at "V") (by rw [hb]; rfl) m2 m3 hsb hcnt1 hcnt2 hd1 hd3 hka hKC hKl hlzl hlr hN hXl hXf fin
end
end

section
section
variable {prog : Program} {w : World} {T : Tp} {A : Around} {s : Shared}
theorem lawB {name qual : Str} {params : Arguments} {body : List Stmt} {scope : Scope} {dV kV doc pm cdv ct oc : Value} {an od : Option Addr} {osl : Array (Option Value)}
    {base : Heap} {cn : Str} {L fa : Addr} {cd : Value} {a1 a2 a3 a4 sl : Addr} {os : OsState} {Gt : Hp} {sz : List (Int × Tok)} {Q : Flow → Shared → Prop} {E : Value → Shared → Prop}
    (ho : (Mine.hd.heap_39 w.params).lookup 1065 = some ⟨oc, od, .func (fnOf name qual params body scope dV kV doc pm an cdv ct), osl⟩)
    (O : Ok (Mine.hd.heap_39 w.params) T A ⟨base, [], [], cn, scope, L, fa, cd, [(Str.ofString "top", a4), (Str.ofString "mapping", a3), (Str.ofString "head", a2), (Str.ofString "script", a1)], os⟩ 200 1000) (hh : A.handled = none)
    {m : Loc} {cnt d : Nat} {tkc tkh tkr : Tok} {kL lL nl : Addr} {ka : List Addr} {kzs : List (List (Int × Tok))} {lz : List (Int × Tok)} {X : List NdC} {Fk G0 : Hp} {mp : Bool} {hd root : Int}
    (S : Sg ⟨base, [], [], cn, scope, L, fa, cd, [(Str.ofString "top", a4), (Str.ofString "mapping", a3), (Str.ofString "head", a2), (Str.ofString "script", a1)], os⟩ m ((nl, .list (ndL X)) :: (kL, .list (ka.map Value.ref)) :: (lL, .list (lz.map iv)) :: (ndH X ++ (Fk ++ G0))) s)
    (v1 : m.lookup (Str.ofString "count") = some (.int (cnt : Int) tkc)) (v2 : m.lookup (Str.ofString "keys") = some (.ref kL)) (v3 : m.lookup (Str.ofString "links") = some (.ref lL)) (v4 : m.lookup (Str.ofString "nodes") = some (.ref nl)) (v5 : m.lookup (Str.ofString "root") = some (.int root tkr))
    (m1 : (a1, AO.cell (some (.ref sl))) ∈ G0) (m2 : (a2, AO.cell (some (.int hd tkh))) ∈ G0) (m3 : (a3, AO.cell (some (.bool mp))) ∈ G0) (hsb : Sb G0 Gt)
    (hcnt1 : 1 ≤ cnt) (hcnt2 : cnt ≤ 8) (hd1 : 1 ≤ d) (hd3 : d ≤ 3) (hka : ka.length = cnt) (hKC : KC Fk ka kzs) (hKl : ∀ k ∈ kzs, k.length ≤ 2) (hlz : lz.map Prod.fst = upTo (cnt - 1) ++ [-1])
    (hN : Nest (X.map NdC.nod) d root 0 cnt 0 X.length) (hXl : X.length ≤ d * cnt) (hXf : ∀ c ∈ X, c.f = c.due)
    (B : base.IsList sl (sz.map iv).toArray) (hlen : sz.length ≤ 63) (fin : ∀ m s, Sg ⟨base, [], [], cn, scope, L, fa, cd, [(Str.ofString "top", a4), (Str.ofString "mapping", a3), (Str.ofString "head", a2), (Str.ofString "script", a1)], os⟩ m Gt s → Q (.ret (.bool true)) s) :
    wpAny (model prog w) A (execs (body.drop 9) (Cx.env ⟨base, [], [], cn, scope, L, fa, cd, [(Str.ofString "top", a4), (Str.ofString "mapping", a3), (Str.ofString "head", a2), (Str.ofString "script", a1)], os⟩)) Q E s := by
  have e := (show (Mine.hd.heap_39 w.params).lookup 1065 = some ⟨_, _, .func (fnOf _ _ _ _ _ _ _ _ _ _ _ _), _⟩ by k_is).symm.trans ho
  injection e with e
  injection e with _ _ e _
  injection e with e
  simp only [fnOf, FuncData.mk.injEq, FuncBody.stmts.injEq] at e
  obtain ⟨-, -, -, rfl, rfl, -⟩ := e
  have ho' := ho
  clear ho
  simp only [List.drop_succ_cons, List.drop_zero]
  have hXd : ∀ c ∈ X, (0 : Int) ≤ c.due ∧ c.due < cnt := by
    intro c hc
    obtain ⟨j, hj, rfl⟩ := List.mem_iff_getElem.mp hc
    obtain ⟨p, e1, e2, e3⟩ := hN.dues j (Nat.zero_le _) hj
    rw [List.getElem?_map, List.getElem?_eq_getElem hj] at e1
    cases e1
    simp only [NdC.nod] at e2 e3
    exact ⟨by omega, by omega⟩
  have hlzl : lz.length = cnt := by have := congrArg List.length hlz; simp [upTo_len] at this; omega
  have hdc : d * cnt ≤ 3 * 8 := Nat.mul_le_mul hd3 hcnt2
  have hXpos : 0 < X.length := by
    cases d with
    | zero => omega
    | succ d => exact hN.some
  repeat walk_at "W"
  refine bSlice (lo := some 1) (hi := some 5) ‹_› B (.int 1 _) (.int 5 _) .none (by decide) (le_sz (by simp; omega)) rfl ?_
  intro r s S
  obtain ⟨ys, hys, S⟩ : ∃ ys : List Value, (∀ v ∈ ys, ∃ n tk, v = .int n tk) ∧ Sg _ _ ((r, .list ys) :: _) s := ⟨_, fun v hv => by
    obtain ⟨p, _, rfl⟩ := List.mem_map.mp (pick_mem hv); exact ⟨p.1, p.2, rfl⟩, S⟩
  refine gIterList (by assumption) (by walk_at "H") ?_
  intro it s S
  refine gFor (srcList (l := r) (xs := ys) hh) (fun i m' G' => ∃ ka kzs lz ns Fk, m'.lookup (Str.ofString "count") = some (.int (cnt : Int) tkc) ∧ m'.lookup (Str.ofString "keys") = some (.ref kL) ∧ m'.lookup (Str.ofString "links") = some (.ref lL) ∧ m'.lookup (Str.ofString "nodes") = some (.ref nl) ∧ m'.lookup (Str.ofString "root") = some (.int root tkr) ∧
    G' = (r, .list ys) :: (nl, .list (ndL ns)) :: (kL, .list (ka.map Value.ref)) :: (lL, .list (lz.map iv)) :: (ndH ns ++ (Fk ++ G0)) ∧ ka.length = cnt ∧ KC Fk ka kzs ∧ (∀ k ∈ kzs, k.length ≤ 2) ∧ lz.length = cnt ∧ (∀ p ∈ lz, (-1 : Int) ≤ p.1 ∧ p.1 < (cnt : Int)) ∧ ns.length = X.length ∧
    (∀ (j : Nat) c, X[j]? = some c → ∃ c', ns[j]? = some c' ∧ c'.kids = c.kids ∧ c'.due = c.due) ∧ (∀ c ∈ ns, (-1 : Int) ≤ c.f ∧ c.f < (cnt : Int))) ?_ ?_ ?_ S
    ⟨ka, kzs, lz, X, Fk, by walk_at "V", by walk_at "V", by walk_at "V", by walk_at "V", by walk_at "V", rfl, hka, hKC, hKl, hlzl, fun p hp => ?_, rfl, fun j c h => ⟨c, h, rfl, rfl⟩, fun c hc => by rw [hXf c hc]; have := hXd c hc; omega⟩
  · rintro i m' G' ⟨ka, kzs, lz, ns, Fk, _, _, _, _, _, rfl, _⟩; exact .head _
  · rintro i v m' G' s hi hv ⟨ka, kzs, lz, ns, Fk, j1, j2, j3, j4, j5, rfl, hka, hKC, hKl, hlzl, hlr, hnl, hnX, hnf⟩ S
    obtain ⟨num, tkn, rfl⟩ := hys v (List.mem_of_getElem? hv)
    obtain ⟨sp, hsp, esp⟩ := fmodN (num.fdiv 5) (k := cnt) (by omega)
    obtain ⟨tv, htv, etv⟩ := fmodN (num.fdiv 40) (k := cnt + 1) (by omega)
    have etv' : (num.fdiv 40).fmod ((cnt : Int) + 1) = tv := by rw [show ((cnt : Int) + 1) = ((cnt + 1 : Nat) : Int) by omega]; exact etv
    have i1 : 0 ≤ (num.fdiv 5).fmod (cnt : Int) := by omega
    have i2 : (num.fdiv 5).fmod (cnt : Int) < ((lz.map iv).length : Int) := by simp; omega
    have i3 : (num.fdiv 5).fmod (cnt : Int) < ((ka.map Value.ref).length : Int) := by simp; omega
    have hndl : (ndL ns).length = X.length := by simp [hnl]
    have hne : ((ndL ns).length : Int) ≠ 0 := by omega
    obtain ⟨sn, hsn, esn⟩ := fmodN (num.fdiv 5) (k := (ndL ns).length) (by omega)
    obtain ⟨cc, hcc⟩ : ∃ cc, ns[sn]? = some cc := ⟨_, List.getElem?_eq_getElem (by omega)⟩
    have enl : (ndL ns)[((num.fdiv 5).fmod ((ndL ns).length : Int)).toNat]? = some (.ref cc.na) := by rw [esn, show ((sn : Int)).toNat = sn by omega]; exact ndL_get hcc
    have i4 : 0 ≤ (num.fdiv 5).fmod ((ndL ns).length : Int) := by omega
    have i5 : (num.fdiv 5).fmod ((ndL ns).length : Int) < 2 ^ 63 := by omega
    -- what a turn leaves
    have leave : ∀ {c' : Cx} {m2 : Loc} {s : Shared} (ka' : List Addr) (kzs' : List (List (Int × Tok))) (lz' : List (Int × Tok)) (ns' : List NdC) (Fk' : Hp), Sg c' m2 ((it, litO r (i + 1)) :: (r, .list ys) :: (nl, .list (ndL ns')) :: (kL, .list (ka'.map Value.ref)) :: (lL, .list (lz'.map iv)) :: (ndH ns' ++ (Fk' ++ G0))) s → m2.lookup (Str.ofString "count") = some (.int (cnt : Int) tkc) → m2.lookup (Str.ofString "keys") = some (.ref kL) → m2.lookup (Str.ofString "links") = some (.ref lL) → m2.lookup (Str.ofString "nodes") = some (.ref nl) → m2.lookup (Str.ofString "root") = some (.int root tkr) →
        ka'.length = cnt → KC Fk' ka' kzs' → (∀ k ∈ kzs', k.length ≤ 2) → lz'.length = cnt → (∀ p ∈ lz', (-1 : Int) ≤ p.1 ∧ p.1 < (cnt : Int)) → ns'.length = X.length → (∀ (j : Nat) c, X[j]? = some c → ∃ c', ns'[j]? = some c' ∧ c'.kids = c.kids ∧ c'.due = c.due) → (∀ c ∈ ns', (-1 : Int) ≤ c.f ∧ c.f < (cnt : Int)) →
        ∃ m G, (∃ (ka : List Addr) (kzs : List (List (Int × Tok))) (lz : List (Int × Tok)) (ns : List NdC) (Fk : Hp), m.lookup (Str.ofString "count") = some (.int (cnt : Int) tkc) ∧ m.lookup (Str.ofString "keys") = some (.ref kL) ∧ m.lookup (Str.ofString "links") = some (.ref lL) ∧ m.lookup (Str.ofString "nodes") = some (.ref nl) ∧ m.lookup (Str.ofString "root") = some (.int root tkr) ∧
          G = (r, .list ys) :: (nl, .list (ndL ns)) :: (kL, .list (ka.map Value.ref)) :: (lL, .list (lz.map iv)) :: (ndH ns ++ (Fk ++ G0)) ∧ ka.length = cnt ∧ KC Fk ka kzs ∧ (∀ k ∈ kzs, k.length ≤ 2) ∧ lz.length = cnt ∧ (∀ p ∈ lz, (-1 : Int) ≤ p.1 ∧ p.1 < (cnt : Int)) ∧ ns.length = X.length ∧
          (∀ (j : Nat) c, X[j]? = some c → ∃ c', ns[j]? = some c' ∧ c'.kids = c.kids ∧ c'.due = c.due) ∧ (∀ c ∈ ns, (-1 : Int) ≤ c.f ∧ c.f < (cnt : Int))) ∧ Sg c' m ((it, litO r (i + 1)) :: G) s :=
      fun ka' kzs' lz' ns' Fk' S q1 q2 q3 q4 q5 q6 q7 q8 q9 q10 q11 q12 q13 => ⟨_, _, ⟨ka', kzs', lz', ns', Fk', q1, q2, q3, q4, q5, rfl, q6, q7, q8, q9, q10, q11, q12, q13⟩, S⟩
    have htr : ∀ tk' : Tok, (-1 : Int) ≤ (((num.fdiv 40).fmod ((cnt : Int) + 1) - 1, tk') : Int × Tok).1 ∧ (((num.fdiv 40).fmod ((cnt : Int) + 1) - 1, tk') : Int × Tok).1 < (cnt : Int) := fun _ => by simp only; omega
    have nodeTurn : ∀ {c' : Cx} {m2 : Loc} {s : Shared} (tk' : Tok), Sg c' m2 ((it, litO r (i + 1)) :: (r, .list ys) :: (nl, .list (ndL ns)) :: (kL, .list (ka.map Value.ref)) :: (lL, .list (lz.map iv)) :: (ndH (ns.set sn { cc with f := (num.fdiv 40).fmod ((cnt : Int) + 1) - 1, tf := tk' }) ++ (Fk ++ G0))) s → m2.lookup (Str.ofString "count") = some (.int (cnt : Int) tkc) → m2.lookup (Str.ofString "keys") = some (.ref kL) → m2.lookup (Str.ofString "links") = some (.ref lL) → m2.lookup (Str.ofString "nodes") = some (.ref nl) → m2.lookup (Str.ofString "root") = some (.int root tkr) →
        _ := fun {c' m2 s} tk' S q1 q2 q3 q4 q5 =>
      leave ka kzs lz (ns.set sn { cc with f := (num.fdiv 40).fmod ((cnt : Int) + 1) - 1, tf := tk' }) Fk (by rw [ndL_set (c := cc) (c' := { cc with f := (num.fdiv 40).fmod ((cnt : Int) + 1) - 1, tf := tk' }) rfl hcc]; exact S) q1 q2 q3 q4 q5 hka hKC hKl hlzl hlr (by simp [hnl]) (fun j c hj => by
        obtain ⟨c', e1, e2, e3⟩ := hnX j c hj
        by_cases z : sn = j
        · subst z
          rw [hcc] at e1; cases e1
          exact ⟨{ cc with f := (num.fdiv 40).fmod ((cnt : Int) + 1) - 1, tf := tk' }, by rw [List.getElem?_set_self (by omega)], e2, e3⟩
        · exact ⟨c', by rw [List.getElem?_set_ne z]; exact e1, e2, e3⟩) (fun c hc => by
        rcases List.mem_or_eq_of_mem_set hc with h | h
        · exact hnf c h
        · subst h; exact htr tk')
    repeat walk_at "W"
    refine ifs (fun c1 => ?_) (fun c1 => ?_)
    · repeat walk_at "W"
      refine leave ka kzs (lz.set ((num.fdiv 5).fmod (cnt : Int)).toNat (_, _)) ns Fk (by rw [List.map_set]; assumption) (by walk_at "V") (by walk_at "V") (by walk_at "V") (by walk_at "V") (by walk_at "V") hka hKC hKl (by simp [hlzl]) (fun p hp => ?_) hnl hnX hnf
      rcases List.mem_or_eq_of_mem_set hp with h | h
      · exact hlr p h
      · subst h; exact htr _
    · repeat walk_at "W"
      refine ifs (fun c2 => ?_) (fun c2 => ?_)
      · repeat walk_at "W"
        refine gSetItem (xs := [.int cc.f cc.tf, .ref cc.kl, .int cc.due cc.td]) (by assumption) (up_tl (up_tl (up_tl (up_tl (up_tl (up_al (up_nd hcc))))))) (by decide) (by simp) (le_sz (by simp)) ?_
        intro s S
        repeat walk_at "W"
        exact nodeTurn _ S (by walk_at "V") (by walk_at "V") (by walk_at "V") (by walk_at "V") (by walk_at "V")
      · repeat walk_at "W"
        refine ifs (fun c3 => ?_) (fun c3 => ?_)
        · repeat walk_at "W"
          refine gSetItem (xs := [.int cc.f cc.tf, .ref cc.kl, .int cc.due cc.td]) (by assumption) (up_tl (up_tl (up_tl (up_tl (up_tl (up_al (up_nd hcc))))))) (by decide) (by simp) (le_sz (by simp)) ?_
          intro s S
          repeat walk_at "W"
          exact nodeTurn _ S (by walk_at "V") (by walk_at "V") (by walk_at "V") (by walk_at "V") (by walk_at "V")
        · repeat walk_at "W"
          refine ifs (fun c4 => ?_) (fun c4 => ?_)
          · repeat walk_at "W"
            obtain ⟨b, S⟩ : ∃ b, Sg _ _ ((it, litO r (i + 1)) :: (r, .list ys) :: (nl, .list (ndL ns)) :: (kL, .list ((ka.set ((num.fdiv 5).fmod (cnt : Int)).toNat b).map Value.ref)) :: (lL, .list (lz.map iv)) :: (ndH ns ++ (((b, AO.list (([] : List (Int × Tok)).map iv)) :: Fk) ++ G0))) _ := ⟨_, by rw [List.map_set]; exact Sg.sub ‹_› (show Sb _ ((it, litO r (i + 1)) :: (r, .list ys) :: (nl, .list (ndL ns)) :: (kL, _) :: (lL, .list (lz.map iv)) :: (ndH ns ++ ((_, AO.list []) :: (Fk ++ G0)))) from by walk_at "Q")⟩
            refine leave (ka.set ((num.fdiv 5).fmod (cnt : Int)).toNat b) (kzs.set ((num.fdiv 5).fmod (cnt : Int)).toNat []) lz ns ((b, AO.list (([] : List (Int × Tok)).map iv)) :: Fk) S (by walk_at "V") (by walk_at "V") (by walk_at "V") (by walk_at "V") (by walk_at "V") (by simp [hka]) ((hKC.le fun p hp => .tail _ hp).set (.head _) _) (fun k hk => ?_) hlzl hlr hnl hnX hnf
            rcases List.mem_or_eq_of_mem_set hk with h | h
            · exact hKl k h
            · subst h; exact Nat.zero_le _
          · repeat walk_at "W"
            exact leave ka kzs lz ns Fk (by assumption) (by walk_at "V") (by walk_at "V") (by walk_at "V") (by walk_at "V") (by walk_at "V") hka hKC hKl hlzl hlr hnl hnX hnf
  · rintro m' G' s ⟨ka, kzs, lz, ns, Fk, j1, j2, j3, j4, j5, rfl, hka, hKC, hKl, hlzl, hlr, hnl, hnX, hnf⟩ S
    refine ex_nil (lr_next ?_)
    refine lawC ho' O hh (Sg.sub S (show Sb _ ((nl, .list (ndL ns)) :: (kL, .list (ka.map Value.ref)) :: (lL, .list (lz.map iv)) :: (ndH ns ++ (Fk ++ G0))) from by walk_at "Q")) j1 j2 j3 j4 j5 m2 m3 hsb hcnt1 hcnt2 hd1 hd3 hka hKC hKl hlzl hlr ?_ (by omega) hnf fin
    rw [hnl]
    refine hN.cong fun j p hp => ?_
    rw [List.getElem?_map] at hp
    obtain ⟨c, hc, rfl⟩ := Option.map_eq_some_iff.mp hp
    obtain ⟨c', e1, e2, e3⟩ := hnX j c hc
    exact ⟨c'.nod, by rw [List.getElem?_map, e1]; rfl, by simp only [NdC.nod, e2], by simp only [NdC.nod, e3]⟩
  · have : p.1 ∈ lz.map Prod.fst := List.mem_map_of_mem (f := Prod.fst) hp
    rw [hlz] at this
    rcases List.mem_append.mp this with h | h
    · obtain ⟨j, hj, e⟩ := List.mem_map.mp h
      have := List.mem_range.mp hj
      omega
    · have := List.mem_singleton.mp h
      omega
end
end

section
section
variable {prog : Program} {w : World} {T : Tp} {A : Around} {s : Shared}
theorem lawA {name qual : Str} {params : Arguments} {body : List Stmt} {scope : Scope} {dV kV doc pm cdv ct oc : Value} {an od : Option Addr} {osl : Array (Option Value)}
    {base : Heap} {cn : Str} {L fa : Addr} {cd : Value} {a1 a2 a3 a4 sl : Addr} {os : OsState} {Gt : Hp} {sz : List (Int × Tok)} {Q : Flow → Shared → Prop} {E : Value → Shared → Prop}
    (ho : (Mine.hd.heap_39 w.params).lookup 1065 = some ⟨oc, od, .func (fnOf name qual params body scope dV kV doc pm an cdv ct), osl⟩)
    (O : Ok (Mine.hd.heap_39 w.params) T A ⟨base, [], [], cn, scope, L, fa, cd, [(Str.ofString "top", a4), (Str.ofString "mapping", a3), (Str.ofString "head", a2), (Str.ofString "script", a1)], os⟩ 200 1000) (hh : A.handled = none)
    (S : Sg ⟨base, [], [], cn, scope, L, fa, cd, [(Str.ofString "top", a4), (Str.ofString "mapping", a3), (Str.ofString "head", a2), (Str.ofString "script", a1)], os⟩ [] ((a4, .cell none) :: (a3, .cell none) :: (a2, .cell none) :: (a1, .cell (some (.ref sl))) :: Gt) s)
    (B : base.IsList sl (sz.map iv).toArray) (hlen : sz.length ≤ 63) (fin : ∀ m s, Sg ⟨base, [], [], cn, scope, L, fa, cd, [(Str.ofString "top", a4), (Str.ofString "mapping", a3), (Str.ofString "head", a2), (Str.ofString "script", a1)], os⟩ m Gt s → Q (.ret (.bool true)) s) :
    wpAny (model prog w) A (execs body (Cx.env ⟨base, [], [], cn, scope, L, fa, cd, [(Str.ofString "top", a4), (Str.ofString "mapping", a3), (Str.ofString "head", a2), (Str.ofString "script", a1)], os⟩)) Q E s := by
  have ho' := ho
  have e := (show (Mine.hd.heap_39 w.params).lookup 1065 = some ⟨_, _, .func (fnOf _ _ _ _ _ _ _ _ _ _ _ _), _⟩ by k_is).symm.trans ho
  injection e with e
  injection e with _ _ e _
  injection e with e
  simp only [fnOf, FuncData.mk.injEq, FuncBody.stmts.injEq] at e
  obtain ⟨-, -, -, rfl, rfl, -⟩ := e
  clear ho
  refine ex_assign ?_
  refine evHead S B (by omega) rfl (by rfl) (by rfl) (by walk_at "H") fun hd tkh s S => ?_
  repeat walk_at "W"
  obtain ⟨cnt0, hc0, ecnt⟩ := fmodN hd (k := 8) (by decide)
  obtain ⟨t0, ht0, etop⟩ := fmodN (hd.fdiv 16) (k := 3) (by decide)
  obtain ⟨cnt, hcnt1, hcnt2, ecnt'⟩ : ∃ cnt : Nat, 1 ≤ cnt ∧ cnt ≤ 8 ∧ (1 : Int) + hd.fmod 8 = cnt := ⟨cnt0 + 1, by omega, by omega, by rw [show hd.fmod 8 = (cnt0 : Int) from ecnt]; omega⟩
  obtain ⟨d, hd1, hd3, etop'⟩ : ∃ d : Nat, 1 ≤ d ∧ d ≤ 3 ∧ (2 : Int) - (hd.fdiv 16).fmod 3 = 3 - (d : Int) := ⟨t0 + 1, by omega, by omega, by rw [show (hd.fdiv 16).fmod 3 = (t0 : Int) from etop]; omega⟩
  have S := ‹Sg _ _ _ _›
  rw [ecnt', etop'] at S
  obtain ⟨mp, tkc, tkt, S⟩ : ∃ mp tkc tkt, Sg _ [(Str.ofString "count", .int (cnt : Int) tkc)] ((a4, .cell (some (.int (3 - (d : Int)) tkt))) :: (a3, .cell (some (.bool mp))) :: (a2, .cell (some (.int hd tkh))) :: (a1, .cell (some (.ref sl))) :: Gt) _ := ⟨_, _, _, S⟩
  obtain ⟨G0, m1, m2, m3, m4, hsb, S⟩ : ∃ G0, (a1, AO.cell (some (.ref sl))) ∈ G0 ∧ (a2, AO.cell (some (.int hd tkh))) ∈ G0 ∧ (a3, AO.cell (some (.bool mp))) ∈ G0 ∧ (a4, AO.cell (some (.int (3 - (d : Int)) tkt))) ∈ G0 ∧ Sb G0 Gt ∧ Sg _ _ G0 _ := ⟨_, by walk_at "H", by walk_at "H", by walk_at "H", by walk_at "H", by walk_at "Q", S⟩
  -- keys
  refine gAssignComp S (by rfl) (by rfl) (by decide) (by rfl) (by decide) (by rfl) (by rfl) (by rfl) ?_
  repeat walk_at "W"
  refine gIterRange (N := cnt) (by assumption) (by assumption) (by omega) (by omega) (by split <;> omega) ?_
  intro it s S
  refine ⟨it, fun i => ritO (0 + (i : Int)) ((cnt : Int) - i), cnt, _, _, _, _, fun i vs G' => ∃ as ks F, vs = as.map Value.ref ∧ as.length = i ∧ KC F as ks ∧ (∀ k ∈ ks, 1 ≤ k.length ∧ k.length ≤ 2) ∧ G' = F ++ G0, rfl, srcRange hh, ritO0, le_sz (by omega), S, ⟨[], [], [], rfl, rfl, .nil, fun k hk => (by cases hk), rfl⟩, fun _ _ _ _ => trivial, ?_, ?_⟩
  · rintro i v vs C D G' s hi ⟨tk, rfl⟩ ⟨as, ks, F, rfl, hl, hk, hk2, rfl⟩ S E'
    obtain ⟨n1, hn1, en1⟩ := fmodN (hd.fdiv 48 + (0 + (i : Int))) (k := 2) (by decide)
    repeat walk_at "W"
    refine gSliceT (by assumption) (by walk_at "H") .none (.int _ _) .none (by decide) (le_sz (by simp)) (pick_take' _ (n1 + 1) (by rw [show (hd.fdiv 48 + (0 + (i : Int))).fmod 2 = (n1 : Int) from en1]; omega)) ?_
    intro r s S
    obtain ⟨kz, hkz, S⟩ : ∃ kz : List (Int × Tok), (1 ≤ kz.length ∧ kz.length ≤ 2) ∧ Sg _ _ ((r, .list (kz.map iv)) :: _) s := by
      rcases (by omega : n1 = 0 ∨ n1 = 1) with rfl | rfl
      · exact ⟨[(_, _)], ⟨by simp, by simp⟩, S⟩
      · exact ⟨[(_, _), (_, _)], ⟨by simp, by simp⟩, S⟩
    have S := Sg.sub S (show Sb _ ((C, _) :: (D, _) :: (it, _) :: (r, .list (kz.map iv)) :: (F ++ G0)) from by walk_at "Q")
    refine ⟨(r, .list (kz.map iv)) :: F ++ G0, ⟨as ++ [r], ks ++ [kz], (r, .list (kz.map iv)) :: F, by simp, by simp [hl], (hk.le fun p hp => .tail _ hp).snoc (.head _), fun k hk => ?_, rfl⟩, S⟩
    rcases List.mem_append.mp hk with h | h
    · exact hk2 k h
    · rw [List.mem_singleton.mp h]; exact hkz
  rintro kL vs G' s ⟨ka, kzs, Fk, rfl, hkal, hKC, hKl, rfl⟩ S' s S
  clear S'
  have hkzl := hKC.len
  -- links
  repeat walk_at "W"
  refine gComp S (by rfl) (by decide) (by rfl) (by decide) (by rfl) ?_
  repeat walk_at "W"
  refine gIterRange (N := cnt - 1) (by assumption) (by assumption) (by omega) (by omega) (by split <;> omega) ?_
  intro it s S
  refine ⟨it, fun i => ritO (0 + (i : Int)) (((cnt - 1 : Nat) : Int) - i), cnt - 1, _, _, _, _, fun i vs G' => ∃ kz : List (Int × Tok), vs = kz.map iv ∧ kz.map Prod.fst = upTo i ∧ G' = (kL, .list (ka.map Value.ref)) :: (Fk ++ G0), rfl, srcRange hh, ritO0, le_sz (by omega), S, ⟨[], rfl, rfl, rfl⟩, fun _ _ _ _ => trivial, ?_, ?_⟩
  · rintro i v vs C D G' s hi ⟨tk, rfl⟩ ⟨kz, rfl, hkz, rfl⟩ S E'
    repeat walk_at "W"
    refine ⟨_, ⟨kz ++ [(_, _)], (by rw [List.map_append]; rfl), ?_, rfl⟩, by assumption⟩
    rw [List.map_append, hkz, upTo_succ]
    simp
  rintro lD vs G' s ⟨kz, rfl, hkz, rfl⟩ S
  have hkzl' : kz.length = cnt - 1 := by have := congrArg List.length hkz; simpa [upTo_len] using this
  repeat walk_at "W"
  obtain ⟨lL, lz, hlz, S⟩ : ∃ lL, ∃ lz : List (Int × Tok), lz.map Prod.fst = upTo (cnt - 1) ++ [-1] ∧ Sg _ (put (Str.ofString "links") (.ref lL) (put (Str.ofString "keys") (.ref kL) [(Str.ofString "count", .int (cnt : Int) tkc)])) ((lL, .list (lz.map iv)) :: (kL, .list (ka.map Value.ref)) :: (Fk ++ G0)) _ :=
    ⟨_, kz ++ [(-1, _)], by rw [List.map_append, hkz]; rfl, by rw [List.map_append]; exact Sg.sub ‹_› (sb_cons rm_hd (sb_drop (sb_drop sb_refl)))⟩
  -- levels
  refine gAssignComp S (by rfl) (by rfl) (by decide) (by rfl) (by decide) (by rfl) (by rfl) (by rfl) ?_
  repeat walk_at "W"
  refine gIterRange (N := cnt - 1) (by assumption) (by assumption) (by omega) (by omega) (by split <;> omega) ?_
  intro it s S
  refine ⟨it, fun i => ritO (0 + (i : Int)) (((cnt - 1 : Nat) : Int) - i), cnt - 1, _, _, _, _, fun i vs G' => ∃ vz : List (Int × Tok), vs = vz.map iv ∧ vz.length = i ∧ (∀ p ∈ vz, 3 - (d : Int) ≤ p.1 ∧ p.1 ≤ 2) ∧ G' = (lL, .list (lz.map iv)) :: (kL, .list (ka.map Value.ref)) :: (Fk ++ G0), rfl, srcRange hh, ritO0, le_sz (by omega), S, ⟨[], rfl, rfl, fun p hp => (by cases hp), rfl⟩, fun _ _ _ _ => trivial, ?_, ?_⟩
  · rintro i v vs C D G' s hi ⟨tk, rfl⟩ ⟨vz, rfl, hvz, hvr, rfl⟩ S E'
    have fin : ∀ {c' : Cx} {m' : Loc} x t s, 3 - (d : Int) ≤ x ∧ x ≤ 2 → Sg c' m' ((C, .ns [(Str.ofString "k", .int (0 + (i : Int)) tk)]) :: (D, .list (vz.map iv)) :: (it, ritO (0 + ((i + 1 : Nat) : Int)) (((cnt - 1 : Nat) : Int) - ((i + 1 : Nat) : Int))) :: (lL, .list (lz.map iv)) :: (kL, .list (ka.map Value.ref)) :: (Fk ++ G0)) s →
        ∃ G', (∃ vz' : List (Int × Tok), vz.map iv ++ [Value.int x t] = vz'.map iv ∧ vz'.length = i + 1 ∧ (∀ p ∈ vz', 3 - (d : Int) ≤ p.1 ∧ p.1 ≤ 2) ∧ G' = (lL, .list (lz.map iv)) :: (kL, .list (ka.map Value.ref)) :: (Fk ++ G0)) ∧
          Sg c' m' ((C, .ns [(Str.ofString "k", .int (0 + (i : Int)) tk)]) :: (D, .list (vz.map iv)) :: (it, ritO (0 + ((i + 1 : Nat) : Int)) (((cnt - 1 : Nat) : Int) - ((i + 1 : Nat) : Int))) :: G') s := by
      intro c' m' x t s hx S
      refine ⟨_, ⟨vz ++ [(x, t)], by rw [List.map_append]; rfl, by simp [hvz], fun p hp => ?_, rfl⟩, S⟩
      rcases List.mem_append.mp hp with h | h
      · exact hvr p h
      · rw [List.mem_singleton.mp h]; exact hx
    repeat walk_at "W"
    refine bLen ‹_› B (le_sz (by simp; omega)) ?_
    intro tkl s S
    repeat walk_at "W"
    refine ifs (fun hb => ?_) (fun hb => ?_)
    · have hb0 : (5 : Int) + i < sz.length := by simpa using hb
      have hb' : 5 + i < sz.length := by omega
      obtain ⟨p, hp⟩ : ∃ p, sz[5 + i]? = some p := ⟨_, List.getElem?_eq_getElem hb'⟩
      repeat walk_at "W"
      refine bItem ‹_› B (by omega) (by omega) (x := .int p.1 p.2) (by rw [show ((5 : Int) + (0 + (i : Int))).toNat = 5 + i by omega, List.getElem?_map, hp]; rfl) ?_
      repeat walk_at "W"
      refine gMaxI hh (by assumption) ?_
      intro tkm s S
      obtain ⟨q, hq, eq⟩ := fmodN p.1 (k := 3) (by decide)
      refine fin _ _ _ ?_ S
      rw [show p.1.fmod 3 = (q : Int) from eq]
      split <;> omega
    · repeat walk_at "W"
      exact fin _ _ _ (by omega) ‹_›
  rintro vL vs G' s ⟨vz, rfl, hvz, hvr, rfl⟩ S' s S
  clear S'
  -- nodes, root
  repeat walk_at "W"
  obtain ⟨nl, S⟩ : ∃ nl, Sg _ (put (Str.ofString "nodes") (.ref nl) (put (Str.ofString "levels") (.ref vL) (put (Str.ofString "links") (.ref lL) (put (Str.ofString "keys") (.ref kL) [(Str.ofString "count", .int (cnt : Int) tkc)])))) ((nl, .list []) :: (vL, .list (vz.map iv)) :: (lL, .list (lz.map iv)) :: (kL, .list (ka.map Value.ref)) :: (Fk ++ G0)) _ := ⟨_, ‹_›⟩
  refine gComp S (by rfl) (by decide) (by rfl) (by decide) (by rfl) ?_
  repeat walk_at "W"
  refine gIterRange (N := cnt) (by assumption) (by assumption) (by omega) (by omega) (by split <;> omega) ?_
  intro it s S
  refine ⟨it, fun i => ritO (0 + (i : Int)) ((cnt : Int) - i), cnt, _, _, _, _, fun i vs G' => ∃ yz : List (Int × Tok), vs = yz.map iv ∧ yz.length = i ∧ (∀ (j : Nat), j < i → ∃ tk, yz[j]? = some ((j : Int), tk)) ∧ G' = (nl, .list []) :: (vL, .list (vz.map iv)) :: (lL, .list (lz.map iv)) :: (kL, .list (ka.map Value.ref)) :: (Fk ++ G0), rfl, srcRange hh, ritO0, le_sz (by omega), S, ⟨[], rfl, rfl, fun j hj => absurd hj (Nat.not_lt_zero _), rfl⟩, fun _ _ _ _ => trivial, ?_, ?_⟩
  · rintro i v vs C D G' s hi ⟨tk, rfl⟩ ⟨yz, rfl, hyz, hyr, rfl⟩ S E'
    repeat walk_at "W"
    refine ⟨_, ⟨yz ++ [(0 + (i : Int), tk)], by rw [List.map_append]; rfl, by simp [hyz], fun j hj => ?_, rfl⟩, by assumption⟩
    by_cases hji : j < i
    · rw [List.getElem?_append_left (by omega)]; exact hyr j hji
    · have : j = i := by omega
      subst this
      rw [List.getElem?_append_right (by omega), hyz]
      exact ⟨tk, by simp⟩
  rintro yD vs G' s ⟨yz, rfl, hyz, hyr, rfl⟩ S
  repeat walk_at "W"
  have S := Sg.sub ‹_› (show Sb _ ((nl, .list []) :: (yD, .list (yz.map iv)) :: (vL, .list (vz.map iv)) :: (lL, .list (lz.map iv)) :: (kL, .list (ka.map Value.ref)) :: (Fk ++ G0)) from by walk_at "Q")
  refine call_of (lawNestAll d (ns := []) (a := 0) (n := cnt) (O.le (by omega) (by omega)) hh S (by walk_at "H") (by walk_at "H") (by simp [hyz]) (by omega) (by omega) (fun j hj => ?_) (by simp [hvz]; omega) (fun v hv => ?_) rfl hd3 (by have : d * cnt ≤ 3 * 8 := Nat.mul_le_mul hd3 hcnt2; simp; omega) ?_)
  · obtain ⟨tk, e⟩ := hyr j hj
    exact ⟨tk, by rw [List.getElem?_map, e]; simp⟩
  · obtain ⟨p, hp, rfl⟩ := List.mem_map.mp hv
    exact ⟨p.1, p.2, rfl, hvr p hp⟩
  intro X root tkr s S hN hXl hXf
  simp only [List.nil_append, List.length_nil] at S hN
  refine gStoreL S (by rfl) ?_
  intro s S
  refine lawB ho' O hh (Sg.sub S (show Sb _ ((nl, .list (ndL X)) :: (kL, .list (ka.map Value.ref)) :: (lL, .list (lz.map iv)) :: (ndH X ++ (Fk ++ G0))) from by walk_at "Q")) (by walk_at "V") (by walk_at "V") (by walk_at "V") (by walk_at "V") (by walk_at "V") m1 m2 m3 hsb hcnt1 hcnt2 hd1 hd3 hkal hKC (fun k hk => (hKl k hk).2) hlz hN hXl hXf B hlen fin
end
end

end Mine

theorem PySem.Challenge.cw_au5005_04_holds : PySem.Challenge.rw_au5005_04.Holds := by
  refine Mine.hd ?_
  k_go0
  have hX := ‹(Mine.hd.heap_39 _).In (ghostOf _ _)›
  have hT := ‹Top topProg _ _ _ _ (ghostOf _ _)›
  have hF := ‹Fr (ghostOf _ _) _ _ _›
  have hN := ‹News (ghostOf _ _) _ _ _›
  obtain ⟨sz, rfl, hsz⟩ := Mine.ints_of ‹IntsAre _ _›
  have hlen : sz.length ≤ 63 := by rw [← List.length_map (f := Prod.fst), hsz]; omega
  refine Mine.lawA (Gt := Mine.tabG _) (T := ⟨topProg, _, _, _, _⟩) (by k_is) ⟨hX, hT, rfl, rfl, ?_, ?_⟩ rfl (Mine.joinS hF hN (fun _ => rfl) ?_ ?_ ‹_› rfl) lifted hlen (fun m s S => Mine.joinE S rfl rfl (fun _ => rfl) (Mine.post_law _ _))
  · show 1 + claimMargin + 1 + 200 < recursionLimit
    decide
  · exact (by decide : 4 + 3 + 1000 < cLine)
  · unfold Mine.Nd
    simp
    omega
  · repeat' (first | exact List.forall_mem_nil _ | (refine List.forall_mem_cons.mpr ⟨⟨_, (by repeat (first | exact .head _ | apply List.Mem.tail)), (by first | exact .inl rfl | exact .inr ⟨_, rfl, by assumption⟩)⟩, ?_⟩))

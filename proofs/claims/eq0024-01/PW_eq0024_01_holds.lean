import PyProof.Rows.All
import Wide.All
import OpenK.AllK
import Wide.FinOn
import PyProof.DictRoadsH
import Lean
import PySem.Challenge.RW_eq0024_01

set_option Elab.async false

section
open PySem PySem.W PyProof.Rows
namespace Mine
set_option maxRecDepth 100000 in
set_option maxHeartbeats 8000000 in
open_top hd for PySem.Challenge.rw_eq0024_01
end Mine
end

section
open PySem PySem.W PyProof.Rows
namespace Mine
set_option maxRecDepth 100000

/-- the names of tables in a message, and the indices -/
inductive K5 where
  | a | b | S | i0 | i1
  deriving DecidableEq

def K5.str : K5 → Option Str
  | .a => some (Str.ofString "a")
  | .b => some (Str.ofString "b")
  | .S => some (Str.ofString "_schema")
  | _ => none
def K5.int : K5 → Option Int
  | .i0 => some 0
  | .i1 => some 1
  | _ => none

def K5.is (k : K5) : Value → Bool
  | .str x _ => k.str == some x
  | .int i _ => k.int == some i
  | _ => false

theorem K5.str_inj : ∀ {k l : K5} {x : Str}, k.str = some x → l.str = some x → k = l := by
  intro k l x h1 h2
  have h3 := h1
  rw [← h2] at h3
  cases k <;> cases l <;> first | rfl | (cases h1; done) | (cases h2; done) | (revert h3; decide)
theorem K5.int_inj : ∀ {k l : K5} {x : Int}, k.int = some x → l.int = some x → k = l := by
  intro k l x h1 h2
  have h3 := h1
  rw [← h2] at h3
  cases k <;> cases l <;> first | rfl | (cases h1; done) | (cases h2; done) | (revert h3; decide)

theorem K5.is_inj (v : Value) (k l : K5) (h1 : k.is v = true) (h2 : l.is v = true) : k = l := by
  cases v <;> simp only [K5.is, beq_iff_eq, Bool.false_eq_true] at h1 h2
  · exact K5.int_inj h1 h2
  · exact K5.str_inj h1 h2

theorem K5.is_shape {k : K5} {v : Value} (h : k.is v = true) : (∃ x t, v = .str x t ∧ k.str = some x) ∨ ∃ i t, v = .int i t ∧ k.int = some i := by
  cases v <;> simp only [K5.is, beq_iff_eq, Bool.false_eq_true] at h
  · exact .inr ⟨_, _, rfl, h⟩
  · exact .inl ⟨_, _, rfl, h⟩

def K5.hash (w : World) (k : K5) : Int := match k.str with
  | some x => hashStr w x
  | none => match k.int with
    | some i => hashInt i
    | none => 0

theorem K5.hash_str {w : World} {k : K5} {x : Str} (h : k.str = some x) : k.hash w = hashStr w x := by unfold K5.hash; rw [h]
theorem K5.hash_int {w : World} {k : K5} {x : Int} (h : k.int = some x) : k.hash w = hashInt x := by
  have e : k.str = none := by cases k <;> first | rfl | cases h
  unfold K5.hash; rw [e, h]

section
variable {prog : Program} {w : World} {A : Around} {E : Value → Shared → Prop} {s : Shared}
theorem eqBool_str_int {x : Str} {t : Tok} {i : Int} {u : Tok} {Q : Bool → Shared → Prop} (h : Q false s) : wpAny (model prog w) A (eqBool (.str x t) (.int i u)) Q E s := by
  unfold eqBool
  refine wpAny_holding (wpAny_ite ?_)
  have hab : ¬ ((Value.str x t == Value.int i u) = true) := by intro e; have := eq_of_beq e; cases this
  rw [if_neg hab]
  exact wpAny_bind (EqMixed.eq_str_int (wpAny_truthy_bool h))
theorem eqBool_int_str {x : Str} {t : Tok} {i : Int} {u : Tok} {Q : Bool → Shared → Prop} (h : Q false s) : wpAny (model prog w) A (eqBool (.int i u) (.str x t)) Q E s := by
  unfold eqBool
  refine wpAny_holding (wpAny_ite ?_)
  have hab : ¬ ((Value.int i u == Value.str x t) = true) := by intro e; have := eq_of_beq e; cases this
  rw [if_neg hab]
  exact wpAny_bind (EqMixed.eq_int_str (wpAny_truthy_bool h))
end

theorem K5.str_ne {k l : K5} {x y : Str} (h1 : k.str = some x) (h2 : l.str = some y) : decide (x = y) = decide (k = l) := by
  by_cases e : k = l
  · subst e; rw [h1] at h2; cases h2; simp
  · rw [decide_eq_false e, decide_eq_false]
    rintro rfl; exact e (K5.str_inj h1 h2)
theorem K5.int_ne {k l : K5} {x y : Int} (h1 : k.int = some x) (h2 : l.int = some y) : (x == y) = decide (k = l) := by
  by_cases e : k = l
  · subst e; rw [h1] at h2; cases h2; simp
  · rw [decide_eq_false e]
    cases q : x == y with
    | false => rfl
    | true => rw [eq_of_beq q] at h1; exact absurd (K5.int_inj h1 h2) e
theorem K5.mixed {k l : K5} {x : Str} {i : Int} (h1 : k.str = some x) (h2 : l.int = some i) : k ≠ l := by
  rintro rfl; cases k <;> first | (cases h1; done) | (cases h2; done)

def mixK (prog : Program) (w : World) : KeyKind prog w K5 where
  is := K5.is
  hash := K5.hash w
  inj := K5.is_inj
  byValue := fun k v h => by
    rcases K5.is_shape h with ⟨x, t, rfl, _⟩ | ⟨i, t, rfl, _⟩ <;> rfl
  pyHash := fun {A E s k v Q} hv h => by
    rcases K5.is_shape hv with ⟨x, t, rfl, e⟩ | ⟨i, t, rfl, e⟩
    · exact wpAny_pyHash_str (by rw [K5.hash_str e] at h; exact h)
    · exact wpAny_pyHash_int (by rw [K5.hash_int e] at h; exact h)
  eqBool := fun {A E s a b u v Q} hu hv h => by
    rcases K5.is_shape hu with ⟨x, t, rfl, e⟩ | ⟨i, t, rfl, e⟩ <;> rcases K5.is_shape hv with ⟨y, t', rfl, e'⟩ | ⟨j, t', rfl, e'⟩
    · exact wpAny_eqBool_str (by rw [K5.str_ne e e']; exact h)
    · exact eqBool_str_int (by rw [decide_eq_false (K5.mixed e e')] at h; exact h)
    · exact eqBool_int_str (by rw [decide_eq_false (fun q => K5.mixed e' e q.symm)] at h; exact h)
    · exact wpAny_eqBool_int (by rw [K5.int_ne e e']; exact h)
  «strs» := fun k x t v h => by
    rcases K5.is_shape h with ⟨y, t', e, e'⟩ | ⟨i, t', e, _⟩
    · cases e
      cases v <;> simp only [K5.is, Value.isStr]
      · cases k <;> first | rfl | (cases e'; done)
      · rw [e']
        exact Bool.eq_iff_iff.mpr ⟨fun h => by simpa using Eq.symm (by simpa using h), fun h => by simpa using Eq.symm (by simpa using h)⟩
    · cases e

theorem K5.length_le : ∀ {l : List K5}, l.Nodup → l.length ≤ 5 := by
  intro l hl
  have h : ∀ l : List K5, l.Nodup → l.length = l.count .a + l.count .b + l.count .S + l.count .i0 + l.count .i1 := by
    intro l _
    induction l with
    | nil => rfl
    | cons k r ih => 
      have := ih (by
        rename_i h1
        exact (List.nodup_cons.mp h1).2)
      cases k <;> simp <;> omega
  rw [h l hl]
  have c : ∀ k : K5, l.count k ≤ 1 := fun k => List.nodup_iff_count.mp hl k
  have := c .a; have := c .b; have := c .S; have := c .i0; have := c .i1
  omega
end Mine
end

section
open PySem PySem.W PyProof.Rows
set_option linter.constructorNameAsVariable false
namespace Mine
inductive Leaf where
  | none
  | str (x : Str)
  | lst (xs : List Str)
def Leaf.items : Leaf → List Str
  | .none => []
  | .str x => [x]
  | .lst xs => xs
def Leaf.merge (x y : Leaf) : Leaf := if x.items = [] then y else if y.items = [] then x else .lst (x.items ++ y.items)

theorem Leaf.merge_items (x y : Leaf) : (x.merge y).items = x.items ++ y.items := by
  unfold Leaf.merge
  split
  · rename_i h; rw [h]; rfl
  · split
    · rename_i h; rw [h, List.append_nil]
    · rfl
theorem Leaf.merge_l {x : Leaf} (h : x.items = []) (y : Leaf) : x.merge y = y := by unfold Leaf.merge; rw [if_pos h]
theorem Leaf.merge_r {x y : Leaf} (hx : x.items ≠ []) (h : y.items = []) : x.merge y = x := by unfold Leaf.merge; rw [if_neg hx, if_pos h]
theorem Leaf.merge_t {x y : Leaf} (hx : x.items ≠ []) (hy : y.items ≠ []) : x.merge y = .lst (x.items ++ y.items) := by unfold Leaf.merge; rw [if_neg hx, if_neg hy]
theorem Leaf.merge_assoc (x y z : Leaf) : (x.merge y).merge z = x.merge (y.merge z) := by
  by_cases hx : x.items = []
  · rw [Leaf.merge_l hx, Leaf.merge_l hx]
  by_cases hy : y.items = []
  · rw [Leaf.merge_r hx hy, Leaf.merge_l hy]
  by_cases hz : z.items = []
  · rw [Leaf.merge_r hy hz, Leaf.merge_r (by rw [Leaf.merge_items]; simp [hx]) hz]
  have h1 : Leaf.items (.lst (y.items ++ z.items)) ≠ [] := by
    show y.items ++ z.items ≠ []
    simp [hy]
  have h2 : Leaf.items (.lst (x.items ++ y.items)) ≠ [] := by
    show x.items ++ y.items ≠ []
    simp [hx]
  rw [Leaf.merge_t hx hy, Leaf.merge_t hy hz, Leaf.merge_t hx h1, Leaf.merge_t h2 hz]
  show Leaf.lst ((x.items ++ y.items) ++ z.items) = .lst (x.items ++ (y.items ++ z.items))
  rw [List.append_assoc]

inductive T where
  | leaf (x : Leaf)
  | dct (f : K5 → Option T)

abbrev T.nn : T := .leaf .none

def falsy : T → Prop
  | .leaf x => x.items = []
  | .dct f => ∀ k, f k = none

def upd (f : K5 → Option T) (k : K5) (v : T) : K5 → Option T := fun k' => if k' = k then some v else f k'
theorem upd_same (f : K5 → Option T) (k : K5) (v : T) : upd f k v k = some v := by simp [upd]
theorem upd_ne (f : K5 → Option T) {k k' : K5} (v : T) (h : k' ≠ k) : upd f k v k' = f k' := by simp [upd, h]
theorem upd_upd (f : K5 → Option T) (k : K5) (u v : T) : upd (upd f k u) k v = upd f k v := by
  funext k'; unfold upd; split <;> rfl
theorem falsy_upd {f : K5 → Option T} {k : K5} {v : T} : ¬ falsy (.dct (upd f k v)) := fun h => by
  have := h k; rw [upd_same] at this; cases this

def optM (m : T → T → T) : Option T → Option T → Option T
  | some x, some y => some (m x y)
  | some x, none => some x
  | none, y => y
theorem optM_none {m : T → T → T} {x y : Option T} (h : optM m x y = none) : x = none ∧ y = none := by
  cases x <;> cases y <;> first | exact ⟨rfl, rfl⟩ | cases h

def stepT (m : T → T → T) : T → T → T
  | .leaf x, .leaf y => .leaf (x.merge y)
  | .leaf x, .dct g => .dct (upd g .S (m (.leaf x) ((g .S).getD .nn)))
  | .dct f, .leaf y => .dct (upd f .S (m ((f .S).getD .nn) (.leaf y)))
  | .dct f, .dct g => .dct fun k => optM m (f k) (g k)
open Classical in
noncomputable def step (m : T → T → T) (a b : T) : T := if falsy a then b else if falsy b then a else stepT m a b

/-- what two trees of no more than n floors merge to -/
noncomputable def merge : Nat → T → T → T
  | 0 => step fun a _ => a
  | n + 1 => step (merge n)

theorem step_l {m : T → T → T} {a : T} (b : T) (h : falsy a) : step m a b = b := by unfold step; rw [if_pos h]
theorem step_r {m : T → T → T} {a b : T} (h : ¬ falsy a) (h' : falsy b) : step m a b = a := by unfold step; rw [if_neg h, if_pos h']
theorem step_t {m : T → T → T} {a b : T} (h : ¬ falsy a) (h' : ¬ falsy b) : step m a b = stepT m a b := by unfold step; rw [if_neg h, if_neg h']

/-- no more than n floors -/
def dp : Nat → T → Prop
  | _, .leaf _ => True
  | 0, .dct _ => False
  | n + 1, .dct f => ∀ k y, f k = some y → dp n y
theorem dp_leaf {n : Nat} {x : Leaf} : dp n (.leaf x) := by cases n <;> trivial
theorem dp_mono : ∀ {n m : Nat} {a : T}, n ≤ m → dp n a → dp m a
  | _, _, .leaf _, _, _ => dp_leaf
  | 0, _, .dct _, _, h => h.elim
  | n + 1, 0, .dct _, h, _ => absurd h (Nat.not_succ_le_zero n)
  | n + 1, m + 1, .dct _, h, d => fun k y e => dp_mono (Nat.le_of_succ_le_succ h) (d k y e)
theorem dp_getD {n : Nat} {f : K5 → Option T} (h : dp (n + 1) (.dct f)) (k : K5) : dp n ((f k).getD .nn) := by
  cases e : f k with
  | none => exact dp_leaf
  | some y => exact h k y e
theorem nn_falsy : falsy .nn := rfl

theorem merge_l {n : Nat} {a : T} (b : T) (h : falsy a) : merge n a b = b := by cases n <;> exact step_l b h
theorem merge_r {n : Nat} {a b : T} (h : ¬ falsy a) (h' : falsy b) : merge n a b = a := by cases n <;> exact step_r h h'
theorem merge_ll {n : Nat} {x y : Leaf} (hx : ¬ falsy (.leaf x)) (hy : ¬ falsy (.leaf y)) : merge n (.leaf x) (.leaf y) = .leaf (x.merge y) := by
  cases n <;> exact step_t hx hy
theorem merge_ld {n : Nat} {x : Leaf} {g : K5 → Option T} (hx : ¬ falsy (.leaf x)) (hy : ¬ falsy (.dct g)) :
    merge (n + 1) (.leaf x) (.dct g) = .dct (upd g .S (merge n (.leaf x) ((g .S).getD .nn))) := step_t hx hy
theorem merge_dl {n : Nat} {y : Leaf} {f : K5 → Option T} (hx : ¬ falsy (.dct f)) (hy : ¬ falsy (.leaf y)) :
    merge (n + 1) (.dct f) (.leaf y) = .dct (upd f .S (merge n ((f .S).getD .nn) (.leaf y))) := step_t hx hy
theorem merge_dd {n : Nat} {f g : K5 → Option T} (hx : ¬ falsy (.dct f)) (hy : ¬ falsy (.dct g)) :
    merge (n + 1) (.dct f) (.dct g) = .dct fun k => optM (merge n) (f k) (g k) := step_t hx hy

theorem truthy_leaf_l {x y : Leaf} (h : ¬ falsy (.leaf x)) : ¬ falsy (.leaf (x.merge y)) := by
  show ¬ (Leaf.merge x y).items = []
  rw [Leaf.merge_items]
  exact fun e => h (List.append_eq_nil_iff.mp e).1

theorem truthy_step_l {m : T → T → T} {a b : T} (h : ¬ falsy a) : ¬ falsy (step m a b) := by
  by_cases hb : falsy b
  · rw [step_r h hb]; exact h
  rw [step_t h hb]
  rcases a with x | f <;> rcases b with y | g
  · exact truthy_leaf_l h
  · exact falsy_upd
  · exact falsy_upd
  · exact fun e => h fun k => (optM_none (e k)).1
theorem truthy_merge_l {n : Nat} {a b : T} (h : ¬ falsy a) : ¬ falsy (merge n a b) := by
  cases n <;> exact truthy_step_l h
theorem truthy_merge_r {n : Nat} {a b : T} (h : ¬ falsy b) : ¬ falsy (merge n a b) := by
  by_cases ha : falsy a
  · rw [merge_l _ ha]; exact h
  · exact truthy_merge_l ha

theorem dp_merge : ∀ {n : Nat} {a b : T}, dp n a → dp n b → dp n (merge n a b) := by
  intro n
  induction n with
  | zero =>
    intro a b ha hb
    by_cases fa : falsy a
    · rw [merge_l _ fa]; exact hb
    by_cases fb : falsy b
    · rw [merge_r fa fb]; exact ha
    rcases a with x | f
    · rcases b with y | g
      · rw [merge_ll fa fb]; exact dp_leaf
      · exact hb.elim
    · exact ha.elim
  | succ n ih =>
    intro a b ha hb
    by_cases fa : falsy a
    · rw [merge_l _ fa]; exact hb
    by_cases fb : falsy b
    · rw [merge_r fa fb]; exact ha
    rcases a with x | f <;> rcases b with y | g
    · rw [merge_ll fa fb]; exact dp_leaf
    · rw [merge_ld fa fb]
      intro k z e
      by_cases hk : k = .S
      · subst hk; rw [upd_same] at e; cases e
        exact ih dp_leaf (dp_getD hb _)
      · rw [upd_ne _ _ hk] at e; exact hb k z e
    · rw [merge_dl fa fb]
      intro k z e
      by_cases hk : k = .S
      · subst hk; rw [upd_same] at e; cases e
        exact ih (dp_getD ha _) dp_leaf
      · rw [upd_ne _ _ hk] at e; exact ha k z e
    · rw [merge_dd fa fb]
      intro k z e
      dsimp only at e
      cases hf : f k <;> cases hg : g k <;> rw [hf, hg] at e <;> simp only [optM, Option.some.injEq, reduceCtorEq] at e
      · subst e; exact hb _ _ hg
      · subst e; exact ha _ _ hf
      · subst e; exact ih (ha _ _ hf) (hb _ _ hg)

theorem merge_assoc : ∀ (n : Nat) (a b c : T), dp n a → dp n b → dp n c → merge n (merge n a b) c = merge n a (merge n b c) := by
  intro n
  induction n with
  | zero =>
    intro a b c da db dc
    rcases a with x | f
    rcases b with y | g
    rcases c with z | h
    · by_cases ha : falsy (.leaf x)
      · rw [merge_l _ ha, merge_l _ ha]
      by_cases hb : falsy (.leaf y)
      · rw [merge_r ha hb, merge_l _ hb]
      by_cases hc : falsy (.leaf z)
      · rw [merge_r hb hc, merge_r (truthy_merge_l ha) hc]
      rw [merge_ll ha hb, merge_ll hb hc, merge_ll (truthy_leaf_l ha) hc, merge_ll ha (truthy_leaf_l hb), Leaf.merge_assoc]
    · exact dc.elim
    · exact db.elim
    · exact da.elim
  | succ n ih =>
    intro a b c da db dc
    by_cases ha : falsy a
    · rw [merge_l _ ha, merge_l _ ha]
    by_cases hb : falsy b
    · rw [merge_r ha hb, merge_l _ hb]
    by_cases hc : falsy c
    · rw [merge_r hb hc, merge_r (truthy_merge_l ha) hc]
    have hab := truthy_merge_l (n := n + 1) (b := b) ha
    have hbc := truthy_merge_l (n := n + 1) (b := c) hb
    have nn := nn_falsy
    rcases a with x | f <;> rcases b with y | g <;> rcases c with z | h
    · rw [merge_ll ha hb] at hab ⊢
      rw [merge_ll hb hc] at hbc ⊢
      rw [merge_ll hab hc, merge_ll ha hbc, Leaf.merge_assoc]
    · rw [merge_ll ha hb] at hab ⊢
      rw [merge_ld hb hc] at hbc ⊢
      rw [merge_ld hab hc, merge_ld ha hbc, upd_upd, upd_same, Option.getD_some, ← ih _ _ _ dp_leaf dp_leaf (dp_getD dc _), merge_ll ha hb]
    · rw [merge_ld ha hb] at hab ⊢
      rw [merge_dl hb hc] at hbc ⊢
      rw [merge_dl hab hc, merge_ld ha hbc, upd_upd, upd_upd, upd_same, upd_same, Option.getD_some, Option.getD_some, ih _ _ _ dp_leaf (dp_getD db _) dp_leaf]
    · rw [merge_ld ha hb] at hab ⊢
      rw [merge_dd hb hc] at hbc ⊢
      rw [merge_dd hab hc, merge_ld ha hbc]
      congr 1
      funext k
      by_cases hk : k = .S
      · subst hk
        rw [upd_same, upd_same]
        cases hg : g .S <;> cases hh : h .S <;> simp only [optM, Option.getD_some, Option.getD_none]
        · rw [ih _ _ _ dp_leaf dp_leaf (dc _ _ hh), merge_l _ nn]
        · rw [ih _ _ _ dp_leaf (db _ _ hg) (dc _ _ hh)]
      · rw [upd_ne _ _ hk, upd_ne _ _ hk]
    · rw [merge_dl ha hb] at hab ⊢
      rw [merge_ll hb hc] at hbc ⊢
      rw [merge_dl hab hc, merge_dl ha hbc, upd_upd, upd_same, Option.getD_some, ih _ _ _ (dp_getD da _) dp_leaf dp_leaf, merge_ll hb hc]
    · rw [merge_dl ha hb] at hab ⊢
      rw [merge_ld hb hc] at hbc ⊢
      rw [merge_dd hab hc, merge_dd ha hbc]
      congr 1
      funext k
      by_cases hk : k = .S
      · subst hk
        rw [upd_same, upd_same]
        cases hf : f .S <;> cases hh : h .S <;> simp only [optM, Option.getD_some, Option.getD_none]
        · rw [merge_l _ nn, merge_r hb nn]
        · rw [merge_l _ nn]
        · rw [merge_r hb nn]
        · rw [ih _ _ _ (da _ _ hf) dp_leaf (dc _ _ hh)]
      · rw [upd_ne _ _ hk, upd_ne _ _ hk]
    · rw [merge_dd ha hb] at hab ⊢
      rw [merge_dl hb hc] at hbc ⊢
      rw [merge_dl hab hc, merge_dd ha hbc]
      congr 1
      funext k
      by_cases hk : k = .S
      · subst hk
        rw [upd_same, upd_same]
        cases hf : f .S <;> cases hg : g .S <;> simp only [optM, Option.getD_some, Option.getD_none]
        · rw [merge_l _ nn]
        · rw [ih _ _ _ (da _ _ hf) (db _ _ hg) dp_leaf]
      · rw [upd_ne _ _ hk, upd_ne _ _ hk]
    · rw [merge_dd ha hb] at hab ⊢
      rw [merge_dd hb hc] at hbc ⊢
      rw [merge_dd hab hc, merge_dd ha hbc]
      congr 1
      funext k
      cases hf : f k <;> cases hg : g k <;> cases hh : h k <;> simp only [optM]
      rw [ih _ _ _ (da _ _ hf) (db _ _ hg) (dc _ _ hh)]

/-! the readings -/
def rdS : Nat → T → List Str
  | _, .leaf x => x.items
  | 0, .dct _ => []
  | n + 1, .dct f => match f .S with
    | none => []
    | some y => rdS n y
def rdAt : Nat → T → List K5 → List Str
  | n, a, [] => rdS n a
  | _, .leaf _, _ :: _ => []
  | 0, .dct _, _ :: _ => []
  | n + 1, .dct f, k :: p => match f k with
    | none => []
    | some y => rdAt n y p

theorem rdAt_nil {n : Nat} (a : T) : rdAt n a [] = rdS n a := by cases n <;> cases a <;> rfl
theorem rdS_leaf {n : Nat} (x : Leaf) : rdS n (.leaf x) = x.items := by cases n <;> rfl
theorem rdAt_leaf {n : Nat} (x : Leaf) {k : K5} {p : List K5} : rdAt n (.leaf x) (k :: p) = [] := by cases n <;> rfl
theorem rdS_falsy {n : Nat} {a : T} (h : falsy a) : rdS n a = [] := by
  cases a with
  | leaf x => rw [rdS_leaf]; exact h
  | dct f => cases n with
    | zero => rfl
    | succ n => rw [rdS, h .S]
theorem rdAt_falsy {n : Nat} {a : T} {p : List K5} (h : falsy a) : rdAt n a p = [] := by
  cases p with
  | nil => rw [rdAt_nil]; exact rdS_falsy h
  | cons k p => cases a with
    | leaf x => exact rdAt_leaf x
    | dct f => cases n with
      | zero => rfl
      | succ n => rw [rdAt, h k]

theorem rdS_merge : ∀ (n : Nat) (a b : T), dp n a → dp n b → rdS n (merge n a b) = rdS n a ++ rdS n b := by
  intro n
  induction n with
  | zero =>
    intro a b da db
    rcases a with x | f
    · rcases b with y | g
      · by_cases ha : falsy (.leaf x)
        · rw [merge_l _ ha, rdS_falsy ha]; rfl
        by_cases hb : falsy (.leaf y)
        · rw [merge_r ha hb, rdS_falsy hb, List.append_nil]
        rw [merge_ll ha hb, rdS_leaf, rdS_leaf, rdS_leaf]; exact Leaf.merge_items x y
      · exact db.elim
    · exact da.elim
  | succ n ih =>
    intro a b da db
    by_cases ha : falsy a
    · rw [merge_l _ ha, rdS_falsy ha]; rfl
    by_cases hb : falsy b
    · rw [merge_r ha hb, rdS_falsy hb, List.append_nil]
    rcases a with x | f <;> rcases b with y | g
    · rw [merge_ll ha hb, rdS_leaf, rdS_leaf, rdS_leaf]; exact Leaf.merge_items x y
    · rw [merge_ld ha hb, rdS_leaf]
      simp only [rdS, upd_same]
      rw [ih _ _ dp_leaf (dp_getD db _), rdS_leaf]
      cases g .S <;> simp [rdS_leaf, Leaf.items]
    · rw [merge_dl ha hb, rdS_leaf]
      simp only [rdS, upd_same]
      rw [ih _ _ (dp_getD da _) dp_leaf, rdS_leaf]
      cases f .S <;> simp [rdS_leaf, Leaf.items]
    · rw [merge_dd ha hb]
      simp only [rdS]
      cases hf : f .S <;> cases hg : g .S <;> simp only [optM, List.nil_append, List.append_nil]
      exact ih _ _ (da _ _ hf) (db _ _ hg)

def normal (p : List K5) : Prop := p.getLast? ≠ some .S
theorem normal_tail {k : K5} {p : List K5} (h : normal (k :: p)) : normal p := by
  cases p with
  | nil => intro e; cases e
  | cons a r => intro e; exact h (by rw [List.getLast?_cons_cons]; exact e)

theorem rdAt_merge : ∀ (n : Nat) (a b : T) (p : List K5), dp n a → dp n b → normal p → rdAt n (merge n a b) p = rdAt n a p ++ rdAt n b p := by
  intro n
  induction n with
  | zero =>
    intro a b p da db _
    cases p with
    | nil => rw [rdAt_nil, rdAt_nil, rdAt_nil]; exact rdS_merge _ a b da db
    | cons k p =>
      rcases a with x | f
      · rcases b with y | g
        · by_cases ha : falsy (.leaf x)
          · rw [merge_l _ ha, rdAt_falsy ha]; rfl
          by_cases hb : falsy (.leaf y)
          · rw [merge_r ha hb, rdAt_falsy hb, List.append_nil]
          rw [merge_ll ha hb]; rfl
        · exact db.elim
      · exact da.elim
  | succ n ih =>
    intro a b p da db hp
    cases p with
    | nil => rw [rdAt_nil, rdAt_nil, rdAt_nil]; exact rdS_merge _ a b da db
    | cons k p =>
      by_cases ha : falsy a
      · rw [merge_l _ ha, rdAt_falsy ha]; rfl
      by_cases hb : falsy b
      · rw [merge_r ha hb, rdAt_falsy hb, List.append_nil]
      have hp' := normal_tail hp
      rcases a with x | f <;> rcases b with y | g
      · rw [merge_ll ha hb]; rfl
      · rw [merge_ld ha hb]
        by_cases hk : k = .S
        · subst hk
          simp only [rdAt, upd_same]
          rw [ih _ _ _ dp_leaf (dp_getD db _) hp']
          cases p with
          | nil => exact absurd rfl hp
          | cons k' p =>
            rw [rdAt_leaf, List.nil_append, List.nil_append]
            cases g .S
            · rw [Option.getD_none, rdAt_leaf]
            · rfl
        · simp only [rdAt, upd_ne _ _ hk, List.nil_append]
      · rw [merge_dl ha hb]
        by_cases hk : k = .S
        · subst hk
          simp only [rdAt, upd_same]
          rw [ih _ _ _ (dp_getD da _) dp_leaf hp']
          cases p with
          | nil => exact absurd rfl hp
          | cons k' p =>
            rw [rdAt_leaf, List.append_nil, List.append_nil]
            cases f .S
            · rw [Option.getD_none, rdAt_leaf]
            · rfl
        · simp only [rdAt, upd_ne _ _ hk, List.append_nil]
      · rw [merge_dd ha hb]
        simp only [rdAt]
        cases hf : f k <;> cases hg : g k <;> simp only [optM, List.nil_append, List.append_nil]
        exact ih _ _ _ (da _ _ hf) (db _ _ hg) hp'

/-! a bound on the lists of a tree -/
def bd : Nat → Nat → T → Prop
  | _, c, .leaf x => x.items.length ≤ c
  | 0, _, .dct _ => False
  | n + 1, c, .dct f => ∀ k y, f k = some y → bd n c y
theorem bd_leaf {n c : Nat} {x : Leaf} : bd n c (.leaf x) ↔ x.items.length ≤ c := by cases n <;> exact Iff.rfl
theorem bd_dp : ∀ {n c : Nat} {a : T}, bd n c a → dp n a
  | _, _, .leaf _, _ => dp_leaf
  | 0, _, .dct _, h => h.elim
  | _ + 1, _, .dct _, h => fun k y e => bd_dp (h k y e)
theorem bd_mono : ∀ {n m c c' : Nat} {a : T}, n ≤ m → c ≤ c' → bd n c a → bd m c' a
  | _, _, _, _, .leaf _, _, h, b => bd_leaf.mpr (Nat.le_trans (bd_leaf.mp b) h)
  | 0, _, _, _, .dct _, _, _, b => b.elim
  | n + 1, 0, _, _, .dct _, h, _, _ => absurd h (Nat.not_succ_le_zero n)
  | _ + 1, _ + 1, _, _, .dct _, hn, h, b => fun k y e => bd_mono (Nat.le_of_succ_le_succ hn) h (b k y e)
theorem bd_getD {n c : Nat} {f : K5 → Option T} (h : bd (n + 1) c (.dct f)) (k : K5) : bd n c ((f k).getD .nn) := by
  cases e : f k with
  | none => exact bd_leaf.mpr (Nat.zero_le _)
  | some y => exact h k y e
theorem bd_merge : ∀ {n c c' : Nat} {a b : T}, bd n c a → bd n c' b → bd n (c + c') (merge n a b) := by
  intro n
  induction n with
  | zero =>
    intro c c' a b ha hb
    by_cases fa : falsy a
    · rw [merge_l _ fa]; exact bd_mono (Nat.le_refl _) (Nat.le_add_left _ _) hb
    by_cases fb : falsy b
    · rw [merge_r fa fb]; exact bd_mono (Nat.le_refl _) (Nat.le_add_right _ _) ha
    rcases a with x | f
    · rcases b with y | g
      · rw [merge_ll fa fb]
        refine bd_leaf.mpr ?_
        rw [Leaf.merge_items, List.length_append]
        exact Nat.add_le_add (bd_leaf.mp ha) (bd_leaf.mp hb)
      · exact hb.elim
    · exact ha.elim
  | succ n ih =>
    intro c c' a b ha hb
    by_cases fa : falsy a
    · rw [merge_l _ fa]; exact bd_mono (Nat.le_refl _) (Nat.le_add_left _ _) hb
    by_cases fb : falsy b
    · rw [merge_r fa fb]; exact bd_mono (Nat.le_refl _) (Nat.le_add_right _ _) ha
    rcases a with x | f <;> rcases b with y | g
    · rw [merge_ll fa fb]
      refine bd_leaf.mpr ?_
      rw [Leaf.merge_items, List.length_append]
      exact Nat.add_le_add (bd_leaf.mp ha) (bd_leaf.mp hb)
    · rw [merge_ld fa fb]
      intro k z e
      by_cases hk : k = .S
      · subst hk
        rw [upd_same] at e; cases e
        exact ih (bd_leaf.mpr (bd_leaf.mp ha)) (bd_getD hb _)
      · rw [upd_ne _ _ hk] at e
        exact bd_mono (Nat.le_refl _) (Nat.le_add_left _ _) (hb k z e)
    · rw [merge_dl fa fb]
      intro k z e
      by_cases hk : k = .S
      · subst hk
        rw [upd_same] at e; cases e
        exact ih (bd_getD ha _) (bd_leaf.mpr (bd_leaf.mp hb))
      · rw [upd_ne _ _ hk] at e
        exact bd_mono (Nat.le_refl _) (Nat.le_add_right _ _) (ha k z e)
    · rw [merge_dd fa fb]
      intro k z e
      dsimp only at e
      cases hf : f k <;> cases hg : g k <;> rw [hf, hg] at e <;> simp only [optM, Option.some.injEq, reduceCtorEq] at e
      · subst e; exact bd_mono (Nat.le_refl _) (Nat.le_add_left _ _) (hb _ _ hg)
      · subst e; exact bd_mono (Nat.le_refl _) (Nat.le_add_right _ _) (ha _ _ hf)
      · subst e; exact ih (ha _ _ hf) (hb _ _ hg)
theorem rdS_bd : ∀ {n c : Nat} {a : T}, bd n c a → (rdS n a).length ≤ c
  | _, _, .leaf x, h => by rw [rdS_leaf]; exact bd_leaf.mp h
  | 0, _, .dct _, h => h.elim
  | n + 1, c, .dct f, h => by
    rw [rdS]
    cases hf : f .S with
    | none => exact Nat.zero_le _
    | some y => exact rdS_bd (h _ _ hf)
theorem rdAt_bd : ∀ {n c : Nat} {a : T} {p : List K5}, bd n c a → (rdAt n a p).length ≤ c
  | _, _, _, [], h => by rw [rdAt_nil]; exact rdS_bd h
  | _, _, .leaf x, _ :: _, _ => by rw [rdAt_leaf]; exact Nat.zero_le _
  | 0, _, .dct _, _ :: _, h => h.elim
  | n + 1, c, .dct f, k :: p, h => by
    rw [rdAt]
    cases hf : f k with
    | none => exact Nat.zero_le _
    | some y => exact rdAt_bd (h _ _ hf)
end Mine
end

section
open PySem PySem.W PyProof.Rows
set_option linter.constructorNameAsVariable false
set_option maxRecDepth 100000
namespace Mine

abbrev Led := List (Addr × Obj)
abbrev Nd (l : Led) : Prop := (l.map (·.1)).Nodup

abbrev AA (dp un : Nat) (gd : Option (List Code)) (env : Env) (outer : List Env) : Around := { handled := none, depth := dp, frames := some (env :: outer), guards := gd, units := un }

/-- the contract of the def that stands at f -/
def Spec (w : World) (f : Addr) (args : List Value) (l : Led) (nd nu : Nat) (Post : Value → Led → Prop) : Prop :=
  ∀ (mean : ExcName → Option Value) (mg mb : Str → Option Value) (dp un : Nat) (gd : Option (List Code)) (env : Env) (outer : List Env) (A₀ : Around) (base h₀ : Heap) (L : Addr) (m : Str → Option Value) (s : Shared) (Q : Value → Shared → Prop) (E : Value → Shared → Prop),
    env.frame = some L → env.scope.kind = .function → Below A₀ base outer h₀ → Fr h₀ L s.heap m → (Mine.hd.heap_39 w.params).In h₀ → News h₀ L s.heap l → Nd l →
    Top Mine.hd.view_39 (looseW Mine.hd.view_39 [Str.ofString "ErrorStore"]) mean mg mb h₀ → dp + nd < recursionLimit → un + nu < cLine →
    (∀ r l' h' tk', Fr h₀ L h' m → News h₀ L h' l' → Nd l' → Post r l' → Q r { s with heap := h', toks := tk' }) →
    wpAny (model PySem.Challenge.rw_eq0024_01.row.prog w) (AA dp un gd env outer) (call (.ref f) args) Q E s

theorem Spec.intro {w : World} {f : Addr} {args : List Value} {l : Led} {nd nu : Nat} {Post : Value → Led → Prop}
    {name qual : Str} {params : Arguments} {body : List Stmt} {scope : Scope} {dV kV doc pm cdv ct oc : Value} {an od : Option Addr} {osl : Array (Option Value)} {binds : List (Str × Value)}
    (ho : (Mine.hd.heap_39 w.params).lookup f = some ⟨oc, od, .func (fnOf name qual params body scope dV kV doc pm an cdv ct), osl⟩) (hcd : codeIn (Mine.hd.heap_39 w.params) cdv qual = true)
    (hbind : ∀ s, BindsTo s (fnOf name qual params body scope dV kV doc pm an cdv ct) ⟨args, []⟩ binds) (hloc : ∀ y ∈ binds, scope.names.lookup y.1 = some .local)
    (hco : scope.isCoroutine = false) (hgen : scope.isGenerator = false) (hk : scope.kind = .function) (hcell : ∀ x ∈ scope.names, x.2 ≠ .cell)
    (h : ∀ (mean : ExcName → Option Value) (mg mb : Str → Option Value) (dp un : Nat) (gd : Option (List Code)) (outer : List Env) (A₀ : Around) (base g : Heap) (L : Addr) (s : Shared) (Q : Flow → Shared → Prop),
      dp + nd < recursionLimit + 1 → un + nu < cLine + 3 → Below A₀ base outer g → Fr g L s.heap (fun y => binds.reverse.lookup y) → (Mine.hd.heap_39 w.params).In g → News g L s.heap l → Nd l →
      Top Mine.hd.view_39 (looseW Mine.hd.view_39 [Str.ofString "ErrorStore"]) mean mg mb g →
      (∀ fl m' l' h' tk', Fr g L h' m' → News g L h' l' → Nd l' → Post (match fl with | .ret v => v | _ => .none) l' → Q fl { s with heap := h', toks := tk' }) →
      wpAny (model PySem.Challenge.rw_eq0024_01.row.prog w) (AA dp un gd (envOf qual scope L f cdv) outer) (execs body (envOf qual scope L f cdv)) Q (fun _ _ => False) s) :
    Spec w f args l nd nu Post := by
  intro mean mg mb dp un gd env outer A₀ base h₀ L m s Q E hf hke B F X N D T hd hu hQ
  refine wpAny_call (code_def (A := AA dp un gd env outer) (env := env) (outer := outer) B F X N T rfl hf hke ho hcd (by show dp < _; omega) (hbind s) hloc (fun g L' h₁ F0 F' N' B' X' T' => ?_) hco hgen hk hcell)
  refine wpAny_mono (Q := fun fl s' => ∃ m' l' h' tk', s' = { s with heap := h', toks := tk' } ∧ Fr g L' h' m' ∧ News g L' h' l' ∧ Nd l' ∧ Post (match fl with | .ret v => v | _ => .none) l')
    (h mean mg mb (dp + 1) (un + 3) gd (env :: outer) _ base g L' { s with heap := h₁, toks := s.toks + binds.length } _ (by omega) (by omega) B' F' X' N' D T'
      (fun fl m' l' h' tk' F1 N1 D1 P1 => ⟨m', l', h', tk', rfl, F1, N1, D1, P1⟩)) (fun fl s' hq => ?_) (fun _ _ x => x.elim)
  obtain ⟨m', l', h', tk', rfl, F1, N1, D1, P1⟩ := hq
  refine leaveK_ F1 N1 fun F2 N2 => ?_
  exact hQ _ l' h' tk' F2 N2 D1 P1


section
variable {h₀ h h' : Heap} {L d : Addr} {m : Str → Option Value} {l l' : Led} {o o' : Obj}
theorem nd_off (D : Nd ((d, o) :: l)) : ∀ p ∈ l, p.1 ≠ d := fun p hp e => (List.nodup_cons.mp D).1 (e ▸ List.mem_map_of_mem (f := (·.1)) hp)
theorem nd_tail (D : Nd ((d, o) :: l)) : Nd l := (List.nodup_cons.mp D).2
theorem nd_push (D : Nd l) (hl : ∀ p ∈ l, p.1 < d) : Nd ((d, o) :: l) := List.nodup_cons.mpr ⟨fun hm => by
  obtain ⟨p, hp, e⟩ := List.mem_map.mp hm
  exact Nat.lt_irrefl _ (e ▸ hl p hp), D⟩
theorem nd_perm (hp : l.Perm l') (D : Nd l) : Nd l' := (hp.map (·.1)).nodup_iff.mp D
theorem nd_sub (hs : l'.Sublist l) (D : Nd l) : Nd l' := (hs.map (·.1)).nodup D
theorem news_perm (hp : l.Perm l') (N : News h₀ L h l) : News h₀ L h l' := fun p q => N p (hp.mem_iff.mpr q)
theorem news_sub (hs : ∀ p ∈ l', p ∈ l) (N : News h₀ L h l) : News h₀ L h l' := fun p q => N p (hs p q)
theorem led_upd (F : Fr h₀ L h m) (N : News h₀ L h ((d, o) :: l)) (D : Nd ((d, o) :: l)) (hs : Heap.SameBut d h h') (ho : h'.get? d = some o') : Fr h₀ L h' m ∧ News h₀ L h' ((d, o') :: l) :=
  ⟨F.change hs (N _ (.head _)).2.1 (N _ (.head _)).2.2, N.setHead (nd_off D) hs ho⟩
theorem nd_same (D : Nd ((d, o) :: l)) : Nd ((d, o') :: l) := D
theorem fresh_lt (N : News h₀ L h l) : ∀ p ∈ l, p.1 < h.objs.size := fun p hp => Heap.lt_size (N p hp).1
theorem led_push (F : Fr h₀ L h m) (N : News h₀ L h l) (D : Nd l) (o : Obj) (hf : o.isFreed = false := by rfl) :
    Fr h₀ L (h.push o) m ∧ News h₀ L (h.push o) ((h.objs.size, o) :: l) ∧ Nd ((h.objs.size, o) :: l) :=
  ⟨F.push o, News.push F N o hf, nd_push D (fresh_lt N)⟩
end

section
variable {prog : Program} {w : World} {A : Around} {E : Value → Shared → Prop} {s : Shared} {h₀ : Heap} {L d : Addr} {m : Str → Option Value} {l : Led}

theorem set_list {items : Array Value} {n : Nat} {k : Int} {t : Tok} {v : Value} {Q : Unit → Shared → Prop} (F : Fr h₀ L s.heap m) (N : News h₀ L s.heap ((d, listOf items n) :: l)) (D : Nd ((d, listOf items n) :: l))
    (h0 : 0 ≤ k) (hfit : k < 2 ^ 63) (hk : k < items.size)
    (h : ∀ h', Fr h₀ L h' m → News h₀ L h' ((d, listOf (items.setIfInBounds k.toNat v) n) :: l) → Q () { s with heap := h' }) : wpAny (model prog w) A (setItem (.ref d) (.int k t) v) Q E s := by
  have z := N _ (.head _)
  have e := PySem.IsL.update z.1 (·.setIfInBounds k.toNat v)
  simp only [Array.size_setIfInBounds, beq_self_eq_true, if_true] at e
  have q := led_upd F N D (Heap.SameBut.update s.heap d (Obj.mapSeq (·.setIfInBounds k.toNat v))) e
  exact ki_setAt z.1 h0 hfit hk (h _ q.1 q.2)
end
end Mine
end

section
open PySem PySem.W PyProof.Rows
set_option linter.constructorNameAsVariable false
set_option maxRecDepth 100000
namespace Mine
/-- the state of the draws: a list of the script's cut and a count -/
def StL (v : Value) (l : Led) : Prop := ∃ st sl n n' i t vs ns, v = .ref st ∧ l = [(st, listOf #[.ref sl, .int i t] n), (sl, listOf vs.toArray n')] ∧ 0 ≤ i ∧ IntsAre vs ns ∧ ns.length ≤ 1000

set_option maxHeartbeats 4000000 in
theorem next_spec {w : World} {v : Value} {ls : Led} {lim : Int} {tl : Tok} (hlim : 0 < lim) (hs : StL v ls) (rest : Led) :
    Spec w 62 [v, .int lim tl] (ls ++ rest) 1 3 (fun r l' => ∃ x t ls', r = .int x t ∧ 0 ≤ x ∧ x < lim ∧ StL v ls' ∧ l' = ls' ++ rest) := by
  have hfill : ∀ h, (Mine.hd.heap_39 w.params).In h → PySem.Challenge.rw_eq0024_01.row.prog = PySem.Challenge.rw_eq0024_01.row.prog := by
    k_fill
    exact fun _ _ => rfl
  clear hfill
  obtain ⟨st, sl, n, n', i, tk, vs, ns, rfl, rfl, h0, hi, hlen⟩ := hs
  refine Spec.intro (binds := [(Str.ofString "state", .ref st), (Str.ofString "limit", .int lim tl)]) (by k_is) (by k_is) (fun s => BindsTo.of_eq rfl) (locs rfl) rfl rfl rfl (by decide) ?_
  intro mean mg mb dp un gd outer A₀ base g L s Q hd hu B F X N D T hQ
  simp only [List.cons_append, List.nil_append] at N D
  repeat' (first | walk1 | (dsimp only; walk1))
  dsimp only
  refine set_list F N D (by decide) (by decide) (show (1 : Int) < 2 by decide) fun h1 F1 N1 => ?_
  replace N1 : News g L h1 ((st, W.listOf #[Value.ref sl, Value.int (i + 1) (s.toks + 1 + 1)] n) :: (sl, W.listOf vs.toArray n') :: rest) := N1
  clear F N
  repeat' (first | walk1 | (dsimp only; walk1))
  all_goals dsimp only
  · exact hQ _ _ _ _ _ F1 N1 D ⟨0, _, [_, _], rfl, Int.le_refl _, hlim, ⟨st, sl, _, _, _, _, _, _, rfl, rfl, by omega, hi, hlen⟩, rfl⟩
  · exact hQ _ _ _ _ _ F1 N1 D ⟨_, _, [_, _], rfl, Int.fmod_nonneg_of_pos _ hlim, Int.fmod_lt_of_pos _ hlim, ⟨st, sl, _, _, _, _, _, _, rfl, rfl, by omega, hi, hlen⟩, rfl⟩
end Mine
end

section
open PySem PySem.W PyProof.Rows
set_option linter.constructorNameAsVariable false
set_option maxRecDepth 100000
namespace Mine

abbrev NoE : Value → Shared → Prop := fun _ _ => False

section
variable {prog : Program} {w : World} {A : Around} {s : Shared}

theorem noE {α : Type} {M : Model} {A : Around} {t : Sem α} {Q : α → Shared → Prop} {E : Value → Shared → Prop} {s : Shared} (h : wpAny M A t Q NoE s) : wpAny M A t Q E s := wpAny_noRaise h

theorem codeAny_loop1 {M : Model} {c : Code} {R : Result → Shared → Prop} (hq : c.quiet = true)
    (h : wpAny M (A.under c) (M.den c) (fun fin s' => match fin with | .done f => R (.ok f) s' | .again c' => c' = c ∧ codeAny M A c R s') (fun e s' => R (.error e) s') s) : codeAny M A c R s := by
  refine codeAny_of_tree (wpAny_mono h (fun fin s' hf => ?_) fun _ _ x => x)
  cases fin with
  | done f => exact hf
  | again c' => obtain ⟨rfl, hc⟩ := hf; exact ⟨hq, hc⟩

/-- one turn of a for loop -/
theorem for_step {R : Result → Shared → Prop} {target : PySem.Expr} {it : Value} {body orelse : List Stmt} {env : Env}
    (h : wpAny (model prog w) A (pyNext it) (fun r s₁ => match r with
      | none => wpAny (model prog w) A (execs orelse env) (fun f s₃ => R (.ok f) s₃) NoE s₁
      | some v => wpAny (model prog w) A (letOwnedTupleGo target it v) (fun _ s₁' =>
          wpAny (model prog w) A (assign target env v) (fun _ s₂ => wpAny (model prog w) A (execs body env) (fun f s₃ => match f with
            | .next | .cont => codeAny (model prog w) A (.forLoop target it body orelse env) R s₃
            | .brk => R (.ok .next) s₃
            | .ret v => R (.ok (.ret v)) s₃) NoE s₂) NoE s₁') NoE s₁) NoE s) :
    codeAny (model prog w) A (.forLoop target it body orelse env) R s := by
  refine codeAny_of_tree ?_
  show wpAny _ A ((forTurn target it body orelse env).onRaise (fun x => do noteFrame x env; theTreesLotGoes x)) _ _ s
  refine wpAny_noted ?_
  simp only [forTurn]
  refine wpAny_bind (wpAny_standAt (wpAny_bind (wpAny_onRaise (wpAny_mono h (fun r s₁ h₁ => ?_) fun _ _ h' => h'.elim))))
  cases r with
  | none => exact wpAny_pure ⟨rfl, codeAny_block (noE h₁)⟩
  | some v =>
    refine wpAny_bind (wpAny_mono h₁ (fun _ s₁' h₁' => ?_) fun _ _ h' => h'.elim)
    refine wpAny_bind (wpAny_mono h₁' (fun _ s₂ h₂ => wpAny_bind (wpAny_mono h₂ (fun f s₃ h₃ => ?_) fun _ _ h' => h'.elim)) fun _ _ h' => h'.elim)
    cases f with
    | next => exact wpAny_pure ⟨rfl, h₃⟩
    | cont => exact wpAny_pure ⟨rfl, h₃⟩
    | brk => exact wpAny_pure h₃
    | ret v => exact wpAny_pure h₃

/-- one turn of a list comprehension without a test -/
theorem lcomp_step {R : Result → Shared → Prop} {elt target iter : PySem.Expr} {scope : Scope} {pos : Pos} {it acc : Value} {env : Env}
    (h : wpAny (model prog w) A (pyNext it) (fun r s₁ => match r with
      | none => R (.ok .next) s₁
      | some v => wpAny (model prog w) A (assign target env v) (fun _ s₂ => wpAny (model prog w) A (eval elt env) (fun x s₃ =>
          wpAny (model prog w) A (call (.builtin "list.append") [acc, x]) (fun _ s₄ => codeAny (model prog w) A (.compLoop (.ListComp elt [⟨target, iter, [], 0⟩] scope pos) 0 it acc env) R s₄) NoE s₃) NoE s₂) NoE s₁) NoE s)
    (ht : ∀ v, letOwnedTupleGo target it v = pure () := by intro _; rfl) :
    codeAny (model prog w) A (.compLoop (.ListComp elt [⟨target, iter, [], 0⟩] scope pos) 0 it acc env) R s := by
  refine codeAny_of_tree ?_
  show wpAny _ _ ((compTurn (.ListComp elt [⟨target, iter, [], 0⟩] scope pos) 0 it acc env).onRaise (fun x => do noteFrame x env; theTreesLotGoes x)) _ _ s
  refine wpAny_noted ?_
  rw [compTurn_list1]
  refine wpAny_bind (wpAny_standAt (wpAny_bind (wpAny_mono h (fun r s₁ h₁ => ?_) fun _ _ h' => h'.elim)))
  cases r with
  | none => exact wpAny_pure h₁
  | some v =>
    refine wpAny_bind (wpAny_of_eq (ht v) ?_)
    exact wpAny_bind (wpAny_mono h₁ (fun _ s₂ h₂ => wpAny_bind (wpAny_bind (wpAny_mono h₂ (fun x s₃ h₃ => wpAny_bind (wpAny_mono h₃
      (fun _ s₄ h₄ => wpAny_pure (wpAny_pure ⟨rfl, h₄⟩)) fun _ _ h' => h'.elim)) fun _ _ h' => h'.elim))) fun _ _ h' => h'.elim)

/-- one turn of a dict comprehension without a test -/
theorem dcomp_step {R : Result → Shared → Prop} {kx vx target iter : PySem.Expr} {scope : Scope} {pos : Pos} {it : Value} {D : Addr} {env : Env}
    (h : wpAny (model prog w) A (pyNext it) (fun r s₁ => match r with
      | none => R (.ok .next) s₁
      | some v => wpAny (model prog w) A (letOwnedTupleGo target it v) (fun _ s₁' => wpAny (model prog w) A (assign target env v) (fun _ s₂ => wpAny (model prog w) A (eval kx env) (fun kv s₄ => wpAny (model prog w) A (eval vx env) (fun vv s₅ =>
              wpAny (model prog w) A (dictSet D kv vv) (fun _ s₆ => codeAny (model prog w) A (.compLoop (.DictComp kx vx [⟨target, iter, [], 0⟩] scope pos) 0 it (.ref D) env) R s₆) NoE s₅) NoE s₄) NoE s₂) NoE s₁') NoE s₁) NoE s) :
    codeAny (model prog w) A (.compLoop (.DictComp kx vx [⟨target, iter, [], 0⟩] scope pos) 0 it (.ref D) env) R s := by
  refine codeAny_of_tree ?_
  show wpAny _ A ((compTurn (.DictComp kx vx [⟨target, iter, [], 0⟩] scope pos) 0 it (.ref D) env).onRaise (fun x => do noteFrame x env; theTreesLotGoes x)) _ _ s
  refine wpAny_noted ?_
  rw [compTurn_dict]
  refine wpAny_bind (wpAny_standAt (wpAny_bind (wpAny_mono h (fun r s₁ h₁ => ?_) fun _ _ h' => h'.elim)))
  cases r with
  | none => exact wpAny_pure h₁
  | some v =>
    refine wpAny_bind (wpAny_mono h₁ (fun _ s₁' h₁' => ?_) fun _ _ h' => h'.elim)
    refine wpAny_bind (wpAny_mono h₁' (fun _ s₂ h₂ => ?_) fun _ _ h' => h'.elim)
    refine wpAny_bind (wpAny_pure ?_)
    exact wpAny_bind (wpAny_bind (wpAny_mono h₂ (fun kv s₄ h₄ => wpAny_bind (wpAny_holding (wpAny_mono h₄ (fun vv s₅ h₅ => wpAny_bind (wpAny_standAt (wpAny_holding (wpAny_mono h₅ (fun _ s₆ h₆ => wpAny_pure ⟨rfl, h₆⟩) fun _ _ h' => h'.elim)))) fun _ _ h' => h'.elim))) fun _ _ h' => h'.elim))
end

/-! iterators as entries of the ledger -/
def LIt (a : Addr) (i : Nat) (o : Obj) : Prop := o.cls = .type "list_iterator" ∧ o.data = .fields #[.ref a, .int i 0]
def KIt (d : Addr) (i n ep : Nat) (o : Obj) : Prop := o.cls = .type "dict_keyiterator" ∧ o.data = .fields #[.ref d, .int i 0, .int n 0, .int ep 0]
def RIt (x left : Int) : Obj := { cls := .type "range_iterator", dict := none, data := .fields #[rawInt x, rawInt left, rawInt 1], slots := #[] }
def IIt (d : Addr) (i n ep : Nat) (ok ov : Value) : Obj := { cls := .type "dict_itemiterator", dict := none, data := .fields #[.none, .bool false, .ref d, .int i 0, .int n 0, .int ep 0, ok, ov], slots := #[] }

section
variable {h₀ h h' : Heap} {L d I : Addr} {m : Str → Option Value} {l l' : Led} {o o' : Obj}
theorem led_ext (F : Fr h₀ L h m) (N : News h₀ L h ((I, o) :: l)) (D : Nd ((I, o) :: l)) (hs : Heap.ExtBut I h h') : Fr h₀ L h' m ∧ News h₀ L h' l := by
  have z := N _ (.head _)
  obtain ⟨oL, a1, a2, hL, a3⟩ := F.ns
  refine ⟨⟨⟨oL, a1, a2, hs _ _ z.2.1.symm hL, a3⟩, fun b o e => hs _ _ (fun q => ?_) (F.keep b o e), F.above⟩, fun p hp => ?_⟩
  · subst q; have := z.2.2; rw [e] at this; cases this
  · have y := N p (.tail _ hp)
    exact ⟨hs _ _ (nd_off D p hp) y.1, y.2⟩
end

section
variable {prog : Program} {w : World} {A : Around} {E : Value → Shared → Prop} {s : Shared} {h₀ : Heap} {L I a d : Addr} {m : Str → Option Value} {l : Led} {o : Obj}

theorem list_next {vs : List Value} {n i : Nat} {v : Value} {Q : Option Value → Shared → Prop} (F : Fr h₀ L s.heap m) (N : News h₀ L s.heap ((I, o) :: l)) (D : Nd ((I, o) :: l)) (hi : LIt a i o) (ha : (a, listOf vs.toArray n) ∈ l) (hv : vs[i]? = some v)
    (h : ∀ o' h', LIt a (i + 1) o' → Fr h₀ L h' m → News h₀ L h' ((I, o') :: l) → Q (some v) { s with heap := h' }) : wpAny (model prog w) A (pyNext (.ref I)) Q E s := by
  refine wpAny_pyNext_list_item (l := a) (i := i) (items := vs.toArray) ⟨o, (N _ (.head _)).1, hi⟩ (PySem.IsL.isList (n := n) (N _ (.tail _ ha)).1) (by simpa using hv) fun h' hit hs => ?_
  obtain ⟨o', ho', hi'⟩ := hit
  have q := led_upd F N D hs ho'
  exact h o' h' hi' q.1 q.2
theorem list_end {vs : List Value} {n i : Nat} {Q : Option Value → Shared → Prop} (hh : A.handled = none) (F : Fr h₀ L s.heap m) (N : News h₀ L s.heap ((I, o) :: l)) (D : Nd ((I, o) :: l)) (hi : LIt a i o) (ha : (a, listOf vs.toArray n) ∈ l) (hv : vs[i]? = none)
    (h : ∀ h', Fr h₀ L h' m → News h₀ L h' l → Q none { s with heap := h' }) : wpAny (model prog w) A (pyNext (.ref I)) Q E s := by
  refine wpAny_pyNext_list_end hh (l := a) (i := i) (items := vs.toArray) ⟨o, (N _ (.head _)).1, hi⟩ (PySem.IsL.isList (n := n) (N _ (.tail _ ha)).1) (by simpa using hv) fun h' hs => ?_
  have q := led_ext F N D hs
  exact h h' q.1 q.2
theorem list_iter {vs : List Value} {n : Nat} {Q : Value → Shared → Prop} (F : Fr h₀ L s.heap m) (N : News h₀ L s.heap l) (D : Nd l) (ha : (a, listOf vs.toArray n) ∈ l)
    (h : ∀ I o h', LIt a 0 o → Fr h₀ L h' m → News h₀ L h' ((I, o) :: l) → Nd ((I, o) :: l) → Q (.ref I) { s with heap := h' }) : wpAny (model prog w) A (pyIter (.ref a)) Q E s := by
  refine wpAny_pyIter_list (PySem.IsL.isList (n := n) (N _ ha).1) ?_
  have q := led_push F N D { cls := .type "list_iterator", data := .fields #[.ref a, .int 0 0] }
  exact h _ _ _ ⟨rfl, rfl⟩ q.1 q.2.1 q.2.2

theorem range_next {x left : Int} {Q : Option Value → Shared → Prop} (F : Fr h₀ L s.heap m) (N : News h₀ L s.heap ((I, RIt x left) :: l)) (D : Nd ((I, RIt x left) :: l)) (hl : 0 < left)
    (h : ∀ h', Fr h₀ L h' m → News h₀ L h' ((I, RIt (x + 1) (left - 1)) :: l) → Q (some (.int x s.toks)) { s with heap := h', toks := s.toks + 1 }) : wpAny (model prog w) A (pyNext (.ref I)) Q E s := by
  refine wpAny_pyNext_range_item (N _ (.head _)).1 hl fun h' hit hs => ?_
  have q := led_upd F N D hs hit
  exact h h' q.1 q.2
theorem range_end {x left : Int} {Q : Option Value → Shared → Prop} (hh : A.handled = none) (F : Fr h₀ L s.heap m) (N : News h₀ L s.heap ((I, RIt x left) :: l)) (D : Nd ((I, RIt x left) :: l)) (hl : left ≤ 0)
    (h : ∀ h', Fr h₀ L h' m → News h₀ L h' l → Q none { s with heap := h' }) : wpAny (model prog w) A (pyNext (.ref I)) Q E s := by
  refine wpAny_pyNext_range_end hh (N _ (.head _)).1 hl fun h' hs => ?_
  have q := led_ext F N D hs
  exact h h' q.1 q.2
end

/-! dicts as entries of the ledger -/
def DictO (prog : Program) (w : World) (o : Obj) (kvs : List (K5 × Value)) (ep : Nat) : Prop :=
  ∃ es, o.ExactDict ∧ o.data = .dict es ep ∧ KeysOf (mixK prog w) es ∧ Pairs (mixK prog w) es.toList kvs ∧ (kvs.map (·.1)).Nodup

section
variable {prog : Program} {w : World} {A : Around} {E : Value → Shared → Prop} {s : Shared} {h h₀ : Heap} {L I a d : Addr} {m : Str → Option Value} {l : Led} {o oi : Obj} {kvs : List (K5 × Value)} {ep : Nat}
theorem DictO.at (x : DictO prog w o kvs ep) (ho : h.get? d = some o) : h.DictAt (mixK prog w) d kvs ep := let ⟨es, r⟩ := x; ⟨o, es, ho, r⟩
theorem DictO.of (x : h.DictAt (mixK prog w) d kvs ep) : ∃ o, h.get? d = some o ∧ DictO prog w o kvs ep := let ⟨o, es, ho, r⟩ := x; ⟨o, ho, es, r⟩
theorem DictO.ofOf (x : h.DictOf (mixK prog w) d kvs) : ∃ o ep, h.get? d = some o ∧ DictO prog w o kvs ep := let ⟨o, es, ep, ho, r⟩ := x; ⟨o, ep, ho, es, r⟩
theorem DictO.nodup (x : DictO prog w o kvs ep) : (kvs.map (·.1)).Nodup := let ⟨_, _, _, _, _, h⟩ := x; h
theorem DictO.len (x : DictO prog w o kvs ep) : kvs.length ≤ 5 := by
  have := K5.length_le x.nodup
  simpa using this

theorem key_next {i : Nat} {k : K5} {v : Value} {Q : Option Value → Shared → Prop} (F : Fr h₀ L s.heap m) (N : News h₀ L s.heap ((I, oi) :: l)) (D : Nd ((I, oi) :: l)) (hi : KIt d i kvs.length ep oi) (hd : (d, o) ∈ l) (hm : DictO prog w o kvs ep) (hv : kvs[i]? = some (k, v))
    (h : ∀ key o' h', (mixK prog w).is k key = true → KIt d (i + 1) kvs.length ep o' → Fr h₀ L h' m → News h₀ L h' ((I, o') :: l) → Q (some key) { s with heap := h' }) : wpAny (model prog w) A (pyNext (.ref I)) Q E s := by
  refine wpAny_pyNext_dict_item ⟨oi, (N _ (.head _)).1, hi⟩ (hm.at (N _ (.tail _ hd)).1) hv fun key h' hk hit hs => ?_
  obtain ⟨o', ho', hi'⟩ := hit
  have q := led_upd F N D hs ho'
  exact h key o' h' hk hi' q.1 q.2
theorem key_end {i : Nat} {Q : Option Value → Shared → Prop} (hh : A.handled = none) (F : Fr h₀ L s.heap m) (N : News h₀ L s.heap ((I, oi) :: l)) (D : Nd ((I, oi) :: l)) (hi : KIt d i kvs.length ep oi) (hd : (d, o) ∈ l) (hm : DictO prog w o kvs ep) (hv : kvs[i]? = none)
    (h : ∀ h', Fr h₀ L h' m → News h₀ L h' l → Q none { s with heap := h' }) : wpAny (model prog w) A (pyNext (.ref I)) Q E s := by
  refine wpAny_pyNext_dict_end hh ⟨oi, (N _ (.head _)).1, hi⟩ (hm.at (N _ (.tail _ hd)).1) hv fun h' hs => ?_
  have q := led_ext F N D hs
  exact h h' q.1 q.2
theorem key_iter {Q : Value → Shared → Prop} (F : Fr h₀ L s.heap m) (N : News h₀ L s.heap l) (D : Nd l) (hd : (d, o) ∈ l) (hm : DictO prog w o kvs ep) (hS : (d == sysModules) = false)
    (h : ∀ I oi h', KIt d 0 kvs.length ep oi → Fr h₀ L h' m → News h₀ L h' ((I, oi) :: l) → Nd ((I, oi) :: l) → Q (.ref I) { s with heap := h' }) : wpAny (model prog w) A (pyIter (.ref d)) Q E s := by
  refine wpAny_pyIter_dict hS (hm.at (N _ hd).1) ?_
  have q := led_push F N D { cls := .type "dict_keyiterator", data := .fields #[.ref d, .int 0 0, .int kvs.length 0, .int ep 0] }
  exact h _ _ _ ⟨rfl, rfl⟩ q.1 q.2.1 q.2.2
end
end Mine
end

section
open PySem PySem.W PyProof.Rows
set_option linter.constructorNameAsVariable false
set_option maxRecDepth 100000
namespace Mine

/-- the object of a block's names -/
def NsO (o : Obj) (m : Str → Option Value) : Prop := ∃ es ep, o.data = .dict es ep ∧ StrKeys es ∧ ∀ x, nsFind es x = m x
theorem NsO.ns {h : Heap} {C : Addr} {o : Obj} {m : Str → Option Value} (x : NsO o m) (ho : h.get? C = some o) : h.Ns C m := let ⟨es, ep, a, b, c⟩ := x; ⟨o, es, ep, ho, a, b, c⟩
theorem NsO.of {h : Heap} {C : Addr} {m : Str → Option Value} (x : h.Ns C m) : ∃ o, h.get? C = some o ∧ NsO o m := let ⟨o, es, ep, ho, a, b, c⟩ := x; ⟨o, ho, es, ep, a, b, c⟩

section
variable {prog : Program} {w : World} {A : Around} {E : Value → Shared → Prop} {s : Shared} {h₀ : Heap} {L I a d C : Addr} {m mC : Str → Option Value} {l : Led} {o oi oC : Obj} {kvs : List (K5 × Value)} {ep : Nat} {env : Env}

theorem items_iter {v : Addr} {Q : Value → Shared → Prop} (F : Fr h₀ L s.heap m) (N : News h₀ L s.heap l) (D : Nd l) (hv : (v, ({ cls := .type "dict_items", data := .fields #[.ref d] } : Obj)) ∈ l) (hd : (d, o) ∈ l) (hm : DictO prog w o kvs ep)
    (h : ∀ I h', Fr h₀ L h' m → News h₀ L h' ((I, IIt d 0 kvs.length ep .none .none) :: l) → Nd ((I, IIt d 0 kvs.length ep .none .none) :: l) → Q (.ref I) { s with heap := h' }) : wpAny (model prog w) A (pyIter (.ref v)) Q E s := by
  refine wpAny_pyIter_items (knd := mixK prog w) ⟨_, (N _ hv).1, rfl, rfl⟩ (hm.at (N _ hd).1) ?_
  have q := led_push F N D (IIt d 0 kvs.length ep .none .none)
  exact h _ _ q.1 q.2.1 q.2.2

theorem items_end {i : Nat} {ok ov : Value} {Q : Option Value → Shared → Prop} (hh : A.handled = none) (F : Fr h₀ L s.heap m) (N : News h₀ L s.heap ((I, IIt d i kvs.length ep ok ov) :: l)) (D : Nd ((I, IIt d i kvs.length ep ok ov) :: l)) (hd : (d, o) ∈ l) (hm : DictO prog w o kvs ep) (hv : kvs[i]? = none)
    (h : ∀ h', Fr h₀ L h' m → News h₀ L h' l → Q none { s with heap := h' }) : wpAny (model prog w) A (pyNext (.ref I)) Q E s := by
  refine wpAny_pyNext_items_end hh (N _ (.head _)).1 (hm.at (N _ (.tail _ hd)).1) hv fun h' hs => ?_
  have q := led_ext F N D hs
  exact h h' q.1 q.2

theorem items_turn0 {xk xv : Str} {pk pv pt : Pos} {x1} {it d : Addr} {i : Nat} {k : K5} {v ok ov : Value} {Qn : Option Value → Shared → Prop} {Q' : Unit → Shared → Prop}
    (hh : A.handled = none) (hxk : env.kindOf xk = some .local) (hxv : env.kindOf xv = some .local)
    (hp : (env.scope.kind == .class || (env.scope.kind == .module && env.locals != env.globals)) = false)
    (hiL : it ≠ env.locals) (hit : IsItemIter s.heap it d i kvs.length ep ok ov) (hm : s.heap.DictAt (mixK prog w) d kvs ep) (hn : s.heap.Ns env.locals m) (hv : kvs[i]? = some (k, v))
    (hQ : ∀ key h' tk, (mixK prog w).is k key = true → IsItemIter h' it d (i + 1) kvs.length ep key v → h'.Ns env.locals (fun y => if y = xv then some v else if y = xk then some key else m y) →
      (∀ b o, b ≠ env.locals → b ≠ it → s.heap.get? b = some o → h'.get? b = some o) → Q' () { s with heap := h', toks := tk })
    (hQn : ∀ t s₁, wpAny (model prog w) A (letOwnedTupleGo (.Tuple [.Name xk pk, .Name xv pv] x1 pt) (.ref it) t) (fun _ s₁' => wpAny (model prog w) A (assign (.Tuple [.Name xk pk, .Name xv pv] x1 pt) env t) Q' NoE s₁') NoE s₁ → Qn (some t) s₁) :
    wpAny (model prog w) A (pyNext (.ref it)) Qn NoE s := by
  have hiH : it < s.heap.objs.size := Heap.lt_size hit
  refine wpAny_pyNext_items_item hit hm hv fun key h₁ hkey heo ht₁ hz₁ hk₁ => hQn _ _ ?_
  refine wpAny_letOwnedTupleGo_items heo fun h₂ he₂ hs₂ => ?_
  replace hs₂ : Heap.SameBut it h₁ h₂ := hs₂
  have ht₂ : h₂.IsTuple s.heap.objs.size #[key, v] := ⟨_, (hs₂.2 _ (Nat.ne_of_gt hiH)).trans ht₁, rfl, _, rfl⟩
  have hn₂ : h₂.Ns env.locals m := (hn.at' fun o x => hk₁ _ o (Ne.symm hiL) x).sameBut hs₂ (Ne.symm hiL)
  refine kcp_assign hh ht₂ hxk hxv hp hn₂ fun h₃ tk₃ hn₃ up₃ => ?_
  exact hQ key h₃ tk₃ hkey (up₃ _ _ hiL he₂) hn₃ fun b o hbL hbi x => up₃ b o hbL (hs₂.extBut b o hbi (hk₁ b o hbi x))

/-- a turn of `for k, v in d.items()` of a def's own frame -/
theorem items_next {xk xv : Str} {pk pv pt : Pos} {x1} {i : Nat} {k : K5} {v ok ov : Value} {Qn : Option Value → Shared → Prop} {Q' : Unit → Shared → Prop}
    (hh : A.handled = none) (hxk : env.kindOf xk = some .local) (hxv : env.kindOf xv = some .local)
    (hp : (env.scope.kind == .class || (env.scope.kind == .module && env.locals != env.globals)) = false) (hL : env.locals = L)
    (F : Fr h₀ L s.heap m) (N : News h₀ L s.heap ((I, IIt d i kvs.length ep ok ov) :: l)) (D : Nd ((I, IIt d i kvs.length ep ok ov) :: l)) (hd : (d, o) ∈ l) (hm : DictO prog w o kvs ep) (hv : kvs[i]? = some (k, v))
    (hQ : ∀ key h' tk, (mixK prog w).is k key = true → Fr h₀ L h' (fun y => if y = xv then some v else if y = xk then some key else m y) → News h₀ L h' ((I, IIt d (i + 1) kvs.length ep key v) :: l) → Q' () { s with heap := h', toks := tk })
    (hQn : ∀ t s₁, wpAny (model prog w) A (letOwnedTupleGo (.Tuple [.Name xk pk, .Name xv pv] x1 pt) (.ref I) t) (fun _ s₁' => wpAny (model prog w) A (assign (.Tuple [.Name xk pk, .Name xv pv] x1 pt) env t) Q' NoE s₁') NoE s₁ → Qn (some t) s₁) :
    wpAny (model prog w) A (pyNext (.ref I)) Qn NoE s := by
  subst hL
  have z := N _ (.head _)
  refine items_turn0 (env := env) hh hxk hxv hp z.2.1 z.1 (hm.at (N _ (.tail _ hd)).1) F.ns hv (fun key h' tk hk hit hn hkeep => ?_) hQn
  refine hQ key h' tk hk ⟨hn, fun b o e => hkeep b o ?_ ?_ (F.keep b o e), F.above⟩ fun p hp => ?_
  · exact Nat.ne_of_lt (Nat.lt_of_lt_of_le (Heap.lt_size e) F.above)
  · rintro rfl; have := z.2.2; rw [e] at this; cases this
  · rcases List.mem_cons.mp hp with rfl | hp
    · exact ⟨hit, z.2⟩
    · have y := N p (.tail _ hp)
      exact ⟨hkeep _ _ y.2.1 (nd_off D p hp) y.1, y.2⟩

/-- a turn of `for k, v in d.items()` of a comprehension, whose names stand at C -/
theorem items_nextC {xk xv : Str} {pk pv pt : Pos} {x1} {i : Nat} {k : K5} {v ok ov : Value} {Qn : Option Value → Shared → Prop} {Q' : Unit → Shared → Prop}
    (hh : A.handled = none) (hxk : env.kindOf xk = some .local) (hxv : env.kindOf xv = some .local)
    (hp : (env.scope.kind == .class || (env.scope.kind == .module && env.locals != env.globals)) = false) (hC : env.locals = C)
    (F : Fr h₀ L s.heap m) (N : News h₀ L s.heap ((I, IIt d i kvs.length ep ok ov) :: (C, oC) :: l)) (D : Nd ((I, IIt d i kvs.length ep ok ov) :: (C, oC) :: l)) (hn : NsO oC mC) (hd : (d, o) ∈ l) (hm : DictO prog w o kvs ep) (hv : kvs[i]? = some (k, v))
    (hQ : ∀ key oC' h' tk, (mixK prog w).is k key = true → NsO oC' (fun y => if y = xv then some v else if y = xk then some key else mC y) → Fr h₀ L h' m → News h₀ L h' ((I, IIt d (i + 1) kvs.length ep key v) :: (C, oC') :: l) → Q' () { s with heap := h', toks := tk })
    (hQn : ∀ t s₁, wpAny (model prog w) A (letOwnedTupleGo (.Tuple [.Name xk pk, .Name xv pv] x1 pt) (.ref I) t) (fun _ s₁' => wpAny (model prog w) A (assign (.Tuple [.Name xk pk, .Name xv pv] x1 pt) env t) Q' NoE s₁') NoE s₁ → Qn (some t) s₁) :
    wpAny (model prog w) A (pyNext (.ref I)) Qn NoE s := by
  subst hC
  have z := N _ (.head _)
  have zC := N _ (.tail _ (.head _))
  have hIC : I ≠ env.locals := fun e => nd_off D _ (.head _) e.symm
  refine items_turn0 (env := env) hh hxk hxv hp hIC z.1 (hm.at (N _ (.tail _ (.tail _ hd))).1) (hn.ns zC.1) hv (fun key h' tk hk hit hn' hkeep => ?_) hQn
  obtain ⟨oC', hoC', hnC'⟩ := NsO.of hn'
  obtain ⟨oL, a1, a2, hL, a3⟩ := F.ns
  refine hQ key oC' h' tk hk hnC' ⟨⟨oL, a1, a2, hkeep _ _ zC.2.1.symm z.2.1.symm hL, a3⟩, fun b o e => hkeep b o ?_ ?_ (F.keep b o e), F.above⟩ fun p hp => ?_
  · rintro rfl; have := zC.2.2; rw [e] at this; cases this
  · rintro rfl; have := z.2.2; rw [e] at this; cases this
  · rcases List.mem_cons.mp hp with rfl | hp
    · exact ⟨hit, z.2⟩
    rcases List.mem_cons.mp hp with rfl | hp
    · exact ⟨hoC', zC.2⟩
    · have y := N p (.tail _ (.tail _ hp))
      exact ⟨hkeep _ _ (nd_off (nd_tail D) p hp) (nd_off D p (.tail _ hp)) y.1, y.2⟩

/-- a name of a comprehension is stored -/
theorem storeC {x : Str} {v : Value} {px : Pos} {Q : Unit → Shared → Prop} (hx : env.kindOf x = some .local)
    (hp : (env.scope.kind == .class || (env.scope.kind == .module && env.locals != env.globals)) = false) (hC : env.locals = C)
    (F : Fr h₀ L s.heap m) (N : News h₀ L s.heap ((C, oC) :: l)) (D : Nd ((C, oC) :: l)) (hn : NsO oC mC)
    (hQ : ∀ oC' h', NsO oC' (fun y => if y = x then some v else mC y) → Fr h₀ L h' m → News h₀ L h' ((C, oC') :: l) → Q () { s with heap := h', toks := s.toks + 1 }) :
    wpAny (model prog w) A (assign (.Name x px) env v) Q E s := by
  subst hC
  refine wpAny_assign_Name (wpAny_storeName_local hx (hn.ns (N _ (.head _)).1) (fun h' hn' hs' => ?_) hp)
  obtain ⟨oC', hoC', hnC'⟩ := NsO.of hn'
  have q := led_upd F N D hs' hoC'
  exact hQ oC' h' hnC' q.1 q.2
theorem storeL {x : Str} {v : Value} {px : Pos} {Q : Unit → Shared → Prop} (hx : env.kindOf x = some .local)
    (hp : (env.scope.kind == .class || (env.scope.kind == .module && env.locals != env.globals)) = false) (hL : env.locals = L)
    (F : Fr h₀ L s.heap m) (N : News h₀ L s.heap l)
    (hQ : ∀ h', Fr h₀ L h' (fun y => if y = x then some v else m y) → News h₀ L h' l → Q () { s with heap := h', toks := s.toks + 1 }) :
    wpAny (model prog w) A (assign (.Name x px) env v) Q E s := by
  subst hL
  exact wpAny_assign_Name (wpAny_storeName_local hx F.ns (fun h' hn' hs' => hQ h' (F.set hn' hs') (N.set hs')) hp)
theorem nameC {x : Str} {v : Value} {px : Pos} {Q : Value → Shared → Prop} (hx : env.kindOf x = some .local) (hk : env.scope.kind = .function) (hC : env.locals = C)
    (N : News h₀ L s.heap l) (hm : (C, oC) ∈ l) (hn : NsO oC mC) (hv : mC x = some v) (h : Q v s) (hd : (x == ("__debug__" : Str)) = false := by decide) :
    wpAny (model prog w) A (eval (.Name x px) env) Q E s := by
  subst hC
  exact wpAny_Name (wpAny_loadName_local hk hx (hn.ns (N _ hm).1) hv h) hd

theorem low_of {h : Heap} (F : Fr h₀ L h m) (hbig : h₀.NoLimit) : (h.objs.size == sysModules) = false := by
  have h1 := modules_low hbig
  have h2 := F.above
  have h3 := F.ns.lt
  have h4 : sysModules < h.objs.size := Nat.lt_trans (Nat.lt_of_lt_of_le h1 h2) h3
  exact beq_eq_false_iff_ne.mpr (Nat.ne_of_gt h4)

/-- what a comprehension's loop must leave -/
def CEnd (h₀ : Heap) (L C : Addr) (P : Shared → Prop) (r : Result) (s' : Shared) : Prop :=
  r = .ok .next ∧ ∃ m' l' oC mC, Fr h₀ L s'.heap m' ∧ News h₀ L s'.heap ((C, oC) :: l') ∧ Nd ((C, oC) :: l') ∧ NsO oC mC ∧ ∀ h', Fr h₀ L h' m' → News h₀ L h' l' → P { s' with heap := h' }

theorem comp_end {Q : Value → Shared → Prop} {acc : Value} {r : Result} {s' : Shared} (h : CEnd h₀ L C (Q acc) r s') : compPost (model prog w) A E none Q acc C r s' := by
  obtain ⟨rfl, m', l', oC, mC, F, N, D, hn, hP⟩ := h
  refine ⟨mC, hn.ns (N _ (.head _)).1, fun h' hs => ?_⟩
  have q := led_ext F N D hs.extBut
  exact hP h' q.1 q.2

theorem comp_env {scope : Scope} {globals : Addr} {cl : List (Str × Addr)} {qual : Str} {code : Value} {Q : Env → Shared → Prop} (hc : ∀ x ∈ scope.names, x.2 ≠ .cell) (hk : scope.kind = .function) (F : Fr h₀ L s.heap m) (N : News h₀ L s.heap l) (D : Nd l)
    (h : ∀ C oC h', NsO oC (fun _ => none) → Fr h₀ L h' m → News h₀ L h' ((C, oC) :: l) → Nd ((C, oC) :: l) → Q (newEnv scope C globals cl qual none code (some env) builtinsNs) { s with heap := h' }) :
    wpAny (model prog w) A (newFunctionEnv scope globals cl [] qual none code (some env)) Q E s := by
  refine wpAny_newFunctionEnv hc (by intro y hy; simp at hy) (fun h' hns hsb => ?_) hk
  have q := led_push F N D ({ cls := .type "dict", data := .dict #[] } : Obj)
  obtain ⟨oC, hoC, hnC⟩ := NsO.of hns
  have q' := led_upd q.1 q.2.1 q.2.2 hsb hoC
  exact h _ oC h' hnC q'.1 q'.2 q.2.2

theorem lcomp_rule {elt iter : PySem.Expr} {x : Str} {px : Pos} {scope : Scope} {cl : List (Str × Addr)} {pos : Pos} {Q : Value → Shared → Prop}
    (hclos : closureFor scope env = pure cl) (hcell : ∀ y ∈ scope.names, y.2 ≠ .cell) (hkind : scope.kind = .function)
    (hnames : ∀ y ∈ scope.names, y.2 = .local → scope.names.lookup y.1 = some .local)
    (h : wpAny (model prog w) A (eval iter env) (fun xv s₁ => wpAny (model prog w) A (pyIter xv) (fun it s₂ => ∃ m l, Fr h₀ L s₂.heap m ∧ News h₀ L s₂.heap l ∧ Nd l ∧ (∀ Q' E' s', (∀ p ∈ l, s'.heap.get? p.1 = some p.2) → Q' it s' → wpAny (model prog w) A (pyIter it) Q' E' s') ∧
      ∀ acc C oC h' , NsO oC (fun _ => none) → Fr h₀ L h' m → News h₀ L h' ((C, oC) :: (acc, listOf #[] 0) :: l) → Nd ((C, oC) :: (acc, listOf #[] 0) :: l) →
        codeAny (model prog w) A (.compLoop (.ListComp elt [⟨.Name x px, iter, [], 0⟩] scope pos) 0 it (.ref acc) (compEnvC scope cl C env)) (CEnd h₀ L C (Q (.ref acc))) { s₂ with heap := h' }) E s₁) E s)
    (hs : ∀ x, foldedSetIterable iter env x = pure x := by intro _; rfl) :
    wpAny (model prog w) A (eval (.ListComp elt [⟨.Name x px, iter, [], 0⟩] scope pos) env) Q E s := by
  rw [eval_ListComp]
  refine wpAny_comprehension_free (use := none) rfl hs hclos hkind hnames (wpAny_mono h (fun xv s₁ h₁ => wpAny_mono h₁ (fun it s₂ h₂ => ?_) fun _ _ e => e) fun _ _ e => e)
  obtain ⟨m, l, F, N, D, hself, hloop⟩ := h₂
  have q := led_push F N D ({ cls := .type "list", data := .seq #[] } : Obj)
  refine wpAny_newObj_type (comp_env hcell hkind q.1 q.2.1 q.2.2 fun C oC h' hn F' N' D' => ?_)
  have base := hloop _ C oC h' hn F' N' D'
  refine codeAny_mono (R := CEnd h₀ L C (Q (.ref s₂.heap.objs.size))) ?_ fun r s' hr => comp_end hr
  exact codeAny_compStart_list base (hself _ _ _ (fun p hp => (N' p (.tail _ (.tail _ hp))).1) base)

theorem dcomp_rule {kx vx iter target : PySem.Expr} {scope : Scope} {cl : List (Str × Addr)} {pos : Pos} {Q : Value → Shared → Prop}
    (hclos : closureFor scope env = pure cl) (hcell : ∀ y ∈ scope.names, y.2 ≠ .cell) (hkind : scope.kind = .function)
    (hnames : ∀ y ∈ scope.names, y.2 = .local → scope.names.lookup y.1 = some .local) (hbig : h₀.NoLimit)
    (h : wpAny (model prog w) A (eval iter env) (fun xv s₁ => wpAny (model prog w) A (pyIter xv) (fun it s₂ => ∃ m l, Fr h₀ L s₂.heap m ∧ News h₀ L s₂.heap l ∧ Nd l ∧ (∀ Q' E' s', (∀ p ∈ l, s'.heap.get? p.1 = some p.2) → Q' it s' → wpAny (model prog w) A (pyIter it) Q' E' s') ∧
      ∀ acc C oC o' h' , (acc == sysModules) = false → NsO oC (fun _ => none) → DictO prog w o' [] 0 → Fr h₀ L h' m → News h₀ L h' ((C, oC) :: (acc, o') :: l) → Nd ((C, oC) :: (acc, o') :: l) →
        codeAny (model prog w) A (.compLoop (.DictComp kx vx [⟨target, iter, [], 0⟩] scope pos) 0 it (.ref acc) (compEnvC scope cl C env)) (CEnd h₀ L C (Q (.ref acc))) { s₂ with heap := h' }) E s₁) E s)
    (hs : ∀ x, foldedSetIterable iter env x = pure x := by intro _; rfl) :
    wpAny (model prog w) A (eval (.DictComp kx vx [⟨target, iter, [], 0⟩] scope pos) env) Q E s := by
  rw [arm_eval_DictComp]
  refine wpAny_comprehension_free (use := none) rfl hs hclos hkind hnames (wpAny_mono h (fun xv s₁ h₁ => wpAny_mono h₁ (fun it s₂ h₂ => ?_) fun _ _ e => e) fun _ _ e => e)
  obtain ⟨m, l, F, N, D, hself, hloop⟩ := h₂
  have q := led_push F N D ({ cls := .type "dict", data := .dict #[] } : Obj)
  refine wpAny_newObj_type (comp_env hcell hkind q.1 q.2.1 q.2.2 fun C oC h' hn F' N' D' => ?_)
  have hd : DictO prog w ({ cls := .type "dict", data := .dict #[] } : Obj) [] 0 := ⟨#[], ⟨rfl, rfl, rfl⟩, rfl, fun _ he => by simp at he, Pairs.nil, List.nodup_nil⟩
  have base := hloop _ C oC _ h' (low_of F hbig) hn hd F' N' D'
  refine codeAny_mono (R := CEnd h₀ L C (Q (.ref s₂.heap.objs.size))) ?_ fun r s' hr => comp_end hr
  exact codeAny_compStart_dict base (hself _ _ _ (fun p hp => (N' p (.tail _ (.tail _ hp))).1) base)
end
end Mine
end

section
open PySem PySem.W PyProof.Rows
set_option linter.constructorNameAsVariable false
set_option maxRecDepth 100000
namespace Mine

theorem perm3 {α : Type} (a b c : α) (l : List α) : (a :: b :: c :: l).Perm (c :: a :: b :: l) := (List.Perm.cons _ (List.Perm.swap ..)).trans (List.Perm.swap ..)
theorem perm2 {α : Type} (a b : α) (l : List α) : (a :: b :: l).Perm (b :: a :: l) := List.Perm.swap ..

/-- what a loop draws from: the iterator I is the first entry of the ledger -/
structure Src (prog : Program) (w : World) (A : Around) (h₀ : Heap) (L I : Addr) (n : Nat) (P : Nat → Value → Prop) (It : Nat → Obj → Prop) (Has : Led → Prop) : Prop where
  mono : ∀ l l', (∀ p ∈ l, p ∈ l') → Has l → Has l'
  next : ∀ (i : Nat) (s : Shared) (m : Str → Option Value) (l : Led) (o : Obj) (Q : Option Value → Shared → Prop), i < n → It i o → Has l → Fr h₀ L s.heap m → News h₀ L s.heap ((I, o) :: l) → Nd ((I, o) :: l) →
    (∀ v o' h' tk, P i v → It (i + 1) o' → Fr h₀ L h' m → News h₀ L h' ((I, o') :: l) → Q (some v) { s with heap := h', toks := tk }) → wpAny (model prog w) A (pyNext (.ref I)) Q NoE s
  stop : ∀ (s : Shared) (m : Str → Option Value) (l : Led) (o : Obj) (Q : Option Value → Shared → Prop), It n o → Has l → Fr h₀ L s.heap m → News h₀ L s.heap ((I, o) :: l) → Nd ((I, o) :: l) →
    (∀ h', Fr h₀ L h' m → News h₀ L h' l → Q none { s with heap := h' }) → wpAny (model prog w) A (pyNext (.ref I)) Q NoE s

section
variable {prog : Program} {w : World} {A : Around} {h₀ : Heap} {L I a d : Addr}

theorem Src.list (hh : A.handled = none) (I a : Addr) (vs : List Value) (n : Nat) : Src prog w A h₀ L I vs.length (fun i v => vs[i]? = some v) (LIt a) (fun l => (a, listOf vs.toArray n) ∈ l) where
  mono := fun l l' h => h _
  next := fun i s m l o Q hi hit ha F N D h => by
    obtain ⟨v, hv⟩ : ∃ v, vs[i]? = some v := ⟨vs[i], by simp [hi]⟩
    exact list_next F N D hit ha hv fun o' h' hit' F' N' => h v o' h' s.toks hv hit' F' N'
  stop := fun s m l o Q hit ha F N D h => list_end hh F N D hit ha (by simp) h

theorem Src.range (hh : A.handled = none) (I : Addr) (n : Nat) : Src prog w A h₀ L I n (fun i v => ∃ t, v = .int (i : Int) t) (fun i o => o = RIt (i : Int) ((n : Int) - (i : Int))) (fun _ => True) where
  mono := fun _ _ _ _ => trivial
  next := fun i s m l o Q hi hit ha F N D h => by
    subst hit
    refine range_next F N D (by omega) fun h' F' N' => h _ _ h' _ ⟨_, rfl⟩ rfl F' ?_
    have e1 : ((i + 1 : Nat) : Int) = (i : Int) + 1 := by omega
    have e2 : (n : Int) - ((i + 1 : Nat) : Int) = (n : Int) - (i : Int) - 1 := by omega
    rw [e1, ← Int.sub_sub]; exact N'
  stop := fun s m l o Q hit ha F N D h => by
    subst hit
    exact range_end hh F N D (by omega) h

theorem Src.keys (hh : A.handled = none) (I d : Addr) (o : Obj) (kvs : List (K5 × Value)) (ep : Nat) (hm : DictO prog w o kvs ep) :
    Src prog w A h₀ L I kvs.length (fun i v => ∃ k u, kvs[i]? = some (k, u) ∧ (mixK prog w).is k v = true) (fun i o => KIt d i kvs.length ep o) (fun l => (d, o) ∈ l) where
  mono := fun l l' h => h _
  next := fun i s m l oi Q hi hit ha F N D h => by
    obtain ⟨⟨k, u⟩, hv⟩ : ∃ p, kvs[i]? = some p := ⟨kvs[i], by simp [hi]⟩
    exact key_next F N D hit ha hm hv fun key o' h' hk hit' F' N' => h key o' h' s.toks ⟨k, u, hv, hk⟩ hit' F' N'
  stop := fun s m l o Q hit ha F N D h => key_end hh F N D hit ha hm (by simp) h

variable {env cenv : Env} {x : Str} {px : Pos} {body : List Stmt} {n : Nat} {P : Nat → Value → Prop} {It : Nat → Obj → Prop} {Has : Led → Prop}

theorem for_src {R : Result → Shared → Prop} (S : Src prog w A h₀ L I n P It Has) (hx : env.kindOf x = some .local)
    (hp : (env.scope.kind == .class || (env.scope.kind == .module && env.locals != env.globals)) = false) (hL : env.locals = L)
    (J : Nat → (Str → Option Value) → Led → Prop) (hH : ∀ i m l, J i m l → Has l)
    (turn : ∀ i v m l o s (Q : Flow → Shared → Prop), i < n → P i v → J i m l → It (i + 1) o → Fr h₀ L s.heap (fun y => if y = x then some v else m y) → News h₀ L s.heap ((I, o) :: l) → Nd ((I, o) :: l) →
      (∀ m' l' h' tk', Fr h₀ L h' m' → News h₀ L h' ((I, o) :: l') → Nd ((I, o) :: l') → J (i + 1) m' l' → Q .next { s with heap := h', toks := tk' }) →
      (∀ m' l' h' tk', Fr h₀ L h' m' → News h₀ L h' ((I, o) :: l') → Nd ((I, o) :: l') → J (i + 1) m' l' → Q .cont { s with heap := h', toks := tk' }) →
      (∀ s', R (.ok .next) s' → Q .brk s') → (∀ u s', R (.ok (.ret u)) s' → Q (.ret u) s') → wpAny (model prog w) A (execs body env) Q NoE s)
    (s₀ : Shared) (done : ∀ m l h' tk', J n m l → Fr h₀ L h' m → News h₀ L h' l → Nd l → R (.ok .next) { s₀ with heap := h', toks := tk' }) :
    ∀ (k i : Nat) (m : Str → Option Value) (l : Led) (o : Obj) (h : Heap) (tk : Nat), n - i = k → i ≤ n → J i m l → It i o → Fr h₀ L h m → News h₀ L h ((I, o) :: l) → Nd ((I, o) :: l) →
      codeAny (model prog w) A (.forLoop (.Name x px) (.ref I) body [] env) R { s₀ with heap := h, toks := tk } := by
  intro k
  induction k with
  | zero =>
    intro i m l o h tk hk hi hJ hit F N D
    have e : i = n := by omega
    subst e
    refine for_step (S.stop _ _ _ _ _ hit (hH _ _ _ hJ) F N D fun h' F' N' => wpAny_execs_nil ?_)
    exact done m l h' tk hJ F' N' (nd_tail D)
  | succ k ih =>
    intro i m l o h tk hk hi hJ hit F N D
    refine for_step (S.next i _ _ _ _ _ (by omega) hit (hH _ _ _ hJ) F N D fun v o' h' tk' hP hit' F' N' => ?_)
    refine wpAny_of_eq (a := ()) rfl ?_
    refine storeL hx hp hL F' N' fun h₂ F₂ N₂ => ?_
    refine turn i v m l o' _ _ (by omega) hP hJ hit' F₂ N₂ D ?_ ?_ (fun _ h => h) (fun _ _ h => h)
    · intro m' l' h₃ tk₃ F₃ N₃ D₃ hJ₃
      exact ih (i + 1) m' l' o' h₃ tk₃ (by omega) (by omega) hJ₃ hit' F₃ N₃ D₃
    · intro m' l' h₃ tk₃ F₃ N₃ D₃ hJ₃
      exact ih (i + 1) m' l' o' h₃ tk₃ (by omega) (by omega) hJ₃ hit' F₃ N₃ D₃

/-- a for loop whose source has been evaluated to an iterator -/
theorem for_rule {iter : PySem.Expr} {pos : Pos} {s : Shared} {Q : Flow → Shared → Prop}
    (h : wpAny (model prog w) A (eval iter env) (fun xv s₁ => wpAny (model prog w) A (pyIter xv) (fun it s₂ => codeAny (model prog w) A (.forLoop (.Name x px) it body [] env) (fun r s' => match r with | .ok f => Q f s' | .error _ => False) s₂) NoE s₁) NoE s)
    (hs : ∀ x, foldedSetIterable iter env x = pure x := by intro _; rfl) :
    wpAny (model prog w) A (exec (.For (.Name x px) iter body [] pos) env) Q NoE s := by
  refine wpAny_For (wpAny_mono h (fun xv s₁ h₁ => wpAny_mono h₁ (fun it s₂ h₂ => ?_) fun _ _ e => e) fun _ _ e => e) hs
  exact codeAny_mono h₂ fun r s' hr => by cases r with | ok f => exact hr | error e => exact hr.elim

theorem lcomp_src {elt iter : PySem.Expr} {scope : Scope} {pos : Pos} {acc C : Addr} {Q : Shared → Prop} (S : Src prog w A h₀ L I n P It Has) (hx : cenv.kindOf x = some .local)
    (hp : (cenv.scope.kind == .class || (cenv.scope.kind == .module && cenv.locals != cenv.globals)) = false) (hC : cenv.locals = C)
    (J : Nat → List Value → Led → Prop) (hH : ∀ i ys l, J i ys l → Has l) (hn : n ≤ sizeLine) (m : Str → Option Value)
    (helt : ∀ i v ys r X oC mC s (Q : Value → Shared → Prop), i < n → P i v → J i ys r → NsO oC mC → mC x = some v → Fr h₀ L s.heap m → News h₀ L s.heap ((C, oC) :: (X ++ r)) → Nd ((C, oC) :: (X ++ r)) →
      (∀ y r' h' tk', Fr h₀ L h' m → News h₀ L h' ((C, oC) :: (X ++ r')) → Nd ((C, oC) :: (X ++ r')) → J (i + 1) (ys ++ [y]) r' → Q y { s with heap := h', toks := tk' }) →
      wpAny (model prog w) A (eval elt cenv) Q NoE s)
    (s₀ : Shared) (done : ∀ ys r k h' tk', J n ys r → ys.length = n → Fr h₀ L h' m → News h₀ L h' ((acc, listOf ys.toArray k) :: r) → Nd ((acc, listOf ys.toArray k) :: r) → Q { s₀ with heap := h', toks := tk' }) :
    ∀ (k i : Nat) (ys : List Value) (nn : Nat) (r : Led) (o oC : Obj) (mC : Str → Option Value) (h : Heap) (tk : Nat), n - i = k → i ≤ n → ys.length = i → J i ys r → It i o → NsO oC mC → Fr h₀ L h m →
      News h₀ L h ((C, oC) :: (acc, listOf ys.toArray nn) :: (I, o) :: r) → Nd ((C, oC) :: (acc, listOf ys.toArray nn) :: (I, o) :: r) →
      codeAny (model prog w) A (.compLoop (.ListComp elt [⟨.Name x px, iter, [], 0⟩] scope pos) 0 (.ref I) (.ref acc) cenv) (CEnd h₀ L C Q) { s₀ with heap := h, toks := tk } := by
  intro k
  induction k with
  | zero =>
    intro i ys nn r o oC mC h tk hk hi hl hJ hit hns F N D
    have e : i = n := by omega
    subst e
    have pm := perm3 (C, oC) (acc, listOf ys.toArray nn) (I, o) r
    refine lcomp_step (S.stop _ _ _ _ _ hit (S.mono _ _ (fun p hp => .tail _ (.tail _ hp)) (hH _ _ _ hJ)) F (news_perm pm N) (nd_perm pm D) fun h' F' N' => ?_)
    have D' := nd_tail (nd_perm pm D)
    exact ⟨rfl, m, _, oC, mC, F', N', D', hns, fun h'' F'' N'' => done ys r nn h'' tk hJ hl F'' N'' (nd_tail D')⟩
  | succ k ih =>
    intro i ys nn r o oC mC h tk hk hi hl hJ hit hns F N D
    have pm := perm3 (C, oC) (acc, listOf ys.toArray nn) (I, o) r
    refine lcomp_step (S.next i _ _ _ _ _ (by omega) hit (S.mono _ _ (fun p hp => .tail _ (.tail _ hp)) (hH _ _ _ hJ)) F (news_perm pm N) (nd_perm pm D) fun v o' h' tk' hP hit' F' N' => ?_)
    have pm' := (perm3 (C, oC) (acc, listOf ys.toArray nn) (I, o') r).symm
    refine storeC hx hp hC F' (news_perm pm' N') D hns fun oC' h₂ hns₂ F₂ N₂ => ?_
    refine helt i v ys r [(acc, listOf ys.toArray nn), (I, o')] oC' _ _ _ (by omega) hP hJ hns₂ (by simp) F₂ N₂ D fun y r' h₃ tk₃ F₃ N₃ D₃ hJ₃ => ?_
    have q2 := perm2 (C, oC') (acc, listOf ys.toArray nn) ((I, o') :: r')
    have N₄ := news_perm q2 N₃
    have D₄ := nd_perm q2 D₃
    refine append_at (hsz := by simp; omega) (N₄ _ (.head _)).1 fun h₅ hs₅ ho₅ => ?_
    have q := led_upd F₃ N₄ D₄ hs₅ ho₅
    have q3 := perm2 (acc, listOf (ys ++ [y]).toArray (nn + 1)) (C, oC') ((I, o') :: r')
    have N₆ : News h₀ L h₅ ((acc, listOf (ys ++ [y]).toArray (nn + 1)) :: (C, oC') :: (I, o') :: r') := by simpa using q.2
    exact ih (i + 1) (ys ++ [y]) (nn + 1) r' o' oC' _ h₅ tk₃ (by omega) (by omega) (by simp [hl]) hJ₃ hit' hns₂ q.1 (news_perm q3 N₆) (nd_perm q3 D₄)
end
end Mine
end

section
open PySem PySem.W PyProof.Rows
set_option linter.constructorNameAsVariable false
set_option maxRecDepth 100000
namespace Mine

section
variable {prog : Program} {w : World} {A : Around} {E : Value → Shared → Prop} {s : Shared} {h₀ : Heap} {L I a d C : Addr} {m : Str → Option Value} {l : Led} {o : Obj} {kvs : List (K5 × Value)} {ep : Nat}

theorem stored_len {kvs : List (K5 × Value)} {k : K5} {v : Value} : (stored kvs k v).length ≤ kvs.length + 1 := stored_length_le kvs k v

theorem dset {k : K5} {key v : Value} {Q : Unit → Shared → Prop} (hk : (mixK prog w).is k key = true) (F : Fr h₀ L s.heap m) (N : News h₀ L s.heap ((d, o) :: l)) (D : Nd ((d, o) :: l)) (hd : DictO prog w o kvs ep)
    (h : ∀ o' ep' h', DictO prog w o' (stored kvs k v) ep' → Fr h₀ L h' m → News h₀ L h' ((d, o') :: l) → Q () { s with heap := h', toks := s.toks + 1 }) : wpAny (model prog w) A (dictSet d key v) Q E s := by
  refine wpAny_dictSet_pairs hk (hd.at (N _ (.head _)).1).dictOf (fun h' hd' hs => ?_) (by have := hd.len; rw [sizeLine_eq]; omega)
  obtain ⟨o', ep', ho', hd''⟩ := DictO.ofOf hd'
  have q := led_upd F N D hs ho'
  exact h o' ep' h' hd'' q.1 q.2
theorem dsetItem {k : K5} {key v : Value} {Q : Unit → Shared → Prop} (hk : (mixK prog w).is k key = true) (F : Fr h₀ L s.heap m) (N : News h₀ L s.heap ((d, o) :: l)) (D : Nd ((d, o) :: l)) (hd : DictO prog w o kvs ep)
    (h : ∀ o' ep' h', DictO prog w o' (stored kvs k v) ep' → Fr h₀ L h' m → News h₀ L h' ((d, o') :: l) → Q () { s with heap := h', toks := s.toks + 1 }) : wpAny (model prog w) A (setItem (.ref d) key v) Q E s := by
  refine wpAny_setItem_pairs hk (hd.at (N _ (.head _)).1).dictOf (fun h' hd' hs => ?_) (by have := hd.len; rw [sizeLine_eq]; omega)
  obtain ⟨o', ep', ho', hd''⟩ := DictO.ofOf hd'
  have q := led_upd F N D hs ho'
  exact h o' ep' h' hd'' q.1 q.2
theorem dgetItem {k : K5} {key v : Value} {Q : Value → Shared → Prop} (hk : (mixK prog w).is k key = true) (N : News h₀ L s.heap l) (hm : (d, o) ∈ l) (hd : DictO prog w o kvs ep) (hv : valueAt kvs k = some v)
    (h : Q v { s with toks := s.toks + 1 }) : wpAny (model prog w) A (getItem (.ref d) key) Q E s :=
  wpAny_getItem_of hk (hd.at (N _ hm).1).dictOf.mapOf hv h
theorem din {k : K5} {key : Value} {Q : Value → Shared → Prop} (hk : (mixK prog w).is k key = true) (hS : (d == sysModules) = false) (N : News h₀ L s.heap l) (hm : (d, o) ∈ l) (hd : DictO prog w o kvs ep)
    (h : Q (.bool (valueAt kvs k).isSome) { s with toks := s.toks + 1 }) : wpAny (model prog w) A (compareOp .In key (.ref d)) Q E s :=
  wpAny_in_of hk hS (hd.at (N _ hm).1).dictOf.mapOf h
end

section
variable {prog : Program} {w : World} {A : Around} {h₀ : Heap} {L I a d : Addr} {env cenv : Env} {x xk xv : Str} {px pk pv pt : Pos} {x1 : Nat} {body : List Stmt} {n : Nat} {P : Nat → Value → Prop} {It : Nat → Obj → Prop} {Has : Led → Prop} {o : Obj} {kvs : List (K5 × Value)} {ep : Nat}

/-- `{x: vx for x in src}` -/
theorem dcomp_src {vx iter : PySem.Expr} {scope : Scope} {pos px' : Pos} {acc C : Addr} {Q : Shared → Prop} (S : Src prog w A h₀ L I n P It Has) (hx : cenv.kindOf x = some .local)
    (hp : (cenv.scope.kind == .class || (cenv.scope.kind == .module && cenv.locals != cenv.globals)) = false) (hk : cenv.scope.kind = .function) (hC : cenv.locals = C) (hd : (x == ("__debug__" : Str)) = false)
    (J : Nat → List (K5 × Value) → Led → Prop) (hH : ∀ i ys l, J i ys l → Has l) (m : Str → Option Value) (hkey : ∀ i v, P i v → ∃ k, (mixK prog w).is k v = true)
    (helt : ∀ i v k ys r X oC mC s (Q : Value → Shared → Prop), i < n → P i v → (mixK prog w).is k v = true → J i ys r → NsO oC mC → mC x = some v → Fr h₀ L s.heap m → News h₀ L s.heap ((C, oC) :: (X ++ r)) → Nd ((C, oC) :: (X ++ r)) →
      (∀ y r' h' tk', Fr h₀ L h' m → News h₀ L h' ((C, oC) :: (X ++ r')) → Nd ((C, oC) :: (X ++ r')) → J (i + 1) (stored ys k y) r' → Q y { s with heap := h', toks := tk' }) →
      wpAny (model prog w) A (eval vx cenv) Q NoE s)
    (s₀ : Shared) (done : ∀ ys r o ep h' tk', J n ys r → DictO prog w o ys ep → Fr h₀ L h' m → News h₀ L h' ((acc, o) :: r) → Nd ((acc, o) :: r) → Q { s₀ with heap := h', toks := tk' }) :
    ∀ (k i : Nat) (ys : List (K5 × Value)) (ep : Nat) (r : Led) (od oi oC : Obj) (mC : Str → Option Value) (h : Heap) (tk : Nat), n - i = k → i ≤ n → DictO prog w od ys ep → J i ys r → It i oi → NsO oC mC → Fr h₀ L h m →
      News h₀ L h ((C, oC) :: (acc, od) :: (I, oi) :: r) → Nd ((C, oC) :: (acc, od) :: (I, oi) :: r) →
      codeAny (model prog w) A (.compLoop (.DictComp (.Name x px') vx [⟨.Name x px, iter, [], 0⟩] scope pos) 0 (.ref I) (.ref acc) cenv) (CEnd h₀ L C Q) { s₀ with heap := h, toks := tk } := by
  intro k
  induction k with
  | zero =>
    intro i ys ep r od oi oC mC h tk hkk hi hdo hJ hit hns F N D
    have e : i = n := by omega
    subst e
    have pm := perm3 (C, oC) (acc, od) (I, oi) r
    refine dcomp_step (S.stop _ _ _ _ _ hit (S.mono _ _ (fun p hp => .tail _ (.tail _ hp)) (hH _ _ _ hJ)) F (news_perm pm N) (nd_perm pm D) fun h' F' N' => ?_)
    have D' := nd_tail (nd_perm pm D)
    exact ⟨rfl, m, _, oC, mC, F', N', D', hns, fun h'' F'' N'' => done ys r od ep h'' tk hJ hdo F'' N'' (nd_tail D')⟩
  | succ k ih =>
    intro i ys ep r od oi oC mC h tk hkk hi hdo hJ hit hns F N D
    have pm := perm3 (C, oC) (acc, od) (I, oi) r
    refine dcomp_step (S.next i _ _ _ _ _ (by omega) hit (S.mono _ _ (fun p hp => .tail _ (.tail _ hp)) (hH _ _ _ hJ)) F (news_perm pm N) (nd_perm pm D) fun v o' h' tk' hP hit' F' N' => ?_)
    refine wpAny_of_eq (a := ()) rfl ?_
    have pm' := (perm3 (C, oC) (acc, od) (I, o') r).symm
    refine storeC hx hp hC F' (news_perm pm' N') D hns fun oC' h₂ hns₂ F₂ N₂ => ?_
    obtain ⟨kk, hkk'⟩ := hkey i v hP
    refine nameC hx hk hC N₂ (.head _) hns₂ (v := v) (by simp) ?_ hd
    refine helt i v kk ys r [(acc, od), (I, o')] oC' _ _ _ (by omega) hP hkk' hJ hns₂ (by simp) F₂ N₂ D fun y r' h₃ tk₃ F₃ N₃ D₃ hJ₃ => ?_
    have q2 := perm2 (C, oC') (acc, od) ((I, o') :: r')
    refine dset hkk' F₃ (news_perm q2 N₃) (nd_perm q2 D₃) hdo fun od' ep' h₅ hdo' F₅ N₅ => ?_
    have q3 := perm2 (acc, od') (C, oC') ((I, o') :: r')
    have D₄ := nd_perm q2 D₃
    have D₅ : Nd ((acc, od') :: (C, oC') :: (I, o') :: r') := D₄
    exact ih (i + 1) _ ep' r' od' o' oC' _ h₅ _ (by omega) (by omega) hdo' hJ₃ hit' hns₂ F₅ (news_perm q3 N₅) (nd_perm q3 D₅)

/-- `{xk: vx for xk, xv in d.items()}` -/
theorem dcomp_items {vx iter : PySem.Expr} {scope : Scope} {pos px' : Pos} {acc C : Addr} {Q : Shared → Prop} (hh : A.handled = none) (hm : DictO prog w o kvs ep) (hxk : cenv.kindOf xk = some .local) (hxv : cenv.kindOf xv = some .local)
    (hp : (cenv.scope.kind == .class || (cenv.scope.kind == .module && cenv.locals != cenv.globals)) = false) (hk : cenv.scope.kind = .function) (hC : cenv.locals = C) (hd : (xk == ("__debug__" : Str)) = false) (hne : xk ≠ xv)
    (J : Nat → List (K5 × Value) → Led → Prop) (hH : ∀ i ys l, J i ys l → (d, o) ∈ l) (m : Str → Option Value)
    (helt : ∀ i k v key ys r X oC mC s (Q : Value → Shared → Prop), kvs[i]? = some (k, v) → (mixK prog w).is k key = true → J i ys r → NsO oC mC → mC xk = some key → mC xv = some v → Fr h₀ L s.heap m → News h₀ L s.heap ((C, oC) :: (X ++ r)) → Nd ((C, oC) :: (X ++ r)) →
      (∀ y r' h' tk', Fr h₀ L h' m → News h₀ L h' ((C, oC) :: (X ++ r')) → Nd ((C, oC) :: (X ++ r')) → J (i + 1) (stored ys k y) r' → Q y { s with heap := h', toks := tk' }) →
      wpAny (model prog w) A (eval vx cenv) Q NoE s)
    (s₀ : Shared) (done : ∀ ys r o ep h' tk', J kvs.length ys r → DictO prog w o ys ep → Fr h₀ L h' m → News h₀ L h' ((acc, o) :: r) → Nd ((acc, o) :: r) → Q { s₀ with heap := h', toks := tk' }) :
    ∀ (k i : Nat) (ys : List (K5 × Value)) (ep' : Nat) (r : Led) (od oC : Obj) (ok ov : Value) (mC : Str → Option Value) (h : Heap) (tk : Nat), kvs.length - i = k → i ≤ kvs.length → DictO prog w od ys ep' → J i ys r → NsO oC mC → Fr h₀ L h m →
      News h₀ L h ((C, oC) :: (acc, od) :: (I, IIt d i kvs.length ep ok ov) :: r) → Nd ((C, oC) :: (acc, od) :: (I, IIt d i kvs.length ep ok ov) :: r) →
      codeAny (model prog w) A (.compLoop (.DictComp (.Name xk px') vx [⟨.Tuple [.Name xk pk, .Name xv pv] x1 pt, iter, [], 0⟩] scope pos) 0 (.ref I) (.ref acc) cenv) (CEnd h₀ L C Q) { s₀ with heap := h, toks := tk } := by
  intro k
  induction k with
  | zero =>
    intro i ys ep' r od oC ok ov mC h tk hkk hi hdo hJ hns F N D
    have e : i = kvs.length := by omega
    subst e
    have pm := perm3 (C, oC) (acc, od) (I, IIt d kvs.length kvs.length ep ok ov) r
    refine dcomp_step (items_end hh F (news_perm pm N) (nd_perm pm D) (.tail _ (.tail _ (hH _ _ _ hJ))) hm (by simp) fun h' F' N' => ?_)
    have D' := nd_tail (nd_perm pm D)
    exact ⟨rfl, m, _, oC, mC, F', N', D', hns, fun h'' F'' N'' => done ys r od ep' h'' tk hJ hdo F'' N'' (nd_tail D')⟩
  | succ k ih =>
    intro i ys ep' r od oC ok ov mC h tk hkk hi hdo hJ hns F N D
    have pm := perm3 (C, oC) (acc, od) (I, IIt d i kvs.length ep ok ov) r
    have pq := perm2 (C, oC) (I, IIt d i kvs.length ep ok ov) ((acc, od) :: r)
    have pa : ((C, oC) :: (acc, od) :: (I, IIt d i kvs.length ep ok ov) :: r).Perm ((I, IIt d i kvs.length ep ok ov) :: (C, oC) :: (acc, od) :: r) := pm
    obtain ⟨⟨kk, v⟩, hv⟩ : ∃ p, kvs[i]? = some p := ⟨kvs[i]'(by omega), by simp⟩
    refine dcomp_step (items_nextC hh hxk hxv hp hC F (news_perm pa N) (nd_perm pa D) hns (.tail _ (hH _ _ _ hJ)) hm hv (fun key oC' h' tk' hkey hns' F' N' => ?_) (fun _ _ h => h))
    have hxne : mC xk = mC xk := rfl
    have hkv : (if xk = xv then some v else if xk = xk then some key else mC xk) = some key := by rw [if_neg hne, if_pos rfl]
    have hvv : (if xv = xv then some v else if xv = xk then some key else mC xv) = some v := by rw [if_pos rfl]
    have pb : ((I, IIt d (i + 1) kvs.length ep key v) :: (C, oC') :: (acc, od) :: r).Perm ((C, oC') :: (acc, od) :: (I, IIt d (i + 1) kvs.length ep key v) :: r) := (perm3 (C, oC') (acc, od) (I, IIt d (i + 1) kvs.length ep key v) r).symm
    have N₂ := news_perm pb N'
    have D₂ : Nd ((C, oC') :: (acc, od) :: (I, IIt d (i + 1) kvs.length ep key v) :: r) := D
    refine nameC hxk hk hC N₂ (.head _) hns' (v := key) hkv ?_ hd
    refine helt i kk v key ys r [(acc, od), (I, IIt d (i + 1) kvs.length ep key v)] oC' _ _ _ hv hkey hJ hns' hkv hvv F' N₂ D₂ fun y r' h₃ tk₃ F₃ N₃ D₃ hJ₃ => ?_
    have q2 := perm2 (C, oC') (acc, od) ((I, IIt d (i + 1) kvs.length ep key v) :: r')
    refine dset hkey F₃ (news_perm q2 N₃) (nd_perm q2 D₃) hdo fun od' ep'' h₅ hdo' F₅ N₅ => ?_
    have q3 := perm2 (acc, od') (C, oC') ((I, IIt d (i + 1) kvs.length ep key v) :: r')
    have D₄ := nd_perm q2 D₃
    have D₅ : Nd ((acc, od') :: (C, oC') :: (I, IIt d (i + 1) kvs.length ep key v) :: r') := D₄
    exact ih (i + 1) _ ep'' r' od' oC' key v _ h₅ _ (by omega) (by omega) hdo' hJ₃ hns' F₅ (news_perm q3 N₅) (nd_perm q3 D₅)

/-- `for xk, xv in d.items()` -/
theorem for_items {R : Result → Shared → Prop} (hh : A.handled = none) (hm : DictO prog w o kvs ep) (hxk : env.kindOf xk = some .local) (hxv : env.kindOf xv = some .local)
    (hp : (env.scope.kind == .class || (env.scope.kind == .module && env.locals != env.globals)) = false) (hL : env.locals = L)
    (J : Nat → (Str → Option Value) → Led → Prop) (hH : ∀ i m l, J i m l → (d, o) ∈ l)
    (turn : ∀ i k v key m l oi s (Q : Flow → Shared → Prop), kvs[i]? = some (k, v) → (mixK prog w).is k key = true → J i m l → Fr h₀ L s.heap (fun y => if y = xv then some v else if y = xk then some key else m y) → News h₀ L s.heap ((I, oi) :: l) → Nd ((I, oi) :: l) →
      (∀ m' l' h' tk', Fr h₀ L h' m' → News h₀ L h' ((I, oi) :: l') → Nd ((I, oi) :: l') → J (i + 1) m' l' → Q .next { s with heap := h', toks := tk' }) →
      wpAny (model prog w) A (execs body env) Q NoE s)
    (s₀ : Shared) (done : ∀ m l h' tk', J kvs.length m l → Fr h₀ L h' m → News h₀ L h' l → Nd l → R (.ok .next) { s₀ with heap := h', toks := tk' }) :
    ∀ (k i : Nat) (m : Str → Option Value) (l : Led) (ok ov : Value) (h : Heap) (tk : Nat), kvs.length - i = k → i ≤ kvs.length → J i m l → Fr h₀ L h m → News h₀ L h ((I, IIt d i kvs.length ep ok ov) :: l) → Nd ((I, IIt d i kvs.length ep ok ov) :: l) →
      codeAny (model prog w) A (.forLoop (.Tuple [.Name xk pk, .Name xv pv] x1 pt) (.ref I) body [] env) R { s₀ with heap := h, toks := tk } := by
  intro k
  induction k with
  | zero =>
    intro i m l ok ov h tk hk hi hJ F N D
    have e : i = kvs.length := by omega
    subst e
    refine for_step (items_end hh F N D (hH _ _ _ hJ) hm (by simp) fun h' F' N' => wpAny_execs_nil ?_)
    exact done m l h' tk hJ F' N' (nd_tail D)
  | succ k ih =>
    intro i m l ok ov h tk hk hi hJ F N D
    obtain ⟨⟨kk, v⟩, hv⟩ : ∃ p, kvs[i]? = some p := ⟨kvs[i]'(by omega), by simp⟩
    refine for_step (items_next hh hxk hxv hp hL F N D (hH _ _ _ hJ) hm hv (fun key h' tk' hkey F' N' => ?_) (fun _ _ h => h))
    refine wpAny_mono (turn i kk v key m l _ _ (fun f s₃ => f = .next ∧ codeAny (model prog w) A (.forLoop (.Tuple [.Name xk pk, .Name xv pv] x1 pt) (.ref I) body [] env) R s₃) hv hkey hJ F' N' D ?_) (fun f s₃ h₃ => by obtain ⟨rfl, h₃⟩ := h₃; exact h₃) fun _ _ e => e
    intro m' l' h₃ tk₃ F₃ N₃ D₃ hJ₃
    exact ⟨rfl, ih (i + 1) m' l' key v h₃ tk₃ (by omega) (by omega) hJ₃ F₃ N₃ D₃⟩

theorem for_ruleT {iter target : PySem.Expr} {pos : Pos} {s : Shared} {Q : Flow → Shared → Prop}
    (h : wpAny (model prog w) A (eval iter env) (fun xv s₁ => wpAny (model prog w) A (pyIter xv) (fun it s₂ => codeAny (model prog w) A (.forLoop target it body [] env) (fun r s' => match r with | .ok f => Q f s' | .error _ => False) s₂) NoE s₁) NoE s)
    (hs : ∀ x, foldedSetIterable iter env x = pure x := by intro _; rfl) :
    wpAny (model prog w) A (exec (.For target iter body [] pos) env) Q NoE s := by
  refine wpAny_For (wpAny_mono h (fun xv s₁ h₁ => wpAny_mono h₁ (fun it s₂ h₂ => ?_) fun _ _ e => e) fun _ _ e => e) hs
  exact codeAny_mono h₂ fun r s' hr => by cases r with | ok f => exact hr | error e => exact hr.elim
end
end Mine
end

section
open PySem PySem.W PyProof.Rows
set_option linter.constructorNameAsVariable false
set_option maxRecDepth 100000
namespace Mine

abbrev PG : Program := PySem.Challenge.rw_eq0024_01.row.prog

def LeafL : Leaf → Value → Led → Prop
  | .none, _, _ => False
  | .str x, v, l => (∃ t, v = .str x t) ∧ l = [] ∧ x.cps.size = 1
  | .lst xs, v, l => ∃ a vs n, v = .ref a ∧ l = [(a, listOf vs.toArray n)] ∧ StrsAre vs xs

inductive ForL (R : T → Value → Led → Prop) : List (K5 × T) → List (K5 × Value) → Led → Prop
  | nil : ForL R [] [] []
  | cons {k : K5} {t : T} {v : Value} {es : List (K5 × T)} {kvs : List (K5 × Value)} {l l' : Led} : R t v l → ForL R es kvs l' → ForL R ((k, t) :: es) ((k, v) :: kvs) (l ++ l')

def lk (es : List (K5 × T)) (k : K5) : Option T := (es.find? fun e => decide (e.1 = k)).map (·.2)

/-- the value v, with just the ledger l, bears the tree a of no more than n floors -/
def TreeL (w : World) : Nat → T → Value → Led → Prop
  | _, .leaf x, v, l => LeafL x v l
  | 0, .dct _, _, _ => False
  | n + 1, .dct f, v, l => ∃ a o kvs ep es l', v = .ref a ∧ l = (a, o) :: l' ∧ (a == sysModules) = false ∧ DictO PG w o kvs ep ∧ ForL (TreeL w n) es kvs l' ∧ lk es = f

structure Stop (P : Prop) : Prop where
  out : P

section
variable {w : World} {mean : ExcName → Option Value} {mg mb : Str → Option Value} {A : Around} {h₀ : Heap} {L : Addr} {m : Str → Option Value} {s : Shared} {env : Env}

/-- a call of a def of the text's with one argument, in whatever block -/
theorem call1 {fn : Str} {pf pos : Pos} {e : PySem.Expr} {f : Addr} {Q : Value → Shared → Prop} (F : Fr h₀ L s.heap m) (X : (Mine.hd.heap_39 w.params).In h₀)
    (T : Top Mine.hd.view_39 (looseW Mine.hd.view_39 [Str.ofString "ErrorStore"]) mean mg mb h₀)
    (hf : nsIn (Mine.hd.heap_39 w.params) mainGlobals fn = some (some (.ref f))) (hkp : keepIn (Mine.hd.heap_39 w.params) (.ref f) = true)
    (hg : env.globals = mainGlobals) (hk : env.scope.kind = .function) (hx : env.kindOf fn = some .globalImplicit) (hd : (fn == ("__debug__" : Str)) = false)
    (hst : starEach [e] env = (false, eval e env) :: starEach [] env)
    (h : wpAny (model PG w) A (eval e env) (fun v s₁ => (Mine.hd.heap_39 w.params).In s₁.heap ∧ wpAny (model PG w) A (call (.ref f) [v]) Q NoE s₁) NoE s) :
    wpAny (model PG w) A (eval (.Call (.Name fn pf) [e] [] pos) env) Q NoE s := by
  refine wpAny_Call_NameR (nameG_K F X (topRead_of T) hf ?_ hg hk hx hd)
  refine callWith_K (h₀ := h₀) X hkp ?_ hst
  exact spliced_more (wpAny_mono h (fun v s₁ h₁ => spliced_none h₁) fun _ _ x => x) hst
end

theorem Spec.use {w : World} {f : Addr} {args : List Value} {l : Led} {nd nu : Nat} {Post : Value → Led → Prop} (S : Spec w f args l nd nu Post)
    {mean : ExcName → Option Value} {mg mb : Str → Option Value} {dp un : Nat} {gd : Option (List Code)} {env : Env} {outer : List Env} {A₀ : Around} {base h₀ : Heap} {L : Addr} {m : Str → Option Value} {s : Shared} {Q : Value → Shared → Prop} {E : Value → Shared → Prop}
    (B : Below A₀ base outer h₀) (F : Fr h₀ L s.heap m) (X : (Mine.hd.heap_39 w.params).In h₀) (N : News h₀ L s.heap l) (D : Nd l)
    (T : Top Mine.hd.view_39 (looseW Mine.hd.view_39 [Str.ofString "ErrorStore"]) mean mg mb h₀) (hd : dp + nd < recursionLimit) (hu : un + nu < cLine)
    (k : ∀ r l' h' tk', Fr h₀ L h' m → News h₀ L h' l' → Nd l' → Post r l' → Q r { s with heap := h', toks := tk' }) (hf : env.frame = some L := by rfl) (hke : env.scope.kind = .function := by rfl) :
    wpAny (model PG w) (AA dp un gd env outer) (call (.ref f) args) Q E s := S _ _ _ _ _ _ _ _ _ _ _ _ _ _ _ _ hf hke B F X N D T hd hu k

theorem strs_len {vs : List Value} {xs : List Str} (h : StrsAre vs xs) : vs.length = xs.length := by
  induction h with
  | nil => rfl
  | cons _ _ _ ih => simp [ih]
theorem strs_get {vs : List Value} {xs : List Str} (h : StrsAre vs xs) : ∀ {i : Nat} {v : Value}, vs[i]? = some v → ∃ x t, v = .str x t ∧ xs[i]? = some x := by
  induction h with
  | nil => intro i v h; simp at h
  | cons y t _ ih =>
    intro i v h
    cases i with
    | zero => simp at h; exact ⟨y, t, h.symm, rfl⟩
    | succ i => simp at h; simpa using ih h
theorem strs_app {vs ws : List Value} {xs ys : List Str} (h : StrsAre vs xs) (h' : StrsAre ws ys) : StrsAre (vs ++ ws) (xs ++ ys) := by
  induction h with
  | nil => exact h'
  | cons y t _ ih => exact .cons y t ih
theorem take_snoc {α : Type} {xs : List α} {i : Nat} {x : α} (h : xs[i]? = some x) : xs.take (i + 1) = xs.take i ++ [x] := by
  rw [List.take_add_one, h]; rfl

-- the walk stops at what is done by hand
local macro_rules | `(tactic| walk_at "pyIter ref") => `(tactic| refine Stop.out ?_)
local macro_rules | `(tactic| walk_at "eval ListComp") => `(tactic| refine Stop.out ?_)
local macro_rules | `(tactic| walk_at "eval DictComp") => `(tactic| refine Stop.out ?_)
local macro_rules | `(tactic| walk_at "call ref") => `(tactic| refine Stop.out ?_)
-- a short name for the walk
local macro_rules | `(tactic| ktr_unf) => `(tactic| ((repeat' (first | walk1 | (dsimp only; walk1))); all_goals (try dsimp only)))
local macro_rules | `(tactic| tb_start) => `(tactic| (
  have hfill : ∀ h, (Mine.hd.heap_39 (World.params ‹World›)).In h → PySem.Challenge.rw_eq0024_01.row.prog = PySem.Challenge.rw_eq0024_01.row.prog := by
    k_fill
    exact fun _ _ => rfl
  clear hfill))

set_option maxHeartbeats 4000000 in
theorem copyc_str {w : World} {x : Str} {t : Tok} (rest : Led) : Spec w 48 [.str x t] rest 1 3 (fun r l' => r = .str x t ∧ l' = rest) := by
  tb_start
  refine Spec.intro (binds := [(Str.ofString "errors", .str x t)]) (by k_is) (by k_is) (fun s => BindsTo.of_eq rfl) (locs rfl) rfl rfl rfl (by decide) ?_
  intro mean mg mb dp un gd outer A₀ base g L s Q hd hu B F X N D T hQ
  ktr_unf
  exact hQ _ _ _ _ _ F N D ⟨rfl, rfl⟩

set_option maxHeartbeats 4000000 in
theorem copyc_list {w : World} {a : Addr} {vs : List Value} {n : Nat} {xs : List Str} (hv : StrsAre vs xs) (hlen : xs.length ≤ 1000) (rest : Led) : Spec w 48 [.ref a] ((a, listOf vs.toArray n) :: rest) 2 20 (fun r l' => ∃ b vs' n', r = .ref b ∧ StrsAre vs' xs ∧ l' = (b, listOf vs'.toArray n') :: (a, listOf vs.toArray n) :: rest) := by
  tb_start
  refine Spec.intro (binds := [(Str.ofString "errors", .ref a)]) (by k_is) (by k_is) (fun s => BindsTo.of_eq rfl) (locs rfl) rfl rfl rfl (by decide) ?_
  intro mean mg mb dp un gd outer A₀ base g L s Q hd hu B F X N D T hQ
  ktr_unf
  refine ⟨?_⟩
  refine lcomp_rule (h₀ := g) (L := L) (cl := []) (closureFor_none (by decide)) (by decide) rfl (by decide) ?_
  ktr_unf
  refine ⟨list_iter F N D (.head _) fun I o h₁ hi F₁ N₁ D₁ => ?_⟩
  refine ⟨_, _, F₁, N₁, D₁, fun Q' E' s' hk hq => wpAny_pyIter_listiter ⟨o, hk _ (.head _), hi⟩ hq, fun acc C oC h₂ hns F₂ N₂ D₂ => ?_⟩
  refine lcomp_src (Src.list rfl I a vs n) rfl rfl rfl (fun i ys r => StrsAre ys (xs.take i) ∧ r = (a, listOf vs.toArray n) :: rest) (fun i ys l h => by rw [h.2]; exact .head _) (by rw [strs_len hv, sizeLine_eq]; omega) _ ?_ _ ?_ _ 0 [] 0 _ o oC _ h₂ _ rfl (Nat.zero_le _) rfl ⟨.nil, rfl⟩ hi hns F₂ N₂ D₂
  · rintro i v ys r Y oC mC s₃ Q₃ hi hv' ⟨hys, rfl⟩ hnC hval F₃ N₃ D₃ k₃
    obtain ⟨x, t, rfl, hx⟩ := strs_get hv hv'
    refine call1 F₃ X T (f := 48) (by k_is) (by k_is) rfl rfl rfl (by decide) rfl ?_
    refine nameC rfl rfl rfl N₃ (.head _) hnC hval ⟨X.keeps F₃.keep, ?_⟩
    refine (copyc_str _).use B F₃ X N₃ D₃ T (by omega) (by omega) fun r l' h' tk' F' N' D' P => ?_
    obtain ⟨rfl, rfl⟩ := P
    exact k₃ _ _ h' tk' F' N' D' ⟨by rw [take_snoc hx]; exact strs_app hys (.cons x t .nil), rfl⟩
  · rintro ys r k h' tk' ⟨hys, rfl⟩ hl F' N' D'
    dsimp only
    refine hQ _ _ _ _ _ F' N' D' ⟨_, _, _, rfl, ?_, rfl⟩
    rw [strs_len hv, List.take_length] at hys
    exact hys

theorem sum_eq_count {α : Type} [DecidableEq α] (a : α) (l : List α) : (l.map fun x => if x = a then 1 else 0).sum = l.count a := by
  induction l with
  | nil => rfl
  | cons b r ih => 
    rw [List.map_cons, List.sum_cons, ih, List.count_cons]
    by_cases h : b = a <;> simp [h] <;> omega
open Classical in
theorem perm_of_sum {α : Type} {l l' : List α} (h : ∀ f : α → Nat, (l.map f).sum = (l'.map f).sum) : l.Perm l' := by
  rw [List.perm_iff_count]
  intro a
  rw [← sum_eq_count, ← sum_eq_count]
  exact h _
-- two ledgers of the same entries
local macro_rules | `(tactic| ktr_rel) => `(tactic| (refine perm_of_sum fun f => ?_; simp only [List.map_append, List.map_cons, List.map_nil, List.sum_append, List.sum_cons, List.sum_nil]; omega))

theorem DictO.obj {prog : Program} {w : World} {o : Obj} {kvs : List (K5 × Value)} {ep : Nat} (h : DictO prog w o kvs ep) : ∃ es, o = ⟨.type "dict", none, .dict es ep, #[]⟩ := by
  obtain ⟨es, ⟨h1, h2, h3⟩, hd, _⟩ := h
  obtain ⟨c, d, dt, sl⟩ := o
  simp only at h1 h2 h3 hd
  subst h1; subst h2; subst h3; subst hd
  exact ⟨es, rfl⟩

section
variable {R : T → Value → Led → Prop}
theorem forL_app {es es' : List (K5 × T)} {kvs kvs' : List (K5 × Value)} {l l' : Led} (h : ForL R es kvs l) (h' : ForL R es' kvs' l') : ForL R (es ++ es') (kvs ++ kvs') (l ++ l') := by
  induction h with
  | nil => exact h'
  | cons hr _ ih => rw [List.append_assoc]; exact .cons hr ih
theorem forL_one {k : K5} {t : T} {v : Value} {l : Led} (h : R t v l) : ForL R [(k, t)] [(k, v)] l := by
  have := ForL.cons (R := R) (k := k) h .nil
  rwa [List.append_nil] at this
theorem forL_keys {es : List (K5 × T)} {kvs : List (K5 × Value)} {l : Led} (h : ForL R es kvs l) : es.map (·.1) = kvs.map (·.1) := by
  induction h with
  | nil => rfl
  | cons _ _ ih => simp [ih]
theorem forL_len {es : List (K5 × T)} {kvs : List (K5 × Value)} {l : Led} (h : ForL R es kvs l) : es.length = kvs.length := by
  have := congrArg List.length (forL_keys h)
  simpa using this
theorem forL_get {es : List (K5 × T)} {kvs : List (K5 × Value)} {l : Led} (h : ForL R es kvs l) : ∀ {i : Nat} {k : K5} {v : Value}, kvs[i]? = some (k, v) → ∃ t lv l1 l2, es[i]? = some (k, t) ∧ R t v lv ∧ l = l1 ++ (lv ++ l2) := by
  induction h with
  | nil => intro i k v h; simp at h
  | @cons k₀ t v₀ es kvs lv l' hr hf ih =>
    intro i k v h
    cases i with
    | zero =>
      simp at h; obtain ⟨rfl, rfl⟩ := h
      exact ⟨t, lv, [], l', rfl, hr, rfl⟩
    | succ i =>
      simp at h
      obtain ⟨t', lv', l1, l2, h1, h2, h3⟩ := ih h
      exact ⟨t', lv', lv ++ l1, l2, by simpa using h1, h2, by rw [h3, List.append_assoc]⟩
end
theorem lk_get : ∀ {es : List (K5 × T)} {i : Nat} {k : K5} {t : T}, (es.map (·.1)).Nodup → es[i]? = some (k, t) → lk es k = some t := by
  intro es
  induction es with
  | nil => intro i k t _ h; simp at h
  | cons e r ih =>
    intro i k t hn h
    rw [List.map_cons, List.nodup_cons] at hn
    cases i with
    | zero =>
      simp at h; subst h
      simp [lk]
    | succ i =>
      simp at h
      have hm : k ∈ r.map (·.1) := List.mem_map.mpr ⟨(k, t), List.mem_of_getElem? h, rfl⟩
      have hne : ¬ e.1 = k := fun q => hn.1 (q ▸ hm)
      have := ih hn.2 h
      simpa [lk, List.find?_cons, hne] using this
theorem stored_new {kvs : List (K5 × Value)} {k : K5} {v : Value} (h : k ∉ kvs.map (·.1)) : stored kvs k v = kvs ++ [(k, v)] := by
  unfold stored
  rw [if_neg]
  intro hc
  obtain ⟨x, hx, hk⟩ := List.any_eq_true.mp hc
  exact h (List.mem_map.mpr ⟨x, hx, of_decide_eq_true hk⟩)
theorem nodup_take_not_mem {kvs : List (K5 × Value)} (hn : (kvs.map (·.1)).Nodup) {i : Nat} {k : K5} {v : Value} (h : kvs[i]? = some (k, v)) : k ∉ (kvs.take i).map (·.1) := by
  have hi := (List.getElem?_eq_some_iff.mp h).1
  have e : kvs = kvs.take i ++ kvs.drop i := (List.take_append_drop i kvs).symm
  have hd : kvs.drop i = (k, v) :: kvs.drop (i + 1) := by
    rw [List.drop_eq_getElem_cons hi, (List.getElem?_eq_some_iff.mp h).2]
  rw [e, hd, List.map_append, List.nodup_append] at hn
  intro hm
  exact hn.2.2 k hm k (by simp) rfl

theorem Spec.mono {w : World} {f : Addr} {args : List Value} {l : Led} {nd nu nd' nu' : Nat} {Post Post' : Value → Led → Prop} (S : Spec w f args l nd nu Post) (h1 : nd ≤ nd') (h2 : nu ≤ nu') (h3 : ∀ r l', Post r l' → Post' r l') : Spec w f args l nd' nu' Post' := by
  intro mean mg mb dp un gd env outer A₀ base h₀ L m s Q E hf hke B F X N D T hd hu k
  exact S mean mg mb dp un gd env outer A₀ base h₀ L m s Q E hf hke B F X N D T (by omega) (by omega) fun r l' h' tk' F' N' D' P => k r l' h' tk' F' N' D' (h3 r l' P)
theorem Spec.perm {w : World} {f : Addr} {args : List Value} {l l₂ : Led} {nd nu : Nat} {Post : Value → Led → Prop} (S : Spec w f args l nd nu Post) (hp : l₂.Perm l) : Spec w f args l₂ nd nu Post := by
  intro mean mg mb dp un gd env outer A₀ base h₀ L m s Q E hf hke B F X N D T hd hu k
  exact S mean mg mb dp un gd env outer A₀ base h₀ L m s Q E hf hke B F X (news_perm hp N) (nd_perm hp D) T hd hu k

set_option maxHeartbeats 4000000 in
theorem copyc_spec {w : World} : ∀ (n : Nat) (a : T) (v : Value) (l : Led) (c : Nat), TreeL w n a v l → bd n c a → c ≤ 1000 → ∀ rest, Spec w 48 [v] (l ++ rest) (n + 2) (20 * (n + 1)) (fun r l' => ∃ lr, TreeL w n a r lr ∧ l' = lr ++ (l ++ rest)) := by
  intro n
  have leafCase : ∀ (n : Nat) (x : Leaf) (v : Value) (l : Led) (c : Nat), LeafL x v l → x.items.length ≤ c → c ≤ 1000 → ∀ rest, Spec w 48 [v] (l ++ rest) (n + 2) (20 * (n + 1)) (fun r l' => ∃ lr, TreeL w n (.leaf x) r lr ∧ l' = lr ++ (l ++ rest)) := by
    intro n x v l c hl hb hc rest
    have tl : ∀ {x r lr}, LeafL x r lr → TreeL w n (.leaf x) r lr := fun h => by cases n <;> exact h
    cases x with
    | none => exact hl.elim
    | str x =>
      obtain ⟨⟨t, rfl⟩, rfl, hx⟩ := hl
      exact (copyc_str rest).mono (by omega) (by omega) fun r l' h => ⟨[], tl ⟨⟨t, h.1⟩, rfl, hx⟩, h.2⟩
    | lst xs =>
      obtain ⟨a, vs, k, rfl, rfl, hv⟩ := hl
      refine (copyc_list hv (Nat.le_trans hb hc) rest).mono (by omega) (by omega) fun r l' h => ?_
      obtain ⟨b, vs', k', rfl, hv', rfl⟩ := h
      exact ⟨_, tl ⟨b, vs', k', rfl, rfl, hv'⟩, rfl⟩
  induction n with
  | zero =>
    intro a v l c ht hb hc rest
    cases a with
    | leaf x => exact leafCase 0 x v l c ht (bd_leaf.mp hb) hc rest
    | dct f => exact ht.elim
  | succ n ih =>
    intro a v l c ht hb hc rest
    cases a with
    | leaf x => exact leafCase (n + 1) x v l c ht (bd_leaf.mp hb) hc rest
    | dct f =>
    obtain ⟨d, o, kvs, ep, es, l', rfl, rfl, hS, hdo, hfor, hlk⟩ := ht
    subst hlk
    obtain ⟨des, rfl⟩ := hdo.obj
    tb_start
    refine Spec.intro (binds := [(Str.ofString "errors", .ref d)]) (by k_is) (by k_is) (fun s => BindsTo.of_eq rfl) (locs rfl) rfl rfl rfl (by decide) ?_
    intro mean mg mb dp un gd outer A₀ base g L s Q hd hu B F X N D T hQ
    simp only [List.cons_append] at N D
    ktr_unf
    refine ⟨?_⟩
    refine dcomp_rule (h₀ := g) (L := L) (cl := []) (closureFor_none (by decide)) (by decide) rfl (by decide) T.nolimit ?_
    refine wpAny_Call_items hS (hdo.at (N _ (.head _)).1).dictOf rfl (by decide) (fun Q' q => ?_) ?_
    · refine ld F rfl q
    have q := led_push F N D ({ cls := .type "dict_items", data := .fields #[.ref d] } : Obj)
    refine items_iter q.1 q.2.1 q.2.2 (.head _) (.tail _ (.head _)) hdo fun I h₁ F₁ N₁ D₁ => ?_
    have N₂ := news_sub (l' := (I, IIt d 0 kvs.length ep .none .none) :: (d, { cls := .type "dict", data := .dict des ep }) :: (l' ++ rest)) (fun p hp => by
      rcases List.mem_cons.mp hp with rfl | hp
      · exact .head _
      · exact .tail _ (.tail _ hp)) N₁
    have D₂ : Nd ((I, IIt d 0 kvs.length ep .none .none) :: (d, { cls := .type "dict", data := .dict des ep }) :: (l' ++ rest)) := nd_sub (.cons₂ _ (.cons _ (.refl _))) D₁
    refine ⟨_, _, F₁, N₂, D₂, fun Q' E' s' hk hq => kcp_self (hk _ (.head _)) hq, fun acc C oC od h₂ hSa hns hod F₃ N₃ D₃ => ?_⟩
    refine dcomp_items rfl hdo rfl rfl rfl rfl rfl (by decide) (by decide) (fun i ys r => ∃ lc, ForL (TreeL w n) (es.take i) ys lc ∧ r = lc ++ ((d, { cls := .type "dict", data := .dict des ep }) :: (l' ++ rest)))
      (fun i ys l h => by obtain ⟨lc, _, rfl⟩ := h; exact List.mem_append_right _ (.head _)) _ ?_ _ ?_ _ 0 [] 0 _ od oC _ _ _ h₂ _ rfl (Nat.zero_le _) hod ⟨[], .nil, rfl⟩ hns F₃ N₃ D₃
    · rintro i k u key ys r Y oC mC s₃ Q₃ hkv hkey ⟨lc, hlc, rfl⟩ hnC hmk hmv F₄ N₄ D₄ k₃
      obtain ⟨t, lv, l1, l2, hes, hT, rfl⟩ := forL_get hfor hkv
      have hnd : (es.map (·.1)).Nodup := by rw [forL_keys hfor]; exact hdo.nodup
      refine call1 F₄ X T (f := 48) (by k_is) (by k_is) rfl rfl rfl (by decide) rfl ?_
      refine nameC rfl rfl rfl N₄ (.head _) hnC hmv ⟨X.keeps F₄.keep, ?_⟩
      have hp : ((C, oC) :: (Y ++ (lc ++ ((d, { cls := .type "dict", data := .dict des ep }) :: (l1 ++ (lv ++ l2) ++ rest))))).Perm (lv ++ ((C, oC) :: (Y ++ (lc ++ ((d, { cls := .type "dict", data := .dict des ep }) :: (l1 ++ l2 ++ rest)))))) := by ktr_rel
      refine ((ih t u lv c hT (hb k t (lk_get hnd hes)) hc _).perm hp).use B F₄ X N₄ D₄ T (by omega) (by omega) fun r l'' h' tk' F' N' D' P => ?_
      obtain ⟨lr, hTr, rfl⟩ := P
      have hp2 : (lr ++ (lv ++ ((C, oC) :: (Y ++ (lc ++ ((d, { cls := .type "dict", data := .dict des ep }) :: (l1 ++ l2 ++ rest))))))).Perm ((C, oC) :: (Y ++ ((lc ++ lr) ++ ((d, { cls := .type "dict", data := .dict des ep }) :: (l1 ++ (lv ++ l2) ++ rest))))) := by ktr_rel
      refine k₃ r _ h' tk' F' (news_perm hp2 N') (nd_perm hp2 D') ⟨lc ++ lr, ?_, rfl⟩
      have hys : ys.map (·.1) = (kvs.take i).map (·.1) := by rw [← forL_keys hlc, List.map_take, List.map_take, forL_keys hfor]
      rw [stored_new (by rw [hys]; exact nodup_take_not_mem hdo.nodup hkv), take_snoc hes]
      exact forL_app hlc (forL_one hTr)
    · rintro ys r o' ep' h' tk' ⟨lc, hlc, rfl⟩ ho' F' N' D'
      dsimp only
      rw [← forL_len hfor, List.take_length] at hlc
      refine hQ _ _ _ _ _ F' N' D' ⟨(acc, o') :: lc, ⟨acc, o', ys, ep', es, lc, rfl, rfl, hSa, ho', hlc, rfl⟩, by simp⟩
end Mine
end

section
open PySem PySem.W PyProof.Rows
set_option linter.constructorNameAsVariable false
set_option maxRecDepth 100000
namespace Mine

/-- the contract of a def with one name in a cell -/
theorem Spec.introC {w : World} {f : Addr} {args : List Value} {l : Led} {nd nu : Nat} {Post : Value → Led → Prop}
    {name qual : Str} {params : Arguments} {body : List Stmt} {scope : Scope} {dV kV doc pm cdv ct oc : Value} {an od : Option Addr} {osl : Array (Option Value)} {binds : List (Str × Value)} {x : Str} {v : Value}
    (ho : (Mine.hd.heap_39 w.params).lookup f = some ⟨oc, od, .func (fnOf name qual params body scope dV kV doc pm an cdv ct), osl⟩) (hcd : codeIn (Mine.hd.heap_39 w.params) cdv qual = true)
    (hbind : ∀ s, BindsTo s (fnOf name qual params body scope dV kV doc pm an cdv ct) ⟨args, []⟩ binds) (hkind : (binds.all fun y => scope.names.lookup y.1 == some .local || scope.names.lookup y.1 == some .cell) = true)
    (hnd : ((cellsFrom 0 scope.names []).map (·.1)).Nodup) (hone : ∀ n, cellsFrom n scope.names [] = [(x, n)]) (hcv : ∀ L, bindC (envOfC qual scope L f cdv).kindOf binds (fun _ => none) x = some v)
    (hco : scope.isCoroutine = false) (hgen : scope.isGenerator = false) (hk : scope.kind = .function)
    (h : ∀ (mean : ExcName → Option Value) (mg mb : Str → Option Value) (dp un : Nat) (gd : Option (List Code)) (outer : List Env) (A₀ : Around) (base g : Heap) (L : Addr) (ocell : Obj) (s : Shared) (Q : Flow → Shared → Prop),
      dp + nd < recursionLimit + 1 → un + nu < cLine + 3 → Below A₀ base outer g → Fr g L s.heap (bindL (envOfC qual scope L f cdv).kindOf binds fun _ => none) → (Mine.hd.heap_39 w.params).In g → ocell.data = .cell (some v) → News g L s.heap ((L + 1, ocell) :: l) → Nd ((L + 1, ocell) :: l) →
      Top Mine.hd.view_39 (looseW Mine.hd.view_39 [Str.ofString "ErrorStore"]) mean mg mb g →
      (∀ fl m' l' h' tk', Fr g L h' m' → News g L h' l' → Nd l' → Post (match fl with | .ret v => v | _ => .none) l' → Q fl { s with heap := h', toks := tk' }) →
      wpAny (model PG w) (AA dp un gd (envOfC qual scope L f cdv) outer) (execs body (envOfC qual scope L f cdv)) Q (fun _ _ => False) s) :
    Spec w f args l nd nu Post := by
  intro mean mg mb dp un gd env outer A₀ base h₀ L m s Q E hf hke B F X N D T hd hu hQ
  refine wpAny_call (code_defC (A := AA dp un gd env outer) (env := env) (outer := outer) B F X N T rfl hf hke ho hcd (by show dp < _; omega) (hbind s) hkind hnd (fun g L' h₁ tk cells F0 F' N' Y B' X' T' hlt => ?_) hco hgen hk)
  rw [hone] at Y
  obtain ⟨ocell, rfl, hoc⟩ := CellsAre.one Y
  rw [hcv L'] at hoc
  have D' : Nd ((L' + 1, ocell) :: l) := nd_push D fun p hp => Nat.lt_succ_of_lt (hlt p hp)
  refine wpAny_mono (Q := fun fl s' => ∃ m' l' h' tk', s' = { s with heap := h', toks := tk' } ∧ Fr g L' h' m' ∧ News g L' h' l' ∧ Nd l' ∧ Post (match fl with | .ret v => v | _ => .none) l')
    (h mean mg mb (dp + 1) (un + 3) gd (env :: outer) _ base g L' ocell { s with heap := h₁, toks := tk } _ (by omega) (by omega) B' F' X' hoc N' D' T'
      (fun fl m' l' h' tk' F1 N1 D1 P1 => ⟨m', l', h', tk', rfl, F1, N1, D1, P1⟩)) (fun fl s' hq => ?_) (fun _ _ x => x.elim)
  obtain ⟨m', l', h', tk', rfl, F1, N1, D1, P1⟩ := hq
  refine leaveK_ F1 N1 fun F2 N2 => ?_
  exact hQ _ l' h' tk' F2 N2 D1 P1

theorem nameCell {M : Model} {A : Around} {E : Value → Shared → Prop} {s : Shared} {h₀ : Heap} {L c : Addr} {o : Obj} {l : Led} {env : Env} {x : Str} {px : Pos} {v : Value} {Q : Value → Shared → Prop}
    (N : News h₀ L s.heap l) (hm : (c, o) ∈ l) (hd : o.data = .cell (some v)) (hc : env.cells.lookup x = some c) (hk : env.scope.kind = .function) (hx : env.kindOf x = some .cell) (h : Q v s) (hb : (x == ("__debug__" : Str)) = false := by decide) :
    wpAny M A (eval (.Name x px) env) Q E s := wpAny_Name (wpAny_loadName_cell hk hx hc ⟨o, N.get hm, hd⟩ h) hb

local macro_rules | `(tactic| walk_at "pyIter ref") => `(tactic| refine Stop.out ?_)
local macro_rules | `(tactic| walk_at "eval ListComp") => `(tactic| refine Stop.out ?_)
local macro_rules | `(tactic| walk_at "eval DictComp") => `(tactic| refine Stop.out ?_)
local macro_rules | `(tactic| walk_at "call ref") => `(tactic| refine Stop.out ?_)
local macro_rules | `(tactic| ktr_unf) => `(tactic| ((repeat' (first | walk1 | (dsimp only; walk1))); all_goals (try dsimp only)))
local macro_rules | `(tactic| tb_start) => `(tactic| (
  have hfill : ∀ h, (Mine.hd.heap_39 (World.params ‹World›)).In h → PySem.Challenge.rw_eq0024_01.row.prog = PySem.Challenge.rw_eq0024_01.row.prog := by
    k_fill
    exact fun _ _ => rfl
  clear hfill))
local macro_rules | `(tactic| ktr_rel) => `(tactic| (refine perm_of_sum fun f => ?_; simp only [List.map_append, List.map_cons, List.map_nil, List.sum_append, List.sum_cons, List.sum_nil]; omega))

set_option maxHeartbeats 4000000 in
theorem copyl_str {w : World} {x : Str} {t : Tok} (rest : Led) : Spec w 72 [.str x t] rest 1 3 (fun r l' => r = .str x t ∧ l' = rest) := by
  tb_start
  refine Spec.introC (binds := [(Str.ofString "errors", .str x t)]) (by k_is) (by k_is) (fun s => BindsTo.of_eq rfl) rfl (by decide +kernel) (fun _ => rfl) (fun _ => rfl) rfl rfl rfl ?_
  intro mean mg mb dp un gd outer A₀ base g L ocell s Q hd hu B F X hoc N D T hQ
  ktr_unf
  exact hQ _ _ _ _ _ F (news_sub (fun p hp => .tail _ hp) N) (nd_tail D) ⟨rfl, rfl⟩

set_option maxHeartbeats 4000000 in
theorem copyl_list {w : World} {a : Addr} {vs : List Value} {n : Nat} {xs : List Str} (hv : StrsAre vs xs) (hlen : xs.length ≤ 1000) (rest : Led) : Spec w 72 [.ref a] ((a, listOf vs.toArray n) :: rest) 2 20 (fun r l' => ∃ b vs' n', r = .ref b ∧ StrsAre vs' xs ∧ l' = (b, listOf vs'.toArray n') :: (a, listOf vs.toArray n) :: rest) := by
  tb_start
  refine Spec.introC (binds := [(Str.ofString "errors", .ref a)]) (by k_is) (by k_is) (fun s => BindsTo.of_eq rfl) rfl (by decide +kernel) (fun _ => rfl) (fun _ => rfl) rfl rfl rfl ?_
  intro mean mg mb dp un gd outer A₀ base g L ocell s Q hd hu B F X hoc N D T hQ
  ktr_unf
  rename Fr _ _ _ _ => F2
  rename News _ _ _ _ => N2
  rename _ < _ ∧ _ => l1
  exact hQ _ _ _ _ _ F2 (news_sub (fun p hp => by
      rcases List.mem_cons.mp hp with rfl | hp
      · exact .head _
      · exact .tail _ (.tail _ hp)) N2) (nd_push (nd_tail D) (ktn_ltOf (l := (a, W.listOf vs.toArray n) :: rest) l1.2)) ⟨_, vs, _, rfl, hv, rfl⟩

set_option maxHeartbeats 4000000 in
theorem copyl_spec {w : World} : ∀ (n : Nat) (a : T) (v : Value) (l : Led) (c : Nat), TreeL w n a v l → bd n c a → c ≤ 1000 → ∀ rest, Spec w 72 [v] (l ++ rest) (n + 2) (20 * (n + 1)) (fun r l' => ∃ lr, TreeL w n a r lr ∧ l' = lr ++ (l ++ rest)) := by
  intro n
  have leafCase : ∀ (n : Nat) (x : Leaf) (v : Value) (l : Led) (c : Nat), LeafL x v l → x.items.length ≤ c → c ≤ 1000 → ∀ rest, Spec w 72 [v] (l ++ rest) (n + 2) (20 * (n + 1)) (fun r l' => ∃ lr, TreeL w n (.leaf x) r lr ∧ l' = lr ++ (l ++ rest)) := by
    intro n x v l c hl hb hc rest
    have tl : ∀ {x r lr}, LeafL x r lr → TreeL w n (.leaf x) r lr := fun h => by cases n <;> exact h
    cases x with
    | none => exact hl.elim
    | str x =>
      obtain ⟨⟨t, rfl⟩, rfl, hx⟩ := hl
      exact (copyl_str rest).mono (by omega) (by omega) fun r l' h => ⟨[], tl ⟨⟨t, h.1⟩, rfl, hx⟩, h.2⟩
    | lst xs =>
      obtain ⟨a, vs, k, rfl, rfl, hv⟩ := hl
      refine (copyl_list hv (Nat.le_trans hb hc) rest).mono (by omega) (by omega) fun r l' h => ?_
      obtain ⟨b, vs', k', rfl, hv', rfl⟩ := h
      exact ⟨_, tl ⟨b, vs', k', rfl, rfl, hv'⟩, rfl⟩
  induction n with
  | zero =>
    intro a v l c ht hb hc rest
    cases a with
    | leaf x => exact leafCase 0 x v l c ht (bd_leaf.mp hb) hc rest
    | dct f => exact ht.elim
  | succ n ih =>
    intro a v l c ht hb hc rest
    cases a with
    | leaf x => exact leafCase (n + 1) x v l c ht (bd_leaf.mp hb) hc rest
    | dct f =>
    obtain ⟨d, o, kvs, ep, es, l', rfl, rfl, hS, hdo, hfor, hlk⟩ := ht
    subst hlk
    obtain ⟨des, rfl⟩ := hdo.obj
    tb_start
    refine Spec.introC (binds := [(Str.ofString "errors", .ref d)]) (by k_is) (by k_is) (fun s => BindsTo.of_eq rfl) rfl (by decide +kernel) (fun _ => rfl) (fun _ => rfl) rfl rfl rfl ?_
    intro mean mg mb dp un gd outer A₀ base g L ocell s Q hd hu B F X hoc N D T hQ
    simp only [List.cons_append] at N D
    ktr_unf
    refine ⟨?_⟩
    refine dcomp_rule (h₀ := g) (L := L) (cl := [(Str.ofString "errors", L + 1)]) (by rfl) (by decide) rfl (by decide) T.nolimit ?_
    ktr_unf
    refine ⟨key_iter F N D (.tail _ (.head _)) hdo hS fun I oi h₁ hi F₁ N₁ D₁ => ?_⟩
    refine ⟨_, _, F₁, N₁, D₁, fun Q' E' s' hk hq => wpAny_pyIter_keyiter ⟨oi, hk _ (.head _), hi⟩ hq, fun acc C oC od h₂ hSa hns hod F₃ N₃ D₃ => ?_⟩
    refine dcomp_src (Src.keys rfl I d _ kvs ep hdo) rfl rfl rfl rfl (by decide) (fun i ys r => ∃ lc, ForL (TreeL w n) (es.take i) ys lc ∧ r = lc ++ ((L + 1, ocell) :: (d, { cls := .type "dict", data := .dict des ep }) :: (l' ++ rest)))
      (fun i ys l h => by obtain ⟨lc, _, rfl⟩ := h; exact List.mem_append_right _ (.tail _ (.head _))) _ (fun i v h => by obtain ⟨k, _, _, h⟩ := h; exact ⟨k, h⟩) ?_ _ ?_ _ 0 [] 0 _ od oi oC _ h₂ _ rfl (Nat.zero_le _) hod ⟨[], .nil, rfl⟩ hi hns F₃ N₃ D₃
    · rintro i key k ys r Y oC mC s₃ Q₃ hi ⟨k', u, hkv, hkey'⟩ hkey ⟨lc, hlc, rfl⟩ hnC hmk F₄ N₄ D₄ k₃
      obtain rfl := (mixK PG w).inj _ _ _ hkey hkey'
      obtain ⟨t, lv, l1, l2, hes, hT, rfl⟩ := forL_get hfor hkv
      have hnd : (es.map (·.1)).Nodup := by rw [forL_keys hfor]; exact hdo.nodup
      refine call1 F₄ X T (f := 72) (by k_is) (by k_is) rfl rfl rfl (by decide) rfl ?_
      have hcm : (L + 1, ocell) ∈ ((C, oC) :: (Y ++ (lc ++ ((L + 1, ocell) :: (d, { cls := .type "dict", data := .dict des ep }) :: (l1 ++ (lv ++ l2) ++ rest))))) := .tail _ (List.mem_append_right _ (List.mem_append_right _ (.head _)))
      have hdm : (d, ({ cls := .type "dict", data := .dict des ep } : Obj)) ∈ ((C, oC) :: (Y ++ (lc ++ ((L + 1, ocell) :: (d, { cls := .type "dict", data := .dict des ep }) :: (l1 ++ (lv ++ l2) ++ rest))))) := .tail _ (List.mem_append_right _ (List.mem_append_right _ (.tail _ (.head _))))
      refine wpAny_Subscript_Name_late (nameCell N₄ hcm hoc rfl rfl rfl (nameC rfl rfl rfl N₄ (.head _) hnC hmk ⟨"dict", _, slot_dict_getitem.lookup, ⟨_, (N₄ _ hdm).1, rfl⟩, ?_⟩))
      refine dgetItem hkey N₄ hdm hdo (valueAt_of_get hdo.nodup hkv) ⟨X.keeps F₄.keep, ?_⟩
      have hp : ((C, oC) :: (Y ++ (lc ++ ((L + 1, ocell) :: (d, { cls := .type "dict", data := .dict des ep }) :: (l1 ++ (lv ++ l2) ++ rest))))).Perm (lv ++ ((C, oC) :: (Y ++ (lc ++ ((L + 1, ocell) :: (d, { cls := .type "dict", data := .dict des ep }) :: (l1 ++ l2 ++ rest)))))) := by ktr_rel
      refine ((ih t u lv c hT (hb k t (lk_get hnd hes)) hc _).perm hp).use B F₄ X N₄ D₄ T (by omega) (by omega) fun r l'' h' tk' F' N' D' P => ?_
      obtain ⟨lr, hTr, rfl⟩ := P
      have hp2 : (lr ++ (lv ++ ((C, oC) :: (Y ++ (lc ++ ((L + 1, ocell) :: (d, { cls := .type "dict", data := .dict des ep }) :: (l1 ++ l2 ++ rest))))))).Perm ((C, oC) :: (Y ++ ((lc ++ lr) ++ ((L + 1, ocell) :: (d, { cls := .type "dict", data := .dict des ep }) :: (l1 ++ (lv ++ l2) ++ rest))))) := by ktr_rel
      refine k₃ r _ h' tk' F' (news_perm hp2 N') (nd_perm hp2 D') ⟨lc ++ lr, ?_, rfl⟩
      have hys : ys.map (·.1) = (kvs.take i).map (·.1) := by rw [← forL_keys hlc, List.map_take, List.map_take, forL_keys hfor]
      rw [stored_new (by rw [hys]; exact nodup_take_not_mem hdo.nodup hkv), take_snoc hes]
      exact forL_app hlc (forL_one hTr)
    · rintro ys r o' ep' h' tk' ⟨lc, hlc, rfl⟩ ho' F' N' D'
      dsimp only
      rw [← forL_len hfor, List.take_length] at hlc
      refine hQ _ _ _ _ _ F' (news_sub (l' := (acc, o') :: (lc ++ ((d, { cls := .type "dict", data := .dict des ep }) :: (l' ++ rest)))) (fun p hp => ?_) N') (nd_sub ?_ D') ⟨(acc, o') :: lc, ⟨acc, o', ys, ep', es, lc, rfl, rfl, hSa, ho', hlc, rfl⟩, by simp⟩
      · simp only [List.mem_cons, List.mem_append] at hp ⊢
        rcases hp with h | h | h | h
        · exact .inl h
        · exact .inr (.inl h)
        · exact .inr (.inr (.inr (.inl h)))
        · exact .inr (.inr (.inr (.inr h)))
      · exact .cons₂ _ ((List.Sublist.refl _).append (.cons _ (.refl _)))
end Mine
end

section
open PySem PySem.W PyProof.Rows
set_option linter.constructorNameAsVariable false
set_option maxRecDepth 100000
namespace Mine

section
variable {prog : Program} {w : World} {A : Around} {E : Value → Shared → Prop} {s : Shared} {h₀ : Heap} {L a b d : Addr} {m : Str → Option Value} {l : Led} {o : Obj} {kvs : List (K5 × Value)} {ep : Nat}

theorem truthy_leaf {x : Leaf} {v : Value} {Q : Bool → Shared → Prop} (hl : LeafL x v l) (hb : x.items.length ≤ 2000) (hm : ∀ p ∈ l, s.heap.get? p.1 = some p.2)
    (h : ∀ b tk, (b = true ↔ ¬ falsy (.leaf x)) → Q b { s with toks := tk }) : wpAny (model prog w) A (truthy v) Q E s := by
  cases x with
  | none => exact hl.elim
  | str x =>
    obtain ⟨⟨t, rfl⟩, rfl, h0⟩ := hl
    have h2 : x.length = 1 := h0
    refine P.truthy_str (by omega) (h _ _ ?_)
    have h1 : ((x.length : Int) != 0) = true := bne_iff_ne.mpr (by omega)
    rw [h1]
    simp [falsy, Leaf.items]
  | lst xs =>
    obtain ⟨a, vs, n, rfl, rfl, hv⟩ := hl
    have hlen := strs_len hv
    have hb' : xs.length ≤ 2000 := hb
    refine wpAny_truthy_list (PySem.IsL.isList (n := n) (hm _ (.head _))) (by rw [List.size_toArray]; omega) (h _ _ ?_)
    simp only [falsy, Leaf.items]
    cases xs with
    | nil => cases hv; simp
    | cons y ys => cases hv; simp
theorem forL_nil {R : T → Value → Led → Prop} {es : List (K5 × T)} {l : Led} (h : ForL R es [] l) : es = [] ∧ l = [] := by cases h; exact ⟨rfl, rfl⟩
theorem lk_nil_iff {es : List (K5 × T)} : (∀ k, lk es k = none) ↔ es = [] := by
  constructor
  · intro h
    cases es with
    | nil => rfl
    | cons e r => have := h e.1; simp [lk] at this
  · rintro rfl k; rfl
theorem truthy_tree {n c : Nat} {t : T} {v : Value} {Q : Bool → Shared → Prop} (hl : TreeL w n t v l) (hb : bd n c t) (hc : c ≤ 2000) (hm : ∀ p ∈ l, s.heap.get? p.1 = some p.2)
    (h : ∀ b tk, (b = true ↔ ¬ falsy t) → Q b { s with toks := tk }) : wpAny (model PG w) A (truthy v) Q E s := by
  cases t with
  | leaf x =>
    have hl' : LeafL x v l := by cases n <;> exact hl
    exact truthy_leaf hl' (Nat.le_trans (bd_leaf.mp hb) hc) hm h
  | dct f =>
    cases n with
    | zero => exact hl.elim
    | succ n =>
      obtain ⟨d, o, kvs, ep, es, l', rfl, rfl, hS, hdo, hfor, rfl⟩ := hl
      refine wpAny_truthy_dict hS (hdo.at (hm _ (.head _))).dictOf (by have := hdo.len; omega) (h _ _ ?_)
      simp only [falsy, lk_nil_iff]
      have := forL_len hfor
      cases kvs with
      | nil => obtain ⟨rfl, _⟩ := forL_nil hfor; simp
      | cons p r => cases es with
        | nil => simp at this
        | cons => simp

theorem mth_dget {pl : Sem Bool} {es : Array DictEntry} {Q : Value × List Value → Shared → Prop} (N : News h₀ L s.heap l) (hm : (d, (⟨.type "dict", none, .dict es ep, #[]⟩ : Obj)) ∈ l)
    (h : Q (.builtin "dict.get", [.ref d]) s) : wpAny (model prog w) A (getMethod (.ref d) "get" pl) Q E s :=
  getMethod_builtin ⟨_, (N _ hm).1, rfl⟩ F.plainAttrs_dict F.slot_dict_get F.type_dict_get (fun _ e => by cases e; exact ⟨_, (N _ hm).1, rfl⟩) h
theorem mth_lext {pl : Sem Bool} {vs : Array Value} {n : Nat} {Q : Value × List Value → Shared → Prop} (N : News h₀ L s.heap l) (hm : (d, listOf vs n) ∈ l)
    (h : Q (.builtin "list.extend", [.ref d]) s) : wpAny (model prog w) A (getMethod (.ref d) "extend" pl) Q E s :=
  getMethod_builtin ⟨_, (N _ hm).1, rfl⟩ F.plainAttrs_list F.slot_list_extend F.type_list_extend (fun _ e => by cases e; exact ⟨_, (N _ hm).1, rfl⟩) h
theorem mth_lapp {pl : Sem Bool} {vs : Array Value} {n : Nat} {Q : Value × List Value → Shared → Prop} (N : News h₀ L s.heap l) (hm : (d, listOf vs n) ∈ l)
    (h : Q (.builtin "list.append", [.ref d]) s) : wpAny (model prog w) A (getMethod (.ref d) "append" pl) Q E s :=
  Calls.getMethod_list_append (N _ hm).1 rfl rfl h
theorem dget {k : K5} {key : Value} {Q : Value → Shared → Prop} (hk : (mixK prog w).is k key = true) (hS : (d == sysModules) = false) (N : News h₀ L s.heap l) (hm : (d, o) ∈ l) (hd : DictO prog w o kvs ep)
    (h : Q ((valueAt kvs k).getD .none) { s with toks := s.toks + 1 }) : wpAny (model prog w) A (call (.builtin "dict.get") [.ref d, key]) Q E s :=
  call_meetsIn F.slot_dict_get (hd.at (N _ hm).1).dictOf.typeIs F.entry_dict_get (F.args_dict_get_2 _ _) (meets_dict_get (mixK prog w) d hk hS) ⟨_, (hd.at (N _ hm).1).dictOf.mapOf, h⟩
theorem lextend {vs ws : List Value} {n n2 : Nat} {Q : Value → Shared → Prop} (F : Fr h₀ L s.heap m) (N : News h₀ L s.heap ((a, listOf vs.toArray n) :: l)) (D : Nd ((a, listOf vs.toArray n) :: l)) (hb : (b, listOf ws.toArray n2) ∈ l) (hz : vs.length + ws.length ≤ 4000)
    (h : ∀ n' h', Fr h₀ L h' m → News h₀ L h' ((a, listOf (vs ++ ws).toArray n') :: l) → Q .none { s with heap := h' }) : wpAny (model prog w) A (call (.builtin "list.extend") [.ref a, .ref b]) Q E s := by
  have z := N _ (.head _)
  have e := PySem.IsL.update z.1 (fun x => x ++ ws.toArray)
  have q := led_upd F N D (Heap.SameBut.update s.heap a (Obj.mapSeq (fun x => x ++ ws.toArray))) e
  have hz' : vs.length + ws.length ≤ sizeLine := by rw [sizeLine_eq]; omega
  refine call_meets PySem.F.slot_list_extend ⟨_, z.1, rfl⟩ PySem.F.entry_list_extend (PySem.F.args_list_extend_2 _ _) (AutoSeq1.list_extend_list_list_0 a vs.toArray n b ws.toArray n2 ?_ (by simp; omega) (by simp; omega)) ⟨z.1, (N _ (.tail _ hb)).1, ?_⟩
  · simp only [Builtin.List.listTooLong, List.size_toArray, Bool.and_eq_true, not_and]
    intro _
    simpa using hz'
  · refine h (if (vs.toArray ++ ws.toArray).size == vs.toArray.size then n else n + 1) _ q.1 ?_
    have e2 : (vs ++ ws).toArray = vs.toArray ++ ws.toArray := by simp
    rw [e2]; exact q.2
theorem lappend {vs : List Value} {n : Nat} {v : Value} {Q : Value → Shared → Prop} (F : Fr h₀ L s.heap m) (N : News h₀ L s.heap ((a, listOf vs.toArray n) :: l)) (D : Nd ((a, listOf vs.toArray n) :: l)) (hz : vs.length ≤ 4000)
    (h : ∀ n' h', Fr h₀ L h' m → News h₀ L h' ((a, listOf (vs ++ [v]).toArray n') :: l) → Q .none { s with heap := h' }) : wpAny (model prog w) A (call (.builtin "list.append") [.ref a, v]) Q E s := by
  refine append_at (hsz := by rw [sizeLine_eq]; simp; omega) (N _ (.head _)).1 fun h' hs ho => ?_
  have q := led_upd F N D hs ho
  refine h (n + 1) h' q.1 ?_
  simpa using q.2
end
end Mine
end

section
open PySem PySem.W PyProof.Rows
set_option linter.constructorNameAsVariable false
set_option maxRecDepth 100000
namespace Mine

theorem stored_at : ∀ {kvs : List (K5 × Value)} {i : Nat} {k : K5} {u u' : Value}, (kvs.map (·.1)).Nodup → kvs[i]? = some (k, u) → stored kvs k u' = kvs.set i (k, u') := by
  intro kvs i k u u' hn h
  have hany : (kvs.any fun kv => decide (kv.1 = k)) = true := List.any_eq_true.mpr ⟨(k, u), List.mem_of_getElem? h, by simp⟩
  unfold stored
  rw [if_pos hany]
  clear hany
  induction kvs generalizing i with
  | nil => simp at h
  | cons p r ih =>
    rw [List.map_cons, List.nodup_cons] at hn
    cases i with
    | zero =>
      simp at h; subst h
      rw [List.map_cons, if_pos rfl, map_store_of_not_mem r k u' hn.1]; rfl
    | succ i =>
      simp at h
      have hm : k ∈ r.map (·.1) := List.mem_map.mpr ⟨(k, u), List.mem_of_getElem? h, rfl⟩
      have hne : ¬ p.1 = k := fun q => hn.1 (q ▸ hm)
      rw [List.map_cons, if_neg hne, ih hn.2 h]; rfl

theorem lk_set : ∀ {es : List (K5 × T)} {i : Nat} {k : K5} {t t' : T}, (es.map (·.1)).Nodup → es[i]? = some (k, t) → lk (es.set i (k, t')) = upd (lk es) k t' := by
  intro es
  induction es with
  | nil => intro i k t t' _ h; simp at h
  | cons e r ih =>
    intro i k t t' hn h
    rw [List.map_cons, List.nodup_cons] at hn
    funext k'
    cases i with
    | zero =>
      simp at h; subst h
      by_cases hk : k' = k
      · subst hk; simp [lk, upd]
      · have : ¬ k = k' := fun q => hk q.symm
        simp [lk, upd, hk, this]
    | succ i =>
      simp at h
      have hm : k ∈ r.map (·.1) := List.mem_map.mpr ⟨(k, t), List.mem_of_getElem? h, rfl⟩
      have hne : ¬ e.1 = k := fun q => hn.1 (q ▸ hm)
      have h2 := congrFun (ih (t' := t') hn.2 h) k'
      by_cases he : e.1 = k'
      · have : ¬ k' = k := fun q => hne (he.trans q)
        simp [lk, upd, he, this]
      · simpa [lk, upd, List.find?_cons, he] using h2
theorem lk_none {es : List (K5 × T)} {k : K5} : lk es k = none ↔ k ∉ es.map (·.1) := by
  unfold lk
  rw [Option.map_eq_none_iff, List.find?_eq_none]
  constructor
  · intro h hm
    obtain ⟨e, he, hk⟩ := List.mem_map.mp hm
    exact absurd hk (by simpa using h e he)
  · intro h e he
    simp only [decide_eq_true_eq]
    exact fun hk => h (List.mem_map.mpr ⟨e, he, hk⟩)
theorem lk_app {es : List (K5 × T)} {k : K5} {t' : T} (h : k ∉ es.map (·.1)) : lk (es ++ [(k, t')]) = upd (lk es) k t' := by
  funext k'
  unfold lk upd
  rw [List.find?_append]
  by_cases hk : k' = k
  · subst hk
    have := lk_none.mpr h
    unfold lk at this
    rw [Option.map_eq_none_iff] at this
    rw [this]; simp
  · have : ¬ k = k' := fun q => hk q.symm
    simp [hk, this]
theorem lk_some : ∀ {es : List (K5 × T)} {k : K5} {t : T}, lk es k = some t → ∃ i : Nat, es[i]? = some (k, t) := by
  intro es k t h
  unfold lk at h
  obtain ⟨e, he, rfl⟩ := Option.map_eq_some_iff.mp h
  have h1 := List.mem_of_find?_eq_some he
  have h2 := List.find?_some he
  obtain ⟨i, hi⟩ := List.mem_iff_getElem?.mp h1
  exact ⟨i, by rw [hi]; simp at h2; subst h2; rfl⟩

section
variable {R : T → Value → Led → Prop}
theorem forL_get' {es : List (K5 × T)} {kvs : List (K5 × Value)} {l : Led} (h : ForL R es kvs l) : ∀ {i : Nat} {k : K5} {t : T}, es[i]? = some (k, t) → ∃ u lv l1 l2, kvs[i]? = some (k, u) ∧ R t u lv ∧ l = l1 ++ (lv ++ l2) ∧
    ∀ t' u' lr, R t' u' lr → ForL R (es.set i (k, t')) (kvs.set i (k, u')) (l1 ++ (lr ++ l2)) := by
  induction h with
  | nil => intro i k t h; simp at h
  | @cons k₀ t₀ v₀ es kvs lv l' hr hf ih =>
    intro i k t h
    cases i with
    | zero =>
      simp at h; obtain ⟨rfl, rfl⟩ := h
      exact ⟨v₀, lv, [], l', rfl, hr, rfl, fun t' u' lr h' => (show ForL R _ _ (lr ++ l') from .cons h' hf)⟩
    | succ i =>
      simp at h
      obtain ⟨u, lv', l1, l2, h1, h2, h3, h4⟩ := ih h
      refine ⟨u, lv', lv ++ l1, l2, by simpa using h1, h2, by rw [h3, List.append_assoc], fun t' u' lr h' => ?_⟩
      rw [List.append_assoc]
      exact .cons hr (h4 t' u' lr h')

theorem openK {es : List (K5 × T)} {kvs : List (K5 × Value)} {l : Led} (hfor : ForL R es kvs l) (hn : (kvs.map (·.1)).Nodup) (k : K5) :
    ∃ lv lrest, l.Perm (lv ++ lrest) ∧ ((lk es k = none ∧ valueAt kvs k = none ∧ lv = []) ∨ ∃ t u, lk es k = some t ∧ valueAt kvs k = some u ∧ R t u lv) ∧
      ∀ t' u' lr, R t' u' lr → ∃ es' lnew, ForL R es' (stored kvs k u') lnew ∧ lnew.Perm (lr ++ lrest) ∧ lk es' = upd (lk es) k t' := by
  have hne : (es.map (·.1)).Nodup := by rw [forL_keys hfor]; exact hn
  cases hk : lk es k with
  | none =>
    have hk' := lk_none.mp hk
    have hkv : k ∉ kvs.map (·.1) := by rw [← forL_keys hfor]; exact hk'
    have hv : valueAt kvs k = none := by
      unfold valueAt
      rw [Option.map_eq_none_iff, List.find?_eq_none]
      intro e he
      simp only [decide_eq_true_eq]
      exact fun q => hkv (List.mem_map.mpr ⟨e, he, q⟩)
    refine ⟨[], l, .refl _, .inl ⟨rfl, hv, rfl⟩, fun t' u' lr h => ⟨es ++ [(k, t')], l ++ lr, ?_, List.perm_append_comm, lk_app hk'⟩⟩
    rw [stored_new hkv]
    exact forL_app hfor (forL_one h)
  | some t =>
    obtain ⟨i, hi⟩ := lk_some hk
    obtain ⟨u, lv, l1, l2, h1, h2, rfl, h4⟩ := forL_get' hfor hi
    refine ⟨lv, l1 ++ l2, ?_, .inr ⟨t, u, rfl, valueAt_of_get hn h1, h2⟩, fun t' u' lr h => ⟨es.set i (k, t'), l1 ++ (lr ++ l2), ?_, ?_, lk_set hne hi⟩⟩
    · refine perm_of_sum fun f => ?_
      simp only [List.map_append, List.sum_append]; omega
    · rw [stored_at hn h1]; exact h4 t' u' lr h
    · refine perm_of_sum fun f => ?_
      simp only [List.map_append, List.sum_append]; omega
end
end Mine
end

section
open PySem PySem.W PyProof.Rows
set_option linter.constructorNameAsVariable false
set_option maxRecDepth 100000
namespace Mine

local macro_rules | `(tactic| walk_at "pyIter ref") => `(tactic| refine Stop.out ?_)
local macro_rules | `(tactic| walk_at "eval ListComp") => `(tactic| refine Stop.out ?_)
local macro_rules | `(tactic| walk_at "eval DictComp") => `(tactic| refine Stop.out ?_)
local macro_rules | `(tactic| walk_at "call ref") => `(tactic| refine Stop.out ?_)
local macro_rules | `(tactic| walk_at "truthy") => `(tactic| refine Stop.out ?_)
local macro_rules | `(tactic| walk_at "setItem ref str") => `(tactic| refine Stop.out ?_)
local macro_rules | `(tactic| walk_at "compareOp In") => `(tactic| refine Stop.out ?_)
local macro_rules | `(tactic| walk_at "subscriptTail") => `(tactic| refine Stop.out ?_)
local macro_rules | `(tactic| walk_at "setItem ref") => `(tactic| refine Stop.out ?_)
local macro_rules | `(tactic| walk_at "exec For Tuple Call cons nil") => `(tactic| refine Stop.out ?_)
local macro_rules | `(tactic| walk_at "getMethod ref") => `(tactic| first | refine mth_dget (by assumption) (by k_mem) ?_ | refine mth_lext (by assumption) (by k_mem) ?_ | refine mth_lapp (by assumption) (by k_mem) ?_)
local macro_rules | `(tactic| walk_at "call builtin:dict.get") => `(tactic| refine Stop.out ?_)
local macro_rules | `(tactic| walk_at "call builtin:list.extend") => `(tactic| refine Stop.out ?_)
local macro_rules | `(tactic| walk_at "call builtin:list.append") => `(tactic| refine Stop.out ?_)
local macro_rules | `(tactic| ktr_unf) => `(tactic| ((repeat' (first | walk1 | (dsimp only; walk1))); all_goals (try dsimp only)))
local macro_rules | `(tactic| tb_start) => `(tactic| (
  have hfill : ∀ h, (Mine.hd.heap_39 (World.params ‹World›)).In h → PySem.Challenge.rw_eq0024_01.row.prog = PySem.Challenge.rw_eq0024_01.row.prog := by
    k_fill
    exact fun _ _ => rfl
  clear hfill))
local macro_rules | `(tactic| ktr_rel) => `(tactic| (refine perm_of_sum fun f => ?_; simp only [List.map_append, List.map_cons, List.map_nil, List.sum_append, List.sum_cons, List.sum_nil]; omega))

set_option maxHeartbeats 4000000 in
theorem merge_none_l {w : World} {vb : Value} (rest : Led) : Spec w 55 [.none, vb] rest 1 3 (fun r l' => r = vb ∧ l' = rest) := by
  tb_start
  refine Spec.intro (binds := [(Str.ofString "errors1", .none), (Str.ofString "errors2", vb)]) (by k_is) (by k_is) (fun s => BindsTo.of_eq rfl) (locs rfl) rfl rfl rfl (by decide) ?_
  intro mean mg mb dp un gd outer A₀ base g L s Q hd hu B F X N D T hQ
  ktr_unf
  exact hQ _ _ _ _ _ F N D ⟨rfl, rfl⟩

set_option maxHeartbeats 4000000 in
theorem merge_none_r {w : World} {n c : Nat} {a : Mine.T} {va : Value} {la : Led} (ht : TreeL w n a va la) (hb : bd n c a) (hc : c ≤ 2000) (hf : ¬ falsy a) (rest : Led) : Spec w 55 [va, .none] (la ++ rest) 1 3 (fun r l' => r = va ∧ l' = la ++ rest) := by
  tb_start
  refine Spec.intro (binds := [(Str.ofString "errors1", va), (Str.ofString "errors2", .none)]) (by k_is) (by k_is) (fun s => BindsTo.of_eq rfl) (locs rfl) rfl rfl rfl (by decide) ?_
  intro mean mg mb dp un gd outer A₀ base g L s Q hd hu B F X N D T hQ
  ktr_unf
  refine ⟨truthy_tree ht hb hc (fun p hp => (N p (List.mem_append_left _ hp)).1) fun b tk hbt => ?_⟩
  obtain rfl : b = true := hbt.mpr hf
  ktr_unf
  exact hQ _ _ _ _ _ F N D ⟨rfl, rfl⟩

theorem tl_leaf {w : World} {n : Nat} {x : Leaf} {v : Value} {l : Led} : TreeL w n (.leaf x) v l ↔ LeafL x v l := by cases n <;> exact Iff.rfl

theorem dsub {prog : Program} {w : World} {A : Around} {E : Value → Shared → Prop} {s : Shared} {h₀ : Heap} {L d : Addr} {l : Led} {o : Obj} {kvs : List (K5 × Value)} {ep : Nat} {k : K5} {key v : Value} {value : PySem.Expr} {x : Str} {p : Pos} {Q : Value → Shared → Prop}
    (hk : (mixK prog w).is k key = true) (N : News h₀ L s.heap l) (hm : (d, o) ∈ l) (hd : DictO prog w o kvs ep) (hv : valueAt kvs k = some v) (h : Q v { s with toks := s.toks + 1 }) :
    wpAny (model prog w) A (subscriptTail value (.Name x p) (.ref d) key) Q E s :=
  tail_any (hd.at (N _ hm).1).dictOf.typeIs PySem.F.slot_dict_getitem.lookup (dgetItem hk N hm hd hv h) (by with_unfolding_all rfl)

theorem forL_uncons {R : Mine.T → Value → Led → Prop} {e : K5 × Mine.T} {kv : K5 × Value} {es : List (K5 × Mine.T)} {kvs : List (K5 × Value)} {l : Led} (h : ForL R (e :: es) (kv :: kvs) l) : ∃ lu lrem, e.1 = kv.1 ∧ R e.2 kv.2 lu ∧ ForL R es kvs lrem ∧ l = lu ++ lrem := by
  cases h with
  | cons hr hf => exact ⟨_, _, rfl, hr, hf, rfl⟩

/-- what the first i entries have made of a table's -/
noncomputable def accM (n : Nat) (f : K5 → Option Mine.T) (es : List (K5 × Mine.T)) : K5 → Option Mine.T := fun k => optM (merge n) (f k) (lk es k)
theorem accM_snoc {n : Nat} {f : K5 → Option Mine.T} {es : List (K5 × Mine.T)} {k : K5} {t v : Mine.T} (h : k ∉ es.map (·.1)) (hv : optM (merge n) (f k) (some t) = some v) : accM n f (es ++ [(k, t)]) = upd (accM n f es) k v := by
  funext k'
  unfold accM
  rw [lk_app h]
  by_cases hk : k' = k
  · subst hk; rw [upd_same, upd_same]; exact hv
  · rw [upd_ne _ _ hk, upd_ne _ _ hk]
theorem accM_here {n : Nat} {f : K5 → Option Mine.T} {es : List (K5 × Mine.T)} {k : K5} (h : k ∉ es.map (·.1)) : accM n f es k = f k := by
  unfold accM
  rw [lk_none.mpr h]
  cases f k <;> rfl

def MergeAt (w : World) (n : Nat) : Prop := ∀ (a b : Mine.T) (va vb : Value) (la lb : Led) (ca cb : Nat), TreeL w n a va la → TreeL w n b vb lb → bd n ca a → bd n cb b → ca + cb ≤ 1000 →
    ∀ rest, Spec w 55 [va, vb] (la ++ (lb ++ rest)) (n + 2) (20 * (n + 1)) (fun r l' => ∃ lr, TreeL w n (merge n a b) r lr ∧ l' = lr ++ rest)

theorem callL {w : World} {n ca cb : Nat} (ih : MergeAt w n) {a : Mine.T} {va u : Value} {la lv : Led} {t : Option Mine.T} (hA : TreeL w n a va la) (bA : bd n ca a) (fa : ¬ falsy a)
    (ht : (t = none ∧ u = .none ∧ lv = []) ∨ ∃ t', t = some t' ∧ TreeL w n t' u lv ∧ bd n cb t') (hc : ca + cb ≤ 1000) (rest : Led) :
    Spec w 55 [va, u] (la ++ (lv ++ rest)) (n + 2) (20 * (n + 1)) (fun r l' => ∃ lr, TreeL w n (merge n a (t.getD .nn)) r lr ∧ l' = lr ++ rest) := by
  rcases ht with ⟨rfl, rfl, rfl⟩ | ⟨t', rfl, h1, h2⟩
  · refine (merge_none_r hA bA (by omega) fa rest).mono (by omega) (by omega) fun r l' h => ?_
    obtain ⟨rfl, rfl⟩ := h
    exact ⟨la, by rw [Option.getD_none, merge_r fa nn_falsy]; exact hA, rfl⟩
  · exact ih a t' va u la lv ca cb hA h1 bA h2 hc rest
theorem callR {w : World} {n ca cb : Nat} (ih : MergeAt w n) {b : Mine.T} {vb u : Value} {lb lv : Led} {t : Option Mine.T} (hB : TreeL w n b vb lb) (bB : bd n cb b)
    (ht : (t = none ∧ u = .none ∧ lv = []) ∨ ∃ t', t = some t' ∧ TreeL w n t' u lv ∧ bd n ca t') (hc : ca + cb ≤ 1000) (rest : Led) :
    Spec w 55 [u, vb] (lv ++ (lb ++ rest)) (n + 2) (20 * (n + 1)) (fun r l' => ∃ lr, TreeL w n (merge n (t.getD .nn) b) r lr ∧ l' = lr ++ rest) := by
  rcases ht with ⟨rfl, rfl, rfl⟩ | ⟨t', rfl, h1, h2⟩
  · refine (merge_none_l (vb := vb) (lb ++ rest)).mono (by omega) (by omega) fun r l' h => ?_
    obtain ⟨rfl, rfl⟩ := h
    exact ⟨lb, by rw [Option.getD_none, merge_l _ nn_falsy]; exact hB, rfl⟩
  · exact ih t' b u vb lv lb ca cb h1 hB h2 bB hc rest

set_option maxHeartbeats 8000000 in
theorem merge_spec {w : World} : ∀ (n : Nat), MergeAt w n := by
  intro n
  induction n using Nat.strongRecOn with
  | ind n ih =>
  intro a b va vb la lb ca cb hA hB bA bB hc rest
  tb_start
  refine Spec.intro (binds := [(Str.ofString "errors1", va), (Str.ofString "errors2", vb)]) (by k_is) (by k_is) (fun s => BindsTo.of_eq rfl) (locs rfl) rfl rfl rfl (by decide) ?_
  intro mean mg mb dp un gd outer A₀ base g L s Q hd hu B F X N D T hQ
  ktr_unf
  refine ⟨truthy_tree hA bA (by omega) (fun p hp => (N p (List.mem_append_left _ hp)).1) fun b1 tk1 hb1 => ?_⟩
  by_cases fa : falsy a
  · obtain rfl : b1 = false := by cases b1 <;> simp_all
    ktr_unf
    exact hQ _ _ _ _ _ F (news_sub (fun p hp => List.mem_append_right _ hp) N) (nd_sub (List.sublist_append_right _ _) D) ⟨lb, by rw [merge_l _ fa]; exact hB, rfl⟩
  obtain rfl : b1 = true := hb1.mpr fa
  ktr_unf
  refine ⟨truthy_tree hB bB (by omega) (fun p hp => (N p (List.mem_append_right _ (List.mem_append_left _ hp))).1) fun b2 tk2 hb2 => ?_⟩
  by_cases fb : falsy b
  · obtain rfl : b2 = false := by cases b2 <;> simp_all
    ktr_unf
    have hp : (la ++ (lb ++ rest)).Perm (lb ++ (la ++ rest)) := by ktr_rel
    exact hQ _ _ _ _ _ F (news_sub (fun p hp => List.mem_append_right _ hp) (news_perm hp N)) (nd_sub (List.sublist_append_right _ _) (nd_perm hp D)) ⟨la, by rw [merge_r fa fb]; exact hA, rfl⟩
  obtain rfl : b2 = true := hb2.mpr fb
  clear hb1 hb2
  rcases a with x | f
  · rw [tl_leaf] at hA
    cases x with
    | none => exact hA.elim
    | str x =>
      obtain ⟨⟨t, rfl⟩, rfl, hx⟩ := hA
      rcases b with y | h
      · rw [tl_leaf] at hB
        cases y with
        | none => exact hB.elim
        | str y =>
          obtain ⟨⟨t', rfl⟩, rfl, hy⟩ := hB
          simp only [List.nil_append] at N D
          ktr_unf
          rename News _ _ _ _ => N2
          rename Fr _ _ _ _ => F2
          rename (∀ (p : Addr × Obj), p ∈ rest → _) => l1
          refine hQ _ _ _ _ _ F2 N2 (nd_push D l1) ⟨[_], ?_, rfl⟩
          rw [merge_ll fa fb, Leaf.merge_t fa fb, tl_leaf]
          exact ⟨_, _, _, rfl, rfl, .cons x t (.cons y t' .nil)⟩
        | lst ys =>
          obtain ⟨a2, ws, n2, rfl, rfl, hw⟩ := hB
          have hwl : ys.length ≤ cb := bd_leaf.mp bB
          have hwl' := strs_len hw
          simp only [List.nil_append, List.cons_append] at N D
          ktr_unf
          refine star_seq F N (.head _) rfl rfl (.inl rfl) rfl (by rw [sizeLine_eq, List.size_toArray]; omega) fun h' F' N' => ?_
          refine spliced_none ?_
          refine newList_K F' N' (fun l2 h2 F2 N2 l1 => ?_) (by rw [sizeLine_eq]; simp; omega)
          ktr_unf
          refine hQ _ _ _ _ _ F2 (news_sub (l' := (l2, W.listOf ([Value.str x t] ++ (ws.toArray.toList ++ [])).toArray 0) :: rest) (fun p hp => by
            rcases List.mem_cons.mp hp with rfl | hp
            · exact .head _
            · exact .tail _ (.tail _ hp)) N2) (nd_push (nd_tail D) fun p hp => l1 p (.tail _ hp)) ⟨[_], ?_, rfl⟩
          rw [merge_ll fa fb, Leaf.merge_t fa fb, tl_leaf]
          refine ⟨_, _, _, rfl, rfl, ?_⟩
          simp only [List.append_nil]
          exact .cons x t hw
      · cases n with
        | zero => exact hB.elim
        | succ n =>
        obtain ⟨d, o, kvs, ep, es, l', rfl, rfl, hS, hdo, hfor, rfl⟩ := hB
        obtain ⟨des, rfl⟩ := hdo.obj
        obtain ⟨lv, lrest, hpl, hcase, hput⟩ := openK hfor hdo.nodup .S
        simp only [List.nil_append, List.cons_append] at N D
        ktr_unf
        refine ⟨dget (k := .S) rfl hS N (.head _) hdo ?_⟩
        ktr_unf
        have hcase' : (lk es .S = none ∧ (valueAt kvs .S).getD .none = .none ∧ lv = []) ∨ ∃ t', lk es .S = some t' ∧ TreeL w n t' ((valueAt kvs .S).getD .none) lv ∧ bd n cb t' := by
          rcases hcase with ⟨h1, h2, h3⟩ | ⟨t, u, h1, h2, h3⟩
          · exact .inl ⟨h1, by rw [h2]; rfl, h3⟩
          · exact .inr ⟨t, h1, by rw [h2]; exact h3, bB _ _ h1⟩
        have sp := callL (ih n (Nat.lt_succ_self n)) (n := n) (a := .leaf (.str x)) (va := .str x t) (la := []) (tl_leaf.mpr ⟨⟨t, rfl⟩, rfl, hx⟩) (bd_leaf.mpr (bd_leaf.mp bA)) fa hcase' hc ((d, { cls := .type "dict", data := .dict des ep }) :: (lrest ++ rest))
        have hp : ((d, ({ cls := .type "dict", data := .dict des ep } : Obj)) :: (l' ++ rest)).Perm ([] ++ (lv ++ ((d, { cls := .type "dict", data := .dict des ep }) :: (lrest ++ rest)))) := by
          have := (hpl.append_right rest)
          refine (List.Perm.cons _ this).trans ?_
          ktr_rel
        refine ⟨(sp.perm hp).use B F X N D T (by omega) (by omega) fun r l'' h' tk' F' N' D' P => ?_⟩
        obtain ⟨lr, hTr, rfl⟩ := P
        ktr_unf
        have hp2 : (lr ++ ((d, ({ cls := .type "dict", data := .dict des ep } : Obj)) :: (lrest ++ rest))).Perm ((d, { cls := .type "dict", data := .dict des ep }) :: (lr ++ lrest ++ rest)) := by ktr_rel
        refine ⟨dsetItem (k := .S) rfl F' (news_perm hp2 N') (nd_perm hp2 D') hdo fun o' ep' h2 hdo' F2 N2 => ?_⟩
        ktr_unf
        obtain ⟨es', lnew, hfor', hpn, hlk⟩ := hput _ _ _ hTr
        have hp3 : ((d, o') :: (lr ++ lrest ++ rest)).Perm (((d, o') :: lnew) ++ rest) := List.Perm.cons _ (hpn.symm.append_right rest)
        have D2 : Nd ((d, o') :: (lr ++ lrest ++ rest)) := nd_same (nd_perm hp2 D')
        refine hQ _ _ _ _ _ F2 (news_perm hp3 N2) (nd_perm hp3 D2) ⟨(d, o') :: lnew, ?_, rfl⟩
        rw [merge_ld fa fb, ← hlk]
        exact ⟨d, o', _, ep', es', lnew, rfl, rfl, hS, hdo', hfor', rfl⟩
    | lst xs =>
      obtain ⟨a1, vs, n1, rfl, rfl, hv⟩ := hA
      rcases b with y | h
      · rw [tl_leaf] at hB
        cases y with
        | none => exact hB.elim
        | str y =>
          obtain ⟨⟨t', rfl⟩, rfl, hy⟩ := hB
          have hvl : xs.length ≤ ca := bd_leaf.mp bA
          have hvl' := strs_len hv
          simp only [List.nil_append, List.cons_append] at N D
          ktr_unf
          refine ⟨lappend F N D (by omega) fun n' h' F' N' => ?_⟩
          ktr_unf
          refine hQ _ _ _ _ _ F' N' D ⟨[_], ?_, rfl⟩
          rw [merge_ll fa fb, Leaf.merge_t fa fb, tl_leaf]
          exact ⟨_, _, _, rfl, rfl, strs_app hv (.cons y t' .nil)⟩
        | lst ys =>
          obtain ⟨a2, ws, n2, rfl, rfl, hw⟩ := hB
          have hvl : xs.length ≤ ca := bd_leaf.mp bA
          have hvl' := strs_len hv
          have hwl : ys.length ≤ cb := bd_leaf.mp bB
          have hwl' := strs_len hw
          simp only [List.nil_append, List.cons_append] at N D
          ktr_unf
          refine ⟨lextend F N D (.head _) (by omega) fun n' h' F' N' => ?_⟩
          ktr_unf
          refine hQ _ _ _ _ _ F' (news_sub (l' := (a1, W.listOf (vs ++ ws).toArray n') :: rest) (fun p hp => by
            rcases List.mem_cons.mp hp with rfl | hp
            · exact .head _
            · exact .tail _ (.tail _ hp)) N') (nd_sub (.cons₂ _ (.cons _ (.refl _))) (nd_same D)) ⟨[_], ?_, rfl⟩
          rw [merge_ll fa fb, Leaf.merge_t fa fb, tl_leaf]
          exact ⟨_, _, _, rfl, rfl, strs_app hv hw⟩
      · cases n with
        | zero => exact hB.elim
        | succ n =>
        obtain ⟨d, o, kvs, ep, es, l', rfl, rfl, hS, hdo, hfor, rfl⟩ := hB
        obtain ⟨des, rfl⟩ := hdo.obj
        obtain ⟨lv, lrest, hpl, hcase, hput⟩ := openK hfor hdo.nodup .S
        simp only [List.nil_append, List.cons_append] at N D
        ktr_unf
        refine ⟨dget (k := .S) rfl hS N (.tail _ (.head _)) hdo ?_⟩
        ktr_unf
        have hcase' : (lk es .S = none ∧ (valueAt kvs .S).getD .none = .none ∧ lv = []) ∨ ∃ t', lk es .S = some t' ∧ TreeL w n t' ((valueAt kvs .S).getD .none) lv ∧ bd n cb t' := by
          rcases hcase with ⟨h1, h2, h3⟩ | ⟨t, u, h1, h2, h3⟩
          · exact .inl ⟨h1, by rw [h2]; rfl, h3⟩
          · exact .inr ⟨t, h1, by rw [h2]; exact h3, bB _ _ h1⟩
        have sp := callL (ih n (Nat.lt_succ_self n)) (n := n) (a := .leaf (.lst xs)) (va := .ref a1) (la := [(a1, listOf vs.toArray n1)]) (tl_leaf.mpr ⟨a1, vs, n1, rfl, rfl, hv⟩) (bd_leaf.mpr (bd_leaf.mp bA)) fa hcase' hc ((d, { cls := .type "dict", data := .dict des ep }) :: (lrest ++ rest))
        have hp : ((a1, listOf vs.toArray n1) :: (d, ({ cls := .type "dict", data := .dict des ep } : Obj)) :: (l' ++ rest)).Perm ([(a1, listOf vs.toArray n1)] ++ (lv ++ ((d, { cls := .type "dict", data := .dict des ep }) :: (lrest ++ rest)))) := by
          have := (hpl.append_right rest)
          refine (List.Perm.cons _ (List.Perm.cons _ this)).trans ?_
          ktr_rel
        refine ⟨(sp.perm hp).use B F X N D T (by omega) (by omega) fun r l'' h' tk' F' N' D' P => ?_⟩
        obtain ⟨lr, hTr, rfl⟩ := P
        ktr_unf
        have hp2 : (lr ++ ((d, ({ cls := .type "dict", data := .dict des ep } : Obj)) :: (lrest ++ rest))).Perm ((d, { cls := .type "dict", data := .dict des ep }) :: (lr ++ lrest ++ rest)) := by ktr_rel
        refine ⟨dsetItem (k := .S) rfl F' (news_perm hp2 N') (nd_perm hp2 D') hdo fun o' ep' h2 hdo' F2 N2 => ?_⟩
        ktr_unf
        obtain ⟨es', lnew, hfor', hpn, hlk⟩ := hput _ _ _ hTr
        have hp3 : ((d, o') :: (lr ++ lrest ++ rest)).Perm (((d, o') :: lnew) ++ rest) := List.Perm.cons _ (hpn.symm.append_right rest)
        have D2 : Nd ((d, o') :: (lr ++ lrest ++ rest)) := nd_same (nd_perm hp2 D')
        refine hQ _ _ _ _ _ F2 (news_perm hp3 N2) (nd_perm hp3 D2) ⟨(d, o') :: lnew, ?_, rfl⟩
        rw [merge_ld fa fb, ← hlk]
        exact ⟨d, o', _, ep', es', lnew, rfl, rfl, hS, hdo', hfor', rfl⟩
  · cases n with
    | zero => exact hA.elim
    | succ n =>
    obtain ⟨d, o, kvs, ep, es, l', rfl, rfl, hS, hdo, hfor, rfl⟩ := hA
    obtain ⟨des, rfl⟩ := hdo.obj
    rcases b with y | h
    · obtain ⟨lv, lrest, hpl, hcase, hput⟩ := openK hfor hdo.nodup .S
      have hcase' : (lk es .S = none ∧ (valueAt kvs .S).getD .none = .none ∧ lv = []) ∨ ∃ t', lk es .S = some t' ∧ TreeL w n t' ((valueAt kvs .S).getD .none) lv ∧ bd n ca t' := by
        rcases hcase with ⟨h1, h2, h3⟩ | ⟨t, u, h1, h2, h3⟩
        · exact .inl ⟨h1, by rw [h2]; rfl, h3⟩
        · exact .inr ⟨t, h1, by rw [h2]; exact h3, bA _ _ h1⟩
      rw [tl_leaf] at hB
      have sp := callR (ih n (Nat.lt_succ_self n)) (n := n) (b := .leaf y) (vb := vb) (lb := lb) (tl_leaf.mpr hB) (bd_leaf.mpr (bd_leaf.mp bB)) hcase' hc ((d, { cls := .type "dict", data := .dict des ep }) :: (lrest ++ rest))
      have hp : ((d, ({ cls := .type "dict", data := .dict des ep } : Obj)) :: (l' ++ (lb ++ rest))).Perm (lv ++ (lb ++ ((d, { cls := .type "dict", data := .dict des ep }) :: (lrest ++ rest)))) := by
        have := (hpl.append_right (lb ++ rest))
        refine (List.Perm.cons _ this).trans ?_
        ktr_rel
      simp only [List.cons_append] at N D
      cases y with
      | none => exact hB.elim
      | str y =>
        obtain ⟨⟨t', rfl⟩, rfl, hy⟩ := hB
        ktr_unf
        refine ⟨dget (k := .S) rfl hS N (.head _) hdo ?_⟩
        ktr_unf
        refine ⟨(sp.perm hp).use B F X N D T (by omega) (by omega) fun r l'' h' tk' F' N' D' P => ?_⟩
        obtain ⟨lr, hTr, rfl⟩ := P
        ktr_unf
        have hp2 : (lr ++ ((d, ({ cls := .type "dict", data := .dict des ep } : Obj)) :: (lrest ++ rest))).Perm ((d, { cls := .type "dict", data := .dict des ep }) :: (lr ++ lrest ++ rest)) := by ktr_rel
        refine ⟨dsetItem (k := .S) rfl F' (news_perm hp2 N') (nd_perm hp2 D') hdo fun o' ep' h2 hdo' F2 N2 => ?_⟩
        ktr_unf
        obtain ⟨es', lnew, hfor', hpn, hlk⟩ := hput _ _ _ hTr
        have hp3 : ((d, o') :: (lr ++ lrest ++ rest)).Perm (((d, o') :: lnew) ++ rest) := List.Perm.cons _ (hpn.symm.append_right rest)
        have D2 : Nd ((d, o') :: (lr ++ lrest ++ rest)) := nd_same (nd_perm hp2 D')
        refine hQ _ _ _ _ _ F2 (news_perm hp3 N2) (nd_perm hp3 D2) ⟨(d, o') :: lnew, ?_, rfl⟩
        rw [merge_dl fa fb, ← hlk]
        exact ⟨d, o', _, ep', es', lnew, rfl, rfl, hS, hdo', hfor', rfl⟩
      | lst ys =>
        obtain ⟨a2, ws, n2, rfl, rfl, hw⟩ := hB
        have hp0 : ((d, ({ cls := .type "dict", data := .dict des ep } : Obj)) :: (l' ++ ([(a2, listOf ws.toArray n2)] ++ rest))).Perm ((a2, listOf ws.toArray n2) :: (d, { cls := .type "dict", data := .dict des ep }) :: (l' ++ rest)) := by ktr_rel
        replace N := news_perm hp0 N
        replace D := nd_perm hp0 D
        ktr_unf
        refine ⟨dget (k := .S) rfl hS N (.tail _ (.head _)) hdo ?_⟩
        ktr_unf
        refine ⟨(sp.perm (hp0.symm.trans hp)).use B F X N D T (by omega) (by omega) fun r l'' h' tk' F' N' D' P => ?_⟩
        obtain ⟨lr, hTr, rfl⟩ := P
        ktr_unf
        have hp2 : (lr ++ ((d, ({ cls := .type "dict", data := .dict des ep } : Obj)) :: (lrest ++ rest))).Perm ((d, { cls := .type "dict", data := .dict des ep }) :: (lr ++ lrest ++ rest)) := by ktr_rel
        refine ⟨dsetItem (k := .S) rfl F' (news_perm hp2 N') (nd_perm hp2 D') hdo fun o' ep' h2 hdo' F2 N2 => ?_⟩
        ktr_unf
        obtain ⟨es', lnew, hfor', hpn, hlk⟩ := hput _ _ _ hTr
        have hp3 : ((d, o') :: (lr ++ lrest ++ rest)).Perm (((d, o') :: lnew) ++ rest) := List.Perm.cons _ (hpn.symm.append_right rest)
        have D2 : Nd ((d, o') :: (lr ++ lrest ++ rest)) := nd_same (nd_perm hp2 D')
        refine hQ _ _ _ _ _ F2 (news_perm hp3 N2) (nd_perm hp3 D2) ⟨(d, o') :: lnew, ?_, rfl⟩
        rw [merge_dl fa fb, ← hlk]
        exact ⟨d, o', _, ep', es', lnew, rfl, rfl, hS, hdo', hfor', rfl⟩
    · obtain ⟨d2, o2, kvs2, ep2, es2, l2, rfl, rfl, hS2, hdo2, hfor2, rfl⟩ := hB
      obtain ⟨des2, rfl⟩ := hdo2.obj
      have hp0 : ((d, ({ cls := .type "dict", data := .dict des ep } : Obj)) :: l' ++ ((d2, { cls := .type "dict", data := .dict des2 ep2 }) :: l2 ++ rest)).Perm ((d, { cls := .type "dict", data := .dict des ep }) :: (d2, { cls := .type "dict", data := .dict des2 ep2 }) :: (l' ++ (l2 ++ rest))) := by ktr_rel
      replace N := news_perm hp0 N
      replace D := nd_perm hp0 D
      ktr_unf
      refine ⟨?_⟩
      refine for_ruleT ?_
      refine wpAny_Call_items hS2 (hdo2.at (N _ (.tail _ (.head _))).1).dictOf rfl (by decide) (fun Q' q => ?_) ?_
      · refine ld F rfl q
      have q := led_push F N D ({ cls := .type "dict_items", data := .fields #[.ref d2] } : Obj)
      refine items_iter q.1 q.2.1 q.2.2 (.head _) (.tail _ (.tail _ (.head _))) hdo2 fun I h₁ F₁ N₁ D₁ => ?_
      have N₂ := news_sub (l' := (I, IIt d2 0 kvs2.length ep2 .none .none) :: (d, { cls := .type "dict", data := .dict des ep }) :: (d2, { cls := .type "dict", data := .dict des2 ep2 }) :: (l' ++ (l2 ++ rest))) (fun p hp => by
        rcases List.mem_cons.mp hp with rfl | hp
        · exact .head _
        · exact .tail _ (.tail _ hp)) N₁
      have D₂ : Nd ((I, IIt d2 0 kvs2.length ep2 .none .none) :: (d, { cls := .type "dict", data := .dict des ep }) :: (d2, { cls := .type "dict", data := .dict des2 ep2 }) :: (l' ++ (l2 ++ rest))) := nd_sub (.cons₂ _ (.cons _ (.refl _))) D₁
      clear N₁ D₁ q N D F
      have hn2 : (es2.map (·.1)).Nodup := by rw [forL_keys hfor2]; exact hdo2.nodup
      refine for_items rfl hdo2 rfl rfl rfl rfl
        (fun i m l => ∃ kv vv o' kvs' ep' es' lcur lrem, m = (fun y => if y = Str.ofString "val" then vv else if y = Str.ofString "key" then kv else List.lookup y [(Str.ofString "errors1", Value.ref d), (Str.ofString "errors2", Value.ref d2)].reverse) ∧
          DictO PG w o' kvs' ep' ∧ ForL (TreeL w n) es' kvs' lcur ∧ lk es' = accM n (lk es) (es2.take i) ∧ ForL (TreeL w n) (es2.drop i) (kvs2.drop i) lrem ∧ l = (d, o') :: (d2, { cls := .type "dict", data := .dict des2 ep2 }) :: (lcur ++ (lrem ++ rest)))
        (fun i m l h => by obtain ⟨_, _, _, _, _, _, _, _, _, _, _, _, _, rfl⟩ := h; exact .tail _ (.head _)) ?_ _ ?_ _ 0 _ _ _ _ h₁ _ rfl (Nat.zero_le _)
        ⟨none, none, _, kvs, ep, es, l', l2, ?_, hdo, hfor, ?_, hfor2, rfl⟩ F₁ N₂ D₂
      · rintro i k u key m l oi s₃ Q₃ hkv hkey ⟨kv, vv, o', kvs', ep', es', lcur, lrem, rfl, hdo', hfor', hlk', hrem, rfl⟩ F₄ N₄ D₄ k₃
        have F₅ : Fr g L s₃.heap (fun y => if y = Str.ofString "val" then some u else if y = Str.ofString "key" then some key else List.lookup y [(Str.ofString "errors1", Value.ref d), (Str.ofString "errors2", Value.ref d2)].reverse) := by
          have e : (fun y => if y = Str.ofString "val" then some u else if y = Str.ofString "key" then some key else (fun y => if y = Str.ofString "val" then vv else if y = Str.ofString "key" then kv else List.lookup y [(Str.ofString "errors1", Value.ref d), (Str.ofString "errors2", Value.ref d2)].reverse) y) = (fun y => if y = Str.ofString "val" then some u else if y = Str.ofString "key" then some key else List.lookup y [(Str.ofString "errors1", Value.ref d), (Str.ofString "errors2", Value.ref d2)].reverse) := by
            funext y
            by_cases h1 : y = Str.ofString "val"
            · simp [h1]
            · by_cases h2 : y = Str.ofString "key"
              · simp [h1, h2]
              · simp [h1, h2]
          rw [← e]; exact F₄
        clear F₄
        ktr_unf
        refine ⟨din hkey hS N₄ (.tail _ (.head _)) hdo' ?_⟩
        have hil : i < kvs2.length := (List.getElem?_eq_some_iff.mp hkv).1
        have hil2 : i < es2.length := by rw [forL_len hfor2]; exact hil
        obtain ⟨⟨k0, t⟩, het⟩ : ∃ p, es2[i]? = some p := ⟨es2[i], List.getElem?_eq_getElem hil2⟩
        have hd1 : es2.drop i = (k0, t) :: es2.drop (i + 1) := by
          rw [List.drop_eq_getElem_cons hil2]; rw [List.getElem?_eq_getElem hil2] at het; injection het with het; rw [het]
        have hd2 : kvs2.drop i = (k, u) :: kvs2.drop (i + 1) := by
          rw [List.drop_eq_getElem_cons hil]; rw [List.getElem?_eq_getElem hil] at hkv; injection hkv with hkv; rw [hkv]
        rw [hd1, hd2] at hrem
        obtain ⟨lu, lrem', hk0, hTu, hrem', rfl⟩ := forL_uncons hrem
        obtain rfl : k0 = k := hk0
        have hnot : k0 ∉ (es2.take i).map (·.1) := by rw [List.map_take, forL_keys hfor2, ← List.map_take]; exact nodup_take_not_mem hdo2.nodup hkv
        have hlook : lk es2 k0 = some t := lk_get hn2 het
        have btree : bd n cb t := bB _ _ hlook
        have htk : es2.take (i + 1) = es2.take i ++ [(k0, t)] := take_snoc het
        obtain ⟨lv, lrest, hpl, hcase, hput⟩ := openK hfor' hdo'.nodup k0
        have hlk2 : lk es' k0 = lk es k0 := by rw [hlk', accM_here hnot]
        rcases hcase with ⟨hn1, hv1, rfl⟩ | ⟨t1, u1, hn1, hv1, hT1⟩
        · rw [hv1]
          ktr_unf
          have hp4 : ((I, oi) :: (d, o') :: (d2, ({ cls := .type "dict", data := .dict des2 ep2 } : Obj)) :: (lcur ++ (lu ++ lrem' ++ rest))).Perm ((d, o') :: (I, oi) :: (d2, { cls := .type "dict", data := .dict des2 ep2 }) :: (lcur ++ (lu ++ lrem' ++ rest))) := by ktr_rel
          refine ⟨dsetItem hkey F₅ (news_perm hp4 N₄) (nd_perm hp4 D₄) hdo' fun o2 ep2' h2 hdo2' F6 N6 => ?_⟩
          ktr_unf
          obtain ⟨es3, lnew, hfor3, hpn, hlk3⟩ := hput _ _ _ hTu
          have hp5 : ((d, o2) :: (I, oi) :: (d2, ({ cls := .type "dict", data := .dict des2 ep2 } : Obj)) :: (lcur ++ (lu ++ lrem' ++ rest))).Perm ((I, oi) :: (d, o2) :: (d2, { cls := .type "dict", data := .dict des2 ep2 }) :: (lnew ++ (lrem' ++ rest))) := by
            refine (List.Perm.swap _ _ _).trans (List.Perm.cons _ (List.Perm.cons _ (List.Perm.cons _ ?_)))
            refine ((hpl.append_right _).trans ?_).trans (hpn.symm.append_right _)
            ktr_rel
          have D5 : Nd ((d, o2) :: (I, oi) :: (d2, ({ cls := .type "dict", data := .dict des2 ep2 } : Obj)) :: (lcur ++ (lu ++ lrem' ++ rest))) := nd_same (nd_perm hp4 D₄)
          refine k₃ _ _ _ _ F6 (news_perm hp5 N6) (nd_perm hp5 D5) ⟨some key, some u, o2, _, _, es3, lnew, lrem', rfl, hdo2', hfor3, ?_, hrem', rfl⟩
          rw [hlk3, hlk', htk]
          refine (accM_snoc hnot ?_).symm
          rw [← hlk2, hn1]; rfl
        · rw [hv1, Option.isSome_some]
          ktr_unf
          refine ⟨dsub hkey N₄ (.tail _ (.head _)) hdo' hv1 ?_⟩
          ktr_unf
          have sp := ih n (Nat.lt_succ_self n) t1 t u1 u lv lu ca cb hT1 hTu (bA _ _ (by rw [← hlk2]; exact hn1)) btree hc ((I, oi) :: (d, o') :: (d2, { cls := .type "dict", data := .dict des2 ep2 }) :: (lrest ++ (lrem' ++ rest)))
          have hp4 : ((I, oi) :: (d, o') :: (d2, ({ cls := .type "dict", data := .dict des2 ep2 } : Obj)) :: (lcur ++ (lu ++ lrem' ++ rest))).Perm (lv ++ (lu ++ ((I, oi) :: (d, o') :: (d2, { cls := .type "dict", data := .dict des2 ep2 }) :: (lrest ++ (lrem' ++ rest))))) := by
            refine (List.Perm.cons _ (List.Perm.cons _ (List.Perm.cons _ (hpl.append_right _)))).trans ?_
            ktr_rel
          refine ⟨(sp.perm hp4).use B F₅ X N₄ D₄ T (by omega) (by omega) fun r l'' h' tk' F' N' D' P => ?_⟩
          obtain ⟨lr, hTr, rfl⟩ := P
          ktr_unf
          have hp5 : (lr ++ ((I, oi) :: (d, o') :: (d2, ({ cls := .type "dict", data := .dict des2 ep2 } : Obj)) :: (lrest ++ (lrem' ++ rest)))).Perm ((d, o') :: (I, oi) :: (d2, { cls := .type "dict", data := .dict des2 ep2 }) :: (lr ++ lrest ++ (lrem' ++ rest))) := by ktr_rel
          refine ⟨dsetItem hkey F' (news_perm hp5 N') (nd_perm hp5 D') hdo' fun o2 ep2' h2 hdo2' F6 N6 => ?_⟩
          ktr_unf
          obtain ⟨es3, lnew, hfor3, hpn, hlk3⟩ := hput _ _ _ hTr
          have hp6 : ((d, o2) :: (I, oi) :: (d2, ({ cls := .type "dict", data := .dict des2 ep2 } : Obj)) :: (lr ++ lrest ++ (lrem' ++ rest))).Perm ((I, oi) :: (d, o2) :: (d2, { cls := .type "dict", data := .dict des2 ep2 }) :: (lnew ++ (lrem' ++ rest))) := by
            exact (List.Perm.swap _ _ _).trans (List.Perm.cons _ (List.Perm.cons _ (List.Perm.cons _ (hpn.symm.append_right _))))
          have D5 : Nd ((d, o2) :: (I, oi) :: (d2, ({ cls := .type "dict", data := .dict des2 ep2 } : Obj)) :: (lr ++ lrest ++ (lrem' ++ rest))) := nd_same (nd_perm hp5 D')
          refine k₃ _ _ _ _ F6 (news_perm hp6 N6) (nd_perm hp6 D5) ⟨some key, some u, o2, _, _, es3, lnew, lrem', rfl, hdo2', hfor3, ?_, hrem', rfl⟩
          rw [hlk3, hlk', htk]
          refine (accM_snoc hnot ?_).symm
          rw [← hlk2, hn1]; rfl
      · rintro m l h' tk' ⟨kv, vv, o', kvs', ep', es', lcur, lrem, rfl, hdo', hfor', hlk', hrem, rfl⟩ F' N' D'
        dsimp only
        ktr_unf
        rw [← forL_len hfor2, List.take_length] at hlk'
        rw [List.drop_length] at hrem
        obtain ⟨-, rfl⟩ := forL_nil hrem
        refine hQ _ _ _ _ _ F' (news_sub (l' := ((d, o') :: lcur) ++ rest) (fun p hp => ?_) N') (nd_sub (l' := ((d, o') :: lcur) ++ rest) ?_ D') ⟨(d, o') :: lcur, ?_, rfl⟩
        · simp only [List.cons_append, List.mem_cons, List.mem_append, List.nil_append] at hp ⊢
          rcases hp with hp | hp | hp
          · exact .inl hp
          · exact .inr (.inr (.inl hp))
          · exact .inr (.inr (.inr hp))
        · exact .cons₂ _ (.cons _ (.refl _))
        · rw [merge_dd fa fb]
          have e : (fun k => optM (merge n) (lk es k) (lk es2 k)) = lk es' := hlk'.symm
          rw [e]
          exact ⟨d, o', _, ep', es', lcur, rfl, rfl, hS, hdo', hfor', rfl⟩
      · funext y
        by_cases h1 : y = Str.ofString "val"
        · subst h1; rfl
        · by_cases h2 : y = Str.ofString "key"
          · subst h2; rfl
          · simp [h1, h2]
      · funext k
        exact (accM_here (by simp)).symm
end Mine
end

section
open PySem PySem.W PyProof.Rows
set_option linter.constructorNameAsVariable false
set_option maxRecDepth 100000
namespace Mine

local macro_rules | `(tactic| walk_at "pyIter ref") => `(tactic| refine Stop.out ?_)
local macro_rules | `(tactic| walk_at "eval ListComp") => `(tactic| refine Stop.out ?_)
local macro_rules | `(tactic| walk_at "exec For Name Call cons nil") => `(tactic| refine Stop.out ?_)
local macro_rules | `(tactic| walk_at "eval Dict nil nil") => `(tactic| refine Stop.out ?_)
local macro_rules | `(tactic| walk_at "subscriptTail") => `(tactic| refine Stop.out ?_)
local macro_rules | `(tactic| walk_at "call ref") => `(tactic| refine Stop.out ?_)
local macro_rules | `(tactic| walk_at "setItem ref") => `(tactic| refine Stop.out ?_)
local macro_rules | `(tactic| ktr_unf) => `(tactic| ((repeat' (first | walk1 | (dsimp only; walk1))); all_goals (try dsimp only)))
local macro_rules | `(tactic| tb_start) => `(tactic| (
  have hfill : ∀ h, (Mine.hd.heap_39 (World.params ‹World›)).In h → PySem.Challenge.rw_eq0024_01.row.prog = PySem.Challenge.rw_eq0024_01.row.prog := by
    k_fill
    exact fun _ _ => rfl
  clear hfill))
local macro_rules | `(tactic| ktr_rel) => `(tactic| (refine perm_of_sum fun f => ?_; simp only [List.map_append, List.map_cons, List.map_nil, List.sum_append, List.sum_cons, List.sum_nil]; omega))

section
variable {prog : Program} {w : World} {A : Around} {E : Value → Shared → Prop} {s : Shared} {h₀ : Heap} {L a b d : Addr} {m : Str → Option Value} {l : Led}
theorem dict_new {env : Env} {pos : Pos} {Q : Value → Shared → Prop} (F : Fr h₀ L s.heap m) (N : News h₀ L s.heap l) (D : Nd l) (hbig : h₀.NoLimit)
    (k : ∀ d o h', (d == sysModules) = false → DictO prog w o [] 0 → Fr h₀ L h' m → News h₀ L h' ((d, o) :: l) → Nd ((d, o) :: l) → Q (.ref d) { s with heap := h' }) : wpAny (model prog w) A (eval (.Dict [] [] pos) env) Q E s := by
  have q := led_push F N D ({ cls := .type "dict", data := .dict #[] } : Obj)
  exact wpAny_Dict_empty (k _ _ _ (low_of F hbig) ⟨#[], ⟨rfl, rfl, rfl⟩, rfl, fun _ he => by simp at he, Pairs.nil, List.nodup_nil⟩ q.1 q.2.1 q.2.2)
theorem range_iter {r : Addr} {n : Nat} {t u v : Tok} {Q : Value → Shared → Prop} (hn : n < 7) (F : Fr h₀ L s.heap m) (N : News h₀ L s.heap l) (D : Nd l) (hr : IsRange s.heap r 0 (n : Int) 1 t u v)
    (k : ∀ I h', Fr h₀ L h' m → News h₀ L h' ((I, RIt ((0 : Nat) : Int) ((n : Int) - ((0 : Nat) : Int))) :: l) → Nd ((I, RIt ((0 : Nat) : Int) ((n : Int) - ((0 : Nat) : Int))) :: l) → Q (.ref I) { s with heap := h' }) :
    wpAny (model prog w) A (pyIter (.ref r)) Q E s := by
  have h : ∀ j : Nat, j < 7 → Builtin.Range.small 0 (j : Int) 1 = true ∧ Builtin.Range.rangeSize 0 (j : Int) 1 = (j : Int) - ((0 : Nat) : Int) := by decide
  have q := led_push F N D (RIt ((0 : Nat) : Int) ((n : Int) - ((0 : Nat) : Int)))
  refine wpAny_pyIter_range hr (h n hn).1 ?_
  rw [(h n hn).2]
  exact k _ _ q.1 q.2.1 q.2.2
end

section
variable {w : World} {mean : ExcName → Option Value} {mg mb : Str → Option Value} {A : Around} {h₀ : Heap} {L : Addr} {m : Str → Option Value} {s : Shared} {env : Env}
theorem call2 {fn : Str} {pf pos : Pos} {e1 e2 : PySem.Expr} {f : Addr} {Q : Value → Shared → Prop} (F : Fr h₀ L s.heap m) (X : (Mine.hd.heap_39 w.params).In h₀)
    (T : Top Mine.hd.view_39 (looseW Mine.hd.view_39 [Str.ofString "ErrorStore"]) mean mg mb h₀)
    (hf : nsIn (Mine.hd.heap_39 w.params) mainGlobals fn = some (some (.ref f))) (hkp : keepIn (Mine.hd.heap_39 w.params) (.ref f) = true)
    (hg : env.globals = mainGlobals) (hk : env.scope.kind = .function) (hx : env.kindOf fn = some .globalImplicit) (hd : (fn == ("__debug__" : Str)) = false)
    (hst1 : starEach [e1, e2] env = (false, eval e1 env) :: starEach [e2] env) (hst2 : starEach [e2] env = (false, eval e2 env) :: starEach [] env)
    (h : wpAny (model PG w) A (eval e1 env) (fun v s₁ => wpAny (model PG w) A (eval e2 env) (fun v2 s₂ => (Mine.hd.heap_39 w.params).In s₂.heap ∧ wpAny (model PG w) A (call (.ref f) [v, v2]) Q NoE s₂) NoE s₁) NoE s) :
    wpAny (model PG w) A (eval (.Call (.Name fn pf) [e1, e2] [] pos) env) Q NoE s := by
  refine wpAny_Call_NameR (nameG_K F X (topRead_of T) hf ?_ hg hk hx hd)
  refine callWith_K (h₀ := h₀) X hkp ?_ hst1 (by rw [hst2]; rfl)
  exact spliced_more (wpAny_mono h (fun v s₁ h₁ => spliced_more (wpAny_mono h₁ (fun v2 s₂ h₂ => spliced_none h₂) fun _ _ x => x) hst2) fun _ _ x => x) hst1
end

theorem pick4 {x : Int} (h0 : 0 ≤ x) (h4 : x < 4) (t1 t2 t3 t4 : Tok) : ∃ r k, ([.str (Str.ofString "a") t1, .str (Str.ofString "b") t2, .str (Str.ofString "_schema") t3, .int 0 t4] : List Value)[x.toNat]? = some r ∧ K5.is k r = true := by
  have : x = 0 ∨ x = 1 ∨ x = 2 ∨ x = 3 := by omega
  rcases this with rfl | rfl | rfl | rfl
  · exact ⟨_, .a, rfl, by show (K5.str _ == some _) = true; decide⟩
  · exact ⟨_, .b, rfl, by show (K5.str _ == some _) = true; decide⟩
  · exact ⟨_, .S, rfl, by show (K5.str _ == some _) = true; decide⟩
  · exact ⟨_, .i0, rfl, by show (K5.int _ == some _) = true; decide⟩

theorem perm_in4 {α : Type} {a b c d : α} {l1 l2 r : List α} : (a :: b :: c :: d :: (l1 ++ (l2 ++ r))).Perm (l2 ++ (a :: b :: c :: d :: (l1 ++ r))) := by ktr_rel
theorem perm_in3 {α : Type} {a b c : α} {l1 l2 r : List α} : (a :: b :: c :: (l1 ++ (l2 ++ r))).Perm (l2 ++ (a :: b :: c :: (l1 ++ r))) := by ktr_rel

abbrev frameOf {h₀ h : Heap} {L : Addr} {m : Str → Option Value} (_ : Fr h₀ L h m) : Str → Option Value := m

def MsgAt (w : World) (d : Nat) : Prop := ∀ (v : Value) (ls : Led) (td : Tok), StL v ls → ∀ rest, Spec w 67 [v, .int (d : Int) td] (ls ++ rest) (d + 3) (20 * (d + 2)) (fun r l' => ∃ ls' lr a, StL v ls' ∧ TreeL w d a r lr ∧ bd d 2 a ∧ l' = lr ++ (ls' ++ rest))

set_option maxHeartbeats 1500000 in
theorem msg_spec {w : World} : ∀ (n : Nat), MsgAt w n := by
  intro n
  induction n using Nat.strongRecOn with
  | ind n ih =>
  intro v ls td hs rest
  tb_start
  refine Spec.introC (binds := [(Str.ofString "state", v), (Str.ofString "deep", .int (n : Int) td)]) (by k_is) (by k_is) (fun s => BindsTo.of_eq rfl) rfl (by decide +kernel) (fun _ => rfl) (fun _ => rfl) rfl rfl rfl ?_
  intro mean mg mb dp un gd outer A₀ base g L ocell s Q hd hu B F X hoc N D T hQ
  have hp0 : ((L + 1, ocell) :: (ls ++ rest)).Perm (ls ++ ((L + 1, ocell) :: rest)) := by ktr_rel
  ktr_unf
  refine ⟨((next_spec (by decide) hs _).perm hp0).use B F X N D T (by omega) (by omega) fun r l' h' tk' F₁ N₁ D₁ P => ?_⟩
  obtain ⟨x, t, ls1, rfl, hx0, hx4, hs1, rfl⟩ := P
  have hp1 : (ls1 ++ ((L + 1, ocell) :: rest)).Perm ((L + 1, ocell) :: (ls1 ++ rest)) := by ktr_rel
  replace N₁ := news_perm hp1 N₁
  replace D₁ := nd_perm hp1 D₁
  clear F N D
  ktr_unf
  · have hp2 : ((L + 1, ocell) :: (ls1 ++ rest)).Perm (ls1 ++ ((L + 1, ocell) :: rest)) := hp1.symm
    rename News _ _ _ _ => N₂
    rename Fr _ _ _ _ => F₂
    refine ⟨((next_spec (by decide) hs1 _).perm hp2).use B F₂ X N₂ D₁ T (by omega) (by omega) fun r l' h' tk' F₃ N₃ D₃ P => ?_⟩
    obtain ⟨x2, t2, ls2, rfl, hx20, hx23, hs2, rfl⟩ := P
    have hp3 : (ls2 ++ ((L + 1, ocell) :: rest)).Perm ((L + 1, ocell) :: (ls2 ++ rest)) := by ktr_rel
    replace N₃ := news_perm hp3 N₃
    replace D₃ := nd_perm hp3 D₃
    clear F₂ N₂
    refine item_str (fitsSsize_of (N := 9223372036854775808) (by omega) (by omega) (Int.le_refl _)) (by omega) (by show x2 < 3; omega) fun hlen => ?_
    refine hQ _ _ _ _ _ F₃ (news_sub (fun p hp => .tail _ hp) N₃) (nd_tail D₃) ⟨ls2, [], .leaf (.str (Txt.item (Str.ofString "efg") x2)), hs2, ?_, ?_, rfl⟩
    · exact (tl_leaf (x := .str _)).mpr ⟨⟨_, rfl⟩, rfl, Nat.le_antisymm hlen.2 hlen.1⟩
    · exact bd_leaf.mpr (by show 1 ≤ 2; omega)
  · have hp2 : ((L + 1, ocell) :: (ls1 ++ rest)).Perm (ls1 ++ ((L + 1, ocell) :: rest)) := hp1.symm
    rename News _ _ _ _ => N₂
    rename Fr _ _ _ _ => F₂
    refine ⟨?_⟩
    refine lcomp_rule (h₀ := g) (L := L) (cl := [(Str.ofString "state", L + 1)]) (by rfl) (by decide) rfl (by decide) ?_
    ktr_unf
    refine ⟨((next_spec (by decide) hs1 _).perm hp2).use B F₂ X N₂ D₁ T (by omega) (by omega) fun r l' h' tk' F₃ N₃ D₃ P => ?_⟩
    obtain ⟨x2, t2, ls2, rfl, hx20, hx23, hs2, rfl⟩ := P
    have hp3 : (ls2 ++ ((L + 1, ocell) :: rest)).Perm ((L + 1, ocell) :: (ls2 ++ rest)) := by ktr_rel
    replace N₃ := news_perm hp3 N₃
    replace D₃ := nd_perm hp3 D₃
    clear F₂ N₂
    obtain ⟨j2, rfl⟩ := Int.eq_ofNat_of_zero_le hx20
    ktr_unf
    rename News _ _ _ _ => N₄
    rename Fr _ _ _ _ => F₄
    rename IsRange _ _ _ _ _ _ _ _ => hR
    refine ⟨range_iter (by omega) F₄ N₄ D₃ hR fun I h₁ F₅ N₅ D₅ => ?_⟩
    refine ⟨_, _, F₅, N₅, D₅, fun Q' E' s' hk hq => wpAny_pyIter_rangeiter (hk _ (.head _)) hq, fun acc C oC h₂ hns F₆ N₆ D₆ => ?_⟩
    refine lcomp_src (Src.range rfl I j2) rfl rfl rfl (fun i ys r => ∃ xs ls', StrsAre ys xs ∧ StL v ls' ∧ r = (L + 1, ocell) :: (ls' ++ rest)) (fun i ys l h => trivial) (by rw [sizeLine_eq]; omega) _ ?_ _ ?_ _ 0 [] 0 _ _ oC _ h₂ _ rfl (Nat.zero_le _) rfl ⟨[], ls2, .nil, hs2, rfl⟩ rfl hns F₆ N₆ D₆
    · rintro i u ys r Y oC mC s₃ Q₃ hi hv' ⟨xs, ls3, hys, hs3, rfl⟩ hnC hval F₇ N₇ D₇ k₃
      refine Subscript_ (wpAny_Constant_str (call2 F₇ X T (f := 62) (by k_is) (by k_is) rfl rfl rfl (by decide) rfl rfl ?_))
      refine nameCell N₇ (.tail _ (List.mem_append_right _ (.head _))) hoc rfl rfl rfl (wpAny_Constant_int ⟨X.keeps F₇.keep, ?_⟩)
      have hp5 : ((C, oC) :: (Y ++ ((L + 1, ocell) :: (ls3 ++ rest)))).Perm (ls3 ++ ((C, oC) :: (Y ++ ((L + 1, ocell) :: rest)))) := by ktr_rel
      refine ((next_spec (by decide) hs3 _).perm hp5).use B F₇ X N₇ D₇ T (by omega) (by omega) fun r l' h' tk' F₈ N₈ D₈ P => ?_
      obtain ⟨x3, t3, ls4, rfl, hx30, hx33, hs4, rfl⟩ := P
      refine item_str (fitsSsize_of (N := 9223372036854775808) (by omega) (by omega) (Int.le_refl _)) (by omega) (by show x3 < 3; omega) fun hlen => ?_
      have hp6 : (ls4 ++ ((C, oC) :: (Y ++ ((L + 1, ocell) :: rest)))).Perm ((C, oC) :: (Y ++ ((L + 1, ocell) :: (ls4 ++ rest)))) := by ktr_rel
      exact k₃ _ _ _ _ F₈ (news_perm hp6 N₈) (nd_perm hp6 D₈) ⟨_, ls4, strs_app hys (.cons _ _ .nil), hs4, rfl⟩
    · rintro ys r k h' tk' ⟨xs, ls3, hys, hs3, rfl⟩ hl F' N' D'
      dsimp only
      have hlen := strs_len hys
      refine hQ _ _ _ _ _ F' (news_sub (l' := (acc, listOf ys.toArray k) :: (ls3 ++ rest)) (fun p hp => by
        rcases List.mem_cons.mp hp with rfl | hp
        · exact .head _
        · exact .tail _ (.tail _ hp)) N') (nd_sub (.cons₂ _ (.cons _ (.refl _))) D') ⟨ls3, [(acc, listOf ys.toArray k)], .leaf (.lst xs), hs3, ?_, bd_leaf.mpr (by show xs.length ≤ 2; omega), rfl⟩
      exact (tl_leaf (x := .lst xs)).mpr ⟨acc, ys, k, rfl, rfl, hys⟩
  · have hp2 : ((L + 1, ocell) :: (ls1 ++ rest)).Perm (ls1 ++ ((L + 1, ocell) :: rest)) := hp1.symm
    rename News _ _ _ _ => N₂
    rename Fr _ _ _ _ => F₂
    refine ⟨?_⟩
    refine lcomp_rule (h₀ := g) (L := L) (cl := [(Str.ofString "state", L + 1)]) (by rfl) (by decide) rfl (by decide) ?_
    ktr_unf
    refine ⟨((next_spec (by decide) hs1 _).perm hp2).use B F₂ X N₂ D₁ T (by omega) (by omega) fun r l' h' tk' F₃ N₃ D₃ P => ?_⟩
    obtain ⟨x2, t2, ls2, rfl, hx20, hx23, hs2, rfl⟩ := P
    have hp3 : (ls2 ++ ((L + 1, ocell) :: rest)).Perm ((L + 1, ocell) :: (ls2 ++ rest)) := by ktr_rel
    replace N₃ := news_perm hp3 N₃
    replace D₃ := nd_perm hp3 D₃
    clear F₂ N₂
    obtain ⟨j2, rfl⟩ := Int.eq_ofNat_of_zero_le hx20
    ktr_unf
    rename News _ _ _ _ => N₄
    rename Fr _ _ _ _ => F₄
    rename IsRange _ _ _ _ _ _ _ _ => hR
    refine ⟨range_iter (by omega) F₄ N₄ D₃ hR fun I h₁ F₅ N₅ D₅ => ?_⟩
    refine ⟨_, _, F₅, N₅, D₅, fun Q' E' s' hk hq => wpAny_pyIter_rangeiter (hk _ (.head _)) hq, fun acc C oC h₂ hns F₆ N₆ D₆ => ?_⟩
    refine lcomp_src (Src.range rfl I j2) rfl rfl rfl (fun i ys r => ∃ xs ls', StrsAre ys xs ∧ StL v ls' ∧ r = (L + 1, ocell) :: (ls' ++ rest)) (fun i ys l h => trivial) (by rw [sizeLine_eq]; omega) _ ?_ _ ?_ _ 0 [] 0 _ _ oC _ h₂ _ rfl (Nat.zero_le _) rfl ⟨[], ls2, .nil, hs2, rfl⟩ rfl hns F₆ N₆ D₆
    · rintro i u ys r Y oC mC s₃ Q₃ hi hv' ⟨xs, ls3, hys, hs3, rfl⟩ hnC hval F₇ N₇ D₇ k₃
      refine Subscript_ (wpAny_Constant_str (call2 F₇ X T (f := 62) (by k_is) (by k_is) rfl rfl rfl (by decide) rfl rfl ?_))
      refine nameCell N₇ (.tail _ (List.mem_append_right _ (.head _))) hoc rfl rfl rfl (wpAny_Constant_int ⟨X.keeps F₇.keep, ?_⟩)
      have hp5 : ((C, oC) :: (Y ++ ((L + 1, ocell) :: (ls3 ++ rest)))).Perm (ls3 ++ ((C, oC) :: (Y ++ ((L + 1, ocell) :: rest)))) := by ktr_rel
      refine ((next_spec (by decide) hs3 _).perm hp5).use B F₇ X N₇ D₇ T (by omega) (by omega) fun r l' h' tk' F₈ N₈ D₈ P => ?_
      obtain ⟨x3, t3, ls4, rfl, hx30, hx33, hs4, rfl⟩ := P
      refine item_str (fitsSsize_of (N := 9223372036854775808) (by omega) (by omega) (Int.le_refl _)) (by omega) (by show x3 < 3; omega) fun hlen => ?_
      have hp6 : (ls4 ++ ((C, oC) :: (Y ++ ((L + 1, ocell) :: rest)))).Perm ((C, oC) :: (Y ++ ((L + 1, ocell) :: (ls4 ++ rest)))) := by ktr_rel
      exact k₃ _ _ _ _ F₈ (news_perm hp6 N₈) (nd_perm hp6 D₈) ⟨_, ls4, strs_app hys (.cons _ _ .nil), hs4, rfl⟩
    · rintro ys r k h' tk' ⟨xs, ls3, hys, hs3, rfl⟩ hl F' N' D'
      dsimp only
      have hlen := strs_len hys
      refine hQ _ _ _ _ _ F' (news_sub (l' := (acc, listOf ys.toArray k) :: (ls3 ++ rest)) (fun p hp => by
        rcases List.mem_cons.mp hp with rfl | hp
        · exact .head _
        · exact .tail _ (.tail _ hp)) N') (nd_sub (.cons₂ _ (.cons _ (.refl _))) D') ⟨ls3, [(acc, listOf ys.toArray k)], .leaf (.lst xs), hs3, ?_, bd_leaf.mpr (by show xs.length ≤ 2; omega), rfl⟩
      exact (tl_leaf (x := .lst xs)).mpr ⟨acc, ys, k, rfl, rfl, hys⟩
  · rename News _ _ _ _ => N₂
    rename Fr _ _ _ _ => F₂
    rename ((n : Int) ≠ 0) => hn0
    obtain ⟨n', rfl⟩ : ∃ n', n = n' + 1 := ⟨n - 1, by omega⟩
    refine ⟨dict_new F₂ N₂ D₁ T.nolimit fun d o h₁ hS hdo F₃ N₃ D₃ => ?_⟩
    ktr_unf
    refine ⟨?_⟩
    refine for_rule ?_
    ktr_unf
    rename News _ _ _ _ => N₄
    rename Fr _ _ _ _ => F₄
    have hp2 : ((d, o) :: (L + 1, ocell) :: (ls1 ++ rest)).Perm (ls1 ++ ((d, o) :: (L + 1, ocell) :: rest)) := by ktr_rel
    refine ⟨((next_spec (by decide) hs1 _).perm hp2).use B F₄ X N₄ D₃ T (by omega) (by omega) fun r l' h' tk' F₅ N₅ D₅ P => ?_⟩
    obtain ⟨x2, t2, ls2, rfl, hx20, hx23, hs2, rfl⟩ := P
    obtain ⟨j2, rfl⟩ := Int.eq_ofNat_of_zero_le hx20
    have hp3 : (ls2 ++ ((d, o) :: (L + 1, ocell) :: rest)).Perm ((d, o) :: (L + 1, ocell) :: (ls2 ++ rest)) := by ktr_rel
    replace N₅ := news_perm hp3 N₅
    replace D₅ := nd_perm hp3 D₅
    ktr_unf
    rename News _ _ _ _ => N₆
    rename Fr _ _ _ _ => F₆
    rename IsRange _ _ _ _ _ _ _ _ => hR
    refine ⟨range_iter (by omega) F₆ N₆ D₅ hR fun I h₁ F₇ N₇ D₇ => ?_⟩
    refine for_src (Src.range rfl I j2) rfl rfl rfl
      (fun i m l => ∃ nm kk o kvs ep es lc ls', m = (fun y => if y = Str.ofString "name" then nm else if y = Str.ofString "k" then kk else frameOf F₇ y) ∧ DictO PG w o kvs ep ∧ ForL (TreeL w n') es kvs lc ∧ StL v ls' ∧ (∀ k t, lk es k = some t → bd n' 2 t) ∧
        l = (d, o) :: (L + 1, ocell) :: (lc ++ (ls' ++ rest)))
      (fun _ _ _ _ => trivial) ?_ _ ?_ _ 0 _ _ _ h₁ _ rfl (Nat.zero_le _) ⟨none, none, o, [], 0, [], [], ls2, ?_, hdo, .nil, hs2, fun k t h => (by cases h), rfl⟩ rfl F₇ N₇ D₇
    · rintro i u m l oi s₃ Q₃ hi hP ⟨nm, kk, o', kvs, ep, es, lc, ls3, rfl, hdo', hfor, hs3, hbd, rfl⟩ hit F₈ N₈ D₈ k₃ - - -
      dsimp only [frameOf] at F₈
      ktr_unf
      rename News _ _ _ _ => N₉
      rename Fr _ _ _ _ => F₉
      rename _ < _ ∧ _ => l1
      have D₉ := fun o => nd_push (o := o) D₈ (ktn_ltOf (l := (I, oi) :: (d, o') :: (L + 1, ocell) :: (lc ++ (ls3 ++ rest))) l1)
      refine ⟨((next_spec (by decide) hs3 _).perm perm_in4).use B F₉ X N₉ (D₉ _) T (by omega) (by omega) fun r l' h' tk' F₁ N₁ D₁ P => ?_⟩
      obtain ⟨x4, t4, ls4, rfl, hx40, hx44, hs4, rfl⟩ := P
      replace N₁ := news_perm perm_in4.symm N₁
      replace D₁ := nd_perm perm_in4.symm D₁
      dsimp only
      obtain ⟨key, k, hget, hkey⟩ := pick4 hx40 hx44 s₃.toks (s₃.toks + 1) (s₃.toks + 1 + 1) (s₃.toks + 1 + 1 + 1)
      refine item_tupleT (l := [_, _, _, _]) (News.isTup N₁ (.head _)) (by omega) (by omega) (seqIndex_of hx40 (show x4 < 4 by omega)) hget ?_
      replace N₁ := news_sub (fun p hp => .tail _ hp) N₁
      replace D₁ := nd_tail D₁
      clear N₉ F₉ D₉ l1
      ktr_unf
      have hcast : ((n' + 1 : Nat) : Int) - 1 = (n' : Int) := by omega
      rw [hcast]
      rename News _ _ _ _ => N₂
      rename Fr _ _ _ _ => F₂
      refine ⟨((ih n' (Nat.lt_succ_self n') _ _ _ hs4 _).perm perm_in3).use B F₂ X N₂ D₁ T (by omega) (by omega) fun r l' h' tk' F₃ N₃ D₃ P => ?_⟩
      obtain ⟨ls5, lr, a, hs5, hTr, hba, rfl⟩ := P
      obtain ⟨lv, lrest, hpl, hcase, hput⟩ := openK hfor hdo'.nodup k
      obtain ⟨es3, lnew, hfor3, hpn, hlk3⟩ := hput _ _ _ hTr
      have hp6 : (lr ++ (ls5 ++ ((I, oi) :: (d, o') :: (L + 1, ocell) :: (lc ++ rest)))).Perm ((d, o') :: (lv ++ ((I, oi) :: (L + 1, ocell) :: (lr ++ lrest ++ (ls5 ++ rest))))) := by
        refine (List.Perm.append_left _ (List.Perm.append_left _ (List.Perm.cons _ (List.Perm.cons _ (List.Perm.cons _ (hpl.append_right _)))))).trans ?_
        ktr_rel
      replace N₃ := news_perm hp6 N₃
      replace D₃ := nd_perm hp6 D₃
      have N₄ := news_sub (l' := (d, o') :: ((I, oi) :: (L + 1, ocell) :: (lr ++ lrest ++ (ls5 ++ rest)))) (fun p hp => by
        rcases List.mem_cons.mp hp with rfl | hp
        · exact .head _
        · exact .tail _ (List.mem_append_right _ hp)) N₃
      have D₄ : Nd ((d, o') :: ((I, oi) :: (L + 1, ocell) :: (lr ++ lrest ++ (ls5 ++ rest)))) := nd_sub (.cons₂ _ (List.sublist_append_right _ _)) D₃
      ktr_unf
      refine ⟨dsetItem hkey F₃ N₄ D₄ hdo' fun o2 ep2' h2 hdo2' F₅ N₅ => ?_⟩
      ktr_unf
      have hp7 : ((d, o2) :: (I, oi) :: (L + 1, ocell) :: (lr ++ lrest ++ (ls5 ++ rest))).Perm ((I, oi) :: (d, o2) :: (L + 1, ocell) :: (lnew ++ (ls5 ++ rest))) :=
        (List.Perm.swap _ _ _).trans (List.Perm.cons _ (List.Perm.cons _ (List.Perm.cons _ (hpn.symm.append_right _))))
      have D₅ : Nd ((d, o2) :: (I, oi) :: (L + 1, ocell) :: (lr ++ lrest ++ (ls5 ++ rest))) := nd_same D₄
      refine k₃ _ _ _ _ F₅ (news_perm hp7 N₅) (nd_perm hp7 D₅) ⟨some key, some u, o2, _, _, es3, lnew, ls5, ?_, hdo2', hfor3, hs5, ?_, rfl⟩
      · funext y
        dsimp only [frameOf]
        by_cases h1 : y = Str.ofString "name"
        · simp only [h1, if_true]
        · by_cases h2 : y = Str.ofString "k"
          · subst h2; rfl
          · simp only [h1, h2, if_false]
      · intro k' t' hk'
        rw [hlk3] at hk'
        by_cases hkk : k' = k
        · subst hkk; rw [upd_same] at hk'; injection hk' with hk'; subst hk'; exact hba
        · rw [upd_ne _ _ hkk] at hk'; exact hbd _ _ hk'
    · rintro m l h' tk' ⟨nm, kk, o', kvs, ep, es, lc, ls3, rfl, hdo', hfor, hs3, hbd, rfl⟩ F' N' D'
      dsimp only [frameOf] at F' ⊢
      ktr_unf
      refine hQ _ _ _ _ _ F' (news_sub (l' := ((d, o') :: lc) ++ (ls3 ++ rest)) (fun p hp => ?_) N') (nd_sub (l' := ((d, o') :: lc) ++ (ls3 ++ rest)) ?_ D') ⟨ls3, (d, o') :: lc, .dct (lk es), hs3, ⟨d, o', kvs, ep, es, lc, rfl, rfl, hS, hdo', hfor, rfl⟩, hbd, rfl⟩
      · rcases List.mem_cons.mp hp with rfl | hp
        · exact .head _
        · exact .tail _ (.tail _ hp)
      · exact .cons₂ _ (.cons _ (.refl _))
    · funext y
      by_cases h1 : y = Str.ofString "name"
      · subst h1; rfl
      · by_cases h2 : y = Str.ofString "k"
        · subst h2; rfl
        · simp [h1, h2]
end Mine
end

section
open PySem PySem.W PyProof.Rows
set_option linter.constructorNameAsVariable false
set_option maxRecDepth 100000
namespace Mine

/-- the path without the _schema at its end -/
def strip (p : List K5) : List K5 := (p.reverse.dropWhile fun k => decide (k = .S)).reverse
theorem strip_nil : strip [] = [] := rfl
theorem strip_S (p : List K5) : strip (p ++ [.S]) = strip p := by simp [strip, List.reverse_append]
theorem strip_ne (p : List K5) {k : K5} (h : k ≠ .S) : strip (p ++ [k]) = p ++ [k] := by simp [strip, List.reverse_append, h]
theorem strip_len (p : List K5) : (strip p).length ≤ p.length := by
  unfold strip
  rw [List.length_reverse]
  have := (List.dropWhile_sublist (l := p.reverse) (fun k => decide (k = K5.S))).length_le
  simpa using this
theorem strip_normal (p : List K5) : normal (strip p) := by
  unfold normal strip
  rw [List.getLast?_reverse]
  intro h
  have := List.head?_dropWhile_not (fun k => decide (k = K5.S)) p.reverse
  rw [h] at this
  simp at this

def cond (p q : List K5) : Prop := p.length < q.length ∧ q.take p.length = p ∧ normal q
open Classical in
/-- what a tree that stands at the path p tells at the place q -/
noncomputable def ctr (n : Nat) (a : T) (p q : List K5) : List Str := if q = strip p then rdS n a else if cond p q then rdAt n a (q.drop p.length) else []
open Classical in
noncomputable def kq (p q : List K5) : Option K5 := if q = strip p then some .S else if cond p q then (q.drop p.length).head? else none
open Classical in
noncomputable def restq (p q : List K5) : List K5 := if q = strip p then [] else (q.drop p.length).tail

theorem cond_split {p q : List K5} (h : cond p q) : ∃ k r, q = p ++ k :: r ∧ q.drop p.length = k :: r := by
  obtain ⟨h1, h2, _⟩ := h
  cases hd : q.drop p.length with
  | nil =>
    have := congrArg List.length hd
    simp at this; omega
  | cons k r =>
    refine ⟨k, r, ?_, rfl⟩
    rw [← hd]
    have := List.take_append_drop p.length q
    rw [h2] at this
    exact this.symm
theorem cond_of {p r : List K5} {k : K5} (h : normal (p ++ k :: r)) : cond p (p ++ k :: r) := ⟨by simp, by simp, h⟩
theorem normal_one (p : List K5) {k : K5} (h : k ≠ .S) : normal (p ++ [k]) := by simp [normal, h]

theorem ctr_child (n : Nat) (t : T) (p q : List K5) (k : K5) : ctr n t (p ++ [k]) q = if kq p q = some k then rdAt n t (restq p q) else [] := by
  by_cases hs : q = strip p
  · have hlen : q.length ≤ p.length := by rw [hs]; exact strip_len p
    have e1 : kq p q = some .S := by unfold kq; rw [if_pos hs]
    have e2 : restq p q = [] := by unfold restq; rw [if_pos hs]
    rw [e1, e2]
    unfold ctr
    by_cases hk : k = .S
    · subst hk
      have h1 : q = strip (p ++ [.S]) := by rw [strip_S]; exact hs
      rw [if_pos h1, if_pos rfl, rdAt_nil]
    · have h1 : ¬ q = strip (p ++ [k]) := fun e => by rw [strip_ne p hk] at e; rw [e] at hlen; simp at hlen; omega
      have h2 : ¬ cond (p ++ [k]) q := fun e => by have := e.1; simp at this; omega
      have h3 : ¬ some K5.S = some k := fun e => hk (by injection e with e; exact e.symm)
      rw [if_neg h1, if_neg h2, if_neg h3]
  · by_cases hc : cond p q
    · obtain ⟨k', r, hq, hd⟩ := cond_split hc
      have e1 : kq p q = some k' := by unfold kq; rw [if_neg hs, if_pos hc, hd]; rfl
      have e2 : restq p q = r := by unfold restq; rw [if_neg hs, hd]; rfl
      rw [e1, e2]
      unfold ctr
      by_cases hk : k' = k
      · subst hk
        rw [if_pos rfl]
        cases r with
        | nil =>
          have hne : k' ≠ .S := fun e => hc.2.2 (by rw [hq, e]; simp)
          have h1 : q = strip (p ++ [k']) := by rw [strip_ne p hne]; exact hq
          rw [if_pos h1, rdAt_nil]
        | cons k2 r2 =>
          have h1 : ¬ q = strip (p ++ [k']) := fun e => by
            have h1 := strip_len (p ++ [k'])
            rw [← e, hq] at h1
            simp at h1
          rw [if_neg h1]
          have hq2 : q = (p ++ [k']) ++ k2 :: r2 := by rw [hq]; simp
          have hn2 : normal ((p ++ [k']) ++ k2 :: r2) := by rw [← hq2]; exact hc.2.2
          have h2 : cond (p ++ [k']) q := by rw [hq2]; exact cond_of hn2
          rw [if_pos h2, hq2]
          simp
      · have h3 : ¬ some k' = some k := fun e => hk (by injection e)
        have h1 : ¬ q = strip (p ++ [k]) := fun e => by
          by_cases hkS : k = .S
          · subst hkS; rw [strip_S] at e; exact hs e
          · rw [strip_ne p hkS, hq] at e
            simp at e
            exact hk e.1
        have h2 : ¬ cond (p ++ [k]) q := fun e => by
          obtain ⟨k2, r2, hq2, _⟩ := cond_split e
          rw [hq] at hq2
          simp at hq2
          exact hk hq2.1
        rw [if_neg h1, if_neg h2, if_neg h3]
    · have e1 : kq p q = none := by unfold kq; rw [if_neg hs, if_neg hc]
      rw [e1]
      unfold ctr
      have h1 : ¬ q = strip (p ++ [k]) := fun e => by
        by_cases hkS : k = .S
        · subst hkS; rw [strip_S] at e; exact hs e
        · rw [strip_ne p hkS] at e
          subst e
          exact hc (cond_of (normal_one p hkS))
      have h2 : ¬ cond (p ++ [k]) q := fun e => by
        obtain ⟨k2, r2, hq2, _⟩ := cond_split e
        have hn := e.2.2
        rw [List.append_assoc] at hq2
        refine hc ?_
        rw [hq2] at hn ⊢
        exact cond_of hn
      have h3 : ¬ (none : Option K5) = some k := fun e => nomatch e
      rw [if_neg h1, if_neg h2, if_neg h3]

theorem ctr_parent (n : Nat) (f : K5 → Option T) (p q : List K5) : ctr (n + 1) (.dct f) p q = match kq p q with | none => [] | some k => match f k with | none => [] | some t => rdAt n t (restq p q) := by
  by_cases hs : q = strip p
  · have e1 : kq p q = some .S := by unfold kq; rw [if_pos hs]
    have e2 : restq p q = [] := by unfold restq; rw [if_pos hs]
    rw [e1, e2]
    unfold ctr
    rw [if_pos hs]
    dsimp only
    rw [rdS]
    cases f .S with
    | none => rfl
    | some y => exact (rdAt_nil y).symm
  · by_cases hc : cond p q
    · obtain ⟨k', r, hq, hd⟩ := cond_split hc
      have e1 : kq p q = some k' := by unfold kq; rw [if_neg hs, if_pos hc, hd]; rfl
      have e2 : restq p q = r := by unfold restq; rw [if_neg hs, hd]; rfl
      rw [e1, e2]
      unfold ctr
      rw [if_neg hs, if_pos hc, hd]
      rfl
    · have e1 : kq p q = none := by unfold kq; rw [if_neg hs, if_neg hc]
      rw [e1]
      unfold ctr
      rw [if_neg hs, if_neg hc]

theorem flat_pick (g : T → List Str) (k0 : Option K5) : ∀ {es : List (K5 × T)}, (es.map (·.1)).Nodup → es.flatMap (fun e => if k0 = some e.1 then g e.2 else []) = match k0 with | none => [] | some k => match lk es k with | some t => g t | none => [] := by
  intro es
  cases k0 with
  | none => intro _; simp
  | some k =>
    induction es with
    | nil => intro _; rfl
    | cons e r ih =>
      intro hn
      rw [List.map_cons, List.nodup_cons] at hn
      rw [List.flatMap_cons, ih hn.2]
      by_cases hk : e.1 = k
      · subst hk
        have : lk r e.1 = none := lk_none.mpr hn.1
        dsimp only; rw [this]; simp [lk]
      · have h2 : ¬ k = e.1 := fun q => hk q.symm
        simp [lk, hk, h2]

theorem ctr_dct (n : Nat) {es : List (K5 × T)} (hn : (es.map (·.1)).Nodup) (p q : List K5) : es.flatMap (fun e => ctr n e.2 (p ++ [e.1]) q) = ctr (n + 1) (.dct (lk es)) p q := by
  rw [ctr_parent]
  simp only [ctr_child]
  rw [flat_pick (fun t => rdAt n t (restq p q)) (kq p q) hn]
  cases kq p q with
  | none => rfl
  | some k => dsimp only; cases lk es k <;> rfl
theorem ctr_leaf (n : Nat) (x : Leaf) (p q : List K5) : ctr n (.leaf x) p q = if q = strip p then x.items else [] := by
  unfold ctr
  by_cases hs : q = strip p
  · rw [if_pos hs, if_pos hs, rdS_leaf]
  · rw [if_neg hs, if_neg hs]
    by_cases hc : cond p q
    · rw [if_pos hc]
      obtain ⟨k', r, hq, hd⟩ := cond_split hc
      rw [hd, rdAt_leaf]
    · rw [if_neg hc]
theorem ctr_top (n : Nat) (a : T) (q : List K5) : (normal q → ctr n a [] q = rdAt n a q) ∧ (¬ normal q → ctr n a [] q = []) := by
  unfold ctr
  rw [strip_nil]
  cases q with
  | nil => exact ⟨fun _ => by rw [if_pos rfl, rdAt_nil], fun h => absurd (show normal [] by simp [normal]) h⟩
  | cons k r =>
    rw [if_neg (fun e => nomatch e)]
    constructor
    · intro h
      rw [if_pos (show cond [] (k :: r) from ⟨by simp, by simp, h⟩)]
      rfl
    · intro h
      rw [if_neg (fun e => h e.2.2)]
theorem ctr_merge {n : Nat} {a b : T} (ha : dp n a) (hb : dp n b) : ctr n (merge n a b) [] = fun q => ctr n a [] q ++ ctr n b [] q := by
  funext q
  by_cases h : normal q
  · rw [(ctr_top n _ q).1 h, (ctr_top n _ q).1 h, (ctr_top n _ q).1 h]; exact rdAt_merge n a b q ha hb h
  · rw [(ctr_top n _ q).2 h, (ctr_top n _ q).2 h, (ctr_top n _ q).2 h]; rfl
theorem ctr_bd {n c : Nat} {a : T} (h : bd n c a) (p q : List K5) : (ctr n a p q).length ≤ c := by
  unfold ctr
  split
  · exact rdS_bd h
  · split
    · exact rdAt_bd h
    · exact Nat.zero_le _
end Mine
end

section
open PySem PySem.W PyProof.Rows
set_option linter.constructorNameAsVariable false
set_option maxRecDepth 100000
namespace Mine

section
variable {prog : Program} {w : World} {K : Type} [DecidableEq K] {knd : HeapKind prog w K} {A : Around} {E : Value → Shared → Prop} {s : Shared}

theorem setDefault_heap {d a : Addr} {xs : List (K × Addr × Value)} {k : K} {v : Value} {Q : Value → Shared → Prop} (hu : knd.room A) (hkey : knd.is s.heap k a) (hm : s.heap.DictOfH knd d xs)
    (hthere : ∀ p, atKey xs k = some p → Q p.2 { s with toks := s.toks + knd.draws k })
    (hQ : atKey xs k = none → ∀ h', h'.DictOfH knd d (xs ++ [(k, a, v)]) → Heap.SameBut d s.heap h' → Q v { s with heap := h', toks := s.toks + knd.draws k })
    (hsz : xs.length ≤ sizeLine) :
    wpAny (model prog w) A (dictSetDefault d (.ref a) v) Q E s := by
  obtain ⟨o, es, ep, ho, hc, hd, he, his, hn⟩ := hm
  unfold dictSetDefault
  try with_reducible refine wpAny_holding ?_
  refine wpAny_bind (knd.pyHash hu hkey ?_)
  refine wpAny_bind (wpAny_dictFind_heap (s := { s with toks := s.toks + knd.draws k }) hu hkey ho hd he his hn ?_ ?_)
  · intro hno
    have hnot : k ∉ xs.map (·.1) := not_mem_keys_of_get hno
    refine wpAny_bind (wpAny_rule (wpAny_bind (wpAny_updateDictKeys (hz := by have e := size_of_entries he; omega) (s := { s with toks := s.toks + knd.draws k }) ho hd (wpAny_pure (hQ (atKey_none_of_get hno) _ ⟨_, _, ep + 1, Heap.get?_update_self _ ho (Obj.isFreed_of_dict (Obj.data_mapDictKeys hd _)),
      hc.mapDictKeys _, Obj.data_mapDictKeys hd _, ?_, ?_, ?_⟩ (Heap.SameBut.update ..))))))
    · simp [he, entryOfKey]
    · intro x hx
      rcases List.mem_append.mp hx with hx | hx
      · exact knd.keeps (his x hx) ho hd (Heap.SameBut.update ..)
      · simp only [List.mem_singleton] at hx
        subst hx
        exact knd.keeps hkey ho hd (Heap.SameBut.update ..)
    · rw [List.map_append, List.nodup_append]
      refine ⟨hn, by simp, ?_⟩
      intro x hx y hy
      simp only [List.map_cons, List.map_nil, List.mem_singleton] at hy
      subst hy
      exact fun e => hnot (e ▸ hx)
  · intro j p hj
    refine wpAny_bind (wpAny_dictEntries (s := { s with toks := s.toks + knd.draws k }) ho hd ?_)
    rw [entry_at he j, hj]
    exact wpAny_bind (wpAny_rule (wpAny_pure (hthere p (atKey_of_get hn hj))))

theorem meets_setdefault_heap (knd : HeapKind prog w K) {d a : Addr} (hd : (d == sysModules) = false) (dflt : Value) :
    MeetsIn prog w (Builtin.«dict.setdefault» ⟨[.ref d, .ref a, dflt], []⟩) (fun A R s => knd.room A.in1 ∧ ∃ k xs, knd.is s.heap k a ∧ s.heap.DictOfH knd d xs ∧ xs.length ≤ sizeLine ∧
      (∀ p, atKey xs k = some p → R (.ok (.ret p.2)) { s with toks := s.toks + knd.draws k }) ∧
      (atKey xs k = none → ∀ h', h'.DictOfH knd d (xs ++ [(k, a, dflt)]) → Heap.SameBut d s.heap h' → R (.ok (.ret dflt)) { s with heap := h', toks := s.toks + knd.draws k })) :=
  .of_wp fun A R s ⟨hu, k, xs, hkey, hm, hz, h1, h2⟩ => by
    unfold Builtin.«dict.setdefault»
    refine wpAny_bind ?_
    unfold Builtin.Dict.keyAndDefault
    refine wpAny_bind (wpAny_notOrdered_dict hm.typeIs ?_)
    show wpAny _ _ (pure (d, Value.ref a, some dflt)) _ _ s
    refine wpAny_pure ?_
    show wpAny _ _ (if (d == sysModules) = true then _ else (dictSetDefault d (.ref a) dflt >>= _)) _ _ s
    rw [if_neg (by rw [hd]; exact Bool.false_ne_true)]
    exact wpAny_bind (setDefault_heap hu hkey hm (fun p hp => wpAny_pure ⟨p.2, rfl, h1 p hp⟩) (fun hn h' hm' hs' => wpAny_pure ⟨dflt, rfl, h2 hn h' hm' hs'⟩) hz)
end

abbrev tupO (vs : List Value) (n : Nat) : Obj := { cls := .type "tuple", data := .seq vs.toArray n }
abbrev dictO (es : Array DictEntry) (ep : Nat) : Obj := { cls := .type "dict", data := .dict es ep }

inductive RowsL (w : World) : List (List K5 × Addr × Value) → List (List K5 × List Str) → Led → Prop
  | nil : RowsL w [] [] []
  | cons {ks : List K5} {ka va : Addr} {ws vs : List Value} {ys : List Str} {n n' : Nat} {xs : List (List K5 × Addr × Value)} {rs : List (List K5 × List Str)} {l : Led} :
      ItemsAre (mixK PG w) ks ws → StrsAre vs ys → RowsL w xs rs l → RowsL w ((ks, ka, .ref va) :: xs) ((ks, ys) :: rs) ((ka, tupO ws n) :: (va, listOf vs.toArray n') :: l)

def tf (rs : List (List K5 × List Str)) (q : List K5) : List Str := ((rs.find? fun r => decide (r.1 = q)).map (·.2)).getD []

/-- the table of the law: keys are paths -/
def TableL (w : World) (f : List K5 → List Str) (v : Value) (l : Led) : Prop := ∃ d es ep xs rs l', v = .ref d ∧ l = (d, dictO es ep) :: l' ∧ (d == sysModules) = false ∧ es.toList = xs.map (entryOfKey (tupleKind (mixK PG w))) ∧ (xs.map (·.1)).Nodup ∧
  (∀ x ∈ xs, x.1.length ≤ 5) ∧ (∀ r ∈ rs, r.2 ≠ []) ∧ RowsL w xs rs l' ∧ f = tf rs

theorem rows_keys {w : World} {xs : List (List K5 × Addr × Value)} {rs : List (List K5 × List Str)} {l : Led} (h : RowsL w xs rs l) : xs.map (·.1) = rs.map (·.1) := by
  induction h with
  | nil => rfl
  | cons _ _ _ ih => simp [ih]
theorem rows_is {w : World} {xs : List (List K5 × Addr × Value)} {rs : List (List K5 × List Str)} {l : Led} (h : RowsL w xs rs l) {hp : Heap} (hm : ∀ p ∈ l, hp.get? p.1 = some p.2) : ∀ x ∈ xs, (tupleKind (mixK PG w)).is hp x.1 x.2.1 := by
  induction h with
  | nil => intro x hx; cases hx
  | cons hi hs hr ih =>
    intro x hx
    rcases List.mem_cons.mp hx with rfl | hx
    · exact ⟨_, _, _, hm _ (.head _), rfl, rfl, by simpa using hi⟩
    · exact ih (fun p hp => hm p (.tail _ (.tail _ hp))) x hx
theorem rows_snoc {w : World} {xs : List (List K5 × Addr × Value)} {rs : List (List K5 × List Str)} {l : Led} (h : RowsL w xs rs l) {ks : List K5} {ka va : Addr} {ws vs : List Value} {ys : List Str} {n n' : Nat} (hi : ItemsAre (mixK PG w) ks ws) (hs : StrsAre vs ys) :
    RowsL w (xs ++ [(ks, ka, .ref va)]) (rs ++ [(ks, ys)]) (l ++ [(ka, tupO ws n), (va, listOf vs.toArray n')]) := by
  induction h with
  | nil => exact .cons hi hs .nil
  | cons h1 h2 _ ih => exact .cons h1 h2 ih

theorem tf_snoc {rs : List (List K5 × List Str)} {k : List K5} {ys : List Str} (h : k ∉ rs.map (·.1)) : tf (rs ++ [(k, ys)]) = fun q => if q = k then ys else tf rs q := by
  funext q
  unfold tf
  rw [List.find?_append]
  by_cases hq : q = k
  · subst hq
    have : (rs.find? fun r => decide (r.1 = q)) = none := by
      rw [List.find?_eq_none]
      intro x hx
      simp only [decide_eq_true_eq]
      exact fun e => h (List.mem_map.mpr ⟨x, hx, e⟩)
    rw [this]; simp
  · have : ¬ k = q := fun e => hq e.symm
    simp [hq, this]
theorem tf_none {rs : List (List K5 × List Str)} {k : List K5} (h : k ∉ rs.map (·.1)) : tf rs k = [] := by
  unfold tf
  have : (rs.find? fun r => decide (r.1 = k)) = none := by
    rw [List.find?_eq_none]
    intro x hx
    simp only [decide_eq_true_eq]
    exact fun e => h (List.mem_map.mpr ⟨x, hx, e⟩)
  rw [this]; rfl

/-- open a row of the table -/
theorem rows_open {w : World} {xs : List (List K5 × Addr × Value)} {rs : List (List K5 × List Str)} {l : Led} (h : RowsL w xs rs l) : ∀ {k : List K5} {p : Addr × Value}, (xs.map (·.1)).Nodup → atKey xs k = some p →
    ∃ ka va vs n l1, p = (ka, .ref va) ∧ StrsAre vs (tf rs k) ∧ l.Perm ((va, listOf vs.toArray n) :: l1) ∧
      ∀ vs' ys' n', StrsAre vs' ys' → ∃ rs' l2, RowsL w xs rs' l2 ∧ l2.Perm ((va, listOf vs'.toArray n') :: l1) ∧ (∀ r ∈ rs', r ∈ rs ∨ r.2 = ys') ∧ tf rs' = fun q => if q = k then ys' else tf rs q := by
  induction h with
  | nil => intro k p _ h; cases h
  | @cons ks ka va ws vs ys n n' xs rs l hi hs hr ih =>
    intro k p hn hk
    rw [List.map_cons, List.nodup_cons] at hn
    by_cases e : ks = k
    · subst e
      have hp : (ka, Value.ref va) = p := by simpa [atKey] using hk
      subst hp
      refine ⟨ka, va, vs, n', (ka, tupO ws n) :: l, rfl, by simpa [tf] using hs, List.Perm.swap _ _ _, fun vs' ys' n2 h' => ⟨(ks, ys') :: rs, _, .cons hi h' hr, List.Perm.swap _ _ _, ?_, ?_⟩⟩
      · intro r hr'
        rcases List.mem_cons.mp hr' with rfl | h
        · exact .inr rfl
        · exact .inl (.tail _ h)
      funext q
      by_cases hq : q = ks
      · subst hq; simp [tf]
      · have : ¬ ks = q := fun e => hq e.symm
        simp [tf, hq, this]
    · have hk' : atKey xs k = some p := by simpa [atKey, e] using hk
      obtain ⟨ka2, va2, vs2, n2, l1, rfl, h1, h2, h3⟩ := ih hn.2 hk'
      refine ⟨ka2, va2, vs2, n2, (ka, tupO ws n) :: (va, listOf vs.toArray n') :: l1, rfl, by simpa [tf, e] using h1, ?_, fun vs' ys' n3 h' => ?_⟩
      · exact (List.Perm.cons _ (List.Perm.cons _ h2)).trans (perm3 _ _ _ _)
      · obtain ⟨rs', l2, g1, g2, g4, g3⟩ := h3 vs' ys' n3 h'
        refine ⟨(ks, ys) :: rs', _, .cons hi hs g1, (List.Perm.cons _ (List.Perm.cons _ g2)).trans (perm3 _ _ _ _), ?_, ?_⟩
        · intro r hr'
          rcases List.mem_cons.mp hr' with rfl | h
          · exact .inl (.head _)
          · rcases g4 r h with h | h
            · exact .inl (.tail _ h)
            · exact .inr h
        funext q
        by_cases hq : ks = q
        · subst hq
          simp [tf, e]
        · have := congrFun g3 q
          simp only [tf] at this
          simp [tf, hq, this]

/-! how many paths there are -/
def enc5 : List K5 → Nat
  | [] => 0
  | .a :: p => 1 + 6 * enc5 p
  | .b :: p => 2 + 6 * enc5 p
  | .S :: p => 3 + 6 * enc5 p
  | .i0 :: p => 4 + 6 * enc5 p
  | .i1 :: p => 5 + 6 * enc5 p
theorem enc5_inj : ∀ {p q : List K5}, enc5 p = enc5 q → p = q
  | [], [], _ => rfl
  | [], k :: q, h => by cases k <;> simp [enc5] at h <;> omega
  | k :: p, [], h => by cases k <;> simp [enc5] at h <;> omega
  | k :: p, k' :: q, h => by
    have h1 : enc5 p = enc5 q := by cases k <;> cases k' <;> simp [enc5] at h <;> omega
    have h2 : k = k' := by cases k <;> cases k' <;> simp [enc5] at h <;> first | rfl | omega
    rw [h2, enc5_inj h1]
theorem enc5_lt : ∀ (p : List K5), enc5 p < 6 ^ p.length
  | [] => by simp [enc5]
  | k :: p => by
    have := enc5_lt p
    rw [List.length_cons, Nat.pow_succ]
    cases k <;> simp [enc5] <;> omega
theorem pigeon : ∀ (n : Nat) (l : List Nat), l.Nodup → (∀ x ∈ l, x < n) → l.length ≤ n := by
  intro n
  induction n with
  | zero =>
    intro l _ h
    cases l with
    | nil => simp
    | cons x r => exact absurd (h x (.head _)) (Nat.not_lt_zero _)
  | succ n ih =>
    intro l hn h
    have h1 := ih (l.erase n) (hn.erase n) fun x hx => by
      have h2 := h x (List.mem_of_mem_erase hx)
      have h3 : x ≠ n := fun e => by
        subst e
        exact absurd hx (by rw [hn.mem_erase_iff]; simp)
      omega
    have h2 : l.length ≤ (l.erase n).length + 1 := by
      rw [List.length_erase]
      split <;> omega
    omega
theorem paths_len {l : List (List K5)} (hn : l.Nodup) (h : ∀ p ∈ l, p.length ≤ 5) : l.length ≤ 7776 := by
  have h1 : (l.map enc5).Nodup := by
    rw [List.nodup_iff_pairwise_ne, List.pairwise_map]
    exact (List.nodup_iff_pairwise_ne.mp hn).imp fun hne e => hne (enc5_inj e)
  have := pigeon 7776 _ h1 fun x hx => by
    obtain ⟨p, hp, rfl⟩ := List.mem_map.mp hx
    have h2 := enc5_lt p
    have h3 : 6 ^ p.length ≤ 6 ^ 5 := Nat.pow_le_pow_right (by omega) (h p hp)
    omega
  simpa using this
end Mine
end

section
open PySem PySem.W PyProof.Rows
set_option linter.constructorNameAsVariable false
set_option maxRecDepth 100000
namespace Mine

local macro_rules | `(tactic| ktr_rel) => `(tactic| (refine perm_of_sum fun f => ?_; simp only [List.map_append, List.map_cons, List.map_nil, List.sum_append, List.sum_cons, List.sum_nil]; omega))

def Held (w : World) (pa : Addr) (tup : Obj) (q : List K5) (f : List K5 → List Str) (tv : Value) (l R : Led) : Prop :=
  (∃ lt, TableL w f tv lt ∧ l = (pa, tup) :: (lt ++ R)) ∨ (∃ lt, TableL w f tv lt ∧ (pa, tup) ∈ lt ∧ f q ≠ [] ∧ l = lt ++ R)

theorem exactDict_obj {o : Obj} {es : Array DictEntry} {ep : Nat} (h : o.ExactDict) (hd : o.data = .dict es ep) : o = dictO es ep := by
  obtain ⟨h1, h2, h3⟩ := h
  obtain ⟨c, d, dt, sl⟩ := o
  simp only at h1 h2 h3 hd
  subst h1; subst h2; subst h3; subst hd
  rfl

theorem put_if (f : List K5 → List Str) (q : List K5) (ys : List Str) (g : List K5 → List Str) (h : g = f) : (fun p => if p = q then ys else g p) = fun p => if p = q then ys else f p := by rw [h]

section
variable {w : World} {A : Around} {E : Value → Shared → Prop} {s : Shared} {h₀ : Heap} {L : Addr} {m : Str → Option Value} {l R : Led}

theorem setdef {pa e : Addr} {q : List K5} {pw : List Value} {pn : Nat} {f : List K5 → List Str} {tv : Value} {Q : Value → Shared → Prop} (hi : ItemsAre (mixK PG w) q pw) (hq : q.length ≤ 5) (hu : A.units + 1 < cLine)
    (F : Fr h₀ L s.heap m) (N : News h₀ L s.heap ((e, listOf #[] 0) :: l)) (D : Nd ((e, listOf #[] 0) :: l)) (H : Held w pa (tupO pw pn) q f tv l R)
    (k : ∀ va vs n l1 h' tk', StrsAre vs (f q) → Fr h₀ L h' m → News h₀ L h' ((va, listOf vs.toArray n) :: l1) → Nd ((va, listOf vs.toArray n) :: l1) →
      (∀ vs' ys' n', StrsAre vs' ys' → ys' ≠ [] → ∃ l2, Held w pa (tupO pw pn) q (fun p => if p = q then ys' else f p) tv l2 R ∧ l2.Perm ((va, listOf vs'.toArray n') :: l1)) → Q (.ref va) { s with heap := h', toks := tk' }) :
    ∃ d, tv = .ref d ∧ wpAny (model PG w) A (call (.builtin "dict.setdefault") [.ref d, .ref pa, .ref e]) Q E s := by
  rcases H with ⟨lt, ⟨d, es, ep, xs, rs, l', rfl, rfl, hS, he, hn, hlen, hne0, hr, rfl⟩, rfl⟩ | ⟨lt, ⟨d, es, ep, xs, rs, l', rfl, rfl, hS, he, hn, hlen, hne0, hr, rfl⟩, hin, hne, rfl⟩
  · refine ⟨d, rfl, ?_⟩
    have hd1 : s.heap.get? d = some (dictO es ep) := (N _ (.tail _ (.tail _ (.head _)))).1
    have hm : s.heap.DictOfH (tupleKind (mixK PG w)) d xs := ⟨_, es, ep, hd1, ⟨rfl, rfl, rfl⟩, rfl, he, rows_is hr (fun p hp => (N _ (.tail _ (.tail _ (.tail _ (List.mem_append_left _ hp))))).1), hn⟩
    have hk : (tupleKind (mixK PG w)).is s.heap q pa := ⟨_, _, _, (N _ (.tail _ (.head _))).1, rfl, rfl, by simpa using hi⟩
    have hz : xs.length ≤ sizeLine := by
      have := paths_len hn (fun p hp => by obtain ⟨x, hx, rfl⟩ := List.mem_map.mp hp; exact hlen x hx)
      rw [List.length_map] at this
      rw [sizeLine_eq]; omega
    refine call_meetsIn PySem.F.slot_dict_setdefault hm.typeIs PySem.F.entry_dict_setdefault (PySem.F.args_dict_setdefault_3 _ _ _) (meets_setdefault_heap (tupleKind (mixK PG w)) hS (.ref e)) ⟨tupleKind_room_in1 hu, q, xs, hk, hm, hz, ?_, ?_⟩
    · intro p hp
      obtain ⟨ka, va, vs, n, l1, rfl, hvs, hpl, hput⟩ := rows_open hr hn hp
      have hp1 : ((e, listOf #[] 0) :: (pa, tupO pw pn) :: (((d, dictO es ep) :: l') ++ R)).Perm ((e, listOf #[] 0) :: (va, listOf vs.toArray n) :: ((pa, tupO pw pn) :: (d, dictO es ep) :: (l1 ++ R))) := by
        refine List.Perm.cons _ ((List.Perm.cons _ (List.Perm.cons _ (hpl.append_right R))).trans ?_)
        ktr_rel
      refine k va vs n _ s.heap _ hvs F (news_sub (fun p hp => .tail _ hp) (news_perm hp1 N)) (nd_tail (nd_perm hp1 D)) fun vs' ys' n' h' hy => ?_
      obtain ⟨rs', l2, g1, g2, g4, g3⟩ := hput vs' ys' n' h'
      have g5 : ∀ r ∈ rs', r.2 ≠ [] := fun r hr' => by
        rcases g4 r hr' with h | h
        · exact hne0 r h
        · rw [h]; exact hy
      refine ⟨_, .inl ⟨(d, dictO es ep) :: l2, ⟨d, es, ep, xs, rs', l2, rfl, rfl, hS, he, hn, hlen, g5, g1, g3.symm⟩, rfl⟩, ?_⟩
      refine (List.Perm.cons _ (List.Perm.cons _ (g2.append_right R))).trans ?_
      ktr_rel
    · intro hno h' hm' hs'
      obtain ⟨o', es', ep', ho', hc', hd', he', his', hn'⟩ := hm'
      obtain rfl := exactDict_obj hc' hd'
      have hp1 : ((e, listOf #[] 0) :: (pa, tupO pw pn) :: (((d, dictO es ep) :: l') ++ R)).Perm ((d, dictO es ep) :: (e, listOf #[] 0) :: (pa, tupO pw pn) :: (l' ++ R)) := by ktr_rel
      have u := led_upd F (news_perm hp1 N) (nd_perm hp1 D) hs' ho'
      have hp2 : ((d, dictO es' ep') :: (e, listOf #[] 0) :: (pa, tupO pw pn) :: (l' ++ R)).Perm ((e, listOf (([] : List Value).toArray) 0) :: (pa, tupO pw pn) :: (d, dictO es' ep') :: (l' ++ R)) := by ktr_rel
      have D2 : Nd ((d, dictO es' ep') :: (e, listOf #[] 0) :: (pa, tupO pw pn) :: (l' ++ R)) := nd_same (nd_perm hp1 D)
      have hkn : q ∉ rs.map (·.1) := by
        rw [← rows_keys hr]
        intro hq'
        obtain ⟨x, hx, hxq⟩ := List.mem_map.mp hq'
        obtain ⟨j, hj⟩ := List.mem_iff_getElem?.mp hx
        have := atKey_of_get hn (k := x.1) (p := x.2) hj
        rw [hxq, hno] at this
        exact nomatch this
      refine k e [] 0 _ h' _ (by rw [tf_none hkn]; exact .nil) u.1 (news_perm hp2 u.2) (nd_perm hp2 D2) fun vs' ys' n' h' hy => ?_
      refine ⟨_, .inr ⟨(d, dictO es' ep') :: (l' ++ [(pa, tupO pw pn), (e, listOf vs'.toArray n')]), ⟨d, es', ep', _, _, _, rfl, rfl, hS, he', hn', ?_, ?_, rows_snoc hr hi h', (tf_snoc hkn).symm⟩, ?_, ?_, rfl⟩, ?_⟩
      · intro x hx
        rcases List.mem_append.mp hx with hx | hx
        · exact hlen x hx
        · simp only [List.mem_singleton] at hx; subst hx; exact hq
      · intro x hx
        rcases List.mem_append.mp hx with hx | hx
        · exact hne0 x hx
        · simp only [List.mem_singleton] at hx; subst hx; exact hy
      · exact .tail _ (List.mem_append_right _ (.head _))
      · show (if q = q then ys' else tf rs q) ≠ []; rw [if_pos rfl]; exact hy
      · ktr_rel
  · refine ⟨d, rfl, ?_⟩
    have hd1 : s.heap.get? d = some (dictO es ep) := (N _ (.tail _ (.head _))).1
    have hm : s.heap.DictOfH (tupleKind (mixK PG w)) d xs := ⟨_, es, ep, hd1, ⟨rfl, rfl, rfl⟩, rfl, he, rows_is hr (fun p hp => (N _ (.tail _ (.tail _ (List.mem_append_left _ hp)))).1), hn⟩
    have hk : (tupleKind (mixK PG w)).is s.heap q pa := ⟨_, _, _, (N _ (.tail _ (List.mem_append_left _ hin))).1, rfl, rfl, by simpa using hi⟩
    have hz : xs.length ≤ sizeLine := by
      have := paths_len hn (fun p hp => by obtain ⟨x, hx, rfl⟩ := List.mem_map.mp hp; exact hlen x hx)
      rw [List.length_map] at this
      rw [sizeLine_eq]; omega
    refine call_meetsIn PySem.F.slot_dict_setdefault hm.typeIs PySem.F.entry_dict_setdefault (PySem.F.args_dict_setdefault_3 _ _ _) (meets_setdefault_heap (tupleKind (mixK PG w)) hS (.ref e)) ⟨tupleKind_room_in1 hu, q, xs, hk, hm, hz, ?_, ?_⟩
    · intro p hp
      obtain ⟨ka, va, vs, n, l1, rfl, hvs, hpl, hput⟩ := rows_open hr hn hp
      have hin1 : (pa, tupO pw pn) ∈ l1 := by
        rcases List.mem_cons.mp hin with h | h
        · injection h with _ h; exact absurd (congrArg Obj.cls h) (by simp)
        · rcases List.mem_cons.mp (hpl.mem_iff.mp h) with h | h
          · injection h with _ h; exact absurd (congrArg Obj.cls h) (by simp [W.listOf])
          · exact h
      have hp1 : ((e, listOf #[] 0) :: (((d, dictO es ep) :: l') ++ R)).Perm ((e, listOf #[] 0) :: (va, listOf vs.toArray n) :: ((d, dictO es ep) :: (l1 ++ R))) := by
        refine List.Perm.cons _ ((List.Perm.cons _ (hpl.append_right R)).trans ?_)
        ktr_rel
      refine k va vs n _ s.heap _ hvs F (news_sub (fun p hp => .tail _ hp) (news_perm hp1 N)) (nd_tail (nd_perm hp1 D)) fun vs' ys' n' h' hy => ?_
      obtain ⟨rs', l2, g1, g2, g4, g3⟩ := hput vs' ys' n' h'
      have g5 : ∀ r ∈ rs', r.2 ≠ [] := fun r hr' => by
        rcases g4 r hr' with h | h
        · exact hne0 r h
        · rw [h]; exact hy
      refine ⟨_, .inr ⟨(d, dictO es ep) :: l2, ⟨d, es, ep, xs, rs', l2, rfl, rfl, hS, he, hn, hlen, g5, g1, g3.symm⟩, .tail _ (g2.mem_iff.mpr (.tail _ hin1)), by show (if q = q then ys' else tf rs q) ≠ []; rw [if_pos rfl]; exact hy, rfl⟩, ?_⟩
      refine (List.Perm.cons _ (g2.append_right R)).trans ?_
      ktr_rel
    · intro hno
      exfalso
      refine hne (tf_none ?_)
      rw [← rows_keys hr]
      intro hq'
      obtain ⟨x, hx, hxq⟩ := List.mem_map.mp hq'
      obtain ⟨j, hj⟩ := List.mem_iff_getElem?.mp hx
      have := atKey_of_get hn (k := x.1) (p := x.2) hj
      rw [hxq, hno] at this
      exact nomatch this
end

section
variable {prog : Program} {w : World} {A : Around} {E : Value → Shared → Prop} {s : Shared} {h₀ : Heap} {L : Addr} {m : Str → Option Value} {l : Led}
open PySem.Builtin

theorem adjust_upto (n : Nat) (hn : 1 ≤ n) : Builtin.Slice.sliceAdjust none (some (-1)) 1 (n : Int) = (0, (n : Int) - 1) := by
  unfold Builtin.Slice.sliceAdjust
  have h1 : ¬ ((1 : Int) < 0) := by omega
  have h2 : ((-1 : Int) < 0) := by omega
  simp only [h1, h2, if_false, if_true]
  congr 1
  omega
theorem places_upto (n : Nat) (hn : 1 ≤ n) : Builtin.Slice.slicePlaces 0 ((n : Int) - 1) 1 = n - 1 := by
  unfold Builtin.Slice.slicePlaces
  have h1 : (1 : Int) > 0 := by omega
  simp only [h1, if_true, Int.ediv_one]
  split <;> omega
theorem sliceApplied_upto {sl : Addr} {n : Nat} {u : Tok} {Q : Int × Int × Nat → Shared → Prop} (hs : s.heap.IsSliceOf sl .none (.int (-1) u) .none) (hn : 1 ≤ n) (h : Q (0, 1, n - 1) s) :
    wpAny (model prog w) A (Builtin.Slice.sliceApplied (.ref sl) (pure (n : Int))) Q E s := by
  obtain ⟨os, hos, hcs, hds⟩ := id hs
  unfold Builtin.Slice.sliceApplied Builtin.Slice.sliceFields
  refine wpAny_bind (wpAny_bind (wpAny_field hos hds (x := .none) rfl (wpAny_bind (wpAny_field hos hds (x := .int (-1) u) rfl (wpAny_bind (wpAny_field hos hds (x := .none) rfl (wpAny_pure ?_)))))))
  refine wpAny_bind (slicePart_none ?_)
  show wpAny _ _ (if ((1 : Int) == 0) = true then _ else _) _ _ s
  rw [if_neg (by decide)]
  refine wpAny_bind (slicePart_none (wpAny_bind (slicePart_int (wpAny_bind (wpAny_pure ?_)))))
  show wpAny _ _ (match Builtin.Slice.sliceAdjust none (some (-1)) 1 (n : Int) with | (lo, hi) => pure (lo, (1 : Int), Builtin.Slice.slicePlaces lo hi 1)) _ _ s
  rw [adjust_upto n hn]
  show wpAny _ _ (pure ((0 : Int), (1 : Int), Builtin.Slice.slicePlaces 0 ((n : Int) - 1) 1)) _ _ s
  rw [places_upto n hn]
  exact wpAny_pure h
theorem pick_upto (xs : List Value) : ((List.range (xs.toArray.size - 1)).filterMap fun (k : Nat) => xs.toArray[((0 : Int) + (k : Int) * 1).toNat]?).toArray = xs.dropLast.toArray := by
  have e : (fun (k : Nat) => xs.toArray[((0 : Int) + (k : Int) * 1).toNat]?) = fun k => xs[k]? := by
    funext k
    have : ((0 : Int) + (k : Int) * 1).toNat = k := by omega
    rw [this]; simp
  rw [e]
  congr 1
  have h : ∀ (n : Nat) (xs : List Value), n ≤ xs.length → (List.range n).filterMap (fun k => xs[k]?) = xs.take n := by
    intro n
    induction n with
    | zero => intro xs _; simp
    | succ n ih =>
      intro xs hn
      rw [List.range_succ, List.filterMap_append, ih xs (by omega), List.take_add_one]
      simp
      cases h : xs[n]? <;> simp [h]
  rw [h _ _ (by simp), List.dropLast_eq_take]
  simp

theorem getItem_tuple_upto {t sl : Addr} {items : List Value} {u : Tok} {Q : Value → Shared → Prop} (ht : IsTup s.heap t items.toArray) (hs : s.heap.IsSliceOf sl .none (.int (-1) u) .none) (ha : 1 ≤ items.length) (hsz : items.length ≤ 1000)
    (h : Q (.ref s.heap.objs.size) { s with heap := s.heap.push { cls := .type "tuple", data := .seq items.dropLast.toArray } }) :
    wpAny (model prog w) A (getItem (.ref t) (.ref sl)) Q E s := by
  have hdrop : sizeOk (.seq items.dropLast.toArray) := by
    show items.dropLast.toArray.size ≤ sizeLine
    rw [List.size_toArray, List.length_dropLast, sizeLine_eq]
    omega
  obtain ⟨os, hos, hcs, hds⟩ := id hs
  have hTs : s.TypeIs (.ref sl) "slice" := ⟨os, hos, hcs⟩
  unfold getItem
  try with_reducible refine wpAny_holding ?_
  first | refine wpAny_bind (wpAny_pure ?_) | skip
  refine wpAny_bind (wpAny_sequenceKey ht.typeIs (by decide) ?_)
  refine wpAny_bind (wpAny_callSpecial?_slot (name := Str.ofString "__getitem__") ht.typeIs slot_tuple_getitem
    (wpAny_call_entry slot_tuple_getitem ht.typeIs entry_tuple_getitem ?_ (args_tuple_getitem _ _)))
  show wpAny _ _ (Builtin.Tuple.tupleItemsOf (.ref t) >>= _) _ _ s
  refine wpAny_bind (tupleItemsOf_ ht ?_)
  refine wpAny_bind (wpAny_typeOf hTs ?_)
  rw [if_pos (by decide)]
  refine wpAny_bind (sliceApplied_upto hs (n := items.toArray.size) (by simpa using ha) ?_)
  have hno : ¬ (((0 : Int) == 0 && (1 : Int) == 1 && (items.toArray.size - 1) == items.toArray.size) = true) := by
    have : ((items.toArray.size - 1) == items.toArray.size) = false := by rw [beq_eq_false_iff_ne, List.size_toArray]; omega
    rw [this]; simp
  show wpAny _ _ (if ((0 : Int) == 0 && (1 : Int) == 1 && (items.toArray.size - 1) == items.toArray.size) = true then _ else _) _ _ s
  rw [if_neg hno, pick_upto items]
  first
    | exact wpAny_bind (m := Builtin.Tuple.tupleExact _) (wpAny_newObj_type (wpAny_pure ⟨_, rfl, wpAny_pure h⟩) hdrop)
    | exact wpAny_bind (m := Builtin.Tuple.tupleExact _) (wpAny_newObj_type (wpAny_bind (wpAny_pure (wpAny_pure ⟨_, rfl, wpAny_pure h⟩))) hdrop)
    | exact wpAny_bind (wpAny_bind (m := Builtin.Tuple.tupleExact _) (wpAny_newObj_type (wpAny_pure (wpAny_pure ⟨_, rfl, wpAny_pure h⟩)) hdrop))
    | exact wpAny_bind (wpAny_bind (m := Builtin.Tuple.tupleExact _) (wpAny_newObj_type (wpAny_pure ⟨_, rfl, wpAny_pure h⟩) hdrop))
end
end Mine
end

section
open PySem PySem.W PyProof.Rows
set_option linter.constructorNameAsVariable false
set_option maxRecDepth 100000
namespace Mine

local macro_rules | `(tactic| walk_at "pyIter ref") => `(tactic| refine Stop.out ?_)
local macro_rules | `(tactic| walk_at "exec For Name Name") => `(tactic| refine Stop.out ?_)
local macro_rules | `(tactic| walk_at "exec For Name IfExp") => `(tactic| refine Stop.out ?_)
local macro_rules | `(tactic| walk_at "exec While") => `(tactic| refine Stop.out ?_)
local macro_rules | `(tactic| walk_at "subscriptTail") => `(tactic| refine Stop.out ?_)
local macro_rules | `(tactic| walk_at "binaryOp Add ref ref") => `(tactic| refine Stop.out ?_)
local macro_rules | `(tactic| walk_at "call ref") => `(tactic| refine Stop.out ?_)
local macro_rules | `(tactic| walk_at "getMethod ref") => `(tactic| refine Stop.out ?_)
local macro_rules | `(tactic| walk_at "call builtin:dict.setdefault") => `(tactic| refine Stop.out ?_)
local macro_rules | `(tactic| walk_at "call builtin:list.append") => `(tactic| refine Stop.out ?_)
local macro_rules | `(tactic| ktr_unf) => `(tactic| ((repeat' (first | walk1 | (dsimp only; walk1))); all_goals (try dsimp only)))
local macro_rules | `(tactic| tb_start) => `(tactic| (
  have hfill : ∀ h, (Mine.hd.heap_39 (World.params ‹World›)).In h → PySem.Challenge.rw_eq0024_01.row.prog = PySem.Challenge.rw_eq0024_01.row.prog := by
    k_fill
    exact fun _ _ => rfl
  clear hfill))
local macro_rules | `(tactic| ktr_rel) => `(tactic| (refine perm_of_sum fun f => ?_; simp only [List.map_append, List.map_cons, List.map_nil, List.sum_append, List.sum_cons, List.sum_nil]; omega))

section
variable {prog : Program} {w : World} {A : Around} {E : Value → Shared → Prop} {s : Shared} {h₀ : Heap} {L : Addr} {m : Str → Option Value} {news : Led}
theorem slice_tuple_upto {value slice : PySem.Expr} {t : Addr} {items : List Value} {u : Tok} {Q : Value → Shared → Prop}
    (F : Fr h₀ L s.heap m) (N : News h₀ L s.heap news) (ht : IsTup s.heap t items.toArray) (h1 : 1 ≤ items.length) (ha : items.length ≤ 1000)
    (h : ∀ D h', Fr h₀ L h' m → News h₀ L h' ((D, tupO items.dropLast 0) :: news) → (∀ p ∈ news, p.1 < D) → Q (.ref D) { s with heap := h' })
    (hs : subscripted slice false (.ref t) (.ref s.heap.objs.size) = operate [.ref s.heap.objs.size, .ref t] (getItem (.ref t) (.ref s.heap.objs.size)) := by with_unfolding_all rfl)
    (hg : ∀ r, letTemporaryGo value (.ref t) r = pure () := by intro _; with_unfolding_all rfl) :
    wpAny (model prog w) A (subscriptTail value slice (.ref t) (.ref s.heap.objs.size)) Q E { s with heap := s.heap.push { cls := .type "slice", data := .fields #[.none, .int (-1) u, .none] } } := by
  have ht' : IsTup (s.heap.push { cls := .type "slice", data := .fields #[.none, .int (-1) u, .none] }) t items.toArray := ht.keeps fun _ _ e => Heap.get?_push_of_some _ e
  refine subscriptTail_ops (s := { s with heap := s.heap.push { cls := .type "slice", data := .fields #[.none, .int (-1) u, .none] } }) ht'.typeIs slot_tuple_getitem.lookup
    (getItem_tuple_upto ht' (Heap.IsSliceOf.new ..) h1 ha ?_) hs hg
  have N1 := News.push (F.push { cls := .type "slice", data := .fields #[.none, .int (-1) u, .none] }) (N.grown fun _ _ e => Heap.get?_push_of_some _ e) { cls := .type "tuple", data := .seq items.dropLast.toArray }
  rw [Heap.size_push] at N1
  show Q (.ref (s.heap.push _).objs.size) _
  rw [Heap.size_push]
  exact h _ _ ((F.push _).push _) N1 fun p hp => Nat.lt_succ_of_lt (Heap.lt_size (N p hp).1)
end

theorem items_last {prog : Program} {w : World} {q : List K5} {ws : List Value} (h : ItemsAre (mixK prog w) q ws) (hne : ws ≠ []) : ∃ q' k v, q = q' ++ [k] ∧ ws = ws.dropLast ++ [v] ∧ K5.is k v = true ∧ ItemsAre (mixK prog w) q' ws.dropLast := by
  induction h with
  | nil => exact absurd rfl hne
  | @cons k v ks vs h1 h2 ih =>
    cases h2 with
    | nil => exact ⟨[], k, v, rfl, rfl, h1, .nil⟩
    | @cons k2 v2 ks2 vs2 h3 h4 =>
      obtain ⟨q', k', v', e1, e2, e3, e4⟩ := ih (by simp)
      refine ⟨k :: q', k', v', by rw [e1]; rfl, ?_, e3, ?_⟩
      · rw [List.dropLast_cons_cons, List.cons_append, ← e2]
      · rw [List.dropLast_cons_cons]; exact .cons h1 e4

theorem mth_dset {prog : Program} {w : World} {A : Around} {E : Value → Shared → Prop} {s : Shared} {h₀ : Heap} {L d : Addr} {l : Led} {pl : Sem Bool} {es : Array DictEntry} {ep : Nat} {Q : Value × List Value → Shared → Prop} (N : News h₀ L s.heap l) (hm : (d, dictO es ep) ∈ l)
    (h : Q (.builtin "dict.setdefault", [.ref d]) s) : wpAny (model prog w) A (getMethod (.ref d) "setdefault" pl) Q E s :=
  getMethod_builtin ⟨_, (N _ hm).1, rfl⟩ PySem.F.plainAttrs_dict PySem.F.slot_dict_setdefault PySem.F.type_dict_setdefault (fun _ e => by cases e; exact ⟨_, (N _ hm).1, rfl⟩) h
theorem held_dict {w : World} {pa d : Addr} {tup : Obj} {q : List K5} {f : List K5 → List Str} {l R : Led} (H : Held w pa tup q f (.ref d) l R) : ∃ es ep, (d, dictO es ep) ∈ l := by
  rcases H with ⟨lt, ⟨d', es, ep, xs, rs, l', e, rfl, _⟩, rfl⟩ | ⟨lt, ⟨d', es, ep, xs, rs, l', e, rfl, _⟩, _, _, rfl⟩
  · injection e with e; subst e; exact ⟨es, ep, .tail _ (.head _)⟩
  · injection e with e; subst e; exact ⟨es, ep, .head _⟩
theorem held_end {w : World} {pa : Addr} {tup : Obj} {q : List K5} {f : List K5 → List Str} {tv : Value} {l R : Led} (H : Held w pa tup q f tv l R) : ∃ lt, TableL w f tv lt ∧ (∀ p ∈ lt ++ R, p ∈ l) ∧ (lt ++ R).Sublist l := by
  rcases H with ⟨lt, h, rfl⟩ | ⟨lt, h, _, _, rfl⟩
  · exact ⟨lt, h, fun p hp => .tail _ hp, .cons _ (.refl _)⟩
  · exact ⟨lt, h, fun p hp => hp, .refl _⟩

theorem held_grow {w : World} {pa : Addr} {tup : Obj} {q : List K5} {f : List K5 → List Str} {tv : Value} {l R : Led} (H : Held w pa tup q f tv l R) (X : Led) : ∃ l', Held w pa tup q f tv l' (X ++ R) ∧ (X ++ l).Perm l' := by
  rcases H with ⟨lt, h, rfl⟩ | ⟨lt, h, h1, h2, rfl⟩
  · exact ⟨_, .inl ⟨lt, h, rfl⟩, by ktr_rel⟩
  · exact ⟨_, .inr ⟨lt, h, h1, h2, rfl⟩, by ktr_rel⟩
theorem held_shrink {w : World} {pa : Addr} {tup : Obj} {q : List K5} {f : List K5 → List Str} {tv : Value} {l R X : Led} (H : Held w pa tup q f tv l (X ++ R)) : ∃ l', Held w pa tup q f tv l' R ∧ l.Perm (X ++ l') := by
  rcases H with ⟨lt, h, rfl⟩ | ⟨lt, h, h1, h2, rfl⟩
  · exact ⟨_, .inl ⟨lt, h, rfl⟩, by ktr_rel⟩
  · exact ⟨_, .inr ⟨lt, h, h1, h2, rfl⟩, by ktr_rel⟩
theorem setdef' {w : World} {A : Around} {E : Value → Shared → Prop} {s : Shared} {h₀ : Heap} {L : Addr} {m : Str → Option Value} {l R X : Led} {pa e d : Addr} {q : List K5} {pw : List Value} {pn : Nat} {f : List K5 → List Str} {Q : Value → Shared → Prop} (hi : ItemsAre (mixK PG w) q pw) (hq : q.length ≤ 5) (hu : A.units + 1 < cLine)
    (F : Fr h₀ L s.heap m) (N : News h₀ L s.heap ((e, listOf #[] 0) :: (X ++ l))) (D : Nd ((e, listOf #[] 0) :: (X ++ l))) (H : Held w pa (tupO pw pn) q f (.ref d) l R)
    (k : ∀ va vs n l1 h' tk', StrsAre vs (f q) → Fr h₀ L h' m → News h₀ L h' ((va, listOf vs.toArray n) :: l1) → Nd ((va, listOf vs.toArray n) :: l1) →
      (∀ vs' ys' n', StrsAre vs' ys' → ys' ≠ [] → ∃ l2, Held w pa (tupO pw pn) q (fun p => if p = q then ys' else f p) (.ref d) l2 R ∧ ((va, listOf vs'.toArray n') :: l1).Perm (X ++ l2)) → Q (.ref va) { s with heap := h', toks := tk' }) :
    wpAny (model PG w) A (call (.builtin "dict.setdefault") [.ref d, .ref pa, .ref e]) Q E s := by
  obtain ⟨l', H', hp⟩ := held_grow H X
  obtain ⟨d', e', h⟩ := setdef (E := E) (Q := Q) hi hq hu F (news_perm (List.Perm.cons _ hp) N) (nd_perm (List.Perm.cons _ hp) D) H' (fun va vs n l1 h' tk' hv F1 N1 D1 hput => k va vs n l1 h' tk' hv F1 N1 D1 fun vs' ys' n' h1 h2 => by
    obtain ⟨l2, H2, hp2⟩ := hput vs' ys' n' h1 h2
    obtain ⟨l3, H3, hp3⟩ := held_shrink H2
    exact ⟨l3, H3, hp2.symm.trans hp3⟩)
  injection e' with e'
  subst e'
  exact h

theorem last_index {n : Nat} (h : 1 ≤ n) : seqIndex? (-1) n = some (n - 1) := by
  unfold seqIndex?
  have h1 : ((-1 : Int) < 0) := by omega
  simp only [h1, if_true]
  rw [if_pos (by simp; omega)]
  congr 1
  omega
theorem last_get {ws : List Value} {v : Value} (h : ws = ws.dropLast ++ [v]) : ws[ws.length - 1]? = some v := by
  rw [h]; simp

/-- a path of the law's reading -/
def PathL (w : World) (p : List K5) (v : Value) (l : Led) : Prop := ∃ a ws n, v = .ref a ∧ l = [(a, tupO ws n)] ∧ ItemsAre (mixK PG w) p ws

def ReadAt (w : World) (n : Nat) : Prop := ∀ (a : Mine.T) (v pv tv : Value) (l lp lt : Led) (c : Nat) (p : List K5) (f : List K5 → List Str), TreeL w n a v l → bd n c a → c ≤ 1000 → PathL w p pv lp → p.length + n ≤ 5 → TableL w f tv lt →
  (∀ q, (f q).length + (ctr n a p q).length ≤ 1000) → ∀ rest, Spec w 79 [v, pv, tv] (lp ++ (l ++ (lt ++ rest))) (n + 2) (20 * (n + 1)) (fun r l' => r = .none ∧ ∃ lt', TableL w (fun q => f q ++ ctr n a p q) tv lt' ∧ l' = l ++ (lt' ++ rest))

set_option maxHeartbeats 1500000 in
theorem read_str {w : World} {x : Str} {t : Tok} (hx : x.cps.size = 1) {pv tv : Value} {lp lt : Led} {p : List K5} {f : List K5 → List Str} (hp : PathL w p pv lp) (hpl : p.length ≤ 5) (ht : TableL w f tv lt) (hc : ∀ q, (f q).length ≤ 1000) (rest : Led) :
    Spec w 79 [.str x t, pv, tv] (lp ++ (lt ++ rest)) 2 20 (fun r l' => r = .none ∧ ∃ lt', TableL w (fun q => f q ++ if q = strip p then [x] else []) tv lt' ∧ l' = lt' ++ rest) := by
  tb_start
  obtain ⟨pa, pw, pn, rfl, rfl, hi⟩ := hp
  refine Spec.intro (binds := [(Str.ofString "errors", .str x t), (Str.ofString "path", .ref pa), (Str.ofString "found", tv)]) (by k_is) (by k_is) (fun s => BindsTo.of_eq rfl) (locs rfl) rfl rfl rfl (by decide) ?_
  intro mean mg mb dp un gd outer A₀ base g L s Q hd hu B F X N D T hQ
  ktr_unf
  rename News _ _ _ _ => N₁
  rename Fr _ _ _ _ => F₁
  refine ⟨?_⟩
  refine wpAny_mono (Q := fun fl s' => Stop (∃ h' tk' pa' pw' pn', fl = Flow.next ∧ s' = { s with heap := h', toks := tk' } ∧
      Fr g L h' (fun y => if y = Str.ofString "place" then some (Value.ref pa') else List.lookup y [(Str.ofString "errors", Value.str x t), (Str.ofString "path", Value.ref pa), (Str.ofString "found", tv)].reverse) ∧
      News g L h' ((pa', tupO pw' pn') :: (lt ++ rest)) ∧ Nd ((pa', tupO pw' pn') :: (lt ++ rest)) ∧ ItemsAre (mixK PG w) (strip p) pw'))
    (While_inv2 (fun k m l => ∃ pa' pw' pn' q, m = (fun y => if y = Str.ofString "place" then some (Value.ref pa') else List.lookup y [(Str.ofString "errors", Value.str x t), (Str.ofString "path", Value.ref pa), (Str.ofString "found", tv)].reverse) ∧
      ItemsAre (mixK PG w) q pw' ∧ strip q = strip p ∧ q.length = k ∧ q.length ≤ 5 ∧ l = (pa', tupO pw' pn') :: (lt ++ rest) ∧ Nd l) (n₀ := p.length) F₁ N₁ ⟨pa, pw, pn, p, rfl, hi, rfl, rfl, hpl, rfl, D⟩ ?_) (fun fl s' h => ?_) (fun _ _ e => e)
  · rintro k m l h₁ tk₁ F₂ N₂ ⟨pa', pw', pn', q, rfl, hiq, hsq, rfl, hql, rfl, D₂⟩
    clear F₁ N₁
    have hlen := hiq.length
    ktr_unf
    refine truthy_tuple (News.isTup N₂ (.head _)) (by simp; omega) ?_
    by_cases hne : pw' = []
    · subst hne
      ktr_unf
      have hq0 : q = [] := List.length_eq_zero_iff.mp hlen
      subst hq0
      exact ⟨⟨_, _, _, _, _, rfl, rfl, F₂, N₂, D₂, by rw [← hsq]; exact hiq⟩⟩
    · have hb : (!(pw'.toArray.isEmpty)) = true := by cases pw' with | nil => exact absurd rfl hne | cons => rfl
      rw [hb]
      obtain ⟨q', kl, vl, rfl, hpw, hkl, hiq'⟩ := items_last hiq hne
      have hlen' : 1 ≤ pw'.length := by cases pw' with | nil => exact absurd rfl hne | cons => simp
      ktr_unf
      refine ⟨item_tupleT (l := pw') (j := pw'.length - 1) (x := vl) (News.isTup N₂ (.head _)) (by omega) (by omega) (last_index hlen') (last_get hpw) ?_⟩
      rcases K5.is_shape hkl with ⟨y, ty, rfl, hy⟩ | ⟨iy, ty, rfl, hy⟩
      · ktr_unf
        · rename (_ = true) => hys
          have hkS : kl = .S := K5.str_inj hy (show (K5.S).str = some y by rw [eq_of_beq hys]; rfl)
          subst hkS
          refine ⟨slice_tuple_upto (s := { s with heap := h₁, toks := _ }) F₂ N₂ (News.isTup N₂ (.head _)) hlen' (by omega) fun D' h' F₃ N₃ hlt => ?_⟩
          replace N₃ := news_sub (l' := (D', tupO pw'.dropLast 0) :: (lt ++ rest)) (fun p hp => by
            rcases List.mem_cons.mp hp with rfl | hp
            · exact .head _
            · exact .tail _ (.tail _ hp)) N₃
          have D₃ : Nd ((D', tupO pw'.dropLast 0) :: (lt ++ rest)) := nd_push (nd_tail D₂) fun p hp => hlt p (.tail _ hp)
          ktr_unf
          rename Fr _ _ _ _ => F₄
          rename News _ _ _ _ => N₄
          refine ⟨_, _, _, _, q'.length, rfl, F₄, N₄, by simp, D', pw'.dropLast, 0, q', ?_, hiq', by rw [← hsq, strip_S], rfl, by simp at hql; omega, rfl, D₃⟩
          funext z
          by_cases hz : z = Str.ofString "place" <;> simp [hz]
        · rename (_ = false) => hys
          have hkS : kl ≠ .S := fun e => by
            subst e
            have : y = Str.ofString "_schema" := by injection hy.symm
            rw [this] at hys; exact absurd hys (by decide)
          rw [strip_ne _ hkS] at hsq
          exact ⟨⟨_, _, _, _, _, rfl, rfl, F₂, N₂, D₂, by rw [← hsq]; exact hiq⟩⟩
      · ktr_unf
        have hkS : kl ≠ .S := fun e => by subst e; exact nomatch hy
        rw [strip_ne _ hkS] at hsq
        exact ⟨⟨_, _, _, _, _, rfl, rfl, F₂, N₂, D₂, by rw [← hsq]; exact hiq⟩⟩
  · obtain ⟨⟨h', tk', pa', pw', pn', rfl, rfl, F₂, N₂, D₂, hiq⟩⟩ := h
    clear F₁ N₁
    dsimp only
    ktr_unf
    obtain ⟨d, rfl⟩ : ∃ d, tv = .ref d := by obtain ⟨d, _, _, _, _, _, e, _⟩ := ht; exact ⟨d, e⟩
    refine ⟨?_⟩
    refine for_rule ?_
    ktr_unf
    rename News _ _ _ _ => N₃
    rename Fr _ _ _ _ => F₃
    rename _ < _ ∧ _ => l1
    have D₃ := fun o => nd_push (o := o) D₂ (ktn_ltOf (l := (pa', tupO pw' pn') :: (lt ++ rest)) l1)
    refine ⟨list_iter (vs := [Value.str x t]) F₃ N₃ (D₃ _) (.head _) fun I o h₁ hit F₄ N₄ D₄ => ?_⟩
    refine for_src (Src.list rfl I _ [Value.str x t] 0) rfl rfl rfl
      (fun i m l => ∃ oo lh, m = (fun y => if y = Str.ofString "one" then oo else frameOf F₃ y) ∧ Held w pa' (tupO pw' pn') (strip p) (fun q => f q ++ if q = strip p then [x].take i else []) (.ref d) lh rest ∧ l = (_, listOf [Value.str x t].toArray 0) :: lh)
      (fun i m l h => by obtain ⟨_, _, _, _, rfl⟩ := h; exact .head _) ?_ _ ?_ _ 0 _ _ _ h₁ _ rfl (Nat.zero_le _) ⟨none, _, ?_, .inl ⟨lt, ?_, rfl⟩, rfl⟩ hit F₄ N₄ D₄
    · rintro i v m l oi s₃ Q₃ hi' hv ⟨oo, lh, rfl, hH, rfl⟩ hit' F₅ N₅ D₅ k₃ - - -
      obtain ⟨y, ty, rfl, hy⟩ := strs_get (xs := [x]) (.cons x t .nil) hv
      dsimp only [frameOf] at F₅
      obtain ⟨es, ep, hdm⟩ := held_dict hH
      ktr_unf
      refine ⟨mth_dset N₅ (.tail _ (.tail _ hdm)) ?_⟩
      ktr_unf
      rename News _ _ _ _ => N₆
      rename Fr _ _ _ _ => F₆
      rename _ < _ ∧ _ => l2
      have D₆ := fun o => nd_push (o := o) D₅ (ktn_ltOf (l := (I, oi) :: (_, listOf [Value.str x t].toArray 0) :: lh) l2)
      refine ⟨setdef' (X := [(I, oi), (_, listOf [Value.str x t].toArray 0)]) hiq (Nat.le_trans (strip_len p) hpl) (by show un + 1 < _; omega) F₆ N₆ (D₆ _) hH fun va vs n l1 h' tk' hvs F₇ N₇ D₇ hput => ?_⟩
      ktr_unf
      refine ⟨mth_lapp N₇ (.head _) ?_⟩
      ktr_unf
      have hb1 := hc (strip p)
      have hb2 := strs_len hvs
      have hb3 : (f (strip p) ++ if strip p = strip p then [x].take i else []).length ≤ 1001 := by
        rw [if_pos rfl, List.length_append]
        have : ([x].take i).length ≤ 1 := by simp; omega
        omega
      refine ⟨lappend F₇ N₇ D₇ (by omega) fun n' h₃ F₈ N₈ => ?_⟩
      ktr_unf
      obtain ⟨l3, H3, hp3⟩ := hput _ _ (n') (strs_app hvs (.cons y ty .nil)) (by simp)
      refine k₃ _ _ _ _ F₈ (news_perm hp3 N₈) (nd_perm hp3 (nd_same D₇)) ⟨some (.str y ty), l3, ?_, ?_, rfl⟩
      · funext z
        by_cases hz : z = Str.ofString "one" <;> simp [hz, frameOf]
      · have e : (fun q => f q ++ if q = strip p then [x].take (i + 1) else []) = fun q => if q = strip p then (f (strip p) ++ if strip p = strip p then [x].take i else []) ++ [y] else f q ++ if q = strip p then [x].take i else [] := by
          funext q
          by_cases hq : q = strip p
          · subst hq
            simp only [if_true]
            rw [take_snoc hy, List.append_assoc]
          · simp only [if_neg hq]
        rw [e]; exact H3
    · rintro m l h' tk' ⟨oo, lh, rfl, hH, rfl⟩ F' N' D'
      dsimp only
      ktr_unf
      obtain ⟨lt', hT, hm1, hs1⟩ := held_end hH
      exact hQ _ _ _ _ _ F' (news_sub (fun p hp => .tail _ (hm1 p hp)) N') (nd_sub (.cons _ hs1) D') ⟨rfl, lt', hT, rfl⟩
    · funext y
      by_cases h1 : y = Str.ofString "one"
      · subst h1; rfl
      · simp [h1]
    · have : (fun q => f q ++ if q = strip p then [x].take 0 else []) = f := by funext q; simp
      rw [this]; exact ht
set_option maxHeartbeats 1500000 in
theorem read_list {w : World} {a : Addr} {vs0 : List Value} {n0 : Nat} {xs0 : List Str} (hv0 : StrsAre vs0 xs0) (hx0 : xs0.length ≤ 1000) {pv tv : Value} {lp lt : Led} {p : List K5} {f : List K5 → List Str} (hp : PathL w p pv lp) (hpl : p.length ≤ 5) (ht : TableL w f tv lt) (hc : ∀ q, (f q).length ≤ 1000) (rest : Led) :
    Spec w 79 [.ref a, pv, tv] (lp ++ ((a, listOf vs0.toArray n0) :: (lt ++ rest))) 2 20 (fun r l' => r = .none ∧ ∃ lt', TableL w (fun q => f q ++ if q = strip p then xs0 else []) tv lt' ∧ l' = (a, listOf vs0.toArray n0) :: (lt' ++ rest)) := by
  tb_start
  obtain ⟨pa, pw, pn, rfl, rfl, hi⟩ := hp
  refine Spec.intro (binds := [(Str.ofString "errors", .ref a), (Str.ofString "path", .ref pa), (Str.ofString "found", tv)]) (by k_is) (by k_is) (fun s => BindsTo.of_eq rfl) (locs rfl) rfl rfl rfl (by decide) ?_
  intro mean mg mb dp un gd outer A₀ base g L s Q hd hu B F X N D T hQ
  simp only [List.cons_append, List.nil_append] at N D
  ktr_unf
  rename News _ _ _ _ => N₁
  rename Fr _ _ _ _ => F₁
  refine ⟨?_⟩
  refine wpAny_mono (Q := fun fl s' => Stop (∃ h' tk' pa' pw' pn', fl = Flow.next ∧ s' = { s with heap := h', toks := tk' } ∧
      Fr g L h' (fun y => if y = Str.ofString "place" then some (Value.ref pa') else List.lookup y [(Str.ofString "errors", Value.ref a), (Str.ofString "path", Value.ref pa), (Str.ofString "found", tv)].reverse) ∧
      News g L h' ((pa', tupO pw' pn') :: (a, listOf vs0.toArray n0) :: (lt ++ rest)) ∧ Nd ((pa', tupO pw' pn') :: (a, listOf vs0.toArray n0) :: (lt ++ rest)) ∧ ItemsAre (mixK PG w) (strip p) pw'))
    (While_inv2 (fun k m l => ∃ pa' pw' pn' q, m = (fun y => if y = Str.ofString "place" then some (Value.ref pa') else List.lookup y [(Str.ofString "errors", Value.ref a), (Str.ofString "path", Value.ref pa), (Str.ofString "found", tv)].reverse) ∧
      ItemsAre (mixK PG w) q pw' ∧ strip q = strip p ∧ q.length = k ∧ q.length ≤ 5 ∧ l = (pa', tupO pw' pn') :: (a, listOf vs0.toArray n0) :: (lt ++ rest) ∧ Nd l) (n₀ := p.length) F₁ N₁ ⟨pa, pw, pn, p, rfl, hi, rfl, rfl, hpl, rfl, D⟩ ?_) (fun fl s' h => ?_) (fun _ _ e => e)
  · rintro k m l h₁ tk₁ F₂ N₂ ⟨pa', pw', pn', q, rfl, hiq, hsq, rfl, hql, rfl, D₂⟩
    clear F₁ N₁
    have hlen := hiq.length
    ktr_unf
    refine truthy_tuple (News.isTup N₂ (.head _)) (by simp; omega) ?_
    by_cases hne : pw' = []
    · subst hne
      ktr_unf
      have hq0 : q = [] := List.length_eq_zero_iff.mp hlen
      subst hq0
      exact ⟨⟨_, _, _, _, _, rfl, rfl, F₂, N₂, D₂, by rw [← hsq]; exact hiq⟩⟩
    · have hb : (!(pw'.toArray.isEmpty)) = true := by cases pw' with | nil => exact absurd rfl hne | cons => rfl
      rw [hb]
      obtain ⟨q', kl, vl, rfl, hpw, hkl, hiq'⟩ := items_last hiq hne
      have hlen' : 1 ≤ pw'.length := by cases pw' with | nil => exact absurd rfl hne | cons => simp
      ktr_unf
      refine ⟨item_tupleT (l := pw') (j := pw'.length - 1) (x := vl) (News.isTup N₂ (.head _)) (by omega) (by omega) (last_index hlen') (last_get hpw) ?_⟩
      rcases K5.is_shape hkl with ⟨y, ty, rfl, hy⟩ | ⟨iy, ty, rfl, hy⟩
      · ktr_unf
        · rename (_ = true) => hys
          have hkS : kl = .S := K5.str_inj hy (show (K5.S).str = some y by rw [eq_of_beq hys]; rfl)
          subst hkS
          refine ⟨slice_tuple_upto (s := { s with heap := h₁, toks := _ }) F₂ N₂ (News.isTup N₂ (.head _)) hlen' (by omega) fun D' h' F₃ N₃ hlt => ?_⟩
          replace N₃ := news_sub (l' := (D', tupO pw'.dropLast 0) :: (a, listOf vs0.toArray n0) :: (lt ++ rest)) (fun p hp => by
            rcases List.mem_cons.mp hp with rfl | hp
            · exact .head _
            · exact .tail _ (.tail _ hp)) N₃
          have D₃ : Nd ((D', tupO pw'.dropLast 0) :: (a, listOf vs0.toArray n0) :: (lt ++ rest)) := nd_push (nd_tail D₂) fun p hp => hlt p (.tail _ hp)
          ktr_unf
          rename Fr _ _ _ _ => F₄
          rename News _ _ _ _ => N₄
          refine ⟨_, _, _, _, q'.length, rfl, F₄, N₄, by simp, D', pw'.dropLast, 0, q', ?_, hiq', by rw [← hsq, strip_S], rfl, by simp at hql; omega, rfl, D₃⟩
          funext z
          by_cases hz : z = Str.ofString "place" <;> simp [hz]
        · rename (_ = false) => hys
          have hkS : kl ≠ .S := fun e => by
            subst e
            have : y = Str.ofString "_schema" := by injection hy.symm
            rw [this] at hys; exact absurd hys (by decide)
          rw [strip_ne _ hkS] at hsq
          exact ⟨⟨_, _, _, _, _, rfl, rfl, F₂, N₂, D₂, by rw [← hsq]; exact hiq⟩⟩
      · ktr_unf
        have hkS : kl ≠ .S := fun e => by subst e; exact nomatch hy
        rw [strip_ne _ hkS] at hsq
        exact ⟨⟨_, _, _, _, _, rfl, rfl, F₂, N₂, D₂, by rw [← hsq]; exact hiq⟩⟩
  · obtain ⟨⟨h', tk', pa', pw', pn', rfl, rfl, F₂, N₂, D₂, hiq⟩⟩ := h
    clear F₁ N₁
    dsimp only
    ktr_unf
    obtain ⟨d, rfl⟩ : ∃ d, tv = .ref d := by obtain ⟨d, _, _, _, _, _, e, _⟩ := ht; exact ⟨d, e⟩
    refine ⟨?_⟩
    refine for_rule ?_
    ktr_unf
    have hpe : ((pa', tupO pw' pn') :: (a, listOf vs0.toArray n0) :: (lt ++ rest)).Perm ((a, listOf vs0.toArray n0) :: (pa', tupO pw' pn') :: (lt ++ rest)) := List.Perm.swap _ _ _
    replace N₂ := news_perm hpe N₂
    have D₃ := nd_perm hpe D₂
    have F₃ := F₂
    refine ⟨list_iter (vs := vs0) F₃ N₂ D₃ (.head _) fun I o h₁ hit F₄ N₄ D₄ => ?_⟩
    refine for_src (Src.list rfl I a vs0 n0) rfl rfl rfl
      (fun i m l => ∃ oo lh, m = (fun y => if y = Str.ofString "one" then oo else frameOf F₃ y) ∧ Held w pa' (tupO pw' pn') (strip p) (fun q => f q ++ if q = strip p then xs0.take i else []) (.ref d) lh rest ∧ l = (a, listOf vs0.toArray n0) :: lh)
      (fun i m l h => by obtain ⟨_, _, _, _, rfl⟩ := h; exact .head _) ?_ _ ?_ _ 0 _ _ _ h₁ _ rfl (Nat.zero_le _) ⟨none, _, ?_, .inl ⟨lt, ?_, rfl⟩, rfl⟩ hit F₄ N₄ D₄
    · rintro i v m l oi s₃ Q₃ hi' hv ⟨oo, lh, rfl, hH, rfl⟩ hit' F₅ N₅ D₅ k₃ - - -
      obtain ⟨y, ty, rfl, hy⟩ := strs_get hv0 hv
      dsimp only [frameOf] at F₅
      obtain ⟨es, ep, hdm⟩ := held_dict hH
      ktr_unf
      refine ⟨mth_dset N₅ (.tail _ (.tail _ hdm)) ?_⟩
      ktr_unf
      rename News _ _ _ _ => N₆
      rename Fr _ _ _ _ => F₆
      rename _ < _ ∧ _ => l2
      have D₆ := fun o => nd_push (o := o) D₅ (ktn_ltOf (l := (I, oi) :: (a, listOf vs0.toArray n0) :: lh) l2)
      refine ⟨setdef' (X := [(I, oi), (a, listOf vs0.toArray n0)]) hiq (Nat.le_trans (strip_len p) hpl) (by show un + 1 < _; omega) F₆ N₆ (D₆ _) hH fun va vs n l1 h' tk' hvs F₇ N₇ D₇ hput => ?_⟩
      ktr_unf
      refine ⟨mth_lapp N₇ (.head _) ?_⟩
      ktr_unf
      have hb1 := hc (strip p)
      have hb2 := strs_len hvs
      have hb3 : (f (strip p) ++ if strip p = strip p then xs0.take i else []).length ≤ 2000 := by
        rw [if_pos rfl, List.length_append]
        have : (xs0.take i).length ≤ 1000 := by simp; omega
        omega
      refine ⟨lappend F₇ N₇ D₇ (by omega) fun n' h₃ F₈ N₈ => ?_⟩
      ktr_unf
      obtain ⟨l3, H3, hp3⟩ := hput _ _ (n') (strs_app hvs (.cons y ty .nil)) (by simp)
      refine k₃ _ _ _ _ F₈ (news_perm hp3 N₈) (nd_perm hp3 (nd_same D₇)) ⟨some (.str y ty), l3, ?_, ?_, rfl⟩
      · funext z
        by_cases hz : z = Str.ofString "one" <;> simp [hz, frameOf]
      · have e : (fun q => f q ++ if q = strip p then xs0.take (i + 1) else []) = fun q => if q = strip p then (f (strip p) ++ if strip p = strip p then xs0.take i else []) ++ [y] else f q ++ if q = strip p then xs0.take i else [] := by
          funext q
          by_cases hq : q = strip p
          · subst hq
            simp only [if_true]
            rw [take_snoc hy, List.append_assoc]
          · simp only [if_neg hq]
        rw [e]; exact H3
    · rintro m l h' tk' ⟨oo, lh, rfl, hH, rfl⟩ F' N' D'
      dsimp only
      ktr_unf
      obtain ⟨lt', hT, hm1, hs1⟩ := held_end hH
      rw [strs_len hv0, List.take_length] at hT
      exact hQ _ _ _ _ _ F' (news_sub (l' := (a, listOf vs0.toArray n0) :: (lt' ++ rest)) (fun p hp => by
        rcases List.mem_cons.mp hp with rfl | hp
        · exact .head _
        · exact .tail _ (hm1 p hp)) N') (nd_sub (.cons₂ _ hs1) D') ⟨rfl, lt', hT, rfl⟩
    · funext y
      by_cases h1 : y = Str.ofString "one"
      · subst h1; rfl
      · simp [h1]
    · have : (fun q => f q ++ if q = strip p then xs0.take 0 else []) = f := by funext q; simp
      rw [this]; exact ht
end Mine
end

section
open PySem PySem.W PyProof.Rows
set_option linter.constructorNameAsVariable false
set_option maxRecDepth 100000
namespace Mine

local macro_rules | `(tactic| walk_at "pyIter ref") => `(tactic| refine Stop.out ?_)
local macro_rules | `(tactic| walk_at "exec For Name Name") => `(tactic| refine Stop.out ?_)
local macro_rules | `(tactic| walk_at "subscriptTail") => `(tactic| refine Stop.out ?_)
local macro_rules | `(tactic| walk_at "binaryOp Add ref ref") => `(tactic| refine Stop.out ?_)
local macro_rules | `(tactic| walk_at "call ref") => `(tactic| refine Stop.out ?_)
local macro_rules | `(tactic| ktr_unf) => `(tactic| ((repeat' (first | walk1 | (dsimp only; walk1))); all_goals (try dsimp only)))
local macro_rules | `(tactic| tb_start) => `(tactic| (
  have hfill : ∀ h, (Mine.hd.heap_39 (World.params ‹World›)).In h → PySem.Challenge.rw_eq0024_01.row.prog = PySem.Challenge.rw_eq0024_01.row.prog := by
    k_fill
    exact fun _ _ => rfl
  clear hfill))
local macro_rules | `(tactic| ktr_rel) => `(tactic| (refine perm_of_sum fun f => ?_; simp only [List.map_append, List.map_cons, List.map_nil, List.sum_append, List.sum_cons, List.sum_nil]; omega))

theorem items_snoc {prog : Program} {w : World} {p : List K5} {ws : List Value} {k : K5} {v : Value} (h : ItemsAre (mixK prog w) p ws) (hk : (mixK prog w).is k v = true) : ItemsAre (mixK prog w) (p ++ [k]) (ws ++ [v]) := by
  induction h with
  | nil => exact .cons hk .nil
  | cons h1 _ ih => exact .cons h1 ih

theorem path_add {w : World} {A : Around} {E : Value → Shared → Prop} {s : Shared} {h₀ : Heap} {L pa tt : Addr} {m : Str → Option Value} {l : Led} {ws : List Value} {n : Nat} {key : Value} {Q : Value → Shared → Prop} (hz : ws.length ≤ 100)
    (F : Fr h₀ L s.heap m) (N : News h₀ L s.heap ((tt, tupO [key] 0) :: l)) (D : Nd ((tt, tupO [key] 0) :: l)) (hm : (pa, tupO ws n) ∈ l)
    (k : ∀ D' h', Fr h₀ L h' m → News h₀ L h' ((D', tupO (ws ++ [key]) 0) :: l) → Nd ((D', tupO (ws ++ [key]) 0) :: l) → Q (.ref D') { s with heap := h' }) : wpAny (model PG w) A (binaryOp .Add (.ref pa) (.ref tt)) Q E s := by
  have ht : IsTup s.heap pa ws.toArray := News.isTup N (.tail _ hm)
  have hb : IsTup s.heap tt #[key] := News.isTup N (.head _)
  by_cases hw : ws = []
  · subst hw
    exact kde_addT0 F N ht hb rfl (by simp) (k tt s.heap F N D)
  · refine kde_addT F N ht hb (by simpa using hw) (by simp) (by simp; omega) rfl fun D' h' F' N' hlt => ?_
    refine k D' h' F' (news_sub (fun p hp => ?_) N') (nd_push (nd_tail D) fun p hp => hlt p (.tail _ hp))
    rcases List.mem_cons.mp hp with rfl | hp
    · exact .head _
    · exact .tail _ (.tail _ hp)

theorem flat_take {α : Type} (g : α → List Str) (es : List α) (j : Nat) : ((es.take j).flatMap g).length ≤ (es.flatMap g).length := by
  have : es.flatMap g = (es.take j).flatMap g ++ (es.drop j).flatMap g := by rw [← List.flatMap_append, List.take_append_drop]
  rw [this, List.length_append]; omega

set_option maxHeartbeats 1500000 in
theorem read_spec {w : World} : ∀ (n : Nat), ReadAt w n := by
  intro n
  induction n with
  | zero => 
    intro a v pv tv l lp lt c p f hT hb hc hp hpl ht hcap rest
    cases a with
    | dct f => exact hT.elim
    | leaf x =>
      have hcap' : ∀ q, (f q).length ≤ 1000 := fun q => by have := hcap q; omega
      rw [tl_leaf] at hT
      cases x with
      | none => exact hT.elim
      | str x =>
        obtain ⟨⟨t, rfl⟩, rfl, hx⟩ := hT
        refine (read_str hx hp (by omega) ht hcap' rest).mono (by omega) (by omega) fun r l' h => ?_
        obtain ⟨h1, lt', h2, h3⟩ := h
        exact ⟨h1, lt', by simp only [ctr_leaf]; exact h2, h3⟩
      | lst xs =>
        obtain ⟨a, vs, k, rfl, rfl, hv⟩ := hT
        refine (read_list hv (by have := bd_leaf.mp hb; simp [Leaf.items] at this; omega) hp (by omega) ht hcap' rest).mono (by omega) (by omega) fun r l' h => ?_
        obtain ⟨h1, lt', h2, h3⟩ := h
        exact ⟨h1, lt', by simp only [ctr_leaf]; exact h2, h3⟩
  | succ n ih =>
    intro a v pv tv l lp lt c p f hT hb hc hp hpl ht hcap rest
    cases a with
    | leaf x =>
      have hcap' : ∀ q, (f q).length ≤ 1000 := fun q => by have := hcap q; omega
      rw [tl_leaf] at hT
      cases x with
      | none => exact hT.elim
      | str x =>
        obtain ⟨⟨t, rfl⟩, rfl, hx⟩ := hT
        refine (read_str hx hp (by omega) ht hcap' rest).mono (by omega) (by omega) fun r l' h => ?_
        obtain ⟨h1, lt', h2, h3⟩ := h
        exact ⟨h1, lt', by simp only [ctr_leaf]; exact h2, h3⟩
      | lst xs =>
        obtain ⟨a, vs, k, rfl, rfl, hv⟩ := hT
        refine (read_list hv (by have := bd_leaf.mp hb; simp [Leaf.items] at this; omega) hp (by omega) ht hcap' rest).mono (by omega) (by omega) fun r l' h => ?_
        obtain ⟨h1, lt', h2, h3⟩ := h
        exact ⟨h1, lt', by simp only [ctr_leaf]; exact h2, h3⟩
    | dct g0 =>
    obtain ⟨d, o, kvs, ep, es, l', rfl, rfl, hS, hdo, hfor, hlk⟩ := hT
    subst hlk
    obtain ⟨des, rfl⟩ := hdo.obj
    obtain ⟨pa, pw, pn, rfl, rfl, hi⟩ := hp
    have hnd : (es.map (·.1)).Nodup := by rw [forL_keys hfor]; exact hdo.nodup
    tb_start
    refine Spec.intro (binds := [(Str.ofString "errors", .ref d), (Str.ofString "path", .ref pa), (Str.ofString "found", tv)]) (by k_is) (by k_is) (fun s => BindsTo.of_eq rfl) (locs rfl) rfl rfl rfl (by decide) ?_
    intro mean mg mb dp un gd outer A₀ base g L s Q hd hu B F X N D T hQ
    simp only [List.cons_append, List.nil_append] at N D
    ktr_unf
    refine ⟨?_⟩
    refine for_rule ?_
    ktr_unf
    rename News _ _ _ _ => N₁
    rename Fr _ _ _ _ => F₁
    refine ⟨key_iter F₁ N₁ D (.tail _ (.head _)) hdo hS fun I oi h₁ hit F₂ N₂ D₂ => ?_⟩
    refine for_src (Src.keys rfl I d _ kvs ep hdo) rfl rfl rfl
      (fun i m l => ∃ oo lt', m = (fun y => if y = Str.ofString "name" then oo else frameOf F₁ y) ∧ TableL w (fun q => f q ++ (es.take i).flatMap (fun e => ctr n e.2 (p ++ [e.1]) q)) tv lt' ∧ l = (pa, tupO pw pn) :: (d, { cls := .type "dict", data := .dict des ep }) :: (l' ++ (lt' ++ rest)))
      (fun i m l h => by obtain ⟨_, _, _, _, rfl⟩ := h; exact .tail _ (.head _)) ?_ _ ?_ _ 0 _ _ _ h₁ _ rfl (Nat.zero_le _) ⟨none, lt, ?_, ?_, rfl⟩ hit F₂ N₂ D₂
    · rintro i key m l oi s₃ Q₃ hi' ⟨k, u, hkv, hkey⟩ ⟨oo, lt', rfl, hTab, rfl⟩ hit' F₃ N₃ D₃ k₃ - - -
      obtain ⟨t, lv, l1, l2, hes, hTt, rfl⟩ := forL_get hfor hkv
      dsimp only [frameOf] at F₃
      ktr_unf
      refine ⟨dsub hkey N₃ (.tail _ (.tail _ (.head _))) hdo (valueAt_of_get hdo.nodup hkv) ?_⟩
      ktr_unf
      rename News _ _ _ _ => N₄
      rename Fr _ _ _ _ => F₄
      rename _ < _ ∧ _ => hlt
      have D₄ := fun o => nd_push (o := o) D₃ (ktn_ltOf (l := (I, oi) :: (pa, tupO pw pn) :: (d, { cls := .type "dict", data := .dict des ep }) :: (l1 ++ (lv ++ l2) ++ (lt' ++ rest))) hlt)
      have hlen := hi.length
      refine ⟨path_add (by omega) F₄ N₄ (D₄ _) (.tail _ (.head _)) fun D' h' F₅ N₅ D₅ => ?_⟩
      ktr_unf
      have hcap2 : ∀ q, (f q ++ (es.take i).flatMap (fun e => ctr n e.2 (p ++ [e.1]) q)).length + (ctr n t (p ++ [k]) q).length ≤ 1000 := fun q => by
        have h1 := hcap q
        rw [← ctr_dct n hnd] at h1
        have h2 := flat_take (fun e : K5 × Mine.T => ctr n e.2 (p ++ [e.1]) q) es (i + 1)
        rw [take_snoc hes, List.flatMap_append, List.length_append] at h2
        simp only [List.flatMap_cons, List.flatMap_nil, List.append_nil] at h2
        rw [List.length_append]
        omega
      have sp := ih t u (.ref D') tv lv [(D', tupO (pw ++ [key]) 0)] lt' c (p ++ [k]) _ hTt (hb k t (lk_get hnd hes)) hc ⟨D', _, _, rfl, rfl, items_snoc hi hkey⟩ (by rw [List.length_append]; simp; omega) hTab hcap2
        ((I, oi) :: (pa, tupO pw pn) :: (d, { cls := .type "dict", data := .dict des ep }) :: (l1 ++ l2 ++ rest))
      have hp1 : ((D', tupO (pw ++ [key]) 0) :: (I, oi) :: (pa, tupO pw pn) :: (d, ({ cls := .type "dict", data := .dict des ep } : Obj)) :: (l1 ++ (lv ++ l2) ++ (lt' ++ rest))).Perm ([(D', tupO (pw ++ [key]) 0)] ++ (lv ++ (lt' ++ ((I, oi) :: (pa, tupO pw pn) :: (d, { cls := .type "dict", data := .dict des ep }) :: (l1 ++ l2 ++ rest))))) := by ktr_rel
      refine ⟨(sp.perm hp1).use B F₅ X N₅ D₅ T (by omega) (by omega) fun r l'' h'' tk'' F₆ N₆ D₆ P => ?_⟩
      obtain ⟨rfl, lt2, hTab2, rfl⟩ := P
      ktr_unf
      have hp2 : (lv ++ (lt2 ++ ((I, oi) :: (pa, tupO pw pn) :: (d, ({ cls := .type "dict", data := .dict des ep } : Obj)) :: (l1 ++ l2 ++ rest)))).Perm ((I, oi) :: (pa, tupO pw pn) :: (d, { cls := .type "dict", data := .dict des ep }) :: (l1 ++ (lv ++ l2) ++ (lt2 ++ rest))) := by ktr_rel
      refine k₃ _ _ _ _ F₆ (news_perm hp2 N₆) (nd_perm hp2 D₆) ⟨some key, lt2, ?_, ?_, rfl⟩
      · funext z
        by_cases hz : z = Str.ofString "name" <;> simp [hz, frameOf]
      · have e : (fun q => f q ++ (es.take (i + 1)).flatMap (fun e => ctr n e.2 (p ++ [e.1]) q)) = fun q => (f q ++ (es.take i).flatMap (fun e => ctr n e.2 (p ++ [e.1]) q)) ++ ctr n t (p ++ [k]) q := by
          funext q
          rw [take_snoc hes, List.flatMap_append, List.append_assoc]
          simp
        rw [e]; exact hTab2
    · rintro m l h' tk' ⟨oo, lt', rfl, hTab, rfl⟩ F' N' D'
      dsimp only
      ktr_unf
      rw [← forL_len hfor, List.take_length] at hTab
      refine hQ _ _ _ _ _ F' (news_sub (fun p hp => .tail _ hp) N') (nd_tail D') ⟨rfl, lt', ?_, rfl⟩
      simp only [← ctr_dct n hnd]
      exact hTab
    · funext y
      by_cases h1 : y = Str.ofString "name"
      · subst h1; rfl
      · simp [h1]
    · simpa using ht
end Mine
end

section
open PySem PySem.W PyProof.Rows
set_option linter.constructorNameAsVariable false
set_option maxRecDepth 100000
namespace Mine

/-- both are the same by their values -/
def EqP (prog : Program) (w : World) (A : Around) (s : Shared) (v y : Value) : Prop := ∀ (E : Value → Shared → Prop) (Q : Bool → Shared → Prop), Q true s → wpAny (model prog w) A (eqBool v y) Q E s

section
variable {prog : Program} {w : World} {A : Around} {E : Value → Shared → Prop} {s : Shared} {a b : Addr} {es es' : Array DictEntry} {ep ep' : Nat}

theorem same_pairs {nm : String} {Q : Bool → Shared → Prop} (ha : (a == sysModules) = false) (hb : (b == sysModules) = false) (hoa : s.heap.get? a = some (dictO es ep)) (hob : s.heap.get? b = some (dictO es' ep')) (hsz : es.size = es'.size)
    (H : ∀ (i : Nat) (e : DictEntry), es[i]? = some e → ∃ (j : Nat) (f : DictEntry), es'[j]? = some f ∧ (∀ (E : Value → Shared → Prop) (Q : Option Nat → Shared → Prop), Q (some j) s → wpAny (model prog w) A (dictFind b e.key e.hash) Q E s) ∧ EqP prog w A s e.val f.val)
    (h : Q true s) : wpAny (model prog w) A (Builtin.Dict.samePairs nm a b) Q E s := by
  unfold Builtin.Dict.samePairs Builtin.Dict.showsAll
  rw [if_neg (show ¬ (a == sysModules) = true by rw [ha]; exact Bool.false_ne_true), if_neg (show ¬ (b == sysModules) = true by rw [hb]; exact Bool.false_ne_true)]
  refine wpAny_bind (wpAny_pure (wpAny_bind (wpAny_pure ?_)))
  refine wpAny_bind (wpAny_dictEntries hoa rfl ?_)
  dsimp only
  refine wpAny_bind (wpAny_dictEntries hob rfl ?_)
  rw [if_neg (by rw [hsz]; simp)]
  refine wpAny_bind (wpAny_dictEpoch hoa rfl ?_)
  refine wpAny_bind ?_
  rw [Std.Legacy.Range.forIn_eq_forIn_range']
  refine wpAny_forIn_list _ (fun rest q s' => s' = s ∧ q = (none, ()) ∧ ∀ x ∈ rest, x < es.size) _ ?_ ?_ _ _ ⟨rfl, rfl, fun x hx => by
    simp [Std.Legacy.Range.size, List.mem_range'] at hx
    exact hx⟩
  · rintro x rest q s' ⟨rfl, rfl, hr⟩
    have hlt := hr x (.head _)
    obtain ⟨j, f, hf, hfind, heq⟩ := H x es[x] (Array.getElem?_eq_getElem hlt)
    refine wpAny_bind (wpAny_dictEntries hoa rfl ?_)
    rw [Array.getElem?_eq_getElem hlt]
    show wpAny _ _ (holding [es[x].key, es[x].val] _ >>= _) _ _ _
    refine wpAny_bind (wpAny_holding (wpAny_bind (hfind _ _ ?_)))
    refine wpAny_bind (wpAny_dictEntries hob rfl ?_)
    rw [hf]
    refine wpAny_holding (heq _ _ ?_)
    show wpAny _ _ (if (!true) = true then _ else _) _ _ _
    rw [if_neg (by decide)]
    refine wpAny_bind (wpAny_dictEpoch hoa rfl ?_)
    rw [if_neg (by simp)]
    exact wpAny_pure ⟨rfl, rfl, fun y hy => hr y (.tail _ hy)⟩
  · rintro q s' ⟨rfl, rfl, -⟩
    exact wpAny_pure h

theorem dict_eq_rc {Q : Value → Shared → Prop} (ha : (a == sysModules) = false) (hb : (b == sysModules) = false) (hoa : s.heap.get? a = some (dictO es ep)) (hob : s.heap.get? b = some (dictO es' ep')) (hsz : es.size = es'.size) (hu : A.units < cLine)
    (H : ∀ (i : Nat) (e : DictEntry), es[i]? = some e → ∃ (j : Nat) (f : DictEntry), es'[j]? = some f ∧ (∀ (E : Value → Shared → Prop) (Q : Option Nat → Shared → Prop), Q (some j) s → wpAny (model prog w) A.in1 (dictFind b e.key e.hash) Q E s) ∧ EqP prog w A.in1 s e.val f.val)
    (h : Q (.bool true) s) : wpAny (model prog w) A (richCompare .Eq (.ref a) (.ref b)) Q E s := by
  have ta : s.TypeIs (.ref a) "dict" := ⟨_, hoa, rfl⟩
  have tb : s.TypeIs (.ref b) "dict" := ⟨_, hob, rfl⟩
  refine wpAny_richCompare_same_room (op := .Eq) ta tb PySem.F.slot_dict_eq (wpAny_call_entry PySem.F.slot_dict_eq ta PySem.F.entry_dict_eq ?_ (PySem.F.args_dict_eq_2 _ _)) hu
  show wpAny _ _ (Builtin.Dict.dictSlotArgs "__eq__" ⟨[.ref a, .ref b], []⟩ >>= _) _ _ s
  refine wpAny_bind ?_
  unfold Builtin.Dict.dictSlotArgs
  refine wpAny_bind (wpAny_notOrdered_dict ta ?_)
  show wpAny _ _ (pure (Value.ref a, Value.ref b)) _ _ s
  refine wpAny_pure ?_
  refine wpAny_bind (wpAny_isInstance (T := "dict") tb PySem.F.sub_dict_dict ?_)
  simp only [Bool.not_true, Bool.false_eq_true, if_false]
  refine wpAny_bind (wpAny_pure (wpAny_bind (wpAny_pure ?_)))
  refine wpAny_bind (same_pairs ha hb hoa hob hsz H ?_)
  refine wpAny_pure ⟨_, rfl, ?_, h⟩
  exact fun x => nomatch x
theorem dict_ne_rc {Q : Value → Shared → Prop} (ha : (a == sysModules) = false) (hb : (b == sysModules) = false) (hoa : s.heap.get? a = some (dictO es ep)) (hob : s.heap.get? b = some (dictO es' ep')) (hsz : es.size = es'.size) (hu : A.units < cLine)
    (H : ∀ (i : Nat) (e : DictEntry), es[i]? = some e → ∃ (j : Nat) (f : DictEntry), es'[j]? = some f ∧ (∀ (E : Value → Shared → Prop) (Q : Option Nat → Shared → Prop), Q (some j) s → wpAny (model prog w) A.in1 (dictFind b e.key e.hash) Q E s) ∧ EqP prog w A.in1 s e.val f.val)
    (h : Q (.bool false) s) : wpAny (model prog w) A (richCompare .NotEq (.ref a) (.ref b)) Q E s := by
  have ta : s.TypeIs (.ref a) "dict" := ⟨_, hoa, rfl⟩
  have tb : s.TypeIs (.ref b) "dict" := ⟨_, hob, rfl⟩
  refine wpAny_richCompare_same_room (op := .NotEq) ta tb PySem.F.slot_dict_ne (wpAny_call_entry PySem.F.slot_dict_ne ta PySem.F.entry_dict_ne ?_ (PySem.F.args_dict_ne_2 _ _)) hu
  show wpAny _ _ (Builtin.Dict.dictSlotArgs "__ne__" ⟨[.ref a, .ref b], []⟩ >>= _) _ _ s
  refine wpAny_bind ?_
  unfold Builtin.Dict.dictSlotArgs
  refine wpAny_bind (wpAny_notOrdered_dict ta ?_)
  show wpAny _ _ (pure (Value.ref a, Value.ref b)) _ _ s
  refine wpAny_pure ?_
  refine wpAny_bind (wpAny_isInstance (T := "dict") tb PySem.F.sub_dict_dict ?_)
  simp only [Bool.not_true, Bool.false_eq_true, if_false]
  refine wpAny_bind (wpAny_pure (wpAny_bind (wpAny_pure ?_)))
  refine wpAny_bind (same_pairs ha hb hoa hob hsz H ?_)
  refine wpAny_pure ⟨_, rfl, ?_, h⟩
  exact fun x => nomatch x

theorem eqP_rc {v y : Value} (hv : ∃ a, v = .ref a) (h : ∀ (E : Value → Shared → Prop) (Q : Value → Shared → Prop), Q (.bool true) s → wpAny (model prog w) A (richCompare .Eq v y) Q E s) : EqP prog w A s v y := fun E Q hq => by
  unfold eqBool
  refine wpAny_holding ?_
  refine wpAny_ite_split (fun _ => wpAny_bind (wpAny_rule (wpAny_pure hq))) (fun _ => ?_)
  obtain ⟨a, rfl⟩ := hv
  exact wpAny_bind (h E _ (wpAny_truthy_bool hq))
theorem eqP_str {x : Str} {t u : Tok} : EqP prog w A s (.str x t) (.str x u) := fun E Q hq => by
  have := SeqAt.EqAt.str_str (A := A) (s := s) x t x u
  exact this prog w E Q (by rw [beq_self_eq_true]; exact hq)

theorem strs_get_some {vs : List Value} {xs : List Str} (h : StrsAre vs xs) : ∀ (j : Nat) (h1 : j < vs.length) (h2 : j < xs.length), ∃ t, vs[j] = .str xs[j] t := by
  induction h with
  | nil => intro j h1; simp at h1
  | cons y t _ ih =>
    intro j h1 h2
    cases j with
    | zero => exact ⟨t, rfl⟩
    | succ j => exact ih j (by simpa using h1) (by simpa using h2)
theorem lists_rc {vs us : List Value} {xs : List Str} {n n' : Nat} {Q : Value → Shared → Prop} (hoa : s.heap.get? a = some (listOf vs.toArray n)) (hob : s.heap.get? b = some (listOf us.toArray n')) (hv : StrsAre vs xs) (hus : StrsAre us xs) (hu : A.units < cLine)
    (h : Q (.bool true) s) : wpAny (model prog w) A (richCompare .Eq (.ref a) (.ref b)) Q E s := by
  have l1 := strs_len hv
  have l2 := strs_len hus
  refine SeqAt.RcAt.lists (e := fun _ => true) (PySem.IsL.isList (n := n) hoa) (PySem.IsL.isList (n := n') hob) (by simp; omega) hu (fun j h1 h2 => ?_) prog w E Q (by rw [show ((List.range vs.toArray.size).all fun _ => true) = true from List.all_eq_true.mpr fun _ _ => rfl]; exact h)
  have j1 : j < vs.length := by simpa using h1
  have j2 : j < us.length := by simpa using h2
  obtain ⟨t, e1⟩ := strs_get_some hv j j1 (by omega)
  obtain ⟨t', e2⟩ := strs_get_some hus j j2 (by omega)
  have := SeqAt.EqAt.str_str (A := A.in1) (s := s) (xs[j]'(by omega)) t (xs[j]'(by omega)) t'
  rw [beq_self_eq_true] at this
  simpa [e1, e2] using this
end

section
variable {prog : Program} {w : World} {K : Type} [DecidableEq K] {knd : KeyKind prog w K}
theorem findIdx_nodup {kvs : List (K × Value)} : ∀ {j : Nat} {k : K} {u : Value}, (kvs.map (·.1)).Nodup → kvs[j]? = some (k, u) → (kvs.findIdx? fun kv => decide (kv.1 = k)) = some j := by
  induction kvs with
  | nil => intro j k u _ h; simp at h
  | cons p r ih =>
    intro j k u hn h
    rw [List.map_cons, List.nodup_cons] at hn
    cases j with
    | zero => simp at h; subst h; simp [List.findIdx?_cons]
    | succ j =>
      simp at h
      have hm : k ∈ r.map (·.1) := List.mem_map.mpr ⟨(k, u), List.mem_of_getElem? h, rfl⟩
      have hne : ¬ p.1 = k := fun q => hn.1 (q ▸ hm)
      rw [List.findIdx?_cons]
      simp [hne, ih hn.2 h]
theorem pairs_found {es : Array DictEntry} {kvs : List (K × Value)} (hp : Pairs knd es.toList kvs) (hn : (kvs.map (·.1)).Nodup) {j : Nat} {k : K} {u : Value} (h : kvs[j]? = some (k, u)) :
    (es.findIdx? fun e => knd.is k e.key) = some j ∧ ∃ e, es[j]? = some e ∧ knd.is k e.key = true ∧ e.val = u := by
  have h1 := hp.findIdx k
  rw [findIdx_nodup hn h] at h1
  have hlen := hp.length
  have hj : j < es.toList.length := by rw [hlen]; exact (List.getElem?_eq_some_iff.mp h).1
  obtain ⟨hk, hv⟩ := hp.get? (List.getElem?_eq_getElem hj) h
  constructor
  · obtain ⟨l⟩ := es
    simpa using h1
  · exact ⟨_, by rw [← Array.getElem?_toList]; exact List.getElem?_eq_getElem hj, hk, hv⟩
end

theorem lk_len {es1 es2 : List (K5 × T)} (h1 : (es1.map (·.1)).Nodup) (h2 : (es2.map (·.1)).Nodup) (h : lk es1 = lk es2) : es1.length = es2.length := by
  have hp := (List.perm_ext_iff_of_nodup h1 h2).mpr fun k => by
    have e := congrFun h k
    constructor
    · intro hk
      refine Classical.byContradiction fun hn => ?_
      rw [lk_none.mpr hn] at e
      exact lk_none.mp e hk
    · intro hk
      refine Classical.byContradiction fun hn => ?_
      rw [lk_none.mpr hn] at e
      exact lk_none.mp e.symm hk
  simpa using hp.length_eq

theorem DictO.dict {prog : Program} {w : World} {o : Obj} {kvs : List (K5 × Value)} {ep : Nat} (h : DictO prog w o kvs ep) : ∃ es, o = dictO es ep ∧ KeysOf (mixK prog w) es ∧ Pairs (mixK prog w) es.toList kvs ∧ (kvs.map (·.1)).Nodup := by
  obtain ⟨es, h1, h2, h3, h4, h5⟩ := h
  exact ⟨es, exactDict_obj h1 h2, h3, h4, h5⟩

theorem tree_rows {w : World} {A : Around} {s : Shared} {n : Nat} {es1 es2 : List (K5 × T)} {kvs1 kvs2 : List (K5 × Value)} {ep1 ep2 : Nat} {o1 o2 : Obj} {l1 l2 : Led} {d1 d2 : Addr} (hd1 : DictO PG w o1 kvs1 ep1) (hd2 : DictO PG w o2 kvs2 ep2) (g1 : s.heap.get? d1 = some o1) (g2 : s.heap.get? d2 = some o2)
    (hf1 : ForL (TreeL w n) es1 kvs1 l1) (hf2 : ForL (TreeL w n) es2 kvs2 l2) (hlk : lk es1 = lk es2) (m1 : ∀ p ∈ l1, s.heap.get? p.1 = some p.2) (m2 : ∀ p ∈ l2, s.heap.get? p.1 = some p.2)
    (ih : ∀ t v1 v2 lv1 lv2, TreeL w n t v1 lv1 → TreeL w n t v2 lv2 → (∀ p ∈ lv1, s.heap.get? p.1 = some p.2) → (∀ p ∈ lv2, s.heap.get? p.1 = some p.2) → EqP PG w A s v1 v2) :
    ∃ des1 des2, o1 = dictO des1 ep1 ∧ o2 = dictO des2 ep2 ∧ des1.size = des2.size ∧ ∀ (i : Nat) (e : DictEntry), des1[i]? = some e → ∃ (j : Nat) (f : DictEntry), des2[j]? = some f ∧ (∀ (E : Value → Shared → Prop) (Q : Option Nat → Shared → Prop), Q (some j) s → wpAny (model PG w) A (dictFind d2 e.key e.hash) Q E s) ∧ EqP PG w A s e.val f.val := by
  obtain ⟨des1, rfl, hk1, hp1, hn1⟩ := hd1.dict
  obtain ⟨des2, rfl, hk2, hp2, hn2⟩ := hd2.dict
  have e1 : (es1.map (·.1)).Nodup := by rw [forL_keys hf1]; exact hn1
  have e2 : (es2.map (·.1)).Nodup := by rw [forL_keys hf2]; exact hn2
  refine ⟨des1, des2, rfl, rfl, ?_, ?_⟩
  · have a1 := hp1.length
    have a2 := hp2.length
    have a3 := lk_len e1 e2 hlk
    rw [forL_len hf1, forL_len hf2, ← a1, ← a2] at a3
    simpa using a3
  · intro i e he
    have hi : i < kvs1.length := by
      rw [← hp1.length]
      rw [← Array.getElem?_toList] at he
      exact (List.getElem?_eq_some_iff.mp he).1
    obtain ⟨⟨k, u1⟩, hkv1⟩ : ∃ p, kvs1[i]? = some p := ⟨kvs1[i], by simp [hi]⟩
    obtain ⟨hkey, hval⟩ := hp1.get? (by rw [Array.getElem?_toList]; exact he) hkv1
    obtain ⟨k', hk', hh⟩ := hk1 e (Array.mem_of_getElem? he)
    obtain rfl : k' = k := (mixK PG w).inj _ _ _ hk' hkey
    obtain ⟨t, lv1, x1, x2, hes1, hT1, rfl⟩ := forL_get hf1 hkv1
    have hl1 : lk es1 k' = some t := lk_get e1 hes1
    rw [hlk] at hl1
    obtain ⟨j, hes2⟩ := lk_some hl1
    obtain ⟨u2, lv2, y1, y2, hkv2, hT2, rfl, -⟩ := forL_get' hf2 hes2
    obtain ⟨hidx, f, hf, hfk, hfv⟩ := pairs_found hp2 hn2 hkv2
    refine ⟨j, f, hf, fun E Q hq => ?_, ?_⟩
    · rw [hh]
      refine wpAny_dictFind_of hkey g2 rfl hk2 ?_
      rw [hidx]; exact hq
    · rw [hval, hfv]
      exact ih t u1 u2 lv1 lv2 hT1 hT2 (fun p hp => m1 p (List.mem_append_right _ (List.mem_append_left _ hp))) (fun p hp => m2 p (List.mem_append_right _ (List.mem_append_left _ hp)))

theorem tree_eqP {w : World} {s : Shared} : ∀ (n : Nat) (A : Around) (a : T) (v1 v2 : Value) (l1 l2 : Led), TreeL w n a v1 l1 → TreeL w n a v2 l2 → (∀ p ∈ l1, s.heap.get? p.1 = some p.2) → (∀ p ∈ l2, s.heap.get? p.1 = some p.2) → A.units + n < cLine → EqP PG w A s v1 v2 := by
  intro n
  have leafCase : ∀ (A : Around) (x : Leaf) (v1 v2 : Value) (l1 l2 : Led), LeafL x v1 l1 → LeafL x v2 l2 → (∀ p ∈ l1, s.heap.get? p.1 = some p.2) → (∀ p ∈ l2, s.heap.get? p.1 = some p.2) → A.units < cLine → EqP PG w A s v1 v2 := by
    intro A x v1 v2 l1 l2 h1 h2 m1 m2 hu
    cases x with
    | none => exact h1.elim
    | str x =>
      obtain ⟨⟨t, rfl⟩, _, _⟩ := h1
      obtain ⟨⟨t', rfl⟩, _, _⟩ := h2
      exact eqP_str
    | lst xs =>
      obtain ⟨a, vs, k, rfl, rfl, hv⟩ := h1
      obtain ⟨b, us, k', rfl, rfl, hus⟩ := h2
      exact eqP_rc ⟨a, rfl⟩ fun E Q hq => lists_rc (m1 _ (.head _)) (m2 _ (.head _)) hv hus hu hq
  induction n with
  | zero =>
    intro A a v1 v2 l1 l2 h1 h2 m1 m2 hu
    cases a with
    | leaf x => exact leafCase A x v1 v2 l1 l2 (tl_leaf.mp h1) (tl_leaf.mp h2) m1 m2 (by omega)
    | dct f => exact h1.elim
  | succ n ih =>
    intro A a v1 v2 l1 l2 h1 h2 m1 m2 hu
    cases a with
    | leaf x => exact leafCase A x v1 v2 l1 l2 (tl_leaf.mp h1) (tl_leaf.mp h2) m1 m2 (by omega)
    | dct f =>
      obtain ⟨d1, o1, kvs1, ep1, es1, l1', rfl, rfl, hS1, hd1, hf1, hlk1⟩ := h1
      obtain ⟨d2, o2, kvs2, ep2, es2, l2', rfl, rfl, hS2, hd2, hf2, hlk2⟩ := h2
      obtain ⟨des1, des2, rfl, rfl, hsz, H⟩ := tree_rows (A := A.in1) hd1 hd2 (m1 _ (.head _)) (m2 _ (.head _)) hf1 hf2 (hlk1.trans hlk2.symm) (fun p hp => m1 p (.tail _ hp)) (fun p hp => m2 p (.tail _ hp))
        (fun t v1 v2 lv1 lv2 a1 a2 a3 a4 => ih A.in1 t v1 v2 lv1 lv2 a1 a2 a3 a4 (by show A.units + 1 + n < _; omega))
      exact eqP_rc ⟨d1, rfl⟩ fun E Q hq => dict_eq_rc hS1 hS2 (m1 _ (.head _)) (m2 _ (.head _)) hsz (by omega) H hq

/-- `a == b` of two dicts of one tree -/
theorem tree_eq {w : World} {A : Around} {E : Value → Shared → Prop} {s : Shared} {n : Nat} {f : K5 → Option T} {v1 v2 : Value} {l1 l2 : Led} {Q : Value → Shared → Prop} (h1 : TreeL w n (.dct f) v1 l1) (h2 : TreeL w n (.dct f) v2 l2) (m1 : ∀ p ∈ l1, s.heap.get? p.1 = some p.2) (m2 : ∀ p ∈ l2, s.heap.get? p.1 = some p.2) (hu : A.units + n < cLine)
    (h : Q (.bool true) s) : wpAny (model PG w) A (compareOp .Eq v1 v2) Q E s := by
  cases n with
  | zero => exact h1.elim
  | succ n =>
    obtain ⟨d1, o1, kvs1, ep1, es1, l1', rfl, rfl, hS1, hd1, hf1, hlk1⟩ := h1
    obtain ⟨d2, o2, kvs2, ep2, es2, l2', rfl, rfl, hS2, hd2, hf2, hlk2⟩ := h2
    obtain ⟨des1, des2, rfl, rfl, hsz, H⟩ := tree_rows (A := A.in1) hd1 hd2 (m1 _ (.head _)) (m2 _ (.head _)) hf1 hf2 (hlk1.trans hlk2.symm) (fun p hp => m1 p (.tail _ hp)) (fun p hp => m2 p (.tail _ hp))
      (fun t v1 v2 lv1 lv2 a1 a2 a3 a4 => tree_eqP n A.in1 t v1 v2 lv1 lv2 a1 a2 a3 a4 (by show A.units + 1 + n < _; omega))
    exact dict_eq_rc hS1 hS2 (m1 _ (.head _)) (m2 _ (.head _)) hsz (by omega) H h
theorem tree_ne {w : World} {A : Around} {E : Value → Shared → Prop} {s : Shared} {n : Nat} {f : K5 → Option T} {v1 v2 : Value} {l1 l2 : Led} {Q : Value → Shared → Prop} (h1 : TreeL w n (.dct f) v1 l1) (h2 : TreeL w n (.dct f) v2 l2) (m1 : ∀ p ∈ l1, s.heap.get? p.1 = some p.2) (m2 : ∀ p ∈ l2, s.heap.get? p.1 = some p.2) (hu : A.units + n < cLine)
    (h : Q (.bool false) s) : wpAny (model PG w) A (compareOp .NotEq v1 v2) Q E s := by
  cases n with
  | zero => exact h1.elim
  | succ n =>
    obtain ⟨d1, o1, kvs1, ep1, es1, l1', rfl, rfl, hS1, hd1, hf1, hlk1⟩ := h1
    obtain ⟨d2, o2, kvs2, ep2, es2, l2', rfl, rfl, hS2, hd2, hf2, hlk2⟩ := h2
    obtain ⟨des1, des2, rfl, rfl, hsz, H⟩ := tree_rows (A := A.in1) hd1 hd2 (m1 _ (.head _)) (m2 _ (.head _)) hf1 hf2 (hlk1.trans hlk2.symm) (fun p hp => m1 p (.tail _ hp)) (fun p hp => m2 p (.tail _ hp))
      (fun t v1 v2 lv1 lv2 a1 a2 a3 a4 => tree_eqP n A.in1 t v1 v2 lv1 lv2 a1 a2 a3 a4 (by show A.units + 1 + n < _; omega))
    exact dict_ne_rc hS1 hS2 (m1 _ (.head _)) (m2 _ (.head _)) hsz (by omega) H h
end Mine
end

section
open PySem PySem.W PyProof.Rows
set_option linter.constructorNameAsVariable false
set_option maxRecDepth 100000
namespace Mine

theorem tf_mem {rs : List (List K5 × List Str)} {q : List K5} (h : ∀ r ∈ rs, r.2 ≠ []) : q ∈ rs.map (·.1) ↔ tf rs q ≠ [] := by
  constructor
  · intro hq
    unfold tf
    cases hf : rs.find? fun r => decide (r.1 = q) with
    | none =>
      obtain ⟨x, hx, rfl⟩ := List.mem_map.mp hq
      exact absurd (List.find?_eq_none.mp hf x hx) (by simp)
    | some x => exact h x (List.mem_of_find?_eq_some hf)
  · intro hq
    exact Classical.byContradiction fun hn => hq (tf_none hn)

theorem atKey_some {xs : List (List K5 × Addr × Value)} {k : List K5} (h : k ∈ xs.map (·.1)) : ∃ (j : Nat) (p : Addr × Value), xs[j]? = some (k, p) := by
  obtain ⟨x, hx, rfl⟩ := List.mem_map.mp h
  obtain ⟨j, hj⟩ := List.mem_iff_getElem?.mp hx
  exact ⟨j, x.2, hj⟩

/-- `a != b` of two tables that tell the same -/
theorem table_ne {w : World} {A : Around} {E : Value → Shared → Prop} {s : Shared} {f : List K5 → List Str} {v1 v2 : Value} {l1 l2 : Led} {Q : Value → Shared → Prop} (h1 : TableL w f v1 l1) (h2 : TableL w f v2 l2) (m1 : ∀ p ∈ l1, s.heap.get? p.1 = some p.2) (m2 : ∀ p ∈ l2, s.heap.get? p.1 = some p.2) (hu : A.units + 2 < cLine)
    (h : Q (.bool false) s) : wpAny (model PG w) A (compareOp .NotEq v1 v2) Q E s := by
  obtain ⟨d1, es1, ep1, xs1, rs1, l1', rfl, rfl, hS1, he1, hn1, -, hne1, hr1, hf1⟩ := h1
  obtain ⟨d2, es2, ep2, xs2, rs2, l2', rfl, rfl, hS2, he2, hn2, -, hne2, hr2, hf2⟩ := h2
  have hkeys : ∀ q, q ∈ xs1.map (·.1) ↔ q ∈ xs2.map (·.1) := fun q => by
    rw [rows_keys hr1, rows_keys hr2, tf_mem hne1, tf_mem hne2, ← hf1, ← hf2]
  have hlen : xs1.length = xs2.length := by simpa using ((List.perm_ext_iff_of_nodup hn1 hn2).mpr hkeys).length_eq
  have hsz : es1.size = es2.size := by rw [size_of_entries he1, size_of_entries he2, hlen]
  have g1 : s.heap.get? d1 = some (dictO es1 ep1) := m1 _ (.head _)
  have g2 : s.heap.get? d2 = some (dictO es2 ep2) := m2 _ (.head _)
  refine dict_ne_rc hS1 hS2 g1 g2 hsz (by omega) (fun i e he => ?_) h
  rw [entry_at he1] at he
  obtain ⟨⟨ks, ka, v⟩, hx, rfl⟩ := Option.map_eq_some_iff.mp he
  obtain ⟨j, ⟨ka2, v2⟩, hx2⟩ := atKey_some ((hkeys ks).mp (List.mem_map.mpr ⟨_, List.mem_of_getElem? hx, rfl⟩))
  obtain ⟨_, va1, vs1, n1, lr1, e1, hs1, hp1, -⟩ := rows_open hr1 hn1 (atKey_of_get hn1 hx)
  obtain ⟨_, va2, vs2, n2, lr2, e2, hs2, hp2, -⟩ := rows_open hr2 hn2 (atKey_of_get hn2 hx2)
  injection e1 with _ e1
  injection e2 with _ e2
  subst e1; subst e2
  refine ⟨j, entryOfKey (tupleKind (mixK PG w)) (ks, ka2, .ref va2), by rw [entry_at he2, hx2]; rfl, fun E Q hq => ?_, ?_⟩
  · have is1 := rows_is hr1 (fun p hp => m1 p (.tail _ hp))
    have is2 := rows_is hr2 (fun p hp => m2 p (.tail _ hp))
    refine wpAny_dictFind_heap (knd := tupleKind (mixK PG w)) (xs := xs2) (tupleKind_room_in1 (by omega)) (is1 _ (List.mem_of_getElem? hx)) g2 rfl he2 is2 hn2 (fun hno => absurd hx2 (hno j _)) (fun j' p hj' => ?_)
    obtain rfl := idxH_unique hn2 hj' hx2
    exact hq
  · refine eqP_rc ⟨va1, rfl⟩ fun E Q hq => lists_rc (xs := f ks) (m1 _ (.tail _ (hp1.mem_iff.mpr (.head _)))) (m2 _ (.tail _ (hp2.mem_iff.mpr (.head _)))) (by rw [hf1]; exact hs1) (by rw [hf2]; exact hs2) (by show A.units + 1 < _; omega) hq
end Mine
end

section
open PySem PySem.W PyProof.Rows
set_option linter.constructorNameAsVariable false
set_option maxRecDepth 100000
namespace Mine

local macro_rules | `(tactic| walk_at "pyIter ref") => `(tactic| refine Stop.out ?_)
local macro_rules | `(tactic| walk_at "exec For Name Name") => `(tactic| refine Stop.out ?_)
local macro_rules | `(tactic| walk_at "eval Dict nil nil") => `(tactic| refine Stop.out ?_)
local macro_rules | `(tactic| walk_at "call ref") => `(tactic| refine Stop.out ?_)
local macro_rules | `(tactic| ktr_unf) => `(tactic| ((repeat' (first | walk1 | (dsimp only; walk1))); all_goals (try dsimp only)))
local macro_rules | `(tactic| tb_start) => `(tactic| (
  have hfill : ∀ h, (Mine.hd.heap_39 (World.params ‹World›)).In h → PySem.Challenge.rw_eq0024_01.row.prog = PySem.Challenge.rw_eq0024_01.row.prog := by
    k_fill
    exact fun _ _ => rfl
  clear hfill))
local macro_rules | `(tactic| ktr_rel) => `(tactic| (refine perm_of_sum fun f => ?_; simp only [List.map_append, List.map_cons, List.map_nil, List.sum_append, List.sum_cons, List.sum_nil]; omega))

inductive PartsL (w : World) : List Mine.T → List Value → Led → Prop
  | nil : PartsL w [] [] []
  | cons {a : Mine.T} {v : Value} {as : List Mine.T} {vs : List Value} {l l' : Led} : TreeL w 4 a v l → PartsL w as vs l' → PartsL w (a :: as) (v :: vs) (l ++ l')
theorem parts_len {w : World} {as : List Mine.T} {vs : List Value} {l : Led} (h : PartsL w as vs l) : as.length = vs.length := by
  induction h with
  | nil => rfl
  | cons _ _ ih => simp [ih]
theorem parts_get {w : World} {as : List Mine.T} {vs : List Value} {l : Led} (h : PartsL w as vs l) : ∀ {i : Nat} {v : Value}, vs[i]? = some v → ∃ a lv l1 l2, as[i]? = some a ∧ TreeL w 4 a v lv ∧ l = l1 ++ (lv ++ l2) := by
  induction h with
  | nil => intro i v h; simp at h
  | @cons a u as vs l l' ht _ ih =>
    intro i v h
    cases i with
    | zero => simp at h; subst h; exact ⟨a, l, [], l', rfl, ht, rfl⟩
    | succ i =>
      simp at h
      obtain ⟨b, lv, l1, l2, h1, h2, rfl⟩ := ih h
      exact ⟨b, lv, l ++ l1, l2, by simpa using h1, h2, by rw [List.append_assoc]⟩
theorem parts_app {w : World} {as bs : List Mine.T} {vs us : List Value} {l l' : Led} (h : PartsL w as vs l) (h' : PartsL w bs us l') : PartsL w (as ++ bs) (vs ++ us) (l ++ l') := by
  induction h with
  | nil => exact h'
  | cons ht _ ih => rw [List.append_assoc]; exact .cons ht ih
theorem parts_one {w : World} {a : Mine.T} {v : Value} {l : Led} (h : TreeL w 4 a v l) : PartsL w [a] [v] l := by
  have := PartsL.cons h .nil
  rwa [List.append_nil] at this

abbrev E0 : Mine.T := .dct fun _ => none
theorem E0_falsy : falsy E0 := fun _ => rfl
noncomputable def foldM (as : List Mine.T) : Mine.T := as.foldl (merge 4) E0
theorem bd_E0 (c : Nat) : bd 4 c E0 := fun k t h => nomatch h
theorem foldM_snoc (as : List Mine.T) (a : Mine.T) : foldM (as ++ [a]) = merge 4 (foldM as) a := by unfold foldM; rw [List.foldl_append]; rfl
theorem foldM_bd : ∀ (n : Nat) (as : List Mine.T), as.length = n → (∀ a ∈ as, bd 4 2 a) → bd 4 (2 * n) (foldM as) := by
  intro n
  induction n with
  | zero =>
    intro as h _
    obtain rfl := List.length_eq_zero_iff.mp h
    exact bd_E0 _
  | succ n ih =>
    intro as h hb
    have hne : as ≠ [] := fun e => by subst e; simp at h
    obtain ⟨bs, a, rfl⟩ : ∃ bs a, as = bs ++ [a] := ⟨as.dropLast, as.getLast hne, (List.dropLast_concat_getLast hne).symm⟩
    rw [foldM_snoc]
    have h1 := ih bs (by simpa using h) fun x hx => hb x (List.mem_append_left _ hx)
    exact bd_merge h1 (hb a (List.mem_append_right _ (.head _)))

theorem empty_tree {w : World} {d : Addr} {o : Obj} (hS : (d == sysModules) = false) (h : DictO PG w o [] 0) : TreeL w 4 E0 (.ref d) [(d, o)] := ⟨d, o, [], 0, [], [], rfl, rfl, hS, h, .nil, rfl⟩

set_option maxHeartbeats 1500000 in
theorem merged_spec {w : World} {as : List Mine.T} {vs : List Value} {lp : Led} {pl : Addr} {n : Nat} (hp : PartsL w as vs lp) (hb : ∀ a ∈ as, bd 4 2 a) (hlen : as.length ≤ 6) (rest : Led) :
    Spec w 86 [.ref pl] ((pl, listOf vs.toArray n) :: (lp ++ rest)) 8 140 (fun r l' => ∃ lr, TreeL w 4 (foldM as) r lr ∧ l' = lr ++ ((pl, listOf vs.toArray n) :: (lp ++ rest))) := by
  tb_start
  have hvl := parts_len hp
  refine Spec.intro (binds := [(Str.ofString "parts", .ref pl)]) (by k_is) (by k_is) (fun s => BindsTo.of_eq rfl) (locs rfl) rfl rfl rfl (by decide) ?_
  intro mean mg mb dp un gd outer A₀ base g L s Q hd hu B F X N D T hQ
  ktr_unf
  refine ⟨dict_new F N D T.nolimit fun d o h₁ hS hdo F₁ N₁ D₁ => ?_⟩
  ktr_unf
  refine ⟨?_⟩
  refine for_rule ?_
  ktr_unf
  rename News _ _ _ _ => N₂
  rename Fr _ _ _ _ => F₂
  refine ⟨list_iter (vs := vs) F₂ N₂ D₁ (.tail _ (.head _)) fun I oi h₁ hit F₃ N₃ D₃ => ?_⟩
  refine for_src (Src.list rfl I pl vs n) rfl rfl rfl
    (fun i m l => ∃ oo ww lw, m = (fun y => if y = Str.ofString "one" then oo else if y = Str.ofString "whole" then some ww else List.lookup y [(Str.ofString "parts", Value.ref pl)].reverse) ∧ TreeL w 4 (foldM (as.take i)) ww lw ∧ l = lw ++ ((pl, listOf vs.toArray n) :: (lp ++ rest)))
    (fun i m l h => by obtain ⟨_, _, _, _, _, rfl⟩ := h; exact List.mem_append_right _ (.head _)) ?_ _ ?_ _ 0 _ _ _ h₁ _ rfl (Nat.zero_le _) ⟨none, .ref d, [(d, o)], ?_, empty_tree hS hdo, rfl⟩ hit F₃ N₃ D₃
  · rintro i v m l oi' s₃ Q₃ hi hv ⟨oo, ww, lw, rfl, hW, rfl⟩ hit' F₄ N₄ D₄ k₃ - - -
    obtain ⟨a, lv, l1, l2, ha, hA, rfl⟩ := parts_get hp hv
    have hba : bd 4 2 a := hb a (List.mem_of_getElem? ha)
    have hbw : bd 4 12 (foldM (as.take i)) := bd_mono (Nat.le_refl _) (by simp; omega) (foldM_bd _ (as.take i) rfl fun x hx => hb x (List.mem_of_mem_take hx))
    ktr_unf
    have hp1 : ((I, oi') :: (lw ++ ((pl, listOf vs.toArray n) :: (l1 ++ (lv ++ l2) ++ rest)))).Perm (lv ++ ((I, oi') :: (lw ++ ((pl, listOf vs.toArray n) :: (l1 ++ l2 ++ rest))))) := by ktr_rel
    refine ⟨((copyl_spec 4 a v lv 2 hA hba (by omega) _).perm hp1).use B F₄ X N₄ D₄ T (by omega) (by omega) fun r l' h' tk' F₅ N₅ D₅ P => ?_⟩
    obtain ⟨lr, hR, rfl⟩ := P
    ktr_unf
    have hp2 : (lr ++ (lv ++ ((I, oi') :: (lw ++ ((pl, listOf vs.toArray n) :: (l1 ++ l2 ++ rest)))))).Perm (lw ++ (lr ++ ((I, oi') :: ((pl, listOf vs.toArray n) :: (l1 ++ (lv ++ l2) ++ rest))))) := by ktr_rel
    refine ⟨((merge_spec 4 (foldM (as.take i)) a ww r lw lr 12 2 hW hR hbw hba (by omega) _).perm hp2).use B F₅ X N₅ D₅ T (by omega) (by omega) fun r2 l' h' tk' F₆ N₆ D₆ P => ?_⟩
    obtain ⟨lr2, hR2, rfl⟩ := P
    ktr_unf
    rename News _ _ _ _ => N₇
    rename Fr _ _ _ _ => F₇
    have hp3 : (lr2 ++ ((I, oi') :: ((pl, listOf vs.toArray n) :: (l1 ++ (lv ++ l2) ++ rest)))).Perm ((I, oi') :: (lr2 ++ ((pl, listOf vs.toArray n) :: (l1 ++ (lv ++ l2) ++ rest)))) := by ktr_rel
    refine k₃ _ _ _ _ F₇ (news_perm hp3 N₇) (nd_perm hp3 D₆) ⟨some v, r2, lr2, ?_, by rw [take_snoc ha, foldM_snoc]; exact hR2, rfl⟩
    funext z
    have hne : Str.ofString "whole" ≠ Str.ofString "one" := by decide
    by_cases hz : z = Str.ofString "whole"
    · subst hz; simp [hne]
    · by_cases hz2 : z = Str.ofString "one" <;> simp [hz, hz2, hne.symm]
  · rintro m l h' tk' ⟨oo, ww, lw, rfl, hW, rfl⟩ F' N' D'
    dsimp only
    ktr_unf
    rw [← hvl, List.take_length] at hW
    exact hQ _ _ _ _ _ F' N' D' ⟨lw, hW, rfl⟩
  · funext y
    by_cases h1 : y = Str.ofString "one"
    · subst h1; rfl
    · simp [h1]
end Mine
end

section
open PySem PySem.W PyProof.Rows
set_option linter.constructorNameAsVariable false
set_option maxRecDepth 100000
namespace Mine

local macro_rules | `(tactic| walk_at "exec If") => `(tactic| refine Stop.out ?_)
local macro_rules | `(tactic| walk_at "setAttr ref") => `(tactic| refine Stop.out ?_)
local macro_rules | `(tactic| walk_at "call ref") => `(tactic| refine Stop.out ?_)
local macro_rules | `(tactic| walk_at "eval Dict") => `(tactic| refine Stop.out ?_)
local macro_rules | `(tactic| ktr_unf) => `(tactic| ((repeat' (first | walk1 | (dsimp only; walk1))); all_goals (try dsimp only)))
local macro_rules | `(tactic| tb_start) => `(tactic| (
  have hfill : ∀ h, (Mine.hd.heap_39 (World.params ‹World›)).In h → PySem.Challenge.rw_eq0024_01.row.prog = PySem.Challenge.rw_eq0024_01.row.prog := by
    k_fill
    exact fun _ _ => rfl
  clear hfill))
local macro_rules | `(tactic| ktr_rel) => `(tactic| (refine perm_of_sum fun f => ?_; simp only [List.map_append, List.map_cons, List.map_nil, List.sum_append, List.sum_cons, List.sum_nil]; omega))

/-- the contract of a def with defaults -/
theorem Spec.introM {w : World} {f : Addr} {args : List Value} {l : Led} {nd nu : Nat} {Post : Value → Led → Prop}
    {name qual : Str} {params : Arguments} {body : List Stmt} {scope : Scope} {dV kV doc pm cdv ct oc : Value} {an od : Option Addr} {osl : Array (Option Value)} {binds : List (Str × Value)}
    (ho : (Mine.hd.heap_39 w.params).lookup f = some ⟨oc, od, .func (fnOf name qual params body scope dV kV doc pm an cdv ct), osl⟩) (hcd : codeIn (Mine.hd.heap_39 w.params) cdv qual = true)
    (hbind : ∀ s, (Mine.hd.heap_39 w.params).In s.heap → BindsTo s (fnOf name qual params body scope dV kV doc pm an cdv ct) ⟨args, []⟩ binds) (hloc : ∀ y ∈ binds, scope.names.lookup y.1 = some .local)
    (hco : scope.isCoroutine = false) (hgen : scope.isGenerator = false) (hk : scope.kind = .function) (hcell : ∀ x ∈ scope.names, x.2 ≠ .cell)
    (h : ∀ (mean : ExcName → Option Value) (mg mb : Str → Option Value) (dp un : Nat) (gd : Option (List Code)) (outer : List Env) (A₀ : Around) (base g : Heap) (L : Addr) (s : Shared) (Q : Flow → Shared → Prop),
      dp + nd < recursionLimit + 1 → un + nu < cLine + 3 → Below A₀ base outer g → Fr g L s.heap (fun y => binds.reverse.lookup y) → (Mine.hd.heap_39 w.params).In g → News g L s.heap l → Nd l →
      Top Mine.hd.view_39 (looseW Mine.hd.view_39 [Str.ofString "ErrorStore"]) mean mg mb g →
      (∀ fl m' l' h' tk', Fr g L h' m' → News g L h' l' → Nd l' → Post (match fl with | .ret v => v | _ => .none) l' → Q fl { s with heap := h', toks := tk' }) →
      wpAny (model PG w) (AA dp un gd (envOf qual scope L f cdv) outer) (execs body (envOf qual scope L f cdv)) Q (fun _ _ => False) s) :
    Spec w f args l nd nu Post := by
  intro mean mg mb dp un gd env outer A₀ base h₀ L m s Q E hf hke B F X N D T hd hu hQ
  refine wpAny_call (code_def (A := AA dp un gd env outer) (env := env) (outer := outer) B F X N T rfl hf hke ho hcd (by show dp < _; omega) (hbind s (X.keeps F.keep)) hloc (fun g L' h₁ F0 F' N' B' X' T' => ?_) hco hgen hk hcell)
  refine wpAny_mono (Q := fun fl s' => ∃ m' l' h' tk', s' = { s with heap := h', toks := tk' } ∧ Fr g L' h' m' ∧ News g L' h' l' ∧ Nd l' ∧ Post (match fl with | .ret v => v | _ => .none) l')
    (h mean mg mb (dp + 1) (un + 3) gd (env :: outer) _ base g L' { s with heap := h₁, toks := s.toks + binds.length } _ (by omega) (by omega) B' F' X' N' D T'
      (fun fl m' l' h' tk' F1 N1 D1 P1 => ⟨m', l', h', tk', rfl, F1, N1, D1, P1⟩)) (fun fl s' hq => ?_) (fun _ _ x => x.elim)
  obtain ⟨m', l', h', tk', rfl, F1, N1, D1, P1⟩ := hq
  refine leaveK_ F1 N1 fun F2 N2 => ?_
  exact hQ _ l' h' tk' F2 N2 D1 P1

theorem forL_mono {R R' : Mine.T → Value → Led → Prop} (h : ∀ t v l, R t v l → R' t v l) {es : List (K5 × Mine.T)} {kvs : List (K5 × Value)} {l : Led} (hf : ForL R es kvs l) : ForL R' es kvs l := by
  induction hf with
  | nil => exact .nil
  | cons hr _ ih => exact .cons (h _ _ _ hr) ih
theorem tree_mono {w : World} : ∀ {n m : Nat} {a : Mine.T} {v : Value} {l : Led}, n ≤ m → TreeL w n a v l → TreeL w m a v l := by
  intro n
  induction n with
  | zero =>
    intro m a v l _ h
    cases a with
    | leaf x => exact tl_leaf.mpr (tl_leaf.mp h)
    | dct f => exact h.elim
  | succ n ih =>
    intro m a v l hm h
    cases a with
    | leaf x => exact tl_leaf.mpr (tl_leaf.mp h)
    | dct f =>
      cases m with
      | zero => omega
      | succ m =>
        obtain ⟨d, o, kvs, ep, es, l', rfl, rfl, hS, hdo, hfor, hlk⟩ := h
        exact ⟨d, o, kvs, ep, es, l', rfl, rfl, hS, hdo, forL_mono (fun t v l h => ih (by omega) h) hfor, hlk⟩

def oneT (k : K5) (a : Mine.T) : Mine.T := .dct (upd (fun _ => none) k a)
def wrap1 (a : Mine.T) (k : K5) : Mine.T := match a with
  | .dct f => if k = .S then .dct f else oneT k (.dct f)
  | .leaf x => oneT k (.leaf x)
def wrap2 (b : Mine.T) : Option K5 → Mine.T
  | none => b
  | some k => oneT k b
theorem one_tree {w : World} {n : Nat} {a : Mine.T} {v : Value} {l : Led} {d : Addr} {o : Obj} {k : K5} {ep : Nat} (h : TreeL w n a v l) (hS : (d == sysModules) = false) (hd : DictO PG w o [(k, v)] ep) : TreeL w (n + 1) (oneT k a) (.ref d) ((d, o) :: l) :=
  ⟨d, o, _, ep, [(k, a)], l, rfl, rfl, hS, hd, forL_one h, lk_app (es := []) (k := k) (t' := a) (by simp)⟩
theorem bd_one {n c : Nat} {a : Mine.T} {k : K5} (h : bd n c a) : bd (n + 1) c (oneT k a) := by
  intro k' t ht
  by_cases hk : k' = k
  · subst hk; rw [upd_same] at ht; injection ht with ht; subst ht; exact h
  · rw [upd_ne _ _ hk] at ht; exact nomatch ht

section
variable {prog : Program} {w : World} {A : Around} {E : Value → Shared → Prop} {s : Shared} {h₀ : Heap} {L d : Addr} {m : Str → Option Value} {l : Led}
theorem dict_one {env : Env} {pos : Pos} {ke ve : PySem.Expr} {k : K5} {key v : Value} {Q : Value → Shared → Prop} (hk : (mixK prog w).is k key = true) (F : Fr h₀ L s.heap m) (N : News h₀ L s.heap l) (D : Nd l) (hbig : h₀.NoLimit)
    (ek : ∀ h' (E : Value → Shared → Prop) (Q : Value → Shared → Prop), Fr h₀ L h' m → Q key { s with heap := h' } → wpAny (model prog w) A (eval ke env) Q E { s with heap := h' })
    (ev : ∀ h' (E : Value → Shared → Prop) (Q : Value → Shared → Prop), Fr h₀ L h' m → Q v { s with heap := h' } → wpAny (model prog w) A (eval ve env) Q E { s with heap := h' })
    (h : ∀ d o ep h' tk', (d == sysModules) = false → DictO prog w o [(k, v)] ep → Fr h₀ L h' m → News h₀ L h' ((d, o) :: l) → Nd ((d, o) :: l) → Q (.ref d) { s with heap := h', toks := tk' }) :
    wpAny (model prog w) A (eval (.Dict [some ke] [ve] pos) env) Q E s := by
  have q := led_push F N D ({ cls := .type "dict", data := .dict #[] } : Obj)
  refine wpAny_Dict_pairs (knd := mixK prog w) (pairs := [(eval ke env, do let x ← eval ve env; standAt pos; pure x)]) rfl (by simp) (by simp) ?_
  unfold evalPairs
  refine wpAny_bind (ek _ _ _ q.1 (wpAny_bind (wpAny_holding (wpAny_bind (ev _ _ _ q.1 (wpAny_bind (wpAny_standAt (wpAny_pure ?_))))))))
  refine wpAny_bind (wpAny_holding (wpAny_pure (wpAny_pure ?_)))
  refine ⟨[(k, v)], ⟨hk, rfl, trivial⟩, Heap.DictOf.new s.heap, fun h' hd' hs' => ?_⟩
  obtain ⟨o, ep, ho, hd⟩ := DictO.ofOf hd'
  have u := led_upd q.1 q.2.1 q.2.2 hs' ho
  exact h _ o ep h' _ (low_of F hbig) hd u.1 u.2 (nd_same q.2.2)
end

/-- the value of an index, or none -/
def IxIs : Option K5 → Value → Prop
  | none, v => v = .none
  | some k, v => K5.is k v = true ∧ ∃ i t, v = .int i t

theorem ne_schema {k : K5} {fs : Str} (h : K5.str k = some fs) (e : (fs != Str.ofString "_schema") = true) : k ≠ .S := fun q => by
  subst q
  have : fs = Str.ofString "_schema" := by injection h.symm
  rw [this] at e; exact absurd e (by decide)
theorem eq_schema {k : K5} {fs : Str} (h : K5.str k = some fs) (e : (fs != Str.ofString "_schema") = false) : k = .S := by
  refine K5.str_inj h ?_
  have : fs = Str.ofString "_schema" := by simpa using e
  rw [this]; rfl

theorem fr_cong {h₀ h : Heap} {L : Addr} {m m' : Str → Option Value} (F : Fr h₀ L h m) (e : ∀ y, m y = m' y) : Fr h₀ L h m' := by
  have : m = m' := funext e
  rw [← this]; exact F

set_option maxHeartbeats 1500000 in
theorem store_spec {w : World} {x dx : Addr} {hsh : Int} {te tf : Tok} {sd : Addr} {mv iv : Value} {en c : Nat} {sa a : Mine.T} {ls l : Led} {fk : K5} {fs : Str} {ix : Option K5} (hst : TreeL w 4 sa (.ref sd) ls) (hsb : bd 4 c sa) (hc : c ≤ 900) (hmt : TreeL w 2 a mv l) (hmb : bd 2 2 a) (hfk : K5.str fk = some fs) (hix : IxIs ix iv) (rest : Led) :
    Spec w 36 [.ref x, mv, .str fs tf, iv] ((x, instObj 39 dx) :: (dx, dictOf [⟨hsh, .str (Str.ofString "errors") te, .ref sd⟩] en) :: (ls ++ (l ++ rest))) 9 160
      (fun r l' => r = .none ∧ ∃ sv' en' ls', TreeL w 4 (merge 4 sa (wrap2 (wrap1 a fk) ix)) sv' ls' ∧ l' = (x, instObj 39 dx) :: (dx, dictOf [⟨hsh, .str (Str.ofString "errors") te, sv'⟩] en') :: (ls' ++ (l ++ rest))) := by
  tb_start
  refine Spec.introM (binds := [(Str.ofString "self", .ref x), (Str.ofString "messages", mv), (Str.ofString "field_name", .str fs tf), (Str.ofString "index", iv)]) (by k_is) (by k_is) (fun s hX => binds_K hX rfl (by k_is) rfl rfl rfl) (locs rfl) rfl rfl rfl (by decide) ?_
  intro mean mg mb dp un gd outer A₀ base g L s Q hd hu B F X N D T hQ
  ktr_unf
  have hp1 : ((x, instObj 39 dx) :: (dx, dictOf [⟨hsh, .str (Str.ofString "errors") te, .ref sd⟩] en) :: (ls ++ (l ++ rest))).Perm (l ++ ((x, instObj 39 dx) :: (dx, dictOf [⟨hsh, .str (Str.ofString "errors") te, .ref sd⟩] en) :: (ls ++ rest))) := by ktr_rel
  refine ⟨((copyc_spec 2 a mv l 2 hmt hmb (by omega) _).perm hp1).use B F X N D T (by omega) (by omega) fun r l' h' tk' F₁ N₁ D₁ P => ?_⟩
  obtain ⟨lr, hR, rfl⟩ := P
  have hp2 : (lr ++ (l ++ ((x, instObj 39 dx) :: (dx, dictOf [⟨hsh, .str (Str.ofString "errors") te, .ref sd⟩] en) :: (ls ++ rest)))).Perm (lr ++ ((x, instObj 39 dx) :: (dx, dictOf [⟨hsh, .str (Str.ofString "errors") te, .ref sd⟩] en) :: (ls ++ (l ++ rest)))) := by ktr_rel
  replace N₁ := news_perm hp2 N₁
  replace D₁ := nd_perm hp2 D₁
  ktr_unf
  rename News _ _ _ _ => N₂
  rename Fr _ _ _ _ => F₂
  refine ⟨wpAny_mono (Q := fun fl s' => Stop (∃ v' lb h' tk', fl = Flow.next ∧ s' = { s with heap := h', toks := tk' } ∧ Fr g L h' (fun y => if y = Str.ofString "messages" then some v' else List.lookup y [(Str.ofString "self", Value.ref x), (Str.ofString "messages", mv), (Str.ofString "field_name", Value.str fs tf), (Str.ofString "index", iv)].reverse) ∧
    News g L h' (lb ++ ((x, instObj 39 dx) :: (dx, dictOf [⟨hsh, .str (Str.ofString "errors") te, .ref sd⟩] en) :: (ls ++ (l ++ rest)))) ∧ Nd (lb ++ ((x, instObj 39 dx) :: (dx, dictOf [⟨hsh, .str (Str.ofString "errors") te, .ref sd⟩] en) :: (ls ++ (l ++ rest)))) ∧ TreeL w 3 (wrap1 a fk) v' lb)) ?_ (fun fl s' h => ?_) (fun _ _ e => e)⟩
  · refine wpAny_If ?_
    have hkey : (mixK PG w).is fk (.str fs tf) = true := by show (K5.str fk == some fs) = true; rw [hfk]; simp
    rcases a with xl | fd
    · have hR' := hR
      cases xl with
      | none => exact ((tl_leaf (x := .none)).mp hR).elim
      | str xs =>
        obtain ⟨⟨t, rfl⟩, rfl, h0⟩ := (tl_leaf (x := .str xs)).mp hR
        ktr_unf
        all_goals
          refine ⟨dict_one (v := (.str xs t)) hkey F₂ N₂ D₁ T.nolimit (fun h' E Q F q => ?_) (fun h' E Q F q => ?_) fun d o ep h' tk' hS hdo F₃ N₃ D₃ => ?_⟩
          · ktr_unf
            exact q
          · ktr_unf
            exact q
          clear F₂ N₂
          ktr_unf
          rename News _ _ _ _ => N₄
          rename Fr _ _ _ _ => F₄
          refine ⟨⟨.ref d, _, _, _, rfl, rfl, fr_cong F₄ fun y => ?_, N₄, D₃, one_tree hR' hS hdo⟩⟩
          by_cases hy : y = Str.ofString "messages" <;> simp [hy]
      | lst xs =>
        obtain ⟨b, vs, nb, rfl, rfl, hv⟩ := (tl_leaf (x := .lst xs)).mp hR
        simp only [List.cons_append, List.nil_append] at N₂ D₁
        ktr_unf
        all_goals
          refine ⟨dict_one (v := (.ref b)) hkey F₂ N₂ D₁ T.nolimit (fun h' E Q F q => ?_) (fun h' E Q F q => ?_) fun d o ep h' tk' hS hdo F₃ N₃ D₃ => ?_⟩
          · ktr_unf
            exact q
          · ktr_unf
            exact q
          clear F₂ N₂
          ktr_unf
          rename News _ _ _ _ => N₄
          rename Fr _ _ _ _ => F₄
          refine ⟨⟨.ref d, _, _, _, rfl, rfl, fr_cong F₄ fun y => ?_, N₄, D₃, one_tree hR' hS hdo⟩⟩
          by_cases hy : y = Str.ofString "messages" <;> simp [hy]
    · have hR' := hR
      obtain ⟨d0, o0, kvs, ep0, es, l', rfl, rfl, hS0, hdo0, hfor, hlk⟩ := hR
      obtain ⟨des, rfl⟩ := hdo0.obj
      simp only [List.cons_append] at N₂ D₁
      ktr_unf
      · rename (_ = true) => hne
        have hw : wrap1 (.dct fd) fk = oneT fk (.dct fd) := by rw [wrap1, if_neg (ne_schema hfk hne)]
        rw [hw]
        refine ⟨dict_one (v := (.ref d0)) hkey F₂ N₂ D₁ T.nolimit (fun h' E Q F q => ?_) (fun h' E Q F q => ?_) fun d o ep h' tk' hS hdo F₃ N₃ D₃ => ?_⟩
        · ktr_unf
          exact q
        · ktr_unf
          exact q
        clear F₂ N₂
        ktr_unf
        rename News _ _ _ _ => N₄
        rename Fr _ _ _ _ => F₄
        refine ⟨⟨.ref d, _, _, _, rfl, rfl, fr_cong F₄ fun y => ?_, N₄, D₃, one_tree hR' hS hdo⟩⟩
        by_cases hy : y = Str.ofString "messages" <;> simp [hy]
      · rename (_ = false) => hne
        have hw : wrap1 (.dct fd) fk = .dct fd := by rw [wrap1, if_pos (eq_schema hfk hne)]
        rw [hw]
        exact ⟨⟨.ref d0, _ :: l', _, _, rfl, rfl, F₂, N₂, D₁, tree_mono (by omega) hR'⟩⟩
  · obtain ⟨⟨v1, lb, h', tk', rfl, rfl, F₃, N₃, D₃, hW⟩⟩ := h
    clear F₂ N₂ D₁
    dsimp only
    ktr_unf
    rename News _ _ _ _ => N₂
    rename Fr _ _ _ _ => F₂
    have D₁ := D₃
    refine ⟨wpAny_mono (Q := fun fl s' => Stop (∃ v' lb h' tk', fl = Flow.next ∧ s' = { s with heap := h', toks := tk' } ∧ Fr g L h' (fun y => if y = Str.ofString "messages" then some v' else List.lookup y [(Str.ofString "self", Value.ref x), (Str.ofString "messages", mv), (Str.ofString "field_name", Value.str fs tf), (Str.ofString "index", iv)].reverse) ∧
      News g L h' (lb ++ ((x, instObj 39 dx) :: (dx, dictOf [⟨hsh, .str (Str.ofString "errors") te, .ref sd⟩] en) :: (ls ++ (l ++ rest)))) ∧ Nd (lb ++ ((x, instObj 39 dx) :: (dx, dictOf [⟨hsh, .str (Str.ofString "errors") te, .ref sd⟩] en) :: (ls ++ (l ++ rest)))) ∧ TreeL w 4 (wrap2 (wrap1 a fk) ix) v' lb)) ?_ (fun fl s' h => ?_) (fun _ _ e => e)⟩
    · refine wpAny_If ?_
      cases ix with
      | none =>
        obtain rfl : iv = .none := hix
        ktr_unf
        exact ⟨⟨v1, lb, _, _, rfl, rfl, F₂, N₂, D₁, tree_mono (by omega) hW⟩⟩
      | some k =>
        obtain ⟨hkey0, i, ti, rfl⟩ := hix
        have hkey : (mixK PG w).is k (.int i ti) = true := hkey0
        ktr_unf
        refine ⟨dict_one (v := v1) hkey F₂ N₂ D₁ T.nolimit (fun h' E Q F q => ?_) (fun h' E Q F q => ?_) fun d o ep h' tk' hS hdo F₃ N₃ D₃ => ?_⟩
        · ktr_unf
          exact q
        · ktr_unf
          exact q
        clear F₂ N₂
        ktr_unf
        rename News _ _ _ _ => N₄
        rename Fr _ _ _ _ => F₄
        refine ⟨⟨.ref d, _, _, _, rfl, rfl, fr_cong F₄ fun y => ?_, N₄, D₃, one_tree hW hS hdo⟩⟩
        by_cases hy : y = Str.ofString "messages" <;> simp [hy]
    · obtain ⟨⟨v2, lb2, h', tk', rfl, rfl, F₄, N₄, D₄, hW2⟩⟩ := h
      dsimp only
      have hp3 : (lb2 ++ ((x, instObj 39 dx) :: (dx, dictOf [⟨hsh, .str (Str.ofString "errors") te, .ref sd⟩] en) :: (ls ++ (l ++ rest)))).Perm (((x, instObj 39 dx) :: (dx, dictOf [⟨hsh, .str (Str.ofString "errors") te, .ref sd⟩] en) :: (ls ++ (lb2 ++ (l ++ rest))))) := by ktr_rel
      replace N₄ := news_perm hp3 N₄
      replace D₄ := nd_perm hp3 D₄
      ktr_unf
      have hbw : bd 4 2 (wrap2 (wrap1 a fk) ix) := by
        have h1 : bd 3 2 (wrap1 a fk) := by
          cases a with
          | leaf x => exact bd_one hmb
          | dct f =>
            unfold wrap1
            dsimp only
            split
            · exact bd_mono (by omega) (Nat.le_refl _) hmb
            · exact bd_one hmb
        cases ix with
        | none => exact bd_mono (by omega) (Nat.le_refl _) h1
        | some k => exact bd_one h1
      have hp4 : ((x, instObj 39 dx) :: (dx, dictOf [⟨hsh, .str (Str.ofString "errors") te, .ref sd⟩] en) :: (ls ++ (lb2 ++ (l ++ rest)))).Perm (ls ++ (lb2 ++ ((x, instObj 39 dx) :: (dx, dictOf [⟨hsh, .str (Str.ofString "errors") te, .ref sd⟩] en) :: (l ++ rest)))) := by ktr_rel
      refine ⟨((merge_spec 4 sa (wrap2 (wrap1 a fk) ix) (.ref sd) v2 ls lb2 c 2 hst hW2 hsb hbw (by omega) _).perm hp4).use B F₄ X N₄ D₄ T (by omega) (by omega) fun r l' h' tk' F₅ N₅ D₅ P => ?_⟩
      obtain ⟨lr2, hR2, rfl⟩ := P
      have hp5 : (lr2 ++ ((x, instObj 39 dx) :: (dx, dictOf [⟨hsh, .str (Str.ofString "errors") te, .ref sd⟩] en) :: (l ++ rest))).Perm ((x, instObj 39 dx) :: (dx, dictOf [⟨hsh, .str (Str.ofString "errors") te, .ref sd⟩] en) :: (lr2 ++ (l ++ rest))) := by ktr_rel
      replace N₅ := news_perm hp5 N₅
      replace D₅ := nd_perm hp5 D₅
      ktr_unf
      refine ⟨set_dict F₅ X N₅ (InstAt.of_news N₅ (.head _) (.tail _ (.head _))) rfl (by k_is) (by k_is) (by k_is) (by k_is) rfl rfl (Upd.tail (fun e => (nd_off D₅) _ (.head _) e.symm) (Upd.head (nd_off (nd_tail D₅)))) (show 1 ≤ 1000 by decide) fun h'' F₆ N₆ => ?_⟩
      ktr_unf
      exact hQ _ _ _ _ _ F₆ N₆ D₅ ⟨rfl, r, _, lr2, hR2, rfl⟩
end Mine
end

section
open PySem PySem.W PyProof.Rows
set_option linter.constructorNameAsVariable false
set_option maxRecDepth 100000
namespace Mine

def isD (a : Mine.T) : Prop := ∃ f, a = .dct f
theorem isD_E0 : isD E0 := ⟨_, rfl⟩
theorem isD_merge {a b : Mine.T} (ha : isD a) (hb : isD b) : isD (merge 4 a b) := by
  obtain ⟨f, rfl⟩ := ha
  obtain ⟨g, rfl⟩ := hb
  by_cases h1 : falsy (.dct f)
  · rw [merge_l _ h1]; exact ⟨_, rfl⟩
  · by_cases h2 : falsy (.dct g)
    · rw [merge_r h1 h2]; exact ⟨_, rfl⟩
    · rw [merge_dd h1 h2]; exact ⟨_, rfl⟩
theorem merge_E0_l (b : Mine.T) : merge 4 E0 b = b := merge_l _ E0_falsy
theorem merge_E0_r {a : Mine.T} (ha : isD a) : merge 4 a E0 = a := by
  obtain ⟨f, rfl⟩ := ha
  by_cases h : falsy (.dct f)
  · rw [merge_l _ h]
    have : f = fun _ => none := funext h
    rw [this]
  · exact merge_r h E0_falsy
theorem foldM_one (a : Mine.T) : foldM [a] = a := by show merge 4 E0 a = a; exact merge_E0_l a
theorem snoc_of {α : Type} {l : List α} (h : l ≠ []) : ∃ m a, l = m ++ [a] := ⟨l.dropLast, l.getLast h, (List.dropLast_concat_getLast h).symm⟩
theorem foldM_isD : ∀ (n : Nat) (as : List Mine.T), as.length = n → (∀ a ∈ as, isD a) → isD (foldM as) := by
  intro n
  induction n with
  | zero =>
    intro as h _
    obtain rfl := List.length_eq_zero_iff.mp h
    exact isD_E0
  | succ n ih =>
    intro as h hb
    obtain ⟨bs, a, rfl⟩ := snoc_of (l := as) (fun e => by subst e; simp at h)
    rw [foldM_snoc]
    exact isD_merge (ih bs (by simpa using h) fun x hx => hb x (List.mem_append_left _ hx)) (hb a (List.mem_append_right _ (.head _)))
theorem foldM_dp (as : List Mine.T) (h : ∀ a ∈ as, bd 4 2 a) : dp 4 (foldM as) := bd_dp (foldM_bd _ as rfl h)
theorem foldM_app (as : List Mine.T) : ∀ (n : Nat) (bs : List Mine.T), bs.length = n → (∀ a ∈ as, isD a ∧ bd 4 2 a) → (∀ a ∈ bs, isD a ∧ bd 4 2 a) → foldM (as ++ bs) = merge 4 (foldM as) (foldM bs) := by
  intro n
  induction n with
  | zero =>
    intro bs h ha _
    obtain rfl := List.length_eq_zero_iff.mp h
    rw [List.append_nil]
    exact (merge_E0_r (foldM_isD _ as rfl fun a q => (ha a q).1)).symm
  | succ n ih =>
    intro bs h ha hb
    obtain ⟨cs, b, rfl⟩ := snoc_of (l := bs) (fun e => by subst e; simp at h)
    rw [← List.append_assoc, foldM_snoc, foldM_snoc, ih cs (by simpa using h) ha fun x hx => hb x (List.mem_append_left _ hx)]
    exact merge_assoc 4 _ _ _ (foldM_dp as fun a q => (ha a q).2) (foldM_dp cs fun a q => (hb a (List.mem_append_left _ q)).2) (bd_dp (hb b (List.mem_append_right _ (.head _))).2)
theorem foldM_cons {a : Mine.T} {as : List Mine.T} (ha : isD a ∧ bd 4 2 a) (has : ∀ a ∈ as, isD a ∧ bd 4 2 a) : foldM (a :: as) = merge 4 a (foldM as) := by
  have := foldM_app [a] _ as rfl (fun x hx => by simp only [List.mem_singleton] at hx; subst hx; exact ha) has
  rwa [foldM_one] at this

theorem isD_wrap (a : Mine.T) (k : K5) (ix : Option K5) : isD (wrap2 (wrap1 a k) ix) := by
  cases ix with
  | some k => exact ⟨_, rfl⟩
  | none =>
    cases a with
    | leaf x => exact ⟨_, rfl⟩
    | dct f =>
      show isD (wrap1 (.dct f) k)
      unfold wrap1
      dsimp only
      split <;> exact ⟨_, rfl⟩
theorem bd_wrap {a : Mine.T} {k : K5} {ix : Option K5} (h : bd 2 2 a) : bd 4 2 (wrap2 (wrap1 a k) ix) := by
  have h1 : bd 3 2 (wrap1 a k) := by
    cases a with
    | leaf x => exact bd_one h
    | dct f =>
      unfold wrap1
      dsimp only
      split
      · exact bd_mono (by omega) (Nat.le_refl _) h
      · exact bd_one h
  cases ix with
  | none => exact bd_mono (by omega) (Nat.le_refl _) h1
  | some k => exact bd_one h1

theorem ctr_E0 : ctr 4 E0 [] = fun _ => [] := by
  funext q
  have hf : falsy E0 := E0_falsy
  by_cases h : normal q
  · rw [(ctr_top 4 E0 q).1 h]; exact rdAt_falsy hf
  · exact (ctr_top 4 E0 q).2 h

theorem table_new {w : World} {d : Addr} {o : Obj} (hS : (d == sysModules) = false) (h : DictO PG w o [] 0) : TableL w (fun _ => []) (.ref d) [(d, o)] := by
  obtain ⟨es, rfl, _, hp, _⟩ := h.dict
  have he : es.toList = [] := List.length_eq_zero_iff.mp hp.length
  exact ⟨d, es, 0, [], [], [], rfl, rfl, hS, he, List.nodup_nil, (fun _ h => nomatch h), (fun _ h => nomatch h), .nil, rfl⟩

/-- a message is as its copy -/
theorem tree_neq {w : World} {A : Around} {E : Value → Shared → Prop} {s : Shared} {n : Nat} {a : Mine.T} {v1 v2 : Value} {l1 l2 : Led} {Q : Value → Shared → Prop} (h1 : TreeL w n a v1 l1) (h2 : TreeL w n a v2 l2) (m1 : ∀ p ∈ l1, s.heap.get? p.1 = some p.2) (m2 : ∀ p ∈ l2, s.heap.get? p.1 = some p.2) (hu : A.units + n < cLine)
    (h : Q (.bool false) s) : wpAny (model PG w) A (compareOp .NotEq v1 v2) Q E s := by
  cases a with
  | dct f => exact tree_ne h1 h2 m1 m2 hu h
  | leaf x =>
    have h1 := tl_leaf.mp h1
    have h2 := tl_leaf.mp h2
    cases x with
    | none => exact h1.elim
    | str x =>
      obtain ⟨⟨t, rfl⟩, _, _⟩ := h1
      obtain ⟨⟨t', rfl⟩, _, _⟩ := h2
      exact ne_str (by simpa using h)
    | lst xs =>
      obtain ⟨a, vs, k, rfl, rfl, hv⟩ := h1
      obtain ⟨b, us, k', rfl, rfl, hus⟩ := h2
      have e1 := strs_len hv
      have e2 := strs_len hus
      refine SeqAt.RcNeAt.lists (e := fun _ => true) (PySem.IsL.isList (n := k) (m1 _ (.head _))) (PySem.IsL.isList (n := k') (m2 _ (.head _))) (by simp; omega) (by omega) (fun j h1 h2 => ?_) PG w E Q (by rw [show ((List.range vs.toArray.size).all fun _ => true) = true from List.all_eq_true.mpr fun _ _ => rfl]; exact h)
      have j1 : j < vs.length := by simpa using h1
      have j2 : j < us.length := by simpa using h2
      obtain ⟨t, e3⟩ := strs_get_some hv j j1 (by omega)
      obtain ⟨t', e4⟩ := strs_get_some hus j j2 (by omega)
      have := SeqAt.EqAt.str_str (A := A.in1) (s := s) (xs[j]'(by omega)) t (xs[j]'(by omega)) t'
      rw [beq_self_eq_true] at this
      simpa [e3, e4] using this

theorem pick3 {x : Int} (h0 : 0 ≤ x) (h3 : x < 3) (t1 t2 t3 : Tok) : ∃ fs tf k, ([.str (Str.ofString "_schema") t1, .str (Str.ofString "a") t2, .str (Str.ofString "b") t3] : List Value)[x.toNat]? = some (.str fs tf) ∧ K5.str k = some fs := by
  have : x = 0 ∨ x = 1 ∨ x = 2 := by omega
  rcases this with rfl | rfl | rfl
  · exact ⟨_, _, .S, rfl, rfl⟩
  · exact ⟨_, _, .a, rfl, rfl⟩
  · exact ⟨_, _, .b, rfl, rfl⟩
theorem pickI {x : Int} (h0 : 0 ≤ x) (h4 : x < 4) (t1 t2 : Tok) : ∃ iv ix, ([.none, .none, .int 0 t1, .int 1 t2] : List Value)[x.toNat]? = some iv ∧ IxIs ix iv := by
  have : x = 0 ∨ x = 1 ∨ x = 2 ∨ x = 3 := by omega
  rcases this with rfl | rfl | rfl | rfl
  · exact ⟨_, none, rfl, rfl⟩
  · exact ⟨_, none, rfl, rfl⟩
  · exact ⟨_, some .i0, rfl, by show (K5.int _ == some _) = true; decide, _, _, rfl⟩
  · exact ⟨_, some .i1, rfl, by show (K5.int _ == some _) = true; decide, _, _, rfl⟩
theorem parts_take {w : World} {as : List Mine.T} {vs : List Value} {l : Led} (h : PartsL w as vs l) : ∀ k : Nat, ∃ l1 l2, PartsL w (as.take k) (vs.take k) l1 ∧ PartsL w (as.drop k) (vs.drop k) l2 ∧ l = l1 ++ l2 := by
  induction h with
  | nil => intro k; exact ⟨[], [], by simpa using .nil, by simpa using .nil, rfl⟩
  | @cons a v as vs l l' ht hr ih =>
    intro k
    cases k with
    | zero => exact ⟨[], _, .nil, .cons ht hr, rfl⟩
    | succ k =>
      obtain ⟨l1, l2, h1, h2, rfl⟩ := ih k
      exact ⟨l ++ l1, l2, .cons ht h1, h2, by rw [List.append_assoc]⟩
end Mine
end

section
open PySem PySem.W PyProof.Rows
set_option linter.constructorNameAsVariable false
set_option maxRecDepth 100000
namespace Mine

local macro_rules | `(tactic| walk_at "pyIter ref") => `(tactic| refine Stop.out ?_)
local macro_rules | `(tactic| walk_at "exec For Name Name") => `(tactic| refine Stop.out ?_)
local macro_rules | `(tactic| walk_at "exec For Name Subscript") => `(tactic| refine Stop.out ?_)
local macro_rules | `(tactic| walk_at "exec For Name Call cons nil") => `(tactic| refine Stop.out ?_)
local macro_rules | `(tactic| walk_at "eval Dict") => `(tactic| refine Stop.out ?_)
local macro_rules | `(tactic| walk_at "eval Dict nil nil") => `(tactic| refine Stop.out ?_)
local macro_rules | `(tactic| walk_at "setAttr ref") => `(tactic| refine Stop.out ?_)
local macro_rules | `(tactic| walk_at "call ref") => `(tactic| ((fail_if_success (with_reducible show wpAny _ _ (call (Value.ref 39) _) _ _ _)); refine Stop.out ?_))
local macro_rules | `(tactic| walk_at "exec If") => `(tactic| refine Stop.out ?_)
local macro_rules | `(tactic| walk_at "compareOp Eq") => `(tactic| refine Stop.out ?_)
local macro_rules | `(tactic| walk_at "compareOp Eq ref ref") => `(tactic| refine Stop.out ?_)
local macro_rules | `(tactic| walk_at "compareOp NotEq") => `(tactic| refine Stop.out ?_)
local macro_rules | `(tactic| walk_at "subscriptTail Tuple") => `(tactic| refine Stop.out ?_)
local macro_rules | `(tactic| walk_at "subscriptTail") => `(tactic| refine Stop.out ?_)
local macro_rules | `(tactic| walk_at "subscriptTail Name Slice ref ref") => `(tactic| ((fail_if_success (with_reducible show wpAny _ _ (subscriptTail (PySem.Expr.Name (Str.ofString "script") _) _ _ _) _ _ _)); refine Stop.out ?_))
local macro_rules | `(tactic| walk_at "getMethod ref") => `(tactic| refine mth_lapp (by assumption) (by k_mem) ?_)
local macro_rules | `(tactic| walk_at "call builtin:len") => `(tactic| refine Stop.out ?_)
local macro_rules | `(tactic| walk_at "call builtin:list.append") => `(tactic| refine Stop.out ?_)
local macro_rules | `(tactic| ktr_unf) => `(tactic| ((repeat' (first | walk1 | (dsimp only; walk1))); all_goals (try dsimp only)))
local macro_rules | `(tactic| ktr_rel) => `(tactic| (refine perm_of_sum fun f => ?_; simp only [List.map_append, List.map_cons, List.map_nil, List.sum_append, List.sum_cons, List.sum_nil]; omega))

section
variable {prog : Program} {w : World} {A : Around} {E : Value → Shared → Prop} {s : Shared} {h₀ : Heap} {L tp : Addr} {l : Led} {value slice : PySem.Expr} {x : Int} {t t1 t2 t3 : Tok} {Q : Value → Shared → Prop}
theorem item3 (N : News h₀ L s.heap ((tp, ({ cls := .type "tuple", data := .seq #[.str (Str.ofString "_schema") t1, .str (Str.ofString "a") t2, .str (Str.ofString "b") t3] } : Obj)) :: l)) (h0 : 0 ≤ x) (h3 : x < 3) (k : ∀ fs tf fk, K5.str fk = some fs → Q (.str fs tf) s)
    (hs : subscripted slice false (.ref tp) (.int x t) = operate [.ref tp, .int x t] (getItem (.ref tp) (.int x t)) := by with_unfolding_all rfl) : wpAny (model prog w) A (subscriptTail value slice (.ref tp) (.int x t)) Q E s := by
  obtain ⟨fs, tf, fk, hget, hfk⟩ := pick3 h0 h3 t1 t2 t3
  exact item_tupleT (l := [_, _, _]) (News.isTup N (.head _)) (by omega) (by omega) (seqIndex_of h0 (show x < 3 by omega)) hget (k fs tf fk hfk) hs
theorem itemI (N : News h₀ L s.heap ((tp, ({ cls := .type "tuple", data := .seq #[.none, .none, .int 0 t1, .int 1 t2] } : Obj)) :: l)) (h0 : 0 ≤ x) (h4 : x < 4) (k : ∀ iv ix, IxIs ix iv → Q iv s)
    (hs : subscripted slice false (.ref tp) (.int x t) = operate [.ref tp, .int x t] (getItem (.ref tp) (.int x t)) := by with_unfolding_all rfl) : wpAny (model prog w) A (subscriptTail value slice (.ref tp) (.int x t)) Q E s := by
  obtain ⟨iv, ix, hget, hix⟩ := pickI h0 h4 t1 t2
  exact item_tupleT (l := [_, _, _, _]) (News.isTup N (.head _)) (by omega) (by omega) (seqIndex_of h0 (show x < 4 by omega)) hget (k iv ix hix) hs
end

theorem deep_units (env : Env) : (callerA.deeper env).units + 8 < cLine := by
  simp only [Around.deeper]
  decide

theorem deep2 (env : Env) : (callerA.deeper env).units + 2 < cLine := by have := deep_units env; omega
theorem deep4 (env : Env) : (callerA.deeper env).units + 4 < cLine := by have := deep_units env; omega

theorem perm_rd1 {α : Type} {a b c d e : α} {l1 l2 r : List α} : (a :: b :: c :: d :: e :: (l1 ++ (l2 ++ r))).Perm ([a] ++ (l1 ++ (l2 ++ (b :: c :: d :: e :: r)))) := by ktr_rel
theorem perm_rd2 {α : Type} {a b c d e f : α} {l1 l2 l3 r : List α} : (a :: b :: c :: d :: e :: f :: (l1 ++ (l2 ++ (l3 ++ r)))).Perm ([a] ++ (l3 ++ ([b] ++ (c :: d :: e :: f :: (l1 ++ (l2 ++ r)))))) := by ktr_rel
theorem ite7 {α : Type} {c1 c2 c3 c4 c5 c6 c7 : Prop} [Decidable c1] [Decidable c2] [Decidable c3] [Decidable c4] [Decidable c5] [Decidable c6] [Decidable c7] {v1 v2 v3 v4 v5 v6 v7 o1 o2 o3 o4 o5 o6 o7 w b : α} :
    (if c1 then v1 else if c2 then v2 else if c3 then v3 else if c3 then w else if c4 then v4 else if c5 then v5 else if c6 then v6 else if c7 then v7 else if c1 then o1 else if c2 then o2 else if c3 then o3 else if c4 then o4 else if c5 then o5 else if c6 then o6 else if c7 then o7 else b) = if c1 then v1 else if c2 then v2 else if c3 then v3 else if c4 then v4 else if c5 then v5 else if c6 then v6 else if c7 then v7 else b := by
  by_cases h1 : c1
  · simp only [if_pos h1]
  by_cases h2 : c2
  · simp only [if_neg h1, if_pos h2]
  by_cases h3 : c3
  · simp only [if_neg h1, if_neg h2, if_pos h3]
  by_cases h4 : c4
  · simp only [if_neg h1, if_neg h2, if_neg h3, if_pos h4]
  by_cases h5 : c5
  · simp only [if_neg h1, if_neg h2, if_neg h3, if_neg h4, if_pos h5]
  by_cases h6 : c6
  · simp only [if_neg h1, if_neg h2, if_neg h3, if_neg h4, if_neg h5, if_pos h6]
  by_cases h7 : c7
  · simp only [if_neg h1, if_neg h2, if_neg h3, if_neg h4, if_neg h5, if_neg h6, if_pos h7]
  simp only [if_neg h1, if_neg h2, if_neg h3, if_neg h4, if_neg h5, if_neg h6, if_neg h7]

theorem ite2 {α : Type} {y p q : Str} (hpq : q ≠ p) {v1 v2 o1 o2 b : α} : (if y = q then v2 else if y = p then v1 else if y = p then o1 else if y = q then o2 else b) = if y = p then v1 else if y = q then v2 else b := by
  by_cases h1 : y = p
  · subst h1; simp [hpq.symm]
  · by_cases h2 : y = q
    · subst h2; simp [hpq]
    · simp [h1, h2]

theorem half_eq (vs : List Value) : Int.fdiv (vs.toArray.size : Int) 2 = ((vs.length / 2 : Nat) : Int) := by
  rw [PyProof.Rows.fdiv_eq _ (by decide), List.size_toArray]; omega
theorem half_take (vs : List Value) : (slicePick vs.toArray none (some (Int.fdiv (vs.toArray.size : Int) 2)) none).toList = vs.take (vs.length / 2) := by
  rw [half_eq, slicePick_upto']
theorem half_drop (vs : List Value) : (slicePick vs.toArray (some (Int.fdiv (vs.toArray.size : Int) 2)) none none).toList = vs.drop (vs.length / 2) := by
  rw [half_eq, slicePick_from']

theorem perm_in5 {α : Type} {a b c d e : α} {l1 r : List α} : (a :: b :: c :: d :: e :: (l1 ++ r)).Perm (l1 ++ (a :: b :: c :: d :: e :: r)) := by ktr_rel

theorem nd_chain4 {a b c d : Addr} {o1 o2 o3 o4 : Obj} (h1 : d < c) (h2 : c < b) (h3 : b < a) : Nd [(a, o1), (b, o2), (c, o3), (d, o4)] := by
  refine nd_push (nd_push (nd_push (nd_push List.nodup_nil ?_) ?_) ?_) ?_ <;> intro p hp <;> simp only [List.mem_cons, List.not_mem_nil, or_false] at hp
  · rcases hp with rfl; exact h1
  · rcases hp with rfl | rfl
    · exact h2
    · exact Nat.lt_trans h1 h2
  · rcases hp with rfl | rfl | rfl
    · exact h3
    · exact Nat.lt_trans h2 h3
    · exact Nat.lt_trans h1 (Nat.lt_trans h2 h3)

set_option maxRecDepth 100000 in
set_option maxHeartbeats 4000000 in
theorem law_holds : PySem.Challenge.rw_eq0024_01.Holds := by
  refine Mine.hd ?_
  k_go0
  refine wpAny_mono (E := NoE) ?_ (fun _ _ h => h) (fun _ _ e => e.elim)
  ktr_unf
  rename News _ _ _ _ => N1
  rename Fr _ _ _ _ => F1
  rename Top _ _ _ _ _ _ => T1
  rename (_ < _) => hx1
  replace hx1 := Stop.mk hx1
  rename (_ < _ ∧ _) => hx2
  rename (_ < _) => hx3
  have D1 := fun o1 o2 o3 o4 => nd_chain4 (o1 := o1) (o2 := o2) (o3 := o3) (o4 := o4) hx3 hx2.1 hx1.out
  refine ⟨dict_new F1 N1 (D1 _ _ _ _) T1.nolimit fun sd so h1 hS1 hdo1 F2 N2 D2 => ?_⟩
  clear F1 N1
  ktr_unf
  refine ⟨set_dict F2 (by assumption) N2 (InstAt.of_news N2 (.tail _ (.head _)) (.tail _ (.tail _ (.head _)))) rfl (by k_is) (by k_is) (by k_is) (by k_is) rfl rfl (Upd.tail (fun e => (nd_off D2) _ (.tail _ (.head _)) e.symm) (Upd.tail (fun e => (nd_off (nd_tail D2)) _ (.head _) e.symm) (Upd.head (nd_off (nd_tail (nd_tail D2)))))) (show 1 ≤ 1000 by decide) fun h'' F3 N3 => ?_⟩
  clear F2 N2
  ktr_unf
  rename_i wd s0 s1 mg mb G0 Y0 fa oo0 pm0 doc0 kV0 ho0 hg0 KX0 X0 V0 GL0 T0 B0 TE0 TW0 w01 w02 M0 w03 w04 hcd0 script hs0 hlay0 hL0 hr0 hl20 w05 w06 scr w08 w09 hL1 ra0 w10 r00 hI1 hr1 hcond1 hcond2 K0 hDf hh1 tkz sl ws hh2 hIw hCw hLw ltr st hh3 hh3b tk0 x dx hh5 FA NA g1 L1 hh6 B1 XX1 lf1 lf2 lf3 tk1 tk2 Gc1 kX1 hh7 F4 N4
  have hN4 : ∃ hsh te en, News s1.heap s1.heap.objs.size hh7 [(x, instObj 39 dx), (dx, dictOf [⟨hsh, .str (Str.ofString "errors") te, .ref sd⟩] en), (sd, so), (st, W.listOf #[Value.ref sl, Value.int 0 (tkz + 1)] 0), (sl, W.listOf ws.toArray 0)] :=
    ⟨_, _, _, news_perm (perm3 _ _ _ _).symm (news_perm (List.Perm.refl _) N4)⟩
  obtain ⟨hsh0, te0, en0, N5⟩ := hN4
  have D5 := nd_perm (perm3 _ _ _ _).symm D2
  clear N3 F3 NA FA
  refine ⟨dict_new F4 N5 D5 T0.nolimit fun td to h2 hS2 hdo2 F6 N6 D6 => ?_⟩
  clear N4 F4 N5
  ktr_unf
  rename News _ _ _ _ => N7
  rename Fr _ _ _ _ => F7
  rename (_ < _ ∧ _) => hlt
  rename_i pl hh8 tk8
  have D7 := fun o => nd_push (o := o) D6 (ktn_ltOf (l := [(td, to), (x, instObj 39 dx), (dx, dictOf [⟨hsh0, .str (Str.ofString "errors") te0, .ref sd⟩] en0), (sd, so), (st, W.listOf #[Value.ref sl, Value.int 0 (tkz + 1)] 0), (sl, W.listOf ws.toArray 0)]) ⟨hlt.1, hlt.2.1, hlt.2.2.1, hlt.2.2.2.1, hlt.2.2.2.2.1, hlt.2.2.2.2.2, trivial⟩)
  have hst0 : StL (.ref st) [(st, W.listOf #[Value.ref sl, Value.int 0 (tkz + 1)] 0), (sl, W.listOf ws.toArray 0)] :=
    ⟨st, sl, 0, 0, 0, _, ws, _, rfl, rfl, Int.le_refl _, hIw, by rw [List.length_take]; omega⟩
  generalize [(st, W.listOf #[Value.ref sl, Value.int 0 (tkz + 1)] 0), (sl, W.listOf ws.toArray 0)] = lss0 at *
  refine ⟨?_⟩
  refine for_rule ?_
  ktr_unf
  rename News _ _ _ _ => N8
  rename Fr _ _ _ _ => F8
  have hp1 : ((pl, W.listOf #[] 0) :: (td, to) :: (x, instObj 39 dx) :: (dx, dictOf [⟨hsh0, .str (Str.ofString "errors") te0, .ref sd⟩] en0) :: (sd, so) :: lss0).Perm (lss0 ++ [(pl, W.listOf #[] 0), (td, to), (x, instObj 39 dx), (dx, dictOf [⟨hsh0, .str (Str.ofString "errors") te0, .ref sd⟩] en0), (sd, so)]) := by ktr_rel
  refine ⟨((next_spec (by decide) hst0 _).perm hp1).use (outer := []) K0 F8 KX0 N8 (D7 _) T0 (by decide) (by decide) fun r l' h' tk' F9 N9 D9 P => ?_⟩
  obtain ⟨xk, tkk, lss1, rfl, hxk0, hxk7, hss1, rfl⟩ := P
  obtain ⟨nk, rfl⟩ := Int.eq_ofNat_of_zero_le hxk0
  ktr_unf
  rename News _ _ _ _ => N10
  rename Fr _ _ _ _ => F10
  rename IsRange _ _ _ _ _ _ _ _ => hR
  refine ⟨range_iter (by omega) F10 N10 D9 hR fun I h3 F11 N11 D11 => ?_⟩
  have hp2 : ((I, RIt ((0 : Nat) : Int) ((nk : Int) - ((0 : Nat) : Int))) :: (lss1 ++ [(pl, W.listOf #[] 0), (td, to), (x, instObj 39 dx), (dx, dictOf [⟨hsh0, .str (Str.ofString "errors") te0, .ref sd⟩] en0), (sd, so)])).Perm ((I, RIt ((0 : Nat) : Int) ((nk : Int) - ((0 : Nat) : Int))) :: (x, instObj 39 dx) :: (dx, dictOf [⟨hsh0, .str (Str.ofString "errors") te0, .ref sd⟩] en0) :: (pl, W.listOf (([] : List Value).toArray) 0) :: (lss1 ++ ([(sd, so)] ++ ([(td, to)] ++ [])))) := by ktr_rel
  have N12 := news_perm hp2 N11
  have D12 := nd_perm hp2 D11
  refine for_src (Src.range rfl I nk) rfl rfl rfl
    (fun i m l => ∃ o1 o2 o3 o4 o5 o6 o7 lss ls lt lp vs pn as te hsh en sd, m = (fun y => if y = Str.ofString "told" then o1 else if y = Str.ofString "before" then o2 else if y = Str.ofString "part" then o3 else if y = Str.ofString "index" then o4 else if y = Str.ofString "field" then o5 else if y = Str.ofString "message" then o6 else if y = Str.ofString "k" then o7 else frameOf F11 y) ∧
      StL (.ref st) lss ∧ TreeL wd 4 (foldM as) (.ref sd) ls ∧ PartsL wd as vs lp ∧ (∀ a ∈ as, isD a ∧ bd 4 2 a) ∧ as.length = i ∧ TableL wd (ctr 4 (foldM as) []) (.ref td) lt ∧ l = (x, instObj 39 dx) :: (dx, dictOf [⟨hsh, .str (Str.ofString "errors") te, .ref sd⟩] en) :: (pl, W.listOf vs.toArray pn) :: (lss ++ (ls ++ (lt ++ lp))))
    (fun _ _ _ _ => trivial) ?_ _ ?_ _ 0 _ _ _ h3 _ rfl (Nat.zero_le _) ⟨none, none, none, none, none, none, none, lss1, [(sd, so)], [(td, to)], [], [], 0, [], te0, hsh0, en0, sd, ?_, hss1, empty_tree hS1 hdo1, .nil, (fun a h => nomatch h), rfl, ?_, rfl⟩ rfl F11 N12 D12
  · rintro i v m l oi s₃ Q₃ hi hP ⟨o1, o2, o3, o4, o5, o6, o7, lss, ls, lt, lp, vs, pn, as, te, hsh, en, sd, rfl, hss, hW, hPa, hall, hlen, hTab, rfl⟩ hit F13 N13 D13 k₃ - - -
    have hsa : bd 4 12 (foldM as) := bd_mono (Nat.le_refl _) (by omega) (foldM_bd _ as rfl fun a h => (hall a h).2)
    dsimp only [frameOf] at F13
    ktr_unf
    have hq1 : ((I, oi) :: (x, instObj 39 dx) :: (dx, dictOf [⟨hsh, .str (Str.ofString "errors") te, .ref sd⟩] en) :: (pl, W.listOf vs.toArray pn) :: (lss ++ (ls ++ (lt ++ lp)))).Perm (lss ++ ((I, oi) :: (x, instObj 39 dx) :: (dx, dictOf [⟨hsh, .str (Str.ofString "errors") te, .ref sd⟩] en) :: (pl, W.listOf vs.toArray pn) :: (ls ++ (lt ++ lp)))) := by ktr_rel
    refine ⟨((msg_spec 2 (.ref st) lss _ hss _).perm hq1).use (outer := []) K0 F13 KX0 N13 D13 T0 (by decide) (by decide) fun r l' h' tk' F14 N14 D14 P => ?_⟩
    obtain ⟨lss2, lm, a, hss2, hM, hMb, rfl⟩ := P
    have hq2 : (lm ++ (lss2 ++ ((I, oi) :: (x, instObj 39 dx) :: (dx, dictOf [⟨hsh, .str (Str.ofString "errors") te, .ref sd⟩] en) :: (pl, W.listOf vs.toArray pn) :: (ls ++ (lt ++ lp))))).Perm ((I, oi) :: (x, instObj 39 dx) :: (dx, dictOf [⟨hsh, .str (Str.ofString "errors") te, .ref sd⟩] en) :: (pl, W.listOf vs.toArray pn) :: (lss2 ++ (lm ++ (ls ++ (lt ++ lp))))) := by ktr_rel
    replace N14 := news_perm hq2 N14
    replace D14 := nd_perm hq2 D14
    ktr_unf
    rename News _ _ _ _ => N15
    rename Fr _ _ _ _ => F15
    rename _ < _ ∧ _ => l1
    have D15 := fun o => nd_push (o := o) D14 (ktn_ltOf (l := (I, oi) :: (x, instObj 39 dx) :: (dx, dictOf [⟨hsh, .str (Str.ofString "errors") te, .ref sd⟩] en) :: (pl, W.listOf vs.toArray pn) :: (lss2 ++ (lm ++ (ls ++ (lt ++ lp))))) l1)
    refine ⟨((next_spec (by decide) hss2 _).perm perm_in5).use (outer := []) K0 F15 KX0 N15 (D15 _) T0 (by decide) (by decide) fun r1 l' h' tk' F16 N16 D16 P => ?_⟩
    obtain ⟨x4, t4, lss3, rfl, hx40, hx44, hss3, rfl⟩ := P
    replace N16 := news_perm perm_in5.symm N16
    replace D16 := nd_perm perm_in5.symm D16
    dsimp only
    refine Stop.mk (item3 N16 hx40 hx44 fun fs tf fk hfk => ?_) |>.out
    replace N16 := news_sub (fun p hp => .tail _ hp) N16
    replace D16 := nd_tail D16
    clear N15 F15 D15 l1
    ktr_unf
    rename News _ _ _ _ => N17
    rename Fr _ _ _ _ => F17
    rename _ < _ ∧ _ => l1
    have D17 := fun o => nd_push (o := o) D16 (ktn_ltOf (l := (I, oi) :: (x, instObj 39 dx) :: (dx, dictOf [⟨hsh, .str (Str.ofString "errors") te, .ref sd⟩] en) :: (pl, W.listOf vs.toArray pn) :: (lss3 ++ (lm ++ (ls ++ (lt ++ lp))))) l1)
    refine ⟨((next_spec (by decide) hss3 _).perm perm_in5).use (outer := []) K0 F17 KX0 N17 (D17 _) T0 (by decide) (by decide) fun r2 l' h' tk' F18 N18 D18 P => ?_⟩
    obtain ⟨x5, t5, lss4, rfl, hx50, hx54, hss4, rfl⟩ := P
    replace N18 := news_perm perm_in5.symm N18
    replace D18 := nd_perm perm_in5.symm D18
    dsimp only
    refine Stop.mk (itemI N18 hx50 hx54 fun iv ix hix => ?_) |>.out
    replace N18 := news_sub (fun p hp => .tail _ hp) N18
    replace D18 := nd_tail D18
    clear N17 F17 D17 l1
    ktr_unf
    rename News _ _ _ _ => N19
    rename Fr _ _ _ _ => F19
    have hq3 : ((I, oi) :: (x, instObj 39 dx) :: (dx, dictOf [⟨hsh, .str (Str.ofString "errors") te, .ref sd⟩] en) :: (pl, W.listOf vs.toArray pn) :: (lss4 ++ (lm ++ (ls ++ (lt ++ lp))))).Perm (lm ++ ((I, oi) :: (x, instObj 39 dx) :: (dx, dictOf [⟨hsh, .str (Str.ofString "errors") te, .ref sd⟩] en) :: (pl, W.listOf vs.toArray pn) :: (lss4 ++ (ls ++ (lt ++ lp))))) := by ktr_rel
    refine ⟨((copyl_spec 2 a r lm 2 hM hMb (by omega) _).perm hq3).use (outer := []) K0 F19 KX0 N19 D18 T0 (by decide) (by decide) fun r3 l' h' tk' F20 N20 D20 P => ?_⟩
    obtain ⟨lc, hC, rfl⟩ := P
    have hq4 : (lc ++ (lm ++ ((I, oi) :: (x, instObj 39 dx) :: (dx, dictOf [⟨hsh, .str (Str.ofString "errors") te, .ref sd⟩] en) :: (pl, W.listOf vs.toArray pn) :: (lss4 ++ (ls ++ (lt ++ lp)))))).Perm (lc ++ ((I, oi) :: (x, instObj 39 dx) :: (dx, dictOf [⟨hsh, .str (Str.ofString "errors") te, .ref sd⟩] en) :: (pl, W.listOf vs.toArray pn) :: (lm ++ (lss4 ++ (ls ++ (lt ++ lp)))))) := by ktr_rel
    replace N20 := news_perm hq4 N20
    replace D20 := nd_perm hq4 D20
    clear N19 F19
    ktr_unf
    rename News _ _ _ _ => N₂
    rename Fr _ _ _ _ => F₂
    have D₁ := D20
    have FB := F₂
    have hkey : (mixK PG wd).is fk (.str fs tf) = true := by show (K5.str fk == some fs) = true; rw [hfk]; simp
    refine ⟨wpAny_mono (Q := fun fl s' => Stop (∃ v' lb h' tk', fl = Flow.next ∧ s' = { s₃ with heap := h', toks := tk' } ∧ Fr s1.heap s1.heap.objs.size h' (fun y => if y = Str.ofString "part" then some v' else frameOf FB y) ∧
      News s1.heap s1.heap.objs.size h' (lb ++ ((I, oi) :: (x, instObj 39 dx) :: (dx, dictOf [⟨hsh, .str (Str.ofString "errors") te, .ref sd⟩] en) :: (pl, W.listOf vs.toArray pn) :: (lm ++ (lss4 ++ (ls ++ (lt ++ lp)))))) ∧ Nd (lb ++ ((I, oi) :: (x, instObj 39 dx) :: (dx, dictOf [⟨hsh, .str (Str.ofString "errors") te, .ref sd⟩] en) :: (pl, W.listOf vs.toArray pn) :: (lm ++ (lss4 ++ (ls ++ (lt ++ lp)))))) ∧ TreeL wd 3 (wrap1 a fk) v' lb)) ?_ (fun fl s' h => ?_) (fun _ _ e => e)⟩
    · refine wpAny_If ?_
      rcases a with xl | fd
      · have hC' := hC
        cases xl with
        | none => exact ((tl_leaf (x := .none)).mp hC).elim
        | str xs =>
          obtain ⟨⟨t, rfl⟩, rfl, h0⟩ := (tl_leaf (x := .str xs)).mp hC
          ktr_unf
          all_goals
            refine ⟨dict_one (v := (.str xs t)) hkey F₂ N₂ D₁ T0.nolimit (fun h' E Q F q => ?_) (fun h' E Q F q => ?_) fun d o ep h' tk' hS hdo F₃ N₃ D₃ => ?_⟩
            · ktr_unf
              exact q
            · ktr_unf
              exact q
            clear F₂ N₂
            ktr_unf
            rename News _ _ _ _ => N₄
            rename Fr _ _ _ _ => F₄
            refine ⟨⟨.ref d, _, _, _, rfl, rfl, fr_cong F₄ fun y => ?_, N₄, D₃, one_tree hC' hS hdo⟩⟩
            by_cases hy : y = Str.ofString "part" <;> simp [hy, frameOf]
        | lst xs =>
          obtain ⟨b, us, nb, rfl, rfl, hv⟩ := (tl_leaf (x := .lst xs)).mp hC
          simp only [List.cons_append, List.nil_append] at N₂ D₁
          ktr_unf
          all_goals
            refine ⟨dict_one (v := (.ref b)) hkey F₂ N₂ D₁ T0.nolimit (fun h' E Q F q => ?_) (fun h' E Q F q => ?_) fun d o ep h' tk' hS hdo F₃ N₃ D₃ => ?_⟩
            · ktr_unf
              exact q
            · ktr_unf
              exact q
            clear F₂ N₂
            ktr_unf
            rename News _ _ _ _ => N₄
            rename Fr _ _ _ _ => F₄
            refine ⟨⟨.ref d, _, _, _, rfl, rfl, fr_cong F₄ fun y => ?_, N₄, D₃, one_tree hC' hS hdo⟩⟩
            by_cases hy : y = Str.ofString "part" <;> simp [hy, frameOf]
      · have hC' := hC
        obtain ⟨d0, o0, kvs, ep0, es, l', rfl, rfl, hS0, hdo0, hfor, hlk⟩ := hC
        obtain ⟨des, rfl⟩ := hdo0.obj
        simp only [List.cons_append] at N₂ D₁
        ktr_unf
        · rename ((_ != _) = true) => hne
          have hw : wrap1 (.dct fd) fk = oneT fk (.dct fd) := by rw [wrap1, if_neg (ne_schema hfk hne)]
          rw [hw]
          refine ⟨dict_one (v := (.ref d0)) hkey F₂ N₂ D₁ T0.nolimit (fun h' E Q F q => ?_) (fun h' E Q F q => ?_) fun d o ep h' tk' hS hdo F₃ N₃ D₃ => ?_⟩
          · ktr_unf
            exact q
          · ktr_unf
            exact q
          clear F₂ N₂
          ktr_unf
          rename News _ _ _ _ => N₄
          rename Fr _ _ _ _ => F₄
          refine ⟨⟨.ref d, _, _, _, rfl, rfl, fr_cong F₄ fun y => ?_, N₄, D₃, one_tree hC' hS hdo⟩⟩
          by_cases hy : y = Str.ofString "part" <;> simp [hy, frameOf]
        · rename ((_ != _) = false) => hne
          have hw : wrap1 (.dct fd) fk = .dct fd := by rw [wrap1, if_pos (eq_schema hfk hne)]
          rw [hw]
          refine ⟨⟨.ref d0, _ :: l', _, _, rfl, rfl, fr_cong F₂ fun y => ?_, N₂, D₁, tree_mono (by omega) hC'⟩⟩
          by_cases hy : y = Str.ofString "part" <;> simp [hy, frameOf]
    · obtain ⟨⟨v1, lb, h', tk', rfl, rfl, F21, N21, D21, hW1⟩⟩ := h
      dsimp only [frameOf] at F21 ⊢
      clear F₂ N₂ D₁
      ktr_unf
      rename News _ _ _ _ => N₂
      rename Fr _ _ _ _ => F₂
      have D₁ := D21
      refine ⟨wpAny_mono (Q := fun fl s' => Stop (∃ v' lb h' tk', fl = Flow.next ∧ s' = { s₃ with heap := h', toks := tk' } ∧ Fr s1.heap s1.heap.objs.size h' (fun y => if y = Str.ofString "part" then some v' else frameOf FB y) ∧
        News s1.heap s1.heap.objs.size h' (lb ++ ((I, oi) :: (x, instObj 39 dx) :: (dx, dictOf [⟨hsh, .str (Str.ofString "errors") te, .ref sd⟩] en) :: (pl, W.listOf vs.toArray pn) :: (lm ++ (lss4 ++ (ls ++ (lt ++ lp)))))) ∧ Nd (lb ++ ((I, oi) :: (x, instObj 39 dx) :: (dx, dictOf [⟨hsh, .str (Str.ofString "errors") te, .ref sd⟩] en) :: (pl, W.listOf vs.toArray pn) :: (lm ++ (lss4 ++ (ls ++ (lt ++ lp)))))) ∧ TreeL wd 4 (wrap2 (wrap1 a fk) ix) v' lb)) ?_ (fun fl s' h => ?_) (fun _ _ e => e)⟩
      · refine wpAny_If ?_
        cases ix with
        | none =>
          obtain rfl : iv = .none := hix
          ktr_unf
          refine ⟨⟨v1, lb, _, _, rfl, rfl, fr_cong F₂ fun y => ?_, N₂, D₁, tree_mono (by omega) hW1⟩⟩
          by_cases hy : y = Str.ofString "part" <;> simp [hy, frameOf]
        | some k =>
          obtain ⟨hkey0, i0, ti, rfl⟩ := hix
          have hkey : (mixK PG wd).is k (.int i0 ti) = true := hkey0
          ktr_unf
          refine ⟨dict_one (v := v1) hkey F₂ N₂ D₁ T0.nolimit (fun h' E Q F q => ?_) (fun h' E Q F q => ?_) fun d o ep h' tk' hS hdo F₃ N₃ D₃ => ?_⟩
          · ktr_unf
            exact q
          · ktr_unf
            exact q
          clear F₂ N₂
          ktr_unf
          rename News _ _ _ _ => N₄
          rename Fr _ _ _ _ => F₄
          refine ⟨⟨.ref d, _, _, _, rfl, rfl, fr_cong F₄ fun y => ?_, N₄, D₃, one_tree hW1 hS hdo⟩⟩
          by_cases hy : y = Str.ofString "part" <;> simp [hy, frameOf]
      · obtain ⟨⟨v2, lb2, h', tk', rfl, rfl, F22, N22, D22, hW2⟩⟩ := h
        dsimp only [frameOf] at F22 ⊢
        clear F₂ N₂ D₁
        ktr_unf
        rename News _ _ _ _ => N23
        rename Fr _ _ _ _ => F23
        have hq5 : (lb2 ++ ((I, oi) :: (x, instObj 39 dx) :: (dx, dictOf [⟨hsh, .str (Str.ofString "errors") te, .ref sd⟩] en) :: (pl, W.listOf vs.toArray pn) :: (lm ++ (lss4 ++ (ls ++ (lt ++ lp)))))).Perm (lm ++ (lb2 ++ ((I, oi) :: (x, instObj 39 dx) :: (dx, dictOf [⟨hsh, .str (Str.ofString "errors") te, .ref sd⟩] en) :: (pl, W.listOf vs.toArray pn) :: (lss4 ++ (ls ++ (lt ++ lp)))))) := by ktr_rel
        refine ⟨((copyl_spec 2 a r lm 2 hM hMb (by omega) _).perm hq5).use (outer := []) K0 F23 KX0 N23 D22 T0 (by decide) (by decide) fun r4 l' h' tk' F24 N24 D24 P => ?_⟩
        obtain ⟨lbf, hBf, rfl⟩ := P
        have hq6 : (lbf ++ (lm ++ (lb2 ++ ((I, oi) :: (x, instObj 39 dx) :: (dx, dictOf [⟨hsh, .str (Str.ofString "errors") te, .ref sd⟩] en) :: (pl, W.listOf vs.toArray pn) :: (lss4 ++ (ls ++ (lt ++ lp))))))).Perm ((I, oi) :: (x, instObj 39 dx) :: (dx, dictOf [⟨hsh, .str (Str.ofString "errors") te, .ref sd⟩] en) :: (pl, W.listOf vs.toArray pn) :: (lbf ++ (lm ++ (lb2 ++ (lss4 ++ (ls ++ (lt ++ lp))))))) := by ktr_rel
        replace N24 := news_perm hq6 N24
        replace D24 := nd_perm hq6 D24
        ktr_unf
        rename News _ _ _ _ => N25
        rename Fr _ _ _ _ => F25
        have hq7 : ((I, oi) :: (x, instObj 39 dx) :: (dx, dictOf [⟨hsh, .str (Str.ofString "errors") te, .ref sd⟩] en) :: (pl, W.listOf vs.toArray pn) :: (lbf ++ (lm ++ (lb2 ++ (lss4 ++ (ls ++ (lt ++ lp))))))).Perm ((x, instObj 39 dx) :: (dx, dictOf [⟨hsh, .str (Str.ofString "errors") te, .ref sd⟩] en) :: (ls ++ (lm ++ ((I, oi) :: (pl, W.listOf vs.toArray pn) :: (lbf ++ (lb2 ++ (lss4 ++ (lt ++ lp)))))))) := by ktr_rel
        refine ⟨((store_spec hW hsa (by omega) hM hMb hfk hix _).perm hq7).use (outer := []) K0 F25 KX0 N25 D24 T0 (by decide) (by decide) fun r5 l' h' tk' F26 N26 D26 P => ?_⟩
        obtain ⟨rfl, sv2, en2, ls2, hW3, rfl⟩ := P
        have hpa : isD (wrap2 (wrap1 a fk) ix) := isD_wrap a fk ix
        have hpb : bd 4 2 (wrap2 (wrap1 a fk) ix) := bd_wrap hMb
        generalize wrap2 (wrap1 a fk) ix = pt at hW2 hW3 hpa hpb
        have hfold : merge 4 (foldM as) pt = foldM (as ++ [pt]) := (foldM_snoc as pt).symm
        rw [hfold] at hW3
        have hall2 : ∀ a ∈ as ++ [pt], isD a ∧ bd 4 2 a := fun a ha => by
          rcases List.mem_append.mp ha with ha | ha
          · exact hall a ha
          · simp only [List.mem_singleton] at ha; subst ha; exact ⟨hpa, hpb⟩
        have hlen2 : (as ++ [pt]).length = i + 1 := by rw [List.length_append, hlen]; rfl
        have hsa2 : bd 4 12 (foldM (as ++ [pt])) := bd_mono (Nat.le_refl _) (by omega) (foldM_bd _ (as ++ [pt]) rfl fun a h => (hall2 a h).2)
        obtain ⟨sd2, rfl⟩ : ∃ d, sv2 = .ref d := by
          obtain ⟨g0, hg0⟩ := foldM_isD _ (as ++ [pt]) rfl fun a h => (hall2 a h).1
          rw [hg0] at hW3
          obtain ⟨d, _, _, _, _, _, e, _⟩ := hW3
          exact ⟨d, e⟩
        have hq8 : ((x, instObj 39 dx) :: (dx, dictOf [⟨hsh, .str (Str.ofString "errors") te, .ref sd2⟩] en2) :: (ls2 ++ (lm ++ ((I, oi) :: (pl, W.listOf vs.toArray pn) :: (lbf ++ (lb2 ++ (lss4 ++ (lt ++ lp)))))))).Perm ((I, oi) :: (x, instObj 39 dx) :: (dx, dictOf [⟨hsh, .str (Str.ofString "errors") te, .ref sd2⟩] en2) :: (pl, W.listOf vs.toArray pn) :: (ls2 ++ (lm ++ (lbf ++ (lb2 ++ (lss4 ++ (lt ++ lp))))))) := by ktr_rel
        replace N26 := news_perm hq8 N26
        replace D26 := nd_perm hq8 D26
        clear N25 F25
        ktr_unf
        rename News _ _ _ _ => N27
        rename Fr _ _ _ _ => F27
        refine ⟨wpAny_If ?_⟩
        ktr_unf
        refine ⟨tree_neq hM hBf (fun p hp => (N27 p (.tail _ (.tail _ (.tail _ (.tail _ (List.mem_append_right _ (List.mem_append_left _ hp))))))).1) (fun p hp => (N27 p (.tail _ (.tail _ (.tail _ (.tail _ (List.mem_append_right _ (List.mem_append_right _ (List.mem_append_left _ hp)))))))).1) (deep2 _) ?_⟩
        ktr_unf
        have hvl := parts_len hPa
        have hq9 : ((I, oi) :: (x, instObj 39 dx) :: (dx, dictOf [⟨hsh, .str (Str.ofString "errors") te, .ref sd2⟩] en2) :: (pl, W.listOf vs.toArray pn) :: (ls2 ++ (lm ++ (lbf ++ (lb2 ++ (lss4 ++ (lt ++ lp))))))).Perm ((pl, W.listOf vs.toArray pn) :: ((I, oi) :: (x, instObj 39 dx) :: (dx, dictOf [⟨hsh, .str (Str.ofString "errors") te, .ref sd2⟩] en2) :: (lb2 ++ (lt ++ (ls2 ++ (lss4 ++ lp)))) ++ (lm ++ lbf))) := by ktr_rel
        have N28 := news_sub (l' := (pl, W.listOf vs.toArray pn) :: ((I, oi) :: (x, instObj 39 dx) :: (dx, dictOf [⟨hsh, .str (Str.ofString "errors") te, .ref sd2⟩] en2) :: (lb2 ++ (lt ++ (ls2 ++ (lss4 ++ lp)))))) (fun p hp => by
          rcases List.mem_cons.mp hp with rfl | hp
          · exact .head _
          · exact .tail _ (List.mem_append_left _ hp)) (news_perm hq9 N27)
        have D28 : Nd ((pl, W.listOf vs.toArray pn) :: ((I, oi) :: (x, instObj 39 dx) :: (dx, dictOf [⟨hsh, .str (Str.ofString "errors") te, .ref sd2⟩] en2) :: (lb2 ++ (lt ++ (ls2 ++ (lss4 ++ lp)))))) := nd_sub (.cons_cons _ (List.sublist_append_left _ _)) (nd_perm hq9 D26)
        refine ⟨lappend F27 N28 D28 (by omega) fun pn2 h' F29 N29 => ?_⟩
        clear N27 F27
        have hq10 : ((pl, W.listOf (vs ++ [v2]).toArray pn2) :: ((I, oi) :: (x, instObj 39 dx) :: (dx, dictOf [⟨hsh, .str (Str.ofString "errors") te, .ref sd2⟩] en2) :: (lb2 ++ (lt ++ (ls2 ++ (lss4 ++ lp)))))).Perm ((I, oi) :: (x, instObj 39 dx) :: (dx, dictOf [⟨hsh, .str (Str.ofString "errors") te, .ref sd2⟩] en2) :: (pl, W.listOf (vs ++ [v2]).toArray pn2) :: (lb2 ++ (lt ++ (ls2 ++ (lss4 ++ lp))))) := by ktr_rel
        replace N29 := news_perm hq10 N29
        have D29 := nd_perm hq10 (nd_same D28)
        ktr_unf
        rename News _ _ _ _ => N30
        rename Fr _ _ _ _ => F30
        rename _ < _ ∧ _ => hl3
        have D30 := fun o => nd_push (o := o) D29 (ktn_ltOf (l := (I, oi) :: (x, instObj 39 dx) :: (dx, dictOf [⟨hsh, .str (Str.ofString "errors") te, .ref sd2⟩] en2) :: (pl, W.listOf (vs ++ [v2]).toArray pn2) :: (lb2 ++ (lt ++ (ls2 ++ (lss4 ++ lp))))) hl3)
        have hcp : ∀ q, (ctr 4 (foldM as) [] q).length + (ctr 4 pt [] q).length ≤ 1000 := fun q => by
          have h1 := ctr_bd hsa [] q
          have h2 := ctr_bd hpb [] q
          omega
        refine ⟨((read_spec 4 pt v2 (.ref _) (.ref td) lb2 [(_, tupO [] 0)] lt 2 [] _ hW2 hpb (by omega) ⟨_, [], 0, rfl, rfl, .nil⟩ (by decide) hTab hcp _).perm perm_rd1).use (outer := []) K0 F30 KX0 N30 (D30 _) T0 (by decide) (by decide) fun r6 l' h' tk' F31 N31 D31 P => ?_⟩
        obtain ⟨rfl, lt3, hTab3, rfl⟩ := P
        have hq11 : (lb2 ++ (lt3 ++ ((I, oi) :: (x, instObj 39 dx) :: (dx, dictOf [⟨hsh, .str (Str.ofString "errors") te, .ref sd2⟩] en2) :: (pl, W.listOf (vs ++ [v2]).toArray pn2) :: (ls2 ++ (lss4 ++ lp))))).Perm ((I, oi) :: (x, instObj 39 dx) :: (dx, dictOf [⟨hsh, .str (Str.ofString "errors") te, .ref sd2⟩] en2) :: (pl, W.listOf (vs ++ [v2]).toArray pn2) :: (lb2 ++ (lt3 ++ (ls2 ++ (lss4 ++ lp))))) := by ktr_rel
        replace N31 := news_perm hq11 N31
        replace D31 := nd_perm hq11 D31
        have hctr : (fun q => ctr 4 (foldM as) [] q ++ ctr 4 pt [] q) = ctr 4 (foldM (as ++ [pt])) [] := by
          rw [← hfold]; exact (ctr_merge (bd_dp hsa) (bd_dp hpb)).symm
        rw [hctr] at hTab3
        clear N30 F30
        ktr_unf
        rename News _ _ _ _ => N32
        rename Fr _ _ _ _ => F32
        refine ⟨dict_new F32 N32 D31 T0.nolimit fun tn o1 h' hSt hdt F33 N33 D33 => ?_⟩
        clear N32 F32
        ktr_unf
        rename News _ _ _ _ => N34
        rename Fr _ _ _ _ => F34
        rename _ < _ ∧ _ => hl4
        have D34 := fun o => nd_push (o := o) D33 (ktn_ltOf (l := (tn, o1) :: (I, oi) :: (x, instObj 39 dx) :: (dx, dictOf [⟨hsh, .str (Str.ofString "errors") te, .ref sd2⟩] en2) :: (pl, W.listOf (vs ++ [v2]).toArray pn2) :: (lb2 ++ (lt3 ++ (ls2 ++ (lss4 ++ lp))))) hl4)
        have hcp2 : ∀ q, (([] : List Str)).length + (ctr 4 (foldM (as ++ [pt])) [] q).length ≤ 1000 := fun q => by
          have h1 := ctr_bd hsa2 [] q
          simp only [List.length_nil]; omega
        have hTn := table_new hSt hdt
        refine ⟨((read_spec 4 (foldM (as ++ [pt])) (.ref sd2) (.ref _) (.ref tn) ls2 [(_, tupO [] 0)] [(tn, o1)] 12 [] _ hW3 hsa2 (by omega) ⟨_, [], 0, rfl, rfl, .nil⟩ (by decide) hTn hcp2 _).perm perm_rd2).use (outer := []) K0 F34 KX0 N34 (D34 _) T0 (by decide) (by decide) fun r7 l' h' tk' F35 N35 D35 P => ?_⟩
        obtain ⟨rfl, lt4, hTab4, rfl⟩ := P
        clear N34 F34
        have hq12 : (ls2 ++ (lt4 ++ ((I, oi) :: (x, instObj 39 dx) :: (dx, dictOf [⟨hsh, .str (Str.ofString "errors") te, .ref sd2⟩] en2) :: (pl, W.listOf (vs ++ [v2]).toArray pn2) :: (lb2 ++ (lt3 ++ (lss4 ++ lp)))))).Perm ((I, oi) :: (x, instObj 39 dx) :: (dx, dictOf [⟨hsh, .str (Str.ofString "errors") te, .ref sd2⟩] en2) :: (pl, W.listOf (vs ++ [v2]).toArray pn2) :: (lt4 ++ (lss4 ++ (ls2 ++ (lt3 ++ (lp ++ lb2)))))) := by ktr_rel
        replace N35 := news_perm hq12 N35
        replace D35 := nd_perm hq12 D35
        ktr_unf
        rename News _ _ _ _ => N36
        rename Fr _ _ _ _ => F36
        refine ⟨wpAny_If ?_⟩
        ktr_unf
        have hTab5 : TableL wd (ctr 4 (foldM (as ++ [pt])) []) (.ref tn) lt4 := by simpa using hTab4
        refine ⟨table_ne hTab5 hTab3 (fun p hp => (N36 p (.tail _ (.tail _ (.tail _ (.tail _ (List.mem_append_left _ hp)))))).1) (fun p hp => (N36 p (.tail _ (.tail _ (.tail _ (.tail _ (List.mem_append_right _ (List.mem_append_right _ (List.mem_append_right _ (List.mem_append_left _ hp)))))))) ).1) (deep2 _) ?_⟩
        ktr_unf
        have hq13 : ((I, oi) :: (x, instObj 39 dx) :: (dx, dictOf [⟨hsh, .str (Str.ofString "errors") te, .ref sd2⟩] en2) :: (pl, W.listOf (vs ++ [v2]).toArray pn2) :: (lt4 ++ (lss4 ++ (ls2 ++ (lt3 ++ (lp ++ lb2)))))).Perm (lt4 ++ ((I, oi) :: (x, instObj 39 dx) :: (dx, dictOf [⟨hsh, .str (Str.ofString "errors") te, .ref sd2⟩] en2) :: (pl, W.listOf (vs ++ [v2]).toArray pn2) :: (lss4 ++ (ls2 ++ (lt3 ++ (lp ++ lb2)))))) := by ktr_rel
        refine k₃ _ _ _ _ F36 (news_sub (fun p hp => List.mem_append_right _ hp) (news_perm hq13 N36)) (nd_sub (List.sublist_append_right _ _) (nd_perm hq13 D35)) ⟨some (.ref tn), some r4, some v2, some iv, some (.str fs tf), some r, some v, lss4, ls2, lt3, lp ++ lb2, vs ++ [v2], pn2, as ++ [pt], te, hsh, en2, sd2, ?_, hss4, hW3, parts_app hPa (parts_one hW2), hall2, hlen2, hTab3, rfl⟩
        dsimp only [frameOf]
        funext y
        exact ite7
  · rintro m l h' tk' ⟨o1, o2, o3, o4, o5, o6, o7, lss, ls, lt, lp, vs, pn, as, te, hsh, en, sd, rfl, hss, hW, hPa, hall, hlen, hTab, rfl⟩ F13 N13 D13
    dsimp only [frameOf] at F13 ⊢
    have hvl := parts_len hPa
    have hisD : isD (foldM as) := foldM_isD _ as rfl fun a h => (hall a h).1
    ktr_unf
    refine ⟨dict_new F13 N13 D13 T0.nolimit fun rd ro h4 hSr hdr F14 N14 D14 => ?_⟩
    ktr_unf
    refine ⟨?_⟩
    refine for_rule ?_
    ktr_unf
    rename News _ _ _ _ => N15
    rename Fr _ _ _ _ => F15
    refine ⟨krv_lit (s := ⟨_, s1.gens, s1.drawn, _, s1.os⟩) F15 N15 (PySem.IsL.isList (n := pn) (N15 _ (.tail _ (.tail _ (.tail _ (.head _))))).1) (.int _ _) (zs := vs.reverse) (by simp) (fun Dv h5 F16 N16 hlt5 => ?_) (by with_unfolding_all rfl) (by intro _; with_unfolding_all rfl) (by rw [List.size_toArray, sizeLine_eq]; omega)⟩
    have D16 := fun o => nd_push (o := o) D14 hlt5
    ktr_unf
    refine ⟨list_iter (vs := vs.reverse) F16 N16 (D16 _) (.head _) fun I2 oi2 h6 hit2 F17 N17 D17 => ?_⟩
    have hrl : vs.reverse.length = vs.length := List.length_reverse
    have hp5 : ((I2, oi2) :: (Dv, W.listOf vs.reverse.toArray 0) :: (rd, ro) :: (x, instObj 39 dx) :: (dx, dictOf [⟨hsh, .str (Str.ofString "errors") te, .ref sd⟩] en) :: (pl, W.listOf vs.toArray pn) :: (lss ++ (ls ++ (lt ++ lp)))).Perm ((I2, oi2) :: (Dv, W.listOf vs.reverse.toArray 0) :: ([(rd, ro)] ++ ((x, instObj 39 dx) :: (dx, dictOf [⟨hsh, .str (Str.ofString "errors") te, .ref sd⟩] en) :: (pl, W.listOf vs.toArray pn) :: (lss ++ (ls ++ (lt ++ lp)))))) := by ktr_rel
    refine for_src (Src.list rfl I2 Dv vs.reverse 0) rfl rfl rfl
      (fun i m l => ∃ oo rv lr, m = (fun y => if y = Str.ofString "one" then oo else if y = Str.ofString "right" then some rv else frameOf F13 y) ∧ TreeL wd 4 (foldM (as.drop (vs.length - i))) rv lr ∧ l = (Dv, W.listOf vs.reverse.toArray 0) :: (lr ++ ((x, instObj 39 dx) :: (dx, dictOf [⟨hsh, .str (Str.ofString "errors") te, .ref sd⟩] en) :: (pl, W.listOf vs.toArray pn) :: (lss ++ (ls ++ (lt ++ lp))))))
      (fun i m l h => by obtain ⟨_, _, _, _, _, rfl⟩ := h; exact .head _) ?_ _ ?_ _ 0 _ _ _ h6 _ rfl (Nat.zero_le _) ⟨none, .ref rd, [(rd, ro)], ?_, ?_, rfl⟩ hit2 F17 N17 D17
    · rintro j u m l oi s₃ Q₃ hj hu ⟨oo, rv, lr, rfl, hR, rfl⟩ hit F18 N18 D18 k₃ - - -
      dsimp only [frameOf] at F18
      have hj' : j < vs.length := by omega
      have hu2 : vs[vs.length - 1 - j]? = some u := by rw [← hu, List.getElem?_reverse hj']
      obtain ⟨a, lv, l1, l2, ha, hA, hlp⟩ := parts_get hPa hu2
      have hda : as.drop (vs.length - 1 - j) = a :: as.drop (vs.length - j) := by
        have hl1 : vs.length - 1 - j < as.length := by omega
        rw [List.drop_eq_getElem_cons hl1, (List.getElem?_eq_some_iff.mp ha).2]
        congr 2
        omega
      have hma := hall a (List.mem_of_getElem? ha)
      have hbr : bd 4 12 (foldM (as.drop (vs.length - j))) := bd_mono (Nat.le_refl _) (by rw [List.length_drop]; omega) (foldM_bd _ (as.drop (vs.length - j)) rfl fun b hb => (hall b (List.mem_of_mem_drop hb)).2)
      ktr_unf
      subst hlp
      have hq1 : ((I2, oi) :: (Dv, W.listOf vs.reverse.toArray 0) :: (lr ++ ((x, instObj 39 dx) :: (dx, dictOf [⟨hsh, .str (Str.ofString "errors") te, .ref sd⟩] en) :: (pl, W.listOf vs.toArray pn) :: (lss ++ (ls ++ (lt ++ (l1 ++ (lv ++ l2)))))))).Perm (lv ++ (lr ++ ((I2, oi) :: (Dv, W.listOf vs.reverse.toArray 0) :: ((x, instObj 39 dx) :: (dx, dictOf [⟨hsh, .str (Str.ofString "errors") te, .ref sd⟩] en) :: (pl, W.listOf vs.toArray pn) :: (lss ++ (ls ++ (lt ++ (l1 ++ l2)))))))) := by ktr_rel
      refine ⟨((copyl_spec 4 a u lv 2 hA hma.2 (by omega) _).perm hq1).use (outer := []) K0 F18 KX0 N18 D18 T0 (by decide) (by decide) fun r1 l' h' tk' F19 N19 D19 P => ?_⟩
      obtain ⟨lc, hC, rfl⟩ := P
      have hq2 : (lc ++ (lv ++ (lr ++ ((I2, oi) :: (Dv, W.listOf vs.reverse.toArray 0) :: ((x, instObj 39 dx) :: (dx, dictOf [⟨hsh, .str (Str.ofString "errors") te, .ref sd⟩] en) :: (pl, W.listOf vs.toArray pn) :: (lss ++ (ls ++ (lt ++ (l1 ++ l2))))))))).Perm (lc ++ (lr ++ ((I2, oi) :: (Dv, W.listOf vs.reverse.toArray 0) :: ((x, instObj 39 dx) :: (dx, dictOf [⟨hsh, .str (Str.ofString "errors") te, .ref sd⟩] en) :: (pl, W.listOf vs.toArray pn) :: (lss ++ (ls ++ (lt ++ (l1 ++ (lv ++ l2))))))))) := by ktr_rel
      replace N19 := news_perm hq2 N19
      replace D19 := nd_perm hq2 D19
      ktr_unf
      refine ⟨(merge_spec 4 a (foldM (as.drop (vs.length - j))) r1 rv lc lr 2 12 hC hR hma.2 hbr (by omega) _).use (outer := []) K0 F19 KX0 N19 D19 T0 (by decide) (by decide) fun r2 l' h' tk' F20 N20 D20 P => ?_⟩
      obtain ⟨lr2, hR2, rfl⟩ := P
      have hq3 : (lr2 ++ ((I2, oi) :: (Dv, W.listOf vs.reverse.toArray 0) :: ((x, instObj 39 dx) :: (dx, dictOf [⟨hsh, .str (Str.ofString "errors") te, .ref sd⟩] en) :: (pl, W.listOf vs.toArray pn) :: (lss ++ (ls ++ (lt ++ (l1 ++ (lv ++ l2)))))))).Perm ((I2, oi) :: (Dv, W.listOf vs.reverse.toArray 0) :: (lr2 ++ ((x, instObj 39 dx) :: (dx, dictOf [⟨hsh, .str (Str.ofString "errors") te, .ref sd⟩] en) :: (pl, W.listOf vs.toArray pn) :: (lss ++ (ls ++ (lt ++ (l1 ++ (lv ++ l2)))))))) := by ktr_rel
      replace N20 := news_perm hq3 N20
      replace D20 := nd_perm hq3 D20
      ktr_unf
      rename News _ _ _ _ => N21
      rename Fr _ _ _ _ => F21
      refine k₃ _ _ _ _ F21 N21 D20 ⟨some u, r2, lr2, ?_, ?_, rfl⟩
      · dsimp only [frameOf]
        funext y
        exact ite2 (by decide)
      · have e : vs.length - (j + 1) = vs.length - 1 - j := by omega
        rw [e, hda, foldM_cons hma fun b hb => hall b (List.mem_of_mem_drop hb)]
        exact hR2
    · rintro m l h' tk' ⟨oo, rv, lr, rfl, hR, rfl⟩ F18 N18 D18
      dsimp only [frameOf] at F18 ⊢
      rw [hrl, Nat.sub_self, List.drop_zero] at hR
      have hq4 : ((Dv, W.listOf vs.reverse.toArray 0) :: (lr ++ ((x, instObj 39 dx) :: (dx, dictOf [⟨hsh, .str (Str.ofString "errors") te, .ref sd⟩] en) :: (pl, W.listOf vs.toArray pn) :: (lss ++ (ls ++ (lt ++ lp)))))).Perm (((x, instObj 39 dx) :: (dx, dictOf [⟨hsh, .str (Str.ofString "errors") te, .ref sd⟩] en) :: (pl, W.listOf vs.toArray pn) :: (lr ++ (ls ++ lp))) ++ ((Dv, W.listOf vs.reverse.toArray 0) :: (lss ++ lt))) := by ktr_rel
      replace N18 := news_sub (l' := (x, instObj 39 dx) :: (dx, dictOf [⟨hsh, .str (Str.ofString "errors") te, .ref sd⟩] en) :: (pl, W.listOf vs.toArray pn) :: (lr ++ (ls ++ lp))) (fun p hp => List.mem_append_left _ hp) (news_perm hq4 N18)
      replace D18 : Nd ((x, instObj 39 dx) :: (dx, dictOf [⟨hsh, .str (Str.ofString "errors") te, .ref sd⟩] en) :: (pl, W.listOf vs.toArray pn) :: (lr ++ (ls ++ lp))) := nd_sub (List.sublist_append_left _ _) (nd_perm hq4 D18)
      ktr_unf
      refine ⟨PyProof.Rows.len_list (PySem.IsL.isList (n := pn) (N18 _ (.tail _ (.tail _ (.head _)))).1) (by rw [List.size_toArray]; omega) ?_⟩
      ktr_unf
      rename News _ _ _ _ => N20
      rename Fr _ _ _ _ => F20
      refine ⟨kmk_slice_lit (s := ⟨_, s1.gens, s1.drawn, _, s1.os⟩) F20 N20 (PySem.IsL.isList (n := pn) (N20 _ (.tail _ (.tail _ (.head _)))).1) .none (.int _ _) (half_take vs) (fun Dt h7 F21 N21 hlt6 => ?_) (by with_unfolding_all rfl) (by intro _; with_unfolding_all rfl) (by rw [List.size_toArray, sizeLine_eq]; omega)⟩
      have D21 := fun o => nd_push (o := o) D18 hlt6
      ktr_unf
      obtain ⟨lpa, lpb, hPa1, hPa2, hlp⟩ := parts_take hPa (vs.length / 2)
      subst hlp
      have hb1 : ∀ a ∈ as.take (vs.length / 2), isD a ∧ bd 4 2 a := fun a ha => hall a (List.mem_of_mem_take ha)
      have hb2 : ∀ a ∈ as.drop (vs.length / 2), isD a ∧ bd 4 2 a := fun a ha => hall a (List.mem_of_mem_drop ha)
      have hr1 : ((Dt, W.listOf (vs.take (vs.length / 2)).toArray 0) :: (x, instObj 39 dx) :: (dx, dictOf [⟨hsh, .str (Str.ofString "errors") te, .ref sd⟩] en) :: (pl, W.listOf vs.toArray pn) :: (lr ++ (ls ++ (lpa ++ lpb)))).Perm ((Dt, W.listOf (vs.take (vs.length / 2)).toArray 0) :: (lpa ++ ((x, instObj 39 dx) :: (dx, dictOf [⟨hsh, .str (Str.ofString "errors") te, .ref sd⟩] en) :: (pl, W.listOf vs.toArray pn) :: (lr ++ (ls ++ lpb))))) := by ktr_rel
      refine ⟨((merged_spec hPa1 (fun a h => (hb1 a h).2) (by rw [List.length_take]; omega) _).perm hr1).use (outer := []) K0 F21 KX0 N21 (D21 _) T0 (by decide) (by decide) fun r1 l' h' tk' F22 N22 D22 P => ?_⟩
      obtain ⟨lrA, hA, rfl⟩ := P
      have hr2 : (lrA ++ ((Dt, W.listOf (vs.take (vs.length / 2)).toArray 0) :: (lpa ++ ((x, instObj 39 dx) :: (dx, dictOf [⟨hsh, .str (Str.ofString "errors") te, .ref sd⟩] en) :: (pl, W.listOf vs.toArray pn) :: (lr ++ (ls ++ lpb)))))).Perm ((Dt, W.listOf (vs.take (vs.length / 2)).toArray 0) :: (x, instObj 39 dx) :: (dx, dictOf [⟨hsh, .str (Str.ofString "errors") te, .ref sd⟩] en) :: (pl, W.listOf vs.toArray pn) :: (lrA ++ (lr ++ (ls ++ (lpa ++ lpb))))) := by ktr_rel
      replace N22 := news_sub (fun p hp => .tail _ hp) (news_perm hr2 N22)
      replace D22 := nd_tail (nd_perm hr2 D22)
      clear N20 F20 N21 F21
      ktr_unf
      refine ⟨kmk_slice_lit (s := ⟨_, s1.gens, s1.drawn, _, s1.os⟩) F22 N22 (PySem.IsL.isList (n := pn) (N22 _ (.tail _ (.tail _ (.head _)))).1) (.int _ _) .none (half_drop vs) (fun Dd h8 F23 N23 hlt7 => ?_) (by with_unfolding_all rfl) (by intro _; with_unfolding_all rfl) (by rw [List.size_toArray, sizeLine_eq]; omega)⟩
      have D23 := fun o => nd_push (o := o) D22 hlt7
      ktr_unf
      have hr3 : ((Dd, W.listOf (vs.drop (vs.length / 2)).toArray 0) :: (x, instObj 39 dx) :: (dx, dictOf [⟨hsh, .str (Str.ofString "errors") te, .ref sd⟩] en) :: (pl, W.listOf vs.toArray pn) :: (lrA ++ (lr ++ (ls ++ (lpa ++ lpb))))).Perm ((Dd, W.listOf (vs.drop (vs.length / 2)).toArray 0) :: (lpb ++ ((x, instObj 39 dx) :: (dx, dictOf [⟨hsh, .str (Str.ofString "errors") te, .ref sd⟩] en) :: (pl, W.listOf vs.toArray pn) :: (lrA ++ (lr ++ (ls ++ lpa)))))) := by ktr_rel
      refine ⟨((merged_spec hPa2 (fun a h => (hb2 a h).2) (by rw [List.length_drop]; omega) _).perm hr3).use (outer := []) K0 F23 KX0 N23 (D23 _) T0 (by decide) (by decide) fun r2 l' h' tk' F24 N24 D24 P => ?_⟩
      obtain ⟨lrB, hB, rfl⟩ := P
      have hr4 : (lrB ++ ((Dd, W.listOf (vs.drop (vs.length / 2)).toArray 0) :: (lpb ++ ((x, instObj 39 dx) :: (dx, dictOf [⟨hsh, .str (Str.ofString "errors") te, .ref sd⟩] en) :: (pl, W.listOf vs.toArray pn) :: (lrA ++ (lr ++ (ls ++ lpa))))))).Perm ((Dd, W.listOf (vs.drop (vs.length / 2)).toArray 0) :: (lrA ++ (lrB ++ ((x, instObj 39 dx) :: (dx, dictOf [⟨hsh, .str (Str.ofString "errors") te, .ref sd⟩] en) :: (pl, W.listOf vs.toArray pn) :: (lr ++ (ls ++ (lpa ++ lpb))))))) := by ktr_rel
      replace N24 := news_sub (fun p hp => .tail _ hp) (news_perm hr4 N24)
      replace D24 := nd_tail (nd_perm hr4 D24)
      clear N23 F23
      ktr_unf
      have hbA : bd 4 12 (foldM (as.take (vs.length / 2))) := bd_mono (Nat.le_refl _) (by rw [List.length_take]; omega) (foldM_bd _ _ rfl fun a h => (hb1 a h).2)
      have hbB : bd 4 12 (foldM (as.drop (vs.length / 2))) := bd_mono (Nat.le_refl _) (by rw [List.length_drop]; omega) (foldM_bd _ _ rfl fun a h => (hb2 a h).2)
      refine ⟨(merge_spec 4 _ _ r1 r2 lrA lrB 12 12 hA hB hbA hbB (by omega) _).use (outer := []) K0 F24 KX0 N24 D24 T0 (by decide) (by decide) fun r3 l' h' tk' F25 N25 D25 P => ?_⟩
      obtain ⟨lrH, hH, rfl⟩ := P
      rw [← foldM_app _ _ _ rfl hb1 hb2, List.take_append_drop] at hH
      have hr5 : (lrH ++ ((x, instObj 39 dx) :: (dx, dictOf [⟨hsh, .str (Str.ofString "errors") te, .ref sd⟩] en) :: (pl, W.listOf vs.toArray pn) :: (lr ++ (ls ++ (lpa ++ lpb))))).Perm ((x, instObj 39 dx) :: (dx, dictOf [⟨hsh, .str (Str.ofString "errors") te, .ref sd⟩] en) :: (pl, W.listOf vs.toArray pn) :: (lrH ++ (lr ++ (ls ++ (lpa ++ lpb))))) := by ktr_rel
      replace N25 := news_perm hr5 N25
      replace D25 := nd_perm hr5 D25
      clear N24 F24
      ktr_unf
      rename News _ _ _ _ => N26
      rename Fr _ _ _ _ => F26
      have hr6 : ((x, instObj 39 dx) :: (dx, dictOf [⟨hsh, .str (Str.ofString "errors") te, .ref sd⟩] en) :: (pl, W.listOf vs.toArray pn) :: (lrH ++ (lr ++ (ls ++ (lpa ++ lpb))))).Perm ((pl, W.listOf vs.toArray pn) :: ((lpa ++ lpb) ++ ((x, instObj 39 dx) :: (dx, dictOf [⟨hsh, .str (Str.ofString "errors") te, .ref sd⟩] en) :: (lrH ++ (lr ++ ls))))) := by ktr_rel
      refine ⟨((merged_spec hPa (fun a h => (hall a h).2) (by omega) _).perm hr6).use (outer := []) K0 F26 KX0 N26 D25 T0 (by decide) (by decide) fun r4 l' h' tk' F27 N27 D27 P => ?_⟩
      obtain ⟨lrW, hWh, rfl⟩ := P
      have hr7 : (lrW ++ ((pl, W.listOf vs.toArray pn) :: ((lpa ++ lpb) ++ ((x, instObj 39 dx) :: (dx, dictOf [⟨hsh, .str (Str.ofString "errors") te, .ref sd⟩] en) :: (lrH ++ (lr ++ ls)))))).Perm ((x, instObj 39 dx) :: (dx, dictOf [⟨hsh, .str (Str.ofString "errors") te, .ref sd⟩] en) :: (pl, W.listOf vs.toArray pn) :: (ls ++ (lrW ++ (lr ++ (lrH ++ (lpa ++ lpb)))))) := by ktr_rel
      replace N27 := news_perm hr7 N27
      obtain ⟨f0, hf0⟩ := hisD
      rw [hf0] at hW hWh hR hH
      have n1 : ∀ p ∈ ls, p ∈ ((x, instObj 39 dx) :: (dx, dictOf [⟨hsh, .str (Str.ofString "errors") te, .ref sd⟩] en) :: (pl, W.listOf vs.toArray pn) :: (ls ++ (lrW ++ (lr ++ (lrH ++ (lpa ++ lpb)))))) := fun p hp => .tail _ (.tail _ (.tail _ (List.mem_append_left _ hp)))
      have n2 : ∀ p ∈ lrW, p ∈ ((x, instObj 39 dx) :: (dx, dictOf [⟨hsh, .str (Str.ofString "errors") te, .ref sd⟩] en) :: (pl, W.listOf vs.toArray pn) :: (ls ++ (lrW ++ (lr ++ (lrH ++ (lpa ++ lpb)))))) := fun p hp => .tail _ (.tail _ (.tail _ (List.mem_append_right _ (List.mem_append_left _ hp))))
      have n3 : ∀ p ∈ lr, p ∈ ((x, instObj 39 dx) :: (dx, dictOf [⟨hsh, .str (Str.ofString "errors") te, .ref sd⟩] en) :: (pl, W.listOf vs.toArray pn) :: (ls ++ (lrW ++ (lr ++ (lrH ++ (lpa ++ lpb)))))) := fun p hp => .tail _ (.tail _ (.tail _ (List.mem_append_right _ (List.mem_append_right _ (List.mem_append_left _ hp)))))
      have n4 : ∀ p ∈ lrH, p ∈ ((x, instObj 39 dx) :: (dx, dictOf [⟨hsh, .str (Str.ofString "errors") te, .ref sd⟩] en) :: (pl, W.listOf vs.toArray pn) :: (ls ++ (lrW ++ (lr ++ (lrH ++ (lpa ++ lpb)))))) := fun p hp => .tail _ (.tail _ (.tail _ (List.mem_append_right _ (List.mem_append_right _ (List.mem_append_right _ (List.mem_append_left _ hp))))))
      clear N26 F26
      ktr_unf
      refine ⟨tree_eq hW hWh (fun p hp => (N27 p (n1 p hp)).1) (fun p hp => (N27 p (n2 p hp)).1) (deep4 _) ?_⟩
      ktr_unf
      refine ⟨tree_eq hR hW (fun p hp => (N27 p (n3 p hp)).1) (fun p hp => (N27 p (n1 p hp)).1) (deep4 _) ?_⟩
      ktr_unf
      refine ⟨tree_eq hH hW (fun p hp => (N27 p (n4 p hp)).1) (fun p hp => (N27 p (n1 p hp)).1) (deep4 _) ?_⟩
      ktr_unf
      wrow_close
    · dsimp only [frameOf]
      funext y
      by_cases h1 : y = Str.ofString "one"
      · subst h1; rfl
      · simp only [h1, if_false]
    · show TreeL wd 4 (foldM (as.drop (vs.length - 0))) _ _
      rw [Nat.sub_zero, ← hvl, List.drop_length]
      exact empty_tree hSr hdr
  · funext y
    by_cases h1 : y = Str.ofString "told"
    · subst h1; rfl
    by_cases h2 : y = Str.ofString "before"
    · subst h2; rfl
    by_cases h3 : y = Str.ofString "part"
    · subst h3; rfl
    by_cases h4 : y = Str.ofString "index"
    · subst h4; rfl
    by_cases h5 : y = Str.ofString "field"
    · subst h5; rfl
    by_cases h6 : y = Str.ofString "message"
    · subst h6; rfl
    by_cases h7 : y = Str.ofString "k"
    · subst h7; rfl
    simp only [h1, h2, h3, h4, h5, h6, h7, if_false]
  · show TableL wd (ctr 4 E0 []) _ _
    rw [ctr_E0]; exact table_new hS2 hdo2
end Mine
end

theorem PySem.Challenge.cw_eq0024_01_holds : PySem.Challenge.rw_eq0024_01.Holds :=
  Mine.law_holds

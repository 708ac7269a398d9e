import PyProof.Rows.All
import Wide.All
import OpenK.AllK
import Open.Tops
import Wide.FinOn
import Lean
import PySem.Challenge.RW_ao0014_01
set_option Elab.async false
set_option maxRecDepth 100000
set_option linter.all false
set_option tactic.hygienic false
namespace Mine
set_option hygiene false in
def tA : Lean.Syntax := Lean.Unhygienic.run do return (← `(Lean.Parser.Tactic.tacticSeq| assumption)).raw
set_option hygiene false in
def tM : Lean.Syntax := Lean.Unhygienic.run do return (← `(Lean.Parser.Tactic.tacticSeq| o_head m_mem)).raw
set_option hygiene false in
def tN : Lean.Syntax := Lean.Unhygienic.run do return (← `(Lean.Parser.Tactic.tacticSeq| o_head m_nam)).raw
set_option hygiene false in
def tP : Lean.Syntax := Lean.Unhygienic.run do return (← `(Lean.Parser.Tactic.tacticSeq| o_head m_R)).raw
set_option hygiene false in
def tJ : Lean.Syntax := Lean.Unhygienic.run do return (← `(Lean.Parser.Tactic.tacticSeq| o_head m_I)).raw
set_option hygiene false in
def tK : Lean.Syntax := Lean.Unhygienic.run do return (← `(Lean.Parser.Tactic.tacticSeq| o_head m_k)).raw
set_option hygiene false in
def tD : Lean.Syntax := Lean.Unhygienic.run do return (← `(Lean.Parser.Tactic.tacticSeq| k_dflt rfl)).raw
set_option hygiene false in
def tR : Lean.Syntax := Lean.Unhygienic.run do return (← `(Lean.Parser.Tactic.tacticSeq| rfl)).raw
set_option hygiene false in
def tV : Lean.Syntax := Lean.Unhygienic.run do return (← `(Lean.Parser.Tactic.tacticSeq| o_head m_V)).raw
set_option hygiene false in
def tO : Lean.Syntax := Lean.Unhygienic.run do return (← `(Lean.Parser.Tactic.tacticSeq| o_head qo)).raw
set_option hygiene false in
def tE : Lean.Syntax := Lean.Unhygienic.run do return (← `(Lean.Parser.Tactic.tacticSeq| decide)).raw
set_option hygiene false in
def tI : Lean.Syntax := Lean.Unhygienic.run do return (← `(Lean.Parser.Tactic.tacticSeq| intro _ _; rfl)).raw
theorem mxl {k a b c d : Nat} (h : c ≤ d) : k * a + c ≤ k * max a b + d := Nat.add_le_add (Nat.mul_le_mul_left k (Nat.le_max_left a b)) h
theorem mxr {k a b c d : Nat} (h : c ≤ d) : k * b + c ≤ k * max a b + d := Nat.add_le_add (Nat.mul_le_mul_left k (Nat.le_max_right a b)) h
end Mine
local macro_rules | `(tactic| o_head qo) => `(tactic| first | exact Nat.le_of_ble_eq_true rfl | exact rfl | ((with_reducible refine Mine.mxl ?_); exact Nat.le_of_ble_eq_true rfl) | ((with_reducible refine Mine.mxr ?_); exact Nat.le_of_ble_eq_true rfl) | lia | omega)
namespace Mine
inductive Nm | x | y | w | z1 | u | rex | dog | sees | mother
 deriving DecidableEq
noncomputable def Nm.isVar : Nm → Bool
 | .x | .y | .w | .z1 | .u => true
 | _ => false
inductive Op | and | or | imp | eq
 deriving DecidableEq
inductive Ex
 | nm (n : Nm)
 | app (f a : Ex)
 | neg (t : Ex)
 | qu (all : Bool) (n : Nm) (t : Ex)
 | bin (o : Op) (a b : Ex)
noncomputable def Ex.ht : Ex → Nat
 | .nm _ => 1
 | .app f a => max f.ht a.ht + 1
 | .neg t => t.ht + 1
 | .qu _ _ t => t.ht + 1
 | .bin _ a b => max a.ht b.ht + 1
noncomputable def addN (f : List Nm) (n : Nm) : List Nm := if f.any (· == n) then f else f ++ [n]
noncomputable def addAll (f ns : List Nm) : List Nm := ns.foldl addN f
noncomputable def unionN (nss : List (List Nm)) : List Nm := nss.foldl addAll []
noncomputable def Ex.free : Ex → List Nm
 | .nm n => if n.isVar then [n] else []
 | .app f a => unionN [f.free, a.free]
 | .neg t => unionN [t.free]
 | .qu _ n t => t.free.filter fun k => !(k == n)
 | .bin _ a b => unionN [a.free, b.free]
noncomputable def Ex.isNm : Ex → Bool
 | .nm _ => true
 | _ => false
noncomputable def Ex.consts : Ex → List Nm
 | .nm n => if n.isVar then [] else [n]
 | .app f a => unionN [if f.isNm then [] else f.consts, a.consts]
 | .neg t => unionN [t.consts]
 | .qu _ _ t => unionN [t.consts]
 | .bin _ a b => unionN [a.consts, b.consts]
noncomputable def Ex.isConst : Ex → Option Nm
 | .nm n => if n.isVar then none else some n
 | _ => none
noncomputable def Ex.preds : Ex → List Nm
 | .nm _ => []
 | .app f a => unionN [match f.isConst with | some n => [n] | none => f.preds, a.preds]
 | .neg t => unionN [t.preds]
 | .qu _ _ t => unionN [t.preds]
 | .bin _ a b => unionN [a.preds, b.preds]
noncomputable def Ex.vars (e : Ex) : List Nm := unionN [e.free, []]
noncomputable def ex2 (g : Ex → Ex → Ex) : Option Ex → Option Ex → Option Ex
 | some x, some y => some (g x y)
 | _, _ => none
noncomputable def replO : Nat → Ex → Nm → Ex → Bool → Option Ex
 | 0, _, _, _, _ => none
 | _ + 1, .nm k, m, x, _ => some (if k == m then x else .nm k)
 | n + 1, .app f a, m, x, rb => ex2 .app (replO n f m x rb) (replO n a m x rb)
 | n + 1, .neg t, m, x, rb => (replO n t m x rb).map .neg
 | n + 1, .bin o f a, m, x, rb => ex2 (.bin o) (replO n f m x rb) (replO n a m x rb)
 | n + 1, .qu b k t, m, x, rb =>
  if k == m then
   if rb then match x, replO n t m x true with
    | .nm j, some t' => some (.qu b j t')
    | _, _ => none
   else some (.qu b k t)
  else if x.free.any (· == k) then
   if (unionN [[m], t.free, x.free]).any (· == .z1) then none
   else match replO n t k (.nm .z1) true with
    | some t1 => match replO n t1 m x rb with
     | some t' => some (.qu b .z1 t')
     | none => none
    | none => none
  else match replO n t m x rb with
   | some t' => some (.qu b k t')
   | none => none
structure Wd where
 dog : Bool → Bool
 sees : Bool → Bool → Bool
 mother : Bool → Bool
 rex : Bool
noncomputable abbrev Pl := Nm → Option Bool
noncomputable def Pl.put (p : Pl) (n : Nm) (b : Bool) : Pl := fun k => if k = n then some b else p k
noncomputable def th (W : Wd) (p : Pl) : Ex → Option Bool
 | .app _ a => (th W p a).map W.mother
 | .nm n => if n = .rex then some W.rex else p n
 | _ => none
noncomputable def op2 (g : Bool → Bool → Bool) : Option Bool → Option Bool → Option Bool
 | some x, some y => some (g x y)
 | _, _ => none
noncomputable def tr (W : Wd) : Pl → Ex → Option Bool
 | p, .neg t => (tr W p t).map (!·)
 | p, .bin .eq a b => op2 (fun x y => x == y) (th W p a) (th W p b)
 | p, .bin .and a b => op2 (fun x y => x && y) (tr W p a) (tr W p b)
 | p, .bin .or a b => op2 (fun x y => x || y) (tr W p a) (tr W p b)
 | p, .bin .imp a b => op2 (fun x y => y || !x) (tr W p a) (tr W p b)
 | p, .qu all n t => op2 (fun x y => if all then x && y else x || y) (tr W (p.put n false) t) (tr W (p.put n true) t)
 | p, .app (.app _ s) t => op2 W.sees (th W p s) (th W p t)
 | p, .app (.nm _) t => (th W p t).map W.dog
 | _, _ => none
noncomputable def Nm.isArg : Nm → Bool
 | .dog | .sees | .mother => false
 | _ => true
inductive Tm : Ex → Prop
 | nm {n : Nm} : n.isArg = true → Tm (.nm n)
 | mo {t : Ex} : Tm t → Tm (.app (.nm .mother) t)
inductive Fm : Ex → Prop
 | dog {t : Ex} : Tm t → Fm (.app (.nm .dog) t)
 | sees {s t : Ex} : Tm s → Tm t → Fm (.app (.app (.nm .sees) s) t)
 | eq {s t : Ex} : Tm s → Tm t → Fm (.bin .eq s t)
 | neg {t : Ex} : Fm t → Fm (.neg t)
 | qu {b : Bool} {n : Nm} {t : Ex} : n.isVar = true → Fm t → Fm (.qu b n t)
 | bin {o : Op} {s t : Ex} : o ≠ .eq → Fm s → Fm t → Fm (.bin o s t)
noncomputable def Ex.names : Ex → List Nm
 | .nm n => [n]
 | .app f a => f.names ++ a.names
 | .neg t => t.names
 | .qu _ n t => n :: t.names
 | .bin _ a b => a.names ++ b.names
noncomputable def Ex.binds : Ex → List Nm
 | .nm _ => []
 | .app f a => f.binds ++ a.binds
 | .neg t => t.binds
 | .qu _ n t => n :: t.binds
 | .bin _ a b => a.binds ++ b.binds
noncomputable def Ex.ren (k j : Nm) : Ex → Ex
 | .nm n => .nm (if n = k then j else n)
 | .app f a => .app (f.ren k j) (a.ren k j)
 | .neg t => .neg (t.ren k j)
 | .qu b n t => .qu b (if n = k then j else n) (t.ren k j)
 | .bin o a b => .bin o (a.ren k j) (b.ren k j)
noncomputable def Ex.sub (m : Nm) (x : Ex) : Ex → Ex
 | .nm n => if n = m then x else .nm n
 | .app f a => .app (Ex.sub m x f) (Ex.sub m x a)
 | .neg t => .neg (Ex.sub m x t)
 | .qu b n t => if n = m then .qu b n t else .qu b n (Ex.sub m x t)
 | .bin o f a => .bin o (Ex.sub m x f) (Ex.sub m x a)
noncomputable def lawFree : Ex → List Nm → List Nm
 | .qu _ n t, bd => lawFree t (bd ++ [n])
 | .neg t, bd => lawFree t bd
 | .app f a, bd => lawFree f bd ++ lawFree a bd
 | .nm n, bd => if (bd ++ [Nm.rex, Nm.dog, Nm.sees, Nm.mother]).any (· == n) then [] else [n]
 | .bin _ a b, bd => lawFree a bd ++ lawFree b bd
end Mine
namespace Mine
set_option tactic.hygienic true in
theorem mem_addN {f : List Nm} {n k : Nm} : k ∈ addN f n ↔ k ∈ f ∨ k = n := by
 unfold addN
 split
 ·rename_i h
  obtain ⟨a, ha, e⟩ := List.any_eq_true.mp h
  have := beq_iff_eq.mp e
  subst this
  constructor
  ·exact .inl
  ·rintro (h | rfl)
   ·exact h
   ·exact ha
 ·simp
theorem mem_addAll {k : Nm} : ∀ {ns f : List Nm}, k ∈ addAll f ns ↔ k ∈ f ∨ k ∈ ns
 | [], f => by simp [addAll]
 | n :: ns, f => by
  show k ∈ addAll (addN f n) ns ↔ _
  rw [mem_addAll, mem_addN]
  simp [or_assoc]
theorem mem_foldU {k : Nm} : ∀ {nss : List (List Nm)} {f : List Nm}, k ∈ nss.foldl addAll f ↔ k ∈ f ∨ ∃ ns ∈ nss, k ∈ ns
 | [], f => by simp
 | ns :: nss, f => by
  show k ∈ nss.foldl addAll (addAll f ns) ↔ _
  rw [mem_foldU, mem_addAll]
  simp [or_assoc]
theorem mem_union {k : Nm} {nss : List (List Nm)} : k ∈ unionN nss ↔ ∃ ns ∈ nss, k ∈ ns := by
 unfold unionN; rw [mem_foldU]; simp
theorem any_beq {l : List Nm} {k : Nm} : (l.any (· == k)) = true ↔ k ∈ l := by
 rw [List.any_eq_true]
 constructor
 ·rintro ⟨a, h, e⟩
  have := beq_iff_eq.mp e
  exact this ▸ h
 ·exact fun h => ⟨k, h, beq_self_eq_true _⟩
theorem any_beqF {l : List Nm} {k : Nm} : (l.any (· == k)) = false ↔ k ∉ l := by
 rw [← Bool.not_eq_true, any_beq]
theorem mem_free_app {f a : Ex} {k : Nm} : k ∈ (Ex.app f a).free ↔ k ∈ f.free ∨ k ∈ a.free := by simp [Ex.free, mem_union]
theorem mem_free_bin {o : Op} {f a : Ex} {k : Nm} : k ∈ (Ex.bin o f a).free ↔ k ∈ f.free ∨ k ∈ a.free := by simp [Ex.free, mem_union]
theorem mem_free_neg {t : Ex} {k : Nm} : k ∈ (Ex.neg t).free ↔ k ∈ t.free := by simp [Ex.free, mem_union]
theorem mem_free_qu {b : Bool} {n k : Nm} {t : Ex} : k ∈ (Ex.qu b n t).free ↔ k ∈ t.free ∧ k ≠ n := by simp [Ex.free]
set_option tactic.hygienic true in
theorem mem_free_nm {n k : Nm} : k ∈ (Ex.nm n).free ↔ k = n ∧ n.isVar = true := by
 unfold Ex.free
 split
 ·rename_i h; simp [h]
 ·rename_i h; simp [h]
theorem free_isVar {k : Nm} : ∀ {e : Ex}, k ∈ e.free → k.isVar = true
 | .nm n, h => by obtain ⟨rfl, h⟩ := mem_free_nm.mp h; exact h
 | .app f a, h => by
  rcases mem_free_app.mp h with h | h
  ·exact free_isVar h
  ·exact free_isVar h
 | .bin o f a, h => by
  rcases mem_free_bin.mp h with h | h
  ·exact free_isVar h
  ·exact free_isVar h
 | .neg t, h => free_isVar (mem_free_neg.mp h)
 | .qu b n t, h => free_isVar (mem_free_qu.mp h).1
theorem free_names {k : Nm} : ∀ {e : Ex}, k ∈ e.free → k ∈ e.names
 | .nm n, h => by obtain ⟨rfl, h⟩ := mem_free_nm.mp h; simp [Ex.names]
 | .app f a, h => by
  rcases mem_free_app.mp h with h | h
  ·exact List.mem_append_left _ (free_names h)
  ·exact List.mem_append_right _ (free_names h)
 | .bin o f a, h => by
  rcases mem_free_bin.mp h with h | h
  ·exact List.mem_append_left _ (free_names h)
  ·exact List.mem_append_right _ (free_names h)
 | .neg t, h => free_names (e := t) (mem_free_neg.mp h)
 | .qu b n t, h => List.mem_cons_of_mem _ (free_names (mem_free_qu.mp h).1)
theorem Tm.noBinds {e : Ex} (h : Tm e) : e.binds = [] := by
 induction h with
 | nm _ => rfl
 | mo _ ih => show ([] : List Nm) ++ _ = []; rw [ih]; rfl
theorem isArg_var {n : Nm} (h : n.isArg = true) (k : n ≠ .rex) : n.isVar = true := by cases n <;> first | rfl | exact absurd rfl k | cases h
theorem isVar_arg {n : Nm} (h : n.isVar = true) : n.isArg = true := by cases n <;> first | rfl | cases h
theorem isVar_rex {n : Nm} (h : n.isVar = true) : n ≠ .rex := by rintro rfl; cases h
set_option tactic.hygienic true in
theorem th_congr {W : Wd} {p q : Pl} {e : Ex} (h : Tm e) (k : ∀ n ∈ e.free, p n = q n) : th W p e = th W q e := by
 induction h with
 | @nm n h =>
  unfold th
  split
  ·rfl
  ·rename_i hn
   exact k n (mem_free_nm.mpr ⟨rfl, isArg_var h hn⟩)
 | mo h ih =>
  unfold th
  rw [ih fun n hn => k n (mem_free_app.mpr (.inr hn))]
theorem op2_c {g : Bool → Bool → Bool} {x x' y y' : Option Bool} (h : x = x') (k : y = y') : op2 g x y = op2 g x' y' := h ▸ k ▸ rfl
theorem op2_v {g : Bool → Bool → Bool} {x y : Option Bool} {a b : Bool} (h : x = some a) (k : y = some b) : op2 g x y = some (g a b) := op2_c h k
set_option tactic.hygienic true in
theorem tr_congr {W : Wd} {e : Ex} (h : Fm e) : ∀ {p q : Pl}, (∀ n ∈ e.free, p n = q n) → tr W p e = tr W q e := by
 induction h with
 | dog h => intro p q k; exact congrArg (Option.map W.dog) (th_congr h fun n hn => k n (mem_free_app.mpr (.inr hn)))
 | sees h1 h2 =>
  intro p q k
  exact op2_c (th_congr h1 fun n hn => k n (mem_free_app.mpr (.inl (mem_free_app.mpr (.inr hn))))) (th_congr h2 fun n hn => k n (mem_free_app.mpr (.inr hn)))
 | eq h1 h2 =>
  intro p q k
  exact op2_c (th_congr h1 fun n hn => k n (mem_free_bin.mpr (.inl hn))) (th_congr h2 fun n hn => k n (mem_free_bin.mpr (.inr hn)))
 | neg _ ih => intro p q k; exact congrArg (Option.map (!·)) (ih fun n hn => k n (mem_free_neg.mpr hn))
 | @qu b n t _ _ ih =>
  intro p q k
  have : ∀ v, tr W (p.put n v) t = tr W (q.put n v) t := fun v => ih fun i hi => by
   unfold Pl.put
   split
   ·rfl
   ·rename_i hne
    exact k i (mem_free_qu.mpr ⟨hi, hne⟩)
  exact op2_c (this _) (this _)
 | @bin o s t ho _ _ i1 i2 =>
  intro p q k
  have e1 := i1 fun n hn => k n (mem_free_bin.mpr (.inl hn))
  have e2 := i2 fun n hn => k n (mem_free_bin.mpr (.inr hn))
  cases o <;> first | exact absurd rfl ho | exact op2_c e1 e2
set_option tactic.hygienic true in
theorem th_def {W : Wd} {p : Pl} {e : Ex} (h : Tm e) (k : ∀ n ∈ e.free, ∃ v, p n = some v) : ∃ v, th W p e = some v := by
 induction h with
 | @nm n h =>
  unfold th
  split
  ·exact ⟨_, rfl⟩
  ·rename_i hn
   exact k n (mem_free_nm.mpr ⟨rfl, isArg_var h hn⟩)
 | mo h ih =>
  obtain ⟨v, hv⟩ := ih fun n hn => k n (mem_free_app.mpr (.inr hn))
  unfold th
  rw [hv]
  exact ⟨_, rfl⟩
set_option tactic.hygienic true in
theorem tr_def {W : Wd} {e : Ex} (h : Fm e) : ∀ {p : Pl}, (∀ n ∈ e.free, ∃ v, p n = some v) → ∃ v, tr W p e = some v := by
 induction h with
 | dog h =>
  intro p k
  obtain ⟨v, hv⟩ := th_def (W := W) h fun n hn => k n (mem_free_app.mpr (.inr hn))
  exact ⟨_, congrArg (Option.map W.dog) hv⟩
 | sees h1 h2 =>
  intro p k
  obtain ⟨v, hv⟩ := th_def (W := W) h1 fun n hn => k n (mem_free_app.mpr (.inl (mem_free_app.mpr (.inr hn))))
  obtain ⟨u, hu⟩ := th_def (W := W) h2 fun n hn => k n (mem_free_app.mpr (.inr hn))
  exact ⟨_, op2_v hv hu⟩
 | eq h1 h2 =>
  intro p k
  obtain ⟨v, hv⟩ := th_def (W := W) h1 fun n hn => k n (mem_free_bin.mpr (.inl hn))
  obtain ⟨u, hu⟩ := th_def (W := W) h2 fun n hn => k n (mem_free_bin.mpr (.inr hn))
  exact ⟨_, op2_v hv hu⟩
 | neg _ ih =>
  intro p k
  obtain ⟨v, hv⟩ := ih fun n hn => k n (mem_free_neg.mpr hn)
  exact ⟨_, congrArg (Option.map (!·)) hv⟩
 | @qu b n t _ _ ih =>
  intro p k
  have : ∀ v, ∃ u, tr W (p.put n v) t = some u := fun v => ih fun i hi => by
   unfold Pl.put
   split
   ·exact ⟨_, rfl⟩
   ·rename_i hne
    exact k i (mem_free_qu.mpr ⟨hi, hne⟩)
  obtain ⟨u, hu⟩ := this false
  obtain ⟨v, hv⟩ := this true
  exact ⟨_, op2_v hu hv⟩
 | @bin o s t ho _ _ i1 i2 =>
  intro p k
  obtain ⟨v, hv⟩ := i1 fun n hn => k n (mem_free_bin.mpr (.inl hn))
  obtain ⟨u, hu⟩ := i2 fun n hn => k n (mem_free_bin.mpr (.inr hn))
  cases o <;> first | exact absurd rfl ho | exact ⟨_, op2_v hv hu⟩
/- a name made another -/
theorem Tm.ren {e : Ex} {k j : Nm} (h : Tm e) (hj : j.isVar = true) (hk : k.isVar = true) : Tm (e.ren k j) := by
 induction h with
 | @nm n h =>
  refine .nm ?_
  split
  ·exact isVar_arg hj
  ·exact h
 | mo _ ih =>
  show Tm (.app (.nm (if Nm.mother = k then j else .mother)) _)
  rw [if_neg (by rintro rfl; cases hk)]
  exact .mo ih
theorem Fm.ren {e : Ex} {k j : Nm} (h : Fm e) (hj : j.isVar = true) (hk : k.isVar = true) : Fm (e.ren k j) := by
 induction h with
 | dog h =>
  show Fm (.app (.nm (if Nm.dog = k then j else .dog)) _)
  rw [if_neg (by rintro rfl; cases hk)]
  exact .dog (h.ren hj hk)
 | sees h1 h2 =>
  show Fm (.app (.app (.nm (if Nm.sees = k then j else .sees)) _) _)
  rw [if_neg (by rintro rfl; cases hk)]
  exact .sees (h1.ren hj hk) (h2.ren hj hk)
 | eq h1 h2 => exact .eq (h1.ren hj hk) (h2.ren hj hk)
 | neg _ ih => exact .neg ih
 | qu hn _ ih =>
  refine .qu ?_ ih
  split
  ·exact hj
  ·exact hn
 | bin ho _ _ i1 i2 => exact .bin ho i1 i2
theorem ren_ht {k j : Nm} : ∀ (e : Ex), (e.ren k j).ht = e.ht
 | .nm _ => rfl
 | .app f a => by simp only [Ex.ren, Ex.ht, ren_ht f, ren_ht a]
 | .neg t => by simp only [Ex.ren, Ex.ht, ren_ht t]
 | .qu _ _ t => by simp only [Ex.ren, Ex.ht, ren_ht t]
 | .bin _ f a => by simp only [Ex.ren, Ex.ht, ren_ht f, ren_ht a]
set_option tactic.hygienic true in
theorem th_ren {W : Wd} {p p' : Pl} {k j : Nm} {e : Ex} (h : Tm e) (hj : j.isVar = true) (hk : k.isVar = true) (hn : j ∉ e.names) (h1 : p' j = p k) (h2 : ∀ n, n ≠ k → n ≠ j → p' n = p n) : th W p' (e.ren k j) = th W p e := by
 induction h with
 | @nm n h =>
  have hnj : n ≠ j := fun q => hn (by rw [q]; exact List.mem_singleton.mpr rfl)
  unfold Ex.ren
  split
  ·rename_i q; subst q
   unfold th
   rw [if_neg (isVar_rex hj), if_neg (isVar_rex hk)]
   exact h1
  ·rename_i q
   unfold th
   rw [h2 n q hnj]
 | mo _ ih =>
  unfold Ex.ren th
  rw [ih fun q => hn (List.mem_append_right _ q)]
theorem tr_ren {W : Wd} {k j : Nm} {e : Ex} (h : Fm e) (hj : j.isVar = true) (hk : k.isVar = true) (hkj : k ≠ j) : ∀ {p p' : Pl}, j ∉ e.names → p' j = p k → (∀ n, n ≠ k → n ≠ j → p' n = p n) → tr W p' (e.ren k j) = tr W p e := by
 induction h with
 | dog h =>
  intro p p' hn h1 h2
  show tr W p' (.app (.nm _) _) = _
  exact congrArg (Option.map W.dog) (th_ren h hj hk (fun q => hn (List.mem_append_right _ q)) h1 h2)
 | sees ha hb =>
  intro p p' hn h1 h2
  show tr W p' (.app (.app _ _) _) = _
  exact op2_c (th_ren ha hj hk (fun q => hn (List.mem_append_left _ (List.mem_append_right _ q))) h1 h2) (th_ren hb hj hk (fun q => hn (List.mem_append_right _ q)) h1 h2)
 | eq ha hb =>
  intro p p' hn h1 h2
  show tr W p' (.bin .eq _ _) = _
  exact op2_c (th_ren ha hj hk (fun q => hn (List.mem_append_left _ q)) h1 h2) (th_ren hb hj hk (fun q => hn (List.mem_append_right _ q)) h1 h2)
 | neg _ ih =>
  intro p p' hn h1 h2
  show tr W p' (.neg _) = _
  exact congrArg (Option.map (!·)) (ih hn h1 h2)
 | @qu b n t hv _ ih =>
  intro p p' hn h1 h2
  show tr W p' (.qu b (if n = k then j else n) _) = _
  have hnj : n ≠ j := fun q => hn (by rw [q]; exact List.mem_cons_self)
  have hnt : j ∉ t.names := fun q => hn (List.mem_cons_of_mem _ q)
  have : ∀ v, tr W (p'.put (if n = k then j else n) v) (t.ren k j) = tr W (p.put n v) t := fun v => by
   refine ih hnt ?_ fun i hik hij => ?_
   ·unfold Pl.put
    by_cases q : n = k
    ·rw [if_pos q, if_pos rfl, if_pos q.symm]
    ·rw [if_neg q, if_neg (Ne.symm hnj), if_neg (Ne.symm q)]; exact h1
   ·unfold Pl.put
    by_cases q : n = k
    ·rw [if_pos q, if_neg hij, if_neg (fun (r : i = n) => hik (r.trans q))]; exact h2 i hik hij
    ·rw [if_neg q]
     split
     ·rfl
     ·exact h2 i hik hij
  exact op2_c (this _) (this _)
 | @bin o s t ho _ _ i1 i2 =>
  intro p p' hn h1 h2
  show tr W p' (.bin o _ _) = _
  have e1 := i1 (fun q => hn (List.mem_append_left _ q)) h1 h2
  have e2 := i2 (fun q => hn (List.mem_append_right _ q)) h1 h2
  cases o <;> first | exact absurd rfl ho | exact op2_c e1 e2
set_option tactic.hygienic true in
theorem ren_binds {k j i : Nm} : ∀ {e : Ex}, i ∈ (e.ren k j).binds → i = j ∨ (i ∈ e.binds ∧ i ≠ k)
 | .nm n, h => nomatch h
 | .app f a, h => by
  rcases List.mem_append.mp h with h | h
  ·exact (ren_binds h).imp id fun q => ⟨List.mem_append_left _ q.1, q.2⟩
  ·exact (ren_binds h).imp id fun q => ⟨List.mem_append_right _ q.1, q.2⟩
 | .bin _ f a, h => by
  rcases List.mem_append.mp h with h | h
  ·exact (ren_binds h).imp id fun q => ⟨List.mem_append_left _ q.1, q.2⟩
  ·exact (ren_binds h).imp id fun q => ⟨List.mem_append_right _ q.1, q.2⟩
 | .neg t, h => ren_binds (e := t) h
 | .qu b n t, h => by
  rcases List.mem_cons.mp h with h | h
  ·subst h
   split
   ·exact .inl rfl
   ·rename_i q; exact .inr ⟨List.mem_cons_self, q⟩
  ·exact (ren_binds h).imp id fun q => ⟨List.mem_cons_of_mem _ q.1, q.2⟩
theorem or_mixR {A B N P Q X : Prop} : ((X ∧ P) ∨ (A ∧ N)) ∨ ((X ∧ Q) ∨ (B ∧ N)) ↔ (X ∧ (P ∨ Q)) ∨ ((A ∨ B) ∧ N) :=
 ⟨fun h => h.elim (fun h => h.elim (fun h => .inl ⟨h.1, .inl h.2⟩) fun h => .inr ⟨.inl h.1, h.2⟩) fun h => h.elim (fun h => .inl ⟨h.1, .inr h.2⟩) fun h => .inr ⟨.inr h.1, h.2⟩,
  fun h => h.elim (fun h => h.2.elim (fun k => .inl (.inl ⟨h.1, k⟩)) fun k => .inr (.inl ⟨h.1, k⟩)) fun h => h.1.elim (fun k => .inl (.inr ⟨k, h.2⟩)) fun k => .inr (.inr ⟨k, h.2⟩)⟩
theorem or_mixS {A B N P Q X : Prop} : ((A ∧ N) ∨ (P ∧ X)) ∨ ((B ∧ N) ∨ (Q ∧ X)) ↔ ((A ∨ B) ∧ N) ∨ ((P ∨ Q) ∧ X) :=
 ⟨fun h => h.elim (fun h => h.elim (fun h => .inl ⟨.inl h.1, h.2⟩) fun h => .inr ⟨.inl h.1, h.2⟩) fun h => h.elim (fun h => .inl ⟨.inr h.1, h.2⟩) fun h => .inr ⟨.inr h.1, h.2⟩,
  fun h => h.elim (fun h => h.1.elim (fun k => .inl (.inl ⟨k, h.2⟩)) fun k => .inr (.inl ⟨k, h.2⟩)) fun h => h.1.elim (fun k => .inl (.inr ⟨k, h.2⟩)) fun k => .inr (.inr ⟨k, h.2⟩)⟩
theorem ren_free {k j i : Nm} (hj : j.isVar = true) (hk : k.isVar = true) (hkj : k ≠ j) : ∀ {e : Ex}, j ∉ e.names → (i ∈ (e.ren k j).free ↔ (i = j ∧ k ∈ e.free) ∨ (i ∈ e.free ∧ i ≠ k))
 | .nm n, hn => by
  have hnj : n ≠ j := fun q => hn (by rw [q]; exact List.mem_singleton.mpr rfl)
  unfold Ex.ren
  rw [mem_free_nm, mem_free_nm, mem_free_nm]
  by_cases q : n = k
  ·subst q
   rw [if_pos rfl]
   constructor
   ·rintro ⟨rfl, _⟩; exact .inl ⟨rfl, rfl, hk⟩
   ·rintro (⟨rfl, _⟩ | ⟨⟨rfl, _⟩, h⟩)
    ·exact ⟨rfl, hj⟩
    ·exact absurd rfl h
  ·rw [if_neg q]
   constructor
   ·rintro ⟨rfl, h⟩; exact .inr ⟨⟨rfl, h⟩, q⟩
   ·rintro (⟨rfl, h, _⟩ | ⟨h, _⟩)
    ·exact absurd h.symm q
    ·exact h
 | .app f a, hn => by
  unfold Ex.ren
  rw [mem_free_app, mem_free_app, mem_free_app, ren_free hj hk hkj (fun q => hn (List.mem_append_left _ q)), ren_free hj hk hkj (fun q => hn (List.mem_append_right _ q))]
  exact or_mixR
 | .bin _ f a, hn => by
  unfold Ex.ren
  rw [mem_free_bin, mem_free_bin, mem_free_bin, ren_free hj hk hkj (fun q => hn (List.mem_append_left _ q)), ren_free hj hk hkj (fun q => hn (List.mem_append_right _ q))]
  exact or_mixR
 | .neg t, hn => by
  unfold Ex.ren
  rw [mem_free_neg, mem_free_neg, mem_free_neg]
  exact ren_free hj hk hkj (e := t) hn
 | .qu b n t, hn => by
  have hnj : n ≠ j := fun q => hn (by rw [q]; exact List.mem_cons_self)
  have hnt : j ∉ t.names := fun q => hn (List.mem_cons_of_mem _ q)
  have hft : j ∉ t.free := fun q => hnt (free_names q)
  unfold Ex.ren
  rw [mem_free_qu, mem_free_qu, mem_free_qu, ren_free hj hk hkj hnt]
  by_cases q : n = k
  ·subst q
   rw [if_pos rfl]
   exact ⟨fun h => h.1.elim (fun g => absurd g.1 h.2) fun g => .inr ⟨g, g.2⟩, fun h => h.elim (fun g => absurd rfl g.2.2) fun g => ⟨.inr g.1, fun e => hft (e ▸ g.1.1)⟩⟩
  ·rw [if_neg q]
   exact ⟨fun h => h.1.elim (fun g => .inl ⟨g.1, g.2, Ne.symm q⟩) fun g => .inr ⟨⟨g.1, h.2⟩, g.2⟩, fun h => h.elim (fun g => ⟨.inl ⟨g.1, g.2.1⟩, fun e => hnj (e.symm.trans g.1)⟩) fun g => ⟨.inr ⟨g.1.1, g.2⟩, g.1.2⟩⟩
theorem replO_nmE {n : Nat} {k m : Nm} {x : Ex} {rb : Bool} : replO (n + 1) (.nm k) m x rb = some (if k == m then x else .nm k) := rfl
theorem replO_quE {n : Nat} {b : Bool} {k m : Nm} {t x : Ex} {rb : Bool} : replO (n + 1) (.qu b k t) m x rb =
  if k == m then
   if rb then match x, replO n t m x true with
    | .nm j, some t' => some (.qu b j t')
    | _, _ => none
   else some (.qu b k t)
  else if x.free.any (· == k) then
   if (unionN [[m], t.free, x.free]).any (· == .z1) then none
   else match replO n t k (.nm .z1) true with
    | some t1 => match replO n t1 m x rb with
     | some t' => some (.qu b .z1 t')
     | none => none
    | none => none
  else match replO n t m x rb with
   | some t' => some (.qu b k t')
   | none => none := rfl
theorem ex2_v {g : Ex → Ex → Ex} {x y : Option Ex} {a b : Ex} (h : x = some a) (k : y = some b) : ex2 g x y = some (g a b) := h ▸ k ▸ rfl
theorem ex2_some {g : Ex → Ex → Ex} {x y : Option Ex} {r : Ex} (h : ex2 g x y = some r) : ∃ a b, x = some a ∧ y = some b ∧ r = g a b := by
 cases x with
 | none => cases h
 | some a =>
  cases y with
  | none => cases h
  | some b => exact ⟨a, b, rfl, rfl, (Option.some.inj h).symm⟩
theorem replO_ren {k j : Nm} (hj : j.isVar = true) : ∀ {e : Ex} {n : Nat}, e.ht ≤ n → j ∉ e.names → replO n e k (.nm j) true = some (e.ren k j)
 | .nm i, 0, h, _ => absurd h (by simp [Ex.ht])
 | .nm i, n + 1, _, hn => by
  rw [replO_nmE]
  unfold Ex.ren
  simp only [beq_iff_eq]
  split <;> rfl
 | .app f a, 0, h, _ => absurd h (by simp [Ex.ht])
 | .app f a, n + 1, h, hn => by
  simp only [Ex.ht] at h
  exact ex2_v (replO_ren hj (e := f) (by o_head qo) (fun q => hn (List.mem_append_left _ q))) (replO_ren hj (e := a) (by o_head qo) (fun q => hn (List.mem_append_right _ q)))
 | .bin _ f a, 0, h, _ => absurd h (by simp [Ex.ht])
 | .bin _ f a, n + 1, h, hn => by
  simp only [Ex.ht] at h
  exact ex2_v (replO_ren hj (e := f) (by o_head qo) (fun q => hn (List.mem_append_left _ q))) (replO_ren hj (e := a) (by o_head qo) (fun q => hn (List.mem_append_right _ q)))
 | .neg t, 0, h, _ => absurd h (by simp [Ex.ht])
 | .neg t, n + 1, h, hn => by
  simp only [Ex.ht] at h
  exact congrArg (Option.map Ex.neg) (replO_ren hj (e := t) (by o_head qo) hn)
 | .qu b i t, 0, h, _ => absurd h (by simp [Ex.ht])
 | .qu b i t, n + 1, h, hn => by
  have hnj : i ≠ j := fun q => hn (by rw [q]; exact List.mem_cons_self)
  have hnt : j ∉ t.names := fun q => hn (List.mem_cons_of_mem _ q)
  simp only [Ex.ht] at h
  rw [replO_quE]
  unfold Ex.ren
  rw [replO_ren hj (e := t) (by o_head qo) hnt]
  have hf : ((Ex.nm j).free.any (· == i)) = false := any_beqF.mpr fun q => hnj (mem_free_nm.mp q).1
  rw [hf]
  by_cases q : i = k
  ·simp [q]
  ·simp [q]
set_option tactic.hygienic true in
theorem replO_nm_ht : ∀ (n : Nat) {e : Ex} {m j : Nm} {rb : Bool} {r : Ex}, replO n e m (.nm j) rb = some r → r.ht = e.ht
 | 0, e, m, j, rb, r, h => by cases h
 | n + 1, .nm k, m, j, rb, r, h => by
  rw [replO_nmE] at h
  cases h
  split <;> rfl
 | n + 1, .app f a, m, j, rb, r, h => by
  obtain ⟨_, _, h1, h2, rfl⟩ := ex2_some h
  simp only [Ex.ht, replO_nm_ht n h1, replO_nm_ht n h2]
 | n + 1, .bin o f a, m, j, rb, r, h => by
  obtain ⟨_, _, h1, h2, rfl⟩ := ex2_some h
  simp only [Ex.ht, replO_nm_ht n h1, replO_nm_ht n h2]
 | n + 1, .neg t, m, j, rb, r, h => by
  obtain ⟨_, h1, rfl⟩ := Option.map_eq_some_iff.mp h
  simp only [Ex.ht, replO_nm_ht n h1]
 | n + 1, .qu b k t, m, j, rb, r, h => by
  rw [replO_quE] at h
  split at h
  ·split at h
   ·split at h
    ·rename_i h1
     cases h
     simp only [Ex.ht]
     rename_i i t' hx
     cases hx
     exact congrArg (· + 1) (replO_nm_ht n h1)
    ·cases h
   ·cases h; rfl
  ·split at h
   ·split at h
    ·cases h
    ·split at h
     ·rename_i t1 h1
      split at h
      ·rename_i t' h2
       cases h
       simp only [Ex.ht, replO_nm_ht n h2, replO_nm_ht n h1]
      ·cases h
     ·cases h
   ·split at h
    ·rename_i t' h1
     cases h
     simp only [Ex.ht, replO_nm_ht n h1]
    ·cases h
theorem replO_sub {m : Nm} {x : Ex} : ∀ {e : Ex} {n : Nat}, e.ht ≤ n → (∀ b ∈ e.binds, b ∉ x.free) → replO n e m x false = some (Ex.sub m x e)
 | .nm i, 0, h, _ => absurd h (by simp [Ex.ht])
 | .nm i, n + 1, _, hn => by
  rw [replO_nmE]
  unfold Ex.sub
  simp only [beq_iff_eq]
 | .app f a, 0, h, _ => absurd h (by simp [Ex.ht])
 | .app f a, n + 1, h, hn => by
  simp only [Ex.ht] at h
  exact ex2_v (replO_sub (e := f) (by o_head qo) (fun b q => hn b (List.mem_append_left _ q))) (replO_sub (e := a) (by o_head qo) (fun b q => hn b (List.mem_append_right _ q)))
 | .bin _ f a, 0, h, _ => absurd h (by simp [Ex.ht])
 | .bin _ f a, n + 1, h, hn => by
  simp only [Ex.ht] at h
  exact ex2_v (replO_sub (e := f) (by o_head qo) (fun b q => hn b (List.mem_append_left _ q))) (replO_sub (e := a) (by o_head qo) (fun b q => hn b (List.mem_append_right _ q)))
 | .neg t, 0, h, _ => absurd h (by simp [Ex.ht])
 | .neg t, n + 1, h, hn => by
  simp only [Ex.ht] at h
  exact congrArg (Option.map Ex.neg) (replO_sub (e := t) (by o_head qo) hn)
 | .qu b i t, 0, h, _ => absurd h (by simp [Ex.ht])
 | .qu b i t, n + 1, h, hn => by
  simp only [Ex.ht] at h
  rw [replO_quE]
  unfold Ex.sub
  rw [replO_sub (e := t) (by o_head qo) (fun c q => hn c (List.mem_cons_of_mem _ q))]
  have hf : (x.free.any (· == i)) = false := any_beqF.mpr (hn i List.mem_cons_self)
  rw [hf]
  by_cases q : i = m
  ·simp [q]
  ·simp [q]
theorem Tm.sub {e x : Ex} {m : Nm} (h : Tm e) (hx : Tm x) (hm : m.isVar = true) : Tm (Ex.sub m x e) := by
 induction h with
 | @nm n h =>
  unfold Ex.sub
  split
  ·exact hx
  ·exact .nm h
 | mo _ ih =>
  unfold Ex.sub
  show Tm (.app (if Nm.mother = m then x else .nm .mother) _)
  rw [if_neg (by rintro rfl; cases hm)]
  exact .mo ih
theorem Fm.sub {e x : Ex} {m : Nm} (h : Fm e) (hx : Tm x) (hm : m.isVar = true) : Fm (Ex.sub m x e) := by
 induction h with
 | dog h =>
  show Fm (.app (if Nm.dog = m then x else .nm .dog) _)
  rw [if_neg (by rintro rfl; cases hm)]
  exact .dog (h.sub hx hm)
 | sees h1 h2 =>
  show Fm (.app (.app (if Nm.sees = m then x else .nm .sees) _) _)
  rw [if_neg (by rintro rfl; cases hm)]
  exact .sees (h1.sub hx hm) (h2.sub hx hm)
 | eq h1 h2 => exact .eq (h1.sub hx hm) (h2.sub hx hm)
 | neg _ ih => exact .neg ih
 | qu hn h ih =>
  unfold Ex.sub
  split
  ·exact .qu hn h
  ·exact .qu hn ih
 | bin ho _ _ i1 i2 => exact .bin ho i1 i2
theorem sub_ht {m : Nm} {x : Ex} : ∀ (e : Ex), (Ex.sub m x e).ht ≤ e.ht + x.ht
 | .nm _ => by
  unfold Ex.sub
  split
  ·o_head qo
  ·o_head qo
 | .app f a => by have := sub_ht (m := m) (x := x) f; have := sub_ht (m := m) (x := x) a; simp only [Ex.sub, Ex.ht]; o_head qo
 | .neg t => by have := sub_ht (m := m) (x := x) t; simp only [Ex.sub, Ex.ht]; o_head qo
 | .qu _ _ t => by
  have := sub_ht (m := m) (x := x) t
  unfold Ex.sub
  split
  ·o_head qo
  ·simp only [Ex.ht]; o_head qo
 | .bin _ f a => by have := sub_ht (m := m) (x := x) f; have := sub_ht (m := m) (x := x) a; simp only [Ex.sub, Ex.ht]; o_head qo
theorem sub_names {m i : Nm} {x : Ex} : ∀ {e : Ex}, i ∈ (Ex.sub m x e).names → i ∈ e.names ∨ i ∈ x.names
 | .nm n, h => by
  unfold Ex.sub at h
  split at h
  ·exact .inr h
  ·exact .inl h
 | .app f a, h => by
  rcases List.mem_append.mp h with h | h
  ·exact (sub_names h).imp (List.mem_append_left _) id
  ·exact (sub_names h).imp (List.mem_append_right _) id
 | .bin _ f a, h => by
  rcases List.mem_append.mp h with h | h
  ·exact (sub_names h).imp (List.mem_append_left _) id
  ·exact (sub_names h).imp (List.mem_append_right _) id
 | .neg t, h => sub_names (e := t) h
 | .qu b n t, h => by
  unfold Ex.sub at h
  split at h
  ·exact .inl h
  ·rcases List.mem_cons.mp h with h | h
   ·exact .inl (h ▸ List.mem_cons_self)
   ·exact (sub_names h).imp (List.mem_cons_of_mem _) id
theorem sub_binds {m i : Nm} {x : Ex} (hx : x.binds = []) : ∀ {e : Ex}, i ∈ (Ex.sub m x e).binds → i ∈ e.binds
 | .nm n, h => by
  unfold Ex.sub at h
  split at h
  ·rw [hx] at h; cases h
  ·exact h
 | .app f a, h => by
  rcases List.mem_append.mp h with h | h
  ·exact List.mem_append_left _ (sub_binds hx h)
  ·exact List.mem_append_right _ (sub_binds hx h)
 | .bin _ f a, h => by
  rcases List.mem_append.mp h with h | h
  ·exact List.mem_append_left _ (sub_binds hx h)
  ·exact List.mem_append_right _ (sub_binds hx h)
 | .neg t, h => sub_binds (e := t) hx h
 | .qu b n t, h => by
  unfold Ex.sub at h
  split at h
  ·exact h
  ·rcases List.mem_cons.mp h with h | h
   ·exact h ▸ List.mem_cons_self
   ·exact List.mem_cons_of_mem _ (sub_binds hx h)
set_option tactic.hygienic true in
theorem sub_free {m i : Nm} {x : Ex} (hm : m.isVar = true) : ∀ {e : Ex}, (∀ b ∈ e.binds, b ∉ x.free) → (i ∈ (Ex.sub m x e).free ↔ (i ∈ e.free ∧ i ≠ m) ∨ (m ∈ e.free ∧ i ∈ x.free))
 | .nm n, hb => by
  unfold Ex.sub
  rw [mem_free_nm, mem_free_nm]
  by_cases q : n = m
  ·subst q
   rw [if_pos rfl]
   exact ⟨fun h => .inr ⟨⟨rfl, hm⟩, h⟩, fun h => h.elim (fun g => absurd g.1.1 g.2) fun g => g.2⟩
  ·rw [if_neg q, mem_free_nm]
   exact ⟨fun h => .inl ⟨h, fun e => q (h.1.symm.trans e)⟩, fun h => h.elim (fun g => g.1) fun g => absurd g.1.1.symm q⟩
 | .app f a, hb => by
  unfold Ex.sub
  rw [mem_free_app, mem_free_app, mem_free_app, sub_free hm (fun b q => hb b (List.mem_append_left _ q)), sub_free hm (fun b q => hb b (List.mem_append_right _ q))]
  exact or_mixS
 | .bin _ f a, hb => by
  unfold Ex.sub
  rw [mem_free_bin, mem_free_bin, mem_free_bin, sub_free hm (fun b q => hb b (List.mem_append_left _ q)), sub_free hm (fun b q => hb b (List.mem_append_right _ q))]
  exact or_mixS
 | .neg t, hb => by
  unfold Ex.sub
  rw [mem_free_neg, mem_free_neg, mem_free_neg]
  exact sub_free hm (e := t) hb
 | .qu b n t, hb => by
  have hn := hb n List.mem_cons_self
  unfold Ex.sub
  split
  ·rename_i q
   subst q
   rw [mem_free_qu, mem_free_qu]
   exact ⟨fun h => .inl ⟨h, h.2⟩, fun h => h.elim (fun g => g.1) fun g => absurd rfl g.1.2⟩
  ·rename_i q
   rw [mem_free_qu, mem_free_qu, mem_free_qu, sub_free hm (fun c q => hb c (List.mem_cons_of_mem _ q))]
   exact ⟨fun h => h.1.elim (fun g => .inl ⟨⟨g.1, h.2⟩, g.2⟩) fun g => .inr ⟨⟨g.1, Ne.symm q⟩, g.2⟩, fun h => h.elim (fun g => ⟨.inl ⟨g.1.1, g.2⟩, g.1.2⟩) fun g => ⟨.inr ⟨g.1.1, g.2⟩, fun e => hn (e ▸ g.2)⟩⟩
set_option tactic.hygienic true in
theorem th_sub {W : Wd} {p : Pl} {m : Nm} {x e : Ex} {v : Bool} (h : Tm e) (hm : m.isVar = true) (hv : th W p x = some v) : th W p (Ex.sub m x e) = th W (p.put m v) e := by
 induction h with
 | @nm n h =>
  unfold Ex.sub
  split
  ·rename_i q
   subst q
   rw [hv]
   unfold th
   rw [if_neg (isVar_rex hm)]
   unfold Pl.put
   rw [if_pos rfl]
  ·rename_i q
   unfold th Pl.put
   rw [if_neg q]
 | mo _ ih =>
  unfold Ex.sub th
  rw [ih]
theorem Pl.put_comm {p : Pl} {a b : Nm} {x y : Bool} (h : a ≠ b) : (p.put a x).put b y = (p.put b y).put a x := by
 funext k
 unfold Pl.put
 by_cases h1 : k = a
 ·subst h1; rw [if_pos rfl, if_neg h, if_pos rfl]
 ·rw [if_neg h1, if_neg h1]
theorem Pl.put_put {p : Pl} {a : Nm} {x y : Bool} : (p.put a x).put a y = p.put a y := by
 funext k
 unfold Pl.put
 by_cases h1 : k = a
 ·rw [if_pos h1, if_pos h1]
 ·rw [if_neg h1, if_neg h1, if_neg h1]
set_option tactic.hygienic true in
theorem tr_sub {W : Wd} {m : Nm} {x e : Ex} (h : Fm e) (hx : Tm x) (hm : m.isVar = true) : ∀ {p : Pl} {v : Bool}, (∀ b ∈ e.binds, b ∉ x.free) → th W p x = some v → tr W p (Ex.sub m x e) = tr W (p.put m v) e := by
 induction h with
 | dog h =>
  intro p v hb hv
  show tr W p (.app (if Nm.dog = m then x else .nm .dog) _) = _
  rw [if_neg (by rintro rfl; cases hm)]
  exact congrArg (Option.map W.dog) (th_sub h hm hv)
 | sees h1 h2 =>
  intro p v hb hv
  show tr W p (.app (.app _ _) _) = _
  exact op2_c (th_sub h1 hm hv) (th_sub h2 hm hv)
 | eq h1 h2 =>
  intro p v hb hv
  show tr W p (.bin .eq _ _) = _
  exact op2_c (th_sub h1 hm hv) (th_sub h2 hm hv)
 | neg _ ih =>
  intro p v hb hv
  show tr W p (.neg _) = _
  exact congrArg (Option.map (!·)) (ih hb hv)
 | @qu b n t hn _ ih =>
  intro p v hb hv
  have hnx := hb n List.mem_cons_self
  unfold Ex.sub
  split
  ·rename_i q
   subst q
   exact op2_c (by rw [Pl.put_put]) (by rw [Pl.put_put])
  ·rename_i q
   have : ∀ c, tr W (p.put n c) (Ex.sub m x t) = tr W ((p.put m v).put n c) t := fun c => by
    rw [Pl.put_comm (Ne.symm q)]
    refine ih (fun c q => hb c (List.mem_cons_of_mem _ q)) ?_
    rw [← hv]
    refine th_congr hx fun i hi => ?_
    unfold Pl.put
    rw [if_neg (fun (r : i = n) => hnx (r ▸ hi))]
   exact op2_c (this _) (this _)
 | @bin o s t ho _ _ i1 i2 =>
  intro p v hb hv
  show tr W p (.bin o _ _) = _
  have e1 := i1 (fun b q => hb b (List.mem_append_left _ q)) hv
  have e2 := i2 (fun b q => hb b (List.mem_append_right _ q)) hv
  cases o <;> first | exact absurd rfl ho | exact op2_c e1 e2
structure Made (e : Ex) (m : Nm) (x r : Ex) : Prop where
 fm : Fm r
 ht : r.ht ≤ e.ht + x.ht
 sem : ∀ W p v, th W p x = some v → tr W p r = tr W (p.put m v) e
 free : ∀ k, k ∈ r.free ↔ (k ∈ e.free ∧ k ≠ m) ∨ (m ∈ e.free ∧ k ∈ x.free)
 binds : ∀ b ∈ r.binds, b = .z1 ∨ b ∈ e.binds
theorem made_sub {e x : Ex} {m : Nm} (h : Fm e) (hx : Tm x) (hm : m.isVar = true) (hb : ∀ b ∈ e.binds, b ∉ x.free) : Made e m x (Ex.sub m x e) :=
 ⟨h.sub hx hm, sub_ht _, fun z z z hv => tr_sub h hx hm hb hv, fun z => sub_free hm hb, fun z h => .inr (sub_binds hx.noBinds h)⟩
theorem replO_made {x : Ex} {m : Nm} (hx : Tm x) (hm : m.isVar = true) (hmz : m ≠ .z1) (hxz : .z1 ∉ x.names) (h1 : ∀ a ∈ x.free, ∀ b ∈ x.free, a = b) {e : Ex} (h : Fm e) : ∀ {n : Nat}, e.ht ≤ n → .z1 ∉ e.names → ∃ r, replO n e m x false = some r ∧ Made e m x r := by
 have noB : ∀ {e : Ex} {n : Nat}, Fm e → e.binds = [] → e.ht ≤ n → ∃ r, replO n e m x false = some r ∧ Made e m x r := fun {e n} h hb hn =>
  ⟨_, replO_sub hn (by rw [hb]; exact fun z h => nomatch h), made_sub h hx hm (by rw [hb]; exact fun z h => nomatch h)⟩
 induction h with
 | dog h => intro n hn hz; exact noB (.dog h) (by show ([] : List Nm) ++ _ = []; rw [h.noBinds]; rfl) hn
 | sees h1 h2 => intro n hn hz; exact noB (.sees h1 h2) (by show (([] : List Nm) ++ _) ++ _ = []; rw [h1.noBinds, h2.noBinds]; rfl) hn
 | eq h1 h2 => intro n hn hz; exact noB (.eq h1 h2) (by show _ ++ _ = []; rw [h1.noBinds, h2.noBinds]; rfl) hn
 | neg h ih =>
  intro n hn hz
  cases n with
  | zero => simp [Ex.ht] at hn
  | succ n =>
   simp only [Ex.ht] at hn
   obtain ⟨r, e1, M⟩ := ih (n := n) (by o_head qo) hz
   refine ⟨.neg r, congrArg (Option.map Ex.neg) e1, .neg M.fm, by have := M.ht; simp only [Ex.ht]; o_head qo, fun W p v hv => ?_, fun k => ?_, M.binds⟩
   ·exact congrArg (Option.map (!·)) (M.sem W p v hv)
   ·rw [mem_free_neg, mem_free_neg, mem_free_neg]; exact M.free k
 | @bin o s t ho hs ht i1 i2 =>
  intro n hn hz
  cases n with
  | zero => simp [Ex.ht] at hn
  | succ n =>
   simp only [Ex.ht] at hn
   obtain ⟨r1, e1, M1⟩ := i1 (n := n) (by o_head qo) (fun q => hz (List.mem_append_left _ q))
   obtain ⟨r2, e2, M2⟩ := i2 (n := n) (by o_head qo) (fun q => hz (List.mem_append_right _ q))
   refine ⟨.bin o r1 r2, ex2_v e1 e2, .bin ho M1.fm M2.fm, by have := M1.ht; have := M2.ht; simp only [Ex.ht]; o_head qo, fun W p v hv => ?_, fun k => ?_, fun b hb => ?_⟩
   ·have q1 := M1.sem W p v hv
    have q2 := M2.sem W p v hv
    cases o <;> first | exact absurd rfl ho | exact op2_c q1 q2
   ·rw [mem_free_bin, mem_free_bin, mem_free_bin, M1.free, M2.free]; exact or_mixS
   ·rcases List.mem_append.mp hb with hb | hb
    ·exact (M1.binds b hb).imp id (List.mem_append_left _)
    ·exact (M2.binds b hb).imp id (List.mem_append_right _)
 | @qu b k t hk ht ih =>
  intro n hn hz
  have hkz : k ≠ .z1 := fun q => hz (q ▸ List.mem_cons_self)
  have htz : .z1 ∉ t.names := fun q => hz (List.mem_cons_of_mem _ q)
  cases n with
  | zero => simp [Ex.ht] at hn
  | succ n =>
   simp only [Ex.ht] at hn
   by_cases q : k = m
   ·subst q
    refine ⟨.qu b k t, by rw [replO_quE]; simp, .qu hk ht, by simp only [Ex.ht]; o_head qo, fun W p v hv => ?_, fun i => ?_, fun z h => .inr h⟩
    ·exact op2_c (by rw [Pl.put_put]) (by rw [Pl.put_put])
    ·rw [mem_free_qu, mem_free_qu]
     exact ⟨fun h => .inl ⟨h, h.2⟩, fun h => h.elim (fun g => g.1) fun g => absurd rfl g.1.2⟩
   ·by_cases hf : k ∈ x.free
    ·have hbx : ∀ c ∈ (t.ren k .z1).binds, c ∉ x.free := fun c hc hcx => by
      rcases ren_binds hc with rfl | ⟨_, h⟩
      ·exact hxz (free_names hcx)
      ·exact h (h1 c hcx k hf)
     have M := made_sub (e := t.ren k .z1) (m := m) (ht.ren (j := .z1) rfl hk) hx hm hbx
     refine ⟨.qu b .z1 (Ex.sub m x (t.ren k .z1)), ?_, .qu rfl M.fm, ?_, fun W p v hv => ?_, fun i => ?_, fun c hc => ?_⟩
     ·rw [replO_quE]
      have t1 : (unionN [[m], t.free, x.free]).any (· == .z1) = false := by
       rw [any_beqF, mem_union]
       rintro ⟨ns, h2, h3⟩
       simp only [List.mem_cons, List.not_mem_nil, or_false] at h2
       rcases h2 with rfl | rfl | rfl
       ·exact hmz (List.mem_singleton.mp h3).symm
       ·exact htz (free_names h3)
       ·exact hxz (free_names h3)
      rw [if_neg (by simpa using q), if_pos (any_beq.mpr hf), t1, if_neg (by decide), replO_ren rfl (by o_head qo) htz]
      dsimp only
      rw [replO_sub (by rw [ren_ht]; o_head qo) hbx]
     ·have := M.ht; rw [ren_ht] at this; simp only [Ex.ht]; o_head qo
     ·have : ∀ c, tr W (p.put .z1 c) (Ex.sub m x (t.ren k .z1)) = tr W ((p.put m v).put k c) t := fun c => by
       rw [M.sem W (p.put .z1 c) v]
       ·refine tr_ren ht rfl hk hkz htz ?_ fun i hi hz => ?_
        ·unfold Pl.put
         rw [if_neg (Ne.symm hmz), if_pos rfl, if_pos rfl]
        ·unfold Pl.put
         rw [if_neg hi, if_neg hz]
       ·rw [← hv]
        refine th_congr hx fun i hi => ?_
        unfold Pl.put
        rw [if_neg (fun (r : i = .z1) => hxz (r ▸ free_names hi))]
      exact op2_c (this _) (this _)
     ·rw [mem_free_qu, M.free, mem_free_qu, mem_free_qu, ren_free rfl hk hkz htz, ren_free rfl hk hkz htz]
      have z1x : .z1 ∉ x.free := fun q => hxz (free_names q)
      have z1t : .z1 ∉ t.free := fun q => htz (free_names q)
      exact ⟨fun h => h.1.elim (fun g => g.1.elim (fun a => absurd a.1 h.2) fun a => .inl ⟨a, g.2⟩) fun g => g.1.elim (fun a => absurd a.1 hmz) fun a => .inr ⟨a, g.2⟩, fun h => h.elim (fun g => ⟨.inl ⟨.inr g.1, g.2⟩, fun e => z1t (e ▸ g.1.1)⟩) fun g => ⟨.inr ⟨.inr g.1, g.2⟩, fun e => z1x (e ▸ g.2)⟩⟩
     ·rcases List.mem_cons.mp hc with h | h
      ·exact .inl h
      ·rcases M.binds c h with h | h
       ·exact .inl h
       ·exact (ren_binds h).imp id fun q => List.mem_cons_of_mem _ q.1
    ·obtain ⟨r, e1, M⟩ := ih (n := n) (by o_head qo) htz
     refine ⟨.qu b k r, ?_, .qu hk M.fm, by have := M.ht; simp only [Ex.ht]; o_head qo, fun W p v hv => ?_, fun i => ?_, fun c hc => ?_⟩
     ·rw [replO_quE]
      rw [if_neg (by simpa using q), any_beqF.mpr hf, if_neg (by decide), e1]
     ·have : ∀ c, tr W (p.put k c) r = tr W ((p.put m v).put k c) t := fun c => by
       rw [M.sem W (p.put k c) v, Pl.put_comm q]
       rw [← hv]
       refine th_congr hx fun i hi => ?_
       unfold Pl.put
       rw [if_neg (fun (r : i = k) => hf (r ▸ hi))]
      exact op2_c (this _) (this _)
     ·rw [mem_free_qu, M.free, mem_free_qu, mem_free_qu]
      exact ⟨fun h => h.1.elim (fun g => .inl ⟨⟨g.1, h.2⟩, g.2⟩) fun g => .inr ⟨⟨g.1, Ne.symm q⟩, g.2⟩, fun h => h.elim (fun g => ⟨.inl ⟨g.1.1, g.2⟩, g.1.2⟩) fun g => ⟨.inr ⟨g.1.1, g.2⟩, fun e => hf (e ▸ g.2)⟩⟩
     ·rcases List.mem_cons.mp hc with h | h
      ·exact .inr (h ▸ List.mem_cons_self)
      ·exact (M.binds c h).imp id (List.mem_cons_of_mem _)
end Mine
namespace Mine
noncomputable def nmOf (i : Int) : Nm := if i = 0 then .x else if i = 1 then .y else if i = 2 then .w else .rex
noncomputable def termE (c : Int) : Ex := if (c.fdiv 4).fmod 4 = 3 then .app (.nm .mother) (.nm (nmOf (c.fmod 4))) else .nm (nmOf (c.fmod 4))
noncomputable def termC (c : Int) : Int := (c.fdiv 4).fdiv 4
noncomputable def atomE (c : Int) : Ex × Int :=
 let p := c.fmod 3
 let c1 := c.fdiv 3
 if p = 0 then (.app (.nm .dog) (termE c1), termC c1)
 else if p = 1 then (.app (.app (.nm .sees) (termE c1)) (termE (termC c1)), termC (termC c1))
 else (.bin .eq (termE c1) (termE (termC c1)), termC (termC c1))
noncomputable def opOf (p : Int) : Op := if p = 6 then .and else if p = 7 then .or else .imp
noncomputable def formE : Nat → Int → Int → Ex × Int
 | 0, c, _ => atomE (c.fdiv 9)
 | f + 1, c, most =>
  let pick := c.fmod 9
  let c1 := c.fdiv 9
  if most = 0 ∨ pick = 0 then atomE c1
  else if pick = 1 then
   let r := formE f c1 (most - 1)
   (.neg r.1, r.2)
  else if pick < 6 then
   let r := formE f (c1.fdiv 3) (most - 1)
   (.qu (decide (pick < 4)) (nmOf (c1.fmod 3)) r.1, r.2)
  else
   let first := c1.fmod most
   let a := formE f (c1.fdiv most) first
   let b := formE f a.2 (most - 1 - first)
   (.bin (opOf pick) a.1 b.1, b.2)
end Mine
namespace Mine
noncomputable def Nm.base : Nm → Bool
 | .z1 | .u => false
 | _ => true
theorem nmOf_cases (i : Int) : nmOf i = .x ∨ nmOf i = .y ∨ nmOf i = .w ∨ nmOf i = .rex := by
 unfold nmOf
 split
 ·exact .inl rfl
 ·split
  ·exact .inr (.inl rfl)
  ·split
   ·exact .inr (.inr (.inl rfl))
   ·exact .inr (.inr (.inr rfl))
theorem nmOf_base (i : Int) : (nmOf i).base = true := by rcases nmOf_cases i with h | h | h | h <;> rw [h] <;> rfl
theorem nmOf_arg (i : Int) : (nmOf i).isArg = true := by rcases nmOf_cases i with h | h | h | h <;> rw [h] <;> rfl
theorem nmOf_var {i : Int} (h0 : 0 ≤ i) (h3 : i < 3) : nmOf i = .x ∨ nmOf i = .y ∨ nmOf i = .w := by
 unfold nmOf
 split
 ·exact .inl rfl
 ·split
  ·exact .inr (.inl rfl)
  ·split
   ·exact .inr (.inr rfl)
   ·o_head qo
theorem nmOf_isVar {i : Int} (h0 : 0 ≤ i) (h3 : i < 3) : (nmOf i).isVar = true := by rcases nmOf_var h0 h3 with h | h | h <;> rw [h] <;> rfl
theorem termE_cases (c : Int) : (∃ n : Nm, n.isArg = true ∧ n.base = true ∧ (termE c = .nm n ∨ termE c = .app (.nm .mother) (.nm n))) := by
 refine ⟨nmOf (c.fmod 4), nmOf_arg _, nmOf_base _, ?_⟩
 unfold termE
 split
 ·exact .inr rfl
 ·exact .inl rfl
theorem termE_tm (c : Int) : Tm (termE c) := by
 obtain ⟨n, h, _, e | e⟩ := termE_cases c <;> rw [e]
 ·exact .nm h
 ·exact .mo (.nm h)
theorem termE_ht (c : Int) : (termE c).ht ≤ 2 := by
 obtain ⟨n, h, _, e | e⟩ := termE_cases c <;> rw [e]
 ·exact Nat.le_succ 1
 ·exact Nat.le_refl 2
theorem termE_names (c : Int) : ∀ n ∈ (termE c).names, n.base = true := by
 obtain ⟨n, h, hb, e | e⟩ := termE_cases c <;> rw [e] <;> intro k hk
 ·cases List.mem_singleton.mp hk; exact hb
 ·rcases List.mem_cons.mp hk with rfl | hk
  ·rfl
  ·cases List.mem_singleton.mp hk; exact hb
theorem termE_one (c : Int) : ∀ a ∈ (termE c).free, ∀ b ∈ (termE c).free, a = b := by
 obtain ⟨n, h, hb, e | e⟩ := termE_cases c <;> rw [e] <;> intro a ha b hb'
 ·rw [(mem_free_nm.mp ha).1, (mem_free_nm.mp hb').1]
 ·have h1 : ∀ {k : Nm}, k ∈ (Ex.app (.nm .mother) (.nm n)).free → k = n := fun {k} hk => by
   rcases mem_free_app.mp hk with q | q
   ·exact absurd (mem_free_nm.mp q).2 (by decide)
   ·exact (mem_free_nm.mp q).1
  rw [h1 ha, h1 hb']
structure Form (e : Ex) (m : Nat) : Prop where
 fm : Fm e
 names : ∀ n ∈ e.names, n.base = true
 ht : e.ht ≤ m
theorem atomE_form (c : Int) : Form (atomE c).1 4 := by
 unfold atomE
 dsimp only
 split
 ·refine ⟨.dog (termE_tm _), fun n hn => ?_, ?_⟩
  ·rcases List.mem_append.mp hn with hn | hn
   ·cases List.mem_singleton.mp hn; rfl
   ·exact termE_names _ n hn
  ·exact Nat.succ_le_succ (Nat.max_le.mpr ⟨by decide, Nat.le_trans (termE_ht _) (by decide)⟩)
 ·split
  ·refine ⟨.sees (termE_tm _) (termE_tm _), fun n hn => ?_, ?_⟩
   ·rcases List.mem_append.mp hn with hn | hn
    ·rcases List.mem_append.mp hn with hn | hn
     ·cases List.mem_singleton.mp hn; rfl
     ·exact termE_names _ n hn
    ·exact termE_names _ n hn
   ·exact Nat.succ_le_succ (Nat.max_le.mpr ⟨Nat.succ_le_succ (Nat.max_le.mpr ⟨by decide, termE_ht _⟩), Nat.le_trans (termE_ht _) (by decide)⟩)
  ·refine ⟨.eq (termE_tm _) (termE_tm _), fun n hn => ?_, ?_⟩
   ·rcases List.mem_append.mp hn with hn | hn
    ·exact termE_names _ n hn
    ·exact termE_names _ n hn
   ·exact Nat.succ_le_succ (Nat.max_le.mpr ⟨Nat.le_trans (termE_ht _) (by decide), Nat.le_trans (termE_ht _) (by decide)⟩)
theorem opOf_ne (p : Int) : opOf p ≠ .eq := by
 unfold opOf
 split
 ·exact Op.noConfusion
 ·split <;> exact Op.noConfusion
theorem formE_form : ∀ (f : Nat) (c most : Int), Form (formE f c most).1 (f + 4)
 | 0, c, most => atomE_form _
 | f + 1, c, most => by
  have h0 := fun c m => formE_form f c m
  unfold formE
  dsimp only
  split
  ·exact ⟨(atomE_form _).fm, (atomE_form _).names, Nat.le_trans (atomE_form _).ht (by o_head qo)⟩
  ·split
   ·have h := h0 (c.fdiv 9) (most - 1)
    exact ⟨.neg h.fm, h.names, by rw [Nat.add_right_comm]; exact Nat.succ_le_succ h.ht⟩
   ·split
    ·have h := h0 ((c.fdiv 9).fdiv 3) (most - 1)
     have hv : (nmOf ((c.fdiv 9).fmod 3)).isVar = true := nmOf_isVar (Int.fmod_nonneg_of_pos _ (by decide)) (Int.fmod_lt_of_pos _ (by decide))
     refine ⟨.qu hv h.fm, fun n hn => ?_, by rw [Nat.add_right_comm]; exact Nat.succ_le_succ h.ht⟩
     rcases List.mem_cons.mp hn with rfl | hn
     ·exact nmOf_base _
     ·exact h.names n hn
    ·have h1 := h0 ((c.fdiv 9).fdiv most) ((c.fdiv 9).fmod most)
     have h2 := h0 (formE f ((c.fdiv 9).fdiv most) ((c.fdiv 9).fmod most)).2 (most - 1 - (c.fdiv 9).fmod most)
     refine ⟨.bin (opOf_ne _) h1.fm h2.fm, fun n hn => ?_, by rw [Nat.add_right_comm]; exact Nat.succ_le_succ (Nat.max_le.mpr ⟨h1.ht, h2.ht⟩)⟩
     rcases List.mem_append.mp hn with hn | hn
     ·exact h1.names n hn
     ·exact h2.names n hn
end Mine
namespace Mine
set_option tactic.hygienic true in
theorem mem_lawFree {k : Nm} : ∀ {e : Ex} {bd : List Nm}, k ∈ lawFree e bd ↔ k ∈ e.free ∧ k ∉ bd
 | .nm n, bd => by
  unfold lawFree
  rw [mem_free_nm]
  split
  ·rename_i h
   have h := any_beq.mp h
   constructor
   ·intro q; cases q
   ·rintro ⟨⟨rfl, hv⟩, hb⟩
    rcases List.mem_append.mp h with h | h
    ·exact absurd h hb
    ·exfalso
     rcases List.mem_cons.mp h with rfl | h
     ·cases hv
     rcases List.mem_cons.mp h with rfl | h
     ·cases hv
     rcases List.mem_cons.mp h with rfl | h
     ·cases hv
     cases List.mem_singleton.mp h
     cases hv
  ·rename_i h
   have h : n ∉ bd ++ [Nm.rex, .dog, .sees, .mother] := fun q => h (any_beq.mpr q)
   have h1 : n ∉ bd := fun q => h (List.mem_append.mpr (.inl q))
   have h2 : n ∉ [Nm.rex, .dog, .sees, .mother] := fun q => h (List.mem_append.mpr (.inr q))
   have hv : n.isVar = true := by
    revert h2
    cases n <;> intro h2 <;> first | rfl | exact absurd (by decide) h2
   constructor
   ·intro q; cases List.mem_singleton.mp q; exact ⟨⟨rfl, hv⟩, h1⟩
   ·rintro ⟨⟨rfl, _⟩, _⟩; exact .head _
 | .neg t, bd => by
  show k ∈ lawFree t bd ↔ _
  rw [mem_lawFree, mem_free_neg]
 | .qu _ n t, bd => by
  show k ∈ lawFree t (bd ++ [n]) ↔ _
  rw [mem_lawFree, mem_free_qu, List.mem_append, List.mem_singleton]
  constructor
  ·rintro ⟨h1, h2⟩; exact ⟨⟨h1, fun e => h2 (.inr e)⟩, fun e => h2 (.inl e)⟩
  ·rintro ⟨⟨h1, h2⟩, h3⟩; exact ⟨h1, fun e => e.elim h3 h2⟩
 | .app f a, bd => by
  show k ∈ lawFree f bd ++ lawFree a bd ↔ _
  rw [List.mem_append, mem_lawFree, mem_lawFree, mem_free_app]
  constructor
  ·rintro (⟨h, q⟩ | ⟨h, q⟩)
   ·exact ⟨.inl h, q⟩
   ·exact ⟨.inr h, q⟩
  ·rintro ⟨h | h, q⟩
   ·exact .inl ⟨h, q⟩
   ·exact .inr ⟨h, q⟩
 | .bin _ f a, bd => by
  show k ∈ lawFree f bd ++ lawFree a bd ↔ _
  rw [List.mem_append, mem_lawFree, mem_lawFree, mem_free_bin]
  constructor
  ·rintro (⟨h, q⟩ | ⟨h, q⟩)
   ·exact ⟨.inl h, q⟩
   ·exact ⟨.inr h, q⟩
  ·rintro ⟨h | h, q⟩
   ·exact .inl ⟨h, q⟩
   ·exact .inr ⟨h, q⟩
end Mine
namespace Mine
noncomputable def subL (n : Nat) (d : Nm → Option Ex) : List Nm → Ex → Option Ex
 | [], e => if e.ht ≤ n then some e else none
 | k :: ks, e => if e.ht ≤ n then match d k with
  | none => subL n d ks e
  | some v => match replO n e k v false with
   | none => none
   | some e' => subL n d ks e'
  else none
end Mine
namespace Mine
theorem base_z1 {e : Ex} (h : ∀ n ∈ e.names, n.base = true) : .z1 ∉ e.names := fun q => by have := h _ q; cases this
theorem base_u {e : Ex} (h : ∀ n ∈ e.names, n.base = true) : .u ∉ e.names := fun q => by have := h _ q; cases this
noncomputable def plc (a b c : Bool) : Pl := fun k => match k with
 | .x => some a
 | .y => some b
 | .w => some c
 | _ => none
theorem free_base {e : Ex} (h : ∀ n ∈ e.names, n.base = true) {k : Nm} (hk : k ∈ e.free) : k = .x ∨ k = .y ∨ k = .w := by
 have h1 := h k (free_names hk)
 have h2 := free_isVar hk
 cases k <;> first | exact .inl rfl | exact .inr (.inl rfl) | exact .inr (.inr rfl) | exact absurd h1 Bool.false_ne_true | exact absurd h2 Bool.false_ne_true
theorem pl_def {a b c : Bool} {k : Nm} (h : k = .x ∨ k = .y ∨ k = .w) : ∃ v, plc a b c k = some v := by
 rcases h with rfl | rfl | rfl <;> exact ⟨_, rfl⟩
theorem form_tr {e : Ex} {m : Nat} (h : Form e m) (W : Wd) (a b c : Bool) : ∃ v, tr W (plc a b c) e = some v :=
 tr_def h.fm fun z hk => pl_def (free_base h.names hk)
theorem term_th (W : Wd) (c : Int) (x y w : Bool) : ∃ v, th W (plc x y w) (termE c) = some v :=
 th_def (termE_tm c) fun z hk => pl_def (free_base (termE_names c) hk)
theorem law_put {e : Ex} {m : Nat} (h : Form e m) {n : Nm} (hn : n = .x ∨ n = .y ∨ n = .w) (c : Int) {k : Nat} (hk : m ≤ k) : ∃ r, replO k e n (termE c) false = some r ∧ Made e n (termE c) r :=
 replO_made (termE_tm c) (by rcases hn with rfl | rfl | rfl <;> rfl) (by rcases hn with rfl | rfl | rfl <;> decide) (base_z1 (termE_names c)) (termE_one c) h.fm (Nat.le_trans h.ht hk) (base_z1 h.names)
theorem law_turn {b : Bool} {n : Nm} {t : Ex} {m : Nat} (h : Form (.qu b n t) m) {k : Nat} (hk : m ≤ k + 1) : replO k t n (.nm .u) true = some (t.ren n .u) ∧ Fm (.qu b .u (t.ren n .u)) ∧ (Ex.qu b .u (t.ren n .u)).ht ≤ m ∧ ∀ W p, tr W p (.qu b .u (t.ren n .u)) = tr W p (.qu b n t) := by
 have hn : n.isVar = true := by cases h.fm; assumption
 have ht : Fm t := by cases h.fm; assumption
 have hu : Nm.u ∉ t.names := fun q => base_u h.names (List.mem_cons_of_mem _ q)
 have hnu : n ≠ .u := fun q => base_u h.names (q ▸ List.mem_cons_self)
 have hht : t.ht + 1 ≤ m := h.ht
 refine ⟨replO_ren rfl (by o_head qo) hu, .qu rfl (ht.ren rfl hn), by show (t.ren n .u).ht + 1 ≤ m; rw [ren_ht]; exact hht, fun W p => ?_⟩
 have key : ∀ c, tr W (p.put .u c) (t.ren n .u) = tr W (p.put n c) t := fun c => by
  refine tr_ren ht rfl hn hnu hu ?_ fun i h1 h2 => ?_
  ·unfold Pl.put
   rw [if_pos rfl, if_pos rfl]
  ·unfold Pl.put
   rw [if_neg h1, if_neg h2]
 exact op2_c (key _) (key _)
noncomputable def upd (ks : List Nm) (vx vy : Bool) (p : Pl) : Pl := fun k => if k = .x ∧ .x ∈ ks then some vx else if k = .y ∧ .y ∈ ks then some vy else p k
noncomputable def dOf (f g : Ex) : Nm → Option Ex := fun k => match k with
 | .x => some f
 | .y => some g
 | _ => none
theorem law_sub {f : Ex} (hf : Tm f) (hfz : .z1 ∉ f.names) (hf1 : ∀ a ∈ f.free, ∀ b ∈ f.free, a = b) (hfx : .x ∉ f.free) (hfy : .y ∉ f.free) (hf2 : f.ht ≤ 2) {n : Nat} : ∀ (ks : List Nm) {e : Ex}, ks.Nodup → Fm e → (.x ∈ ks → .z1 ∉ e.names) → e.ht + (if .x ∈ ks then 2 else 0) + (if .y ∈ ks then 1 else 0) ≤ n →
  ∃ r, subL n (dOf f (.nm .rex)) ks e = some r ∧ Fm r ∧ r.ht ≤ n ∧ ∀ W p vx, th W p f = some vx → tr W p r = tr W (upd ks vx W.rex p) e
 | [], e, _, hm, _, hn => by
  have hn' : e.ht ≤ n := by simpa using hn
  refine ⟨e, if_pos hn', hm, hn', fun W p vx z => ?_⟩
  have : upd [] vx W.rex p = p := funext fun k => by simp [upd]
  rw [this]
 | k :: ks, e, hd, hm, hz, hn => by
  have hd' := List.nodup_cons.mp hd
  have hen : e.ht ≤ n := by o_head qo
  have skip : k ≠ .x → k ≠ .y → ∃ r, subL n (dOf f (.nm .rex)) (k :: ks) e = some r ∧ Fm r ∧ r.ht ≤ n ∧ ∀ W p vx, th W p f = some vx → tr W p r = tr W (upd (k :: ks) vx W.rex p) e := fun h1 h2 => by
   have mx : (Nm.x ∈ k :: ks) ↔ Nm.x ∈ ks := by rw [List.mem_cons]; exact ⟨fun q => q.resolve_left fun e => h1 e.symm, .inr⟩
   have my : (Nm.y ∈ k :: ks) ↔ Nm.y ∈ ks := by rw [List.mem_cons]; exact ⟨fun q => q.resolve_left fun e => h2 e.symm, .inr⟩
   obtain ⟨r, e1, q1, q2, q3⟩ := law_sub hf hfz hf1 hfx hfy hf2 (n := n) ks hd'.2 hm (fun q => hz (mx.mpr q)) (by simpa only [mx, my] using hn)
   refine ⟨r, ?_, q1, q2, fun W p vx hv => ?_⟩
   ·unfold subL
    rw [if_pos hen]
    have : dOf f (.nm .rex) k = none := by cases k <;> first | rfl | exact absurd rfl h1 | exact absurd rfl h2
    rw [this]
    exact e1
   ·rw [q3 W p vx hv]
    congr 1
    funext i
    unfold upd
    simp only [mx, my]
  by_cases h1 : k = .x
  ·subst h1
   have hxk : Nm.x ∉ ks := hd'.1
   have my : (Nm.y ∈ Nm.x :: ks) ↔ Nm.y ∈ ks := by rw [List.mem_cons]; exact ⟨fun q => q.resolve_left fun e => (nomatch e), .inr⟩
   have hn2 : e.ht + 2 + (if .y ∈ ks then 1 else 0) ≤ n := by simpa only [my, List.mem_cons_self, if_true] using hn
   obtain ⟨r1, e1, M⟩ := replO_made (m := .x) hf rfl (by decide) hfz hf1 hm (n := n) hen (hz List.mem_cons_self)
   have hr1 := M.ht
   obtain ⟨r, e2, q1, q2, q3⟩ := law_sub hf hfz hf1 hfx hfy hf2 (n := n) ks hd'.2 M.fm (fun q => absurd q hxk) (by rw [if_neg hxk]; o_head qo)
   refine ⟨r, ?_, q1, q2, fun W p vx hv => ?_⟩
   ·unfold subL
    rw [if_pos hen]
    show (match replO n e .x f false with | none => none | some e' => subL n (dOf f (.nm .rex)) ks e') = _
    rw [e1]
    exact e2
   ·rw [q3 W p vx hv, M.sem W _ vx]
    ·congr 1
     funext i
     unfold Pl.put upd
     simp only [my, hxk, and_false, if_false, List.mem_cons_self, and_true]
    ·rw [← hv]
     refine th_congr hf fun i hi => ?_
     unfold upd
     rw [if_neg (fun (q : i = .x ∧ Nm.x ∈ ks) => hxk q.2), if_neg (fun (q : i = .y ∧ Nm.y ∈ ks) => hfy (q.1 ▸ hi))]
  ·by_cases h2 : k = .y
   ·subst h2
    have hyk : Nm.y ∉ ks := hd'.1
    have mx : (Nm.x ∈ Nm.y :: ks) ↔ Nm.x ∈ ks := by rw [List.mem_cons]; exact ⟨fun q => q.resolve_left fun e => (nomatch e), .inr⟩
    have hn2 : e.ht + (if .x ∈ ks then 2 else 0) + 1 ≤ n := by simpa only [mx, List.mem_cons_self, if_true] using hn
    have hb : ∀ b ∈ e.binds, b ∉ (Ex.nm .rex).free := fun b z q => by have := (mem_free_nm.mp q).2; cases this
    have e1 := replO_sub (m := .y) (x := .nm .rex) hen hb
    have M := made_sub (m := .y) hm (.nm rfl : Tm (.nm .rex)) rfl hb
    have hr1 := M.ht
    have hr2 : (Ex.nm Nm.rex).ht = 1 := rfl
    obtain ⟨r, e2, q1, q2, q3⟩ := law_sub hf hfz hf1 hfx hfy hf2 (n := n) ks hd'.2 M.fm (fun q h => by
     rcases sub_names h with h | h
     ·exact hz (mx.mpr q) h
     ·cases List.mem_singleton.mp h) (by rw [if_neg hyk]; o_head qo)
    refine ⟨r, ?_, q1, q2, fun W p vx hv => ?_⟩
    ·unfold subL
     rw [if_pos hen]
     show (match replO n e .y (.nm .rex) false with | none => none | some e' => subL n (dOf f (.nm .rex)) ks e') = _
     rw [e1]
     exact e2
    ·rw [q3 W p vx hv, M.sem W _ W.rex (if_pos rfl)]
     congr 1
     funext i
     unfold Pl.put upd
     simp only [mx, hyk, and_false, if_false, List.mem_cons_self, and_true]
     by_cases i1 : i = .x
     ·subst i1; simp
     ·simp [i1]
   ·exact skip h1 h2
end Mine
open PySem PySem.W PyProof.Rows PySem.Calls
section
set_option maxRecDepth 1000000
set_option maxHeartbeats 0
namespace Mine
noncomputable section
noncomputable abbrev pw : Program := PySem.Challenge.pw_ao0014_01
noncomputable def vI (i : Int) : Value := .int i 0
noncomputable def vS (x : String) (t : Nat) : Value := .str (.ofString x) t
noncomputable abbrev sS (x : String) : Str := .ofString x
noncomputable def eS (P : Params) (x : String) (t : Nat) (v : Value) : DictEntry := ⟨PyData.keyHash P (.ofString x), .str (.ofString x) t, v⟩
noncomputable def tU (l : List Value) : Obj := ⟨.type "tuple", none, .seq l.toArray 0, #[]⟩
noncomputable def oB : Obj := ⟨.none, none, .fields #[], #[]⟩
noncomputable def dT (i : Nat) : Stmt := pw.main.body.getD i (.Pass default)
noncomputable def dC (i j : Nat) : Stmt := match dT i with
 | .ClassDef _ _ _ body _ _ _ _ _ _ _ => body.getD j (.Pass default)
 | s => s
noncomputable def fD (s : Stmt) (q : String) (g : Nat) (cl : List (Str × Nat)) (df kd doc pm : Value) (an : Option Nat) (cd ct : Value) (bi : Nat) : FuncData := match s with
 | .FunctionDef name args body _ _ _ sc _ _ _ => { name := name, qualname := .ofString q, params := args, body := .stmts body, scope := sc, globals := g, closure := cl, defaults := df, kwdefaults := kd, doc := doc, pyModule := pm, annotations := an, code := cd, closureTuple := ct, builtins := bi }
 | _ => default
noncomputable def fO (s : Stmt) (q : String) (df : Value) (pm : Value) (cd : Nat) : Obj := ⟨.type "function", none, .func (fD s q 3 [] df .none .none pm none (.ref cd) .none 0), #[]⟩
noncomputable def fN (s : Stmt) (q : String) : Obj := ⟨.none, none, .func (fD s q 0 [] .none .none .none .none none .none .none 0), #[]⟩
noncomputable def iF : Nat → List Obj → BT → BT
 | _, [], t => t
 | i, o :: r, t => iF (i + 1) r (t.ins i o)
noncomputable def dO (l : List DictEntry) (n : Nat) : Obj := ⟨.type "dict", none, .dict l.toArray n, #[]⟩
noncomputable def nO (l : List Value) : Obj := ⟨.none, none, .fields l.toArray, #[]⟩
noncomputable abbrev life0 : Life := {}
noncomputable abbrev drawn0 : Drawn := boot_drawn
noncomputable def kO (n q : String) (t a b e g : Nat) (bo : Bool) (h : Nat) (f1 f2 f3 f4 : Value) (x y : Nat) : Obj := ⟨.type "code", none, .fields #[.str (.ofString n) t, .str (.ofString q) (t + 1), .str (.ofString "/claim/cut.py") (t + 2), .int a 0, .int b 0, .int 0 0, .int 0 0, .int e 0, .ref g, .bool bo, .int 181 0, .ref h, f1, f2, f3, f4, .int x 0, .int y 0, .str (.ofString "/claim/cut.py") (x + 1)], #[]⟩
noncomputable def cO (l : List Value) : Obj := ⟨.type "code", none, .fields l.toArray, #[]⟩
noncomputable abbrev cF (t : Nat) : Value := vS "/claim/cut.py" t
noncomputable abbrev r (a : Nat) : Value := .ref a
noncomputable def T0 (P : Params) : BT := iF 0 [boot_o_0 P, boot_o_1 P, boot_o_2 P, boot_o_3 P, boot_o_4 P, boot_o_5 P, boot_o_6 P, boot_o_7 P, boot_o_8 P, boot_o_9 P, boot_o_10 P] .nil
noncomputable abbrev w0 : Value := vS "nltk.sem.logic" 194
noncomputable abbrev w1 : Value := vS "nltk.inference.resolution" 1655
variable (P : Params)
def o11 : Obj := tU []
noncomputable def T1 (P : Params) : BT := iF 11 [o11, oB, kO "<module>" "<module>" 182 1 0 0 11 false 12 .none .none .none .none 185 1, ⟨(.type "frame"), none, .plain, #[(some (r 13)), (some (r 3)), (some (r 3)), none, (some (vS "__main__" 164)), none, (some (r 0))]⟩] (T0 P)
noncomputable def T2 (P : Params) : BT := (T1 P)
noncomputable def S1 (w : World) (os : OsState) : SharedT := ⟨T1 w.params, 15, life0, #[], drawn0, 187, os⟩
noncomputable def S2 (w : World) (os : OsState) : SharedT := ⟨T2 w.params, 15, life0, #[], drawn0, 187, os⟩
def d3 := [eS P "__name__" 165 w0, eS P "__doc__" 166 .none, eS P "__package__" 167 .none, eS P "__loader__" 168 (.builtin "__main__.__loader__#opaque"), eS P "__spec__" 169 .none, eS P "__annotations__" 170 (r 6), eS P "__builtins__" 171 (r 4), eS P "__file__" 173 (cF 172), eS P "__cached__" 174 .none, eS P "_wall" 193 (r 21), eS P "Counter" 232 (r 46), eS P "_union" 242 (r 57)]
def o3 : Obj := dO (d3 P) 12
def o20 : Obj := kO "_wall" "_wall" 187 1 1 3 15 true 16 .none (r 17) (r 18) (r 19) 191 1
def o23 : Obj := ⟨(.type "builtin_function_or_method"), none, (.fields #[(.builtin "type.__prepare__"), (.type "type")]), #[]⟩
def o24 : Obj := dO [eS P "__module__" 203 w0, eS P "__qualname__" 205 (vS "Counter" 204), eS P "__firstlineno__" 207 (.int (5) 206), eS P "__init__" 216 (r 36), eS P "get" 223 (r 43), eS P "__static_attributes__" 225 (r 44)] 6
def o35 : Obj := kO "__init__" "Counter.__init__" 209 7 2 3 30 true 31 .none (r 32) (r 33) (r 34) 214 7
def o42 : Obj := kO "get" "Counter.get" 217 10 1 3 37 true 38 .none (r 39) (r 40) (r 41) 221 10
def o45 : Obj := dO [eS P "__module__" 203 w0, eS P "__firstlineno__" 207 (.int (5) 206), eS P "__init__" 216 (r 36), eS P "get" 223 (r 43), eS P "__static_attributes__" 225 (r 44), eS P "__dict__" 227 (r 47), eS P "__weakref__" 229 (r 48), eS P "__doc__" 230 .none] 4
def o46 : Obj := ⟨(.type "type"), none, (.cls ⟨(sS "Counter"), [(.type "object")], [(r 46), (.type "object")], 45, (sS "Counter"), true, [], [], false, none, false⟩), #[none, none, (some (vS "Counter" 196)), (some (vS "Counter" 204)), (some (.builtin "object.__new__")), (some (.bool true))]⟩
def o47 : Obj := ⟨(.type "getset_descriptor"), none, (.fields #[(vS "__dict__" 226), (r 46), (.builtin "function.__dict__"), (.builtin "function.__dict__#set")]), #[]⟩
def o48 : Obj := ⟨(.type "getset_descriptor"), none, (.fields #[(vS "__weakref__" 228), (r 46), (.builtin "ExceptionGroup.__weakref__"), .none]), #[]⟩
def o53 : Obj := tU [(vS "parts" 236), (vS "found" 237), (vS "part" 238), (vS "one" 239)]
def o56 : Obj := kO "_union" "_union" 233 13 1 3 51 true 52 .none (r 53) (r 54) (r 55) 240 13
noncomputable def T3 (P : Params) : BT := iF 15 [o11, oB, tU [(vS "k" 190)], o11, fN (dT 0) "_wall", o20, fO (dT 0) "_wall" .none (vS "__main__" 164) 20, o11, o23, o24 P, o11, nO [(vI 7), (vI 4), (r 35), (vI 10), (vI 4), (r 42)], kO "Counter" "Counter" 198 5 0 0 25 false 26 .none .none .none .none 201 5, ⟨(.type "frame"), none, .plain, #[(some (r 27)), (some (r 3)), (some (r 24)), none, (some w0), none, (some (r 0))]⟩, tU [(.int (0) 208)], o11, oB, tU [(vS "self" 212), (vS "initial_value" 213)], o11, fN (dC 2 0) "Counter.__init__", o35, fO (dC 2 0) "Counter.__init__" (r 29) w0 35, o11, oB, tU [(vS "self" 220)], o11, fN (dC 2 1) "Counter.get", o42, fO (dC 2 1) "Counter.get" .none w0 42, tU [(vS "_value" 224)], o45 P, o46, o47, o48, ⟨(.type "super"), none, (.fields #[(r 46), (r 46), (r 46)]), #[]⟩, ⟨(.type "builtin_function_or_method"), none, (.fields #[(.builtin "object.__init_subclass__"), (r 46)]), #[]⟩, o11, oB, o53, o11, fN (dT 3) "_union", o56, fO (dT 3) "_union" .none w0 56] (iF 12 [nO [(vI 1), (vI 0), (r 20), (vI 5), (vI 0), (r 27), (vI 13), (vI 0), (r 56)]] (iF 3 [o3 P] (T2 P)))
noncomputable def S3 (w : World) (os : OsState) : SharedT := ⟨T3 w.params, 58, life0, #[], drawn0, 243, os⟩
def d3v1 := d3 P ++ [eS P "Tokens" 419 (r 84)]
def o3v1 : Obj := dO (d3v1 P) 13
def o60 : Obj := dO [eS P "__module__" 250 w0, eS P "__qualname__" 252 (vS "Tokens" 251), eS P "__firstlineno__" 254 (.int (20) 253), eS P "LAMBDA" 256 (vS "\\" 255), eS P "LAMBDA_LIST" 258 (r 65), eS P "EXISTS" 260 (vS "exists" 259), eS P "EXISTS_LIST" 264 (r 66), eS P "ALL" 266 (vS "all" 265), eS P "ALL_LIST" 269 (r 67), eS P "IOTA" 271 (vS "iota" 270), eS P "IOTA_LIST" 273 (r 68), eS P "DOT" 275 (vS "." 274), eS P "OPEN" 277 (vS "(" 276), eS P "CLOSE" 279 (vS ")" 278), eS P "COMMA" 281 (vS "," 280), eS P "NOT" 283 (vS "-" 282), eS P "NOT_LIST" 287 (r 69), eS P "AND" 289 (vS "&" 288), eS P "AND_LIST" 293 (r 70), eS P "OR" 295 (vS "|" 294), eS P "OR_LIST" 298 (r 71), eS P "IMP" 300 (vS "->" 299), eS P "IMP_LIST" 304 (r 72), eS P "IFF" 306 (vS "<->" 305), eS P "IFF_LIST" 310 (r 73), eS P "EQ" 312 (vS "=" 311), eS P "EQ_LIST" 315 (r 74), eS P "NEQ" 317 (vS "!=" 316), eS P "NEQ_LIST" 319 (r 75), eS P "BINOPS" 331 (r 76), eS P "QUANTS" 338 (r 77), eS P "PUNCT" 343 (r 78), eS P "TOKENS" 372 (r 79), eS P "SYMBOLS" 390 (r 80), eS P "BEGINNINGS" 411 (r 81), eS P "__static_attributes__" 412 (r 82)] 36
def o66 : Obj := ⟨(.type "list"), none, (.seq #[(vS "some" 261), (vS "exists" 262), (vS "exist" 263)] 0), #[]⟩
def o67 : Obj := ⟨(.type "list"), none, (.seq #[(vS "all" 267), (vS "forall" 268)] 0), #[]⟩
def o69 : Obj := ⟨(.type "list"), none, (.seq #[(vS "not" 284), (vS "-" 285), (vS "!" 286)] 0), #[]⟩
def o70 : Obj := ⟨(.type "list"), none, (.seq #[(vS "and" 290), (vS "&" 291), (vS "^" 292)] 0), #[]⟩
def o71 : Obj := ⟨(.type "list"), none, (.seq #[(vS "or" 296), (vS "|" 297)] 0), #[]⟩
noncomputable def o72 : Obj := ⟨(.type "list"), none, (.seq #[(vS "implies" 301), (vS "->" 302), (vS "=>" 303)] 0), #[]⟩
def o73 : Obj := ⟨(.type "list"), none, (.seq #[(vS "iff" 307), (vS "<->" 308), (vS "<=>" 309)] 0), #[]⟩
def o74 : Obj := ⟨(.type "list"), none, (.seq #[(vS "=" 313), (vS "==" 314)] 0), #[]⟩
def o76 : Obj := ⟨(.type "list"), none, (.seq #[(vS "and" 320), (vS "&" 321), (vS "^" 322), (vS "or" 323), (vS "|" 324), (vS "implies" 325), (vS "->" 326), (vS "=>" 327), (vS "iff" 328), (vS "<->" 329), (vS "<=>" 330)] 0), #[]⟩
def o77 : Obj := ⟨(.type "list"), none, (.seq #[(vS "some" 332), (vS "exists" 333), (vS "exist" 334), (vS "all" 335), (vS "forall" 336), (vS "iota" 337)] 0), #[]⟩
noncomputable def o78 : Obj := ⟨(.type "list"), none, (.seq #[(vS "." 339), (vS "(" 340), (vS ")" 341), (vS "," 342)] 0), #[]⟩
def o79 : Obj := ⟨(.type "list"), none, (.seq #[(vS "and" 344), (vS "&" 345), (vS "^" 346), (vS "or" 347), (vS "|" 348), (vS "implies" 349), (vS "->" 350), (vS "=>" 351), (vS "iff" 352), (vS "<->" 353), (vS "<=>" 354), (vS "=" 355), (vS "==" 356), (vS "!=" 357), (vS "some" 358), (vS "exists" 359), (vS "exist" 360), (vS "all" 361), (vS "forall" 362), (vS "iota" 363), (vS "\\" 364), (vS "." 365), (vS "(" 366), (vS ")" 367), (vS "," 368), (vS "not" 369), (vS "-" 370), (vS "!" 371)] 0), #[]⟩
noncomputable def o80 : Obj := ⟨(.type "list"), none, (.seq #[(vS "&" 373), (vS "^" 374), (vS "|" 375), (vS "->" 376), (vS "=>" 377), (vS "<->" 378), (vS "<=>" 379), (vS "=" 380), (vS "==" 381), (vS "!=" 382), (vS "\\" 383), (vS "." 384), (vS "(" 385), (vS ")" 386), (vS "," 387), (vS "-" 388), (vS "!" 389)] 0), #[]⟩
def o81 : Obj := ⟨(.type "list"), none, (.seq #[(vS "&" 391), (vS "^" 392), (vS "|" 393), (vS "-" 394), (vS "->" 395), (vS "=" 396), (vS "=>" 397), (vS "<" 398), (vS "<-" 399), (vS "<->" 400), (vS "<=" 401), (vS "<=>" 402), (vS "==" 403), (vS "!" 404), (vS "!=" 405), (vS "\\" 406), (vS "." 407), (vS "(" 408), (vS ")" 409), (vS "," 410)] 0), #[]⟩
def o83 : Obj := dO [eS P "__module__" 250 w0, eS P "__firstlineno__" 254 (.int (20) 253), eS P "LAMBDA" 256 (vS "\\" 255), eS P "LAMBDA_LIST" 258 (r 65), eS P "EXISTS" 260 (vS "exists" 259), eS P "EXISTS_LIST" 264 (r 66), eS P "ALL" 266 (vS "all" 265), eS P "ALL_LIST" 269 (r 67), eS P "IOTA" 271 (vS "iota" 270), eS P "IOTA_LIST" 273 (r 68), eS P "DOT" 275 (vS "." 274), eS P "OPEN" 277 (vS "(" 276), eS P "CLOSE" 279 (vS ")" 278), eS P "COMMA" 281 (vS "," 280), eS P "NOT" 283 (vS "-" 282), eS P "NOT_LIST" 287 (r 69), eS P "AND" 289 (vS "&" 288), eS P "AND_LIST" 293 (r 70), eS P "OR" 295 (vS "|" 294), eS P "OR_LIST" 298 (r 71), eS P "IMP" 300 (vS "->" 299), eS P "IMP_LIST" 304 (r 72), eS P "IFF" 306 (vS "<->" 305), eS P "IFF_LIST" 310 (r 73), eS P "EQ" 312 (vS "=" 311), eS P "EQ_LIST" 315 (r 74), eS P "NEQ" 317 (vS "!=" 316), eS P "NEQ_LIST" 319 (r 75), eS P "BINOPS" 331 (r 76), eS P "QUANTS" 338 (r 77), eS P "PUNCT" 343 (r 78), eS P "TOKENS" 372 (r 79), eS P "SYMBOLS" 390 (r 80), eS P "BEGINNINGS" 411 (r 81), eS P "__static_attributes__" 412 (r 82), eS P "__dict__" 414 (r 85), eS P "__weakref__" 416 (r 86), eS P "__doc__" 417 .none] 4
def o84 : Obj := ⟨(.type "type"), none, (.cls ⟨(sS "Tokens"), [(.type "object")], [(r 84), (.type "object")], 83, (sS "Tokens"), true, [], [], false, none, false⟩), #[none, none, (some (vS "Tokens" 243)), (some (vS "Tokens" 251)), (some (.builtin "object.__new__")), (some (.bool true))]⟩
def o85 : Obj := ⟨(.type "getset_descriptor"), none, (.fields #[(vS "__dict__" 413), (r 84), (.builtin "function.__dict__"), (.builtin "function.__dict__#set")]), #[]⟩
def o86 : Obj := ⟨(.type "getset_descriptor"), none, (.fields #[(vS "__weakref__" 415), (r 84), (.builtin "ExceptionGroup.__weakref__"), .none]), #[]⟩
noncomputable def T4 (P : Params) : BT := iF 58 [o11, o23, o60 P, o11, oB, kO "Tokens" "Tokens" 245 20 0 0 61 false 62 .none .none .none .none 248 20, ⟨(.type "frame"), none, .plain, #[(some (r 63)), (some (r 3)), (some (r 60)), none, (some w0), none, (some (r 0))]⟩, ⟨(.type "list"), none, (.seq #[(vS "\\" 257)] 0), #[]⟩, o66, o67, ⟨(.type "list"), none, (.seq #[(vS "iota" 272)] 0), #[]⟩, o69, o70, o71, o72, o73, o74, ⟨(.type "list"), none, (.seq #[(vS "!=" 318)] 0), #[]⟩, o76, o77, o78, o79, o80, o81, o11, o83 P, o84, o85, o86, ⟨(.type "super"), none, (.fields #[(r 84), (r 84), (r 84)]), #[]⟩, ⟨(.type "builtin_function_or_method"), none, (.fields #[(.builtin "object.__init_subclass__"), (r 84)]), #[]⟩] (iF 12 [nO [(vI 1), (vI 0), (r 20), (vI 5), (vI 0), (r 27), (vI 13), (vI 0), (r 56), (vI 20), (vI 0), (r 63)]] (iF 3 [o3v1 P] (T3 P)))
noncomputable def S4 (w : World) (os : OsState) : SharedT := ⟨T4 w.params, 89, life0, #[], drawn0, 420, os⟩
def d3v2 := d3v1 P ++ [eS P "Variable" 472 (r 126), eS P "unique_variable" 483 (r 138), eS P "SubstituteBindingsI" 518 (r 162)]
def o3v2 : Obj := dO (d3v2 P) 16
def o91 : Obj := dO [eS P "__module__" 427 w0, eS P "__qualname__" 429 (vS "Variable" 428), eS P "__firstlineno__" 431 (.int (53) 430), eS P "__init__" 439 (r 102), eS P "__eq__" 447 (r 109), eS P "__lt__" 455 (r 116), eS P "__str__" 462 (r 123), eS P "__static_attributes__" 464 (r 124)] 8
def o101 : Obj := kO "__init__" "Variable.__init__" 432 55 2 3 96 true 97 .none (r 98) (r 99) (r 100) 437 55
def o108 : Obj := kO "__eq__" "Variable.__eq__" 440 59 2 3 103 true 104 .none (r 105) (r 106) (r 107) 445 59
def o115 : Obj := kO "__lt__" "Variable.__lt__" 448 62 2 3 110 true 111 .none (r 112) (r 113) (r 114) 453 62
def o122 : Obj := kO "__str__" "Variable.__str__" 456 67 1 3 117 true 118 .none (r 119) (r 120) (r 121) 460 67
def o125 : Obj := dO [eS P "__module__" 427 w0, eS P "__firstlineno__" 431 (.int (53) 430), eS P "__init__" 439 (r 102), eS P "__eq__" 447 (r 109), eS P "__lt__" 455 (r 116), eS P "__str__" 462 (r 123), eS P "__static_attributes__" 464 (r 124), eS P "__dict__" 466 (r 127), eS P "__weakref__" 468 (r 128), eS P "__doc__" 469 .none, eS P "__hash__" 470 .none] 5
def o126 : Obj := ⟨(.type "type"), none, (.cls ⟨(sS "Variable"), [(.type "object")], [(r 126), (.type "object")], 125, (sS "Variable"), true, [], [], false, none, false⟩), #[none, none, (some (vS "Variable" 420)), (some (vS "Variable" 428)), (some (.builtin "object.__new__")), (some (.bool true))]⟩
def o127 : Obj := ⟨(.type "getset_descriptor"), none, (.fields #[(vS "__dict__" 465), (r 126), (.builtin "function.__dict__"), (.builtin "function.__dict__#set")]), #[]⟩
def o128 : Obj := ⟨(.type "getset_descriptor"), none, (.fields #[(vS "__weakref__" 467), (r 126), (.builtin "ExceptionGroup.__weakref__"), .none]), #[]⟩
def o134 : Obj := tU [(vS "pattern" 476), (vS "ignore" 477), (vS "counter" 478), (vS "prefix" 479), (vS "v" 480)]
def o137 : Obj := kO "unique_variable" "unique_variable" 473 69 3 3 132 true 133 .none (r 134) (r 135) (r 136) 481 69
def o141 : Obj := dO [eS P "__module__" 491 w0, eS P "__qualname__" 493 (vS "SubstituteBindingsI" 492), eS P "__firstlineno__" 495 (.int (87) 494), eS P "substitute_bindings" 503 (r 152), eS P "variables" 510 (r 159), eS P "__static_attributes__" 511 (r 160)] 6
def o151 : Obj := kO "substitute_bindings" "SubstituteBindingsI.substitute_bindings" 496 89 2 3 146 true 147 .none (r 148) (r 149) (r 150) 501 89
def o152 : Obj := fO (dC 7 0) "SubstituteBindingsI.substitute_bindings" .none w0 151
def o158 : Obj := kO "variables" "SubstituteBindingsI.variables" 504 92 1 3 153 true 154 .none (r 155) (r 156) (r 157) 508 92
def o161 : Obj := dO [eS P "__module__" 491 w0, eS P "__firstlineno__" 495 (.int (87) 494), eS P "substitute_bindings" 503 (r 152), eS P "variables" 510 (r 159), eS P "__static_attributes__" 511 (r 160), eS P "__dict__" 513 (r 163), eS P "__weakref__" 515 (r 164), eS P "__doc__" 516 .none] 4
def o163 : Obj := ⟨(.type "getset_descriptor"), none, (.fields #[(vS "__dict__" 512), (r 162), (.builtin "function.__dict__"), (.builtin "function.__dict__#set")]), #[]⟩
def o164 : Obj := ⟨(.type "getset_descriptor"), none, (.fields #[(vS "__weakref__" 514), (r 162), (.builtin "ExceptionGroup.__weakref__"), .none]), #[]⟩
noncomputable def T5 (P : Params) : BT := iF 89 [o11, o23, o91 P, o11, nO [(vI 55), (vI 4), (r 101), (vI 59), (vI 4), (r 108), (vI 62), (vI 4), (r 115), (vI 67), (vI 4), (r 122)], kO "Variable" "Variable" 422 53 0 0 92 false 93 .none .none .none .none 425 53, ⟨(.type "frame"), none, .plain, #[(some (r 94)), (some (r 3)), (some (r 91)), none, (some w0), none, (some (r 0))]⟩, o11, oB, tU [(vS "self" 435), (vS "name" 436)], o11, fN (dC 5 0) "Variable.__init__", o101, fO (dC 5 0) "Variable.__init__" .none w0 101, o11, oB, tU [(vS "self" 443), (vS "other" 444)], o11, fN (dC 5 1) "Variable.__eq__", o108, fO (dC 5 1) "Variable.__eq__" .none w0 108, o11, oB, tU [(vS "self" 451), (vS "other" 452)], o11, fN (dC 5 2) "Variable.__lt__", o115, fO (dC 5 2) "Variable.__lt__" .none w0 115, o11, oB, tU [(vS "self" 459)], o11, fN (dC 5 3) "Variable.__str__", o122, fO (dC 5 3) "Variable.__str__" .none w0 122, tU [(vS "name" 463)], o125 P, o126, o127, o128, ⟨(.type "super"), none, (.fields #[(r 126), (r 126), (r 126)]), #[]⟩, ⟨(.type "builtin_function_or_method"), none, (.fields #[(.builtin "object.__init_subclass__"), (r 126)]), #[]⟩, tU [.none, .none, .none], o11, oB, o134, o11, fN (dT 6) "unique_variable", o137, fO (dT 6) "unique_variable" (r 131) w0 137, o11, o23, o141 P, o11, nO [(vI 89), (vI 4), (r 151), (vI 92), (vI 4), (r 158)], kO "SubstituteBindingsI" "SubstituteBindingsI" 486 87 0 0 142 false 143 .none .none .none .none 489 87, ⟨(.type "frame"), none, .plain, #[(some (r 144)), (some (r 3)), (some (r 141)), none, (some w0), none, (some (r 0))]⟩, o11, oB, tU [(vS "self" 499), (vS "bindings" 500)], o11, fN (dC 7 0) "SubstituteBindingsI.substitute_bindings", o151, o152, o11, oB, tU [(vS "self" 507)], o11, fN (dC 7 1) "SubstituteBindingsI.variables", o158, fO (dC 7 1) "SubstituteBindingsI.variables" .none w0 158, o11, o161 P, ⟨(.type "type"), none, (.cls ⟨(sS "SubstituteBindingsI"), [(.type "object")], [(r 162), (.type "object")], 161, (sS "SubstituteBindingsI"), true, [], [], false, none, false⟩), #[none, none, (some (vS "SubstituteBindingsI" 484)), (some (vS "SubstituteBindingsI" 492)), (some (.builtin "object.__new__")), (some (.bool true))]⟩, o163, o164, ⟨(.type "super"), none, (.fields #[(r 162), (r 162), (r 162)]), #[]⟩, ⟨(.type "builtin_function_or_method"), none, (.fields #[(.builtin "object.__init_subclass__"), (r 162)]), #[]⟩] (iF 12 [nO [(vI 1), (vI 0), (r 20), (vI 5), (vI 0), (r 27), (vI 13), (vI 0), (r 56), (vI 20), (vI 0), (r 63), (vI 53), (vI 0), (r 94), (vI 69), (vI 0), (r 137), (vI 87), (vI 0), (r 144)]] (iF 3 [o3v2 P] (T4 P)))
noncomputable def S5 (w : World) (os : OsState) : SharedT := ⟨T5 w.params, 167, life0, #[], drawn0, 519, os⟩
def d3v3 := d3v2 P ++ [eS P "Expression" 714 (r 318)]
def o3v3 : Obj := dO (d3v3 P) 17
def o162v1 : Obj := ⟨(.type "type"), none, (.cls ⟨(sS "SubstituteBindingsI"), [(.type "object")], [(r 162), (.type "object")], 161, (sS "SubstituteBindingsI"), true, [], [(r 318)], false, none, false⟩), #[none, none, (some (vS "SubstituteBindingsI" 484)), (some (vS "SubstituteBindingsI" 492)), (some (.builtin "object.__new__")), (some (.bool true))]⟩
def o169 : Obj := dO [eS P "__module__" 526 w0, eS P "__qualname__" 528 (vS "Expression" 527), eS P "__firstlineno__" 530 (.int (94) 529), eS P "fromstring" 550 (r 182), eS P "__call__" 561 (r 190), eS P "applyto" 569 (r 197), eS P "__neg__" 576 (r 204), eS P "negate" 583 (r 211), eS P "__and__" 591 (r 218), eS P "__or__" 599 (r 225), eS P "__gt__" 607 (r 232), eS P "__lt__" 615 (r 239), eS P "__eq__" 623 (r 246), eS P "substitute_bindings" 634 (r 253), eS P "replace" 649 (r 261), eS P "visit" 658 (r 268), eS P "visit_structured" 667 (r 275), eS P "variables" 673 (r 280), eS P "free" 680 (r 287), eS P "constants" 687 (r 294), eS P "predicates" 694 (r 301), eS P "simplify" 701 (r 308), eS P "make_VariableExpression" 709 (r 315), eS P "__static_attributes__" 710 (r 316)] 24
def o179 : Obj := kO "fromstring" "Expression.fromstring" 531 96 2 3 174 true 175 .none (r 176) (r 177) (r 178) 536 96
def o180 : Obj := ⟨(.type "function"), none, (.func (fD (dC 8 0) "Expression.fromstring" 3 [] .none .none .none w0 (some 183) (r 179) .none 0)), #[]⟩
def o181 : Obj := dO [eS P "__module__" 539 w0, eS P "__name__" 542 (vS "fromstring" 541), eS P "__qualname__" 545 (vS "Expression.fromstring" 544), eS P "__doc__" 547 .none, eS P "__annotations__" 549 (r 183)] 5
def o182 : Obj := ⟨(.type "classmethod"), (some 181), (.fields #[(r 180), (.bool false)]), #[]⟩
def o186 : Obj := tU [(vS "self" 554), (vS "other" 555), (vS "additional" 556), (vS "accum" 557), (vS "a" 558)]
def o189 : Obj := kO "__call__" "Expression.__call__" 551 100 2 7 184 true 185 .none (r 186) (r 187) (r 188) 559 100
def o196 : Obj := kO "applyto" "Expression.applyto" 562 106 2 3 191 true 192 .none (r 193) (r 194) (r 195) 567 106
def o203 : Obj := kO "__neg__" "Expression.__neg__" 570 110 1 3 198 true 199 .none (r 200) (r 201) (r 202) 574 110
def o210 : Obj := kO "negate" "Expression.negate" 577 113 1 3 205 true 206 .none (r 207) (r 208) (r 209) 581 113
def o217 : Obj := kO "__and__" "Expression.__and__" 584 116 2 3 212 true 213 .none (r 214) (r 215) (r 216) 589 116
def o224 : Obj := kO "__or__" "Expression.__or__" 592 121 2 3 219 true 220 .none (r 221) (r 222) (r 223) 597 121
def o231 : Obj := kO "__gt__" "Expression.__gt__" 600 126 2 3 226 true 227 .none (r 228) (r 229) (r 230) 605 126
def o238 : Obj := kO "__lt__" "Expression.__lt__" 608 131 2 3 233 true 234 .none (r 235) (r 236) (r 237) 613 131
def o245 : Obj := kO "__eq__" "Expression.__eq__" 616 136 2 3 240 true 241 .none (r 242) (r 243) (r 244) 621 136
def o249 : Obj := tU [(vS "self" 627), (vS "bindings" 628), (vS "expr" 629), (vS "var" 630), (vS "val" 631)]
def o252 : Obj := kO "substitute_bindings" "Expression.substitute_bindings" 624 139 2 3 247 true 248 .none (r 249) (r 250) (r 251) 632 139
def o254 : Obj := tU [(.bool false), (.bool true)]
def o257 : Obj := tU [(vS "self" 638), (vS "variable" 639), (vS "expression" 640), (vS "replace_bound" 641), (vS "alpha_convert" 642)]
def o258 : Obj := tU [(vS "variable" 643), (vS "expression" 644), (vS "replace_bound" 645), (vS "alpha_convert" 646)]
def o260 : Obj := kO "replace" "Expression.replace" 635 152 5 3 255 true 256 .none (r 257) (r 258) (r 259) 647 152
def o264 : Obj := tU [(vS "self" 653), (vS "function" 654), (vS "combinator" 655)]
def o267 : Obj := kO "visit" "Expression.visit" 650 157 3 3 262 true 263 .none (r 264) (r 265) (r 266) 656 157
def o274 : Obj := kO "visit_structured" "Expression.visit_structured" 659 160 2 3 269 true 270 .none (r 271) (r 272) (r 273) 665 160
def o279 : Obj := kO "variables" "Expression.variables" 668 163 1 3 276 true 277 .none .none .none (r 278) 671 163
def o286 : Obj := kO "free" "Expression.free" 674 166 1 3 281 true 282 .none (r 283) (r 284) (r 285) 678 166
def o293 : Obj := kO "constants" "Expression.constants" 681 169 1 3 288 true 289 .none (r 290) (r 291) (r 292) 685 169
def o300 : Obj := kO "predicates" "Expression.predicates" 688 172 1 3 295 true 296 .none (r 297) (r 298) (r 299) 692 172
def o307 : Obj := kO "simplify" "Expression.simplify" 695 175 1 3 302 true 303 .none (r 304) (r 305) (r 306) 699 175
def o314 : Obj := kO "make_VariableExpression" "Expression.make_VariableExpression" 702 178 2 3 309 true 310 .none (r 311) (r 312) (r 313) 707 178
def o317 : Obj := dO [eS P "__module__" 526 w0, eS P "__firstlineno__" 530 (.int (94) 529), eS P "fromstring" 550 (r 182), eS P "__call__" 561 (r 190), eS P "applyto" 569 (r 197), eS P "__neg__" 576 (r 204), eS P "negate" 583 (r 211), eS P "__and__" 591 (r 218), eS P "__or__" 599 (r 225), eS P "__gt__" 607 (r 232), eS P "__lt__" 615 (r 239), eS P "__eq__" 623 (r 246), eS P "substitute_bindings" 634 (r 253), eS P "replace" 649 (r 261), eS P "visit" 658 (r 268), eS P "visit_structured" 667 (r 275), eS P "variables" 673 (r 280), eS P "free" 680 (r 287), eS P "constants" 687 (r 294), eS P "predicates" 694 (r 301), eS P "simplify" 701 (r 308), eS P "make_VariableExpression" 709 (r 315), eS P "__static_attributes__" 710 (r 316), eS P "__doc__" 711 .none, eS P "__hash__" 712 .none] 3
noncomputable def T6 (P : Params) : BT := iF 167 [tU [(r 162)], o23, o169 P, o11, nO [(vI 97), (vI 4), (r 179), (vI 100), (vI 4), (r 189), (vI 106), (vI 4), (r 196), (vI 110), (vI 4), (r 203), (vI 113), (vI 4), (r 210), (vI 116), (vI 4), (r 217), (vI 121), (vI 4), (r 224), (vI 126), (vI 4), (r 231), (vI 131), (vI 4), (r 238), (vI 136), (vI 4), (r 245), (vI 139), (vI 4), (r 252), (vI 152), (vI 4), (r 260), (vI 157), (vI 4), (r 267), (vI 160), (vI 4), (r 274), (vI 163), (vI 4), (r 279), (vI 166), (vI 4), (r 286), (vI 169), (vI 4), (r 293), (vI 172), (vI 4), (r 300), (vI 175), (vI 4), (r 307), (vI 178), (vI 4), (r 314)], kO "Expression" "Expression" 521 94 0 0 170 false 171 .none .none .none .none 524 94, ⟨(.type "frame"), none, .plain, #[(some (r 172)), (some (r 3)), (some (r 169)), none, (some w0), none, (some (r 0))]⟩, o11, oB, tU [(vS "cls" 534), (vS "s" 535)], o11, fN (dC 8 0) "Expression.fromstring", o179, o180, o181 P, o182, dO [] 0, o11, oB, o186, o11, fN (dC 8 1) "Expression.__call__", o189, fO (dC 8 1) "Expression.__call__" .none w0 189, o11, oB, tU [(vS "self" 565), (vS "other" 566)], o11, fN (dC 8 2) "Expression.applyto", o196, fO (dC 8 2) "Expression.applyto" .none w0 196, o11, oB, tU [(vS "self" 573)], o11, fN (dC 8 3) "Expression.__neg__", o203, fO (dC 8 3) "Expression.__neg__" .none w0 203, o11, oB, tU [(vS "self" 580)], o11, fN (dC 8 4) "Expression.negate", o210, fO (dC 8 4) "Expression.negate" .none w0 210, o11, oB, tU [(vS "self" 587), (vS "other" 588)], o11, fN (dC 8 5) "Expression.__and__", o217, fO (dC 8 5) "Expression.__and__" .none w0 217, o11, oB, tU [(vS "self" 595), (vS "other" 596)], o11, fN (dC 8 6) "Expression.__or__", o224, fO (dC 8 6) "Expression.__or__" .none w0 224, o11, oB, tU [(vS "self" 603), (vS "other" 604)], o11, fN (dC 8 7) "Expression.__gt__", o231, fO (dC 8 7) "Expression.__gt__" .none w0 231, o11, oB, tU [(vS "self" 611), (vS "other" 612)], o11, fN (dC 8 8) "Expression.__lt__", o238, fO (dC 8 8) "Expression.__lt__" .none w0 238, o11, oB, tU [(vS "self" 619), (vS "other" 620)], o11, fN (dC 8 9) "Expression.__eq__", o245, fO (dC 8 9) "Expression.__eq__" .none w0 245, o11, oB, o249, o11, fN (dC 8 10) "Expression.substitute_bindings", o252, fO (dC 8 10) "Expression.substitute_bindings" .none w0 252, o254, o11, oB, o257, o258, fN (dC 8 11) "Expression.replace", o260, fO (dC 8 11) "Expression.replace" (r 254) w0 260, o11, oB, o264, o11, fN (dC 8 12) "Expression.visit", o267, fO (dC 8 12) "Expression.visit" .none w0 267, o11, oB, tU [(vS "self" 662), (vS "function" 663)], tU [(vS "self" 664)], fN (dC 8 13) "Expression.visit_structured", o274, fO (dC 8 13) "Expression.visit_structured" .none w0 274, o11, oB, fN (dC 8 14) "Expression.variables", o279, fO (dC 8 14) "Expression.variables" .none w0 279, o11, oB, tU [(vS "self" 677)], o11, fN (dC 8 15) "Expression.free", o286, fO (dC 8 15) "Expression.free" .none w0 286, o11, oB, tU [(vS "self" 684)], o11, fN (dC 8 16) "Expression.constants", o293, fO (dC 8 16) "Expression.constants" .none w0 293, o11, oB, tU [(vS "self" 691)], o11, fN (dC 8 17) "Expression.predicates", o300, fO (dC 8 17) "Expression.predicates" .none w0 300, o11, oB, tU [(vS "self" 698)], o11, fN (dC 8 18) "Expression.simplify", o307, fO (dC 8 18) "Expression.simplify" .none w0 307, o11, oB, tU [(vS "self" 705), (vS "variable" 706)], o11, fN (dC 8 19) "Expression.make_VariableExpression", o314, fO (dC 8 19) "Expression.make_VariableExpression" .none w0 314, o11, o317 P, ⟨(.type "type"), none, (.cls ⟨(sS "Expression"), [(r 162)], [(r 318), (r 162), (.type "object")], 317, (sS "Expression"), true, [], [], false, none, false⟩), #[(some (r 167)), none, (some (vS "Expression" 519)), (some (vS "Expression" 527)), (some (.builtin "object.__new__")), (some (.bool true))]⟩, ⟨(.type "super"), none, (.fields #[(r 318), (r 318), (r 318)]), #[]⟩, ⟨(.type "builtin_function_or_method"), none, (.fields #[(.builtin "object.__init_subclass__"), (r 318)]), #[]⟩] (iF 162 [o162v1] (iF 12 [nO [(vI 1), (vI 0), (r 20), (vI 5), (vI 0), (r 27), (vI 13), (vI 0), (r 56), (vI 20), (vI 0), (r 63), (vI 53), (vI 0), (r 94), (vI 69), (vI 0), (r 137), (vI 87), (vI 0), (r 144), (vI 94), (vI 0), (r 172)]] (iF 3 [o3v3 P] (T5 P))))
noncomputable def S6 (w : World) (os : OsState) : SharedT := ⟨T6 w.params, 321, life0, #[], drawn0, 715, os⟩
def d3v4 := d3v3 P ++ [eS P "MAX_SIMPLIFY_SIZE" 716 (.int (10000) 715), eS P "_exceeds_size" 727 (r 327), eS P "ApplicationExpression" 850 (r 423)]
def o3v4 : Obj := dO (d3v4 P) 20
def o323 : Obj := tU [(vS "expression" 720), (vS "limit" 721), (vS "count" 722), (vS "node" 723)]
def o326 : Obj := kO "_exceeds_size" "_exceeds_size" 717 181 2 3 321 true 322 .none (r 323) (r 324) (r 325) 725 181
def o328 : Obj := tU [(r 318)]
def o330 : Obj := dO [eS P "__module__" 735 w0, eS P "__qualname__" 737 (vS "ApplicationExpression" 736), eS P "__firstlineno__" 739 (.int (192) 738), eS P "__init__" 748 (r 341), eS P "simplify" 758 (r 348), eS P "_made" 766 (r 355), eS P "constants" 774 (r 362), eS P "predicates" 782 (r 369), eS P "visit" 791 (r 376), eS P "__eq__" 799 (r 383), eS P "__str__" 811 (r 390), eS P "uncurry" 820 (r 397), eS P "pred" 828 (r 405), eS P "args" 836 (r 413), eS P "is_atom" 843 (r 420), eS P "__static_attributes__" 846 (r 421)] 16
def o340 : Obj := kO "__init__" "ApplicationExpression.__init__" 740 194 3 3 335 true 336 .none (r 337) (r 338) (r 339) 746 194
def o344 : Obj := tU [(vS "self" 752), (vS "function" 753), (vS "argument" 754), (vS "result" 755)]
def o347 : Obj := kO "simplify" "ApplicationExpression.simplify" 749 200 1 3 342 true 343 .none (r 344) (r 345) (r 346) 756 200
def o354 : Obj := kO "_made" "ApplicationExpression._made" 759 211 2 3 349 true 350 .none (r 351) (r 352) (r 353) 764 211
def o361 : Obj := kO "constants" "ApplicationExpression.constants" 767 214 1 3 356 true 357 .none (r 358) (r 359) (r 360) 772 214
def o368 : Obj := kO "predicates" "ApplicationExpression.predicates" 775 221 1 3 363 true 364 .none (r 365) (r 366) (r 367) 780 221
def o372 : Obj := tU [(vS "self" 786), (vS "function" 787), (vS "combinator" 788)]
def o375 : Obj := kO "visit" "ApplicationExpression.visit" 783 228 3 3 370 true 371 .none (r 372) (r 373) (r 374) 789 228
def o382 : Obj := kO "__eq__" "ApplicationExpression.__eq__" 792 231 2 3 377 true 378 .none (r 379) (r 380) (r 381) 797 231
def o386 : Obj := tU [(vS "self" 803), (vS "function" 804), (vS "args" 805), (vS "arg_str" 806), (vS "function_str" 807), (vS "parenthesize_function" 808)]
def o389 : Obj := kO "__str__" "ApplicationExpression.__str__" 800 234 1 3 384 true 385 .none (r 386) (r 387) (r 388) 809 234
def o396 : Obj := kO "uncurry" "ApplicationExpression.uncurry" 812 255 1 3 391 true 392 .none (r 393) (r 394) (r 395) 818 255
def o403 : Obj := kO "pred" "ApplicationExpression.pred" 821 263 1 3 398 true 399 .none (r 400) (r 401) (r 402) 825 263
def o405 : Obj := ⟨(.type "property"), none, (.fields #[(r 404), .none, .none, .none, (vS "pred" 828), (.bool false)]), #[]⟩
def o411 : Obj := kO "args" "ApplicationExpression.args" 829 267 1 3 406 true 407 .none (r 408) (r 409) (r 410) 833 267
def o413 : Obj := ⟨(.type "property"), none, (.fields #[(r 412), .none, .none, .none, (vS "args" 836), (.bool false)]), #[]⟩
def o419 : Obj := kO "is_atom" "ApplicationExpression.is_atom" 837 271 1 3 414 true 415 .none (r 416) (r 417) (r 418) 841 271
def o422 : Obj := dO [eS P "__module__" 735 w0, eS P "__firstlineno__" 739 (.int (192) 738), eS P "__init__" 748 (r 341), eS P "simplify" 758 (r 348), eS P "_made" 766 (r 355), eS P "constants" 774 (r 362), eS P "predicates" 782 (r 369), eS P "visit" 791 (r 376), eS P "__eq__" 799 (r 383), eS P "__str__" 811 (r 390), eS P "uncurry" 820 (r 397), eS P "pred" 828 (r 405), eS P "args" 836 (r 413), eS P "is_atom" 843 (r 420), eS P "__static_attributes__" 846 (r 421), eS P "__doc__" 847 .none, eS P "__hash__" 848 .none] 3
def o423 : Obj := ⟨(.type "type"), none, (.cls ⟨(sS "ApplicationExpression"), [(r 318)], [(r 423), (r 318), (r 162), (.type "object")], 422, (sS "ApplicationExpression"), true, [], [], false, none, false⟩), #[(some (r 328)), none, (some (vS "ApplicationExpression" 728)), (some (vS "ApplicationExpression" 736)), (some (.builtin "object.__new__")), (some (.bool true))]⟩
noncomputable def T7 (P : Params) : BT := iF 321 [o11, oB, o323, tU [(vS "stack" 724)], fN (dT 10) "_exceeds_size", o326, fO (dT 10) "_exceeds_size" .none w0 326, o328, o23, o330 P, o11, nO [(vI 194), (vI 4), (r 340), (vI 200), (vI 4), (r 347), (vI 211), (vI 4), (r 354), (vI 214), (vI 4), (r 361), (vI 221), (vI 4), (r 368), (vI 228), (vI 4), (r 375), (vI 231), (vI 4), (r 382), (vI 234), (vI 4), (r 389), (vI 255), (vI 4), (r 396), (vI 264), (vI 4), (r 403), (vI 268), (vI 4), (r 411), (vI 271), (vI 4), (r 419)], kO "ApplicationExpression" "ApplicationExpression" 730 192 0 0 331 false 332 .none .none .none .none 733 192, ⟨(.type "frame"), none, .plain, #[(some (r 333)), (some (r 3)), (some (r 330)), none, (some w0), none, (some (r 0))]⟩, o11, oB, tU [(vS "self" 743), (vS "function" 744), (vS "argument" 745)], o11, fN (dC 11 0) "ApplicationExpression.__init__", o340, fO (dC 11 0) "ApplicationExpression.__init__" .none w0 340, o11, oB, o344, o11, fN (dC 11 1) "ApplicationExpression.simplify", o347, fO (dC 11 1) "ApplicationExpression.simplify" .none w0 347, o11, oB, tU [(vS "self" 762), (vS "parts" 763)], o11, fN (dC 11 2) "ApplicationExpression._made", o354, fO (dC 11 2) "ApplicationExpression._made" .none w0 354, o11, oB, tU [(vS "self" 770), (vS "function_constants" 771)], o11, fN (dC 11 3) "ApplicationExpression.constants", o361, fO (dC 11 3) "ApplicationExpression.constants" .none w0 361, o11, oB, tU [(vS "self" 778), (vS "function_preds" 779)], o11, fN (dC 11 4) "ApplicationExpression.predicates", o368, fO (dC 11 4) "ApplicationExpression.predicates" .none w0 368, o11, oB, o372, o11, fN (dC 11 5) "ApplicationExpression.visit", o375, fO (dC 11 5) "ApplicationExpression.visit" .none w0 375, o11, oB, tU [(vS "self" 795), (vS "other" 796)], o11, fN (dC 11 6) "ApplicationExpression.__eq__", o382, fO (dC 11 6) "ApplicationExpression.__eq__" .none w0 382, o11, oB, o386, o11, fN (dC 11 7) "ApplicationExpression.__str__", o389, fO (dC 11 7) "ApplicationExpression.__str__" .none w0 389, o11, oB, tU [(vS "self" 815), (vS "function" 816), (vS "args" 817)], o11, fN (dC 11 8) "ApplicationExpression.uncurry", o396, fO (dC 11 8) "ApplicationExpression.uncurry" .none w0 396, o11, oB, tU [(vS "self" 824)], o11, fN (dC 11 9) "ApplicationExpression.pred", o403, fO (dC 11 9) "ApplicationExpression.pred" .none w0 403, o405, o11, oB, tU [(vS "self" 832)], o11, fN (dC 11 10) "ApplicationExpression.args", o411, fO (dC 11 10) "ApplicationExpression.args" .none w0 411, o413, o11, oB, tU [(vS "self" 840)], o11, fN (dC 11 11) "ApplicationExpression.is_atom", o419, fO (dC 11 11) "ApplicationExpression.is_atom" .none w0 419, tU [(vS "argument" 844), (vS "function" 845)], o422 P, o423, ⟨(.type "super"), none, (.fields #[(r 423), (r 423), (r 423)]), #[]⟩, ⟨(.type "builtin_function_or_method"), none, (.fields #[(.builtin "object.__init_subclass__"), (r 423)]), #[]⟩] (iF 318 [⟨(.type "type"), none, (.cls ⟨(sS "Expression"), [(r 162)], [(r 318), (r 162), (.type "object")], 317, (sS "Expression"), true, [], [(r 423)], false, none, false⟩), #[(some (r 167)), none, (some (vS "Expression" 519)), (some (vS "Expression" 527)), (some (.builtin "object.__new__")), (some (.bool true))]⟩] (iF 12 [nO [(vI 1), (vI 0), (r 20), (vI 5), (vI 0), (r 27), (vI 13), (vI 0), (r 56), (vI 20), (vI 0), (r 63), (vI 53), (vI 0), (r 94), (vI 69), (vI 0), (r 137), (vI 87), (vI 0), (r 144), (vI 94), (vI 0), (r 172), (vI 181), (vI 0), (r 326), (vI 192), (vI 0), (r 333)]] (iF 3 [o3v4 P] (T6 P))))
noncomputable def S7 (w : World) (os : OsState) : SharedT := ⟨T7 w.params, 426, life0, #[], drawn0, 851, os⟩
def d3v5 := d3v4 P ++ [eS P "AbstractVariableExpression" 924 (r 485), eS P "IndividualVariableExpression" 954 (r 511)]
def o3v5 : Obj := dO (d3v5 P) 22
def o428 : Obj := dO [eS P "__module__" 858 w0, eS P "__qualname__" 860 (vS "AbstractVariableExpression" 859), eS P "__firstlineno__" 862 (.int (273) 861), eS P "__init__" 870 (r 439), eS P "simplify" 877 (r 446), eS P "replace" 888 (r 454), eS P "predicates" 895 (r 461), eS P "__eq__" 903 (r 468), eS P "__lt__" 911 (r 475), eS P "__str__" 918 (r 482), eS P "__static_attributes__" 920 (r 483)] 11
def o438 : Obj := kO "__init__" "AbstractVariableExpression.__init__" 863 275 2 3 433 true 434 .none (r 435) (r 436) (r 437) 868 275
def o439 : Obj := fO (dC 12 0) "AbstractVariableExpression.__init__" .none w0 438
def o445 : Obj := kO "simplify" "AbstractVariableExpression.simplify" 871 279 1 3 440 true 441 .none (r 442) (r 443) (r 444) 875 279
def o446 : Obj := fO (dC 12 1) "AbstractVariableExpression.simplify" .none w0 445
def o450 : Obj := tU [(vS "self" 881), (vS "variable" 882), (vS "expression" 883), (vS "replace_bound" 884), (vS "alpha_convert" 885)]
def o453 : Obj := kO "replace" "AbstractVariableExpression.replace" 878 282 5 3 448 true 449 .none (r 450) (r 451) (r 452) 886 282
def o454 : Obj := fO (dC 12 2) "AbstractVariableExpression.replace" (r 447) w0 453
def o460 : Obj := kO "predicates" "AbstractVariableExpression.predicates" 889 290 1 3 455 true 456 .none (r 457) (r 458) (r 459) 893 290
def o461 : Obj := fO (dC 12 3) "AbstractVariableExpression.predicates" .none w0 460
def o467 : Obj := kO "__eq__" "AbstractVariableExpression.__eq__" 896 293 2 3 462 true 463 .none (r 464) (r 465) (r 466) 901 293
def o474 : Obj := kO "__lt__" "AbstractVariableExpression.__lt__" 904 296 2 3 469 true 470 .none (r 471) (r 472) (r 473) 909 296
def o481 : Obj := kO "__str__" "AbstractVariableExpression.__str__" 912 301 1 3 476 true 477 .none (r 478) (r 479) (r 480) 916 301
def o484 : Obj := dO [eS P "__module__" 858 w0, eS P "__firstlineno__" 862 (.int (273) 861), eS P "__init__" 870 (r 439), eS P "simplify" 877 (r 446), eS P "replace" 888 (r 454), eS P "predicates" 895 (r 461), eS P "__eq__" 903 (r 468), eS P "__lt__" 911 (r 475), eS P "__str__" 918 (r 482), eS P "__static_attributes__" 920 (r 483), eS P "__doc__" 921 .none, eS P "__hash__" 922 .none] 3
def o488 : Obj := tU [(r 485)]
def o490 : Obj := dO [eS P "__module__" 932 w0, eS P "__qualname__" 934 (vS "IndividualVariableExpression" 933), eS P "__firstlineno__" 936 (.int (303) 935), eS P "free" 943 (r 501), eS P "constants" 950 (r 508), eS P "__static_attributes__" 951 (r 509)] 6
def o500 : Obj := kO "free" "IndividualVariableExpression.free" 937 305 1 3 495 true 496 .none (r 497) (r 498) (r 499) 941 305
def o507 : Obj := kO "constants" "IndividualVariableExpression.constants" 944 308 1 3 502 true 503 .none (r 504) (r 505) (r 506) 948 308
def o508 : Obj := fO (dC 13 1) "IndividualVariableExpression.constants" .none w0 507
def o510 : Obj := dO [eS P "__module__" 932 w0, eS P "__firstlineno__" 936 (.int (303) 935), eS P "free" 943 (r 501), eS P "constants" 950 (r 508), eS P "__static_attributes__" 951 (r 509), eS P "__doc__" 952 .none] 2
noncomputable def T8 (P : Params) : BT := iF 426 [o328, o23, o428 P, o11, nO [(vI 275), (vI 4), (r 438), (vI 279), (vI 4), (r 445), (vI 282), (vI 4), (r 453), (vI 290), (vI 4), (r 460), (vI 293), (vI 4), (r 467), (vI 296), (vI 4), (r 474), (vI 301), (vI 4), (r 481)], kO "AbstractVariableExpression" "AbstractVariableExpression" 853 273 0 0 429 false 430 .none .none .none .none 856 273, ⟨(.type "frame"), none, .plain, #[(some (r 431)), (some (r 3)), (some (r 428)), none, (some w0), none, (some (r 0))]⟩, o11, oB, tU [(vS "self" 866), (vS "variable" 867)], o11, fN (dC 12 0) "AbstractVariableExpression.__init__", o438, o439, o11, oB, tU [(vS "self" 874)], o11, fN (dC 12 1) "AbstractVariableExpression.simplify", o445, o446, o254, o11, oB, o450, o11, fN (dC 12 2) "AbstractVariableExpression.replace", o453, o454, o11, oB, tU [(vS "self" 892)], o11, fN (dC 12 3) "AbstractVariableExpression.predicates", o460, o461, o11, oB, tU [(vS "self" 899), (vS "other" 900)], o11, fN (dC 12 4) "AbstractVariableExpression.__eq__", o467, fO (dC 12 4) "AbstractVariableExpression.__eq__" .none w0 467, o11, oB, tU [(vS "self" 907), (vS "other" 908)], o11, fN (dC 12 5) "AbstractVariableExpression.__lt__", o474, fO (dC 12 5) "AbstractVariableExpression.__lt__" .none w0 474, o11, oB, tU [(vS "self" 915)], o11, fN (dC 12 6) "AbstractVariableExpression.__str__", o481, fO (dC 12 6) "AbstractVariableExpression.__str__" .none w0 481, tU [(vS "variable" 919)], o484 P, ⟨(.type "type"), none, (.cls ⟨(sS "AbstractVariableExpression"), [(r 318)], [(r 485), (r 318), (r 162), (.type "object")], 484, (sS "AbstractVariableExpression"), true, [], [(r 511)], false, none, false⟩), #[(some (r 426)), none, (some (vS "AbstractVariableExpression" 851)), (some (vS "AbstractVariableExpression" 859)), (some (.builtin "object.__new__")), (some (.bool true))]⟩, ⟨(.type "super"), none, (.fields #[(r 485), (r 485), (r 485)]), #[]⟩, ⟨(.type "builtin_function_or_method"), none, (.fields #[(.builtin "object.__init_subclass__"), (r 485)]), #[]⟩, o488, o23, o490 P, o11, nO [(vI 305), (vI 4), (r 500), (vI 308), (vI 4), (r 507)], kO "IndividualVariableExpression" "IndividualVariableExpression" 927 303 0 0 491 false 492 .none .none .none .none 930 303, ⟨(.type "frame"), none, .plain, #[(some (r 493)), (some (r 3)), (some (r 490)), none, (some w0), none, (some (r 0))]⟩, o11, oB, tU [(vS "self" 940)], o11, fN (dC 13 0) "IndividualVariableExpression.free", o500, fO (dC 13 0) "IndividualVariableExpression.free" .none w0 500, o11, oB, tU [(vS "self" 947)], o11, fN (dC 13 1) "IndividualVariableExpression.constants", o507, o508, o11, o510 P, ⟨(.type "type"), none, (.cls ⟨(sS "IndividualVariableExpression"), [(r 485)], [(r 511), (r 485), (r 318), (r 162), (.type "object")], 510, (sS "IndividualVariableExpression"), true, [], [], false, none, false⟩), #[(some (r 488)), none, (some (vS "IndividualVariableExpression" 925)), (some (vS "IndividualVariableExpression" 933)), (some (.builtin "object.__new__")), (some (.bool true))]⟩, ⟨(.type "super"), none, (.fields #[(r 511), (r 511), (r 511)]), #[]⟩, ⟨(.type "builtin_function_or_method"), none, (.fields #[(.builtin "object.__init_subclass__"), (r 511)]), #[]⟩] (iF 318 [⟨(.type "type"), none, (.cls ⟨(sS "Expression"), [(r 162)], [(r 318), (r 162), (.type "object")], 317, (sS "Expression"), true, [], [(r 423), (r 485)], false, none, false⟩), #[(some (r 167)), none, (some (vS "Expression" 519)), (some (vS "Expression" 527)), (some (.builtin "object.__new__")), (some (.bool true))]⟩] (iF 12 [nO [(vI 1), (vI 0), (r 20), (vI 5), (vI 0), (r 27), (vI 13), (vI 0), (r 56), (vI 20), (vI 0), (r 63), (vI 53), (vI 0), (r 94), (vI 69), (vI 0), (r 137), (vI 87), (vI 0), (r 144), (vI 94), (vI 0), (r 172), (vI 181), (vI 0), (r 326), (vI 192), (vI 0), (r 333), (vI 273), (vI 0), (r 431), (vI 303), (vI 0), (r 493)]] (iF 3 [o3v5 P] (T7 P))))
noncomputable def S8 (w : World) (os : OsState) : SharedT := ⟨T8 w.params, 514, life0, #[], drawn0, 955, os⟩
def d3v6 := d3v5 P ++ [eS P "FunctionVariableExpression" 984 (r 537), eS P "EventVariableExpression" 1000 (r 549), eS P "ConstantExpression" 1030 (r 575), eS P "VariableExpression" 1037 (r 584)]
def o3v6 : Obj := dO (d3v6 P) 26
def o485v1 : Obj := ⟨(.type "type"), none, (.cls ⟨(sS "AbstractVariableExpression"), [(r 318)], [(r 485), (r 318), (r 162), (.type "object")], 484, (sS "AbstractVariableExpression"), true, [], [(r 511), (r 537), (r 575)], false, none, false⟩), #[(some (r 426)), none, (some (vS "AbstractVariableExpression" 851)), (some (vS "AbstractVariableExpression" 859)), (some (.builtin "object.__new__")), (some (.bool true))]⟩
def o511v1 : Obj := ⟨(.type "type"), none, (.cls ⟨(sS "IndividualVariableExpression"), [(r 485)], [(r 511), (r 485), (r 318), (r 162), (.type "object")], 510, (sS "IndividualVariableExpression"), true, [], [(r 549)], false, none, false⟩), #[(some (r 488)), none, (some (vS "IndividualVariableExpression" 925)), (some (vS "IndividualVariableExpression" 933)), (some (.builtin "object.__new__")), (some (.bool true))]⟩
def o516 : Obj := dO [eS P "__module__" 962 w0, eS P "__qualname__" 964 (vS "FunctionVariableExpression" 963), eS P "__firstlineno__" 966 (.int (310) 965), eS P "free" 973 (r 527), eS P "constants" 980 (r 534), eS P "__static_attributes__" 981 (r 535)] 6
def o526 : Obj := kO "free" "FunctionVariableExpression.free" 967 312 1 3 521 true 522 .none (r 523) (r 524) (r 525) 971 312
def o533 : Obj := kO "constants" "FunctionVariableExpression.constants" 974 315 1 3 528 true 529 .none (r 530) (r 531) (r 532) 978 315
def o534 : Obj := fO (dC 14 1) "FunctionVariableExpression.constants" .none w0 533
def o536 : Obj := dO [eS P "__module__" 962 w0, eS P "__firstlineno__" 966 (.int (310) 965), eS P "free" 973 (r 527), eS P "constants" 980 (r 534), eS P "__static_attributes__" 981 (r 535), eS P "__doc__" 982 .none] 2
def o537 : Obj := ⟨(.type "type"), none, (.cls ⟨(sS "FunctionVariableExpression"), [(r 485)], [(r 537), (r 485), (r 318), (r 162), (.type "object")], 536, (sS "FunctionVariableExpression"), true, [], [], false, none, false⟩), #[(some (r 514)), none, (some (vS "FunctionVariableExpression" 955)), (some (vS "FunctionVariableExpression" 963)), (some (.builtin "object.__new__")), (some (.bool true))]⟩
def o542 : Obj := dO [eS P "__module__" 992 w0, eS P "__qualname__" 994 (vS "EventVariableExpression" 993), eS P "__firstlineno__" 996 (.int (317) 995), eS P "__static_attributes__" 997 (r 547)] 4
def o548 : Obj := dO [eS P "__module__" 992 w0, eS P "__firstlineno__" 996 (.int (317) 995), eS P "__static_attributes__" 997 (r 547), eS P "__doc__" 998 .none] 2
def o549 : Obj := ⟨(.type "type"), none, (.cls ⟨(sS "EventVariableExpression"), [(r 511)], [(r 549), (r 511), (r 485), (r 318), (r 162), (.type "object")], 548, (sS "EventVariableExpression"), true, [], [], false, none, false⟩), #[(some (r 540)), none, (some (vS "EventVariableExpression" 985)), (some (vS "EventVariableExpression" 993)), (some (.builtin "object.__new__")), (some (.bool true))]⟩
def o554 : Obj := dO [eS P "__module__" 1008 w0, eS P "__qualname__" 1010 (vS "ConstantExpression" 1009), eS P "__firstlineno__" 1012 (.int (319) 1011), eS P "free" 1019 (r 565), eS P "constants" 1026 (r 572), eS P "__static_attributes__" 1027 (r 573)] 6
def o564 : Obj := kO "free" "ConstantExpression.free" 1013 321 1 3 559 true 560 .none (r 561) (r 562) (r 563) 1017 321
def o571 : Obj := kO "constants" "ConstantExpression.constants" 1020 324 1 3 566 true 567 .none (r 568) (r 569) (r 570) 1024 324
def o574 : Obj := dO [eS P "__module__" 1008 w0, eS P "__firstlineno__" 1012 (.int (319) 1011), eS P "free" 1019 (r 565), eS P "constants" 1026 (r 572), eS P "__static_attributes__" 1027 (r 573), eS P "__doc__" 1028 .none] 2
def o575 : Obj := ⟨(.type "type"), none, (.cls ⟨(sS "ConstantExpression"), [(r 485)], [(r 575), (r 485), (r 318), (r 162), (.type "object")], 574, (sS "ConstantExpression"), true, [], [], false, none, false⟩), #[(some (r 552)), none, (some (vS "ConstantExpression" 1001)), (some (vS "ConstantExpression" 1009)), (some (.builtin "object.__new__")), (some (.bool true))]⟩
def o583 : Obj := kO "VariableExpression" "VariableExpression" 1031 326 1 3 578 true 579 .none (r 580) (r 581) (r 582) 1035 326
noncomputable def T9 (P : Params) : BT := iF 514 [o488, o23, o516 P, o11, nO [(vI 312), (vI 4), (r 526), (vI 315), (vI 4), (r 533)], kO "FunctionVariableExpression" "FunctionVariableExpression" 957 310 0 0 517 false 518 .none .none .none .none 960 310, ⟨(.type "frame"), none, .plain, #[(some (r 519)), (some (r 3)), (some (r 516)), none, (some w0), none, (some (r 0))]⟩, o11, oB, tU [(vS "self" 970)], o11, fN (dC 14 0) "FunctionVariableExpression.free", o526, fO (dC 14 0) "FunctionVariableExpression.free" .none w0 526, o11, oB, tU [(vS "self" 977)], o11, fN (dC 14 1) "FunctionVariableExpression.constants", o533, o534, o11, o536 P, o537, ⟨(.type "super"), none, (.fields #[(r 537), (r 537), (r 537)]), #[]⟩, ⟨(.type "builtin_function_or_method"), none, (.fields #[(.builtin "object.__init_subclass__"), (r 537)]), #[]⟩, tU [(r 511)], o23, o542 P, o11, oB, kO "EventVariableExpression" "EventVariableExpression" 987 317 0 0 543 false 544 .none .none .none .none 990 317, ⟨(.type "frame"), none, .plain, #[(some (r 545)), (some (r 3)), (some (r 542)), none, (some w0), none, (some (r 0))]⟩, o11, o548 P, o549, ⟨(.type "super"), none, (.fields #[(r 549), (r 549), (r 549)]), #[]⟩, ⟨(.type "builtin_function_or_method"), none, (.fields #[(.builtin "object.__init_subclass__"), (r 549)]), #[]⟩, o488, o23, o554 P, o11, nO [(vI 321), (vI 4), (r 564), (vI 324), (vI 4), (r 571)], kO "ConstantExpression" "ConstantExpression" 1003 319 0 0 555 false 556 .none .none .none .none 1006 319, ⟨(.type "frame"), none, .plain, #[(some (r 557)), (some (r 3)), (some (r 554)), none, (some w0), none, (some (r 0))]⟩, o11, oB, tU [(vS "self" 1016)], o11, fN (dC 16 0) "ConstantExpression.free", o564, fO (dC 16 0) "ConstantExpression.free" .none w0 564, o11, oB, tU [(vS "self" 1023)], o11, fN (dC 16 1) "ConstantExpression.constants", o571, fO (dC 16 1) "ConstantExpression.constants" .none w0 571, o11, o574 P, o575, ⟨(.type "super"), none, (.fields #[(r 575), (r 575), (r 575)]), #[]⟩, ⟨(.type "builtin_function_or_method"), none, (.fields #[(.builtin "object.__init_subclass__"), (r 575)]), #[]⟩, o11, oB, tU [(vS "variable" 1034)], o11, fN (dT 17) "VariableExpression", o583, fO (dT 17) "VariableExpression" .none w0 583] (iF 511 [o511v1] (iF 485 [o485v1] (iF 12 [nO [(vI 1), (vI 0), (r 20), (vI 5), (vI 0), (r 27), (vI 13), (vI 0), (r 56), (vI 20), (vI 0), (r 63), (vI 53), (vI 0), (r 94), (vI 69), (vI 0), (r 137), (vI 87), (vI 0), (r 144), (vI 94), (vI 0), (r 172), (vI 181), (vI 0), (r 326), (vI 192), (vI 0), (r 333), (vI 273), (vI 0), (r 431), (vI 303), (vI 0), (r 493), (vI 310), (vI 0), (r 519), (vI 317), (vI 0), (r 545), (vI 319), (vI 0), (r 557), (vI 326), (vI 0), (r 583)]] (iF 3 [o3v6 P] (T8 P)))))
noncomputable def S9 (w : World) (os : OsState) : SharedT := ⟨T9 w.params, 585, life0, #[], drawn0, 1038, os⟩
def d3v7 := d3v6 P ++ [eS P "VariableBinderExpression" 1118 (r 642), eS P "LambdaExpression" 1160 (r 675)]
def o3v7 : Obj := dO (d3v7 P) 28
def o587 : Obj := dO [eS P "__module__" 1045 w0, eS P "__qualname__" 1047 (vS "VariableBinderExpression" 1046), eS P "__firstlineno__" 1049 (.int (336) 1048), eS P "__init__" 1058 (r 598), eS P "replace" 1071 (r 606), eS P "alpha_convert" 1079 (r 613), eS P "free" 1085 (r 618), eS P "visit" 1094 (r 625), eS P "_made" 1102 (r 632), eS P "__eq__" 1111 (r 639), eS P "__static_attributes__" 1114 (r 640)] 11
def o597 : Obj := kO "__init__" "VariableBinderExpression.__init__" 1050 338 3 3 592 true 593 .none (r 594) (r 595) (r 596) 1056 338
def o602 : Obj := tU [(vS "self" 1062), (vS "variable" 1063), (vS "expression" 1064), (vS "replace_bound" 1065), (vS "alpha_convert" 1066), (vS "binder" 1067), (vS "taken" 1068)]
def o605 : Obj := kO "replace" "VariableBinderExpression.replace" 1059 344 5 3 600 true 601 .none (r 602) (r 603) (r 604) 1069 344
def o612 : Obj := kO "alpha_convert" "VariableBinderExpression.alpha_convert" 1072 360 2 3 607 true 608 .none (r 609) (r 610) (r 611) 1077 360
def o613 : Obj := fO (dC 18 2) "VariableBinderExpression.alpha_convert" .none w0 612
def o617 : Obj := kO "free" "VariableBinderExpression.free" 1080 364 1 3 614 true 615 .none .none .none (r 616) 1083 364
def o621 : Obj := tU [(vS "self" 1089), (vS "function" 1090), (vS "combinator" 1091)]
def o624 : Obj := kO "visit" "VariableBinderExpression.visit" 1086 367 3 3 619 true 620 .none (r 621) (r 622) (r 623) 1092 367
def o631 : Obj := kO "_made" "VariableBinderExpression._made" 1095 370 2 3 626 true 627 .none (r 628) (r 629) (r 630) 1100 370
def o638 : Obj := kO "__eq__" "VariableBinderExpression.__eq__" 1103 373 2 3 633 true 634 .none (r 635) (r 636) (r 637) 1109 373
def o641 : Obj := dO [eS P "__module__" 1045 w0, eS P "__firstlineno__" 1049 (.int (336) 1048), eS P "__init__" 1058 (r 598), eS P "replace" 1071 (r 606), eS P "alpha_convert" 1079 (r 613), eS P "free" 1085 (r 618), eS P "visit" 1094 (r 625), eS P "_made" 1102 (r 632), eS P "__eq__" 1111 (r 639), eS P "__static_attributes__" 1114 (r 640), eS P "__doc__" 1115 .none, eS P "__hash__" 1116 .none] 3
def o645 : Obj := tU [(r 642)]
def o647 : Obj := dO [eS P "__module__" 1126 w0, eS P "__qualname__" 1128 (vS "LambdaExpression" 1127), eS P "__firstlineno__" 1130 (.int (382) 1129), eS P "_binder" 1139 (r 658), eS P "_is_alike" 1147 (r 665), eS P "__str__" 1156 (r 672), eS P "__static_attributes__" 1157 (r 673)] 7
def o657 : Obj := kO "_binder" "LambdaExpression._binder" 1131 384 3 3 652 true 653 .none (r 654) (r 655) (r 656) 1137 384
def o664 : Obj := kO "_is_alike" "LambdaExpression._is_alike" 1140 387 2 3 659 true 660 .none (r 661) (r 662) (r 663) 1145 387
def o671 : Obj := kO "__str__" "LambdaExpression.__str__" 1148 390 1 3 666 true 667 .none (r 668) (r 669) (r 670) 1154 390
def o674 : Obj := dO [eS P "__module__" 1126 w0, eS P "__firstlineno__" 1130 (.int (382) 1129), eS P "_binder" 1139 (r 658), eS P "_is_alike" 1147 (r 665), eS P "__str__" 1156 (r 672), eS P "__static_attributes__" 1157 (r 673), eS P "__doc__" 1158 .none] 2
def o675 : Obj := ⟨(.type "type"), none, (.cls ⟨(sS "LambdaExpression"), [(r 642)], [(r 675), (r 642), (r 318), (r 162), (.type "object")], 674, (sS "LambdaExpression"), true, [], [], false, none, false⟩), #[(some (r 645)), none, (some (vS "LambdaExpression" 1119)), (some (vS "LambdaExpression" 1127)), (some (.builtin "object.__new__")), (some (.bool true))]⟩
noncomputable def T10 (P : Params) : BT := iF 585 [o328, o23, o587 P, o11, nO [(vI 338), (vI 4), (r 597), (vI 344), (vI 4), (r 605), (vI 360), (vI 4), (r 612), (vI 364), (vI 4), (r 617), (vI 367), (vI 4), (r 624), (vI 370), (vI 4), (r 631), (vI 373), (vI 4), (r 638)], kO "VariableBinderExpression" "VariableBinderExpression" 1040 336 0 0 588 false 589 .none .none .none .none 1043 336, ⟨(.type "frame"), none, .plain, #[(some (r 590)), (some (r 3)), (some (r 587)), none, (some w0), none, (some (r 0))]⟩, o11, oB, tU [(vS "self" 1053), (vS "variable" 1054), (vS "term" 1055)], o11, fN (dC 18 0) "VariableBinderExpression.__init__", o597, fO (dC 18 0) "VariableBinderExpression.__init__" .none w0 597, o254, o11, oB, o602, o11, fN (dC 18 1) "VariableBinderExpression.replace", o605, fO (dC 18 1) "VariableBinderExpression.replace" (r 599) w0 605, o11, oB, tU [(vS "self" 1075), (vS "newvar" 1076)], o11, fN (dC 18 2) "VariableBinderExpression.alpha_convert", o612, o613, o11, oB, fN (dC 18 3) "VariableBinderExpression.free", o617, fO (dC 18 3) "VariableBinderExpression.free" .none w0 617, o11, oB, o621, o11, fN (dC 18 4) "VariableBinderExpression.visit", o624, fO (dC 18 4) "VariableBinderExpression.visit" .none w0 624, o11, oB, tU [(vS "self" 1098), (vS "parts" 1099)], o11, fN (dC 18 5) "VariableBinderExpression._made", o631, fO (dC 18 5) "VariableBinderExpression._made" .none w0 631, o11, oB, tU [(vS "self" 1106), (vS "other" 1107), (vS "varex" 1108)], o11, fN (dC 18 6) "VariableBinderExpression.__eq__", o638, fO (dC 18 6) "VariableBinderExpression.__eq__" .none w0 638, tU [(vS "term" 1112), (vS "variable" 1113)], o641 P, ⟨(.type "type"), none, (.cls ⟨(sS "VariableBinderExpression"), [(r 318)], [(r 642), (r 318), (r 162), (.type "object")], 641, (sS "VariableBinderExpression"), true, [], [(r 675)], false, none, false⟩), #[(some (r 585)), none, (some (vS "VariableBinderExpression" 1038)), (some (vS "VariableBinderExpression" 1046)), (some (.builtin "object.__new__")), (some (.bool true))]⟩, ⟨(.type "super"), none, (.fields #[(r 642), (r 642), (r 642)]), #[]⟩, ⟨(.type "builtin_function_or_method"), none, (.fields #[(.builtin "object.__init_subclass__"), (r 642)]), #[]⟩, o645, o23, o647 P, o11, nO [(vI 384), (vI 4), (r 657), (vI 387), (vI 4), (r 664), (vI 390), (vI 4), (r 671)], kO "LambdaExpression" "LambdaExpression" 1121 382 0 0 648 false 649 .none .none .none .none 1124 382, ⟨(.type "frame"), none, .plain, #[(some (r 650)), (some (r 3)), (some (r 647)), none, (some w0), none, (some (r 0))]⟩, o11, oB, tU [(vS "self" 1134), (vS "variable" 1135), (vS "term" 1136)], o11, fN (dC 19 0) "LambdaExpression._binder", o657, fO (dC 19 0) "LambdaExpression._binder" .none w0 657, o11, oB, tU [(vS "self" 1143), (vS "other" 1144)], o11, fN (dC 19 1) "LambdaExpression._is_alike", o664, fO (dC 19 1) "LambdaExpression._is_alike" .none w0 664, o11, oB, tU [(vS "self" 1151), (vS "variables" 1152), (vS "term" 1153)], o11, fN (dC 19 2) "LambdaExpression.__str__", o671, fO (dC 19 2) "LambdaExpression.__str__" .none w0 671, o11, o674 P, o675, ⟨(.type "super"), none, (.fields #[(r 675), (r 675), (r 675)]), #[]⟩, ⟨(.type "builtin_function_or_method"), none, (.fields #[(.builtin "object.__init_subclass__"), (r 675)]), #[]⟩] (iF 318 [⟨(.type "type"), none, (.cls ⟨(sS "Expression"), [(r 162)], [(r 318), (r 162), (.type "object")], 317, (sS "Expression"), true, [], [(r 423), (r 485), (r 642)], false, none, false⟩), #[(some (r 167)), none, (some (vS "Expression" 519)), (some (vS "Expression" 527)), (some (.builtin "object.__new__")), (some (.bool true))]⟩] (iF 12 [nO [(vI 1), (vI 0), (r 20), (vI 5), (vI 0), (r 27), (vI 13), (vI 0), (r 56), (vI 20), (vI 0), (r 63), (vI 53), (vI 0), (r 94), (vI 69), (vI 0), (r 137), (vI 87), (vI 0), (r 144), (vI 94), (vI 0), (r 172), (vI 181), (vI 0), (r 326), (vI 192), (vI 0), (r 333), (vI 273), (vI 0), (r 431), (vI 303), (vI 0), (r 493), (vI 310), (vI 0), (r 519), (vI 317), (vI 0), (r 545), (vI 319), (vI 0), (r 557), (vI 326), (vI 0), (r 583), (vI 336), (vI 0), (r 590), (vI 382), (vI 0), (r 650)]] (iF 3 [o3v7 P] (T9 P))))
noncomputable def S10 (w : World) (os : OsState) : SharedT := ⟨T10 w.params, 678, life0, #[], drawn0, 1161, os⟩
def d3v8 := d3v7 P ++ [eS P "QuantifiedExpression" 1185 (r 694), eS P "ExistsExpression" 1225 (r 727)]
def o3v8 : Obj := dO (d3v8 P) 30
def o642v1 : Obj := ⟨(.type "type"), none, (.cls ⟨(sS "VariableBinderExpression"), [(r 318)], [(r 642), (r 318), (r 162), (.type "object")], 641, (sS "VariableBinderExpression"), true, [], [(r 675), (r 694)], false, none, false⟩), #[(some (r 585)), none, (some (vS "VariableBinderExpression" 1038)), (some (vS "VariableBinderExpression" 1046)), (some (.builtin "object.__new__")), (some (.bool true))]⟩
def o680 : Obj := dO [eS P "__module__" 1168 w0, eS P "__qualname__" 1170 (vS "QuantifiedExpression" 1169), eS P "__firstlineno__" 1172 (.int (397) 1171), eS P "__str__" 1181 (r 691), eS P "__static_attributes__" 1182 (r 692)] 5
def o690 : Obj := kO "__str__" "QuantifiedExpression.__str__" 1173 399 1 3 685 true 686 .none (r 687) (r 688) (r 689) 1179 399
def o693 : Obj := dO [eS P "__module__" 1168 w0, eS P "__firstlineno__" 1172 (.int (397) 1171), eS P "__str__" 1181 (r 691), eS P "__static_attributes__" 1182 (r 692), eS P "__doc__" 1183 .none] 2
def o697 : Obj := tU [(r 694)]
def o699 : Obj := dO [eS P "__module__" 1193 w0, eS P "__qualname__" 1195 (vS "ExistsExpression" 1194), eS P "__firstlineno__" 1197 (.int (406) 1196), eS P "_binder" 1206 (r 710), eS P "_is_alike" 1214 (r 717), eS P "getQuantifier" 1221 (r 724), eS P "__static_attributes__" 1222 (r 725)] 7
def o709 : Obj := kO "_binder" "ExistsExpression._binder" 1198 408 3 3 704 true 705 .none (r 706) (r 707) (r 708) 1204 408
def o716 : Obj := kO "_is_alike" "ExistsExpression._is_alike" 1207 411 2 3 711 true 712 .none (r 713) (r 714) (r 715) 1212 411
def o723 : Obj := kO "getQuantifier" "ExistsExpression.getQuantifier" 1215 414 1 3 718 true 719 .none (r 720) (r 721) (r 722) 1219 414
def o726 : Obj := dO [eS P "__module__" 1193 w0, eS P "__firstlineno__" 1197 (.int (406) 1196), eS P "_binder" 1206 (r 710), eS P "_is_alike" 1214 (r 717), eS P "getQuantifier" 1221 (r 724), eS P "__static_attributes__" 1222 (r 725), eS P "__doc__" 1223 .none] 2
def o727 : Obj := ⟨(.type "type"), none, (.cls ⟨(sS "ExistsExpression"), [(r 694)], [(r 727), (r 694), (r 642), (r 318), (r 162), (.type "object")], 726, (sS "ExistsExpression"), true, [], [], false, none, false⟩), #[(some (r 697)), none, (some (vS "ExistsExpression" 1186)), (some (vS "ExistsExpression" 1194)), (some (.builtin "object.__new__")), (some (.bool true))]⟩
noncomputable def T11 (P : Params) : BT := iF 678 [o645, o23, o680 P, o11, nO [(vI 399), (vI 4), (r 690)], kO "QuantifiedExpression" "QuantifiedExpression" 1163 397 0 0 681 false 682 .none .none .none .none 1166 397, ⟨(.type "frame"), none, .plain, #[(some (r 683)), (some (r 3)), (some (r 680)), none, (some w0), none, (some (r 0))]⟩, o11, oB, tU [(vS "self" 1176), (vS "variables" 1177), (vS "term" 1178)], o11, fN (dC 20 0) "QuantifiedExpression.__str__", o690, fO (dC 20 0) "QuantifiedExpression.__str__" .none w0 690, o11, o693 P, ⟨(.type "type"), none, (.cls ⟨(sS "QuantifiedExpression"), [(r 642)], [(r 694), (r 642), (r 318), (r 162), (.type "object")], 693, (sS "QuantifiedExpression"), true, [], [(r 727)], false, none, false⟩), #[(some (r 678)), none, (some (vS "QuantifiedExpression" 1161)), (some (vS "QuantifiedExpression" 1169)), (some (.builtin "object.__new__")), (some (.bool true))]⟩, ⟨(.type "super"), none, (.fields #[(r 694), (r 694), (r 694)]), #[]⟩, ⟨(.type "builtin_function_or_method"), none, (.fields #[(.builtin "object.__init_subclass__"), (r 694)]), #[]⟩, o697, o23, o699 P, o11, nO [(vI 408), (vI 4), (r 709), (vI 411), (vI 4), (r 716), (vI 414), (vI 4), (r 723)], kO "ExistsExpression" "ExistsExpression" 1188 406 0 0 700 false 701 .none .none .none .none 1191 406, ⟨(.type "frame"), none, .plain, #[(some (r 702)), (some (r 3)), (some (r 699)), none, (some w0), none, (some (r 0))]⟩, o11, oB, tU [(vS "self" 1201), (vS "variable" 1202), (vS "term" 1203)], o11, fN (dC 21 0) "ExistsExpression._binder", o709, fO (dC 21 0) "ExistsExpression._binder" .none w0 709, o11, oB, tU [(vS "self" 1210), (vS "other" 1211)], o11, fN (dC 21 1) "ExistsExpression._is_alike", o716, fO (dC 21 1) "ExistsExpression._is_alike" .none w0 716, o11, oB, tU [(vS "self" 1218)], o11, fN (dC 21 2) "ExistsExpression.getQuantifier", o723, fO (dC 21 2) "ExistsExpression.getQuantifier" .none w0 723, o11, o726 P, o727, ⟨(.type "super"), none, (.fields #[(r 727), (r 727), (r 727)]), #[]⟩, ⟨(.type "builtin_function_or_method"), none, (.fields #[(.builtin "object.__init_subclass__"), (r 727)]), #[]⟩] (iF 642 [o642v1] (iF 12 [nO [(vI 1), (vI 0), (r 20), (vI 5), (vI 0), (r 27), (vI 13), (vI 0), (r 56), (vI 20), (vI 0), (r 63), (vI 53), (vI 0), (r 94), (vI 69), (vI 0), (r 137), (vI 87), (vI 0), (r 144), (vI 94), (vI 0), (r 172), (vI 181), (vI 0), (r 326), (vI 192), (vI 0), (r 333), (vI 273), (vI 0), (r 431), (vI 303), (vI 0), (r 493), (vI 310), (vI 0), (r 519), (vI 317), (vI 0), (r 545), (vI 319), (vI 0), (r 557), (vI 326), (vI 0), (r 583), (vI 336), (vI 0), (r 590), (vI 382), (vI 0), (r 650), (vI 397), (vI 0), (r 683), (vI 406), (vI 0), (r 702)]] (iF 3 [o3v8 P] (T10 P))))
noncomputable def S11 (w : World) (os : OsState) : SharedT := ⟨T11 w.params, 730, life0, #[], drawn0, 1226, os⟩
def d3v9 := d3v8 P ++ [eS P "AllExpression" 1267 (r 760), eS P "NegatedExpression" 1333 (r 814)]
def o3v9 : Obj := dO (d3v9 P) 32
def o694v1 : Obj := ⟨(.type "type"), none, (.cls ⟨(sS "QuantifiedExpression"), [(r 642)], [(r 694), (r 642), (r 318), (r 162), (.type "object")], 693, (sS "QuantifiedExpression"), true, [], [(r 727), (r 760)], false, none, false⟩), #[(some (r 678)), none, (some (vS "QuantifiedExpression" 1161)), (some (vS "QuantifiedExpression" 1169)), (some (.builtin "object.__new__")), (some (.bool true))]⟩
def o732 : Obj := dO [eS P "__module__" 1233 w0, eS P "__qualname__" 1235 (vS "AllExpression" 1234), eS P "__firstlineno__" 1237 (.int (416) 1236), eS P "_used_vars" 1238 .none, eS P "_exhausted" 1239 (.bool false), eS P "_binder" 1248 (r 743), eS P "_is_alike" 1256 (r 750), eS P "getQuantifier" 1263 (r 757), eS P "__static_attributes__" 1264 (r 758)] 9
def o742 : Obj := kO "_binder" "AllExpression._binder" 1240 420 3 3 737 true 738 .none (r 739) (r 740) (r 741) 1246 420
def o749 : Obj := kO "_is_alike" "AllExpression._is_alike" 1249 423 2 3 744 true 745 .none (r 746) (r 747) (r 748) 1254 423
def o756 : Obj := kO "getQuantifier" "AllExpression.getQuantifier" 1257 426 1 3 751 true 752 .none (r 753) (r 754) (r 755) 1261 426
def o759 : Obj := dO [eS P "__module__" 1233 w0, eS P "__firstlineno__" 1237 (.int (416) 1236), eS P "_used_vars" 1238 .none, eS P "_exhausted" 1239 (.bool false), eS P "_binder" 1248 (r 743), eS P "_is_alike" 1256 (r 750), eS P "getQuantifier" 1263 (r 757), eS P "__static_attributes__" 1264 (r 758), eS P "__doc__" 1265 .none] 2
def o760 : Obj := ⟨(.type "type"), none, (.cls ⟨(sS "AllExpression"), [(r 694)], [(r 760), (r 694), (r 642), (r 318), (r 162), (.type "object")], 759, (sS "AllExpression"), true, [], [], false, none, false⟩), #[(some (r 730)), none, (some (vS "AllExpression" 1226)), (some (vS "AllExpression" 1234)), (some (.builtin "object.__new__")), (some (.bool true))]⟩
def o765 : Obj := dO [eS P "__module__" 1275 w0, eS P "__qualname__" 1277 (vS "NegatedExpression" 1276), eS P "__firstlineno__" 1279 (.int (428) 1278), eS P "_exhausted" 1280 (.bool false), eS P "__init__" 1288 (r 776), eS P "_made" 1296 (r 783), eS P "visit" 1305 (r 790), eS P "negate" 1312 (r 797), eS P "__eq__" 1320 (r 804), eS P "__str__" 1327 (r 811), eS P "__static_attributes__" 1329 (r 812)] 11
def o775 : Obj := kO "__init__" "NegatedExpression.__init__" 1281 431 2 3 770 true 771 .none (r 772) (r 773) (r 774) 1286 431
def o782 : Obj := kO "_made" "NegatedExpression._made" 1289 435 2 3 777 true 778 .none (r 779) (r 780) (r 781) 1294 435
def o786 : Obj := tU [(vS "self" 1300), (vS "function" 1301), (vS "combinator" 1302)]
def o789 : Obj := kO "visit" "NegatedExpression.visit" 1297 438 3 3 784 true 785 .none (r 786) (r 787) (r 788) 1303 438
def o796 : Obj := kO "negate" "NegatedExpression.negate" 1306 441 1 3 791 true 792 .none (r 793) (r 794) (r 795) 1310 441
def o803 : Obj := kO "__eq__" "NegatedExpression.__eq__" 1313 444 2 3 798 true 799 .none (r 800) (r 801) (r 802) 1318 444
def o810 : Obj := kO "__str__" "NegatedExpression.__str__" 1321 447 1 3 805 true 806 .none (r 807) (r 808) (r 809) 1325 447
def o813 : Obj := dO [eS P "__module__" 1275 w0, eS P "__firstlineno__" 1279 (.int (428) 1278), eS P "_exhausted" 1280 (.bool false), eS P "__init__" 1288 (r 776), eS P "_made" 1296 (r 783), eS P "visit" 1305 (r 790), eS P "negate" 1312 (r 797), eS P "__eq__" 1320 (r 804), eS P "__str__" 1327 (r 811), eS P "__static_attributes__" 1329 (r 812), eS P "__doc__" 1330 .none, eS P "__hash__" 1331 .none] 3
def o814 : Obj := ⟨(.type "type"), none, (.cls ⟨(sS "NegatedExpression"), [(r 318)], [(r 814), (r 318), (r 162), (.type "object")], 813, (sS "NegatedExpression"), true, [], [], false, none, false⟩), #[(some (r 763)), none, (some (vS "NegatedExpression" 1268)), (some (vS "NegatedExpression" 1276)), (some (.builtin "object.__new__")), (some (.bool true))]⟩
noncomputable def T12 (P : Params) : BT := iF 730 [o697, o23, o732 P, o11, nO [(vI 420), (vI 4), (r 742), (vI 423), (vI 4), (r 749), (vI 426), (vI 4), (r 756)], kO "AllExpression" "AllExpression" 1228 416 0 0 733 false 734 .none .none .none .none 1231 416, ⟨(.type "frame"), none, .plain, #[(some (r 735)), (some (r 3)), (some (r 732)), none, (some w0), none, (some (r 0))]⟩, o11, oB, tU [(vS "self" 1243), (vS "variable" 1244), (vS "term" 1245)], o11, fN (dC 22 2) "AllExpression._binder", o742, fO (dC 22 2) "AllExpression._binder" .none w0 742, o11, oB, tU [(vS "self" 1252), (vS "other" 1253)], o11, fN (dC 22 3) "AllExpression._is_alike", o749, fO (dC 22 3) "AllExpression._is_alike" .none w0 749, o11, oB, tU [(vS "self" 1260)], o11, fN (dC 22 4) "AllExpression.getQuantifier", o756, fO (dC 22 4) "AllExpression.getQuantifier" .none w0 756, o11, o759 P, o760, ⟨(.type "super"), none, (.fields #[(r 760), (r 760), (r 760)]), #[]⟩, ⟨(.type "builtin_function_or_method"), none, (.fields #[(.builtin "object.__init_subclass__"), (r 760)]), #[]⟩, o328, o23, o765 P, o11, nO [(vI 431), (vI 4), (r 775), (vI 435), (vI 4), (r 782), (vI 438), (vI 4), (r 789), (vI 441), (vI 4), (r 796), (vI 444), (vI 4), (r 803), (vI 447), (vI 4), (r 810)], kO "NegatedExpression" "NegatedExpression" 1270 428 0 0 766 false 767 .none .none .none .none 1273 428, ⟨(.type "frame"), none, .plain, #[(some (r 768)), (some (r 3)), (some (r 765)), none, (some w0), none, (some (r 0))]⟩, o11, oB, tU [(vS "self" 1284), (vS "term" 1285)], o11, fN (dC 23 1) "NegatedExpression.__init__", o775, fO (dC 23 1) "NegatedExpression.__init__" .none w0 775, o11, oB, tU [(vS "self" 1292), (vS "parts" 1293)], o11, fN (dC 23 2) "NegatedExpression._made", o782, fO (dC 23 2) "NegatedExpression._made" .none w0 782, o11, oB, o786, o11, fN (dC 23 3) "NegatedExpression.visit", o789, fO (dC 23 3) "NegatedExpression.visit" .none w0 789, o11, oB, tU [(vS "self" 1309)], o11, fN (dC 23 4) "NegatedExpression.negate", o796, fO (dC 23 4) "NegatedExpression.negate" .none w0 796, o11, oB, tU [(vS "self" 1316), (vS "other" 1317)], o11, fN (dC 23 5) "NegatedExpression.__eq__", o803, fO (dC 23 5) "NegatedExpression.__eq__" .none w0 803, o11, oB, tU [(vS "self" 1324)], o11, fN (dC 23 6) "NegatedExpression.__str__", o810, fO (dC 23 6) "NegatedExpression.__str__" .none w0 810, tU [(vS "term" 1328)], o813 P, o814, ⟨(.type "super"), none, (.fields #[(r 814), (r 814), (r 814)]), #[]⟩, ⟨(.type "builtin_function_or_method"), none, (.fields #[(.builtin "object.__init_subclass__"), (r 814)]), #[]⟩] (iF 694 [o694v1] (iF 318 [⟨(.type "type"), none, (.cls ⟨(sS "Expression"), [(r 162)], [(r 318), (r 162), (.type "object")], 317, (sS "Expression"), true, [], [(r 423), (r 485), (r 642), (r 814)], false, none, false⟩), #[(some (r 167)), none, (some (vS "Expression" 519)), (some (vS "Expression" 527)), (some (.builtin "object.__new__")), (some (.bool true))]⟩] (iF 12 [nO [(vI 1), (vI 0), (r 20), (vI 5), (vI 0), (r 27), (vI 13), (vI 0), (r 56), (vI 20), (vI 0), (r 63), (vI 53), (vI 0), (r 94), (vI 69), (vI 0), (r 137), (vI 87), (vI 0), (r 144), (vI 94), (vI 0), (r 172), (vI 181), (vI 0), (r 326), (vI 192), (vI 0), (r 333), (vI 273), (vI 0), (r 431), (vI 303), (vI 0), (r 493), (vI 310), (vI 0), (r 519), (vI 317), (vI 0), (r 545), (vI 319), (vI 0), (r 557), (vI 326), (vI 0), (r 583), (vI 336), (vI 0), (r 590), (vI 382), (vI 0), (r 650), (vI 397), (vI 0), (r 683), (vI 406), (vI 0), (r 702), (vI 416), (vI 0), (r 735), (vI 428), (vI 0), (r 768)]] (iF 3 [o3v9 P] (T11 P)))))
noncomputable def S12 (w : World) (os : OsState) : SharedT := ⟨T12 w.params, 817, life0, #[], drawn0, 1334, os⟩
def d3v10 := d3v9 P ++ [eS P "BinaryExpression" 1395 (r 861), eS P "BooleanExpression" 1411 (r 873)]
def o3v10 : Obj := dO (d3v10 P) 34
def o318v5 : Obj := ⟨(.type "type"), none, (.cls ⟨(sS "Expression"), [(r 162)], [(r 318), (r 162), (.type "object")], 317, (sS "Expression"), true, [], [(r 423), (r 485), (r 642), (r 814), (r 861)], false, none, false⟩), #[(some (r 167)), none, (some (vS "Expression" 519)), (some (vS "Expression" 527)), (some (.builtin "object.__new__")), (some (.bool true))]⟩
def o819 : Obj := dO [eS P "__module__" 1341 w0, eS P "__qualname__" 1343 (vS "BinaryExpression" 1342), eS P "__firstlineno__" 1345 (.int (449) 1344), eS P "__init__" 1354 (r 830), eS P "visit" 1363 (r 837), eS P "__eq__" 1371 (r 844), eS P "__str__" 1380 (r 851), eS P "_str_subex" 1388 (r 858), eS P "__static_attributes__" 1391 (r 859)] 9
def o829 : Obj := kO "__init__" "BinaryExpression.__init__" 1346 451 3 3 824 true 825 .none (r 826) (r 827) (r 828) 1352 451
def o833 : Obj := tU [(vS "self" 1358), (vS "function" 1359), (vS "combinator" 1360)]
def o836 : Obj := kO "visit" "BinaryExpression.visit" 1355 457 3 3 831 true 832 .none (r 833) (r 834) (r 835) 1361 457
def o843 : Obj := kO "__eq__" "BinaryExpression.__eq__" 1364 460 2 3 838 true 839 .none (r 840) (r 841) (r 842) 1369 460
def o850 : Obj := kO "__str__" "BinaryExpression.__str__" 1372 463 1 3 845 true 846 .none (r 847) (r 848) (r 849) 1378 463
def o857 : Obj := kO "_str_subex" "BinaryExpression._str_subex" 1381 468 2 3 852 true 853 .none (r 854) (r 855) (r 856) 1386 468
def o860 : Obj := dO [eS P "__module__" 1341 w0, eS P "__firstlineno__" 1345 (.int (449) 1344), eS P "__init__" 1354 (r 830), eS P "visit" 1363 (r 837), eS P "__eq__" 1371 (r 844), eS P "__str__" 1380 (r 851), eS P "_str_subex" 1388 (r 858), eS P "__static_attributes__" 1391 (r 859), eS P "__doc__" 1392 .none, eS P "__hash__" 1393 .none] 3
def o864 : Obj := tU [(r 861)]
def o866 : Obj := dO [eS P "__module__" 1403 w0, eS P "__qualname__" 1405 (vS "BooleanExpression" 1404), eS P "__firstlineno__" 1407 (.int (470) 1406), eS P "__static_attributes__" 1408 (r 871)] 4
def o872 : Obj := dO [eS P "__module__" 1403 w0, eS P "__firstlineno__" 1407 (.int (470) 1406), eS P "__static_attributes__" 1408 (r 871), eS P "__doc__" 1409 .none] 2
noncomputable def T13 (P : Params) : BT := iF 817 [o328, o23, o819 P, o11, nO [(vI 451), (vI 4), (r 829), (vI 457), (vI 4), (r 836), (vI 460), (vI 4), (r 843), (vI 463), (vI 4), (r 850), (vI 468), (vI 4), (r 857)], kO "BinaryExpression" "BinaryExpression" 1336 449 0 0 820 false 821 .none .none .none .none 1339 449, ⟨(.type "frame"), none, .plain, #[(some (r 822)), (some (r 3)), (some (r 819)), none, (some w0), none, (some (r 0))]⟩, o11, oB, tU [(vS "self" 1349), (vS "first" 1350), (vS "second" 1351)], o11, fN (dC 24 0) "BinaryExpression.__init__", o829, fO (dC 24 0) "BinaryExpression.__init__" .none w0 829, o11, oB, o833, o11, fN (dC 24 1) "BinaryExpression.visit", o836, fO (dC 24 1) "BinaryExpression.visit" .none w0 836, o11, oB, tU [(vS "self" 1367), (vS "other" 1368)], o11, fN (dC 24 2) "BinaryExpression.__eq__", o843, fO (dC 24 2) "BinaryExpression.__eq__" .none w0 843, o11, oB, tU [(vS "self" 1375), (vS "first" 1376), (vS "second" 1377)], o11, fN (dC 24 3) "BinaryExpression.__str__", o850, fO (dC 24 3) "BinaryExpression.__str__" .none w0 850, o11, oB, tU [(vS "self" 1384), (vS "subex" 1385)], o11, fN (dC 24 4) "BinaryExpression._str_subex", o857, fO (dC 24 4) "BinaryExpression._str_subex" .none w0 857, tU [(vS "first" 1389), (vS "second" 1390)], o860 P, ⟨(.type "type"), none, (.cls ⟨(sS "BinaryExpression"), [(r 318)], [(r 861), (r 318), (r 162), (.type "object")], 860, (sS "BinaryExpression"), true, [], [(r 873)], false, none, false⟩), #[(some (r 817)), none, (some (vS "BinaryExpression" 1334)), (some (vS "BinaryExpression" 1342)), (some (.builtin "object.__new__")), (some (.bool true))]⟩, ⟨(.type "super"), none, (.fields #[(r 861), (r 861), (r 861)]), #[]⟩, ⟨(.type "builtin_function_or_method"), none, (.fields #[(.builtin "object.__init_subclass__"), (r 861)]), #[]⟩, o864, o23, o866 P, o11, oB, kO "BooleanExpression" "BooleanExpression" 1398 470 0 0 867 false 868 .none .none .none .none 1401 470, ⟨(.type "frame"), none, .plain, #[(some (r 869)), (some (r 3)), (some (r 866)), none, (some w0), none, (some (r 0))]⟩, o11, o872 P, ⟨(.type "type"), none, (.cls ⟨(sS "BooleanExpression"), [(r 861)], [(r 873), (r 861), (r 318), (r 162), (.type "object")], 872, (sS "BooleanExpression"), true, [], [], false, none, false⟩), #[(some (r 864)), none, (some (vS "BooleanExpression" 1396)), (some (vS "BooleanExpression" 1404)), (some (.builtin "object.__new__")), (some (.bool true))]⟩, ⟨(.type "super"), none, (.fields #[(r 873), (r 873), (r 873)]), #[]⟩, ⟨(.type "builtin_function_or_method"), none, (.fields #[(.builtin "object.__init_subclass__"), (r 873)]), #[]⟩] (iF 318 [o318v5] (iF 12 [nO [(vI 1), (vI 0), (r 20), (vI 5), (vI 0), (r 27), (vI 13), (vI 0), (r 56), (vI 20), (vI 0), (r 63), (vI 53), (vI 0), (r 94), (vI 69), (vI 0), (r 137), (vI 87), (vI 0), (r 144), (vI 94), (vI 0), (r 172), (vI 181), (vI 0), (r 326), (vI 192), (vI 0), (r 333), (vI 273), (vI 0), (r 431), (vI 303), (vI 0), (r 493), (vI 310), (vI 0), (r 519), (vI 317), (vI 0), (r 545), (vI 319), (vI 0), (r 557), (vI 326), (vI 0), (r 583), (vI 336), (vI 0), (r 590), (vI 382), (vI 0), (r 650), (vI 397), (vI 0), (r 683), (vI 406), (vI 0), (r 702), (vI 416), (vI 0), (r 735), (vI 428), (vI 0), (r 768), (vI 449), (vI 0), (r 822), (vI 470), (vI 0), (r 869)]] (iF 3 [o3v10 P] (T12 P))))
noncomputable def S13 (w : World) (os : OsState) : SharedT := ⟨T13 w.params, 876, life0, #[], drawn0, 1412, os⟩
def d3v11 := d3v10 P ++ [eS P "AndExpression" 1459 (r 913), eS P "OrExpression" 1507 (r 953)]
def o3v11 : Obj := dO (d3v11 P) 36
def o876 : Obj := tU [(r 873)]
def o878 : Obj := dO [eS P "__module__" 1419 w0, eS P "__qualname__" 1421 (vS "AndExpression" 1420), eS P "__firstlineno__" 1423 (.int (472) 1422), eS P "_made" 1431 (r 889), eS P "_is_alike" 1439 (r 896), eS P "getOp" 1446 (r 903), eS P "_str_subex" 1455 (r 910), eS P "__static_attributes__" 1456 (r 911)] 8
def o888 : Obj := kO "_made" "AndExpression._made" 1424 474 2 3 883 true 884 .none (r 885) (r 886) (r 887) 1429 474
def o895 : Obj := kO "_is_alike" "AndExpression._is_alike" 1432 477 2 3 890 true 891 .none (r 892) (r 893) (r 894) 1437 477
def o902 : Obj := kO "getOp" "AndExpression.getOp" 1440 480 1 3 897 true 898 .none (r 899) (r 900) (r 901) 1444 480
def o909 : Obj := kO "_str_subex" "AndExpression._str_subex" 1447 483 2 3 904 true 905 .none (r 906) (r 907) (r 908) 1453 483
def o912 : Obj := dO [eS P "__module__" 1419 w0, eS P "__firstlineno__" 1423 (.int (472) 1422), eS P "_made" 1431 (r 889), eS P "_is_alike" 1439 (r 896), eS P "getOp" 1446 (r 903), eS P "_str_subex" 1455 (r 910), eS P "__static_attributes__" 1456 (r 911), eS P "__doc__" 1457 .none] 2
def o913 : Obj := ⟨(.type "type"), none, (.cls ⟨(sS "AndExpression"), [(r 873)], [(r 913), (r 873), (r 861), (r 318), (r 162), (.type "object")], 912, (sS "AndExpression"), true, [], [], false, none, false⟩), #[(some (r 876)), none, (some (vS "AndExpression" 1412)), (some (vS "AndExpression" 1420)), (some (.builtin "object.__new__")), (some (.bool true))]⟩
def o918 : Obj := dO [eS P "__module__" 1467 w0, eS P "__qualname__" 1469 (vS "OrExpression" 1468), eS P "__firstlineno__" 1471 (.int (488) 1470), eS P "_made" 1479 (r 929), eS P "_is_alike" 1487 (r 936), eS P "getOp" 1494 (r 943), eS P "_str_subex" 1503 (r 950), eS P "__static_attributes__" 1504 (r 951)] 8
def o928 : Obj := kO "_made" "OrExpression._made" 1472 490 2 3 923 true 924 .none (r 925) (r 926) (r 927) 1477 490
def o935 : Obj := kO "_is_alike" "OrExpression._is_alike" 1480 493 2 3 930 true 931 .none (r 932) (r 933) (r 934) 1485 493
def o942 : Obj := kO "getOp" "OrExpression.getOp" 1488 496 1 3 937 true 938 .none (r 939) (r 940) (r 941) 1492 496
def o949 : Obj := kO "_str_subex" "OrExpression._str_subex" 1495 499 2 3 944 true 945 .none (r 946) (r 947) (r 948) 1501 499
def o952 : Obj := dO [eS P "__module__" 1467 w0, eS P "__firstlineno__" 1471 (.int (488) 1470), eS P "_made" 1479 (r 929), eS P "_is_alike" 1487 (r 936), eS P "getOp" 1494 (r 943), eS P "_str_subex" 1503 (r 950), eS P "__static_attributes__" 1504 (r 951), eS P "__doc__" 1505 .none] 2
def o953 : Obj := ⟨(.type "type"), none, (.cls ⟨(sS "OrExpression"), [(r 873)], [(r 953), (r 873), (r 861), (r 318), (r 162), (.type "object")], 952, (sS "OrExpression"), true, [], [], false, none, false⟩), #[(some (r 916)), none, (some (vS "OrExpression" 1460)), (some (vS "OrExpression" 1468)), (some (.builtin "object.__new__")), (some (.bool true))]⟩
noncomputable def T14 (P : Params) : BT := iF 876 [o876, o23, o878 P, o11, nO [(vI 474), (vI 4), (r 888), (vI 477), (vI 4), (r 895), (vI 480), (vI 4), (r 902), (vI 483), (vI 4), (r 909)], kO "AndExpression" "AndExpression" 1414 472 0 0 879 false 880 .none .none .none .none 1417 472, ⟨(.type "frame"), none, .plain, #[(some (r 881)), (some (r 3)), (some (r 878)), none, (some w0), none, (some (r 0))]⟩, o11, oB, tU [(vS "self" 1427), (vS "parts" 1428)], o11, fN (dC 26 0) "AndExpression._made", o888, fO (dC 26 0) "AndExpression._made" .none w0 888, o11, oB, tU [(vS "self" 1435), (vS "other" 1436)], o11, fN (dC 26 1) "AndExpression._is_alike", o895, fO (dC 26 1) "AndExpression._is_alike" .none w0 895, o11, oB, tU [(vS "self" 1443)], o11, fN (dC 26 2) "AndExpression.getOp", o902, fO (dC 26 2) "AndExpression.getOp" .none w0 902, o11, oB, tU [(vS "self" 1450), (vS "subex" 1451), (vS "s" 1452)], o11, fN (dC 26 3) "AndExpression._str_subex", o909, fO (dC 26 3) "AndExpression._str_subex" .none w0 909, o11, o912 P, o913, ⟨(.type "super"), none, (.fields #[(r 913), (r 913), (r 913)]), #[]⟩, ⟨(.type "builtin_function_or_method"), none, (.fields #[(.builtin "object.__init_subclass__"), (r 913)]), #[]⟩, o876, o23, o918 P, o11, nO [(vI 490), (vI 4), (r 928), (vI 493), (vI 4), (r 935), (vI 496), (vI 4), (r 942), (vI 499), (vI 4), (r 949)], kO "OrExpression" "OrExpression" 1462 488 0 0 919 false 920 .none .none .none .none 1465 488, ⟨(.type "frame"), none, .plain, #[(some (r 921)), (some (r 3)), (some (r 918)), none, (some w0), none, (some (r 0))]⟩, o11, oB, tU [(vS "self" 1475), (vS "parts" 1476)], o11, fN (dC 27 0) "OrExpression._made", o928, fO (dC 27 0) "OrExpression._made" .none w0 928, o11, oB, tU [(vS "self" 1483), (vS "other" 1484)], o11, fN (dC 27 1) "OrExpression._is_alike", o935, fO (dC 27 1) "OrExpression._is_alike" .none w0 935, o11, oB, tU [(vS "self" 1491)], o11, fN (dC 27 2) "OrExpression.getOp", o942, fO (dC 27 2) "OrExpression.getOp" .none w0 942, o11, oB, tU [(vS "self" 1498), (vS "subex" 1499), (vS "s" 1500)], o11, fN (dC 27 3) "OrExpression._str_subex", o949, fO (dC 27 3) "OrExpression._str_subex" .none w0 949, o11, o952 P, o953, ⟨(.type "super"), none, (.fields #[(r 953), (r 953), (r 953)]), #[]⟩, ⟨(.type "builtin_function_or_method"), none, (.fields #[(.builtin "object.__init_subclass__"), (r 953)]), #[]⟩] (iF 873 [⟨(.type "type"), none, (.cls ⟨(sS "BooleanExpression"), [(r 861)], [(r 873), (r 861), (r 318), (r 162), (.type "object")], 872, (sS "BooleanExpression"), true, [], [(r 913), (r 953)], false, none, false⟩), #[(some (r 864)), none, (some (vS "BooleanExpression" 1396)), (some (vS "BooleanExpression" 1404)), (some (.builtin "object.__new__")), (some (.bool true))]⟩] (iF 12 [nO [(vI 1), (vI 0), (r 20), (vI 5), (vI 0), (r 27), (vI 13), (vI 0), (r 56), (vI 20), (vI 0), (r 63), (vI 53), (vI 0), (r 94), (vI 69), (vI 0), (r 137), (vI 87), (vI 0), (r 144), (vI 94), (vI 0), (r 172), (vI 181), (vI 0), (r 326), (vI 192), (vI 0), (r 333), (vI 273), (vI 0), (r 431), (vI 303), (vI 0), (r 493), (vI 310), (vI 0), (r 519), (vI 317), (vI 0), (r 545), (vI 319), (vI 0), (r 557), (vI 326), (vI 0), (r 583), (vI 336), (vI 0), (r 590), (vI 382), (vI 0), (r 650), (vI 397), (vI 0), (r 683), (vI 406), (vI 0), (r 702), (vI 416), (vI 0), (r 735), (vI 428), (vI 0), (r 768), (vI 449), (vI 0), (r 822), (vI 470), (vI 0), (r 869), (vI 472), (vI 0), (r 881), (vI 488), (vI 0), (r 921)]] (iF 3 [o3v11 P] (T13 P))))
noncomputable def S14 (w : World) (os : OsState) : SharedT := ⟨T14 w.params, 956, life0, #[], drawn0, 1508, os⟩
def d3v12 := d3v11 P ++ [eS P "ImpExpression" 1546 (r 986), eS P "IffExpression" 1585 (r 1019)]
def o3v12 : Obj := dO (d3v12 P) 38
def o873v2 : Obj := ⟨(.type "type"), none, (.cls ⟨(sS "BooleanExpression"), [(r 861)], [(r 873), (r 861), (r 318), (r 162), (.type "object")], 872, (sS "BooleanExpression"), true, [], [(r 913), (r 953), (r 986), (r 1019)], false, none, false⟩), #[(some (r 864)), none, (some (vS "BooleanExpression" 1396)), (some (vS "BooleanExpression" 1404)), (some (.builtin "object.__new__")), (some (.bool true))]⟩
def o958 : Obj := dO [eS P "__module__" 1515 w0, eS P "__qualname__" 1517 (vS "ImpExpression" 1516), eS P "__firstlineno__" 1519 (.int (504) 1518), eS P "_made" 1527 (r 969), eS P "_is_alike" 1535 (r 976), eS P "getOp" 1542 (r 983), eS P "__static_attributes__" 1543 (r 984)] 7
def o968 : Obj := kO "_made" "ImpExpression._made" 1520 506 2 3 963 true 964 .none (r 965) (r 966) (r 967) 1525 506
def o975 : Obj := kO "_is_alike" "ImpExpression._is_alike" 1528 509 2 3 970 true 971 .none (r 972) (r 973) (r 974) 1533 509
def o982 : Obj := kO "getOp" "ImpExpression.getOp" 1536 512 1 3 977 true 978 .none (r 979) (r 980) (r 981) 1540 512
def o985 : Obj := dO [eS P "__module__" 1515 w0, eS P "__firstlineno__" 1519 (.int (504) 1518), eS P "_made" 1527 (r 969), eS P "_is_alike" 1535 (r 976), eS P "getOp" 1542 (r 983), eS P "__static_attributes__" 1543 (r 984), eS P "__doc__" 1544 .none] 2
def o986 : Obj := ⟨(.type "type"), none, (.cls ⟨(sS "ImpExpression"), [(r 873)], [(r 986), (r 873), (r 861), (r 318), (r 162), (.type "object")], 985, (sS "ImpExpression"), true, [], [], false, none, false⟩), #[(some (r 956)), none, (some (vS "ImpExpression" 1508)), (some (vS "ImpExpression" 1516)), (some (.builtin "object.__new__")), (some (.bool true))]⟩
def o991 : Obj := dO [eS P "__module__" 1554 w0, eS P "__qualname__" 1556 (vS "IffExpression" 1555), eS P "__firstlineno__" 1558 (.int (514) 1557), eS P "_made" 1566 (r 1002), eS P "_is_alike" 1574 (r 1009), eS P "getOp" 1581 (r 1016), eS P "__static_attributes__" 1582 (r 1017)] 7
def o1001 : Obj := kO "_made" "IffExpression._made" 1559 516 2 3 996 true 997 .none (r 998) (r 999) (r 1000) 1564 516
def o1008 : Obj := kO "_is_alike" "IffExpression._is_alike" 1567 519 2 3 1003 true 1004 .none (r 1005) (r 1006) (r 1007) 1572 519
def o1015 : Obj := kO "getOp" "IffExpression.getOp" 1575 522 1 3 1010 true 1011 .none (r 1012) (r 1013) (r 1014) 1579 522
def o1018 : Obj := dO [eS P "__module__" 1554 w0, eS P "__firstlineno__" 1558 (.int (514) 1557), eS P "_made" 1566 (r 1002), eS P "_is_alike" 1574 (r 1009), eS P "getOp" 1581 (r 1016), eS P "__static_attributes__" 1582 (r 1017), eS P "__doc__" 1583 .none] 2
def o1019 : Obj := ⟨(.type "type"), none, (.cls ⟨(sS "IffExpression"), [(r 873)], [(r 1019), (r 873), (r 861), (r 318), (r 162), (.type "object")], 1018, (sS "IffExpression"), true, [], [], false, none, false⟩), #[(some (r 989)), none, (some (vS "IffExpression" 1547)), (some (vS "IffExpression" 1555)), (some (.builtin "object.__new__")), (some (.bool true))]⟩
noncomputable def T15 (P : Params) : BT := iF 956 [o876, o23, o958 P, o11, nO [(vI 506), (vI 4), (r 968), (vI 509), (vI 4), (r 975), (vI 512), (vI 4), (r 982)], kO "ImpExpression" "ImpExpression" 1510 504 0 0 959 false 960 .none .none .none .none 1513 504, ⟨(.type "frame"), none, .plain, #[(some (r 961)), (some (r 3)), (some (r 958)), none, (some w0), none, (some (r 0))]⟩, o11, oB, tU [(vS "self" 1523), (vS "parts" 1524)], o11, fN (dC 28 0) "ImpExpression._made", o968, fO (dC 28 0) "ImpExpression._made" .none w0 968, o11, oB, tU [(vS "self" 1531), (vS "other" 1532)], o11, fN (dC 28 1) "ImpExpression._is_alike", o975, fO (dC 28 1) "ImpExpression._is_alike" .none w0 975, o11, oB, tU [(vS "self" 1539)], o11, fN (dC 28 2) "ImpExpression.getOp", o982, fO (dC 28 2) "ImpExpression.getOp" .none w0 982, o11, o985 P, o986, ⟨(.type "super"), none, (.fields #[(r 986), (r 986), (r 986)]), #[]⟩, ⟨(.type "builtin_function_or_method"), none, (.fields #[(.builtin "object.__init_subclass__"), (r 986)]), #[]⟩, o876, o23, o991 P, o11, nO [(vI 516), (vI 4), (r 1001), (vI 519), (vI 4), (r 1008), (vI 522), (vI 4), (r 1015)], kO "IffExpression" "IffExpression" 1549 514 0 0 992 false 993 .none .none .none .none 1552 514, ⟨(.type "frame"), none, .plain, #[(some (r 994)), (some (r 3)), (some (r 991)), none, (some w0), none, (some (r 0))]⟩, o11, oB, tU [(vS "self" 1562), (vS "parts" 1563)], o11, fN (dC 29 0) "IffExpression._made", o1001, fO (dC 29 0) "IffExpression._made" .none w0 1001, o11, oB, tU [(vS "self" 1570), (vS "other" 1571)], o11, fN (dC 29 1) "IffExpression._is_alike", o1008, fO (dC 29 1) "IffExpression._is_alike" .none w0 1008, o11, oB, tU [(vS "self" 1578)], o11, fN (dC 29 2) "IffExpression.getOp", o1015, fO (dC 29 2) "IffExpression.getOp" .none w0 1015, o11, o1018 P, o1019, ⟨(.type "super"), none, (.fields #[(r 1019), (r 1019), (r 1019)]), #[]⟩, ⟨(.type "builtin_function_or_method"), none, (.fields #[(.builtin "object.__init_subclass__"), (r 1019)]), #[]⟩] (iF 873 [o873v2] (iF 12 [nO [(vI 1), (vI 0), (r 20), (vI 5), (vI 0), (r 27), (vI 13), (vI 0), (r 56), (vI 20), (vI 0), (r 63), (vI 53), (vI 0), (r 94), (vI 69), (vI 0), (r 137), (vI 87), (vI 0), (r 144), (vI 94), (vI 0), (r 172), (vI 181), (vI 0), (r 326), (vI 192), (vI 0), (r 333), (vI 273), (vI 0), (r 431), (vI 303), (vI 0), (r 493), (vI 310), (vI 0), (r 519), (vI 317), (vI 0), (r 545), (vI 319), (vI 0), (r 557), (vI 326), (vI 0), (r 583), (vI 336), (vI 0), (r 590), (vI 382), (vI 0), (r 650), (vI 397), (vI 0), (r 683), (vI 406), (vI 0), (r 702), (vI 416), (vI 0), (r 735), (vI 428), (vI 0), (r 768), (vI 449), (vI 0), (r 822), (vI 470), (vI 0), (r 869), (vI 472), (vI 0), (r 881), (vI 488), (vI 0), (r 921), (vI 504), (vI 0), (r 961), (vI 514), (vI 0), (r 994)]] (iF 3 [o3v12 P] (T14 P))))
noncomputable def S15 (w : World) (os : OsState) : SharedT := ⟨T15 w.params, 1022, life0, #[], drawn0, 1586, os⟩
def d3v13 := [eS P "__name__" 165 w1, eS P "__doc__" 166 .none, eS P "__package__" 167 .none, eS P "__loader__" 168 (.builtin "__main__.__loader__#opaque"), eS P "__spec__" 169 .none, eS P "__annotations__" 170 (r 6), eS P "__builtins__" 171 (r 4), eS P "__file__" 173 (cF 172), eS P "__cached__" 174 .none, eS P "_wall" 193 (r 21), eS P "Counter" 232 (r 46), eS P "_union" 242 (r 57), eS P "Tokens" 419 (r 84), eS P "Variable" 472 (r 126), eS P "unique_variable" 483 (r 138), eS P "SubstituteBindingsI" 518 (r 162), eS P "Expression" 714 (r 318), eS P "MAX_SIMPLIFY_SIZE" 716 (.int (10000) 715), eS P "_exceeds_size" 727 (r 327), eS P "ApplicationExpression" 850 (r 423), eS P "AbstractVariableExpression" 924 (r 485), eS P "IndividualVariableExpression" 954 (r 511), eS P "FunctionVariableExpression" 984 (r 537), eS P "EventVariableExpression" 1000 (r 549), eS P "ConstantExpression" 1030 (r 575), eS P "VariableExpression" 1037 (r 584), eS P "VariableBinderExpression" 1118 (r 642), eS P "LambdaExpression" 1160 (r 675), eS P "QuantifiedExpression" 1185 (r 694), eS P "ExistsExpression" 1225 (r 727), eS P "AllExpression" 1267 (r 760), eS P "NegatedExpression" 1333 (r 814), eS P "BinaryExpression" 1395 (r 861), eS P "BooleanExpression" 1411 (r 873), eS P "AndExpression" 1459 (r 913), eS P "OrExpression" 1507 (r 953), eS P "ImpExpression" 1546 (r 986), eS P "IffExpression" 1585 (r 1019), eS P "EqualityExpression" 1624 (r 1052), eS P "_is_letter_and_digits" 1633 (r 1061), eS P "is_indvar" 1640 (r 1068), eS P "is_funcvar" 1647 (r 1075), eS P "is_eventvar" 1654 (r 1082), eS P "BindingDict" 1731 (r 1135)]
def o3v13 : Obj := dO (d3v13 P) 44
def o861v1 : Obj := ⟨(.type "type"), none, (.cls ⟨(sS "BinaryExpression"), [(r 318)], [(r 861), (r 318), (r 162), (.type "object")], 860, (sS "BinaryExpression"), true, [], [(r 873), (r 1052)], false, none, false⟩), #[(some (r 817)), none, (some (vS "BinaryExpression" 1334)), (some (vS "BinaryExpression" 1342)), (some (.builtin "object.__new__")), (some (.bool true))]⟩
def o1024 : Obj := dO [eS P "__module__" 1593 w0, eS P "__qualname__" 1595 (vS "EqualityExpression" 1594), eS P "__firstlineno__" 1597 (.int (524) 1596), eS P "_made" 1605 (r 1035), eS P "_is_alike" 1613 (r 1042), eS P "getOp" 1620 (r 1049), eS P "__static_attributes__" 1621 (r 1050)] 7
def o1034 : Obj := kO "_made" "EqualityExpression._made" 1598 526 2 3 1029 true 1030 .none (r 1031) (r 1032) (r 1033) 1603 526
def o1041 : Obj := kO "_is_alike" "EqualityExpression._is_alike" 1606 529 2 3 1036 true 1037 .none (r 1038) (r 1039) (r 1040) 1611 529
def o1048 : Obj := kO "getOp" "EqualityExpression.getOp" 1614 532 1 3 1043 true 1044 .none (r 1045) (r 1046) (r 1047) 1618 532
def o1051 : Obj := dO [eS P "__module__" 1593 w0, eS P "__firstlineno__" 1597 (.int (524) 1596), eS P "_made" 1605 (r 1035), eS P "_is_alike" 1613 (r 1042), eS P "getOp" 1620 (r 1049), eS P "__static_attributes__" 1621 (r 1050), eS P "__doc__" 1622 .none] 2
def o1052 : Obj := ⟨(.type "type"), none, (.cls ⟨(sS "EqualityExpression"), [(r 861)], [(r 1052), (r 861), (r 318), (r 162), (.type "object")], 1051, (sS "EqualityExpression"), true, [], [], false, none, false⟩), #[(some (r 1022)), none, (some (vS "EqualityExpression" 1586)), (some (vS "EqualityExpression" 1594)), (some (.builtin "object.__new__")), (some (.bool true))]⟩
def o1060 : Obj := kO "_is_letter_and_digits" "_is_letter_and_digits" 1625 534 2 3 1055 true 1056 .none (r 1057) (r 1058) (r 1059) 1631 534
def o1067 : Obj := kO "is_indvar" "is_indvar" 1634 541 1 3 1062 true 1063 .none (r 1064) (r 1065) (r 1066) 1638 541
def o1074 : Obj := kO "is_funcvar" "is_funcvar" 1641 544 1 3 1069 true 1070 .none (r 1071) (r 1072) (r 1073) 1645 544
def o1081 : Obj := kO "is_eventvar" "is_eventvar" 1648 547 1 3 1076 true 1077 .none (r 1078) (r 1079) (r 1080) 1652 547
def o1085 : Obj := dO [eS P "__module__" 1664 w1, eS P "__qualname__" 1666 (vS "BindingDict" 1665), eS P "__firstlineno__" 1668 (.int (551) 1667), eS P "__init__" 1678 (r 1097), eS P "__setitem__" 1689 (r 1104), eS P "__getitem__" 1697 (r 1111), eS P "__contains__" 1705 (r 1118), eS P "__add__" 1715 (r 1125), eS P "__len__" 1722 (r 1132), eS P "__static_attributes__" 1724 (r 1133)] 10
def o1093 : Obj := tU [(vS "self" 1672), (vS "binding_list" 1673), (vS "v" 1674), (vS "b" 1675)]
def o1096 : Obj := kO "__init__" "BindingDict.__init__" 1669 553 2 3 1091 true 1092 .none (r 1093) (r 1094) (r 1095) 1676 553
def o1100 : Obj := tU [(vS "self" 1682), (vS "variable" 1683), (vS "binding" 1684), (vS "existing" 1685), (vS "binding2" 1686)]
def o1103 : Obj := kO "__setitem__" "BindingDict.__setitem__" 1679 559 3 3 1098 true 1099 .none (r 1100) (r 1101) (r 1102) 1687 559
def o1110 : Obj := kO "__getitem__" "BindingDict.__getitem__" 1690 581 2 3 1105 true 1106 .none (r 1107) (r 1108) (r 1109) 1695 581
def o1117 : Obj := kO "__contains__" "BindingDict.__contains__" 1698 585 2 3 1112 true 1113 .none (r 1114) (r 1115) (r 1116) 1703 585
def o1121 : Obj := tU [(vS "self" 1709), (vS "other" 1710), (vS "combined" 1711), (vS "v" 1712)]
def o1124 : Obj := kO "__add__" "BindingDict.__add__" 1706 588 2 3 1119 true 1120 .none (r 1121) (r 1122) (r 1123) 1713 588
def o1131 : Obj := kO "__len__" "BindingDict.__len__" 1716 596 1 3 1126 true 1127 .none (r 1128) (r 1129) (r 1130) 1720 596
def o1134 : Obj := dO [eS P "__module__" 1664 w1, eS P "__firstlineno__" 1668 (.int (551) 1667), eS P "__init__" 1678 (r 1097), eS P "__setitem__" 1689 (r 1104), eS P "__getitem__" 1697 (r 1111), eS P "__contains__" 1705 (r 1118), eS P "__add__" 1715 (r 1125), eS P "__len__" 1722 (r 1132), eS P "__static_attributes__" 1724 (r 1133), eS P "__dict__" 1726 (r 1136), eS P "__weakref__" 1728 (r 1137), eS P "__doc__" 1729 .none] 4
def o1135 : Obj := ⟨(.type "type"), none, (.cls ⟨(sS "BindingDict"), [(.type "object")], [(r 1135), (.type "object")], 1134, (sS "BindingDict"), true, [], [], false, none, false⟩), #[none, none, (some (vS "BindingDict" 1657)), (some (vS "BindingDict" 1665)), (some (.builtin "object.__new__")), (some (.bool true))]⟩
def o1136 : Obj := ⟨(.type "getset_descriptor"), none, (.fields #[(vS "__dict__" 1725), (r 1135), (.builtin "function.__dict__"), (.builtin "function.__dict__#set")]), #[]⟩
def o1137 : Obj := ⟨(.type "getset_descriptor"), none, (.fields #[(vS "__weakref__" 1727), (r 1135), (.builtin "ExceptionGroup.__weakref__"), .none]), #[]⟩
noncomputable def T16 (P : Params) : BT := iF 1022 [o864, o23, o1024 P, o11, nO [(vI 526), (vI 4), (r 1034), (vI 529), (vI 4), (r 1041), (vI 532), (vI 4), (r 1048)], kO "EqualityExpression" "EqualityExpression" 1588 524 0 0 1025 false 1026 .none .none .none .none 1591 524, ⟨(.type "frame"), none, .plain, #[(some (r 1027)), (some (r 3)), (some (r 1024)), none, (some w0), none, (some (r 0))]⟩, o11, oB, tU [(vS "self" 1601), (vS "parts" 1602)], o11, fN (dC 30 0) "EqualityExpression._made", o1034, fO (dC 30 0) "EqualityExpression._made" .none w0 1034, o11, oB, tU [(vS "self" 1609), (vS "other" 1610)], o11, fN (dC 30 1) "EqualityExpression._is_alike", o1041, fO (dC 30 1) "EqualityExpression._is_alike" .none w0 1041, o11, oB, tU [(vS "self" 1617)], o11, fN (dC 30 2) "EqualityExpression.getOp", o1048, fO (dC 30 2) "EqualityExpression.getOp" .none w0 1048, o11, o1051 P, o1052, ⟨(.type "super"), none, (.fields #[(r 1052), (r 1052), (r 1052)]), #[]⟩, ⟨(.type "builtin_function_or_method"), none, (.fields #[(.builtin "object.__init_subclass__"), (r 1052)]), #[]⟩, o11, oB, tU [(vS "expr" 1628), (vS "letters" 1629), (vS "sign" 1630)], o11, fN (dT 31) "_is_letter_and_digits", o1060, fO (dT 31) "_is_letter_and_digits" .none w0 1060, o11, oB, tU [(vS "expr" 1637)], o11, fN (dT 32) "is_indvar", o1067, fO (dT 32) "is_indvar" .none w0 1067, o11, oB, tU [(vS "expr" 1644)], o11, fN (dT 33) "is_funcvar", o1074, fO (dT 33) "is_funcvar" .none w0 1074, o11, oB, tU [(vS "expr" 1651)], o11, fN (dT 34) "is_eventvar", o1081, fO (dT 34) "is_eventvar" .none w0 1081, o11, o23, o1085 P, o11, nO [(vI 553), (vI 4), (r 1096), (vI 559), (vI 4), (r 1103), (vI 581), (vI 4), (r 1110), (vI 585), (vI 4), (r 1117), (vI 588), (vI 4), (r 1124), (vI 596), (vI 4), (r 1131)], kO "BindingDict" "BindingDict" 1659 551 0 0 1086 false 1087 .none .none .none .none 1662 551, ⟨(.type "frame"), none, .plain, #[(some (r 1088)), (some (r 3)), (some (r 1085)), none, (some w1), none, (some (r 0))]⟩, tU [.none], o11, oB, o1093, o11, fN (dC 36 0) "BindingDict.__init__", o1096, fO (dC 36 0) "BindingDict.__init__" (r 1090) w1 1096, o11, oB, o1100, o11, fN (dC 36 1) "BindingDict.__setitem__", o1103, fO (dC 36 1) "BindingDict.__setitem__" .none w1 1103, o11, oB, tU [(vS "self" 1693), (vS "variable" 1694)], o11, fN (dC 36 2) "BindingDict.__getitem__", o1110, fO (dC 36 2) "BindingDict.__getitem__" .none w1 1110, o11, oB, tU [(vS "self" 1701), (vS "item" 1702)], o11, fN (dC 36 3) "BindingDict.__contains__", o1117, fO (dC 36 3) "BindingDict.__contains__" .none w1 1117, o11, oB, o1121, o11, fN (dC 36 4) "BindingDict.__add__", o1124, fO (dC 36 4) "BindingDict.__add__" .none w1 1124, o11, oB, tU [(vS "self" 1719)], o11, fN (dC 36 5) "BindingDict.__len__", o1131, fO (dC 36 5) "BindingDict.__len__" .none w1 1131, tU [(vS "d" 1723)], o1134 P, o1135, o1136, o1137, ⟨(.type "super"), none, (.fields #[(r 1135), (r 1135), (r 1135)]), #[]⟩, ⟨(.type "builtin_function_or_method"), none, (.fields #[(.builtin "object.__init_subclass__"), (r 1135)]), #[]⟩] (iF 861 [o861v1] (iF 12 [nO [(vI 1), (vI 0), (r 20), (vI 5), (vI 0), (r 27), (vI 13), (vI 0), (r 56), (vI 20), (vI 0), (r 63), (vI 53), (vI 0), (r 94), (vI 69), (vI 0), (r 137), (vI 87), (vI 0), (r 144), (vI 94), (vI 0), (r 172), (vI 181), (vI 0), (r 326), (vI 192), (vI 0), (r 333), (vI 273), (vI 0), (r 431), (vI 303), (vI 0), (r 493), (vI 310), (vI 0), (r 519), (vI 317), (vI 0), (r 545), (vI 319), (vI 0), (r 557), (vI 326), (vI 0), (r 583), (vI 336), (vI 0), (r 590), (vI 382), (vI 0), (r 650), (vI 397), (vI 0), (r 683), (vI 406), (vI 0), (r 702), (vI 416), (vI 0), (r 735), (vI 428), (vI 0), (r 768), (vI 449), (vI 0), (r 822), (vI 470), (vI 0), (r 869), (vI 472), (vI 0), (r 881), (vI 488), (vI 0), (r 921), (vI 504), (vI 0), (r 961), (vI 514), (vI 0), (r 994), (vI 524), (vI 0), (r 1027), (vI 534), (vI 0), (r 1060), (vI 541), (vI 0), (r 1067), (vI 544), (vI 0), (r 1074), (vI 547), (vI 0), (r 1081), (vI 551), (vI 0), (r 1088)]] (iF 3 [o3v13 P] (T15 P))))
noncomputable def S16 (w : World) (os : OsState) : SharedT := ⟨T16 w.params, 1140, life0, #[], drawn0, 1732, os⟩
noncomputable def o2 : Obj := ⟨.none, none, (.dict #[eS P "type.__subclasses__.Exception.0" 1748 (vI 1149), eS P "type.__subclasses__.Exception.n" 1749 (vI 1)] 2), #[]⟩
def d3v14 := [eS P "__name__" 165 (vS "law_ao0014_01" 1752), eS P "__doc__" 166 .none, eS P "__package__" 167 .none, eS P "__loader__" 168 (.builtin "__main__.__loader__#opaque"), eS P "__spec__" 169 .none, eS P "__annotations__" 170 (r 6), eS P "__builtins__" 171 (r 4), eS P "__file__" 173 (cF 172), eS P "__cached__" 174 .none, eS P "_wall" 193 (r 21), eS P "Counter" 232 (r 46), eS P "_union" 242 (r 57), eS P "Tokens" 419 (r 84), eS P "Variable" 472 (r 126), eS P "unique_variable" 483 (r 138), eS P "SubstituteBindingsI" 518 (r 162), eS P "Expression" 714 (r 318), eS P "MAX_SIMPLIFY_SIZE" 716 (.int (10000) 715), eS P "_exceeds_size" 727 (r 327), eS P "ApplicationExpression" 850 (r 423), eS P "AbstractVariableExpression" 924 (r 485), eS P "IndividualVariableExpression" 954 (r 511), eS P "FunctionVariableExpression" 984 (r 537), eS P "EventVariableExpression" 1000 (r 549), eS P "ConstantExpression" 1030 (r 575), eS P "VariableExpression" 1037 (r 584), eS P "VariableBinderExpression" 1118 (r 642), eS P "LambdaExpression" 1160 (r 675), eS P "QuantifiedExpression" 1185 (r 694), eS P "ExistsExpression" 1225 (r 727), eS P "AllExpression" 1267 (r 760), eS P "NegatedExpression" 1333 (r 814), eS P "BinaryExpression" 1395 (r 861), eS P "BooleanExpression" 1411 (r 873), eS P "AndExpression" 1459 (r 913), eS P "OrExpression" 1507 (r 953), eS P "ImpExpression" 1546 (r 986), eS P "IffExpression" 1585 (r 1019), eS P "EqualityExpression" 1624 (r 1052), eS P "_is_letter_and_digits" 1633 (r 1061), eS P "is_indvar" 1640 (r 1068), eS P "is_funcvar" 1647 (r 1075), eS P "is_eventvar" 1654 (r 1082), eS P "BindingDict" 1731 (r 1135), eS P "BindingException" 1751 (r 1149), eS P "_law_box" 1762 (r 1159), eS P "_law_take" 1771 (r 1166), eS P "_law_name" 1778 (r 1173), eS P "_law_term" 1786 (r 1180), eS P "_law_formula" 1800 (r 1187), eS P "_law_thing" 1809 (r 1194), eS P "_law_true" 1821 (r 1201), eS P "_law_free" 1829 (r 1208), eS P "law" 1835 (r 1213)]
def o3v14 : Obj := dO (d3v14 P) 54
def o1142 : Obj := dO [eS P "__module__" 1739 w1, eS P "__qualname__" 1741 (vS "BindingException" 1740), eS P "__firstlineno__" 1743 (.int (598) 1742), eS P "__static_attributes__" 1744 (r 1147)] 4
def o1148 : Obj := dO [eS P "__module__" 1739 w1, eS P "__firstlineno__" 1743 (.int (598) 1742), eS P "__static_attributes__" 1744 (r 1147), eS P "__weakref__" 1746 (r 1150), eS P "__doc__" 1747 .none] 3
def o1149 : Obj := ⟨(.type "type"), none, (.cls ⟨(sS "BindingException"), [(.type "Exception")], [(r 1149), (.type "Exception"), (.type "BaseException"), (.type "object")], 1148, (sS "BindingException"), true, [], [], false, none, false⟩), #[(some (r 1140)), none, (some (vS "BindingException" 1732)), (some (vS "BindingException" 1740)), (some (.builtin "Exception.__new__")), (some (.bool true))]⟩
def o1150 : Obj := ⟨(.type "getset_descriptor"), none, (.fields #[(vS "__weakref__" 1745), (r 1149), (.builtin "ExceptionGroup.__weakref__"), .none]), #[]⟩
def o1158 : Obj := kO "_law_box" "_law_box" 1754 601 2 3 1153 true 1154 .none (r 1155) (r 1156) (r 1157) 1760 601
def o1165 : Obj := kO "_law_take" "_law_take" 1763 606 2 3 1160 true 1161 .none (r 1162) (r 1163) (r 1164) 1769 606
def o1172 : Obj := kO "_law_name" "_law_name" 1772 610 1 3 1167 true 1168 .none (r 1169) (r 1170) (r 1171) 1776 610
def o1179 : Obj := kO "_law_term" "_law_term" 1779 612 1 3 1174 true 1175 .none (r 1176) (r 1177) (r 1178) 1784 612
def o1183 : Obj := tU [(vS "box" 1790), (vS "most" 1791), (vS "pick" 1792), (vS "variable" 1793), (vS "inner" 1794), (vS "first" 1795), (vS "left" 1796), (vS "right" 1797)]
def o1186 : Obj := kO "_law_formula" "_law_formula" 1787 617 2 3 1181 true 1182 .none (r 1183) (r 1184) (r 1185) 1798 617
def o1193 : Obj := kO "_law_thing" "_law_thing" 1801 636 3 3 1188 true 1189 .none (r 1190) (r 1191) (r 1192) 1807 636
def o1197 : Obj := tU [(vS "e" 1813), (vS "place" 1814), (vS "world" 1815), (vS "told" 1816), (vS "thing" 1817), (vS "inner" 1818)]
def o1200 : Obj := kO "_law_true" "_law_true" 1810 642 3 3 1195 true 1196 .none (r 1197) (r 1198) (r 1199) 1819 642
def o1207 : Obj := kO "_law_free" "_law_free" 1822 664 2 3 1202 true 1203 .none (r 1204) (r 1205) (r 1206) 1827 664
def o1212 : Obj := kO "law" "law" 1830 674 1 3 1209 true 1210 .none .none .none (r 1211) 1833 674
noncomputable def T17 (P : Params) : BT := iF 1140 [tU [(.type "Exception")], o23, o1142 P, o11, oB, kO "BindingException" "BindingException" 1734 598 0 0 1143 false 1144 .none .none .none .none 1737 598, ⟨(.type "frame"), none, .plain, #[(some (r 1145)), (some (r 3)), (some (r 1142)), none, (some w1), none, (some (r 0))]⟩, o11, o1148 P, o1149, o1150, ⟨(.type "super"), none, (.fields #[(r 1149), (r 1149), (r 1149)]), #[]⟩, ⟨(.type "builtin_function_or_method"), none, (.fields #[(.builtin "object.__init_subclass__"), (r 1149)]), #[]⟩, o11, oB, tU [(vS "script" 1757), (vS "k" 1758), (vS "cell" 1759)], o11, fN (dT 39) "_law_box", o1158, fO (dT 39) "_law_box" .none (vS "law_ao0014_01" 1752) 1158, o11, oB, tU [(vS "box" 1766), (vS "many" 1767), (vS "told" 1768)], o11, fN (dT 40) "_law_take", o1165, fO (dT 40) "_law_take" .none (vS "law_ao0014_01" 1752) 1165, o11, oB, tU [(vS "name" 1775)], o11, fN (dT 41) "_law_name", o1172, fO (dT 41) "_law_name" .none (vS "law_ao0014_01" 1752) 1172, o11, oB, tU [(vS "box" 1782), (vS "made" 1783)], o11, fN (dT 42) "_law_term", o1179, fO (dT 42) "_law_term" .none (vS "law_ao0014_01" 1752) 1179, o11, oB, o1183, o11, fN (dT 43) "_law_formula", o1186, fO (dT 43) "_law_formula" .none (vS "law_ao0014_01" 1752) 1186, o11, oB, tU [(vS "e" 1804), (vS "place" 1805), (vS "world" 1806)], o11, fN (dT 44) "_law_thing", o1193, fO (dT 44) "_law_thing" .none (vS "law_ao0014_01" 1752) 1193, o11, oB, o1197, o11, fN (dT 45) "_law_true", o1200, fO (dT 45) "_law_true" .none (vS "law_ao0014_01" 1752) 1200, o11, oB, tU [(vS "e" 1825), (vS "bound" 1826)], o11, fN (dT 46) "_law_free", o1207, fO (dT 46) "_law_free" .none (vS "law_ao0014_01" 1752) 1207, o11, oB, fN (dT 47) "law", o1212, fO (dT 47) "law" .none (vS "law_ao0014_01" 1752) 1212] (iF 12 [nO [(vI 1), (vI 0), (r 20), (vI 5), (vI 0), (r 27), (vI 13), (vI 0), (r 56), (vI 20), (vI 0), (r 63), (vI 53), (vI 0), (r 94), (vI 69), (vI 0), (r 137), (vI 87), (vI 0), (r 144), (vI 94), (vI 0), (r 172), (vI 181), (vI 0), (r 326), (vI 192), (vI 0), (r 333), (vI 273), (vI 0), (r 431), (vI 303), (vI 0), (r 493), (vI 310), (vI 0), (r 519), (vI 317), (vI 0), (r 545), (vI 319), (vI 0), (r 557), (vI 326), (vI 0), (r 583), (vI 336), (vI 0), (r 590), (vI 382), (vI 0), (r 650), (vI 397), (vI 0), (r 683), (vI 406), (vI 0), (r 702), (vI 416), (vI 0), (r 735), (vI 428), (vI 0), (r 768), (vI 449), (vI 0), (r 822), (vI 470), (vI 0), (r 869), (vI 472), (vI 0), (r 881), (vI 488), (vI 0), (r 921), (vI 504), (vI 0), (r 961), (vI 514), (vI 0), (r 994), (vI 524), (vI 0), (r 1027), (vI 534), (vI 0), (r 1060), (vI 541), (vI 0), (r 1067), (vI 544), (vI 0), (r 1074), (vI 547), (vI 0), (r 1081), (vI 551), (vI 0), (r 1088), (vI 598), (vI 0), (r 1145), (vI 601), (vI 0), (r 1158), (vI 606), (vI 0), (r 1165), (vI 610), (vI 0), (r 1172), (vI 612), (vI 0), (r 1179), (vI 617), (vI 0), (r 1186), (vI 636), (vI 0), (r 1193), (vI 642), (vI 0), (r 1200), (vI 664), (vI 0), (r 1207), (vI 674), (vI 0), (r 1212)]] (iF 2 [o2 P, o3v14 P] (T16 P)))
noncomputable def S17 (w : World) (os : OsState) : SharedT := ⟨T17 w.params, 1214, life0, #[], drawn0, 1836, os⟩
end
end Mine
end
section
set_option maxRecDepth 1000000
set_option maxHeartbeats 0
namespace Mine
section
abbrev m0 : Nat := 11
abbrev ann0 : Option Value := some (.ref 6)
noncomputable def env0 : Env := { scope := pw.main.scope, locals := mainNs, globals := mainNs, cells := [], code := .ref 13, frame := some 14 }
abbrev q0 : Pos := ⟨0, 0, 0, 0⟩
noncomputable def rst (i : Nat) : List Stmt := (behindTheImports pw).drop i
noncomputable def sts (i n : Nat) : List Stmt := (rst i).take n
noncomputable abbrev twSeg := PySem.W.Fast.tw10110043849684766642
noncomputable abbrev twTab := PySem.W.Fast.tw14364793385576792824
theorem pc3 (w : World) (p : Program) (b : List Stmt) (os : OsState) : twSeg twTab p w m0 ann0 1 326 (S2 w os) (piecesOf (sts 0 4) env0 (.body b env0) ⟨0, 0, 0, 0⟩ [topFrame q0]) = some (.next, S3 w os, .body b env0, ⟨13, 0, 19, 16⟩) := by kernel_rfl
theorem pc4 (w : World) (p : Program) (b : List Stmt) (os : OsState) : twSeg twTab p w m0 ann0 1 654 (S3 w os) (piecesOf (sts 4 1) env0 (.body b env0) ⟨13, 0, 19, 16⟩ [topFrame q0]) = some (.next, S4 w os, .body b env0, ⟨20, 0, 52, 128⟩) := by kernel_rfl
theorem pc5 (w : World) (p : Program) (b : List Stmt) (os : OsState) : twSeg twTab p w m0 ann0 1 610 (S4 w os) (piecesOf (sts 5 3) env0 (.body b env0) ⟨20, 0, 52, 128⟩ [topFrame q0]) = some (.next, S5 w os, .body b env0, ⟨87, 0, 93, 35⟩) := by kernel_rfl
theorem pc6 (w : World) (p : Program) (b : List Stmt) (os : OsState) : twSeg twTab p w m0 ann0 1 997 (S5 w os) (piecesOf (sts 8 1) env0 (.body b env0) ⟨87, 0, 93, 35⟩ [topFrame q0]) = some (.next, S6 w os, .body b env0, ⟨94, 0, 179, 43⟩) := by kernel_rfl
theorem pc7 (w : World) (p : Program) (b : List Stmt) (os : OsState) : twSeg twTab p w m0 ann0 1 783 (S6 w os) (piecesOf (sts 9 3) env0 (.body b env0) ⟨94, 0, 179, 43⟩ [topFrame q0]) = some (.next, S7 w os, .body b env0, ⟨192, 0, 272, 64⟩) := by kernel_rfl
theorem pc8 (w : World) (p : Program) (b : List Stmt) (os : OsState) : twSeg twTab p w m0 ann0 1 761 (S7 w os) (piecesOf (sts 12 2) env0 (.body b env0) ⟨192, 0, 272, 64⟩ [topFrame q0]) = some (.next, S8 w os, .body b env0, ⟨303, 0, 309, 17⟩) := by kernel_rfl
theorem pc9 (w : World) (p : Program) (b : List Stmt) (os : OsState) : twSeg twTab p w m0 ann0 1 889 (S8 w os) (piecesOf (sts 14 4) env0 (.body b env0) ⟨303, 0, 309, 17⟩ [topFrame q0]) = some (.next, S9 w os, .body b env0, ⟨326, 0, 335, 43⟩) := by kernel_rfl
theorem pc10 (w : World) (p : Program) (b : List Stmt) (os : OsState) : twSeg twTab p w m0 ann0 1 802 (S9 w os) (piecesOf (sts 18 2) env0 (.body b env0) ⟨326, 0, 335, 43⟩ [topFrame q0]) = some (.next, S10 w os, .body b env0, ⟨382, 0, 396, 97⟩) := by kernel_rfl
theorem pc11 (w : World) (p : Program) (b : List Stmt) (os : OsState) : twSeg twTab p w m0 ann0 1 624 (S10 w os) (piecesOf (sts 20 2) env0 (.body b env0) ⟨382, 0, 396, 97⟩ [topFrame q0]) = some (.next, S11 w os, .body b env0, ⟨406, 0, 415, 28⟩) := by kernel_rfl
theorem pc12 (w : World) (p : Program) (b : List Stmt) (os : OsState) : twSeg twTab p w m0 ann0 1 802 (S11 w os) (piecesOf (sts 22 2) env0 (.body b env0) ⟨406, 0, 415, 28⟩ [topFrame q0]) = some (.next, S12 w os, .body b env0, ⟨428, 0, 448, 44⟩) := by kernel_rfl
theorem pc13 (w : World) (p : Program) (b : List Stmt) (os : OsState) : twSeg twTab p w m0 ann0 1 639 (S12 w os) (piecesOf (sts 24 2) env0 (.body b env0) ⟨428, 0, 448, 44⟩ [topFrame q0]) = some (.next, S13 w os, .body b env0, ⟨470, 0, 471, 8⟩) := by kernel_rfl
theorem pc14 (w : World) (p : Program) (b : List Stmt) (os : OsState) : twSeg twTab p w m0 ann0 1 765 (S13 w os) (piecesOf (sts 26 2) env0 (.body b env0) ⟨470, 0, 471, 8⟩ [topFrame q0]) = some (.next, S14 w os, .body b env0, ⟨488, 0, 503, 16⟩) := by kernel_rfl
theorem pc15 (w : World) (p : Program) (b : List Stmt) (os : OsState) : twSeg twTab p w m0 ann0 1 699 (S14 w os) (piecesOf (sts 28 2) env0 (.body b env0) ⟨488, 0, 503, 16⟩ [topFrame q0]) = some (.next, S15 w os, .body b env0, ⟨514, 0, 523, 25⟩) := by kernel_rfl
theorem pc16 (w : World) (p : Program) (b : List Stmt) (os : OsState) : twSeg twTab p w m0 ann0 1 852 (S15 w os) (piecesOf (sts 30 7) env0 (.body b env0) ⟨514, 0, 523, 25⟩ [topFrame q0]) = some (.next, S16 w os, .body b env0, ⟨551, 0, 597, 26⟩) := by kernel_rfl
theorem pc17 (w : World) (p : Program) (b : List Stmt) (os : OsState) : twSeg twTab p w m0 ann0 1 484 (S16 w os) (piecesOf (sts 37 11) env0 (.body b env0) ⟨551, 0, 597, 26⟩ [topFrame q0]) = some (.next, S17 w os, .body b env0, ⟨674, 0, 708, 25⟩) := by kernel_rfl
end
end Mine
end
section
set_option maxRecDepth 1000000
set_option maxHeartbeats 0
namespace Mine
section
theorem te_seg : @segRunT = twSeg := PySem.W.Fast.te10110043849684766642
theorem te_tab : treeTable = twTab := PySem.W.Fast.te14364793385576792824
noncomputable abbrev twGo := PySem.W.Fast.tw15667345088766844465
theorem te_go : @topGo = twGo := PySem.W.Fast.te15667345088766844465
noncomputable abbrev twDen := PySem.W.Fast.tw11892475500146522536
theorem te_den : @denote = twDen := PySem.W.Fast.te11892475500146522536
noncomputable abbrev twTop := PySem.W.Fast.tw14082659384304107361
theorem te_top : @topRun = twTop := PySem.W.Fast.te14082659384304107361
noncomputable abbrev twSR := PySem.W.Fast.tw14374325043358763698
theorem te_sr : @segRun = twSR := PySem.W.Fast.te14374325043358763698
theorem seg_tw {p : Program} {w : World} {n : Nat} {s : SharedT} {t : Thread} {r : Flow × SharedT × Code × Pos} (h : twSeg twTab p w m0 ann0 1 n s t = some r) : segRunT treeTable p w m0 ann0 1 n s t = some r := by
 rw [te_seg, te_tab]; exact h
theorem sts_app (i n : Nat) : sts i n ++ rst (i + n) = rst i := by
 unfold sts rst
 rw [← List.drop_drop]; exact List.take_append_drop ..
theorem rst_end : rst 48 = [] := by kernel_rfl
noncomputable abbrev bE := behindTheImports pw
noncomputable abbrev cE : Code := .body bE env0
theorem pl {w : World} {n N : Nat} {s s' : SharedT} {R : Shared} (i m : Nat) {pos pos' : Pos} (h : ∀ p b, twSeg twTab p w m0 ann0 1 n s (piecesOf (sts i m) env0 (.body b env0) pos [topFrame q0]) = some (.next, s', .body b env0, pos'))
  (k : topRun treeTable pw w m0 ann0 N s'.abs (restOf (rst (i + m)) env0 cE pos' [topFrame q0]) = some R) : topRun treeTable pw w m0 ann0 (n + N) s.abs (restOf (rst i) env0 cE pos [topFrame q0]) = some R := by
 have := piece_app (segRun_of (seg_tw (h pw bE))) k
 rwa [sts_app] at this
theorem fin0 (w : World) (os : OsState) : topRun treeTable pw w m0 ann0 2 (S17 w os).abs (restOf (rst 48) env0 cE ⟨674, 0, 708, 25⟩ [topFrame q0]) = some (S17 w os).abs := by
 rw [rst_end, te_top, te_tab]; kernel_rfl
theorem chain0 (w : World) (os : OsState) : topRun treeTable pw w m0 ann0 (326 + (654 + (610 + (997 + (783 + (761 + (889 + (802 + (624 + (802 + (639 + (765 + (699 + (852 + (484 + 2))))))))))))))) (S2 w os).abs (restOf (rst 0) env0 cE ⟨0, 0, 0, 0⟩ [topFrame q0]) = some (S17 w os).abs :=
 pl 0 4 (fun p b => pc3 w p b os) (pl 4 1 (fun p b => pc4 w p b os) (pl 5 3 (fun p b => pc5 w p b os) (pl 8 1 (fun p b => pc6 w p b os) (pl 9 3 (fun p b => pc7 w p b os) (pl 12 2 (fun p b => pc8 w p b os) (pl 14 4 (fun p b => pc9 w p b os) (pl 18 2 (fun p b => pc10 w p b os) (pl 20 2 (fun p b => pc11 w p b os) (pl 22 2 (fun p b => pc12 w p b os) (pl 24 2 (fun p b => pc13 w p b os) (pl 26 2 (fun p b => pc14 w p b os) (pl 28 2 (fun p b => pc15 w p b os) (pl 30 7 (fun p b => pc16 w p b os) (pl 37 11 (fun p b => pc17 w p b os) (fin0 w os)))))))))))))))
theorem block0 (w : World) (os : OsState) : segRun treeTable pw w m0 ann0 1 1 (S2 w os).abs (blockOf bE env0 cE ⟨0, 0, 0, 0⟩ [topFrame q0]) = some (.next, (S2 w os).abs, cE, ⟨0, 0, 0, 0⟩) := by
 rw [te_sr, te_tab]; kernel_rfl
theorem pre0 (w : World) (os : OsState) : topGo treeTable pw w m0 ann0 12 ⟨boot_heap w.params, #[], boot_drawn, boot_toks, os⟩ (topStub pw) = some ((S2 w os).abs, ⟨denote treeTable cE, cE, ⟨0, 0, 0, 0⟩, [topFrame q0]⟩) := by
 rw [te_go, te_den, te_tab]; kernel_rfl
theorem run0 (w : World) (os : OsState) : topRun treeTable pw w m0 ann0 (12 + (1 + (326 + (654 + (610 + (997 + (783 + (761 + (889 + (802 + (624 + (802 + (639 + (765 + (699 + (852 + (484 + 2))))))))))))))))) ⟨boot_heap w.params, #[], boot_drawn, boot_toks, os⟩ (topStub pw) = some (S17 w os).abs :=
 go_top (pre0 w os) (piece_block (block0 w os) (chain0 w os))
noncomputable def H1 (P : Params) : Heap := absHeap (T17 P) 1214 life0
noncomputable def hd.heap_39 (P : Params) : Frag := (nat_lit 2, o2 P) :: (nat_lit 3, o3v14 P) :: (nat_lit 15, o11) :: (nat_lit 17, tU [(vS "k" 190)]) :: (nat_lit 18, o11) :: (nat_lit 20, o20) :: (nat_lit 21, fO (dT 0) "_wall" .none (vS "__main__" 164) 20) :: (nat_lit 29, tU [(.int (0) 208)]) :: (nat_lit 30, o11) :: (nat_lit 32, tU [(vS "self" 212), (vS "initial_value" 213)]) :: (nat_lit 33, o11) :: (nat_lit 35, o35) :: (nat_lit 36, fO (dC 2 0) "Counter.__init__" (r 29) w0 35) :: (nat_lit 37, o11) :: (nat_lit 39, tU [(vS "self" 220)]) :: (nat_lit 40, o11) :: (nat_lit 42, o42) :: (nat_lit 43, fO (dC 2 1) "Counter.get" .none w0 42) :: (nat_lit 44, tU [(vS "_value" 224)]) :: (nat_lit 45, o45 P) :: (nat_lit 46, o46) :: (nat_lit 47, o47) :: (nat_lit 48, o48) :: (nat_lit 51, o11) :: (nat_lit 53, o53) :: (nat_lit 54, o11) :: (nat_lit 56, o56) :: (nat_lit 57, fO (dT 3) "_union" .none w0 56) :: (nat_lit 65, ⟨(.type "list"), none, (.seq #[(vS "\\" 257)] 0), #[]⟩) :: (nat_lit 66, o66) :: (nat_lit 67, o67) :: (nat_lit 68, ⟨(.type "list"), none, (.seq #[(vS "iota" 272)] 0), #[]⟩) :: (nat_lit 69, o69) :: (nat_lit 70, o70) :: (nat_lit 71, o71) :: (nat_lit 72, o72) :: (nat_lit 73, o73) :: (nat_lit 74, o74) :: (nat_lit 75, ⟨(.type "list"), none, (.seq #[(vS "!=" 318)] 0), #[]⟩) :: (nat_lit 76, o76) :: (nat_lit 77, o77) :: (nat_lit 78, o78) :: (nat_lit 79, o79) :: (nat_lit 80, o80) :: (nat_lit 81, o81) :: (nat_lit 82, o11) :: (nat_lit 83, o83 P) :: (nat_lit 84, o84) :: (nat_lit 85, o85) :: (nat_lit 86, o86) :: (nat_lit 96, o11) :: (nat_lit 98, tU [(vS "self" 435), (vS "name" 436)]) :: (nat_lit 99, o11) :: (nat_lit 101, o101) :: (nat_lit 102, fO (dC 5 0) "Variable.__init__" .none w0 101) :: (nat_lit 103, o11) :: (nat_lit 105, tU [(vS "self" 443), (vS "other" 444)]) :: (nat_lit 106, o11) :: (nat_lit 108, o108) :: (nat_lit 109, fO (dC 5 1) "Variable.__eq__" .none w0 108) :: (nat_lit 110, o11) :: (nat_lit 112, tU [(vS "self" 451), (vS "other" 452)]) :: (nat_lit 113, o11) :: (nat_lit 115, o115) :: (nat_lit 116, fO (dC 5 2) "Variable.__lt__" .none w0 115) :: (nat_lit 117, o11) :: (nat_lit 119, tU [(vS "self" 459)]) :: (nat_lit 120, o11) :: (nat_lit 122, o122) :: (nat_lit 123, fO (dC 5 3) "Variable.__str__" .none w0 122) :: (nat_lit 124, tU [(vS "name" 463)]) :: (nat_lit 125, o125 P) :: (nat_lit 126, o126) :: (nat_lit 127, o127) :: (nat_lit 128, o128) :: (nat_lit 131, tU [.none, .none, .none]) :: (nat_lit 132, o11) :: (nat_lit 134, o134) :: (nat_lit 135, o11) :: (nat_lit 137, o137) :: (nat_lit 138, fO (dT 6) "unique_variable" (r 131) w0 137) :: (nat_lit 146, o11) :: (nat_lit 148, tU [(vS "self" 499), (vS "bindings" 500)]) :: (nat_lit 149, o11) :: (nat_lit 151, o151) :: (nat_lit 152, o152) :: (nat_lit 153, o11) :: (nat_lit 155, tU [(vS "self" 507)]) :: (nat_lit 156, o11) :: (nat_lit 158, o158) :: (nat_lit 159, fO (dC 7 1) "SubstituteBindingsI.variables" .none w0 158) :: (nat_lit 160, o11) :: (nat_lit 161, o161 P) :: (nat_lit 162, o162v1) :: (nat_lit 163, o163) :: (nat_lit 164, o164) :: (nat_lit 167, tU [(r 162)]) :: (nat_lit 174, o11) :: (nat_lit 176, tU [(vS "cls" 534), (vS "s" 535)]) :: (nat_lit 177, o11) :: (nat_lit 179, o179) :: (nat_lit 180, o180) :: (nat_lit 181, o181 P) :: (nat_lit 182, o182) :: (nat_lit 183, dO [] 0) :: (nat_lit 184, o11) :: (nat_lit 186, o186) :: (nat_lit 187, o11) :: (nat_lit 189, o189) :: (nat_lit 190, fO (dC 8 1) "Expression.__call__" .none w0 189) :: (nat_lit 191, o11) :: (nat_lit 193, tU [(vS "self" 565), (vS "other" 566)]) :: (nat_lit 194, o11) :: (nat_lit 196, o196) :: (nat_lit 197, fO (dC 8 2) "Expression.applyto" .none w0 196) :: (nat_lit 198, o11) :: (nat_lit 200, tU [(vS "self" 573)]) :: (nat_lit 201, o11) :: (nat_lit 203, o203) :: (nat_lit 204, fO (dC 8 3) "Expression.__neg__" .none w0 203) :: (nat_lit 205, o11) :: (nat_lit 207, tU [(vS "self" 580)]) :: (nat_lit 208, o11) :: (nat_lit 210, o210) :: (nat_lit 211, fO (dC 8 4) "Expression.negate" .none w0 210) :: (nat_lit 212, o11) :: (nat_lit 214, tU [(vS "self" 587), (vS "other" 588)]) :: (nat_lit 215, o11) :: (nat_lit 217, o217) :: (nat_lit 218, fO (dC 8 5) "Expression.__and__" .none w0 217) :: (nat_lit 219, o11) :: (nat_lit 221, tU [(vS "self" 595), (vS "other" 596)]) :: (nat_lit 222, o11) :: (nat_lit 224, o224) :: (nat_lit 225, fO (dC 8 6) "Expression.__or__" .none w0 224) :: (nat_lit 226, o11) :: (nat_lit 228, tU [(vS "self" 603), (vS "other" 604)]) :: (nat_lit 229, o11) :: (nat_lit 231, o231) :: (nat_lit 232, fO (dC 8 7) "Expression.__gt__" .none w0 231) :: (nat_lit 233, o11) :: (nat_lit 235, tU [(vS "self" 611), (vS "other" 612)]) :: (nat_lit 236, o11) :: (nat_lit 238, o238) :: (nat_lit 239, fO (dC 8 8) "Expression.__lt__" .none w0 238) :: (nat_lit 240, o11) :: (nat_lit 242, tU [(vS "self" 619), (vS "other" 620)]) :: (nat_lit 243, o11) :: (nat_lit 245, o245) :: (nat_lit 246, fO (dC 8 9) "Expression.__eq__" .none w0 245) :: (nat_lit 247, o11) :: (nat_lit 249, o249) :: (nat_lit 250, o11) :: (nat_lit 252, o252) :: (nat_lit 253, fO (dC 8 10) "Expression.substitute_bindings" .none w0 252) :: (nat_lit 254, o254) :: (nat_lit 255, o11) :: (nat_lit 257, o257) :: (nat_lit 258, o258) :: (nat_lit 260, o260) :: (nat_lit 261, fO (dC 8 11) "Expression.replace" (r 254) w0 260) :: (nat_lit 262, o11) :: (nat_lit 264, o264) :: (nat_lit 265, o11) :: (nat_lit 267, o267) :: (nat_lit 268, fO (dC 8 12) "Expression.visit" .none w0 267) :: (nat_lit 269, o11) :: (nat_lit 271, tU [(vS "self" 662), (vS "function" 663)]) :: (nat_lit 272, tU [(vS "self" 664)]) :: (nat_lit 274, o274) :: (nat_lit 275, fO (dC 8 13) "Expression.visit_structured" .none w0 274) :: (nat_lit 276, o11) :: (nat_lit 279, o279) :: (nat_lit 280, fO (dC 8 14) "Expression.variables" .none w0 279) :: (nat_lit 281, o11) :: (nat_lit 283, tU [(vS "self" 677)]) :: (nat_lit 284, o11) :: (nat_lit 286, o286) :: (nat_lit 287, fO (dC 8 15) "Expression.free" .none w0 286) :: (nat_lit 288, o11) :: (nat_lit 290, tU [(vS "self" 684)]) :: (nat_lit 291, o11) :: (nat_lit 293, o293) :: (nat_lit 294, fO (dC 8 16) "Expression.constants" .none w0 293) :: (nat_lit 295, o11) :: (nat_lit 297, tU [(vS "self" 691)]) :: (nat_lit 298, o11) :: (nat_lit 300, o300) :: (nat_lit 301, fO (dC 8 17) "Expression.predicates" .none w0 300) :: (nat_lit 302, o11) :: (nat_lit 304, tU [(vS "self" 698)]) :: (nat_lit 305, o11) :: (nat_lit 307, o307) :: (nat_lit 308, fO (dC 8 18) "Expression.simplify" .none w0 307) :: (nat_lit 309, o11) :: (nat_lit 311, tU [(vS "self" 705), (vS "variable" 706)]) :: (nat_lit 312, o11) :: (nat_lit 314, o314) :: (nat_lit 315, fO (dC 8 19) "Expression.make_VariableExpression" .none w0 314) :: (nat_lit 316, o11) :: (nat_lit 317, o317 P) :: (nat_lit 318, o318v5) :: (nat_lit 321, o11) :: (nat_lit 323, o323) :: (nat_lit 324, tU [(vS "stack" 724)]) :: (nat_lit 326, o326) :: (nat_lit 327, fO (dT 10) "_exceeds_size" .none w0 326) :: (nat_lit 328, o328) :: (nat_lit 335, o11) :: (nat_lit 337, tU [(vS "self" 743), (vS "function" 744), (vS "argument" 745)]) :: (nat_lit 338, o11) :: (nat_lit 340, o340) :: (nat_lit 341, fO (dC 11 0) "ApplicationExpression.__init__" .none w0 340) :: (nat_lit 342, o11) :: (nat_lit 344, o344) :: (nat_lit 345, o11) :: (nat_lit 347, o347) :: (nat_lit 348, fO (dC 11 1) "ApplicationExpression.simplify" .none w0 347) :: (nat_lit 349, o11) :: (nat_lit 351, tU [(vS "self" 762), (vS "parts" 763)]) :: (nat_lit 352, o11) :: (nat_lit 354, o354) :: (nat_lit 355, fO (dC 11 2) "ApplicationExpression._made" .none w0 354) :: (nat_lit 356, o11) :: (nat_lit 358, tU [(vS "self" 770), (vS "function_constants" 771)]) :: (nat_lit 359, o11) :: (nat_lit 361, o361) :: (nat_lit 362, fO (dC 11 3) "ApplicationExpression.constants" .none w0 361) :: (nat_lit 363, o11) :: (nat_lit 365, tU [(vS "self" 778), (vS "function_preds" 779)]) :: (nat_lit 366, o11) :: (nat_lit 368, o368) :: (nat_lit 369, fO (dC 11 4) "ApplicationExpression.predicates" .none w0 368) :: (nat_lit 370, o11) :: (nat_lit 372, o372) :: (nat_lit 373, o11) :: (nat_lit 375, o375) :: (nat_lit 376, fO (dC 11 5) "ApplicationExpression.visit" .none w0 375) :: (nat_lit 377, o11) :: (nat_lit 379, tU [(vS "self" 795), (vS "other" 796)]) :: (nat_lit 380, o11) :: (nat_lit 382, o382) :: (nat_lit 383, fO (dC 11 6) "ApplicationExpression.__eq__" .none w0 382) :: (nat_lit 384, o11) :: (nat_lit 386, o386) :: (nat_lit 387, o11) :: (nat_lit 389, o389) :: (nat_lit 390, fO (dC 11 7) "ApplicationExpression.__str__" .none w0 389) :: (nat_lit 391, o11) :: (nat_lit 393, tU [(vS "self" 815), (vS "function" 816), (vS "args" 817)]) :: (nat_lit 394, o11) :: (nat_lit 396, o396) :: (nat_lit 397, fO (dC 11 8) "ApplicationExpression.uncurry" .none w0 396) :: (nat_lit 398, o11) :: (nat_lit 400, tU [(vS "self" 824)]) :: (nat_lit 401, o11) :: (nat_lit 403, o403) :: (nat_lit 404, fO (dC 11 9) "ApplicationExpression.pred" .none w0 403) :: (nat_lit 405, o405) :: (nat_lit 406, o11) :: (nat_lit 408, tU [(vS "self" 832)]) :: (nat_lit 409, o11) :: (nat_lit 411, o411) :: (nat_lit 412, fO (dC 11 10) "ApplicationExpression.args" .none w0 411) :: (nat_lit 413, o413) :: (nat_lit 414, o11) :: (nat_lit 416, tU [(vS "self" 840)]) :: (nat_lit 417, o11) :: (nat_lit 419, o419) :: (nat_lit 420, fO (dC 11 11) "ApplicationExpression.is_atom" .none w0 419) :: (nat_lit 421, tU [(vS "argument" 844), (vS "function" 845)]) :: (nat_lit 422, o422 P) :: (nat_lit 423, o423) :: (nat_lit 426, o328) :: (nat_lit 433, o11) :: (nat_lit 435, tU [(vS "self" 866), (vS "variable" 867)]) :: (nat_lit 436, o11) :: (nat_lit 438, o438) :: (nat_lit 439, o439) :: (nat_lit 440, o11) :: (nat_lit 442, tU [(vS "self" 874)]) :: (nat_lit 443, o11) :: (nat_lit 445, o445) :: (nat_lit 446, o446) :: (nat_lit 447, o254) :: (nat_lit 448, o11) :: (nat_lit 450, o450) :: (nat_lit 451, o11) :: (nat_lit 453, o453) :: (nat_lit 454, o454) :: (nat_lit 455, o11) :: (nat_lit 457, tU [(vS "self" 892)]) :: (nat_lit 458, o11) :: (nat_lit 460, o460) :: (nat_lit 461, o461) :: (nat_lit 462, o11) :: (nat_lit 464, tU [(vS "self" 899), (vS "other" 900)]) :: (nat_lit 465, o11) :: (nat_lit 467, o467) :: (nat_lit 468, fO (dC 12 4) "AbstractVariableExpression.__eq__" .none w0 467) :: (nat_lit 469, o11) :: (nat_lit 471, tU [(vS "self" 907), (vS "other" 908)]) :: (nat_lit 472, o11) :: (nat_lit 474, o474) :: (nat_lit 475, fO (dC 12 5) "AbstractVariableExpression.__lt__" .none w0 474) :: (nat_lit 476, o11) :: (nat_lit 478, tU [(vS "self" 915)]) :: (nat_lit 479, o11) :: (nat_lit 481, o481) :: (nat_lit 482, fO (dC 12 6) "AbstractVariableExpression.__str__" .none w0 481) :: (nat_lit 483, tU [(vS "variable" 919)]) :: (nat_lit 484, o484 P) :: (nat_lit 485, o485v1) :: (nat_lit 488, o488) :: (nat_lit 495, o11) :: (nat_lit 497, tU [(vS "self" 940)]) :: (nat_lit 498, o11) :: (nat_lit 500, o500) :: (nat_lit 501, fO (dC 13 0) "IndividualVariableExpression.free" .none w0 500) :: (nat_lit 502, o11) :: (nat_lit 504, tU [(vS "self" 947)]) :: (nat_lit 505, o11) :: (nat_lit 507, o507) :: (nat_lit 508, o508) :: (nat_lit 509, o11) :: (nat_lit 510, o510 P) :: (nat_lit 511, o511v1) :: (nat_lit 514, o488) :: (nat_lit 521, o11) :: (nat_lit 523, tU [(vS "self" 970)]) :: (nat_lit 524, o11) :: (nat_lit 526, o526) :: (nat_lit 527, fO (dC 14 0) "FunctionVariableExpression.free" .none w0 526) :: (nat_lit 528, o11) :: (nat_lit 530, tU [(vS "self" 977)]) :: (nat_lit 531, o11) :: (nat_lit 533, o533) :: (nat_lit 534, o534) :: (nat_lit 535, o11) :: (nat_lit 536, o536 P) :: (nat_lit 537, o537) :: (nat_lit 540, tU [(r 511)]) :: (nat_lit 547, o11) :: (nat_lit 548, o548 P) :: (nat_lit 549, o549) :: (nat_lit 552, o488) :: (nat_lit 559, o11) :: (nat_lit 561, tU [(vS "self" 1016)]) :: (nat_lit 562, o11) :: (nat_lit 564, o564) :: (nat_lit 565, fO (dC 16 0) "ConstantExpression.free" .none w0 564) :: (nat_lit 566, o11) :: (nat_lit 568, tU [(vS "self" 1023)]) :: (nat_lit 569, o11) :: (nat_lit 571, o571) :: (nat_lit 572, fO (dC 16 1) "ConstantExpression.constants" .none w0 571) :: (nat_lit 573, o11) :: (nat_lit 574, o574 P) :: (nat_lit 575, o575) :: (nat_lit 578, o11) :: (nat_lit 580, tU [(vS "variable" 1034)]) :: (nat_lit 581, o11) :: (nat_lit 583, o583) :: (nat_lit 584, fO (dT 17) "VariableExpression" .none w0 583) :: (nat_lit 585, o328) :: (nat_lit 592, o11) :: (nat_lit 594, tU [(vS "self" 1053), (vS "variable" 1054), (vS "term" 1055)]) :: (nat_lit 595, o11) :: (nat_lit 597, o597) :: (nat_lit 598, fO (dC 18 0) "VariableBinderExpression.__init__" .none w0 597) :: (nat_lit 599, o254) :: (nat_lit 600, o11) :: (nat_lit 602, o602) :: (nat_lit 603, o11) :: (nat_lit 605, o605) :: (nat_lit 606, fO (dC 18 1) "VariableBinderExpression.replace" (r 599) w0 605) :: (nat_lit 607, o11) :: (nat_lit 609, tU [(vS "self" 1075), (vS "newvar" 1076)]) :: (nat_lit 610, o11) :: (nat_lit 612, o612) :: (nat_lit 613, o613) :: (nat_lit 614, o11) :: (nat_lit 617, o617) :: (nat_lit 618, fO (dC 18 3) "VariableBinderExpression.free" .none w0 617) :: (nat_lit 619, o11) :: (nat_lit 621, o621) :: (nat_lit 622, o11) :: (nat_lit 624, o624) :: (nat_lit 625, fO (dC 18 4) "VariableBinderExpression.visit" .none w0 624) :: (nat_lit 626, o11) :: (nat_lit 628, tU [(vS "self" 1098), (vS "parts" 1099)]) :: (nat_lit 629, o11) :: (nat_lit 631, o631) :: (nat_lit 632, fO (dC 18 5) "VariableBinderExpression._made" .none w0 631) :: (nat_lit 633, o11) :: (nat_lit 635, tU [(vS "self" 1106), (vS "other" 1107), (vS "varex" 1108)]) :: (nat_lit 636, o11) :: (nat_lit 638, o638) :: (nat_lit 639, fO (dC 18 6) "VariableBinderExpression.__eq__" .none w0 638) :: (nat_lit 640, tU [(vS "term" 1112), (vS "variable" 1113)]) :: (nat_lit 641, o641 P) :: (nat_lit 642, o642v1) :: (nat_lit 645, o645) :: (nat_lit 652, o11) :: (nat_lit 654, tU [(vS "self" 1134), (vS "variable" 1135), (vS "term" 1136)]) :: (nat_lit 655, o11) :: (nat_lit 657, o657) :: (nat_lit 658, fO (dC 19 0) "LambdaExpression._binder" .none w0 657) :: (nat_lit 659, o11) :: (nat_lit 661, tU [(vS "self" 1143), (vS "other" 1144)]) :: (nat_lit 662, o11) :: (nat_lit 664, o664) :: (nat_lit 665, fO (dC 19 1) "LambdaExpression._is_alike" .none w0 664) :: (nat_lit 666, o11) :: (nat_lit 668, tU [(vS "self" 1151), (vS "variables" 1152), (vS "term" 1153)]) :: (nat_lit 669, o11) :: (nat_lit 671, o671) :: (nat_lit 672, fO (dC 19 2) "LambdaExpression.__str__" .none w0 671) :: (nat_lit 673, o11) :: (nat_lit 674, o674 P) :: (nat_lit 675, o675) :: (nat_lit 678, o645) :: (nat_lit 685, o11) :: (nat_lit 687, tU [(vS "self" 1176), (vS "variables" 1177), (vS "term" 1178)]) :: (nat_lit 688, o11) :: (nat_lit 690, o690) :: (nat_lit 691, fO (dC 20 0) "QuantifiedExpression.__str__" .none w0 690) :: (nat_lit 692, o11) :: (nat_lit 693, o693 P) :: (nat_lit 694, o694v1) :: (nat_lit 697, o697) :: (nat_lit 704, o11) :: (nat_lit 706, tU [(vS "self" 1201), (vS "variable" 1202), (vS "term" 1203)]) :: (nat_lit 707, o11) :: (nat_lit 709, o709) :: (nat_lit 710, fO (dC 21 0) "ExistsExpression._binder" .none w0 709) :: (nat_lit 711, o11) :: (nat_lit 713, tU [(vS "self" 1210), (vS "other" 1211)]) :: (nat_lit 714, o11) :: (nat_lit 716, o716) :: (nat_lit 717, fO (dC 21 1) "ExistsExpression._is_alike" .none w0 716) :: (nat_lit 718, o11) :: (nat_lit 720, tU [(vS "self" 1218)]) :: (nat_lit 721, o11) :: (nat_lit 723, o723) :: (nat_lit 724, fO (dC 21 2) "ExistsExpression.getQuantifier" .none w0 723) :: (nat_lit 725, o11) :: (nat_lit 726, o726 P) :: (nat_lit 727, o727) :: (nat_lit 730, o697) :: (nat_lit 737, o11) :: (nat_lit 739, tU [(vS "self" 1243), (vS "variable" 1244), (vS "term" 1245)]) :: (nat_lit 740, o11) :: (nat_lit 742, o742) :: (nat_lit 743, fO (dC 22 2) "AllExpression._binder" .none w0 742) :: (nat_lit 744, o11) :: (nat_lit 746, tU [(vS "self" 1252), (vS "other" 1253)]) :: (nat_lit 747, o11) :: (nat_lit 749, o749) :: (nat_lit 750, fO (dC 22 3) "AllExpression._is_alike" .none w0 749) :: (nat_lit 751, o11) :: (nat_lit 753, tU [(vS "self" 1260)]) :: (nat_lit 754, o11) :: (nat_lit 756, o756) :: (nat_lit 757, fO (dC 22 4) "AllExpression.getQuantifier" .none w0 756) :: (nat_lit 758, o11) :: (nat_lit 759, o759 P) :: (nat_lit 760, o760) :: (nat_lit 763, o328) :: (nat_lit 770, o11) :: (nat_lit 772, tU [(vS "self" 1284), (vS "term" 1285)]) :: (nat_lit 773, o11) :: (nat_lit 775, o775) :: (nat_lit 776, fO (dC 23 1) "NegatedExpression.__init__" .none w0 775) :: (nat_lit 777, o11) :: (nat_lit 779, tU [(vS "self" 1292), (vS "parts" 1293)]) :: (nat_lit 780, o11) :: (nat_lit 782, o782) :: (nat_lit 783, fO (dC 23 2) "NegatedExpression._made" .none w0 782) :: (nat_lit 784, o11) :: (nat_lit 786, o786) :: (nat_lit 787, o11) :: (nat_lit 789, o789) :: (nat_lit 790, fO (dC 23 3) "NegatedExpression.visit" .none w0 789) :: (nat_lit 791, o11) :: (nat_lit 793, tU [(vS "self" 1309)]) :: (nat_lit 794, o11) :: (nat_lit 796, o796) :: (nat_lit 797, fO (dC 23 4) "NegatedExpression.negate" .none w0 796) :: (nat_lit 798, o11) :: (nat_lit 800, tU [(vS "self" 1316), (vS "other" 1317)]) :: (nat_lit 801, o11) :: (nat_lit 803, o803) :: (nat_lit 804, fO (dC 23 5) "NegatedExpression.__eq__" .none w0 803) :: (nat_lit 805, o11) :: (nat_lit 807, tU [(vS "self" 1324)]) :: (nat_lit 808, o11) :: (nat_lit 810, o810) :: (nat_lit 811, fO (dC 23 6) "NegatedExpression.__str__" .none w0 810) :: (nat_lit 812, tU [(vS "term" 1328)]) :: (nat_lit 813, o813 P) :: (nat_lit 814, o814) :: (nat_lit 817, o328) :: (nat_lit 824, o11) :: (nat_lit 826, tU [(vS "self" 1349), (vS "first" 1350), (vS "second" 1351)]) :: (nat_lit 827, o11) :: (nat_lit 829, o829) :: (nat_lit 830, fO (dC 24 0) "BinaryExpression.__init__" .none w0 829) :: (nat_lit 831, o11) :: (nat_lit 833, o833) :: (nat_lit 834, o11) :: (nat_lit 836, o836) :: (nat_lit 837, fO (dC 24 1) "BinaryExpression.visit" .none w0 836) :: (nat_lit 838, o11) :: (nat_lit 840, tU [(vS "self" 1367), (vS "other" 1368)]) :: (nat_lit 841, o11) :: (nat_lit 843, o843) :: (nat_lit 844, fO (dC 24 2) "BinaryExpression.__eq__" .none w0 843) :: (nat_lit 845, o11) :: (nat_lit 847, tU [(vS "self" 1375), (vS "first" 1376), (vS "second" 1377)]) :: (nat_lit 848, o11) :: (nat_lit 850, o850) :: (nat_lit 851, fO (dC 24 3) "BinaryExpression.__str__" .none w0 850) :: (nat_lit 852, o11) :: (nat_lit 854, tU [(vS "self" 1384), (vS "subex" 1385)]) :: (nat_lit 855, o11) :: (nat_lit 857, o857) :: (nat_lit 858, fO (dC 24 4) "BinaryExpression._str_subex" .none w0 857) :: (nat_lit 859, tU [(vS "first" 1389), (vS "second" 1390)]) :: (nat_lit 860, o860 P) :: (nat_lit 861, o861v1) :: (nat_lit 864, o864) :: (nat_lit 871, o11) :: (nat_lit 872, o872 P) :: (nat_lit 873, o873v2) :: (nat_lit 876, o876) :: (nat_lit 883, o11) :: (nat_lit 885, tU [(vS "self" 1427), (vS "parts" 1428)]) :: (nat_lit 886, o11) :: (nat_lit 888, o888) :: (nat_lit 889, fO (dC 26 0) "AndExpression._made" .none w0 888) :: (nat_lit 890, o11) :: (nat_lit 892, tU [(vS "self" 1435), (vS "other" 1436)]) :: (nat_lit 893, o11) :: (nat_lit 895, o895) :: (nat_lit 896, fO (dC 26 1) "AndExpression._is_alike" .none w0 895) :: (nat_lit 897, o11) :: (nat_lit 899, tU [(vS "self" 1443)]) :: (nat_lit 900, o11) :: (nat_lit 902, o902) :: (nat_lit 903, fO (dC 26 2) "AndExpression.getOp" .none w0 902) :: (nat_lit 904, o11) :: (nat_lit 906, tU [(vS "self" 1450), (vS "subex" 1451), (vS "s" 1452)]) :: (nat_lit 907, o11) :: (nat_lit 909, o909) :: (nat_lit 910, fO (dC 26 3) "AndExpression._str_subex" .none w0 909) :: (nat_lit 911, o11) :: (nat_lit 912, o912 P) :: (nat_lit 913, o913) :: (nat_lit 916, o876) :: (nat_lit 923, o11) :: (nat_lit 925, tU [(vS "self" 1475), (vS "parts" 1476)]) :: (nat_lit 926, o11) :: (nat_lit 928, o928) :: (nat_lit 929, fO (dC 27 0) "OrExpression._made" .none w0 928) :: (nat_lit 930, o11) :: (nat_lit 932, tU [(vS "self" 1483), (vS "other" 1484)]) :: (nat_lit 933, o11) :: (nat_lit 935, o935) :: (nat_lit 936, fO (dC 27 1) "OrExpression._is_alike" .none w0 935) :: (nat_lit 937, o11) :: (nat_lit 939, tU [(vS "self" 1491)]) :: (nat_lit 940, o11) :: (nat_lit 942, o942) :: (nat_lit 943, fO (dC 27 2) "OrExpression.getOp" .none w0 942) :: (nat_lit 944, o11) :: (nat_lit 946, tU [(vS "self" 1498), (vS "subex" 1499), (vS "s" 1500)]) :: (nat_lit 947, o11) :: (nat_lit 949, o949) :: (nat_lit 950, fO (dC 27 3) "OrExpression._str_subex" .none w0 949) :: (nat_lit 951, o11) :: (nat_lit 952, o952 P) :: (nat_lit 953, o953) :: (nat_lit 956, o876) :: (nat_lit 963, o11) :: (nat_lit 965, tU [(vS "self" 1523), (vS "parts" 1524)]) :: (nat_lit 966, o11) :: (nat_lit 968, o968) :: (nat_lit 969, fO (dC 28 0) "ImpExpression._made" .none w0 968) :: (nat_lit 970, o11) :: (nat_lit 972, tU [(vS "self" 1531), (vS "other" 1532)]) :: (nat_lit 973, o11) :: (nat_lit 975, o975) :: (nat_lit 976, fO (dC 28 1) "ImpExpression._is_alike" .none w0 975) :: (nat_lit 977, o11) :: (nat_lit 979, tU [(vS "self" 1539)]) :: (nat_lit 980, o11) :: (nat_lit 982, o982) :: (nat_lit 983, fO (dC 28 2) "ImpExpression.getOp" .none w0 982) :: (nat_lit 984, o11) :: (nat_lit 985, o985 P) :: (nat_lit 986, o986) :: (nat_lit 989, o876) :: (nat_lit 996, o11) :: (nat_lit 998, tU [(vS "self" 1562), (vS "parts" 1563)]) :: (nat_lit 999, o11) :: (nat_lit 1001, o1001) :: (nat_lit 1002, fO (dC 29 0) "IffExpression._made" .none w0 1001) :: (nat_lit 1003, o11) :: (nat_lit 1005, tU [(vS "self" 1570), (vS "other" 1571)]) :: (nat_lit 1006, o11) :: (nat_lit 1008, o1008) :: (nat_lit 1009, fO (dC 29 1) "IffExpression._is_alike" .none w0 1008) :: (nat_lit 1010, o11) :: (nat_lit 1012, tU [(vS "self" 1578)]) :: (nat_lit 1013, o11) :: (nat_lit 1015, o1015) :: (nat_lit 1016, fO (dC 29 2) "IffExpression.getOp" .none w0 1015) :: (nat_lit 1017, o11) :: (nat_lit 1018, o1018 P) :: (nat_lit 1019, o1019) :: (nat_lit 1022, o864) :: (nat_lit 1029, o11) :: (nat_lit 1031, tU [(vS "self" 1601), (vS "parts" 1602)]) :: (nat_lit 1032, o11) :: (nat_lit 1034, o1034) :: (nat_lit 1035, fO (dC 30 0) "EqualityExpression._made" .none w0 1034) :: (nat_lit 1036, o11) :: (nat_lit 1038, tU [(vS "self" 1609), (vS "other" 1610)]) :: (nat_lit 1039, o11) :: (nat_lit 1041, o1041) :: (nat_lit 1042, fO (dC 30 1) "EqualityExpression._is_alike" .none w0 1041) :: (nat_lit 1043, o11) :: (nat_lit 1045, tU [(vS "self" 1617)]) :: (nat_lit 1046, o11) :: (nat_lit 1048, o1048) :: (nat_lit 1049, fO (dC 30 2) "EqualityExpression.getOp" .none w0 1048) :: (nat_lit 1050, o11) :: (nat_lit 1051, o1051 P) :: (nat_lit 1052, o1052) :: (nat_lit 1055, o11) :: (nat_lit 1057, tU [(vS "expr" 1628), (vS "letters" 1629), (vS "sign" 1630)]) :: (nat_lit 1058, o11) :: (nat_lit 1060, o1060) :: (nat_lit 1061, fO (dT 31) "_is_letter_and_digits" .none w0 1060) :: (nat_lit 1062, o11) :: (nat_lit 1064, tU [(vS "expr" 1637)]) :: (nat_lit 1065, o11) :: (nat_lit 1067, o1067) :: (nat_lit 1068, fO (dT 32) "is_indvar" .none w0 1067) :: (nat_lit 1069, o11) :: (nat_lit 1071, tU [(vS "expr" 1644)]) :: (nat_lit 1072, o11) :: (nat_lit 1074, o1074) :: (nat_lit 1075, fO (dT 33) "is_funcvar" .none w0 1074) :: (nat_lit 1076, o11) :: (nat_lit 1078, tU [(vS "expr" 1651)]) :: (nat_lit 1079, o11) :: (nat_lit 1081, o1081) :: (nat_lit 1082, fO (dT 34) "is_eventvar" .none w0 1081) :: (nat_lit 1090, tU [.none]) :: (nat_lit 1091, o11) :: (nat_lit 1093, o1093) :: (nat_lit 1094, o11) :: (nat_lit 1096, o1096) :: (nat_lit 1097, fO (dC 36 0) "BindingDict.__init__" (r 1090) w1 1096) :: (nat_lit 1098, o11) :: (nat_lit 1100, o1100) :: (nat_lit 1101, o11) :: (nat_lit 1103, o1103) :: (nat_lit 1104, fO (dC 36 1) "BindingDict.__setitem__" .none w1 1103) :: (nat_lit 1105, o11) :: (nat_lit 1107, tU [(vS "self" 1693), (vS "variable" 1694)]) :: (nat_lit 1108, o11) :: (nat_lit 1110, o1110) :: (nat_lit 1111, fO (dC 36 2) "BindingDict.__getitem__" .none w1 1110) :: (nat_lit 1112, o11) :: (nat_lit 1114, tU [(vS "self" 1701), (vS "item" 1702)]) :: (nat_lit 1115, o11) :: (nat_lit 1117, o1117) :: (nat_lit 1118, fO (dC 36 3) "BindingDict.__contains__" .none w1 1117) :: (nat_lit 1119, o11) :: (nat_lit 1121, o1121) :: (nat_lit 1122, o11) :: (nat_lit 1124, o1124) :: (nat_lit 1125, fO (dC 36 4) "BindingDict.__add__" .none w1 1124) :: (nat_lit 1126, o11) :: (nat_lit 1128, tU [(vS "self" 1719)]) :: (nat_lit 1129, o11) :: (nat_lit 1131, o1131) :: (nat_lit 1132, fO (dC 36 5) "BindingDict.__len__" .none w1 1131) :: (nat_lit 1133, tU [(vS "d" 1723)]) :: (nat_lit 1134, o1134 P) :: (nat_lit 1135, o1135) :: (nat_lit 1136, o1136) :: (nat_lit 1137, o1137) :: (nat_lit 1140, tU [(.type "Exception")]) :: (nat_lit 1147, o11) :: (nat_lit 1148, o1148 P) :: (nat_lit 1149, o1149) :: (nat_lit 1150, o1150) :: (nat_lit 1153, o11) :: (nat_lit 1155, tU [(vS "script" 1757), (vS "k" 1758), (vS "cell" 1759)]) :: (nat_lit 1156, o11) :: (nat_lit 1158, o1158) :: (nat_lit 1159, fO (dT 39) "_law_box" .none (vS "law_ao0014_01" 1752) 1158) :: (nat_lit 1160, o11) :: (nat_lit 1162, tU [(vS "box" 1766), (vS "many" 1767), (vS "told" 1768)]) :: (nat_lit 1163, o11) :: (nat_lit 1165, o1165) :: (nat_lit 1166, fO (dT 40) "_law_take" .none (vS "law_ao0014_01" 1752) 1165) :: (nat_lit 1167, o11) :: (nat_lit 1169, tU [(vS "name" 1775)]) :: (nat_lit 1170, o11) :: (nat_lit 1172, o1172) :: (nat_lit 1173, fO (dT 41) "_law_name" .none (vS "law_ao0014_01" 1752) 1172) :: (nat_lit 1174, o11) :: (nat_lit 1176, tU [(vS "box" 1782), (vS "made" 1783)]) :: (nat_lit 1177, o11) :: (nat_lit 1179, o1179) :: (nat_lit 1180, fO (dT 42) "_law_term" .none (vS "law_ao0014_01" 1752) 1179) :: (nat_lit 1181, o11) :: (nat_lit 1183, o1183) :: (nat_lit 1184, o11) :: (nat_lit 1186, o1186) :: (nat_lit 1187, fO (dT 43) "_law_formula" .none (vS "law_ao0014_01" 1752) 1186) :: (nat_lit 1188, o11) :: (nat_lit 1190, tU [(vS "e" 1804), (vS "place" 1805), (vS "world" 1806)]) :: (nat_lit 1191, o11) :: (nat_lit 1193, o1193) :: (nat_lit 1194, fO (dT 44) "_law_thing" .none (vS "law_ao0014_01" 1752) 1193) :: (nat_lit 1195, o11) :: (nat_lit 1197, o1197) :: (nat_lit 1198, o11) :: (nat_lit 1200, o1200) :: (nat_lit 1201, fO (dT 45) "_law_true" .none (vS "law_ao0014_01" 1752) 1200) :: (nat_lit 1202, o11) :: (nat_lit 1204, tU [(vS "e" 1825), (vS "bound" 1826)]) :: (nat_lit 1205, o11) :: (nat_lit 1207, o1207) :: (nat_lit 1208, fO (dT 46) "_law_free" .none (vS "law_ao0014_01" 1752) 1207) :: (nat_lit 1209, o11) :: (nat_lit 1212, o1212) :: (nat_lit 1213, fO (dT 47) "law" .none (vS "law_ao0014_01" 1752) 1212) :: []
noncomputable def aliveO (o : Obj) : Option Obj := match o with
 | ⟨_, _, .freed, _⟩ => none
 | o => some o
noncomputable def pickFrom : List Obj → Nat → List Nat → List (Option Obj)
 | [], _, _ => []
 | _ :: _, _, [] => []
 | o :: os, i, a :: as => match Nat.beq i a with
  | true => aliveO o :: pickFrom os (i + 1) as
  | false => pickFrom os (i + 1) (a :: as)
theorem pick_le : ∀ (os : List Obj) (i : Nat) (as : List Nat) (j : Nat) (a : Nat) (o : Obj), as[j]? = some a → (pickFrom os i as)[j]? = some (some o) → i ≤ a ∧ ∃ o', os[a - i]? = some o' ∧ aliveO o' = some o
 | [], _, _, _, _, _, _, h => by simp [pickFrom] at h
 | _ :: _, _, [], _, _, _, h, _ => by simp at h
 | o₁ :: os, i, b :: as, j, a, o, ha, h => by
  unfold pickFrom at h
  cases hb : Nat.beq i b with
  | true =>
   rw [hb] at h
   have e := Nat.eq_of_beq_eq_true hb
   cases j with
   | zero =>
    simp only [List.getElem?_cons_zero, Option.some.injEq] at ha h
    subst ha; subst e
    exact ⟨Nat.le_refl _, o₁, by simp, h⟩
   | succ j =>
    simp only [List.getElem?_cons_succ] at ha h
    obtain ⟨h1, o', h2, h3⟩ := pick_le os (i + 1) as j a o ha h
    refine ⟨by o_head qo, o', ?_, h3⟩
    have : a - i = (a - (i + 1)) + 1 := by o_head qo
    rw [this, List.getElem?_cons_succ]; exact h2
  | false =>
   rw [hb] at h
   obtain ⟨h1, o', h2, h3⟩ := pick_le os (i + 1) (b :: as) j a o ha h
   refine ⟨by o_head qo, o', ?_, h3⟩
   have : a - i = (a - (i + 1)) + 1 := by o_head qo
   rw [this, List.getElem?_cons_succ]; exact h2
theorem alive_get {h : Heap} {a : Addr} {o o' : Obj} (e : h.objs.toList[a]? = some o') (k : aliveO o' = some o) : h.get? a = some o := by
 unfold Heap.get?
 have e' : h.objs[a]? = some o' := by simpa using e
 rw [e']
 obtain ⟨c, d, dt, sl⟩ := o'
 cases dt <;> first | exact k | cases k
set_option tactic.hygienic true in
theorem pick_all {h : Heap} {K : Frag} (e : pickFrom h.objs.toList 0 (K.map (·.1)) = K.map fun p => some p.2) : K.In h := by
 intro a o hl
 obtain ⟨j, hj⟩ : ∃ j : Nat, K[j]? = some (a, o) := by
  have hm : (a, o) ∈ K := by
   clear e
   induction K with
   | nil => cases hl
   | cons p r ih =>
    obtain ⟨b, x⟩ := p
    simp only [List.lookup] at hl
    split at hl
    ·rename_i q
     cases hl
     rw [beq_iff_eq.mp q]
     exact .head _
    ·exact .tail _ (ih hl)
  exact List.getElem?_of_mem hm
 have h1 : (K.map (·.1))[j]? = some a := by rw [List.getElem?_map, hj]; rfl
 have h2 : (pickFrom h.objs.toList 0 (K.map (·.1)))[j]? = some (some o) := by rw [e, List.getElem?_map, hj]; rfl
 obtain ⟨_, o', h3, h4⟩ := pick_le _ _ _ _ _ _ h1 h2
 exact alive_get h3 h4
theorem pick_tabs {h : Heap} {ts : List Addr} {o : Obj} (e : pickFrom h.objs.toList 0 ts = ts.map fun z => some o) : ∀ P ∈ ts, h.get? P = some o := by
 intro P hP
 obtain ⟨j, hj⟩ := List.getElem?_of_mem hP
 have h2 : (pickFrom h.objs.toList 0 ts)[j]? = some (some o) := by rw [e, List.getElem?_map, hj]; rfl
 obtain ⟨_, o', h3, h4⟩ := pick_le _ _ _ _ _ _ hj h2
 exact alive_get h3 h4
noncomputable def pkHook (K : Params → Frag) (as : List Addr) (e : ∀ P, as = (K P).map (·.1)) (ts : List Addr) : Hook where
 α := List (Option Obj) × List (Option Obj)
 obs := fun s => (pickFrom s.heap.objs.toList 0 as, pickFrom s.heap.objs.toList 0 ts)
 val := fun w => ((K w.params).map fun p => some p.2, ts.map fun z => some (tabObj #[]))
 says := fun w h => InK K w h ∧ ∀ P ∈ ts, h.get? P = some (tabObj #[])
 of := fun w s x => ⟨pick_all ((e w.params) ▸ (Prod.mk.inj x).1), pick_tabs (Prod.mk.inj x).2⟩
 keeps := fun w h h' x k => ⟨InK.keeps w h h' x.1 k, fun P hP => k _ _ (x.2 P hP)⟩
noncomputable def fragAs : List Nat := (List.range 1214).filter fun n => Nat.testBit 227962906344902772956944093703362383778344284189518887225618877595849869529792145299696558974760314461284299974940328691250044592977279179748790347325342824995871971858221162309520280587379639411922919851854524264207514332821962780333287630613614087805907618433326982967202486321914138299311694297609317817918209658437110710951981652255998189467167687861165947781132 n
theorem frag_as (P : Params) : fragAs = (hd.heap_39 P).map (·.1) := by kernel_rfl
noncomputable abbrev hk : Hook := pkHook hd.heap_39 fragAs frag_as [256, 270, 282, 289, 296, 303, 385, 686]
noncomputable def vw : Program := view pw [47]
noncomputable def loose0 : List Str := [sS "_wall", sS "Counter", sS "_union", sS "Tokens", sS "Variable", sS "unique_variable", sS "SubstituteBindingsI", sS "Expression", sS "MAX_SIMPLIFY_SIZE", sS "_exceeds_size", sS "ApplicationExpression", sS "AbstractVariableExpression", sS "IndividualVariableExpression", sS "FunctionVariableExpression", sS "EventVariableExpression", sS "ConstantExpression", sS "VariableExpression", sS "VariableBinderExpression", sS "LambdaExpression", sS "QuantifiedExpression", sS "ExistsExpression", sS "AllExpression", sS "NegatedExpression", sS "BinaryExpression", sS "BooleanExpression", sS "AndExpression", sS "OrExpression", sS "ImpExpression", sS "IffExpression", sS "EqualityExpression", sS "_is_letter_and_digits", sS "is_indvar", sS "is_funcvar", sS "is_eventvar", sS "BindingDict", sS "BindingException", sS "_law_box", sS "_law_take", sS "_law_name", sS "_law_term", sS "_law_formula", sS "_law_thing", sS "_law_true", sS "_law_free"]
noncomputable abbrev lw : OpenLaw := PySem.Challenge.rw_ao0014_01
noncomputable abbrev rw0 : RowW := lw.row.toRowW
noncomputable abbrev Xt0 : Shared → Bool := fun s => xlAt vw [] s && recOk (RowW.records rw0) s
noncomputable abbrev sE (w : World) (os : OsState) : Shared := ⟨H1 w.params, #[], boot_drawn, 1836, os⟩
theorem and_i {a b : Bool} (x : a = true) (y : b = true) : (a && b) = true := by rw [x, y]; rfl
theorem said0 : lw.wellSaid = true := (congrFun PySem.W.Fast.te9446332074065402090 _).trans (by
 delta PySem.W.Fast.tw9446332074065402090 PySem.W.Fast.tw17960256430627541270 PySem.W.Fast.tw2436336058641802641 PySem.W.Fast.tw12908688711261696721
 repeat' (with_reducible refine and_i ?_ ?_)
 all_goals decide +kernel)
theorem size0 (w : World) : ((boot_heap w.params).isNs mainGlobals && (#[] : Array GenState).size == 0, (boot_heap w.params).objs.size, (boot_heap w.params).nsMap mainGlobals "__annotations__") = (true, m0, ann0) := by kernel_rfl
theorem fence0 (s : Shared) : fenceModules? pw s = some s := by kernel_rfl
theorem open0 : opening pw = plainProg pw.main.scope.names := by kernel_rfl
theorem lookA (w : World) (os : OsState) : (staticsOk (importedModules pw.main.body) (boot_heap w.params) (H1 w.params) && namesBound pw (H1 w.params) && gensDone (sE w os) && laidKept (boot_heap w.params) (H1 w.params)) = true := by kernel_rfl
theorem te_seen : @openSeen = PySem.W.Fast.tw4187177175401517315 := PySem.W.Fast.te4187177175401517315
theorem lookB (w : World) (os : OsState) : openSeen vw loose0 (importedModules pw.main.body) Xt0 true (sE w os) = openGood vw loose0 := by
 rw [te_seen]; kernel_rfl
theorem lookC (w : World) (os : OsState) : hk.obs (sE w os) = hk.val w := by kernel_rfl
theorem ble0 : Nat.ble (12 + (1 + (326 + (654 + (610 + (997 + (783 + (761 + (889 + (802 + (624 + (802 + (639 + (765 + (699 + (852 + (484 + 2))))))))))))))))) 30000 = true := by kernel_rfl
theorem ble1 : Nat.ble 600 30000 = true := by kernel_rfl
theorem looks0 (w : World) : (fun os => ((staticsOk (importedModules pw.main.body) (boot_heap w.params) (H1 w.params) && namesBound pw (H1 w.params) && gensDone (sE w os) && laidKept (boot_heap w.params) (H1 w.params)),
  openSeen vw loose0 (importedModules pw.main.body) Xt0 true (sE w os), hk.obs (sE w os))) = fun z => (true, openGood vw loose0, hk.val w) :=
 funext fun os => looks_pair (lookA w os) (looks_pair (lookB w os) (lookC w os))
theorem boot0 (w : World) : (fencedOpening treeTable pw w 30000).map (fun s => (s.heap, s.gens, s.drawn, s.toks)) = some (boot_heap w.params, Array.mk [], boot_drawn, boot_toks) := boot_open open0 ble1 fence0 w
theorem abs0 (w : World) (os : OsState) : (S17 w os).abs = sE w os := by kernel_rfl
theorem run1 (w : World) (os : OsState) : topRun treeTable pw w m0 ann0 (12 + (1 + (326 + (654 + (610 + (997 + (783 + (761 + (889 + (802 + (624 + (802 + (639 + (765 + (699 + (852 + (484 + 2))))))))))))))))) ⟨boot_heap w.params, #[], boot_drawn, boot_toks, os⟩ (topStub pw) = some (sE w os) := (run0 w os).trans (congrArg some (abs0 w os))
noncomputable def MM : Nat := 12 + (1 + (326 + (654 + (610 + (997 + (783 + (761 + (889 + (802 + (624 + (802 + (639 + (765 + (699 + (852 + (484 + 2))))))))))))))))
theorem run2 (w : World) (os : OsState) : topRun treeTable pw w m0 ann0 MM ⟨boot_heap w.params, #[], boot_drawn, boot_toks, os⟩ (topStub pw) = some (sE w os) := by unfold MM; exact run1 w os
theorem ble2 : Nat.ble MM 30000 = true := ble0
theorem left0 : LeftO pw vw loose0 Xt0 hk.obs hk.val 30000 := by
 apply @LeftO.of_pieces pw vw loose0 Xt0 hk.α hk.obs hk.val 30000 true boot_heap H1 (Array.mk []) (Array.mk []) boot_drawn boot_drawn boot_toks 1836 m0 ann0 MM
 ·exact boot0
 ·exact size0
 ·exact run2
 ·exact ble2
 ·exact looks0
noncomputable def law0 : DefRec := match dT 47 with
 | .FunctionDef n a b _ _ _ sc _ _ pos => ⟨n, a, b, sc, pos⟩
 | _ => ⟨.ofString "", ⟨[], [], none, [], [], none, []⟩, [], ⟨.function, [], false, false, []⟩, default⟩
theorem def0 : defOf vw lw.row.name = some (law0, []) := by kernel_rfl
theorem the0 : lw.row.prog.theDef lw.row.name = some (law0.params, law0.body, law0.scope) := by kernel_rfl
theorem kw0 : kwWritten? law0.params.kwonlyargs law0.params.kw_defaults = some [] := by kernel_rfl
theorem wr0 : (!lw.row.writes || lw.row.records.isEmpty) = true := by kernel_rfl
theorem ok0 : (chainsOk vw && opensWell lw.row.prog && (frees lw.row.toRowW && lw.row.within.isEmpty)) = true := by kernel_rfl
theorem pro0 : PySem.Challenge.rw_ao0014_01.row.toRowW.promised := by w_witness2
theorem bare0 : lw.row.prog.bare := ⟨rfl, rfl, rfl, rfl, rfl, by decide +kernel⟩
theorem left1 : LeftO lw.row.prog vw loose0 Xt0 hk.obs hk.val 30000 := left0
theorem hd (walk : WalkO vw loose0 (XL vw []) hk.says lw.row.toRowW law0 [] fun f vs => PySem.call f vs) : lw.Holds :=
 holds_law said0 fun said => holds_open left1 hk.of hk.keeps (fun s e => xl_of s (Bool.and_eq_true_iff.mp e).1) XL.keeps def0 the0 kw0 (fun s e => recFacts_of (Bool.and_eq_true_iff.mp e).2) wr0 said ok0 bare0 pro0 walk
end
end Mine
end
namespace Mine
noncomputable abbrev St := Addr → Option Obj
noncomputable def St.le (a b : St) : Prop := ∀ x o, a x = some o → b x = some o
theorem St.le.refl (a : St) : St.le a a := fun z z h => h
theorem St.le.trans {a b c : St} (h : St.le a b) (k : St.le b c) : St.le a c := fun x o e => k x o (h x o e)
noncomputable def grow (st : St) (n : Nat) (h : Heap) : St := fun b => if b < n then st b else h.get? b
noncomputable def tabs : List (Addr × Addr × Str) := [(260, 256, "Expression.replace.<locals>.<lambda>"), (274, 270, "Expression.visit_structured.<locals>.<lambda>"), (286, 282, "Expression.free.<locals>.<lambda>"), (293, 289, "Expression.constants.<locals>.<lambda>"),
 (300, 296, "Expression.predicates.<locals>.<lambda>"), (307, 303, "Expression.simplify.<locals>.<lambda>"), (389, 385, "ApplicationExpression.__str__.<locals>.<genexpr>"), (690, 686, "QuantifiedExpression.__str__.<locals>.<genexpr>")]
noncomputable def TT : List Nat := [256, 270, 282, 289, 296, 303, 385, 686]
structure Bs where
 prog : Program
 w : World
 mg : Str → Option Value
 mb : Str → Option Value
 g : Heap
 gv : Array GenState
structure Bs.Ok (B : Bs) : Prop where
 X : (hd.heap_39 B.w.params).In B.g
 gl : B.g.Ns mainGlobals B.mg
 bl : B.g.Ns builtinsNs B.mb
 lim : B.g.NoLimit
 bi : ∀ x : Str, x ≠ "__name__" → B.mb x = bootBuiltins x
 bm : ∃ bm ob, B.mg "__builtins__" = some (.ref bm) ∧ bm ≠ builtinsNs ∧ bm ≠ mainGlobals ∧ B.g.get? bm = some ob ∧ ob.cls = .type "module" ∧ ob.dict = some builtinsNs ∧ ob.data = .plain
 off : ∀ P ∈ TT, B.g.get? P = none
 size : 1214 ≤ B.g.objs.size
structure TabInv (h : Heap) (P : Addr) (q : Str) : Prop where
 ex : ∃ ps, h.get? P = some (tabObj ps) ∧ TriplesOk ps.toList ∧ ∀ pos cv, codeAmong pos ps.toList = some cv → h.CodeRec cv q
structure Inv (B : Bs) (s : Shared) : Prop where
 base : ∀ b o, B.g.get? b = some o → s.heap.get? b = some o
 bare : AllBare s.gens ∧ ∀ k, k < B.gv.size → s.gens[k]? = B.gv[k]?
 tabs : ∀ x ∈ tabs, TabInv s.heap x.2.1 x.2.2
 size : B.g.objs.size ≤ s.heap.objs.size
noncomputable def Ext (md : List Addr) (h h' : Heap) : Prop := (∀ b o, b ∉ TT → b ∉ md → h.get? b = some o → h'.get? b = some o) ∧ h.objs.size ≤ h'.objs.size
theorem Ext.refl (md : List Addr) (h : Heap) : Ext md h h := ⟨fun z z z z e => e, Nat.le_refl _⟩
theorem Ext.trans {md md' : List Addr} {a b c : Heap} (h : Ext md a b) (k : Ext md' b c) (s : ∀ x ∈ md', x ∈ md) : Ext md a c :=
 ⟨fun x o t m e => k.1 x o t (fun q => m (s x q)) (h.1 x o t m e), Nat.le_trans h.2 k.2⟩
structure Room (A : Around) (d u : Nat) : Prop where
 hh : A.handled = none
 d : A.depth + d < recursionLimit
 u : A.units + u < cLine
theorem Room.deeper {A : Around} {d u : Nat} {env : Env} (R : Room A (d + 1) (u + 3)) : Room (A.deeper env) d u :=
 ⟨R.hh, by have := R.d; show A.depth + 1 + d < _; o_head qo, by have := R.u; show A.units + 3 + u < _; o_head qo⟩
theorem Room.le {A : Around} {d u d' u' : Nat} (R : Room A d u) (hd : d' ≤ d) (hu : u' ≤ u) : Room A d' u' :=
 ⟨R.hh, by have := R.d; o_head qo, by have := R.u; o_head qo⟩
theorem Room.in1 {A : Around} {d u : Nat} (R : Room A d (u + 1)) : Room A.in1 d u := ⟨R.hh, R.d, by have := R.u; show A.units + 1 + u < _; o_head qo⟩
structure Fx (B : Bs) (md : List Addr) (s₀ : Shared) (st₀ st : St) (L : Addr) (own : List (Addr × Obj)) (l : List (Str × Value)) (s : Shared) : Prop where
 ok : B.Ok
 inv : Inv B s
 ns : ∃ m, s.heap.Ns L m ∧ ∀ p ∈ l, m p.1 = some p.2
 le : ∀ b o, st b = some o → s.heap.get? b = some o
 offT : ∀ P ∈ TT, st P = none
 offL : st L = none
 hL : s₀.heap.objs.size ≤ L
 ow : ∀ p ∈ own, s.heap.get? p.1 = some p.2 ∧ st p.1 = none ∧ p.1 ≠ L ∧ (s₀.heap.objs.size ≤ p.1 ∨ p.1 ∈ md) ∧ B.g.objs.size ≤ p.1
 nodup : (own.map (·.1)).Nodup
 ext : Ext md s₀.heap s.heap
 new : ∀ b o, st b = some o → b < s₀.heap.objs.size → st₀ b = some o
 old : St.le st₀ st
 os : s.os = s₀.os
 gs : B.g.objs.size ≤ s₀.heap.objs.size
noncomputable def Back (B : Bs) (md : List Addr) (st : St) (s : Shared) (Φ : Heap → St → Value → Prop) (Q : Value → Shared → Prop) : Prop :=
 ∀ v s', Inv B s' → Ext md s.heap s'.heap → s'.os = s.os → Φ s'.heap (grow st s.heap.objs.size s'.heap) v → Q v s'
noncomputable def Spec (B : Bs) (A : Around) (md : List Addr) (st : St) (s : Shared) (t : Sem Value) (Φ : Heap → St → Value → Prop) : Prop :=
 ∀ (Q : Value → Shared → Prop) (E : Value → Shared → Prop), Back B md st s Φ Q → wpAny (model B.prog B.w) A t Q E s
section
variable {B : Bs} {md : List Addr} {s₀ s : Shared} {st₀ st : St} {L : Addr} {own : List (Addr × Obj)} {l : List (Str × Value)}
theorem TT_lt : ∀ P ∈ TT, @LT.lt Nat _ P 1214 := by decide
theorem Fx.notTT (F : Fx B md s₀ st₀ st L own l s) {b : Nat} (h : B.g.objs.size ≤ b) : b ∉ TT := fun q => by
 have h1 := TT_lt b q
 have h2 := F.ok.size
 o_head qo
theorem Fx.fr (F : Fx B md s₀ st₀ st L own l s) : ∃ m, Fr B.g L s.heap m := by
 obtain ⟨m, hm, _⟩ := F.ns
 exact ⟨m, hm, F.inv.base, Nat.le_trans F.gs F.hL⟩
theorem Fx.X (F : Fx B md s₀ st₀ st L own l s) : (hd.heap_39 B.w.params).In s.heap := F.ok.X.keeps F.inv.base
theorem Inv.toks {B : Bs} {s : Shared} {t : Nat} (I : Inv B s) : Inv B { s with toks := t } := ⟨I.base, I.bare, I.tabs, I.size⟩
theorem Fx.toks {t : Nat} (F : Fx B md s₀ st₀ st L own l s) : Fx B md s₀ st₀ st L own l { s with toks := t } :=
 ⟨F.ok, F.inv.toks, F.ns, F.le, F.offT, F.offL, F.hL, F.ow, F.nodup, F.ext, F.new, F.old, F.os, F.gs⟩
theorem Fx.ow1 {d : Addr} {o : Obj} (F : Fx B md s₀ st₀ st L ((d, o) :: own) l s) : s.heap.get? d = some o := (F.ow _ (.head _)).1
theorem Fx.ow2 {d : Addr} {o : Obj} (F : Fx B md s₀ st₀ st L ((d, o) :: own) l s) : st d = none := (F.ow _ (.head _)).2.1
theorem Fx.ow4 {d : Addr} {o : Obj} (F : Fx B [] s₀ st₀ st L ((d, o) :: own) l s) : s₀.heap.objs.size ≤ d := (F.ow _ (.head _)).2.2.2.1.resolve_right fun h => nomatch h
theorem Fx.ow5 {d : Addr} {o : Obj} (F : Fx B md s₀ st₀ st L ((d, o) :: own) l s) : B.g.objs.size ≤ d := (F.ow _ (.head _)).2.2.2.2
theorem Fx.outle (F : Fx B md s₀ st₀ st L own l s) : St.le st (grow st₀ s₀.heap.objs.size s.heap) := fun b o e => by
 unfold grow
 by_cases h : b < s₀.heap.objs.size
 ·rw [if_pos h]; exact F.new b o e h
 ·rw [if_neg h]; exact F.le b o e
theorem Fx.call {md' : List Addr} {A : Around} {t : Sem Value} {Φ : Heap → St → Value → Prop} {Q E : Value → Shared → Prop} (F : Fx B md s₀ st₀ st L own l s) (C : Spec B A [] st s t Φ)
  (k : ∀ v st' s', St.le st st' → Fx B md s₀ st₀ st' L own l s' → Φ s'.heap st' v → Q v s') : wpAny (model B.prog B.w) A t Q E s := by
 refine C Q E fun v s' I X hos hΦ => k v _ s' ?_ ?_ hΦ
 ·intro b o e
  unfold grow
  rw [if_pos (Heap.lt_size (F.le b o e))]; exact e
 ·have hn : ∀ b, s.heap.objs.size ≤ b → b ∉ TT := fun b hb => F.notTT (Nat.le_trans F.inv.size hb)
  have hT : ∀ b, b ∈ TT → b < s.heap.objs.size := fun b hb => Nat.lt_of_lt_of_le (Nat.lt_of_lt_of_le (TT_lt b hb) F.ok.size) F.inv.size
  have hLlt : L < s.heap.objs.size := by obtain ⟨m, ⟨o, _, _, e, _⟩, _⟩ := F.ns; exact Heap.lt_size e
  have hLT : L ∉ TT := F.notTT (Nat.le_trans F.gs F.hL)
  refine ⟨F.ok, I, ?_, ?_, ?_, ?_, F.hL, ?_, F.nodup, F.ext.trans X (fun z h => nomatch h), ?_, ?_, hos.trans F.os, F.gs⟩
  ·obtain ⟨m, ⟨o, es, ep, e, r⟩, hm⟩ := F.ns
   exact ⟨m, ⟨o, es, ep, X.1 _ _ hLT (fun h => nomatch h) e, r⟩, hm⟩
  ·intro b o e
   unfold grow at e
   split at e
   ·exact X.1 _ _ (fun q => by rw [F.offT b q] at e; cases e) (fun h => nomatch h) (F.le b o e)
   ·exact e
  ·intro P hP
   unfold grow
   rw [if_pos (hT P hP)]; exact F.offT P hP
  ·unfold grow
   rw [if_pos hLlt]; exact F.offL
  ·intro p hp
   obtain ⟨h1, h2, h3, h4, h5⟩ := F.ow p hp
   refine ⟨X.1 _ _ (F.notTT h5) (fun h => nomatch h) h1, ?_, h3, h4, h5⟩
   unfold grow
   rw [if_pos (Heap.lt_size h1)]; exact h2
  ·intro b o e hb
   unfold grow at e
   rw [if_pos (Nat.lt_of_lt_of_le hb F.ext.2)] at e
   exact F.new b o e hb
  ·intro b o e
   have e' := F.old b o e
   unfold grow
   rw [if_pos (Heap.lt_size (F.le b o e'))]; exact e'
end
end Mine
namespace Mine
structure At (B : Bs) (st : St) (s : Shared) : Prop where
 ok : B.Ok
 inv : Inv B s
 le : ∀ b o, st b = some o → s.heap.get? b = some o
 offT : ∀ P ∈ TT, st P = none
theorem mem_hd {α : Type} {a : α} {l : List α} : a ∈ a :: l := .head _
theorem mem_tl {α : Type} {a b : α} {l : List α} (h : a ∈ l) : a ∈ b :: l := .tail _ h
theorem mem_1 {α : Type} {a b1 : α} {l : List α} : a ∈ b1 :: a :: l := .tail _ (.head _)
theorem mem_2 {α : Type} {a b1 b2 : α} {l : List α} : a ∈ b1 :: b2 :: a :: l := .tail _ (.tail _ (.head _))
theorem mem_3 {α : Type} {a b1 b2 b3 : α} {l : List α} : a ∈ b1 :: b2 :: b3 :: a :: l := .tail _ (.tail _ (.tail _ (.head _)))
theorem mem_4 {α : Type} {a b1 b2 b3 b4 : α} {l : List α} : a ∈ b1 :: b2 :: b3 :: b4 :: a :: l := .tail _ (.tail _ (.tail _ (.tail _ (.head _))))
theorem mem_5 {α : Type} {a b1 b2 b3 b4 b5 : α} {l : List α} : a ∈ b1 :: b2 :: b3 :: b4 :: b5 :: a :: l := .tail _ (.tail _ (.tail _ (.tail _ (.tail _ (.head _)))))
theorem mem_6 {α : Type} {a b1 b2 b3 b4 b5 b6 : α} {l : List α} : a ∈ b1 :: b2 :: b3 :: b4 :: b5 :: b6 :: a :: l := .tail _ (.tail _ (.tail _ (.tail _ (.tail _ (.tail _ (.head _))))))
theorem mem_7 {α : Type} {a b1 b2 b3 b4 b5 b6 b7 : α} {l : List α} : a ∈ b1 :: b2 :: b3 :: b4 :: b5 :: b6 :: b7 :: a :: l := .tail _ (.tail _ (.tail _ (.tail _ (.tail _ (.tail _ (.tail _ (.head _)))))))
theorem mem_8 {α : Type} {a b1 b2 b3 b4 b5 b6 b7 b8 : α} {l : List α} (h : a ∈ l) : a ∈ b1 :: b2 :: b3 :: b4 :: b5 :: b6 :: b7 :: b8 :: l := .tail _ (.tail _ (.tail _ (.tail _ (.tail _ (.tail _ (.tail _ (.tail _ h)))))))
structure En (env : Env) (L : Addr) (names : List (Str × NameKind)) (cl : List (Str × Addr)) (qual : Str) (cd : Value) : Prop where
 loc : env.locals = L
 glob : env.globals = mainGlobals
 bi : env.builtins = builtinsNs
 kind : env.scope.kind = .function
 at' : ∀ p ∈ names, env.kindOf p.1 = some p.2 ∧ (p.1 == ("__debug__" : Str)) = false
 cells : env.cells = cl
 qual : env.qual = qual ++ ".<locals>."
 code : env.code = cd
 inter : interactive env = false
structure ScopeOk (cs : Scope) : Prop where
 kind : cs.kind = .function
 nodup : (cs.names.map (·.1)).Nodup
 nodbg : ∀ p ∈ cs.names, (p.1 == ("__debug__" : Str)) = false
theorem lookup_mem {α : Type} : ∀ {l : List (Str × α)} {x : Str} {k : α}, (l.map (·.1)).Nodup → (x, k) ∈ l → l.lookup x = some k
 | (y, j) :: r, x, k, hn, hm => by
  rw [List.lookup_cons]
  rcases List.mem_cons.mp hm with e | hm
  ·cases e
   simp
  ·have hn' := List.nodup_cons.mp hn
   have hne : x ≠ y := fun q => hn'.1 (q ▸ List.mem_map_of_mem (f := (·.1)) hm)
   rw [beq_eq_false_iff_ne.mpr hne]
   exact lookup_mem hn'.2 hm
theorem ScopeOk.at {cs : Scope} (S : ScopeOk cs) {x : Str} {k : NameKind} (h : (x, k) ∈ cs.names) : cs.names.lookup x = some k := lookup_mem S.nodup h
theorem ScopeOk.en {cs : Scope} (S : ScopeOk cs) {qual : Str} {L f : Addr} {cdv : Value} {cl : List (Str × Addr)} : En (envX qual cs L f cdv cl) L cs.names cl qual cdv :=
 ⟨rfl, rfl, rfl, S.kind, fun p hp => ⟨S.at hp, S.nodbg p hp⟩, rfl, rfl, rfl, by show (cs.kind == _ && _) = false; rw [S.kind]; rfl⟩
section
variable {B : Bs} {md : List Addr} {s₀ s : Shared} {st₀ st : St} {L : Addr} {own : List (Addr × Obj)} {l : List (Str × Value)} {A : Around}
theorem Fx.at (F : Fx B md s₀ st₀ st L own l s) : At B st s := ⟨F.ok, F.inv, F.le, F.offT⟩
theorem enterC {name qual : Str} {params : Arguments} {body : List Stmt} {scope : Scope} {dV kV doc pm cdv ct oc : Value} {an od : Option Addr} {osl : Array (Option Value)} {f : Addr} {args : List Value} {kw : List (Str × Value)} {binds : List (Str × Value)} {R₀ : Result → Shared → Prop} {d u : Nat}
  (H : At B st s) (hown : ∀ p ∈ own, s.heap.get? p.1 = some p.2 ∧ st p.1 = none ∧ p.1 ∈ md ∧ B.g.objs.size ≤ p.1) (hnd : (own.map (·.1)).Nodup) (R : Room A (d + 1) (u + 3))
  (ho : (hd.heap_39 B.w.params).lookup f = some ⟨oc, od, .func (fnOf name qual params body scope dV kV doc pm an cdv ct), osl⟩) (hcd : codeIn (hd.heap_39 B.w.params) cdv qual = true)
  (hbind : BindsTo s (fnOf name qual params body scope dV kV doc pm an cdv ct) ⟨args, kw⟩ binds) (hS : ScopeOk scope) {ps : List Str} (hps : binds.map (·.1) = ps) (hloc : ∀ y ∈ ps, (y, NameKind.local) ∈ scope.names) (hbn : ps.Nodup) (hcell : ∀ x ∈ scope.names, x.2 ≠ .cell)
  (hco : scope.isCoroutine = false) (hgen : scope.isGenerator = false)
  (h : ∀ L s₁ env A', En env L scope.names [] qual cdv → Room A' d u → Fx B md s st st L own binds s₁ →
   wpAny (model B.prog B.w) A' (execs body env) (fun fl s' => R₀ (.ok (.ret (match fl with | .ret v => v | _ => .none))) s') (fun z z => False) s₁) :
  codeAny (model B.prog B.w) A (.call (.ref f) ⟨args, kw⟩) R₀ s := by
 have X := H.ok.X.keeps H.inv.base
 refine codeAny_call_def (fd := fnOf name qual params body scope dV kV doc pm an cdv ct) (body := body) (binds := binds) (by have := R.d; o_head qo) (X _ _ ho) rfl (H.ok.lim.keeps H.inv.base) (codeRec_of X hcd) rfl hbind hcell (fun y hy => hS.at (hloc y.1 (hps ▸ List.mem_map_of_mem (f := (·.1)) hy))) (fun h₁ hns hk₁ => ?_) hco hgen hS.kind
 have hsz : s.heap.objs.size < h₁.objs.size := by obtain ⟨o, _, _, e, _⟩ := hns; exact Heap.lt_size e
 have hLg : B.g.objs.size ≤ s.heap.objs.size := H.inv.size
 have hTTs : ∀ P ∈ TT, s.heap.objs.size ≠ P := fun P hP e => by have := TT_lt P hP; have := H.ok.size; o_head qo
 have F : Fx B md s st st s.heap.objs.size own binds { s with heap := h₁, toks := s.toks + binds.length } := by
  refine ⟨H.ok, ⟨fun b o e => hk₁ _ _ (H.inv.base _ _ e), H.inv.bare, fun x hx => ?_, Nat.le_trans H.inv.size (Nat.le_of_lt hsz)⟩, ⟨_, hns, fun p hp => lookup_mem (by rw [List.map_reverse]; rw [hps]; exact List.pairwise_reverse.mpr (hbn.imp Ne.symm)) (List.mem_reverse.mpr hp)⟩, fun b o e => hk₁ _ _ (H.le _ _ e), H.offT, ?_, Nat.le_refl _, fun p hp => ?_, hnd, ⟨fun b o z z e => hk₁ _ _ e, Nat.le_of_lt hsz⟩, fun b o e z => e, St.le.refl _, rfl, hLg⟩
  ·obtain ⟨ps, h1, h2, h3⟩ := (H.inv.tabs x hx).ex
   exact ⟨ps, hk₁ _ _ h1, h2, fun pos cv hc => (h3 pos cv hc).keeps hk₁⟩
  ·cases q : st s.heap.objs.size with
   | none => rfl
   | some o => exact absurd (Heap.lt_size (H.le _ _ q)) (Nat.lt_irrefl _)
  ·obtain ⟨h1, h2, h3, h4⟩ := hown p hp
   exact ⟨hk₁ _ _ h1, h2, Nat.ne_of_lt (Heap.lt_size h1), .inr h3, h4⟩
 exact wpAny_mono (h _ _ _ _ hS.en R.deeper F) (fun fl s' q => q) fun z z q => q.elim
theorem enterO {name qual : Str} {params : Arguments} {body : List Stmt} {scope : Scope} {dV kV doc pm cdv ct oc : Value} {an od : Option Addr} {osl : Array (Option Value)} {f : Addr} {args : List Value} {kw : List (Str × Value)} {binds : List (Str × Value)} {Q : Value → Shared → Prop} {E : Value → Shared → Prop} {d u : Nat}
  (H : At B st s) (hown : ∀ p ∈ own, s.heap.get? p.1 = some p.2 ∧ st p.1 = none ∧ p.1 ∈ md ∧ B.g.objs.size ≤ p.1) (hnd : (own.map (·.1)).Nodup) (R : Room A (d + 1) (u + 3))
  (ho : (hd.heap_39 B.w.params).lookup f = some ⟨oc, od, .func (fnOf name qual params body scope dV kV doc pm an cdv ct), osl⟩) (hcd : codeIn (hd.heap_39 B.w.params) cdv qual = true)
  (hbind : BindsTo s (fnOf name qual params body scope dV kV doc pm an cdv ct) ⟨args, kw⟩ binds) (hS : ScopeOk scope) {ps : List Str} (hps : binds.map (·.1) = ps) (hloc : ∀ y ∈ ps, (y, NameKind.local) ∈ scope.names) (hbn : ps.Nodup) (hcell : ∀ x ∈ scope.names, x.2 ≠ .cell)
  (hco : scope.isCoroutine = false) (hgen : scope.isGenerator = false)
  (h : ∀ L s₁ env A', En env L scope.names [] qual cdv → Room A' d u → Fx B md s st st L own binds s₁ →
   wpAny (model B.prog B.w) A' (execs body env) (fun fl s' => Q (match fl with | .ret v => v | _ => .none) s') (fun z z => False) s₁) :
  wpAny (model B.prog B.w) A (call (.ref f) args kw) Q E s := by
 exact wpAny_call (enterC H hown hnd R ho hcd hbind hS hps hloc hbn hcell hco hgen fun L s₁ env A' N R' F => h L s₁ env A' N R' F)
theorem enter {name qual : Str} {params : Arguments} {body : List Stmt} {scope : Scope} {dV kV doc pm cdv ct oc : Value} {an od : Option Addr} {osl : Array (Option Value)} {f : Addr} {args : List Value} {kw : List (Str × Value)} {binds : List (Str × Value)} {Φ : Heap → St → Value → Prop} {d u : Nat}
  (H : At B st s) (R : Room A (d + 1) (u + 3))
  (ho : (hd.heap_39 B.w.params).lookup f = some ⟨oc, od, .func (fnOf name qual params body scope dV kV doc pm an cdv ct), osl⟩) (hcd : codeIn (hd.heap_39 B.w.params) cdv qual = true)
  (hbind : BindsTo s (fnOf name qual params body scope dV kV doc pm an cdv ct) ⟨args, kw⟩ binds) (hS : ScopeOk scope) {ps : List Str} (hps : binds.map (·.1) = ps) (hloc : ∀ y ∈ ps, (y, NameKind.local) ∈ scope.names) (hbn : ps.Nodup) (hcell : ∀ x ∈ scope.names, x.2 ≠ .cell)
  (hco : scope.isCoroutine = false) (hgen : scope.isGenerator = false)
  (h : ∀ (Q : Value → Shared → Prop) L s₁ env A', Back B [] st s Φ Q →
   En env L scope.names [] qual cdv → Room A' d u → Fx B [] s st st L [] binds s₁ →
   wpAny (model B.prog B.w) A' (execs body env) (fun fl s' => Q (match fl with | .ret v => v | _ => .none) s') (fun z z => False) s₁) :
  Spec B A [] st s (call (.ref f) args kw) Φ := fun Q z k =>
 enterO (own := []) (md := []) H (fun z h => nomatch h) .nil R ho hcd hbind hS hps hloc hbn hcell hco hgen fun L s₁ env A' N R' F => h Q L s₁ env A' k N R' F
theorem Fx.ret {Φ : Heap → St → Value → Prop} {Q : Value → Shared → Prop} {v : Value} (k : Back B md st₀ s₀ Φ Q)
  (F : Fx B md s₀ st₀ st L own l s) (h : ∀ st', St.le st st' → Φ s.heap st' v) : Q v s := k v s F.inv F.ext F.os (h _ F.outle)
variable {Q : Value → Shared → Prop} {E : Value → Shared → Prop} {env : Env} {names : List (Str × NameKind)} {cl : List (Str × Addr)} {qual : Str} {cd : Value}
theorem Fx.nameL {x : Str} {pos : Pos} {v : Value} (F : Fx B md s₀ st₀ st L own l s) (N : En env L names cl qual cd) (hv : (x, v) ∈ l) (hx : (x, NameKind.local) ∈ names) (h : Q v s) :
  wpAny (model B.prog B.w) A (eval (.Name x pos) env) Q E s := by
 obtain ⟨m, hn, hm⟩ := F.ns
 exact wpAny_Name (wpAny_loadName_local N.kind (N.at' _ hx).1 (N.loc.symm ▸ hn) (hm _ hv) h) (N.at' _ hx).2
noncomputable def globB (K : Frag) (x : Str) (v : Value) : Bool := nsIn K mainGlobals x == some (some v)
theorem Fx.nameG {x : Str} {pos : Pos} {v : Value} (F : Fx B md s₀ st₀ st L own l s) (N : En env L names cl qual cd) (e : globB (hd.heap_39 B.w.params) x v = true) (hx : (x, NameKind.globalImplicit) ∈ names) (h : Q v s) :
  wpAny (model B.prog B.w) A (eval (.Name x pos) env) Q E s :=
 Name_function_global N.kind (N.at' _ hx).1 (loadGlobal_global (N.glob.symm ▸ F.ok.gl.keeps F.inv.base) (mg_of F.ok.X F.ok.gl (beq_iff_eq.mp e)) h) (N.at' _ hx).2
noncomputable def builtinB (K : Frag) (x : Str) (v : Value) : Bool := nsIn K mainGlobals x == some none && bootBuiltins x == some v && x != "__name__"
theorem Fx.nameB {x : Str} {pos : Pos} {v : Value} (F : Fx B md s₀ st₀ st L own l s) (N : En env L names cl qual cd) (e : builtinB (hd.heap_39 B.w.params) x v = true) (hx : (x, NameKind.globalImplicit) ∈ names) (h : Q v s) :
  wpAny (model B.prog B.w) A (eval (.Name x pos) env) Q E s := by
 simp only [builtinB, Bool.and_eq_true, beq_iff_eq, bne_iff_ne] at e
 exact Name_function_global N.kind (N.at' _ hx).1 (loadGlobal_builtin (N.glob.symm ▸ F.ok.gl.keeps F.inv.base) (mg_none_of F.ok.X F.ok.gl e.1.1) (N.bi.symm ▸ F.ok.bl.keeps F.inv.base) ((F.ok.bi x e.2).trans e.1.2) h) (N.at' _ hx).2
theorem tabs_TT : ∀ t ∈ tabs, t.2.1 ∈ TT := by decide
theorem Fx.store {x : Str} {v : Value} {Q : Unit → Shared → Prop} (l' : List (Str × Value)) (F : Fx B md s₀ st₀ st L own l s) (N : En env L names cl qual cd) (hx : (x, NameKind.local) ∈ names) (hl : ∀ p ∈ l', p ∈ l ∧ p.1 ≠ x)
  (h : ∀ s', Fx B md s₀ st₀ st L own ((x, v) :: l') s' → Q () s') :
  wpAny (model B.prog B.w) A (storeName env x v) Q E s := by
 obtain ⟨m, hn, hm⟩ := F.ns
 refine wpAny_storeName_local (N.at' _ hx).1 (N.loc.symm ▸ hn) (fun h' hn' hs => h _ ?_) (by rw [N.kind]; rfl)
 rw [N.loc] at hn' hs
 have hLg : B.g.objs.size ≤ L := Nat.le_trans F.gs F.hL
 have keep : ∀ b o, b ≠ L → s.heap.get? b = some o → h'.get? b = some o := fun b o q e => (hs.2 b q).trans e
 have hTL : ∀ P ∈ TT, P ≠ L := fun P hP e => F.notTT hLg (e ▸ hP)
 have hcode : ∀ cv q, s.heap.CodeRec cv q → h'.CodeRec cv q := by
  rintro cv q ⟨c, o, vs, t, e1, e2, e3, e4⟩
  refine ⟨c, o, vs, t, e1, keep _ _ ?_ e2, e3, e4⟩
  rintro rfl
  obtain ⟨oL, es, ep, e5, e6, _⟩ := hn
  rw [e2] at e5
  cases e5
  rw [e3] at e6
  cases e6
 refine ⟨F.ok, ⟨fun b o e => keep b o ?_ (F.inv.base b o e), F.inv.bare, fun t ht => ?_, by rw [hs.1]; exact F.inv.size⟩, ⟨_, hn', ?_⟩, fun b o e => keep b o ?_ (F.le b o e), F.offT, F.offL, F.hL, fun p hp => ?_, F.nodup, ⟨fun b o h1 h2 e => keep b o ?_ (F.ext.1 b o h1 h2 e), by rw [hs.1]; exact F.ext.2⟩, F.new, F.old, F.os, F.gs⟩
 ·exact Nat.ne_of_lt (Nat.lt_of_lt_of_le (Heap.lt_size e) hLg)
 ·obtain ⟨ps, h1, h2, h3⟩ := (F.inv.tabs t ht).ex
  exact ⟨ps, keep _ _ (hTL _ (tabs_TT t ht)) h1, h2, fun pos cv hc => hcode _ _ (h3 pos cv hc)⟩
 ·intro p hp
  rcases List.mem_cons.mp hp with rfl | hp
  ·exact if_pos rfl
  ·exact (if_neg (hl p hp).2).trans (hm _ (hl p hp).1)
 ·intro q; rw [q, F.offL] at e; cases e
 ·obtain ⟨h1, h2, h3, h4, h5⟩ := F.ow p hp
  exact ⟨keep _ _ h3 h1, h2, h3, h4, h5⟩
 ·exact Nat.ne_of_lt (Nat.lt_of_lt_of_le (Heap.lt_size e) F.hL)
end
end Mine
namespace Mine
noncomputable def Nm.str : Nm → Str
 | .x => "x" | .y => "y" | .w => "w" | .z1 => "z1" | .u => "u" | .rex => "rex" | .dog => "dog" | .sees => "sees" | .mother => "mother"
noncomputable def nmCls : Nm → Addr := fun n => if n.isVar then 511 else 575
noncomputable def quCls (b : Bool) : Addr := if b then 760 else 727
noncomputable def opCls : Op → Addr
 | .and => 913 | .or => 953 | .imp => 986 | .eq => 1052
noncomputable def clsOf : Ex → Addr
 | .nm n => nmCls n
 | .app .. => 423
 | .neg _ => 814
 | .qu b _ _ => quCls b
 | .bin o _ _ => opCls o
noncomputable def Ents : List (Str × Value) → List DictEntry → Prop
 | [], [] => True
 | p :: ps, e :: es => (∃ t, e.key = .str p.1 t) ∧ e.val = p.2 ∧ Ents ps es
 | _, _ => False
noncomputable def Inst (st : St) (a C : Addr) (fs : List (Str × Value)) : Prop := ∃ dx n es, st a = some (instObj C dx) ∧ st dx = some (dictOf es n) ∧ Ents fs es
theorem Inst.mono {st st' : St} {a C : Addr} {fs : List (Str × Value)} (h : Inst st a C fs) (k : St.le st st') : Inst st' a C fs := by
 obtain ⟨dx, n, es, h1, h2, h3⟩ := h
 exact ⟨dx, n, es, k _ _ h1, k _ _ h2, h3⟩
theorem Ents.noRef : ∀ {fs : List (Str × Value)} {es : List DictEntry}, Ents fs es → es.any (·.refKey) = false
 | [], [], _ => rfl
 | p :: ps, e :: es, ⟨⟨t, h1⟩, _, h3⟩ => by
  rw [List.any_cons, h3.noRef]
  simp only [DictEntry.refKey, h1, Bool.or_false]
 | [], _ :: _, h => h.elim
 | _ :: _, [], h => h.elim
theorem isStr_str (a b : Str) (t : Tok) : (Value.str a t).isStr b = (a == b) := rfl
theorem Ents.find : ∀ {fs : List (Str × Value)} {es : List DictEntry} (name : Str), Ents fs es → (es.find? (·.key.isStr name)).map (·.val) = fs.lookup name
 | [], [], _, _ => rfl
 | p :: ps, e :: es, name, ⟨⟨t, h1⟩, h2, h3⟩ => by
  rw [List.find?_cons, h1, isStr_str]
  obtain ⟨k, v⟩ := p
  rw [List.lookup_cons]
  by_cases q : k = name
  ·subst q
   simp only [beq_self_eq_true, Option.map_some]
   exact congrArg some h2
  ·have q1 : (k == name) = false := beq_eq_false_iff_ne.mpr q
   have q2 : (name == k) = false := beq_eq_false_iff_ne.mpr (Ne.symm q)
   rw [q1, q2]
   exact h3.find name
 | [], _ :: _, _, h => h.elim
 | _ :: _, [], _, h => h.elim
set_option tactic.hygienic true in
theorem Ents.get {fs : List (Str × Value)} {es : List DictEntry} {name : Str} (h : Ents fs es) : getL name es = some (fs.lookup name) := by
 have e := h.find name
 unfold getL
 split
 ·rename_i en he
  rw [he] at e
  rw [← e]; rfl
 ·rename_i he
  rw [he] at e
  rw [h.noRef, ← e]; rfl
noncomputable def methB (K : Frag) (C : Addr) (name : Str) (f : Addr) : Bool := plainGet K C name && findIn K (.ref C) name == some (some (.ref f)) && isFn K (.ref f) && keepIn K (.ref f)
noncomputable def fieldB (K : Frag) (C : Addr) (name : Str) : Bool := plainGet K C name && hasDictIn K C && findIn K (.ref C) name == some none
section
variable {B : Bs} {md : List Addr} {s₀ s : Shared} {st₀ st : St} {L : Addr} {own : List (Addr × Obj)} {l : List (Str × Value)} {A : Around}
theorem Fx.inst {a C dx : Addr} {n : Nat} {es : List DictEntry} (F : Fx B md s₀ st₀ st L own l s) (h1 : st a = some (instObj C dx)) (h2 : st dx = some (dictOf es n)) : InstAt s.heap a (instObj C dx) C (some (dictOf es n)) :=
 ⟨F.le _ _ h1, rfl, rfl, F.le _ _ h2⟩
theorem Fx.getAttr {Q : Value → Shared → Prop} {E : Value → Shared → Prop} {a C : Addr} {fs : List (Str × Value)} {name : Str} {v : Value} {ex : Bool} (F : Fx B md s₀ st₀ st L own l s) (I : Inst st a C fs) (hf : fieldB (hd.heap_39 B.w.params) C name = true)
  (hl : fs.lookup name = some v) (hv : handedIn v = true) (h : ∀ s', Fx B md s₀ st₀ st L own l s' → Q v s') : wpAny (model B.prog B.w) A (getAttr (.ref a) name ex) Q E s := by
 obtain ⟨dx, n, es, h1, h2, h3⟩ := I
 simp only [fieldB, Bool.and_eq_true, beq_iff_eq] at hf
 obtain ⟨m, fr⟩ := F.fr
 exact get_own (attr := none) fr F.ok.X (F.inst h1 h2) hf.1.1 hf.1.2 hf.2 rfl (by rw [h3.get, hl]) hv (h _ F.toks)
theorem Fx.method {Q : Value × List Value → Shared → Prop} {E : Value → Shared → Prop} {a C f : Addr} {fs : List (Str × Value)} {name : Str} {pl : Sem Bool} (F : Fx B md s₀ st₀ st L own l s) (I : Inst st a C fs) (hm : methB (hd.heap_39 B.w.params) C name f = true)
  (hl : fs.lookup name = none) (h : Q (.ref f, [.ref a]) s) : wpAny (model B.prog B.w) A (getMethod (.ref a) name pl) Q E s := by
 obtain ⟨dx, n, es, h1, h2, h3⟩ := I
 simp only [methB, Bool.and_eq_true, beq_iff_eq] at hm
 obtain ⟨m, fr⟩ := F.fr
 exact method_inst fr F.ok.X (F.inst h1 h2) hm.1.1.1 hm.1.1.2 hm.1.2 (by rw [h3.get, hl]) h
noncomputable def isB (K : Frag) (D C : Addr) : Bool := isIn K (.ref D) C
noncomputable def nisB (K : Frag) (D C : Addr) : Bool := kin_not K D C && plainGet K D "__class__" && hasDictIn K D && findIn K (.ref D) "__class__" == some (some (.builtin "object.__class__")) && specialIn K (.builtin "object.__class__") "__get__" == some (some (.builtin "getset_descriptor.__get__")) &&
 takesIn K (.builtin "object.__class__") == some true && mroIn K D (.type "object") == some true
theorem Fx.isaT {Q : Value → Shared → Prop} {E : Value → Shared → Prop} {a D C : Addr} {fs : List (Str × Value)} (F : Fx B md s₀ st₀ st L own l s) (I : Inst st a D fs) (hc : isB (hd.heap_39 B.w.params) D C = true) (h : Q (.bool true) s) :
  wpAny (model B.prog B.w) A (PySem.call (.builtin "isinstance") [.ref a, .ref C]) Q E s := by
 obtain ⟨dx, n, es, h1, h2, _⟩ := I
 exact isi_call F.X (fun z => (F.inst h1 h2).type) hc (fun e => nomatch e) h
theorem Fx.isaF {Q : Value → Shared → Prop} {E : Value → Shared → Prop} {a D C : Addr} {fs : List (Str × Value)} (F : Fx B md s₀ st₀ st L own l s) (I : Inst st a D fs) (hc : nisB (hd.heap_39 B.w.params) D C = true) (h : ∀ s', Fx B md s₀ st₀ st L own l s' → Q (.bool false) s') :
  wpAny (model B.prog B.w) A (PySem.call (.builtin "isinstance") [.ref a, .ref C]) Q E s := by
 obtain ⟨dx, n, es, h1, h2, _⟩ := I
 simp only [nisB, Bool.and_eq_true, beq_iff_eq] at hc
 obtain ⟨⟨⟨⟨⟨⟨c1, c2⟩, c3⟩, c4⟩, c5⟩, c6⟩, c7⟩ := hc
 exact kin_callC F.X (F.inst h1 h2) c1 c2 c3 c4 c5 c6 c7 (h _ F.toks)
theorem Fx.eqStr {Q : Value → Shared → Prop} {E : Value → Shared → Prop} {x y : Str} {t u : Tok} (_F : Fx B md s₀ st₀ st L own l s) (h : Q (.bool (x == y)) s) : wpAny (model B.prog B.w) A (compareOp .Eq (.str x t) (.str y u)) Q E s := PyProof.Rows.eq_str h
end
noncomputable def VarAt (st : St) (a : Addr) (n : Nm) : Prop := ∃ t, Inst st a 126 [("name", .str n.str t)]
theorem VarAt.mono {st st' : St} {a : Addr} {n : Nm} (h : VarAt st a n) (k : St.le st st') : VarAt st' a n := by
 obtain ⟨t, I⟩ := h
 exact ⟨t, I.mono k⟩
inductive Rep (st : St) : Addr → Ex → Prop
 | nm {a v : Addr} {n : Nm} : Inst st a (nmCls n) [("variable", .ref v)] → VarAt st v n → Rep st a (.nm n)
 | app {a f g : Addr} {e1 e2 : Ex} : Inst st a 423 [("function", .ref f), ("argument", .ref g)] → Rep st f e1 → Rep st g e2 → Rep st a (.app e1 e2)
 | neg {a t : Addr} {e : Ex} : Inst st a 814 [("term", .ref t)] → Rep st t e → Rep st a (.neg e)
 | qu {a v t : Addr} {b : Bool} {n : Nm} {e : Ex} : Inst st a (quCls b) [("variable", .ref v), ("term", .ref t)] → VarAt st v n → Rep st t e → Rep st a (.qu b n e)
 | bin {a f g : Addr} {o : Op} {e1 e2 : Ex} : Inst st a (opCls o) [("first", .ref f), ("second", .ref g)] → Rep st f e1 → Rep st g e2 → Rep st a (.bin o e1 e2)
theorem Rep.mono {st st' : St} {a : Addr} {e : Ex} (h : Rep st a e) (k : St.le st st') : Rep st' a e := by
 induction h with
 | nm I v => exact .nm (I.mono k) (v.mono k)
 | app I _ _ i1 i2 => exact .app (I.mono k) i1 i2
 | neg I _ i => exact .neg (I.mono k) i
 | qu I v _ i => exact .qu (I.mono k) (v.mono k) i
 | bin I _ _ i1 i2 => exact .bin (I.mono k) i1 i2
noncomputable def fieldsOf : Ex → List Str
 | .nm _ => ["variable"]
 | .app .. => ["function", "argument"]
 | .neg _ => ["term"]
 | .qu .. => ["variable", "term"]
 | .bin .. => ["first", "second"]
theorem Rep.inst {st : St} {a : Addr} {e : Ex} (h : Rep st a e) : ∃ fs, Inst st a (clsOf e) fs ∧ fs.map (·.1) = fieldsOf e := by
 cases h with
 | nm I v => exact ⟨_, I, rfl⟩
 | app I _ _ => exact ⟨_, I, rfl⟩
 | neg I _ => exact ⟨_, I, rfl⟩
 | qu I v _ => exact ⟨_, I, rfl⟩
 | bin I _ _ => exact ⟨_, I, rfl⟩
end Mine
namespace Mine
noncomputable def St.put (st : St) (a : Addr) (o : Obj) : St := fun b => if b = a then some o else st b
section
variable {B : Bs} {md : List Addr} {s₀ s : Shared} {st₀ st : St} {L : Addr} {own : List (Addr × Obj)} {l : List (Str × Value)} {A : Around}
theorem Fx.ltL (F : Fx B md s₀ st₀ st L own l s) : L < s.heap.objs.size := by obtain ⟨m, ⟨o, _, _, e, _⟩, _⟩ := F.ns; exact Heap.lt_size e
theorem Fx.Tlt (F : Fx B md s₀ st₀ st L own l s) : ∀ b ∈ TT, b < s.heap.objs.size := fun b hb => Nat.lt_of_lt_of_le (Nat.lt_of_lt_of_le (TT_lt b hb) F.ok.size) F.inv.size
theorem Fx.change {d : Addr} {o o' : Obj} {h' : Heap} {t : Nat} (F : Fx B md s₀ st₀ st L ((d, o) :: own) l s) (hk : ∀ vs, o.data ≠ .fields vs) (hs : Heap.SameBut d s.heap h') (hd : h'.get? d = some o') :
  Fx B md s₀ st₀ st L ((d, o') :: own) l { s with heap := h', toks := t } := by
 obtain ⟨g1, g2, g3, g4, g5⟩ := F.ow (d, o) (.head _)
 dsimp only at g1 g2 g3 g4 g5
 have keep : ∀ b x, b ≠ d → s.heap.get? b = some x → h'.get? b = some x := fun b x q e => (hs.2 b q).trans e
 have hT : ∀ P ∈ TT, P ≠ d := fun P hP e => F.notTT g5 (e ▸ hP)
 have hcode : ∀ cv q, s.heap.CodeRec cv q → h'.CodeRec cv q := by
  rintro cv q ⟨c, oc, vs, tt, e1, e2, e3, e4⟩
  refine ⟨c, oc, vs, tt, e1, keep _ _ ?_ e2, e3, e4⟩
  rintro rfl
  rw [g1] at e2
  cases e2
  exact hk _ e3
 have nd := List.nodup_cons.mp F.nodup
 refine ⟨F.ok, ⟨fun b x e => keep b x ?_ (F.inv.base b x e), F.inv.bare, fun x hx => ?_, by rw [hs.1]; exact F.inv.size⟩, ?_, fun b x e => keep b x ?_ (F.le b x e), F.offT, F.offL, F.hL, fun p hp => ?_, F.nodup,
  ⟨fun b x h1 h2 e => keep b x ?_ (F.ext.1 b x h1 h2 e), by rw [hs.1]; exact F.ext.2⟩, F.new, F.old, F.os, F.gs⟩
 ·exact Nat.ne_of_lt (Nat.lt_of_lt_of_le (Heap.lt_size e) g5)
 ·obtain ⟨ps, h1, h2, h3⟩ := (F.inv.tabs x hx).ex
  exact ⟨ps, keep _ _ (hT _ (tabs_TT x hx)) h1, h2, fun pos cv hc => hcode _ _ (h3 pos cv hc)⟩
 ·obtain ⟨m, ⟨oL, es, ep, e, r⟩, hm⟩ := F.ns
  exact ⟨m, ⟨oL, es, ep, keep _ _ g3.symm e, r⟩, hm⟩
 ·rintro rfl; rw [g2] at e; cases e
 ·rcases List.mem_cons.mp hp with rfl | hp
  ·exact ⟨hd, g2, g3, g4, g5⟩
  ·obtain ⟨h1, h2, h3, h4, h5⟩ := F.ow p (.tail _ hp)
   exact ⟨keep _ _ (fun q => nd.1 (q ▸ List.mem_map_of_mem (f := (·.1)) hp)) h1, h2, h3, h4, h5⟩
 ·rintro rfl
  rcases g4 with g4 | g4
  ·exact absurd (Heap.lt_size e) (Nat.not_lt.mpr g4)
  ·exact h2 g4
theorem Fx.update {d : Addr} {o : Obj} {f : Obj → Obj} {t : Nat} (F : Fx B md s₀ st₀ st L ((d, o) :: own) l s) (hk : ∀ vs, o.data ≠ .fields vs) (hf : (f o).isFreed = false) :
  Fx B md s₀ st₀ st L ((d, f o) :: own) l { s with heap := s.heap.update d f, toks := t } :=
 F.change hk (Heap.SameBut.update ..) (Heap.get?_update_self _ (F.ow (d, o) (.head _)).1 hf)
theorem Fx.pushA {o : Obj} {t : Nat} (F : Fx B md s₀ st₀ st L own l s) (hf : o.isFreed = false) :
  Inv B { s with heap := s.heap.push o, toks := t } ∧ (∃ m, (s.heap.push o).Ns L m ∧ ∀ p ∈ l, m p.1 = some p.2) ∧ Ext md s₀.heap (s.heap.push o) := by
 have keep : ∀ b x, s.heap.get? b = some x → (s.heap.push o).get? b = some x := fun b x e => Heap.get?_push_of_some _ e
 have hsz : s.heap.objs.size ≤ (s.heap.push o).objs.size := by rw [Heap.size_push]; exact Nat.le_succ _
 refine ⟨⟨fun b x e => keep b x (F.inv.base b x e), F.inv.bare, fun x hx => ?_, Nat.le_trans F.inv.size hsz⟩, ?_, fun b x h1 h2 e => keep b x (F.ext.1 b x h1 h2 e), Nat.le_trans F.ext.2 hsz⟩
 ·obtain ⟨ps, h1, h2, h3⟩ := (F.inv.tabs x hx).ex
  exact ⟨ps, keep _ _ h1, h2, fun pos cv hc => (h3 pos cv hc).keeps keep⟩
 ·obtain ⟨m, hn, hm⟩ := F.ns
  exact ⟨m, hn.keeps keep, hm⟩
theorem Fx.fresh (F : Fx B md s₀ st₀ st L own l s) : st s.heap.objs.size = none := by
 cases q : st s.heap.objs.size with
 | none => rfl
 | some o => exact absurd (Heap.lt_size (F.le _ _ q)) (Nat.lt_irrefl _)
theorem Fx.pushO {o : Obj} {t : Nat} (F : Fx B md s₀ st₀ st L own l s) (hf : o.isFreed = false) :
  Fx B md s₀ st₀ st L ((s.heap.objs.size, o) :: own) l { s with heap := s.heap.push o, toks := t } := by
 obtain ⟨I, N, X⟩ := F.pushA (t := t) hf
 refine ⟨F.ok, I, N, fun b x e => Heap.get?_push_of_some _ (F.le b x e), F.offT, F.offL, F.hL, fun p hp => ?_, ?_, X, F.new, F.old, F.os, F.gs⟩
 ·rcases List.mem_cons.mp hp with rfl | hp
  ·exact ⟨Heap.get?_push_size _ hf, F.fresh, fun e => Nat.lt_irrefl _ (e ▸ F.ltL), .inl F.ext.2, F.inv.size⟩
  ·obtain ⟨h1, h2, h3, h4, h5⟩ := F.ow p hp
   exact ⟨Heap.get?_push_of_some _ h1, h2, h3, h4, h5⟩
 ·refine List.nodup_cons.mpr ⟨fun hm => ?_, F.nodup⟩
  obtain ⟨p, hp, e⟩ := List.mem_map.mp hm
  have := Heap.lt_size (F.ow p hp).1
  rw [e] at this
  exact Nat.lt_irrefl _ this
set_option tactic.hygienic true in
theorem Fx.pushS {o : Obj} {t : Nat} (F : Fx B md s₀ st₀ st L own l s) (hf : o.isFreed = false) :
  St.le st (st.put s.heap.objs.size o) ∧ Fx B md s₀ st₀ (st.put s.heap.objs.size o) L own l { s with heap := s.heap.push o, toks := t } := by
 obtain ⟨I, N, X⟩ := F.pushA (t := t) hf
 have le : St.le st (st.put s.heap.objs.size o) := fun b x e => by
  unfold St.put
  rw [if_neg (fun q => by rw [q, F.fresh] at e; cases e)]; exact e
 refine ⟨le, F.ok, I, N, fun b x e => ?_, fun P hP => ?_, ?_, F.hL, fun p hp => ?_, F.nodup, X, fun b x e hb => ?_, F.old.trans le, F.os, F.gs⟩
 ·unfold St.put at e
  split at e
  ·rename_i q; cases e; rw [q]; exact Heap.get?_push_size _ hf
  ·exact Heap.get?_push_of_some _ (F.le b x e)
 ·unfold St.put
  rw [if_neg (Nat.ne_of_lt (F.Tlt P hP))]; exact F.offT P hP
 ·unfold St.put
  rw [if_neg (Nat.ne_of_lt F.ltL)]; exact F.offL
 ·obtain ⟨h1, h2, h3, h4, h5⟩ := F.ow p hp
  refine ⟨Heap.get?_push_of_some _ h1, ?_, h3, h4, h5⟩
  unfold St.put
  rw [if_neg (Nat.ne_of_lt (Heap.lt_size h1))]; exact h2
 ·unfold St.put at e
  split at e
  ·rename_i q; exact absurd (q ▸ hb) (Nat.not_lt.mpr F.ext.2)
  ·exact F.new b x e hb
set_option tactic.hygienic true in
theorem Fx.freeze {d : Addr} {o : Obj} (F : Fx B md s₀ st₀ st L ((d, o) :: own) l s) (hn : s₀.heap.objs.size ≤ d) :
  St.le st (st.put d o) ∧ Fx B md s₀ st₀ (st.put d o) L own l s := by
 obtain ⟨g1, g2, g3, g4, g5⟩ := F.ow (d, o) (.head _)
 dsimp only at g1 g2 g3 g4 g5
 have nd := List.nodup_cons.mp F.nodup
 have le : St.le st (st.put d o) := fun b x e => by
  unfold St.put
  rw [if_neg (fun q => by rw [q, g2] at e; cases e)]; exact e
 refine ⟨le, F.ok, F.inv, F.ns, fun b x e => ?_, fun P hP => ?_, ?_, F.hL, fun p hp => ?_, nd.2, F.ext, fun b x e hb => ?_, F.old.trans le, F.os, F.gs⟩
 ·unfold St.put at e
  split at e
  ·rename_i q; cases e; rw [q]; exact g1
  ·exact F.le b x e
 ·unfold St.put
  rw [if_neg (fun (e : P = d) => F.notTT g5 (e ▸ hP))]; exact F.offT P hP
 ·unfold St.put
  rw [if_neg g3.symm]; exact F.offL
 ·obtain ⟨h1, h2, h3, h4, h5⟩ := F.ow p (.tail _ hp)
  refine ⟨h1, ?_, h3, h4, h5⟩
  unfold St.put
  rw [if_neg (fun (q : p.1 = d) => nd.1 (q ▸ List.mem_map_of_mem (f := (·.1)) hp))]; exact h2
 ·unfold St.put at e
  split at e
  ·rename_i q; exact absurd (q ▸ hb) (Nat.not_lt.mpr hn)
  ·exact F.new b x e hb
theorem St.put_self {st : St} {a : Addr} {o : Obj} : st.put a o a = some o := if_pos rfl
theorem Fx.ownPerm {own' : List (Addr × Obj)} (F : Fx B md s₀ st₀ st L own l s) (h : own'.Perm own) : Fx B md s₀ st₀ st L own' l s :=
 { F with ow := fun p hp => F.ow p (h.mem_iff.mp hp), nodup := (h.map (·.1)).nodup_iff.mpr F.nodup }
end
end Mine
namespace Mine
noncomputable abbrev Rm (A : Around) (n : Nat) : Prop := Room A n (8 * n)
theorem Rm.le {A : Around} {n m : Nat} (R : Rm A n) (h : m ≤ n) : Rm A m := Room.le R h (by o_head qo)
theorem Rm.in1 {A : Around} {n : Nat} (R : Rm A (n + 1)) : Rm A.in1 n := Room.in1 (Room.le R (by o_head qo) (by o_head qo))
theorem Rm.room {A : Around} {n : Nat} (R : Rm A (n + 1)) : Room A (n + 1) (8 * n + 3) := Room.le R (Nat.le_refl _) (by o_head qo)
theorem tc_cost (C : Addr) (rest : List Value) (kw : List (Str × Value)) : (Code.builtin "type.__call__" ⟨.ref C :: rest, kw⟩).weight = 1 ∧ (Code.builtin "type.__call__" ⟨.ref C :: rest, kw⟩).cUnits ≤ 4 := by
 constructor
 ·kernel_rfl
 ·exact Nat.le_of_ble_eq_true (by kernel_rfl)
theorem Rm.make {A : Around} {n : Nat} {C : Addr} {rest : List Value} {kw : List (Str × Value)} (R : Rm A (n + 1)) : Rm (A.under (.builtin "type.__call__" ⟨.ref C :: rest, kw⟩)) n := by
 obtain ⟨h1, h2⟩ := tc_cost C rest kw
 refine ⟨R.hh, ?_, ?_⟩
 ·have := R.d
  show A.depth + _ + n < _
  rw [h1]; o_head qo
 ·have := R.u
  show A.units + _ + 8 * n < _
  o_head qo
noncomputable def setB (K : Frag) (C : Addr) (name : Str) : Bool := findIn K (.ref C) "__setattr__" == some (some (.builtin "object.__setattr__")) && plainOver K C && takerIn K C name == some none && (clsIn K C).any (·.hasDict)
noncomputable def putF (name : Str) (v : Value) : List (Str × Value) → List (Str × Value)
 | [] => [(name, v)]
 | p :: r => if p.1 == name then (name, v) :: r else p :: putF name v r
theorem Ents.put {name : Str} {hsh : Int} {t : Tok} {v : Value} : ∀ {fs : List (Str × Value)} {es : List DictEntry}, Ents fs es → Ents (putF name v fs) (putL name hsh (.str name t) v es) ∧ (putL name hsh (.str name t) v es).length ≤ es.length + 1
 | [], [], _ => ⟨⟨⟨t, rfl⟩, rfl, trivial⟩, Nat.le_refl _⟩
 | p :: ps, e :: es, ⟨⟨u, h1⟩, h2, h3⟩ => by
  unfold putF putL
  rw [h1, isStr_str]
  by_cases q : (p.1 == name) = true
  ·rw [if_pos q, if_pos q]
   exact ⟨⟨⟨u, by show Value.str p.1 u = Value.str name u; rw [beq_iff_eq.mp q]⟩, rfl, h3⟩, Nat.le_succ _⟩
  ·rw [if_neg q, if_neg q]
   obtain ⟨i1, i2⟩ := Ents.put (name := name) (hsh := hsh) (t := t) (v := v) h3
   exact ⟨⟨⟨u, h1⟩, h2, i1⟩, Nat.succ_le_succ i2⟩
 | [], _ :: _, h => h.elim
 | _ :: _, [], h => h.elim
section
variable {B : Bs} {md : List Addr} {s₀ s : Shared} {st₀ st : St} {L : Addr} {own : List (Addr × Obj)} {l : List (Str × Value)} {A : Around}
theorem set_exact {prog : Program} {w : World} {K : Frag} {x dx C : Addr} {es : List DictEntry} {n : Nat} {fs : List (Str × Value)} {name : Str} {v : Value} {Q : Unit → Shared → Prop} {E : Value → Shared → Prop}
  (X : K.In s.heap) (hc : setB K C name = true) (hx : s.heap.get? x = some (instObj C dx)) (hd : s.heap.get? dx = some (dictOf es n)) (hf : Ents fs es) (hz : es.length ≤ 900)
  (h : ∀ t t' : Nat, Q () { s with heap := s.heap.update dx (Obj.putName name (PyData.keyHash w.params name) (.str name t') v), toks := t }) :
  wpAny (model prog w) A (setAttr (.ref x) name v) Q E s := by
 simp only [setB, Bool.and_eq_true, beq_iff_eq] at hc
 obtain ⟨⟨⟨c1, c2⟩, c3⟩, c4⟩ := hc
 have I : InstAt s.heap x (instObj C dx) C (some (dictOf es n)) := ⟨hx, rfl, rfl, hd⟩
 obtain ⟨cd, hcd, hdict⟩ := any_some c4
 refine set_plain (name := name) (v := v) X I c1 ?_
 refine osa_open (s := { s with toks := s.toks + 1 }) X I c2 c3 fun b => ?_
 have hf' : (Obj.putName name (PyData.keyHash w.params name) (.str name (s.toks + 1)) v (dictOf es n)).isFreed = false := by rw [putName_dict]; rfl
 have D' := Heap.get?_update_self (f := Obj.putName name (PyData.keyHash w.params name) (.str name (s.toks + 1)) v) hd hf'
 have key : (!es.toArray.any (·.key.isStr name) && es.toArray.any (·.refKey)) = false := by
  rw [← Array.any_toList (as := es.toArray), ← Array.any_toList (as := es.toArray)]
  have := hf.noRef
  show (_ && es.any _) = false
  rw [this, Bool.and_false]
 refine wpAny_bind (wpAny_pure (wpAny_bind (wpAny_bind (wpAny_loadPart hx (wpAny_bind (Looks.here (s := { s with toks := s.toks + 1 }) (looks_clsIn X hcd) ?_))))))
 rw [hdict]
 refine wpAny_pure (a := some dx) (wpAny_bind (wpAny_pure (wpAny_bind ?_)))
 unfold nsSet
 refine wpAny_bind (wpAny_bind (wpAny_askSetting (wpAny_pure (wpAny_bind (wpAny_mkText (wpAny_bind (wpAny_loadPart hd ?_)))))))
 dsimp only
 rw [aRefKeyMayBeTheName_at, key]
 refine wpAny_updatePart hd (wpAny_bind (wpAny_lookBehind D' ?_ (wpAny_pure ?_)))
 ·rw [putName_dict]
  refine pastItsLine_dict ?_
  have := (Ents.put (name := name) (hsh := PyData.keyHash w.params name) (t := s.toks + 1) (v := v) hf).2
  rw [List.size_toArray, sizeLine_eq]; o_head qo
 ·exact h _ _
theorem Ents.len : ∀ {fs : List (Str × Value)} {es : List DictEntry}, Ents fs es → es.length = fs.length
 | [], [], _ => rfl
 | _ :: _, _ :: _, ⟨_, _, h⟩ => congrArg (· + 1) h.len
 | [], _ :: _, h => h.elim
 | _ :: _, [], h => h.elim
theorem Fx.setO {x dx C : Addr} {es : List DictEntry} {n : Nat} {fs : List (Str × Value)} {name : Str} {v : Value} {Q : Unit → Shared → Prop} {E : Value → Shared → Prop}
  (F : Fx B md s₀ st₀ st L ((dx, dictOf es n) :: own) l s) (hx : st x = some (instObj C dx)) (hc : setB (hd.heap_39 B.w.params) C name = true) (hf : Ents fs es) (hz : fs.length ≤ 900)
  (h : ∀ es' n' s', Ents (putF name v fs) es' → Fx B md s₀ st₀ st L ((dx, dictOf es' n') :: own) l s' → Q () s') :
  wpAny (model B.prog B.w) A (setAttr (.ref x) name v) Q E s := by
 refine set_exact F.X hc (F.le _ _ hx) (F.ow _ (.head _)).1 hf (by rw [hf.len]; exact hz) fun t t' => ?_
 have G := F.update (f := Obj.putName name (PyData.keyHash B.w.params name) (.str name t') v) (t := t) (fun vs e => nomatch e) (by rw [putName_dict]; rfl)
 rw [putName_dict] at G
 obtain ⟨i1, _⟩ := Ents.put (name := name) (hsh := PyData.keyHash B.w.params name) (t := t') (v := v) hf
 exact h _ _ _ i1 G
set_option tactic.hygienic true in
theorem make {C fI : Addr} {name qual : Str} {params : Arguments} {body : List Stmt} {scope : Scope} {dV kV doc pm cdv ct oc : Value} {an od : Option Addr} {osl : Array (Option Value)} {args : List Value} {binds : Addr → List (Str × Value)} {fs : List (Str × Value)} {n : Nat}
  (H : At B st s) (R : Rm A (n + 2)) (hC : (makesIn (hd.heap_39 B.w.params) C && (findIn (hd.heap_39 B.w.params) (.ref C) "__init__" == some (some (.ref fI))) && (typeIn (hd.heap_39 B.w.params) (.ref fI) == some (.type "function"))) = true)
  (ho : (hd.heap_39 B.w.params).lookup fI = some ⟨oc, od, .func (fnOf name qual params body scope dV kV doc pm an cdv ct), osl⟩) (hcd : codeIn (hd.heap_39 B.w.params) cdv qual = true)
  (hbind : ∀ x s', BindsTo s' (fnOf name qual params body scope dV kV doc pm an cdv ct) ⟨.ref x :: args, []⟩ (binds x)) (hS : ScopeOk scope) {ps : List Str} (hps : ∀ x, (binds x).map (·.1) = ps) (hloc : ∀ y ∈ ps, (y, NameKind.local) ∈ scope.names) (hbn : ps.Nodup) (hcell : ∀ x ∈ scope.names, x.2 ≠ .cell)
  (hco : scope.isCoroutine = false) (hgen : scope.isGenerator = false)
  (h : ∀ (Q : Value → Shared → Prop) L s' s₁ env A' x dx st', St.le st st' → st' x = some (instObj C dx) → En env L scope.names [] qual cdv → Rm A' n → Fx B [dx] s' st' st' L [(dx, dictOf [] 0)] (binds x) s₁ →
   (∀ es m st'' l own s'', Fx B [dx] s' st' st'' L ((dx, dictOf es m) :: own) l s'' → Ents fs es → Q .none s'') →
   wpAny (model B.prog B.w) A' (execs body env) (fun fl s' => Q (match fl with | .ret v => v | _ => .none) s') (fun z z => False) s₁) :
  Spec B A [] st s (call (.ref C) args) (fun z st' v => ∃ x, v = .ref x ∧ Inst st' x C fs) := fun Q E k => by
 simp only [Bool.and_eq_true, beq_iff_eq, decide_eq_true_eq] at hC
 have X := H.ok.X.keeps H.inv.base
 obtain ⟨hh, g, dr, t, os⟩ := s
 have e1 : ∀ b o, hh.get? b = some o → ((hh.push emptyDict).push (instObj C hh.objs.size)).get? b = some o := fun b o e => Heap.get?_push_of_some _ (Heap.get?_push_of_some _ e)
 have z1 : (hh.push emptyDict).objs.size = hh.objs.size + 1 := Heap.size_push _ _
 have z2 : ((hh.push emptyDict).push (instObj C hh.objs.size)).objs.size = hh.objs.size + 2 := by rw [Heap.size_push, z1]
 have ed : ((hh.push emptyDict).push (instObj C hh.objs.size)).get? hh.objs.size = some emptyDict := Heap.get?_push_of_some _ (Heap.get?_push_size _ rfl)
 have ex : ((hh.push emptyDict).push (instObj C hh.objs.size)).get? (hh.objs.size + 1) = some (instObj C hh.objs.size) := by have := Heap.get?_push_size (hh.push emptyDict) (o := instObj C hh.objs.size) rfl; rwa [z1] at this
 have fr1 : ∀ b : Nat, hh.objs.size ≤ b → st b = none := fun b hb => by
  cases q : st b with
  | none => rfl
  | some o => exact absurd (Heap.lt_size (H.le _ _ q)) (Nat.not_lt.mpr hb)
 have hle : St.le st (st.put (hh.objs.size + 1) (instObj C hh.objs.size)) := fun b o e => by
  unfold St.put
  rw [if_neg (fun q => by rw [q, fr1 _ (Nat.le_succ _)] at e; cases e)]; exact e
 have hgs : B.g.objs.size ≤ hh.objs.size := H.inv.size
 have hTl : ∀ P ∈ TT, @LT.lt Nat _ P hh.objs.size := fun P hP => Nat.lt_of_lt_of_le (Nat.lt_of_lt_of_le (TT_lt P hP) H.ok.size) hgs
 have H' : At B (st.put (hh.objs.size + 1) (instObj C hh.objs.size)) ⟨(hh.push emptyDict).push (instObj C hh.objs.size), g, dr, t, os⟩ := by
  refine ⟨H.ok, ⟨fun b o e => e1 _ _ (H.inv.base _ _ e), H.inv.bare, fun y hy => ?_, by show _ ≤ Array.size _; rw [z2]; o_head qo⟩, fun b o e => ?_, fun P hP => ?_⟩
  ·obtain ⟨ps, h1, h2, h3⟩ := (H.inv.tabs y hy).ex
   exact ⟨ps, e1 _ _ h1, h2, fun pos cv hc => (h3 pos cv hc).keeps e1⟩
  ·unfold St.put at e
   split at e
   ·rename_i q; cases e; rw [q]; exact ex
   ·exact e1 _ _ (H.le _ _ e)
  ·unfold St.put
   have := hTl P hP
   rw [if_neg (fun (q : P = hh.objs.size + 1) => by o_head qo)]; exact H.offT P hP
 have hx' : (st.put (hh.objs.size + 1) (instObj C hh.objs.size)) (hh.objs.size + 1) = some (instObj C hh.objs.size) := if_pos rfl
 have own : ∀ p ∈ [((hh.objs.size : Addr), dictOf [] 0)], ((hh.push emptyDict).push (instObj C hh.objs.size)).get? p.1 = some p.2 ∧ (st.put (hh.objs.size + 1) (instObj C hh.objs.size)) p.1 = none ∧ p.1 ∈ [hh.objs.size] ∧ B.g.objs.size ≤ p.1 := by
  intro p hp
  cases List.mem_singleton.mp hp
  refine ⟨ed, ?_, .head _, hgs⟩
  unfold St.put
  rw [if_neg (Nat.ne_of_lt (Nat.lt_succ_self _))]; exact fr1 _ (Nat.le_refl _)
 refine wpAny_call (make_core (makes_of X hC.1.1) (looks_findIn X hC.1.2) (fun self => bind_fn X self hC.2) (.inl rfl) ?_)
 have nd : ([((hh.objs.size : Addr), dictOf [] 0)].map (·.1)).Nodup := List.nodup_cons.mpr ⟨(fun h => nomatch h), .nil⟩
 refine enterC (md := [hh.objs.size]) H' own nd (Rm.make (C := C) (rest := args) (kw := []) R).room ho hcd (hbind (hh.objs.size + 1) _) hS (hps _) hloc hbn hcell hco hgen fun L s₁ env A' N R' F => ?_
 refine h (fun v s' => InitBack (hh.objs.size + 1) _ (.ok (.ret v)) s') L _ s₁ env A' (hh.objs.size + 1) hh.objs.size _ hle hx' N R' F fun es m st'' l own s'' F' hE => ⟨rfl, ?_⟩
 refine k _ s'' F'.inv ⟨fun b o hT hM e => ?_, ?_⟩ F'.os ⟨_, rfl, hh.objs.size, m, es, ?_, ?_, hE⟩
 ·refine F'.ext.1 _ _ hT (fun hM => ?_) (e1 _ _ e)
  cases List.mem_singleton.mp hM; exact Nat.lt_irrefl _ (Heap.lt_size e)
 ·have h1 := F'.ext.2
  rw [show (Shared.heap ⟨(hh.push emptyDict).push (instObj C hh.objs.size), g, dr, t, os⟩).objs.size = hh.objs.size + 2 from z2] at h1
  exact Nat.le_trans (Nat.le_add_right _ 2) h1
 ·show (if _ then _ else _) = _
  rw [if_neg (Nat.not_lt.mpr (Nat.le_succ _))]
  exact F'.le _ _ (F'.old _ _ hx')
 ·show (if _ then _ else _) = _
  rw [if_neg (Nat.lt_irrefl _)]
  exact (F'.ow _ (.head _)).1
end
end Mine
namespace Mine
noncomputable def replF : Ex → Addr
 | .nm _ => 454 | .qu .. => 606 | _ => 261
noncomputable def freeF : Ex → Addr
 | .nm n => if n.isVar then 501 else 565
 | .qu .. => 618
 | _ => 287
noncomputable def constF : Ex → Addr
 | .nm n => if n.isVar then 508 else 572
 | .app .. => 362
 | _ => 294
noncomputable def predF : Ex → Addr
 | .nm _ => 461 | .app .. => 369 | _ => 301
noncomputable def simpF : Ex → Addr
 | .nm _ => 446 | .app .. => 348 | _ => 308
noncomputable def visitF : Ex → Addr
 | .nm _ => 268 | .app .. => 376 | .neg _ => 790 | .qu .. => 625 | .bin .. => 837
noncomputable def madeF : Ex → Addr
 | .nm _ => 0 | .app .. => 355 | .neg _ => 783 | .qu .. => 632
 | .bin .and _ _ => 889 | .bin .or _ _ => 929 | .bin .imp _ _ => 969 | .bin .eq _ _ => 1035
noncomputable def strF : Ex → Addr
 | .nm _ => 482 | .app .. => 390 | .neg _ => 811 | .qu .. => 691 | .bin .. => 851
noncomputable def binderF (b : Bool) : Addr := if b then 743 else 710
noncomputable def alikeF (b : Bool) : Addr := if b then 750 else 717
noncomputable def getQF (b : Bool) : Addr := if b then 757 else 724
noncomputable def getOpF : Op → Addr
 | .and => 903 | .or => 943 | .imp => 983 | .eq => 1049
noncomputable def subexF : Op → Addr
 | .and => 910 | .or => 950 | .imp => 858 | .eq => 858
noncomputable def clsL : List Addr := [423, 511, 575, 760, 727, 814, 913, 953, 986, 1052]
noncomputable def clsM : List Addr := [126, 46, 1135] ++ clsL
theorem clsOf_mem (e : Ex) : clsOf e ∈ clsL := by
 cases e with
 | nm n => cases n <;> decide
 | app f a => show 423 ∈ clsL; decide
 | neg t => show 814 ∈ clsL; decide
 | qu b n t => show quCls b ∈ clsL; cases b <;> decide
 | bin o a b => show opCls o ∈ clsL; cases o <;> decide
theorem clsOf_memM (e : Ex) : clsOf e ∈ clsM := List.mem_append_right _ (clsOf_mem e)
theorem nm_memM (n : Nm) : nmCls n ∈ clsM := clsOf_memM (.nm n)
theorem qu_memM (b : Bool) : quCls b ∈ clsM := clsOf_memM (.qu b .x (.nm .x))
theorem op_memM (o : Op) : opCls o ∈ clsM := clsOf_memM (.bin o (.nm .x) (.nm .x))
theorem pg_all (P) : (clsM.all fun D => plainGet (hd.heap_39 P) D "" && hasDictIn (hd.heap_39 P) D && (findIn (hd.heap_39 P) (.ref D) "__setattr__" == some (some (.builtin "object.__setattr__"))) && plainOver (hd.heap_39 P) D) = true := by kernel_rfl
noncomputable def fnL : List Addr := [454, 606, 261, 501, 565, 618, 287, 508, 572, 362, 294, 461, 369, 301, 446, 348, 308, 253, 280, 275, 268, 376, 790, 625, 837, 315, 355, 783, 632, 889, 929, 969, 1035, 743, 710, 750, 717, 757, 724, 613, 903, 943, 983, 1049, 910, 950, 858, 420, 397, 43, 482, 390, 811, 691, 851, 123]
theorem fn_all (P) : (fnL.all fun f => isFn (hd.heap_39 P) (.ref f) && keepIn (hd.heap_39 P) (.ref f)) = true := by kernel_rfl
theorem pg_of (P) {C : Addr} (hC : C ∈ clsM) (name : Str) : plainGet (hd.heap_39 P) C name = true ∧ hasDictIn (hd.heap_39 P) C = true ∧ findIn (hd.heap_39 P) (.ref C) "__setattr__" = some (some (.builtin "object.__setattr__")) ∧ plainOver (hd.heap_39 P) C = true := by
 have h := List.all_eq_true.mp (pg_all P) C hC
 simp only [Bool.and_eq_true, beq_iff_eq] at h
 exact ⟨h.1.1.1, h.1.1.2, h.1.2, h.2⟩
theorem meth_of (P) {C f : Addr} {name : Str} (hC : C ∈ clsM) (hf : f ∈ fnL) (h : findIn (hd.heap_39 P) (.ref C) name == some (some (.ref f))) : methB (hd.heap_39 P) C name f = true := by
 have h2 := List.all_eq_true.mp (fn_all P) f hf
 unfold methB
 rw [(pg_of P hC name).1, h, Bool.true_and, Bool.true_and]
 exact h2
theorem field_of (P) {C : Addr} {name : Str} (hC : C ∈ clsM) (h : findIn (hd.heap_39 P) (.ref C) name == some none) : fieldB (hd.heap_39 P) C name = true := by
 unfold fieldB
 rw [(pg_of P hC name).1, (pg_of P hC name).2.1, h]; rfl
theorem set_of (P) {C : Addr} {name : Str} (hC : C ∈ clsM) (h : findIn (hd.heap_39 P) (.ref C) name = some none) : setB (hd.heap_39 P) C name = true := by
 have h1 := pg_of P hC name
 have h2 := h1.2.1
 unfold hasDictIn at h2
 unfold setB takerIn
 rw [h1.2.2.1, h1.2.2.2, h]
 simpa using h2
noncomputable abbrev fldL : List (Addr × Str) := [((126 : Addr), ("name" : Str)), ((423 : Addr), ("function" : Str)), ((423 : Addr), ("argument" : Str)), ((814 : Addr), ("term" : Str)), ((46 : Addr), ("_value" : Str)), ((1135 : Addr), ("d" : Str))]
theorem fld_all (P) : (fldL.all fun p => findIn (hd.heap_39 P) (.ref p.1) p.2 == some none && clsM.contains p.1) = true := by kernel_rfl
theorem fld_of (P) {C : Addr} {n : Str} (h : (C, n) ∈ fldL) : fieldB (hd.heap_39 P) C n = true := by
 have h1 := List.all_eq_true.mp (fld_all P) _ h
 rw [Bool.and_eq_true] at h1
 exact field_of P (List.contains_iff_mem.mp h1.2) h1.1
theorem fld_set (P) {C : Addr} {n : Str} (h : (C, n) ∈ fldL) : setB (hd.heap_39 P) C n = true := by
 have h1 := List.all_eq_true.mp (fld_all P) _ h
 rw [Bool.and_eq_true] at h1
 exact set_of P (List.contains_iff_mem.mp h1.2) (beq_iff_eq.mp h1.1)
theorem f_126_name (P) : fieldB (hd.heap_39 P) 126 "name" = true := fld_of P (by decide)
theorem f_46_value (P) : fieldB (hd.heap_39 P) 46 "_value" = true := fld_of P (by decide)
theorem d_nm_variable (P) (n : Nm) : findIn (hd.heap_39 P) (.ref (nmCls n)) "variable" == some none := by dsimp only [nmCls]; cases n.isVar <;> kernel_rfl
theorem f_nm_variable (P) (n : Nm) : fieldB (hd.heap_39 P) (nmCls n) "variable" = true := field_of P (nm_memM n) (d_nm_variable P _)
theorem s_nm_variable (P) (n : Nm) : setB (hd.heap_39 P) (nmCls n) "variable" = true := set_of P (nm_memM n) (beq_iff_eq.mp (d_nm_variable P _))
theorem d_qu_variable (P) (b : Bool) : findIn (hd.heap_39 P) (.ref (quCls b)) "variable" == some none := by cases b <;> kernel_rfl
theorem f_qu_variable (P) (b : Bool) : fieldB (hd.heap_39 P) (quCls b) "variable" = true := field_of P (qu_memM b) (d_qu_variable P _)
theorem s_qu_variable (P) (b : Bool) : setB (hd.heap_39 P) (quCls b) "variable" = true := set_of P (qu_memM b) (beq_iff_eq.mp (d_qu_variable P _))
theorem d_qu_term (P) (b : Bool) : findIn (hd.heap_39 P) (.ref (quCls b)) "term" == some none := by cases b <;> kernel_rfl
theorem f_qu_term (P) (b : Bool) : fieldB (hd.heap_39 P) (quCls b) "term" = true := field_of P (qu_memM b) (d_qu_term P _)
theorem s_qu_term (P) (b : Bool) : setB (hd.heap_39 P) (quCls b) "term" = true := set_of P (qu_memM b) (beq_iff_eq.mp (d_qu_term P _))
theorem d_op_first (P) (o : Op) : findIn (hd.heap_39 P) (.ref (opCls o)) "first" == some none := by cases o <;> kernel_rfl
theorem f_op_first (P) (o : Op) : fieldB (hd.heap_39 P) (opCls o) "first" = true := field_of P (op_memM o) (d_op_first P _)
theorem s_op_first (P) (o : Op) : setB (hd.heap_39 P) (opCls o) "first" = true := set_of P (op_memM o) (beq_iff_eq.mp (d_op_first P _))
theorem d_op_second (P) (o : Op) : findIn (hd.heap_39 P) (.ref (opCls o)) "second" == some none := by cases o <;> kernel_rfl
theorem f_op_second (P) (o : Op) : fieldB (hd.heap_39 P) (opCls o) "second" = true := field_of P (op_memM o) (d_op_second P _)
theorem s_op_second (P) (o : Op) : setB (hd.heap_39 P) (opCls o) "second" = true := set_of P (op_memM o) (beq_iff_eq.mp (d_op_second P _))
theorem m_replace (P) (e : Ex) : methB (hd.heap_39 P) (clsOf e) "replace" (replF e) = true := meth_of P (clsOf_memM e) (by cases e with | nm n => cases n <;> decide | app f a => (show _ ∈ fnL; exact of_decide_eq_true rfl) | neg t => exact of_decide_eq_true rfl | qu b n t => exact of_decide_eq_true rfl | bin o a b => exact of_decide_eq_true rfl) (by cases e with | nm n => dsimp only [clsOf, nmCls, replF, freeF, constF, predF, simpF, visitF]; cases n.isVar <;> kernel_rfl | app f a => kernel_rfl | neg t => kernel_rfl | qu b n t => cases b <;> kernel_rfl | bin o a b => cases o <;> kernel_rfl)
theorem m_free (P) (e : Ex) : methB (hd.heap_39 P) (clsOf e) "free" (freeF e) = true := meth_of P (clsOf_memM e) (by cases e with | nm n => cases n <;> decide | app f a => (show _ ∈ fnL; exact of_decide_eq_true rfl) | neg t => exact of_decide_eq_true rfl | qu b n t => exact of_decide_eq_true rfl | bin o a b => exact of_decide_eq_true rfl) (by cases e with | nm n => dsimp only [clsOf, nmCls, replF, freeF, constF, predF, simpF, visitF]; cases n.isVar <;> kernel_rfl | app f a => kernel_rfl | neg t => kernel_rfl | qu b n t => cases b <;> kernel_rfl | bin o a b => cases o <;> kernel_rfl)
theorem m_constants (P) (e : Ex) : methB (hd.heap_39 P) (clsOf e) "constants" (constF e) = true := meth_of P (clsOf_memM e) (by cases e with | nm n => cases n <;> decide | app f a => (show _ ∈ fnL; exact of_decide_eq_true rfl) | neg t => exact of_decide_eq_true rfl | qu b n t => exact of_decide_eq_true rfl | bin o a b => exact of_decide_eq_true rfl) (by cases e with | nm n => dsimp only [clsOf, nmCls, replF, freeF, constF, predF, simpF, visitF]; cases n.isVar <;> kernel_rfl | app f a => kernel_rfl | neg t => kernel_rfl | qu b n t => cases b <;> kernel_rfl | bin o a b => cases o <;> kernel_rfl)
theorem m_predicates (P) (e : Ex) : methB (hd.heap_39 P) (clsOf e) "predicates" (predF e) = true := meth_of P (clsOf_memM e) (by cases e with | nm n => cases n <;> decide | app f a => (show _ ∈ fnL; exact of_decide_eq_true rfl) | neg t => exact of_decide_eq_true rfl | qu b n t => exact of_decide_eq_true rfl | bin o a b => exact of_decide_eq_true rfl) (by cases e with | nm n => dsimp only [clsOf, nmCls, replF, freeF, constF, predF, simpF, visitF]; cases n.isVar <;> kernel_rfl | app f a => kernel_rfl | neg t => kernel_rfl | qu b n t => cases b <;> kernel_rfl | bin o a b => cases o <;> kernel_rfl)
theorem m_simplify (P) (e : Ex) : methB (hd.heap_39 P) (clsOf e) "simplify" (simpF e) = true := meth_of P (clsOf_memM e) (by cases e with | nm n => cases n <;> decide | app f a => (show _ ∈ fnL; exact of_decide_eq_true rfl) | neg t => exact of_decide_eq_true rfl | qu b n t => exact of_decide_eq_true rfl | bin o a b => exact of_decide_eq_true rfl) (by cases e with | nm n => dsimp only [clsOf, nmCls, replF, freeF, constF, predF, simpF, visitF]; cases n.isVar <;> kernel_rfl | app f a => kernel_rfl | neg t => kernel_rfl | qu b n t => cases b <;> kernel_rfl | bin o a b => cases o <;> kernel_rfl)
theorem m_substitute_bindings (P) (e : Ex) : methB (hd.heap_39 P) (clsOf e) "substitute_bindings" (253) = true := meth_of P (clsOf_memM e) (by decide) (by cases e with | nm n => dsimp only [clsOf, nmCls, replF, freeF, constF, predF, simpF, visitF]; cases n.isVar <;> kernel_rfl | app f a => kernel_rfl | neg t => kernel_rfl | qu b n t => cases b <;> kernel_rfl | bin o a b => cases o <;> kernel_rfl)
theorem m_variables (P) (e : Ex) : methB (hd.heap_39 P) (clsOf e) "variables" (280) = true := meth_of P (clsOf_memM e) (by decide) (by cases e with | nm n => dsimp only [clsOf, nmCls, replF, freeF, constF, predF, simpF, visitF]; cases n.isVar <;> kernel_rfl | app f a => kernel_rfl | neg t => kernel_rfl | qu b n t => cases b <;> kernel_rfl | bin o a b => cases o <;> kernel_rfl)
theorem m_visit_structured (P) (e : Ex) : methB (hd.heap_39 P) (clsOf e) "visit_structured" (275) = true := meth_of P (clsOf_memM e) (by decide) (by cases e with | nm n => dsimp only [clsOf, nmCls, replF, freeF, constF, predF, simpF, visitF]; cases n.isVar <;> kernel_rfl | app f a => kernel_rfl | neg t => kernel_rfl | qu b n t => cases b <;> kernel_rfl | bin o a b => cases o <;> kernel_rfl)
theorem m_visit (P) (e : Ex) : methB (hd.heap_39 P) (clsOf e) "visit" (visitF e) = true := meth_of P (clsOf_memM e) (by cases e with | nm n => cases n <;> decide | app f a => (show _ ∈ fnL; exact of_decide_eq_true rfl) | neg t => exact of_decide_eq_true rfl | qu b n t => exact of_decide_eq_true rfl | bin o a b => exact of_decide_eq_true rfl) (by cases e with | nm n => dsimp only [clsOf, nmCls, replF, freeF, constF, predF, simpF, visitF]; cases n.isVar <;> kernel_rfl | app f a => kernel_rfl | neg t => kernel_rfl | qu b n t => cases b <;> kernel_rfl | bin o a b => cases o <;> kernel_rfl)
theorem m_made_app (P) : methB (hd.heap_39 P) 423 "_made" 355 = true := meth_of P (by decide) (by decide) (by kernel_rfl)
theorem m_made_neg (P) : methB (hd.heap_39 P) 814 "_made" 783 = true := meth_of P (by decide) (by decide) (by kernel_rfl)
theorem m_made_qu (P) (b : Bool) : methB (hd.heap_39 P) (quCls b) "_made" (632) = true := meth_of P (qu_memM b) (by cases b <;> decide) (by cases b <;> kernel_rfl)
noncomputable def madeO : Op → Addr | .and => 889 | .or => 929 | .imp => 969 | .eq => 1035
theorem m_made_op (P) (o : Op) : methB (hd.heap_39 P) (opCls o) "_made" (madeO o) = true := meth_of P (op_memM o) (by cases o <;> decide) (by cases o <;> kernel_rfl)
theorem m_binder (P) (b : Bool) : methB (hd.heap_39 P) (quCls b) "_binder" (binderF b) = true := meth_of P (qu_memM b) (by cases b <;> decide) (by cases b <;> kernel_rfl)
theorem m_alike (P) (b : Bool) : methB (hd.heap_39 P) (quCls b) "_is_alike" (alikeF b) = true := meth_of P (qu_memM b) (by cases b <;> decide) (by cases b <;> kernel_rfl)
theorem m_getQ (P) (b : Bool) : methB (hd.heap_39 P) (quCls b) "getQuantifier" (getQF b) = true := meth_of P (qu_memM b) (by cases b <;> decide) (by cases b <;> kernel_rfl)
theorem m_alpha (P) (b : Bool) : methB (hd.heap_39 P) (quCls b) "alpha_convert" (613) = true := meth_of P (qu_memM b) (by cases b <;> decide) (by cases b <;> kernel_rfl)
theorem m_getOp (P) (o : Op) : methB (hd.heap_39 P) (opCls o) "getOp" (getOpF o) = true := meth_of P (op_memM o) (by cases o <;> decide) (by cases o <;> kernel_rfl)
theorem m_subex (P) (o : Op) : methB (hd.heap_39 P) (opCls o) "_str_subex" (subexF o) = true := meth_of P (op_memM o) (by cases o <;> decide) (by cases o <;> kernel_rfl)
theorem m_isatom (P) : methB (hd.heap_39 P) 423 "is_atom" 420 = true := meth_of P (by decide) (by decide) (by kernel_rfl)
theorem m_uncurry (P) : methB (hd.heap_39 P) 423 "uncurry" 397 = true := meth_of P (by decide) (by decide) (by kernel_rfl)
theorem m_get (P) : methB (hd.heap_39 P) 46 "get" 43 = true := meth_of P (by decide) (by decide) (by kernel_rfl)
noncomputable def makeB (K : Frag) (C fI : Addr) : Bool := makesIn K C && (findIn K (.ref C) "__init__" == some (some (.ref fI))) && (typeIn K (.ref fI) == some (.type "function")) && keepIn K (.ref C)
theorem mk_126 (P) : makeB (hd.heap_39 P) 126 102 = true := by kernel_rfl
theorem mk_423 (P) : makeB (hd.heap_39 P) 423 341 = true := by kernel_rfl
theorem mk_814 (P) : makeB (hd.heap_39 P) 814 776 = true := by kernel_rfl
theorem mk_46 (P) : makeB (hd.heap_39 P) 46 36 = true := by kernel_rfl
theorem mk_1135 (P) : makeB (hd.heap_39 P) 1135 1097 = true := by kernel_rfl
theorem mk_nm (P) (n : Nm) : makeB (hd.heap_39 P) (nmCls n) 439 = true := by dsimp only [nmCls]; cases n.isVar <;> kernel_rfl
theorem mk_qu (P) (b : Bool) : makeB (hd.heap_39 P) (quCls b) 598 = true := by cases b <;> kernel_rfl
theorem mk_op (P) (o : Op) : makeB (hd.heap_39 P) (opCls o) 830 = true := by cases o <;> kernel_rfl
noncomputable def Op.isBool : Op → Bool
 | .eq => false
 | _ => true
noncomputable def isaE : Ex → Addr → Bool
 | _, 318 => true
 | .app .., 423 => true
 | .nm _, 485 => true
 | .nm n, 511 => n.isVar
 | .nm n, 575 => !n.isVar
 | .qu b _ _, 760 => b
 | .qu b _ _, 727 => !b
 | .neg _, 814 => true
 | .bin o _ _, 873 => o.isBool
 | .bin o _ _, 913 => o == .and
 | .bin o _ _, 953 => o == .or
 | .bin o _ _, 986 => o == .imp
 | .bin o _ _, 1052 => o == .eq
 | _, _ => false
noncomputable def isaL : List Addr := [318, 423, 485, 511, 575, 675, 760, 727, 814, 873, 913, 953, 986, 1052, 126]
noncomputable def nisS (K : Frag) (D C : Addr) : Bool := kin_not K D C
noncomputable def nisM (K : Frag) (D : Addr) : Bool := findIn K (.ref D) "__class__" == some (some (.builtin "object.__class__")) && mroIn K D (.type "object") == some true
theorem nis_all (P) : (specialIn (hd.heap_39 P) (.builtin "object.__class__") "__get__" == some (some (.builtin "getset_descriptor.__get__")) && takesIn (hd.heap_39 P) (.builtin "object.__class__") == some true && clsL.all (nisM (hd.heap_39 P))) = true := by kernel_rfl
noncomputable def isaT : Addr → List Addr
 | 423 => [318, 423] | 511 => [318, 485, 511] | 575 => [318, 485, 575] | 760 => [318, 760] | 727 => [318, 727] | 814 => [318, 814]
 | 913 => [318, 873, 913] | 953 => [318, 873, 953] | 986 => [318, 873, 986] | 1052 => [318, 1052] | _ => []
theorem isa_cls (P) : (clsL.all fun D => isaL.all fun C => if (isaT D).contains C then isB (hd.heap_39 P) D C else kin_not (hd.heap_39 P) D C) = true := by kernel_rfl
set_option tactic.hygienic true in
theorem isa_cls2 (P) {D C : Addr} (hD : D ∈ clsL) (hC : C ∈ isaL) : (if (isaT D).contains C then isB (hd.heap_39 P) D C else nisB (hd.heap_39 P) D C) = true := by
 have h1 := List.all_eq_true.mp (List.all_eq_true.mp (isa_cls P) D hD) C hC
 split
 ·rename_i h; rw [if_pos h] at h1; exact h1
 ·rename_i h; rw [if_neg h] at h1
  have h2 := nis_all P
  simp only [Bool.and_eq_true, beq_iff_eq] at h2
  have h3 := List.all_eq_true.mp h2.2 D hD
  simp only [nisM, Bool.and_eq_true, beq_iff_eq] at h3
  have h4 := pg_of P (List.mem_append_right _ hD : D ∈ clsM) "__class__"
  unfold nisB
  simp only [Bool.and_eq_true, beq_iff_eq]
  exact ⟨⟨⟨⟨⟨⟨h1, h4.1⟩, h4.2.1⟩, h3.1⟩, h2.1.1⟩, h2.1.2⟩, h3.2⟩
theorem isaE_eq (e : Ex) : (isaL.all fun C => isaE e C == (isaT (clsOf e)).contains C) = true := by
 cases e with
 | nm n => cases n <;> rfl
 | app f a => rfl
 | neg t => rfl
 | qu b n t => cases b <;> rfl
 | bin o a b => cases o <;> rfl
theorem isa_ex (P) (e : Ex) {C : Addr} (hC : C ∈ isaL) : (if isaE e C then isB (hd.heap_39 P) (clsOf e) C else nisB (hd.heap_39 P) (clsOf e) C) = true := by
 have h1 := isa_cls2 P (clsOf_mem e) hC
 rw [beq_iff_eq.mp (List.all_eq_true.mp (isaE_eq e) _ hC)]
 exact h1
noncomputable abbrev globL : List (Str × Value) := [(("Variable" : Str), (.ref 126 : Value)), (("Expression" : Str), (.ref 318 : Value)), (("Counter" : Str), (.ref 46 : Value)), (("ApplicationExpression" : Str), (.ref 423 : Value)), (("AbstractVariableExpression" : Str), (.ref 485 : Value)), (("IndividualVariableExpression" : Str), (.ref 511 : Value)), (("FunctionVariableExpression" : Str), (.ref 537 : Value)), (("EventVariableExpression" : Str), (.ref 549 : Value)), (("ConstantExpression" : Str), (.ref 575 : Value)), (("VariableBinderExpression" : Str), (.ref 642 : Value)), (("LambdaExpression" : Str), (.ref 675 : Value)), (("ExistsExpression" : Str), (.ref 727 : Value)), (("AllExpression" : Str), (.ref 760 : Value)), (("NegatedExpression" : Str), (.ref 814 : Value)), (("BooleanExpression" : Str), (.ref 873 : Value)), (("AndExpression" : Str), (.ref 913 : Value)), (("OrExpression" : Str), (.ref 953 : Value)), (("ImpExpression" : Str), (.ref 986 : Value)), (("EqualityExpression" : Str), (.ref 1052 : Value)), (("BindingDict" : Str), (.ref 1135 : Value)), (("Tokens" : Str), (.ref 84 : Value)), (("_union" : Str), (.ref 57 : Value)), (("unique_variable" : Str), (.ref 138 : Value)), (("VariableExpression" : Str), (.ref 584 : Value)), (("is_indvar" : Str), (.ref 1068 : Value)), (("is_funcvar" : Str), (.ref 1075 : Value)), (("is_eventvar" : Str), (.ref 1082 : Value)), (("_is_letter_and_digits" : Str), (.ref 1061 : Value)), (("_law_box" : Str), (.ref 1159 : Value)), (("_law_take" : Str), (.ref 1166 : Value)), (("_law_name" : Str), (.ref 1173 : Value)), (("_law_term" : Str), (.ref 1180 : Value)), (("_law_formula" : Str), (.ref 1187 : Value)), (("_law_thing" : Str), (.ref 1194 : Value)), (("_law_true" : Str), (.ref 1201 : Value)), (("_law_free" : Str), (.ref 1208 : Value))]
theorem glob_all (P) : (globL.all fun p => globB (hd.heap_39 P) p.1 p.2) = true := by kernel_rfl
theorem glob_of (P) {x : Str} {v : Value} (h : (x, v) ∈ globL) : globB (hd.heap_39 P) x v = true := List.all_eq_true.mp (glob_all P) _ h
noncomputable abbrev keepL : List Value := [(.ref 57 : Value), (.ref 138 : Value), (.ref 584 : Value), (.ref 1068 : Value), (.ref 1075 : Value), (.ref 1082 : Value), (.ref 1061 : Value), (.ref 1159 : Value), (.ref 1166 : Value), (.ref 1173 : Value), (.ref 1180 : Value), (.ref 1187 : Value), (.ref 1194 : Value), (.ref 1201 : Value), (.ref 1208 : Value), (.ref 126 : Value), (.ref 423 : Value), (.ref 814 : Value), (.ref 46 : Value), (.ref 1135 : Value), (.ref 511 : Value), (.ref 575 : Value), (.ref 760 : Value), (.ref 727 : Value), (.ref 913 : Value), (.ref 953 : Value), (.ref 986 : Value), (.ref 1052 : Value)]
theorem keep_all (P) : (keepL.all fun p => keepIn (hd.heap_39 P) p) = true := by kernel_rfl
theorem keep_of (P) {v : Value} (h : v ∈ keepL) : keepIn (hd.heap_39 P) v = true := List.all_eq_true.mp (keep_all P) _ h
noncomputable abbrev biL : List (Str × Value) := [(("isinstance" : Str), (.builtin "isinstance" : Value)), (("len" : Str), (.builtin "len" : Value)), (("abs" : Str), (.builtin "abs" : Value)), (("sorted" : Str), (.builtin "sorted" : Value)), (("all" : Str), (.builtin "all" : Value)), (("any" : Str), (.builtin "any" : Value)), (("str" : Str), (.type "str" : Value)), (("dict" : Str), (.type "dict" : Value)), (("set" : Str), (.type "set" : Value)), (("range" : Str), (.type "range" : Value)), (("KeyError" : Str), (.type "KeyError" : Value))]
theorem bi_all (P) : (biL.all fun p => builtinB (hd.heap_39 P) p.1 p.2) = true := by kernel_rfl
theorem bi_of (P) {x : Str} {v : Value} (h : (x, v) ∈ biL) : builtinB (hd.heap_39 P) x v = true := List.all_eq_true.mp (bi_all P) _ h
theorem b_isinstance (P) : builtinB (hd.heap_39 P) "isinstance" (.builtin "isinstance") = true := bi_of P (by decide)
theorem b_KeyError (P) : builtinB (hd.heap_39 P) "KeyError" (.type "KeyError") = true := bi_of P (by decide)
theorem g_Variable (P) : globB (hd.heap_39 P) "Variable" (.ref 126) = true := glob_of P (by decide)
end Mine
namespace Mine
noncomputable def thn (P : Shared → Prop) (Q : Flow → Shared → Prop) : Flow → Shared → Prop
 | .next, s => P s
 | f, s => Q f s
section
variable {M : Model} {A : Around} {E : Value → Shared → Prop} {s : Shared} {env : Env}
theorem xs_cons {st rest} {Q : Flow → Shared → Prop} (h : wpAny M A (exec st env) (thn (fun s' => wpAny M A (execs rest env) Q E s') Q) E s) : wpAny M A (execs (st :: rest) env) Q E s :=
 wpAny_execs_cons (wpAny_mono h (fun f s' q => by cases f <;> exact q) fun z z e => e)
theorem xs_k {st rest} {Q : Flow → Shared → Prop} (h : ∀ K : Flow → Shared → Prop, (∀ s', wpAny M A (execs rest env) Q E s' → K .next s') → (∀ v s', Q (.ret v) s' → K (.ret v) s') → wpAny M A (exec st env) K E s) : wpAny M A (execs (st :: rest) env) Q E s :=
 xs_cons (h _ (fun z q => q) fun z z q => q)
theorem thn_next {P : Shared → Prop} {Q : Flow → Shared → Prop} (h : P s) : thn P Q .next s := h
theorem if_t {c : Bool} {X Y : Prop} (hc : c = true) (h : X) : if c then X else Y := by rw [if_pos hc]; exact h
theorem if_f {c : Bool} {X Y : Prop} (hc : c = false) (h : Y) : if c then X else Y := by rw [if_neg (by rw [hc]; decide)]; exact h
theorem meth_keep {K : Frag} {C f : Addr} {name : Str} (h : methB K C name f = true) : keepIn K (.ref f) = true := by
 simp only [methB, Bool.and_eq_true] at h; exact h.2
theorem mk_core {K : Frag} {C f : Addr} (h : makeB K C f = true) : (makesIn K C && (findIn K (.ref C) "__init__" == some (some (.ref f))) && (typeIn K (.ref f) == some (.type "function"))) = true := by
 simp only [makeB, Bool.and_eq_true] at h ⊢; exact h.1
end
theorem star_of {e : Expr} {rest : List Expr} {env : Env} (h : kdsPlain e = true) : starEach (e :: rest) env = (false, eval e env) :: starEach rest env := by
 cases e <;> first | rfl | cases h
theorem plain_of {pos : Pos} {env : Env} : ∀ {rest : List Expr}, rest.all kdsPlain = true → (backTo pos (starEach rest env)).any (·.1) = false
 | [], _ => rfl
 | e :: rest, h => by
  rw [List.all_cons, Bool.and_eq_true] at h
  rw [star_of h.1]
  show (false || (backTo pos (starEach rest env)).any (·.1)) = false
  rw [plain_of h.2]; rfl
theorem items_c {M : Model} {A : Around} {E : Value → Shared → Prop} {s : Shared} {env : Env} {pos : Pos} {e : Expr} {rest : List Expr} {Q : List Value → Shared → Prop} (hn : kdsPlain e = true)
  (h : wpAny M A (eval e env) (fun v s₁ => wpAny M A (spliced (backTo pos (starEach rest env))) (fun vs s₂ => Q (v :: vs) s₂) E s₁) E s) : wpAny M A (spliced (backTo pos (starEach (e :: rest) env))) Q E s := wpAny_items_cons h (star_of hn)
section
variable {M : Model} {A : Around} {E : Value → Shared → Prop} {s : Shared} {env : Env} {Q : Value → Shared → Prop} {K : Frag} {first : List Value}
theorem callK {f : Value} {pos : Pos} {h₀ : Heap} {e : Expr} {rest : List Expr} (X : K.In h₀) (hk : keepIn K f = true) (hn : (e :: rest).all kdsPlain = true)
  (h : wpAny M A (spliced (backTo pos (starEach (e :: rest) env))) (fun vs s₁ => K.In s₁.heap ∧ wpAny M A (PySem.call f (first ++ vs)) Q E s₁) E s) : wpAny M A (callWith pos f first (backTo pos (starEach (e :: rest) env)) []) Q E s := by
 rw [List.all_cons, Bool.and_eq_true] at hn
 exact callWith_K X hk h (star_of hn.1) (plain_of hn.2)
theorem callF {q : Addr} {pos : Pos} {e : Expr} {rest : List Expr} (X : FnAt q s.heap) (hn : (e :: rest).all kdsPlain = true)
  (h : wpAny M A (spliced (backTo pos (starEach (e :: rest) env))) (fun vs s₁ => FnAt q s₁.heap ∧ wpAny M A (PySem.call (.ref q) (first ++ vs)) Q E s₁) E s) : wpAny M A (callWith pos (.ref q) first (backTo pos (starEach (e :: rest) env)) []) Q E s := by
 rw [List.all_cons, Bool.and_eq_true] at hn
 exact callWith_F X h (star_of hn.1) (plain_of hn.2)
theorem callB {id : String} {pos : Pos} {e : Expr} {rest : List Expr} (hn : (e :: rest).all kdsPlain = true)
  (h : wpAny M A (spliced (backTo pos (starEach (e :: rest) env))) (fun vs s₁ => wpAny M A (PySem.call (.builtin id) vs) Q E s₁) E s) : wpAny M A (callWith pos (.builtin id) [] (backTo pos (starEach (e :: rest) env)) []) Q E s := by
 rw [List.all_cons, Bool.and_eq_true] at hn
 exact PyProof.Rows.callWith_builtin1 h (star_of hn.1) (plain_of hn.2)
end
noncomputable abbrev lstO (vs : List Value) (n : Nat) : Obj := { cls := .type "list", data := .seq vs.toArray n }
noncomputable def Lst (st : St) (a : Addr) (vs : List Value) : Prop := ∃ n, st a = some (lstO vs n)
theorem Lst.mono {st st' : St} {a : Addr} {vs : List Value} (h : Lst st a vs) (k : St.le st st') : Lst st' a vs := by
 obtain ⟨n, e⟩ := h
 exact ⟨n, k _ _ e⟩
theorem Spec.imp {B : Bs} {A : Around} {md : List Addr} {st : St} {s : Shared} {t : Sem Value} {Φ Φ' : Heap → St → Value → Prop} (C : Spec B A md st s t Φ) (h : ∀ h' st' v, St.le st st' → Φ h' st' v → Φ' h' st' v) (hle : ∀ b o, st b = some o → b < s.heap.objs.size) :
  Spec B A md st s t Φ' := fun Q E k => C Q E fun v s' I X hos hΦ => k v s' I X hos (h _ _ _ (fun b o e => by unfold grow; rw [if_pos (hle b o e)]; exact e) hΦ)
noncomputable def MethAt (B : Bs) (st : St) (a : Addr) (name : Str) (f : Addr) : Prop := ∃ C fs, Inst st a C fs ∧ fs.lookup name = none ∧ methB (hd.heap_39 B.w.params) C name f = true
noncomputable def fieldNames : List Str := ["variable", "function", "argument", "term", "first", "second"]
theorem lookup_none {name : Str} : ∀ {fs : List (Str × Value)}, name ∉ fs.map (·.1) → fs.lookup name = none
 | [], _ => rfl
 | (k, v) :: r, h => by
  rw [List.lookup_cons, beq_eq_false_iff_ne.mpr (fun q => h (by rw [q]; exact .head _))]
  exact lookup_none fun q => h (.tail _ q)
theorem fieldsOf_sub (e : Ex) : ∀ x ∈ fieldsOf e, x ∈ fieldNames := by
 cases e with
 | nm n => show ∀ x ∈ (["variable"] : List Str), x ∈ fieldNames; decide
 | app f a => show ∀ x ∈ (["function", "argument"] : List Str), x ∈ fieldNames; decide
 | neg t => show ∀ x ∈ (["term"] : List Str), x ∈ fieldNames; decide
 | qu b n t => show ∀ x ∈ (["variable", "term"] : List Str), x ∈ fieldNames; decide
 | bin o a b => show ∀ x ∈ (["first", "second"] : List Str), x ∈ fieldNames; decide
theorem Rep.meth {B : Bs} {st : St} {a : Addr} {e : Ex} {name : Str} {f : Addr} (h : Rep st a e) (hm : methB (hd.heap_39 B.w.params) (clsOf e) name f = true) (hn : name ∉ fieldNames) : MethAt B st a name f := by
 obtain ⟨fs, I, hf⟩ := h.inst
 exact ⟨_, fs, I, lookup_none (hf ▸ fun q => hn (fieldsOf_sub e _ q)), hm⟩
theorem Inst.meth {B : Bs} {st : St} {a C : Addr} {fs : List (Str × Value)} {name : Str} {f : Addr} (I : Inst st a C fs) (hm : methB (hd.heap_39 B.w.params) C name f = true) (hn : fs.lookup name = none) : MethAt B st a name f := ⟨C, fs, I, hn, hm⟩
section
variable {B : Bs} {md : List Addr} {s₀ s : Shared} {st₀ st : St} {L : Addr} {own : List (Addr × Obj)} {l : List (Str × Value)} {A : Around} {E : Value → Shared → Prop}
theorem Fx.methodA {Q : Value × List Value → Shared → Prop} {a f : Addr} {name : Str} {pl : Sem Bool} (F : Fx B md s₀ st₀ st L own l s) (M : MethAt B st a name f) (h : Q (.ref f, [.ref a]) s) : wpAny (model B.prog B.w) A (getMethod (.ref a) name pl) Q E s :=
 let ⟨_, _, I, hl, hm⟩ := M
 F.method I hm hl h
theorem Fx.callM {Q : Value → Shared → Prop} {a f : Addr} {name : Str} {pl : Sem Bool} {pos : Pos} {e : Expr} {rest : List Expr} {env : Env} (F : Fx B md s₀ st₀ st L own l s) (M : MethAt B st a name f)
  (h : wpAny (model B.prog B.w) A (spliced (backTo pos (starEach (e :: rest) env))) (fun vs s₁ => (hd.heap_39 B.w.params).In s₁.heap ∧ wpAny (model B.prog B.w) A (PySem.call (.ref f) (.ref a :: vs)) Q E s₁) E s)
  (he : autoParam (starEach (e :: rest) env = (false, eval e env) :: starEach rest env) Mine.tR) (hplain : autoParam ((backTo pos (starEach rest env)).any (·.1) = false) Mine.tR) :
  wpAny (model B.prog B.w) A (getMethod (.ref a) name pl) (fun fx s₂ => wpAny (model B.prog B.w) A (callWith pos fx.1 fx.2 (backTo pos (starEach (e :: rest) env)) []) Q E s₂) E s := by
 refine F.methodA M ?_
 obtain ⟨_, _, _, _, hm⟩ := M
 exact callWith_K F.X (meth_keep hm) h he hplain
theorem Fx.callM0 {Q : Value → Shared → Prop} {a f : Addr} {name : Str} {pl : Sem Bool} {pos : Pos} {env : Env} (F : Fx B md s₀ st₀ st L own l s) (M : MethAt B st a name f)
  (h : wpAny (model B.prog B.w) A (PySem.call (.ref f) [.ref a]) Q E s) :
  wpAny (model B.prog B.w) A (getMethod (.ref a) name pl) (fun fx s₂ => wpAny (model B.prog B.w) A (callWith pos fx.1 fx.2 (backTo pos (starEach [] env)) []) Q E s₂) E s := by
 refine F.methodA M ?_
 obtain ⟨_, _, _, _, hm⟩ := M
 exact callWith_K0 F.X (meth_keep hm) h
set_option tactic.hygienic true in
theorem Fx.isaR {Q : Value → Shared → Prop} {a C : Addr} {e : Ex} (F : Fx B md s₀ st₀ st L own l s) (R : Rep st a e) (hC : C ∈ isaL) (h : ∀ s', Fx B md s₀ st₀ st L own l s' → Q (.bool (isaE e C)) s') :
  wpAny (model B.prog B.w) A (PySem.call (.builtin "isinstance") [.ref a, .ref C]) Q E s := by
 obtain ⟨fs, I, _⟩ := R.inst
 have := isa_ex B.w.params e hC
 split at this
 ·rename_i q
  refine F.isaT I this ?_
  exact q ▸ h _ F
 ·rename_i q
  refine F.isaF I this fun s' F' => ?_
  have := h s' F'
  rw [eq_false_of_ne_true q] at this; exact this
theorem isB_126 (P) : isB (hd.heap_39 P) 126 126 = true := by kernel_rfl
theorem Fx.isaV {Q : Value → Shared → Prop} {a : Addr} {n : Nm} (F : Fx B md s₀ st₀ st L own l s) (V : VarAt st a n) (h : Q (.bool true) s) :
  wpAny (model B.prog B.w) A (PySem.call (.builtin "isinstance") [Value.ref a, Value.ref 126]) Q E s := by
 obtain ⟨_, I⟩ := V
 exact F.isaT I (isB_126 _) h
theorem Fx.varName {Q : Value → Shared → Prop} {a : Addr} {n : Nm} {ex : Bool} (F : Fx B md s₀ st₀ st L own l s) (V : VarAt st a n) (h : ∀ t s', Fx B md s₀ st₀ st L own l s' → Q (.str n.str t) s') :
  wpAny (model B.prog B.w) A (PySem.getAttr (.ref a) "name" ex) Q E s := by
 obtain ⟨_, I⟩ := V
 exact F.getAttr I (f_126_name _) rfl rfl fun s' F => h _ s' F
theorem Fx.callA {A₁ : Around} {t : Sem Value} {Φ : Heap → St → Value → Prop} {Q : Value → Shared → Prop} (F : Fx B md s₀ st₀ st L own l s) (C : At B st s → Spec B A₁ [] st s t Φ)
  (k : ∀ v st' s', St.le st st' → Fx B md s₀ st₀ st' L own l s' → Φ s'.heap st' v → Q v s') : wpAny (model B.prog B.w) A₁ t Q E s := F.call (md' := []) (C F.at) k
theorem Fx.callR {A₁ : Around} {t : Sem Value} {P : Heap → St → Addr → Prop} {Q : Value → Shared → Prop} (F : Fx B md s₀ st₀ st L own l s) (C : At B st s → Spec B A₁ [] st s t (fun h st' v => ∃ a, v = .ref a ∧ P h st' a))
  (k : ∀ a st' s', St.le st st' → Fx B md s₀ st₀ st' L own l s' → P s'.heap st' a → Q (.ref a) s') : wpAny (model B.prog B.w) A₁ t Q E s := F.callA C fun v st' s' le F' hv => by
 obtain ⟨a, rfl, p⟩ := hv
 exact k a st' s' le F' p
theorem Fx.callV {A₁ : Around} {t : Sem Value} {w : Value} {Q : Value → Shared → Prop} (F : Fx B md s₀ st₀ st L own l s) (C : At B st s → Spec B A₁ [] st s t (fun z z v => v = w))
  (k : ∀ st' s', St.le st st' → Fx B md s₀ st₀ st' L own l s' → Q w s') : wpAny (model B.prog B.w) A₁ t Q E s := F.callA C fun v st' s' le F' hv => hv ▸ k st' s' le F'
theorem Fx.callT {A₁ : Around} {t : Sem Value} {f : Tok → Value} {Q : Value → Shared → Prop} (F : Fx B md s₀ st₀ st L own l s) (C : At B st s → Spec B A₁ [] st s t (fun z z v => ∃ u, v = f u))
  (k : ∀ u st' s', St.le st st' → Fx B md s₀ st₀ st' L own l s' → Q (f u) s') : wpAny (model B.prog B.w) A₁ t Q E s := F.callA C fun v st' s' le F' hv => by
 obtain ⟨u, rfl⟩ := hv
 exact k u st' s' le F'
theorem Fx.drop {own' : List (Addr × Obj)} (F : Fx B md s₀ st₀ st L own l s) (h : own'.Sublist own) : Fx B md s₀ st₀ st L own' l s :=
 { F with ow := fun p hp => F.ow p (h.subset hp), nodup := (h.map _).nodup F.nodup }
end
end Mine
set_option maxHeartbeats 0
namespace Mine
theorem fill_it : PySem.Challenge.rw_ao0014_01 = PySem.Challenge.rw_ao0014_01 ∧ hd.heap_39 = hd.heap_39 := by
 k_fill
 exact ⟨rfl, rfl⟩
end Mine
set_option maxHeartbeats 4000000
namespace Mine
section
variable {B : Bs} {md : List Addr} {s₀ s : Shared} {st₀ st : St} {L : Addr} {own : List (Addr × Obj)} {l : List (Str × Value)} {A : Around}
section
variable {env : Env} {names : List (Str × NameKind)} {cl : List (Str × Addr)} {qual : Str} {cd : Value}
theorem Fx.isaE {x Cn : Str} {a C : Addr} {e : Ex} {p1 p2 p3 p4 : Pos} {Q E : Value → Shared → Prop} (F : Fx B md s₀ st₀ st L own l s) (N : En env L names cl qual cd) (hv : (x, .ref a) ∈ l) (hx : (x, NameKind.local) ∈ names) (hb : (("isinstance" : Str), NameKind.globalImplicit) ∈ names) (hg : (Cn, NameKind.globalImplicit) ∈ names)
  (g : globB (hd.heap_39 B.w.params) Cn (.ref C) = true) (R : Rep st a e) (hC : C ∈ isaL) (h : ∀ s', Fx B md s₀ st₀ st L own l s' → Q (.bool (Mine.isaE e C)) s') :
  wpAny (model B.prog B.w) A (eval (.Call (.Name "isinstance" p1) [.Name x p2, .Name Cn p3] [] p4) env) Q E s :=
 wpAny_Call_NameR (F.nameB N (b_isinstance _) hb (callB rfl (items_c rfl (F.nameL N hv hx (items_c rfl (F.nameG N g hg (wpAny_items_nil (F.isaR R hC h))))))))
theorem Fx.isaN {x : Str} {a : Addr} {n : Nm} {p1 p2 p3 p4 : Pos} {Q E : Value → Shared → Prop} (F : Fx B md s₀ st₀ st L own l s) (N : En env L names cl qual cd) (hv : (x, .ref a) ∈ l) (hx : (x, NameKind.local) ∈ names) (hb : (("isinstance" : Str), NameKind.globalImplicit) ∈ names) (hg : (("Variable" : Str), NameKind.globalImplicit) ∈ names)
  (V : VarAt st a n) (h : Q (.bool true) s) : wpAny (model B.prog B.w) A (eval (.Call (.Name "isinstance" p1) [.Name x p2, .Name "Variable" p3] [] p4) env) Q E s :=
 wpAny_Call_NameR (F.nameB N (b_isinstance _) hb (callB rfl (items_c rfl (F.nameL N hv hx (items_c rfl (F.nameG N (g_Variable _) hg (wpAny_items_nil (F.isaV V h))))))))
theorem isT_val {M : Model} {E : Value → Shared → Prop} {x Cn : Str} {p1 p2 p3 p4 : Pos} {Q : Bool → Shared → Prop} (h : wpAny M A (eval (.Call (.Name "isinstance" p1) [.Name x p2, .Name Cn p3] [] p4) env) (fun v s' => wpAny M A (truthy v) Q E s') E s) :
  wpAny M A (isTrue (.Call (.Name "isinstance" p1) [.Name x p2, .Name Cn p3] [] p4) env (eval (.Call (.Name "isinstance" p1) [.Name x p2, .Name Cn p3] [] p4) env)) Q E s := wpAny_isTrue_value h rfl
theorem Fx.isaT' {x Cn : Str} {a C : Addr} {e : Ex} {p1 p2 p3 p4 : Pos} {Q : Bool → Shared → Prop} {E : Value → Shared → Prop} (F : Fx B md s₀ st₀ st L own l s) (N : En env L names cl qual cd) (hv : (x, .ref a) ∈ l) (hx : (x, NameKind.local) ∈ names) (hb : (("isinstance" : Str), NameKind.globalImplicit) ∈ names) (hg : (Cn, NameKind.globalImplicit) ∈ names)
  (g : globB (hd.heap_39 B.w.params) Cn (.ref C) = true) (R : Rep st a e) (hC : C ∈ isaL) (h : ∀ s', Fx B md s₀ st₀ st L own l s' → Q (Mine.isaE e C) s') :
  wpAny (model B.prog B.w) A (isTrue (.Call (.Name "isinstance" p1) [.Name x p2, .Name Cn p3] [] p4) env (eval (.Call (.Name "isinstance" p1) [.Name x p2, .Name Cn p3] [] p4) env)) Q E s :=
 isT_val (F.isaE N hv hx hb hg g R hC fun s' F' => wpAny_truthy_bool (h s' F'))
theorem Fx.isaN' {x : Str} {a : Addr} {n : Nm} {p1 p2 p3 p4 : Pos} {Q : Bool → Shared → Prop} {E : Value → Shared → Prop} (F : Fx B md s₀ st₀ st L own l s) (N : En env L names cl qual cd) (hv : (x, .ref a) ∈ l) (hx : (x, NameKind.local) ∈ names) (hb : (("isinstance" : Str), NameKind.globalImplicit) ∈ names) (hg : (("Variable" : Str), NameKind.globalImplicit) ∈ names)
  (V : VarAt st a n) (h : Q true s) : wpAny (model B.prog B.w) A (isTrue (.Call (.Name "isinstance" p1) [.Name x p2, .Name "Variable" p3] [] p4) env (eval (.Call (.Name "isinstance" p1) [.Name x p2, .Name "Variable" p3] [] p4) env)) Q E s :=
 isT_val (F.isaN N hv hx hb hg V (wpAny_truthy_bool h))
theorem Fx.attrL {x attr : Str} {a C : Addr} {fs : List (Str × Value)} {v : Value} {p1 p2 : Pos} {Q E : Value → Shared → Prop} (F : Fx B md s₀ st₀ st L own l s) (N : En env L names cl qual cd) (hv : (x, .ref a) ∈ l) (hx : (x, NameKind.local) ∈ names) (I : Inst st a C fs) (hf : fieldB (hd.heap_39 B.w.params) C attr = true)
  (hl : fs.lookup attr = some v) (hh : handedIn v = true) (h : ∀ s', Fx B md s₀ st₀ st L own l s' → Q v s') : wpAny (model B.prog B.w) A (eval (.Attribute (.Name x p1) attr p2) env) Q E s :=
 Attribute_any_ (F.nameL N hv hx (F.getAttr I hf hl hh h)) rfl
theorem Fx.attrN {x : Str} {a : Addr} {n : Nm} {p1 p2 : Pos} {Q E : Value → Shared → Prop} (F : Fx B md s₀ st₀ st L own l s) (N : En env L names cl qual cd) (hv : (x, .ref a) ∈ l) (hx : (x, NameKind.local) ∈ names) (V : VarAt st a n)
  (h : ∀ t s', Fx B md s₀ st₀ st L own l s' → Q (.str n.str t) s') : wpAny (model B.prog B.w) A (eval (.Attribute (.Name x p1) "name" p2) env) Q E s :=
 Attribute_any_ (F.nameL N hv hx (F.varName V h)) rfl
end
theorem var_eq {a b : Addr} {n1 n2 : Nm} (H : At B st s) (R : Rm A 2) (V1 : VarAt st a n1) (V2 : VarAt st b n2) : Spec B A [] st s (call (.ref 109) [.ref a, .ref b]) (fun z z v => v = .bool (n1.str == n2.str)) := by
 refine' enter (d := 1) (u := 8 * 1) (binds := [("self", .ref a), ("other", .ref b)]) (ps := ["self", "other"]) H (Rm.room R) ?ho ?hcd ?hbind ?hS ?hps ?hloc ?hbn ?hcell ?hco ?hgen ?_
 (case ho => k_is); (case hcd => k_is); (case hbind => exact BindsTo.of_eq rfl); (case hS => exact ⟨rfl, by decide, by decide⟩); (case hps => exact rfl); (case hloc => decide); (case hbn => decide); (case hcell => decide); (case hco => exact rfl); (case hgen => exact rfl)
 intro Q L s₁ env A' k N R' F
 dsimp only at N
 refine xs_cons ?_
 refine wpAny_Return_some ?_
 refine wpAny_And2 ?_
 refine F.isaN N (mem_tl mem_hd) (mem_tl mem_hd) (mem_tl (mem_tl mem_hd)) (mem_tl (mem_tl (mem_tl mem_hd))) V2 ?_
 refine wpAny_truthy_bool (if_t rfl ?_)
 refine wpAny_Compare1 ?_ rfl
 refine F.attrN N mem_hd mem_hd (V1.mono F.old) fun t1 s2 F2 => ?_
 refine F2.attrN N (mem_tl mem_hd) (mem_tl mem_hd) (V2.mono F2.old) fun t2 s3 F3 => ?_
 exact F3.eqStr (Fx.ret k F3 fun z z => rfl)
theorem dn {n i m : Nat} (h : n + i = m) (hl : i < m) : n - 1 < n ∧ n - 1 + (i + 1) = m := by
 cases n with
 | zero => exact absurd hl (by rw [← h, Nat.zero_add]; exact Nat.lt_irrefl _)
 | succ n => exact ⟨Nat.lt_succ_self n, (Nat.succ_add_eq_add_succ n i).symm.trans h⟩
theorem dz {n i m : Nat} (h : n + i = m) (hl : m ≤ i) : i = m := Nat.le_antisymm (h ▸ Nat.le_add_left i n) hl
noncomputable def LA (st : St) (own : List (Addr × Obj)) (a : Addr) (vs : List Value) : Prop := ∃ n, st a = some (lstO vs n) ∨ (a, lstO vs n) ∈ own
theorem LA.get {a : Addr} {vs : List Value} (h : LA st own a vs) (F : Fx B md s₀ st₀ st L own l s) : ∃ n, s.heap.get? a = some (lstO vs n) := by
 obtain ⟨n, h | h⟩ := h
 ·exact ⟨n, F.le _ _ h⟩
 ·exact ⟨n, (F.ow _ h).1⟩
theorem LA.mono {st' : St} {a : Addr} {vs : List Value} (h : LA st own a vs) (k : St.le st st') : LA st' own a vs := by
 obtain ⟨n, h | h⟩ := h
 ·exact ⟨n, .inl (k _ _ h)⟩
 ·exact ⟨n, .inr h⟩
theorem Lst.la {a : Addr} {vs : List Value} (h : Lst st a vs) : LA st own a vs := by
 obtain ⟨n, e⟩ := h
 exact ⟨n, .inl e⟩
noncomputable def Vs (st : St) : List Value → List Nm → Prop
 | [], [] => True
 | v :: vs, n :: ns => (∃ b, v = .ref b ∧ VarAt st b n) ∧ Vs st vs ns
 | _, _ => False
theorem Vs.mono {st st' : St} (k : St.le st st') : ∀ {vs : List Value} {ns : List Nm}, Vs st vs ns → Vs st' vs ns
 | [], [], _ => trivial
 | _ :: _, _ :: _, ⟨⟨b, e, h⟩, r⟩ => ⟨⟨b, e, h.mono k⟩, r.mono k⟩
 | [], _ :: _, h => h.elim
 | _ :: _, [], h => h.elim
theorem Vs.len : ∀ {vs : List Value} {ns : List Nm}, Vs st vs ns → vs.length = ns.length
 | [], [], _ => rfl
 | _ :: _, _ :: _, ⟨_, r⟩ => congrArg (· + 1) r.len
 | [], _ :: _, h => h.elim
 | _ :: _, [], h => h.elim
theorem Vs.get : ∀ {vs : List Value} {ns : List Nm}, Vs st vs ns → ∀ i (h : i < vs.length), ∃ b n, vs[i] = .ref b ∧ ns[i]? = some n ∧ VarAt st b n
 | v :: _, n :: _, ⟨⟨b, e, h⟩, _⟩, 0, _ => ⟨b, n, e, rfl, h⟩
 | _ :: _, _ :: _, ⟨_, r⟩, i + 1, h => r.get i (Nat.lt_of_succ_lt_succ h)
 | [], _, _, _, h => absurd h (Nat.not_lt_zero _)
 | _ :: _, [], h, _, _ => h.elim
theorem Vs.snoc {b : Addr} {n : Nm} (V : VarAt st b n) : ∀ {vs : List Value} {ns : List Nm}, Vs st vs ns → Vs st (vs ++ [.ref b]) (ns ++ [n])
 | [], [], _ => ⟨⟨b, rfl, V⟩, trivial⟩
 | _ :: _, _ :: _, ⟨h, r⟩ => ⟨h, r.snoc V⟩
 | [], _ :: _, h => h.elim
 | _ :: _, [], h => h.elim
noncomputable def Vars (st : St) (v : Value) (ns : List Nm) : Prop := ∃ a vs, v = .ref a ∧ Lst st a vs ∧ Vs st vs ns
theorem Vars.mono {st st' : St} {v : Value} {ns : List Nm} (h : Vars st v ns) (k : St.le st st') : Vars st' v ns := by
 obtain ⟨a, vs, e, l, r⟩ := h
 exact ⟨a, vs, e, l.mono k, r.mono k⟩
theorem VarAt.name {a : Addr} {n m : Nm} (h : VarAt st a n) (k : VarAt st a m) : n.str = m.str := by
 obtain ⟨t, dx, i, es, e1, e2, e3⟩ := h
 obtain ⟨t', dx', i', es', k1, k2, k3⟩ := k
 rw [e1] at k1; cases k1
 rw [e2] at k2
 injection k2 with k2
 injection k2 with _ _ q _
 injection q with q1 q2
 have : es = es' := by simpa using q1
 subst this
 cases es with
 | nil => exact e3.elim
 | cons e r =>
  obtain ⟨_, h1, _⟩ := e3
  obtain ⟨_, h2, _⟩ := k3
  rw [h1] at h2; injection h2
theorem Nm.str_beq (a b : Nm) : (a.str == b.str) = (a == b) := by
 cases a <;> cases b <;> first | rfl | decide +kernel
theorem nf_126 (P) : notFirst (hd.heap_39 P) 126 (.ref 126) = true := by kernel_rfl
theorem eq_126 (P) : findIn (hd.heap_39 P) (.ref 126) (cmpInfo .Eq).2.1 = some (some (.ref 109)) := beq_iff_eq.mp (by kernel_rfl)
theorem fn_109 (P) : isFn (hd.heap_39 P) (.ref 109) = true := by kernel_rfl
theorem Rm.cl {A : Around} {n : Nat} (R : Rm A n) : A.units < cLine := by have := R.u; o_head qo
theorem Fx.eqVar {Q E : Value → Shared → Prop} {a b : Addr} {n1 n2 : Nm} (F : Fx B md s₀ st₀ st L own l s) (R : Rm A 2) (V1 : VarAt st a n1) (V2 : VarAt st b n2)
  (h : ∀ st' s', St.le st st' → Fx B md s₀ st₀ st' L own l s' → Q (.bool (n1 == n2)) s') : wpAny (model B.prog B.w) A (richCompare .Eq (.ref a) (.ref b)) Q E s := by
 obtain ⟨t1, dx, n, es, h1, h2, _⟩ := id V1
 obtain ⟨t2, dx2, m, es2, k1, k2, _⟩ := id V2
 obtain ⟨mm, fr⟩ := F.fr
 refine cmp_K (op := .Eq) R.cl fr F.ok.X (F.inst h1 h2) (F.inst k1 k2).type (nf_126 _) (eq_126 _) (fn_109 _) ?_
 refine F.call (md' := []) (var_eq F.at R V1 V2) fun v st' s' le F hv => ?_
 subst hv
 rw [Nm.str_beq]
 exact h _ _ le F
theorem Fx.eqBoolVar {Q : Bool → Shared → Prop} {E : Value → Shared → Prop} {a b : Addr} {n1 n2 : Nm} (F : Fx B md s₀ st₀ st L own l s) (R : Rm A 2) (V1 : VarAt st a n1) (V2 : VarAt st b n2)
  (h : ∀ st' s', St.le st st' → Fx B md s₀ st₀ st' L own l s' → Q (n1 == n2) s') : wpAny (model B.prog B.w) A (eqBool (.ref a) (.ref b)) Q E s := by
 unfold eqBool
 refine wpAny_holding ?_
 by_cases q : a = b
 ·subst q
  rw [if_pos (beq_self_eq_true _)]
  refine wpAny_bind (wpAny_rule (wpAny_pure ?_))
  have := h _ _ (St.le.refl _) F
  rw [← Nm.str_beq, V1.name V2, beq_self_eq_true] at this
  exact this
 ·rw [if_neg (by simpa using q)]
  exact wpAny_bind (F.eqVar R V1 V2 fun st' s' le F' => wpAny_truthy_bool (h _ _ le F'))
theorem Fx.inLoop {R₀ : Result → Shared → Prop} {a x : Addr} {n : Nm} {vs : List Value} {ns : List Nm} (k : Nat) : ∀ (i : Nat) (st : St) (s : Shared), i + k = vs.length → Fx B md s₀ st₀ st L own l s → LA st own a vs → Vs st vs ns → VarAt st x n → Rm A.in1 3 →
  (∀ st' s', St.le st st' → Fx B md s₀ st₀ st' L own l s' → R₀ (.ok (.ret (.bool ((ns.drop i).any (· == n))))) s') →
  wpAny (model B.prog B.w) A.in1 (Builtin.«list.__contains__.loop» ⟨[.ref a, .ref x, rawInt i], []⟩) (fun fin s' => match fin with | .done f => R₀ (.ok f) s' | .again c' => c'.quiet = true ∧ codeAny (model B.prog B.w) A c' R₀ s') (fun e s' => R₀ (.error e) s') s := by
 induction k with
 | zero =>
  intro i st s hk F hl hv V R h
  obtain ⟨m, e⟩ := hl.get F
  have hn : vs.toArray[((i : Nat) : Int).toNat]? = none := Array.getElem?_eq_none (Nat.le_of_eq hk.symm)
  have hd : ns.drop i = [] := List.drop_eq_nil_of_le (Nat.le_of_eq (hv.len.symm.trans hk.symm))
  unfold Builtin.«list.__contains__.loop»
  refine wpAny_bind (wpAny_listItems e rfl ?_)
  rw [hn]
  rw [hd] at h
  exact wpAny_pure (h _ _ (St.le.refl _) F)
 | succ k ih =>
  intro i st s hk F hl hv V R h
  obtain ⟨m, e⟩ := hl.get F
  have hlt : i < vs.length := hk ▸ Nat.lt_add_of_pos_right (Nat.succ_pos k)
  obtain ⟨b, n1, e1, e2, V1⟩ := hv.get i hlt
  have hn : vs.toArray[((i : Nat) : Int).toNat]? = some (.ref b) := by show vs.toArray[i]? = _; rw [List.getElem?_toArray, List.getElem?_eq_getElem hlt, e1]
  have hlt2 : i < ns.length := hv.len ▸ hlt
  have hd : ns.drop i = n1 :: ns.drop (i + 1) := by
   rw [List.drop_eq_getElem_cons hlt2]
   rw [List.getElem?_eq_getElem hlt2] at e2
   cases e2; rfl
  unfold Builtin.«list.__contains__.loop»
  refine wpAny_bind (wpAny_listItems e rfl ?_)
  rw [hn]
  rw [hd, List.any_cons] at h
  refine wpAny_bind (F.eqBoolVar (R.le (by o_head qo)) V1 V fun st' s' le F' => ?_)
  cases hb : (n1 == n) with
  | true =>
   rw [hb] at h
   rw [if_pos rfl]
   exact wpAny_pure (h _ _ le F')
  | false =>
   rw [hb] at h
   rw [if_neg (by decide)]
   have hc : ((i : Int) + 1) = ((i + 1 : Nat) : Int) := by push_cast; rfl
   rw [hc]
   refine wpAny_pure ⟨plainId_quiet MeetsSeq.plain_contains_loop _, codeAny_builtin MeetsSeq.entry_contains_loop ?_⟩
   rw [Around.under_plainId MeetsSeq.plain_contains_loop _]
   exact ih (i + 1) st' s' ((Nat.succ_add_eq_add_succ i k).trans hk) F' (hl.mono le) (hv.mono le) (V.mono le) R fun st'' s'' le' F'' => by
    have := h st'' s'' (le.trans le') F''
    rwa [Bool.false_or] at this
theorem Fx.contains {Q : Bool → Shared → Prop} {E : Value → Shared → Prop} {a x : Addr} {n : Nm} {vs : List Value} {ns : List Nm} (F : Fx B md s₀ st₀ st L own l s) (R : Rm A 4) (hl : LA st own a vs) (hv : Vs st vs ns) (V : VarAt st x n)
  (h : ∀ st' s', St.le st st' → Fx B md s₀ st₀ st' L own l s' → Q (ns.any (· == n)) s') : wpAny (model B.prog B.w) A (PySem.contains (.ref a) (.ref x)) Q E s := by
 obtain ⟨m, e⟩ := hl.get F
 have T : s.TypeIs (.ref a) "list" := ⟨_, e, rfl⟩
 refine wpAny_contains_slot T PySem.F.slot_list_contains (wpAny_call (codeAny_call_builtin PySem.F.slot_list_contains.plain PySem.F.entry_list_contains (PySem.F.slot_list_contains.check _ _ _ _ _ _ _ _ T (PySem.F.args_list_contains_2 _ _) ?_)))
 unfold Builtin.«list.__contains__»
 refine wpAny_pure ⟨plainId_quiet MeetsSeq.plain_contains_loop _, codeAny_builtin MeetsSeq.entry_contains_loop ?_⟩
 rw [Around.under_plainId MeetsSeq.plain_contains_loop _]
 refine Fx.inLoop (R₀ := fun r s' => match r with | .ok (.ret v) => wpAny (model B.prog B.w) A (truthy v) Q E s' | .ok _ => False | .error e => E e s') _ 0 st s (Nat.zero_add _) F hl hv V R.in1 fun st' s' le F' => ?_
 exact wpAny_truthy_bool (h _ _ le F')
theorem Fx.inV {Q E : Value → Shared → Prop} {a x : Addr} {n : Nm} {vs : List Value} {ns : List Nm} (F : Fx B md s₀ st₀ st L own l s) (R : Rm A 4) (hl : LA st own a vs) (hv : Vs st vs ns) (V : VarAt st x n)
  (h : ∀ st' s', St.le st st' → Fx B md s₀ st₀ st' L own l s' → Q (.bool (ns.any (· == n))) s') : wpAny (model B.prog B.w) A (compareOp .In (.ref x) (.ref a)) Q E s := by
 show wpAny _ _ (do return .bool (← PySem.contains _ _)) Q E s
 exact wpAny_bind (F.contains R hl hv V fun st' s' le F' => wpAny_pure (h _ _ le F'))
theorem Fx.notInV {Q E : Value → Shared → Prop} {a x : Addr} {n : Nm} {vs : List Value} {ns : List Nm} (F : Fx B md s₀ st₀ st L own l s) (R : Rm A 4) (hl : LA st own a vs) (hv : Vs st vs ns) (V : VarAt st x n)
  (h : ∀ st' s', St.le st st' → Fx B md s₀ st₀ st' L own l s' → Q (.bool (!ns.any (· == n))) s') : wpAny (model B.prog B.w) A (compareOp .NotIn (.ref x) (.ref a)) Q E s := by
 show wpAny _ _ (do return .bool (!(← PySem.contains _ _))) Q E s
 exact wpAny_bind (F.contains R hl hv V fun st' s' le F' => wpAny_pure (h _ _ le F'))
noncomputable def mkL (Q : Value → Shared → Prop) (vs : List Value) (s : Shared) : Prop := vs.length ≤ sizeLine ∧ Q (.ref s.heap.objs.size) { s with heap := s.heap.push { cls := .type "list", data := .seq vs.toArray } }
theorem list_mk {elts : List Expr} {pos : Pos} {env : Env} {Q E : Value → Shared → Prop} (h : wpAny (model B.prog B.w) A (spliced (backTo pos (starEach elts env))) (mkL Q) E s) : wpAny (model B.prog B.w) A (eval (.List elts pos) env) Q E s := wpAny_List h
theorem Fx.lstS {Q : Value → Shared → Prop} {vs : List Value} (F : Fx B md s₀ st₀ st L own l s) (hn : vs.length ≤ 900) (h : ∀ a st' s', St.le st st' → Lst st' a vs → Fx B md s₀ st₀ st' L own l s' → Q (.ref a) s') :
  mkL Q vs s := by
 refine ⟨by rw [sizeLine_eq]; o_head qo, ?_⟩
 obtain ⟨le, G⟩ := F.pushS (o := lstO vs 0) (t := s.toks) rfl
 exact h _ _ _ le ⟨0, St.put_self⟩ G
theorem Fx.lstW {Q : Value → Shared → Prop} {vs : List Value} (F : Fx B md s₀ st₀ st L own l s) (hn : vs.length ≤ 900) (h : ∀ a n s', Fx B md s₀ st₀ st L ((a, lstO vs n) :: own) l s' → Q (.ref a) s') :
  mkL Q vs s :=
 ⟨by rw [sizeLine_eq]; o_head qo, h _ 0 _ (F.pushO (o := lstO vs 0) (t := s.toks) rfl)⟩
theorem Fx.append {Q E : Value → Shared → Prop} {a : Addr} {vs : List Value} {n : Nat} {x : Value} (F : Fx B md s₀ st₀ st L ((a, lstO vs n) :: own) l s) (hn : vs.length ≤ 900)
  (h : ∀ n' s', Fx B md s₀ st₀ st L ((a, lstO (vs ++ [x]) n') :: own) l s' → Q .none s') : wpAny (model B.prog B.w) A (PySem.call (.builtin "list.append") [.ref a, x]) Q E s := by
 have e := (F.ow _ (.head _)).1
 refine call_meets PySem.F.slot_list_append ⟨_, e, rfl⟩ PySem.F.entry_list_append (PySem.F.args_list_append_2 _ _) (list_append a vs.toArray n x (by rw [sizeLine_eq, List.size_toArray]; o_head qo)) ⟨e, ?_⟩
 have G := F.update (f := Obj.mapSeq fun y => y.push x) (t := s.toks) (fun vs e => nomatch e) rfl
 have q : Obj.mapSeq (fun y => y.push x) (lstO vs n) = lstO (vs ++ [x]) (n + 1) := by
  unfold Obj.mapSeq lstO
  simp
 rw [q] at G
 exact h _ _ G
noncomputable abbrev Loc := List (Str × Value)
noncomputable abbrev Owns := List (Addr × Obj)
noncomputable def IterO (o : Obj) (a : Addr) (i : Nat) : Prop := o.cls = .type "list_iterator" ∧ o.data = .fields #[.ref a, .int i 0]
theorem IterO.no {o : Obj} {a : Addr} {i : Nat} (h : IterO o a i) : ∀ vs, o.data = .fields vs → ∀ q t, vs[1]? ≠ some (.str q t) := fun vs e q t k => by
 rw [h.2] at e
 cases e
 simp at k
theorem LA.list {a : Addr} {vs : List Value} (h : LA st own a vs) (F : Fx B md s₀ st₀ st L own l s) : s.heap.IsList a vs.toArray := by
 obtain ⟨n, e⟩ := h.get F
 exact ⟨_, e, rfl, n, rfl⟩
theorem Fx.grown {d : Addr} {o : Obj} {h' : Heap} {t : Nat} (F : Fx B md s₀ st₀ st L ((d, o) :: own) l s) (hk : ∀ vs, o.data = .fields vs → ∀ q t, vs[1]? ≠ some (.str q t)) (hs : Heap.ExtBut d s.heap h') (hz : s.heap.objs.size ≤ h'.objs.size) :
  Fx B md s₀ st₀ st L own l { s with heap := h', toks := t } := by
 obtain ⟨g1, g2, g3, g4, g5⟩ := F.ow (d, o) (.head _)
 dsimp only at g1 g2 g3 g4 g5
 have hT : ∀ P ∈ TT, P ≠ d := fun P hP e => F.notTT g5 (e ▸ hP)
 have hcode : ∀ cv q, s.heap.CodeRec cv q → h'.CodeRec cv q := by
  rintro cv q ⟨c, oc, vs, tt, e1, e2, e3, e4⟩
  refine ⟨c, oc, vs, tt, e1, hs _ _ ?_ e2, e3, e4⟩
  rintro rfl
  rw [g1] at e2
  cases e2
  exact hk _ e3 _ _ e4
 have nd := List.nodup_cons.mp F.nodup
 refine ⟨F.ok, ⟨fun b x e => hs b x ?_ (F.inv.base b x e), F.inv.bare, fun x hx => ?_, Nat.le_trans F.inv.size hz⟩, ?_, fun b x e => hs b x ?_ (F.le b x e), F.offT, F.offL, F.hL, fun p hp => ?_, nd.2,
  ⟨fun b x h1 h2 e => hs b x ?_ (F.ext.1 b x h1 h2 e), Nat.le_trans F.ext.2 hz⟩, F.new, F.old, F.os, F.gs⟩
 ·exact Nat.ne_of_lt (Nat.lt_of_lt_of_le (Heap.lt_size e) g5)
 ·obtain ⟨ps, h1, h2, h3⟩ := (F.inv.tabs x hx).ex
  exact ⟨ps, hs _ _ (hT _ (tabs_TT x hx)) h1, h2, fun pos cv hc => hcode _ _ (h3 pos cv hc)⟩
 ·obtain ⟨m, ⟨oL, es, ep, e, r⟩, hm⟩ := F.ns
  exact ⟨m, ⟨oL, es, ep, hs _ _ g3.symm e, r⟩, hm⟩
 ·rintro rfl; rw [g2] at e; cases e
 ·obtain ⟨h1, h2, h3, h4, h5⟩ := F.ow p (.tail _ hp)
  exact ⟨hs _ _ (fun q => nd.1 (q ▸ List.mem_map_of_mem (f := (·.1)) hp)) h1, h2, h3, h4, h5⟩
 ·rintro rfl
  rcases g4 with g4 | g4
  ·exact absurd (Heap.lt_size e) (Nat.not_lt.mpr g4)
  ·exact h2 g4
theorem Fx.changeI {d : Addr} {o o' : Obj} {h' : Heap} {t : Nat} (F : Fx B md s₀ st₀ st L ((d, o) :: own) l s) (hk : ∀ vs, o.data = .fields vs → ∀ q t, vs[1]? ≠ some (.str q t)) (hs : Heap.SameBut d s.heap h') (hd : h'.get? d = some o') :
  Fx B md s₀ st₀ st L ((d, o') :: own) l { s with heap := h', toks := t } := by
 have G := F.grown (t := t) hk hs.extBut (by rw [hs.1]; exact Nat.le_refl _)
 obtain ⟨g1, g2, g3, g4, g5⟩ := F.ow (d, o) (.head _)
 exact { G with
  ow := fun p hp => by
   rcases List.mem_cons.mp hp with rfl | hp
   ·exact ⟨hd, g2, g3, g4, g5⟩
   ·exact G.ow p hp
  nodup := F.nodup }
theorem Fx.pyIterL {Q E : Value → Shared → Prop} {a : Addr} {vs : List Value} (F : Fx B md s₀ st₀ st L own l s) (hl : LA st own a vs) (h : ∀ it o s', IterO o a 0 → Fx B md s₀ st₀ st L ((it, o) :: own) l s' → Q (.ref it) s') :
  wpAny (model B.prog B.w) A (pyIter (.ref a)) Q E s :=
 wpAny_pyIter_list (hl.list F) (h _ _ _ ⟨rfl, rfl⟩ (F.pushO (o := { cls := .type "list_iterator", data := .fields #[.ref a, .int 0 0] }) (t := s.toks) rfl))
theorem Fx.nextItem {Q : Option Value → Shared → Prop} {E : Value → Shared → Prop} {a it : Addr} {o : Obj} {i : Nat} {x : Value} {vs : List Value} (F : Fx B md s₀ st₀ st L ((it, o) :: own) l s) (hi : IterO o a i) (hl : LA st own a vs) (hx : vs[i]? = some x)
  (h : ∀ o' s', IterO o' a (i + 1) → Fx B md s₀ st₀ st L ((it, o') :: own) l s' → Q (some x) s') : wpAny (model B.prog B.w) A (pyNext (.ref it)) Q E s := by
 have g := (F.ow _ (.head _)).1
 refine wpAny_pyNext_list_item ⟨_, g, hi.1, hi.2⟩ (hl.list (F.drop (List.sublist_cons_self _ _))) (by simpa using hx) fun h' hit hs => ?_
 obtain ⟨o', e1, e2, e3⟩ := hit
 exact h _ _ ⟨e2, e3⟩ (F.changeI (t := s.toks) hi.no hs e1)
theorem next_end {prog : Program} {w : World} {it a : Addr} {o : Obj} {i n : Nat} {vs : List Value} {Q : Option Value → Shared → Prop} {E : Value → Shared → Prop} (hh : A.handled = none) (g : s.heap.get? it = some o) (hi : IterO o a i) (hl : s.heap.get? a = some (lstO vs n)) (hx : vs[i]? = none)
  (hQ : ∀ h', Heap.ExtBut it s.heap h' → s.heap.objs.size ≤ h'.objs.size → Q none { s with heap := h' }) : wpAny (model prog w) A (pyNext (.ref it)) Q E s := by
 have T : s.TypeIs (.ref it) "list_iterator" := ⟨_, g, hi.1⟩
 unfold pyNext
 refine wpAny_bind (wpAny_attempt (wpAny_callSpecial?_slot (name := Str.ofString "__next__") T slot_listiter_next (wpAny_call_entry slot_listiter_next T entry_listiter_next ?_ (args_listiter_next _))))
 show wpAny _ _ (field (.ref it) 0 >>= _) _ _ s
 refine wpAny_bind (wpAny_field g hi.2 (x := .ref a) rfl ?_)
 show wpAny _ _ (if (Value.ref a == Value.none) = true then _ else _) _ _ s
 rw [if_neg (show ¬ ((Value.ref a == Value.none) = true) from Bool.false_ne_true)]
 show wpAny _ _ (field (.ref it) 1 >>= _) _ _ s
 refine wpAny_bind (wpAny_field g hi.2 (x := .int i 0) rfl ?_)
 show wpAny _ _ (seqItems? (.ref a) >>= _) _ _ s
 refine wpAny_bind (wpAny_seqItems hl rfl ?_)
 have hx' : vs.toArray[i]? = none := by simpa using hx
 simp only [Int.toNat_natCast, hx']
 refine wpAny_bind (wpAny_rule (wpAny_bind (wpAny_setField g hi.2 (by simp) ?_)))
 show wpAny _ _ (newExc (.type "StopIteration") [] >>= _) _ _ _
 refine wpAny_bind ?_
 simp only [newExc, newTuple]
 refine wpAny_bind (wpAny_newObj_type ?_ (by size_fits))
 refine wpAny_bind (m := firstArgMember _ _) (wpAny_of_eq (a := Value.none) (by first | rfl | (simp only [firstArgMember]; rfl)) ?_)
 refine wpAny_newObj_type ?_ (by size_fits)
 dsimp only [raiseNew]
 refine wpAny_bind (wpAny_handled ?_)
 rw [show A.in1.handled = none from hh]
 refine wpAny_bind (wpAny_pure (wpAny_throw ?_))
 refine wpAny_bind (wpAny_isInstance (T := "StopIteration") (b := true) ⟨_, Heap.get?_push_size _ rfl, rfl⟩ isSubtype_stop ?_)
 refine wpAny_pure (hQ _ (((Heap.SameBut.update ..).extBut.push _).push _) ?_)
 rw [Heap.size_push, Heap.size_push]
 have : ∀ f, (s.heap.update it f).objs.size = s.heap.objs.size := fun f => (Heap.SameBut.update ..).1
 rw [this]
 exact Nat.le_trans (Nat.le_succ _) (Nat.le_succ _)
theorem Fx.nextEnd {Q : Option Value → Shared → Prop} {E : Value → Shared → Prop} {a it : Addr} {o : Obj} {i : Nat} {vs : List Value} (F : Fx B md s₀ st₀ st L ((it, o) :: own) l s) (hh : A.handled = none) (hi : IterO o a i) (hl : LA st own a vs) (hx : vs[i]? = none)
  (h : ∀ s', Fx B md s₀ st₀ st L own l s' → Q none s') : wpAny (model B.prog B.w) A (pyNext (.ref it)) Q E s := by
 obtain ⟨n, e⟩ := hl.get (F.drop (List.sublist_cons_self _ _))
 exact next_end hh (F.ow _ (.head _)).1 hi e hx fun h' hs hz => h _ (F.grown (t := s.toks) hi.no hs hz)
noncomputable def turnQ (K : Shared → Prop) (Q : Flow → Shared → Prop) : Flow → Shared → Prop
 | .next, s => K s
 | .cont, s => K s
 | .brk, s => Q .next s
 | .ret v, s => Q (.ret v) s
theorem turnQ_next {K : Shared → Prop} {Q : Flow → Shared → Prop} (h : K s) : turnQ K Q .next s := h
theorem turnQ_ret {K : Shared → Prop} {Q : Flow → Shared → Prop} {v : Value} (h : Q (.ret v) s) : turnQ K Q (.ret v) s := h
theorem Fx.forL {Q : Flow → Shared → Prop} {E : Value → Shared → Prop} {a : Addr} {vs : List Value} {target : Expr} {body : List Stmt} {env : Env} (J : Nat → St → List (Addr × Obj) → List (Str × Value) → Prop)
  (F : Fx B md s₀ st₀ st L own l s) (hh : A.handled = none) (hl : Lst st a vs) (h0 : J 0 st own l)
  (turn : ∀ i x st' it o own' l' s' E', vs[i]? = some x → St.le st st' → J i st' own' l' → Fx B md s₀ st₀ st' L ((it, o) :: own') l' s' →
   wpAny (model B.prog B.w) A (assign target env x) (fun z s₂ => wpAny (model B.prog B.w) A (execs body env) (turnQ (fun s₃ => ∃ st'' own'' l'', St.le st' st'' ∧ J (i + 1) st'' own'' l'' ∧ Fx B md s₀ st₀ st'' L ((it, o) :: own'') l'' s₃) Q) E' s₂) E' s')
  (done : ∀ st' own' l' s', St.le st st' → J vs.length st' own' l' → Fx B md s₀ st₀ st' L own' l' s' → Q .next s')
  (ht : autoParam (∀ it v, letOwnedTupleGo target it v = pure ()) Mine.tI) :
  wpAny (model B.prog B.w) A (pyIter (.ref a)) (fun it s₂ => codeAny (model B.prog B.w) A (.forLoop target it body [] env) (fun r s' => match r with | .ok f => Q f s' | .error e => cameBackBy (model B.prog B.w) A env E e s') s₂) E s := by
 refine F.pyIterL hl.la fun it o s₁ hi F => ?_
 refine codeAny_forLoop (fun n s => ∃ i st' o own' l', n + i = vs.length ∧ St.le st st' ∧ J i st' own' l' ∧ IterO o a i ∧ Fx B md s₀ st₀ st' L ((it, o) :: own') l' s) ?_ vs.length ⟨0, st, o, own, l, rfl, St.le.refl _, h0, hi, F⟩ (ht _)
 rintro n s' ⟨i, st', o, own', l', hn, le, hJ, hi, F⟩
 cases hx : vs[i]? with
 | none =>
  refine F.nextEnd hh hi (hl.mono le).la hx fun s₂ F => ?_
  refine wpAny_execs_nil (done _ _ _ _ le ?_ F)
  have : i = vs.length := dz hn (List.getElem?_eq_none_iff.mp hx)
  rwa [← this]
 | some x =>
  refine F.nextItem hi (hl.mono le).la hx fun o' s₂ hi' F => ?_
  refine wpAny_mono (turn i x st' it o' own' l' s₂ _ hx le hJ F) (fun z s₃ q => wpAny_mono q (fun f s₄ q => ?_) fun z z e => e) fun z z e => e
  have hlt : i < vs.length := (List.getElem?_eq_some_iff.mp hx).1
  have fin : (∃ st'' own'' l'', St.le st' st'' ∧ J (i + 1) st'' own'' l'' ∧ Fx B md s₀ st₀ st'' L ((it, o') :: own'') l'' s₄) → ∃ m, m < n ∧ ∃ i st' o own' l', m + i = vs.length ∧ St.le st st' ∧ J i st' own' l' ∧ IterO o a i ∧ Fx B md s₀ st₀ st' L ((it, o) :: own') l' s₄ := by
   rintro ⟨st'', own'', l'', le', hJ', F'⟩
   exact ⟨n - 1, (dn hn hlt).1, i + 1, st'', o', own'', l'', (dn hn hlt).2, le.trans le', hJ', hi', F'⟩
  cases f with
  | next => exact fin q
  | cont => exact fin q
  | brk => exact q
  | ret v => exact q
theorem Fx.appendAt {Q E : Value → Shared → Prop} {a : Addr} {vs : List Value} {n : Nat} {x : Value} (pre : List (Addr × Obj)) {post : List (Addr × Obj)} (F : Fx B md s₀ st₀ st L (pre ++ (a, lstO vs n) :: post) l s) (hn : vs.length ≤ 900)
  (h : ∀ n' s', Fx B md s₀ st₀ st L (pre ++ (a, lstO (vs ++ [x]) n') :: post) l s' → Q .none s') : wpAny (model B.prog B.w) A (PySem.call (.builtin "list.append") [.ref a, x]) Q E s :=
 Fx.append (F.ownPerm List.perm_middle.symm) hn fun n' s' F' => h n' s' (F'.ownPerm List.perm_middle)
theorem Fx.callAppend {Q E : Value → Shared → Prop} {a : Addr} {vs : List Value} {pl : Sem Bool} {pos : Pos} {e : Expr} {rest : List Expr} {env : Env} (F : Fx B md s₀ st₀ st L own l s) (hl : LA st own a vs)
  (h : wpAny (model B.prog B.w) A (spliced (backTo pos (starEach (e :: rest) env))) (fun xs s₁ => wpAny (model B.prog B.w) A (PySem.call (.builtin "list.append") (.ref a :: xs)) Q E s₁) E s)
  (he : autoParam (starEach (e :: rest) env = (false, eval e env) :: starEach rest env) Mine.tR) (hplain : autoParam ((backTo pos (starEach rest env)).any (·.1) = false) Mine.tR) :
  wpAny (model B.prog B.w) A (getMethod (.ref a) "append" pl) (fun fx s₂ => wpAny (model B.prog B.w) A (callWith pos fx.1 fx.2 (backTo pos (starEach (e :: rest) env)) []) Q E s₂) E s := by
 obtain ⟨n, g⟩ := hl.get F
 exact getMethod_list_append g rfl rfl (callWith_method1 h he hplain)
theorem Fx.lsub {l' : List (Str × Value)} (F : Fx B md s₀ st₀ st L own l s) (h : ∀ p ∈ l', p ∈ l) : Fx B md s₀ st₀ st L own l' s :=
 { F with ns := let ⟨m, hn, hm⟩ := F.ns; ⟨m, hn, fun p hp => hm p (h p hp)⟩ }
theorem ne_nil {x : Str} : ∀ p ∈ ([] : List (Str × Value)), p.1 ≠ x := fun z h => nomatch h
theorem ne_cons {x k : Str} {v : Value} {r : List (Str × Value)} (h : k ≠ x) (t : ∀ p ∈ r, p.1 ≠ x) : ∀ p ∈ (k, v) :: r, p.1 ≠ x := fun p hp => by
 rcases List.mem_cons.mp hp with rfl | hp
 ·exact h
 ·exact t p hp
section
variable {Q : Unit → Shared → Prop} {E : Value → Shared → Prop} {env : Env} {names : List (Str × NameKind)} {cl : List (Str × Addr)} {qual : Str} {cd : Value}
theorem Fx.storeN {x : Str} {v : Value} (F : Fx B md s₀ st₀ st L own l s) (N : En env L names cl qual cd) (hx : (x, NameKind.local) ∈ names) (hl : ∀ p ∈ l, p.1 ≠ x)
  (h : ∀ s', Fx B md s₀ st₀ st L own ((x, v) :: l) s' → Q () s') : wpAny (model B.prog B.w) A (storeName env x v) Q E s :=
 F.store l N hx (fun p hp => ⟨hp, hl p hp⟩) h
theorem Fx.storeH {x : Str} {v v0 : Value} (F : Fx B md s₀ st₀ st L own ((x, v0) :: l) s) (N : En env L names cl qual cd) (hx : (x, NameKind.local) ∈ names) (hl : ∀ p ∈ l, p.1 ≠ x)
  (h : ∀ s', Fx B md s₀ st₀ st L own ((x, v) :: l) s' → Q () s') : wpAny (model B.prog B.w) A (storeName env x v) Q E s :=
 F.store l N hx (fun p hp => ⟨.tail _ hp, hl p hp⟩) h
end
theorem nodup_le {α : Type} [DecidableEq α] : ∀ (S l : List α), l.Nodup → (∀ x ∈ l, x ∈ S) → l.length ≤ S.length
 | [], l, _, h => by
  cases l with
  | nil => exact Nat.le_refl _
  | cons a r => exact absurd (h a (.head _)) (fun q => nomatch q)
 | a :: S, l, hn, h => by
  by_cases ha : a ∈ l
  ·have h1 := nodup_le S (l.erase a) (hn.erase a) fun x hx => by
    have q := (hn.mem_erase_iff).mp hx
    rcases List.mem_cons.mp (h x q.2) with e | e
    ·exact absurd e q.1
    ·exact e
   have h2 := List.length_erase_of_mem ha
   have h3 : 0 < l.length := List.length_pos_of_mem ha
   simp only [List.length_cons]; o_head qo
  ·exact Nat.le_trans (nodup_le S l hn fun x hx => by
    rcases List.mem_cons.mp (h x hx) with e | e
    ·exact absurd (e ▸ hx) ha
    ·exact e) (Nat.le_succ _)
noncomputable def allNm : List Nm := [.x, .y, .w, .z1, .u, .rex, .dog, .sees, .mother]
theorem nm_len {l : List Nm} (h : l.Nodup) : l.length ≤ 9 := nodup_le allNm l h fun x z => by cases x <;> decide
theorem addN_t {f : List Nm} {n : Nm} (h : f.any (· == n) = true) : addN f n = f := if_pos h
theorem addN_f {f : List Nm} {n : Nm} (h : f.any (· == n) = false) : addN f n = f ++ [n] := if_neg (by rw [h]; decide)
theorem addAll_snoc {f ns : List Nm} {n : Nm} : addAll f (ns ++ [n]) = addN (addAll f ns) n := List.foldl_append ..
theorem unionN_snoc {nss : List (List Nm)} {ns : List Nm} : unionN (nss ++ [ns]) = addAll (unionN nss) ns := List.foldl_append ..
set_option tactic.hygienic true in
theorem addN_nodup {f : List Nm} {n : Nm} (h : f.Nodup) : (addN f n).Nodup := by
 unfold addN
 split
 ·exact h
 ·rename_i q
  rw [List.nodup_append]
  refine ⟨h, List.nodup_cons.mpr ⟨(fun h => nomatch h), .nil⟩, fun a ha b hb e => q ?_⟩
  cases List.mem_singleton.mp hb
  exact List.any_eq_true.mpr ⟨a, ha, by rw [e]; exact beq_self_eq_true _⟩
theorem fold_nodup : ∀ {ns f : List Nm}, f.Nodup → (addAll f ns).Nodup
 | [], _, h => h
 | _ :: ns, _, h => fold_nodup (ns := ns) (addN_nodup h)
theorem union_nodup' : ∀ {nss : List (List Nm)} {f : List Nm}, f.Nodup → (nss.foldl addAll f).Nodup
 | [], _, h => h
 | _ :: nss, _, h => union_nodup' (nss := nss) (fold_nodup h)
theorem union_nodup (nss : List (List Nm)) : (unionN nss).Nodup := union_nodup' .nil
noncomputable def VL (st : St) : List Value → List (List Nm) → Prop
 | [], [] => True
 | v :: vs, n :: ns => Vars st v n ∧ VL st vs ns
 | _, _ => False
theorem VL.mono {st st' : St} (k : St.le st st') : ∀ {vs : List Value} {ns : List (List Nm)}, VL st vs ns → VL st' vs ns
 | [], [], _ => trivial
 | _ :: _, _ :: _, ⟨h, r⟩ => ⟨h.mono k, r.mono k⟩
 | [], _ :: _, h => h.elim
 | _ :: _, [], h => h.elim
theorem VL.len : ∀ {vs : List Value} {ns : List (List Nm)}, VL st vs ns → vs.length = ns.length
 | [], [], _ => rfl
 | _ :: _, _ :: _, ⟨_, r⟩ => congrArg (· + 1) r.len
 | [], _ :: _, h => h.elim
 | _ :: _, [], h => h.elim
theorem VL.get : ∀ {vs : List Value} {ns : List (List Nm)}, VL st vs ns → ∀ {i : Nat} {x : Value}, vs[i]? = some x → ∃ n, ns[i]? = some n ∧ Vars st x n
 | v :: _, n :: _, ⟨h, _⟩, 0, _, e => by cases e; exact ⟨n, rfl, h⟩
 | _ :: _, _ :: _, ⟨_, r⟩, i + 1, _, e => by simpa using r.get (i := i) (by simpa using e)
 | [], _, _, i, _, e => by simp at e
 | _ :: _, [], h, _, _, _ => h.elim
theorem Vs.get' : ∀ {vs : List Value} {ns : List Nm}, Vs st vs ns → ∀ {i : Nat} {x : Value}, vs[i]? = some x → ∃ n b, ns[i]? = some n ∧ x = .ref b ∧ VarAt st b n
 | v :: _, n :: _, ⟨⟨b, e1, h⟩, _⟩, 0, _, e => by cases e; exact ⟨n, b, rfl, e1, h⟩
 | _ :: _, _ :: _, ⟨_, r⟩, i + 1, _, e => by simpa using r.get' (i := i) (by simpa using e)
 | [], _, _, i, _, e => by simp at e
 | _ :: _, [], h, _, _, _ => h.elim
theorem take_snoc {α : Type} {l : List α} {i : Nat} {x : α} (h : l[i]? = some x) : l.take (i + 1) = l.take i ++ [x] := by
 rw [List.take_add_one, h]; rfl
theorem Fx.push (F : Fx B md s₀ st₀ st L own l s) (o : Obj) (t : Nat) : Fx B md s₀ st₀ st L own l { s with heap := s.heap.push o, toks := t } := by
 have keep : ∀ b x, s.heap.get? b = some x → (s.heap.push o).get? b = some x := fun b x e => Heap.get?_push_of_some _ e
 have hsz : s.heap.objs.size ≤ (s.heap.push o).objs.size := by rw [Heap.size_push]; exact Nat.le_succ _
 refine ⟨F.ok, ⟨fun b x e => keep b x (F.inv.base b x e), F.inv.bare, fun x hx => ?_, Nat.le_trans F.inv.size hsz⟩, ?_, fun b x e => keep b x (F.le b x e), F.offT, F.offL, F.hL, fun p hp => ?_, F.nodup, ⟨fun b x h1 h2 e => keep b x (F.ext.1 b x h1 h2 e), Nat.le_trans F.ext.2 hsz⟩, F.new, F.old, F.os, F.gs⟩
 ·obtain ⟨ps, h1, h2, h3⟩ := (F.inv.tabs x hx).ex
  exact ⟨ps, keep _ _ h1, h2, fun pos cv hc => (h3 pos cv hc).keeps keep⟩
 ·obtain ⟨m, hn, hm⟩ := F.ns
  exact ⟨m, hn.keeps keep, hm⟩
 ·obtain ⟨h1, h2⟩ := F.ow p hp
  exact ⟨keep _ _ h1, h2⟩
theorem Fx.hp (F : Fx B md s₀ st₀ st L own l s) : ∀ t, Fx B md s₀ st₀ st L own l { s with heap := s.heap, toks := t } := fun z => F.toks
section
variable {Q E : Value → Shared → Prop} {env : Env}
theorem Fx.constI {i : Int} {k : Nat} {pos : Pos} (F : Fx B md s₀ st₀ st L own l s) (h : ∀ t s', Fx B md s₀ st₀ st L own l s' → Q (.int i t) s') : wpAny (model B.prog B.w) A (eval (.Constant (.int i) k pos) env) Q E s := wpAny_Constant_int (h _ _ F.toks)
theorem Fx.constS {x : Str} {k : Nat} {pos : Pos} (F : Fx B md s₀ st₀ st L own l s) (h : ∀ t s', Fx B md s₀ st₀ st L own l s' → Q (.str x t) s') : wpAny (model B.prog B.w) A (eval (.Constant (.str x) k pos) env) Q E s := wpAny_Constant_str (h _ _ F.toks)
theorem part_none (h : Q .none s) : wpAny (model B.prog B.w) A (evalPart none env) Q E s := wpAny_pure h
theorem part_some {e : Expr} (h : wpAny (model B.prog B.w) A (eval e env) Q E s) (he : autoParam (evalPart (some e) env = eval e env) Mine.tR) : wpAny (model B.prog B.w) A (evalPart (some e) env) Q E s := by rw [he]; exact h
noncomputable def slcQ (Q : Value → Shared → Prop) (o vl vu : Value) (s : Shared) : Prop := ∃ x t l u, o = .str x t ∧ vl = partValue l ∧ vu = partValue u ∧ (sliceMade x t l u none).post Q { s with heap := s.heap.push { cls := .type "slice", data := .fields #[vl, vu, .none] } }
theorem slice_mk {value : Expr} {lower upper : Option Expr} {p pos : Pos}
  (h : wpAny (model B.prog B.w) A (eval value env) (fun o s₁ => wpAny (model B.prog B.w) A (evalPart lower env) (fun vl s₂ => wpAny (model B.prog B.w) A (evalPart upper env) (fun vu s₃ => slcQ Q o vl vu s₃) E s₂) E s₁) E s) (ht : autoParam (∀ o r, letTemporaryGo value o r = pure ()) Mine.tI) :
  wpAny (model B.prog B.w) A (eval (.Subscript value (.Slice lower upper none p) pos) env) Q E s := wpAny_Subscript_str_slice h ht
set_option tactic.hygienic true in
theorem Fx.slc {x : Str} {t : Tok} (lo up : Option (Int × Tok)) (F : Fx B md s₀ st₀ st L own l s) (hx : x.length ≤ sizeLine) (h : ∀ t' s', Fx B md s₀ st₀ st L own l s' → Q (.str (Txt.slice x (lo.map (·.1)) (up.map (·.1))) t') s') :
  slcQ Q (.str x t) (partValue lo) (partValue up) s := by
 refine ⟨x, t, lo, up, rfl, rfl, rfl, ?_⟩
 have fin : ∀ t' k, Q (.str (Txt.slice x (lo.map (·.1)) (up.map (·.1))) t') { s with heap := s.heap.push { cls := .type "slice", data := .fields #[partValue lo, partValue up, .none] }, toks := k } := fun t' k => h t' _ (F.push _ k)
 have hle := Nat.le_trans (Txt.slice_le x (lo.map (·.1)) (up.map (·.1))) hx
 unfold sliceMade
 unfold Txt.slice at fin hle
 split
 ·rename_i q
  have q' : ((1 : Int) == 1 && (PySem.Builtin.Str.strSliceIndices (lo.map (·.1)) (up.map (·.1)) 1 x.length).length == x.length) = true := q
  rw [if_pos q'] at fin
  exact fin t s.toks
 ·rename_i q
  have q' : ¬ ((1 : Int) == 1 && (PySem.Builtin.Str.strSliceIndices (lo.map (·.1)) (up.map (·.1)) 1 x.length).length == x.length) = true := q
  rw [if_neg q'] at fin hle
  exact ⟨hle, fin _ _⟩
theorem Fx.notInS {x y : Str} {t u : Tok} (_F : Fx B md s₀ st₀ st L own l s) (h : Q (.bool (!Txt.contains x y)) s) : wpAny (model B.prog B.w) A (compareOp .NotIn (.str y u) (.str x t)) Q E s := P.notIn_str h
theorem allTrue_or {x y : Expr} {Q : Bool → Shared → Prop} (h : wpAny (model B.prog B.w) A (isTrue x env (eval x env)) (fun b s₁ => if b then Q true s₁ else wpAny (model B.prog B.w) A (isTrue y env (eval y env)) Q E s₁) E s) :
  wpAny (model B.prog B.w) A (allTrue .Or [x, y] env) Q E s := by
 refine wpAny_allTrue_Or_cons (wpAny_mono h (fun b s₁ q => ?_) fun z z e => e)
 cases b with
 | true => exact q
 | false =>
  refine wpAny_allTrue_Or_cons (wpAny_mono q (fun c s₂ q => ?_) fun z z e => e)
  cases c with
  | true => exact q
  | false => exact wpAny_allTrue_Or_nil q
theorem allTrue_and {x y : Expr} {Q : Bool → Shared → Prop} (h : wpAny (model B.prog B.w) A (isTrue x env (eval x env)) (fun b s₁ => if b then wpAny (model B.prog B.w) A (isTrue y env (eval y env)) Q E s₁ else Q false s₁) E s) :
  wpAny (model B.prog B.w) A (allTrue .And [x, y] env) Q E s := by
 refine wpAny_allTrue_And_cons (wpAny_mono h (fun b s₁ q => ?_) fun z z e => e)
 cases b with
 | false => exact q
 | true =>
  refine wpAny_allTrue_And_cons (wpAny_mono q (fun c s₂ q => ?_) fun z z e => e)
  cases c with
  | true => exact wpAny_allTrue_And_nil q
  | false => exact q
end
noncomputable def IterS (o : Obj) (x : Str) (t : Tok) (i : Nat) : Prop := o.cls = .type "str_ascii_iterator" ∧ o.data = .fields #[.str x t, .int i 0]
theorem IterS.no {o : Obj} {x : Str} {t : Tok} {i : Nat} (h : IterS o x t i) : ∀ vs, o.data = .fields vs → ∀ q t, vs[1]? ≠ some (.str q t) := fun vs e q t k => by
 rw [h.2] at e
 cases e
 simp at k
theorem next_endS {prog : Program} {w : World} {it : Addr} {o : Obj} {x : Str} {t : Tok} {i : Nat} {Q : Option Value → Shared → Prop} {E : Value → Shared → Prop} (hh : A.handled = none) (g : s.heap.get? it = some o) (hi : IterS o x t i) (hx : x.cps[i]? = none)
  (hQ : ∀ h', Heap.ExtBut it s.heap h' → s.heap.objs.size ≤ h'.objs.size → Q none { s with heap := h' }) : wpAny (model prog w) A (pyNext (.ref it)) Q E s := by
 have T : s.TypeIs (.ref it) "str_ascii_iterator" := ⟨_, g, hi.1⟩
 unfold pyNext
 refine wpAny_bind (wpAny_attempt (wpAny_callSpecial?_slot (name := Str.ofString "__next__") T PySem.F.slot_str_ascii_iterator_next (wpAny_call_entry PySem.F.slot_str_ascii_iterator_next T PySem.F.entry_str_ascii_iterator_next ?_ (PySem.F.args_str_ascii_iterator_next_1 _))))
 show wpAny _ _ (field (.ref it) 0 >>= _) _ _ s
 refine wpAny_bind (wpAny_field g hi.2 (x := .str x t) rfl ?_)
 show wpAny _ _ (field (.ref it) 1 >>= _) _ _ s
 refine wpAny_bind (wpAny_field g hi.2 (x := .int i 0) rfl ?_)
 simp only [Int.toNat_natCast, hx]
 refine wpAny_bind (wpAny_rule (wpAny_bind (wpAny_setField g hi.2 (by simp) (wpAny_bind (wpAny_letGo ?_)))))
 show wpAny _ _ (newExc (.type "StopIteration") [] >>= _) _ _ _
 refine wpAny_bind ?_
 simp only [newExc, newTuple]
 refine wpAny_bind (wpAny_newObj_type ?_ (by size_fits))
 refine wpAny_bind (m := firstArgMember _ _) (wpAny_of_eq (a := Value.none) (by first | rfl | (simp only [firstArgMember]; rfl)) ?_)
 refine wpAny_newObj_type ?_ (by size_fits)
 dsimp only [raiseNew]
 refine wpAny_bind (wpAny_handled ?_)
 rw [show A.in1.handled = none from hh]
 refine wpAny_bind (wpAny_pure (wpAny_throw ?_))
 refine wpAny_bind (wpAny_isInstance (T := "StopIteration") (b := true) ⟨_, Heap.get?_push_size _ rfl, rfl⟩ isSubtype_stop ?_)
 refine wpAny_pure (hQ _ (((Heap.SameBut.update ..).extBut.push _).push _) ?_)
 rw [Heap.size_push, Heap.size_push]
 have : ∀ f, (s.heap.update it f).objs.size = s.heap.objs.size := fun f => (Heap.SameBut.update ..).1
 rw [this]
 exact Nat.le_trans (Nat.le_succ _) (Nat.le_succ _)
theorem Fx.forS {Q : Flow → Shared → Prop} {E : Value → Shared → Prop} {x : Str} {t : Tok} {target : Expr} {body : List Stmt} {env : Env} (J : Nat → St → List (Addr × Obj) → List (Str × Value) → Prop)
  (F : Fx B md s₀ st₀ st L own l s) (hh : A.handled = none) (ha : x.cps.all (· < 128) = true) (h0 : J 0 st own l)
  (turn : ∀ i c tk st' it o own' l' s' E', x.cps[i]? = some c → St.le st st' → J i st' own' l' → Fx B md s₀ st₀ st' L ((it, o) :: own') l' s' →
   wpAny (model B.prog B.w) A (assign target env (.str ⟨#[c]⟩ tk)) (fun z s₂ => wpAny (model B.prog B.w) A (execs body env) (turnQ (fun s₃ => ∃ st'' own'' l'', St.le st' st'' ∧ J (i + 1) st'' own'' l'' ∧ Fx B md s₀ st₀ st'' L ((it, o) :: own'') l'' s₃) Q) E' s₂) E' s')
  (done : ∀ st' own' l' s', St.le st st' → J x.cps.size st' own' l' → Fx B md s₀ st₀ st' L own' l' s' → Q .next s')
  (ht : autoParam (∀ it v, letOwnedTupleGo target it v = pure ()) Mine.tI) :
  wpAny (model B.prog B.w) A (pyIter (.str x t)) (fun it s₂ => codeAny (model B.prog B.w) A (.forLoop target it body [] env) (fun r s' => match r with | .ok f => Q f s' | .error e => cameBackBy (model B.prog B.w) A env E e s') s₂) E s := by
 refine wpAny_pyIter_ascii ha ?_
 have F0 := F.pushO (o := { cls := .type "str_ascii_iterator", data := .fields #[.str x t, .int 0 0] }) (t := s.toks) rfl
 generalize s.heap.objs.size = it at F0
 refine codeAny_forLoop (fun n s => ∃ i st' o own' l', n + i = x.cps.size ∧ St.le st st' ∧ J i st' own' l' ∧ IterS o x t i ∧ Fx B md s₀ st₀ st' L ((it, o) :: own') l' s) ?_ x.cps.size ⟨0, st, _, own, l, rfl, St.le.refl _, h0, ⟨rfl, rfl⟩, F0⟩ (ht _)
 rintro n s' ⟨i, st', o, own', l', hn, le, hJ, hi, F⟩
 have g := (F.ow _ (.head _)).1
 cases hx : x.cps[i]? with
 | none =>
  refine next_endS hh g hi hx fun h' hs hz => ?_
  refine wpAny_execs_nil (done _ _ _ _ le ?_ (F.grown (t := s'.toks) hi.no hs hz))
  have : i = x.cps.size := dz hn (Array.getElem?_eq_none_iff.mp hx)
  rwa [← this]
 | some c =>
  refine wpAny_pyNext_ascii_item ⟨_, g, hi.1, hi.2⟩ hx fun h' hit hs => ?_
  obtain ⟨o', e1, e2, e3⟩ := hit
  have F' := F.changeI (t := s'.toks + 1) hi.no hs e1
  refine wpAny_mono (turn i c _ st' it o' own' l' _ _ hx le hJ F') (fun z s₃ q => wpAny_mono q (fun f s₄ q => ?_) fun z z e => e) fun z z e => e
  have hlt : i < x.cps.size := (Array.getElem?_eq_some_iff.mp hx).1
  have fin : (∃ st'' own'' l'', St.le st' st'' ∧ J (i + 1) st'' own'' l'' ∧ Fx B md s₀ st₀ st'' L ((it, o') :: own'') l'' s₄) → ∃ m, m < n ∧ ∃ i st' o own' l', m + i = x.cps.size ∧ St.le st st' ∧ J i st' own' l' ∧ IterS o x t i ∧ Fx B md s₀ st₀ st' L ((it, o) :: own') l' s₄ := by
   rintro ⟨st'', own'', l'', le', hJ', F'⟩
   exact ⟨n - 1, (dn hn hlt).1, i + 1, st'', o', own'', l'', (dn hn hlt).2, le.trans le', hJ', ⟨e2, e3⟩, F'⟩
  cases f with
  | next => exact fin q
  | cont => exact fin q
  | brk => exact q
  | ret v => exact q
noncomputable abbrev Bs.re (B : Bs) (s : Shared) : Bs := { B with g := hideAll s.heap TT }
theorem Bs.re_get (B : Bs) {s : Shared} {b : Addr} {o : Obj} (e : s.heap.get? b = some o) (h : b ∉ TT) : (B.re s).g.get? b = some o := hideAll_get TT e h
theorem At.reKeep (H : At B st s) : ∀ b o, B.g.get? b = some o → (B.re s).g.get? b = some o := fun b o e =>
 B.re_get (H.inv.base _ _ e) fun hb => by rw [H.ok.off b hb] at e; cases e
theorem At.re (H : At B st s) : At (B.re s) st s := by
 have k := H.reKeep
 refine ⟨⟨H.ok.X.keeps k, H.ok.gl.keeps k, H.ok.bl.keeps k, H.ok.lim.keeps k, H.ok.bi, ?_, fun P hP => hideAll_none TT hP, ?_⟩, ⟨fun b o e => of_hideAll TT e, H.inv.bare, H.inv.tabs, ?_⟩, H.le, H.offT⟩
 ·obtain ⟨bm, ob, h1, h2, h3, h4, h5⟩ := H.ok.bm
  exact ⟨bm, ob, h1, h2, h3, k _ _ h4, h5⟩
 ·show _ ≤ (hideAll s.heap TT).objs.size
  rw [hideAll_size]; exact Nat.le_trans H.ok.size H.inv.size
 ·show (hideAll s.heap TT).objs.size ≤ _
  rw [hideAll_size]; exact Nat.le_refl _
theorem Spec.re {st : St} {t : Sem Value} {Φ : Heap → St → Value → Prop} (H : At B st s) (C : Spec (B.re s) A [] st s t Φ) : Spec B A [] st s t Φ := fun Q E k => C Q E fun v s' I X hos hΦ => k v s' ⟨fun b o e => I.base b o (H.reKeep b o e), I.bare, I.tabs, by
 have := I.size
 rw [show (B.re s).g.objs.size = s.heap.objs.size from hideAll_size ..] at this
 exact Nat.le_trans H.inv.size this⟩ X hos hΦ
noncomputable def CellAt (st : St) (c : Addr) (v : Value) : Prop := ∃ o, st c = some o ∧ o.data = .cell (some v)
theorem CellAt.mono {st st' : St} {c : Addr} {v : Value} (h : CellAt st c v) (k : St.le st st') : CellAt st' c v := by
 obtain ⟨o, e, d⟩ := h
 exact ⟨o, k _ _ e, d⟩
noncomputable def Cells (st : St) (cl : List (Str × Addr)) (cb : List (Str × Value)) : Prop := ∀ p ∈ cb, ∃ c, cl.lookup p.1 = some c ∧ CellAt st c p.2
theorem Cells.mono {st st' : St} {cl : List (Str × Addr)} {cb : List (Str × Value)} (h : Cells st cl cb) (k : St.le st st') : Cells st' cl cb := fun p hp => let ⟨c, e, d⟩ := h p hp; ⟨c, e, d.mono k⟩
section
variable {Q E : Value → Shared → Prop} {env : Env} {names : List (Str × NameKind)} {cl : List (Str × Addr)} {qual : Str} {cd : Value} {cb : List (Str × Value)}
theorem Fx.nameC {x : Str} {pos : Pos} {v : Value} (F : Fx B md s₀ st₀ st L own l s) (N : En env L names cl qual cd) (C : Cells st cl cb) (hv : (x, v) ∈ cb) (hx : (x, NameKind.cell) ∈ names) (h : Q v s) :
  wpAny (model B.prog B.w) A (eval (.Name x pos) env) Q E s := by
 obtain ⟨c, e, o, d1, d2⟩ := C _ hv
 exact wpAny_Name (wpAny_loadName_cell N.kind (N.at' _ hx).1 (N.cells.symm ▸ e) ⟨o, F.le _ _ d1, d2⟩ h) (N.at' _ hx).2
theorem Fx.nameF {x : Str} {pos : Pos} {v : Value} (F : Fx B md s₀ st₀ st L own l s) (N : En env L names cl qual cd) (C : Cells st cl cb) (hv : (x, v) ∈ cb) (hx : (x, NameKind.free) ∈ names) (h : Q v s) (hn : (x == ("__classdict__" : Str)) = false := by decide +kernel) :
  wpAny (model B.prog B.w) A (eval (.Name x pos) env) Q E s := by
 obtain ⟨c, e, o, d1, d2⟩ := C _ hv
 exact wpAny_Name (wpAny_loadName_free N.kind (N.at' _ hx).1 (N.cells.symm ▸ e) ⟨o, F.le _ _ d1, d2⟩ h hn) (N.at' _ hx).2
end
theorem bindL_keep {kindOf : Str → Option NameKind} {x : Str} : ∀ (binds : List (Str × Value)) (m : Str → Option Value), x ∉ binds.map (·.1) → bindL kindOf binds m x = m x
 | [], _, _ => rfl
 | (n, v) :: r, m, h => by
  have h1 : x ≠ n := fun q => h (by rw [q]; exact .head _)
  unfold bindL
  rw [bindL_keep r _ fun q => h (.tail _ q)]
  split
  ·exact if_neg h1
  ·rfl
theorem bindL_get {kindOf : Str → Option NameKind} {x : Str} {v : Value} (hk : kindOf x = some .local) : ∀ (binds : List (Str × Value)) (m : Str → Option Value), (binds.map (·.1)).Nodup → (x, v) ∈ binds → bindL kindOf binds m x = some v
 | (n, w) :: r, m, hn, h => by
  have hn' := List.nodup_cons.mp hn
  unfold bindL
  rcases List.mem_cons.mp h with e | h
  ·cases e
   rw [bindL_keep r _ hn'.1, if_pos hk]
   exact if_pos rfl
  ·exact bindL_get hk r _ hn'.2 h
theorem bindC_keep {kindOf : Str → Option NameKind} {x : Str} : ∀ (binds : List (Str × Value)) (m : Str → Option Value), x ∉ binds.map (·.1) → bindC kindOf binds m x = m x
 | [], _, _ => rfl
 | (n, v) :: r, m, h => by
  have h1 : x ≠ n := fun q => h (by rw [q]; exact .head _)
  unfold bindC
  rw [bindC_keep r _ fun q => h (.tail _ q)]
  split
  ·rfl
  ·exact if_neg h1
theorem bindC_get {kindOf : Str → Option NameKind} {x : Str} {v : Value} (hk : kindOf x = some .cell) : ∀ (binds : List (Str × Value)) (m : Str → Option Value), (binds.map (·.1)).Nodup → (x, v) ∈ binds → bindC kindOf binds m x = some v
 | (n, w) :: r, m, hn, h => by
  have hn' := List.nodup_cons.mp hn
  unfold bindC
  rcases List.mem_cons.mp h with e | h
  ·cases e
   rw [bindC_keep r _ hn'.1, if_neg (by rw [hk]; decide)]
   exact if_pos rfl
  ·exact bindC_get hk r _ hn'.2 h
set_option tactic.hygienic true in
theorem mem_lookup {α : Type} {l : List (Str × α)} {x : Str} {v : α} (h : l.lookup x = some v) : (x, v) ∈ l := by
 induction l with
 | nil => cases h
 | cons p r ih =>
  obtain ⟨k, w⟩ := p
  rw [List.lookup_cons] at h
  split at h
  ·rename_i q; cases h; rw [beq_iff_eq.mp q]; exact .head _
  ·exact .tail _ (ih h)
theorem enterCells {name qual : Str} {params : Arguments} {body : List Stmt} {scope : Scope} {dV kV doc pm cdv ct oc : Value} {an od : Option Addr} {osl : Array (Option Value)} {f : Addr} {args : List Value} {kw : List (Str × Value)} {binds lb cb : List (Str × Value)} {Φ : Heap → St → Value → Prop} {n : Nat} {lps cps : List Str}
  (H : At B st s) (R : Rm A (n + 1))
  (ho : (hd.heap_39 B.w.params).lookup f = some ⟨oc, od, .func (fnOf name qual params body scope dV kV doc pm an cdv ct), osl⟩) (hcd : codeIn (hd.heap_39 B.w.params) cdv qual = true)
  (hbind : BindsTo s (fnOf name qual params body scope dV kV doc pm an cdv ct) ⟨args, kw⟩ binds) (hS : ScopeOk scope) {ps : List Str} (hps : binds.map (·.1) = ps) (hbn : ps.Nodup)
  (hlb : ∀ p ∈ lb, p ∈ binds) (hlp : lb.map (·.1) = lps) (hll : ∀ y ∈ lps, (y, NameKind.local) ∈ scope.names) (hcb : ∀ p ∈ cb, p ∈ binds) (hcp : cb.map (·.1) = cps) (hcc : ∀ y ∈ cps, (y, NameKind.cell) ∈ scope.names) (hall : ∀ y ∈ ps, (y, NameKind.local) ∈ scope.names ∨ (y, NameKind.cell) ∈ scope.names)
  (hco : scope.isCoroutine = false) (hgen : scope.isGenerator = false)
  (h : ∀ (Q : Value → Shared → Prop) L s₁ env A' cl st', Back B [] st s Φ Q → St.le st st' →
   En env L scope.names cl qual cdv → cl = cellsFrom (L + 1) scope.names [] → Cells st' cl cb → Rm A' n → Fx B [] s st st' L [] lb s₁ →
   wpAny (model B.prog B.w) A' (execs body env) (fun fl s' => Q (match fl with | .ret v => v | _ => .none) s') (fun z z => False) s₁) :
  Spec B A [] st s (call (.ref f) args kw) Φ := fun Q E k => by
 subst hlp
 subst hcp
 have X := H.ok.X.keeps H.inv.base
 have hnd : (binds.map (·.1)).Nodup := hps ▸ hbn
 refine wpAny_call (codeAny_call_function (fd := fnOf name qual params body scope dV kV doc pm an cdv ct) (body := body) (by have := R.d; o_head qo) (X _ _ ho) rfl hco hgen rfl (codeRec_of X hcd) ?_)
 refine hbind _ _ _ _ (wpAny_newFunctionEnv_cells hS.kind (fun y hy => ?_) fun env henv s₁ C => ?_)
 ·rcases hall y.1 (hps ▸ List.mem_map_of_mem (f := (·.1)) hy) with q | q
  ·exact .inl (hS.at q)
  ·exact .inr ⟨hS.at q, cellsFrom_some _ _ _ (.inl (hS.at q))⟩
 ·subst henv
  have N : En (envX qual scope s.heap.objs.size f cdv (cellsFrom (s.heap.objs.size + 1) scope.names [])) s.heap.objs.size scope.names (cellsFrom (s.heap.objs.size + 1) scope.names []) qual cdv := hS.en
  obtain ⟨⟨⟨h₁, tk, e1⟩, hns, keep, hfr⟩, hcell, _, habove⟩ := C
  subst e1
  dsimp only at hns keep hcell
  change h₁.Ns s.heap.objs.size _ at hns
  have hsz : s.heap.objs.size < h₁.objs.size := by obtain ⟨o, _, _, e, _⟩ := hns; exact Heap.lt_size e
  refine ⟨(H.ok.lim.keeps H.inv.base).keeps keep, codeAny_func ?_⟩
  let cs := cellsFrom (s.heap.objs.size + 1) scope.names []
  let st' : St := fun b => if cs.any (·.2 == b) then h₁.get? b else st b
  have hin : ∀ b, (cs.any (·.2 == b)) = true → s.heap.objs.size < b := fun b hb => by
   obtain ⟨⟨m, c⟩, h1, h2⟩ := List.any_eq_true.mp hb
   cases beq_iff_eq.mp h2
   exact habove m c h1
  have hout : ∀ b o, st b = some o → (cs.any (·.2 == b)) = false := fun b o e => by
   cases q : cs.any (·.2 == b) with
   | false => rfl
   | true => exact absurd (Heap.lt_size (H.le _ _ e)) (Nat.not_lt.mpr (Nat.le_of_lt (hin b q)))
  have hst : ∀ b, (cs.any (·.2 == b)) = false → st' b = st b := fun b hb => if_neg (by rw [hb]; decide)
  have hst2 : ∀ b, (cs.any (·.2 == b)) = true → st' b = h₁.get? b := fun b hb => if_pos hb
  have le : St.le st st' := fun b o e => by rw [hst b (hout b o e)]; exact e
  have small : ∀ b : Nat, b ≤ s.heap.objs.size → (cs.any (·.2 == b)) = false := fun b hb => by
   cases q : cs.any (·.2 == b) with
   | false => rfl
   | true => exact absurd (hin b q) (Nat.not_lt.mpr hb)
  have hLg : B.g.objs.size ≤ s.heap.objs.size := H.inv.size
  have hTs : ∀ P ∈ TT, @LE.le Nat _ P s.heap.objs.size := fun P hP => Nat.le_of_lt (Nat.lt_of_lt_of_le (Nat.lt_of_lt_of_le (TT_lt P hP) H.ok.size) hLg)
  have F : Fx B [] s st st' s.heap.objs.size [] lb { s with heap := h₁, toks := tk } := by
   refine ⟨H.ok, ⟨fun b o e => keep _ _ (H.inv.base _ _ e), H.inv.bare, fun x hx => ?_, Nat.le_trans H.inv.size (Nat.le_of_lt hsz)⟩, ⟨_, hns, fun p hp => bindL_get ((N.at' _ (hll _ (List.mem_map_of_mem hp))).1) _ _ hnd (hlb p hp)⟩, fun b o e => ?_, fun P hP => ?_, ?_, Nat.le_refl _, (fun p hp => nomatch hp), .nil, ⟨fun b o z z e => keep _ _ e, Nat.le_of_lt hsz⟩, fun b o e hb => ?_, le, rfl, hLg⟩
   ·obtain ⟨ps, h1, h2, h3⟩ := (H.inv.tabs x hx).ex
    exact ⟨ps, keep _ _ h1, h2, fun pos cv hc => (h3 pos cv hc).keeps keep⟩
   ·cases q : cs.any (·.2 == b) with
    | true => rw [hst2 b q] at e; exact e
    | false => rw [hst b q] at e; exact keep _ _ (H.le _ _ e)
   ·rw [hst P (small P (hTs P hP))]; exact H.offT P hP
   ·rw [hst _ (small _ (Nat.le_refl _))]
    cases q : st s.heap.objs.size with
    | none => rfl
    | some o => exact absurd (Heap.lt_size (H.le _ _ q)) (Nat.lt_irrefl _)
   ·rw [hst b (small b (Nat.le_of_lt hb))] at e; exact e
  have CC : Cells st' cs cb := fun p hp => by
   have hc : (p.1, NameKind.cell) ∈ scope.names := hcc _ (List.mem_map_of_mem hp)
   obtain ⟨c, e⟩ := Option.isSome_iff_exists.mp (cellsFrom_some (x := p.1) scope.names (s.heap.objs.size + 1) [] (.inl (hS.at hc)))
   obtain ⟨o, e1, e2⟩ := hcell _ _ e
   refine ⟨c, e, o, ?_, ?_⟩
   ·rw [hst2 c (List.any_eq_true.mpr ⟨(p.1, c), mem_lookup e, beq_self_eq_true _⟩)]; exact e1
   ·rw [e2]
    exact congrArg Data.cell (bindC_get ((N.at' _ hc).1) _ _ hnd (hcb p hp))
  exact wpAny_mono (h Q _ _ _ _ _ st' k le N rfl CC (R.room.deeper) F) (fun fl s' q => q) fun z z q => q.elim
noncomputable def isSv : Value → Bool
 | .str _ _ => true
 | _ => false
noncomputable def isIv : Value → Bool
 | .int _ _ => true
 | _ => false
noncomputable def isBv : Value → Bool
 | .bool _ => true
 | _ => false
theorem isSv_of {v : Value} (h : isSv v = true) : ∃ x t, v = .str x t := by cases v <;> first | exact ⟨_, _, rfl⟩ | cases h
theorem isIv_of {v : Value} (h : isIv v = true) : ∃ x t, v = .int x t := by cases v <;> first | exact ⟨_, _, rfl⟩ | cases h
theorem isBv_of {v : Value} (h : isBv v = true) : ∃ x, v = .bool x := by cases v <;> first | exact ⟨_, rfl⟩ | cases h
noncomputable def dataFs : Data → Option (Array Value)
 | .fields vs => some vs
 | _ => none
theorem dataFs_some {d : Data} {vs : Array Value} (h : dataFs d = some vs) : d = .fields vs := by
 cases d <;> first | exact congrArg Data.fields (Option.some.inj h) | cases h
noncomputable def codeHdB (K : Frag) (c P : Addr) : Bool := match K.lookup c with
 | some o => (match dataFs o.data with
  | some vs => o.cls == .type "code" && vs[11]? == some (.ref P) && isSv (vs.getD 18 .none) && isIv (vs.getD 7 .none) && isBv (vs.getD 9 .none) && isIv (vs.getD 10 .none) && c != P
  | none => false)
 | none => false
theorem codeHd_of {K : Frag} {h : Heap} {c P : Addr} (X : K.In h) (e : codeHdB K c P = true) : CodeHd h c P := by
 unfold codeHdB at e
 cases q : K.lookup c with
 | none => rw [q] at e; cases e
 | some o =>
  rw [q] at e
  dsimp only at e
  cases q2 : dataFs o.data with
  | none => rw [q2] at e; cases e
  | some vs =>
   rw [q2] at e
   simp only [Bool.and_eq_true, beq_iff_eq, bne_iff_ne] at e
   obtain ⟨⟨⟨⟨⟨⟨e1, e2⟩, e3⟩, e4⟩, e5⟩, e6⟩, e7⟩ := e
   obtain ⟨_, _, q3⟩ := isSv_of e3
   obtain ⟨_, _, q4⟩ := isIv_of e4
   obtain ⟨_, q5⟩ := isBv_of e5
   obtain ⟨_, _, q6⟩ := isIv_of e6
   exact ⟨o, vs, _, _, _, _, _, _, _, X _ _ q, e1, dataFs_some q2, e2, by rw [Array.getD_eq_getD_getElem?, e2]; rfl, q3, q4, q5, q6, e7⟩
noncomputable def LamAt (st : St) (g : Heap) (f : Addr) (q : Str) (params : Arguments) (body : Expr) (scope : Scope) (clos : List (Str × Addr)) : Prop :=
 ∃ pm cv ctv, st f = some { cls := .type "function", data := .func (kla_fn "<lambda>" q params body scope clos pm cv ctv) } ∧ g.CodeRec cv q
theorem LamAt.mono {st st' : St} {g g' : Heap} {f : Addr} {q : Str} {params : Arguments} {body : Expr} {scope : Scope} {clos : List (Str × Addr)} (h : LamAt st g f q params body scope clos) (k : St.le st st') (kg : ∀ b o, g.get? b = some o → g'.get? b = some o) : LamAt st' g' f q params body scope clos :=
 let ⟨pm, cv, ctv, e, c⟩ := h; ⟨pm, cv, ctv, k _ _ e, c.keeps kg⟩
set_option tactic.hygienic true in
theorem codeAmong_snoc {pos pos' : Pos} {c : Value} : ∀ {l : List Value}, TriplesOk l → ∀ {cv : Value}, codeAmong pos' (l ++ [rawInt pos.line, rawInt pos.col, c]) = some cv → codeAmong pos' l = some cv ∨ cv = c
 | [], _, cv, h => by
  simp only [List.nil_append, rawInt, codeAmong] at h
  split at h
  ·cases h; exact .inr rfl
  ·cases h
 | .int a t :: .int b u :: x :: rest, ok, cv, h => by
  simp only [List.cons_append, codeAmong] at h ⊢
  split at h
  ·rename_i q; rw [if_pos q]; exact .inl h
  ·rename_i q; rw [if_neg q]; exact codeAmong_snoc (l := rest) ok h
theorem TriplesOk.no {ps : Array Value} (h : TriplesOk ps.toList) : ∀ q t, ps[1]? ≠ some (.str q t) := by
 intro q t e
 rw [← Array.getElem?_toList] at e
 generalize ps.toList = l at h e
 cases l with
 | nil => cases e
 | cons x r =>
  cases r with
  | nil => cases e
  | cons y r =>
   obtain rfl : y = .str q t := Option.some.inj e
   cases x <;> exact h
theorem TT_tabs : ∀ P ∈ TT, ∃ x ∈ tabs, x.2.1 = P := by decide
theorem Fx.tabKept {P : Addr} {h' : Heap} (F : Fx B md s₀ st₀ st L own l s) (hP : P ∈ TT) (hx : Heap.ExtBut P s.heap h') (hz : s.heap.objs.size ≤ h'.objs.size) {t : Nat} (hT : ∀ x ∈ tabs, x.2.1 = P → TabInv h' P x.2.2) :
  Fx B md s₀ st₀ st L own l { s with heap := h', toks := t } := by
 have hcode : ∀ cv q, s.heap.CodeRec cv q → h'.CodeRec cv q := by
  rintro cv q ⟨c, oc, vs, tt, e1, e2, e3, e4⟩
  refine ⟨c, oc, vs, tt, e1, hx _ _ ?_ e2, e3, e4⟩
  rintro rfl
  obtain ⟨x, hx1, hx2⟩ := TT_tabs c hP
  obtain ⟨ps, h1, h2, _⟩ := (F.inv.tabs x hx1).ex
  rw [hx2, e2] at h1
  cases h1
  cases e3
  exact TriplesOk.no h2 _ _ e4
 have hT' : ∀ b o, st b = some o → b ≠ P := fun b o e q => by rw [q, F.offT P hP] at e; cases e
 refine ⟨F.ok, ⟨fun b o e => hx b o (fun q => by rw [q, F.ok.off P hP] at e; cases e) (F.inv.base b o e), F.inv.bare, fun x hx1 => ?_, Nat.le_trans F.inv.size hz⟩, ?_, fun b o e => hx b o (hT' b o e) (F.le b o e), F.offT, F.offL, F.hL, fun p hp => ?_, F.nodup, ⟨fun b o h1 h2 e => hx b o (fun q => h1 (q ▸ hP)) (F.ext.1 b o h1 h2 e), Nat.le_trans F.ext.2 hz⟩, F.new, F.old, F.os, F.gs⟩
 ·by_cases q : x.2.1 = P
  ·have := hT x hx1 q; rw [← q] at this; exact this
  ·obtain ⟨ps, h1, h2, h3⟩ := (F.inv.tabs x hx1).ex
   exact ⟨ps, hx _ _ q h1, h2, fun pos cv hc => hcode _ _ (h3 pos cv hc)⟩
 ·obtain ⟨m, ⟨oL, es, ep, e, r⟩, hm⟩ := F.ns
  exact ⟨m, ⟨oL, es, ep, hx _ _ (fun q => F.notTT (Nat.le_trans F.gs F.hL) (q ▸ hP)) e, r⟩, hm⟩
 ·obtain ⟨h1, h2, h3, h4, h5⟩ := F.ow p hp
  exact ⟨hx _ _ (fun q => F.notTT h5 (q ▸ hP)) h1, h2, h3, h4, h5⟩
theorem tabs_inj : ∀ x ∈ tabs, ∀ y ∈ tabs, x.2.1 = y.2.1 → x = y := by decide +kernel
theorem Inv.codeOff (I : Inv B s) {cv : Value} {q : Str} (h : s.heap.CodeRec cv q) : ∀ c, cv = .ref c → c ∉ TT := by
 obtain ⟨c2, oc, vs, tt, e1, e2, e3, e4⟩ := h
 intro c hcv hc
 rw [hcv] at e1
 cases e1
 obtain ⟨x, hx1, hx2⟩ := TT_tabs _ hc
 obtain ⟨ps, h1, h2, _⟩ := (I.tabs x hx1).ex
 rw [hx2, e2] at h1
 cases h1
 cases e3
 exact TriplesOk.no h2 _ _ e4
theorem codeHide {h : Heap} {cv : Value} {q : Str} (r : h.CodeRec cv q) (o : ∀ c, cv = .ref c → c ∉ TT) : (hideAll h TT).CodeRec cv q := by
 obtain ⟨c2, oc, vs, tt, e1, e2, e3, e4⟩ := r
 exact ⟨c2, oc, vs, tt, e1, hideAll_get TT e2 (o _ e1), e3, e4⟩
theorem LamAt.keepT {st st' : St} {h h' : Heap} {f : Addr} {q : Str} {params : Arguments} {body : Expr} {scope : Scope} {clos : List (Str × Addr)} (La : LamAt st (hideAll h TT) f q params body scope clos) (le : St.le st st')
  (k : ∀ b o, b ∉ TT → h.get? b = some o → h'.get? b = some o) : LamAt st' (hideAll h' TT) f q params body scope clos :=
 La.mono le fun b o e => by
  have hb : b ∉ TT := fun q => by rw [hideAll_none TT q] at e; cases e
  exact hideAll_get TT (k b o hb (of_hideAll TT e)) hb
theorem Fx.lam {params : Arguments} {body : Expr} {scope : Scope} {pos : Pos} {env : Env} {c P : Addr} {q : Str} {names : List (Str × NameKind)} {cl clos : List (Str × Addr)} {qual : Str} {Q E : Value → Shared → Prop}
  (F : Fx B md s₀ st₀ st L own l s) (N : En env L names cl qual (.ref c)) (hT : (c, P, q) ∈ tabs) (hq : qual ++ ".<locals>." ++ "<lambda>" = q) (hC : codeHdB (hd.heap_39 B.w.params) c P = true) (hdef : defaultsOf params env = ([], [])) (hcl : closureFor scope env = pure clos)
  (h : ∀ f st' s', St.le st st' → (∀ b o, b ∉ TT → s.heap.get? b = some o → s'.heap.get? b = some o) → LamAt st' (hideAll s'.heap TT) f q params body scope clos → Fx B md s₀ st₀ st' L own l s' → Q (.ref f) s') : wpAny (model B.prog B.w) A (eval (.Lambda params body scope pos) env) Q E s := by
 obtain ⟨ps, h1, h2, h3⟩ := (F.inv.tabs _ hT).ex
 have hP : P ∈ TT := tabs_TT _ hT
 have hg := F.ok.gl.keeps F.inv.base
 have C := codeHd_of F.X hC
 obtain ⟨bm, ob, b1, b2, b3, b4, b5, b6, b7⟩ := F.ok.bm
 have hbP : bm ≠ P := fun e => by rw [e, F.ok.off P hP] at b4; cases b4
 have hgP : mainGlobals ≠ P := fun e => by
  obtain ⟨o, _, _, e1, _⟩ := F.ok.gl
  rw [e, F.ok.off P hP] at e1; cases e1
 have hb : s.heap.BuiltinsAt B.mg P := ⟨bm, ob, b1, b2, b3, hbP, F.inv.base _ _ b4, b5, b6, b7⟩
 have hqual : env.qual ++ "<lambda>" = q := by rw [N.qual]; exact hq
 refine kla_eval hdef ?_
 rw [hqual]
 have fin : ∀ (s2 : Shared), Fx B md s₀ st₀ st L own l s2 → (∀ b o, b ∉ TT → s.heap.get? b = some o → s2.heap.get? b = some o) → ∀ (pm cv ctv : Value) (tk : Tok), s2.heap.CodeRec cv q → (∀ c, cv = .ref c → c ∉ TT) → Q (.ref s2.heap.objs.size) { s2 with heap := s2.heap.push { cls := .type "function", data := .func (kla_fn "<lambda>" q params body scope clos pm cv ctv) }, toks := tk } := by
  intro s2 F2 keep pm cv ctv tk hr hcT
  obtain ⟨le, G⟩ := F2.pushS (o := { cls := .type "function", data := .func (kla_fn "<lambda>" q params body scope clos pm cv ctv) }) (t := tk) rfl
  exact h _ _ _ le (fun b o hb e => Heap.get?_push_of_some _ (keep b o hb e)) ⟨pm, cv, ctv, St.put_self, codeHide (hr.keeps fun b o e => Heap.get?_push_of_some _ e) hcT⟩ G
 cases hf : codeAmong pos ps.toList with
 | none =>
  refine kla_makeFunction hcl N.glob hg N.code C h1 h2 hf hgP hb fun c' ctv h' tk hx hge hlt hrec htb => ?_
  have hz : s.heap.objs.size ≤ h'.objs.size := Nat.le_of_lt (Nat.lt_of_le_of_lt hge hlt)
  have F2 := F.tabKept (t := s.toks) hP hx hz fun x hx1 hx2 => by
   have := tabs_inj x hx1 _ hT hx2
   subst this
   refine ⟨_, htb, ?_, fun pos' cv hc => ?_⟩
   ·rw [Array.toList_append]; exact TriplesOk_snoc _ _ _ _ h2
   ·rw [Array.toList_append] at hc
    rcases codeAmong_snoc h2 hc with e | e
    ·obtain ⟨c2, oc, vs, tt, e1, e2, e3, e4⟩ := h3 _ _ e
     refine ⟨c2, oc, vs, tt, e1, hx _ _ (fun q => ?_) e2, e3, e4⟩
     rw [q, h1] at e2
     cases e2; cases e3
     exact TriplesOk.no h2 _ _ e4
    ·rw [e]; exact hrec
  exact fin _ F2 (fun b o hb e => hx b o (fun q => hb (q ▸ hP)) e) _ _ ctv tk hrec (fun c e => by cases e; exact F.notTT (Nat.le_trans F.inv.size hge))
 | some cv =>
  refine kla_makeFunctionHit hcl N.glob hg N.code C h1 h2 hf hb fun ctv h' tk hk hz => ?_
  have F2 : Fx B md s₀ st₀ st L own l { s with heap := h' } := by
   refine ⟨F.ok, ⟨fun b o e => hk _ _ (F.inv.base b o e), F.inv.bare, fun x hx => ?_, Nat.le_trans F.inv.size hz⟩, ?_, fun b o e => hk _ _ (F.le b o e), F.offT, F.offL, F.hL, fun p hp => ?_, F.nodup, ⟨fun b o h1 h2 e => hk _ _ (F.ext.1 b o h1 h2 e), Nat.le_trans F.ext.2 hz⟩, F.new, F.old, F.os, F.gs⟩
   ·obtain ⟨ps, h1, h2, h3⟩ := (F.inv.tabs x hx).ex
    exact ⟨ps, hk _ _ h1, h2, fun pos cv hc => (h3 pos cv hc).keeps hk⟩
   ·obtain ⟨m, hn, hm⟩ := F.ns
    exact ⟨m, hn.keeps hk, hm⟩
   ·obtain ⟨h1, h2⟩ := F.ow p hp
    exact ⟨hk _ _ h1, h2⟩
  exact fin _ F2 (fun b o z e => hk b o e) _ _ ctv tk ((h3 _ _ hf).keeps hk) (F.inv.codeOff (h3 _ _ hf))
theorem enterLam {f : Addr} {q : Str} {params : Arguments} {body : Expr} {scope : Scope} {clos : List (Str × Addr)} {args : List Value} {binds : List (Str × Value)} {Φ : Heap → St → Value → Prop} {n : Nat}
  (H : At B st s) (R : Rm A (n + 1)) (La : LamAt st B.g f q params body scope clos) (hbind : ∀ pm cv ctv, BindsTo s (kla_fn "<lambda>" q params body scope clos pm cv ctv) ⟨args, []⟩ binds)
  (hS : ScopeOk scope) {ps : List Str} (hps : binds.map (·.1) = ps) (hloc : ∀ y ∈ ps, (y, NameKind.local) ∈ scope.names) (hbn : ps.Nodup) (hcell : ∀ x ∈ scope.names, x.2 ≠ .cell) (hco : scope.isCoroutine = false) (hgen : scope.isGenerator = false)
  (h : ∀ (Q : Value → Shared → Prop) L s₁ env A' cd, Back B [] st s Φ Q → En env L scope.names clos q cd → Rm A' n → Fx B [] s st st L [] binds s₁ → wpAny (model B.prog B.w) A' (eval body env) Q (fun z z => False) s₁) :
  Spec B A [] st s (call (.ref f) args) Φ := fun Q E k => by
 obtain ⟨pm, cv, ctv, ef, hc⟩ := La
 refine wpAny_call (kla_callFunE (by have := R.d; o_head qo) (H.le _ _ ef) rfl hco hgen rfl (hc.keeps H.inv.base) ?_)
 refine hbind _ _ _ _ _ _ _ (wpAny_newFunctionEnv hcell (fun y hy => hS.at (hloc y.1 (hps ▸ List.mem_map_of_mem (f := (·.1)) hy))) (fun h₁ hns hsb => ⟨?_, kla_codeExpr ?_⟩) hS.kind)
 ·exact (H.ok.lim.keeps H.inv.base).fresh _ hsb
 ·have hk₁ : ∀ b o, s.heap.get? b = some o → h₁.get? b = some o := fun b o e => hsb.extBut b o (Nat.ne_of_lt (Heap.lt_size e)) (Heap.get?_push_of_some _ e)
  have hsz : s.heap.objs.size < h₁.objs.size := by obtain ⟨o, _, _, e, _⟩ := hns; exact Heap.lt_size e
  have hLg : B.g.objs.size ≤ s.heap.objs.size := H.inv.size
  have N : En (envX q scope s.heap.objs.size f cv clos) s.heap.objs.size scope.names clos q cv := hS.en
  have F : Fx B [] s st st s.heap.objs.size [] binds { s with heap := h₁, toks := s.toks + binds.length } := by
   refine ⟨H.ok, ⟨fun b o e => hk₁ _ _ (H.inv.base _ _ e), H.inv.bare, fun x hx => ?_, Nat.le_trans H.inv.size (Nat.le_of_lt hsz)⟩, ⟨_, hns, fun p hp => lookup_mem (by rw [List.map_reverse]; rw [hps]; exact List.pairwise_reverse.mpr (hbn.imp Ne.symm)) (List.mem_reverse.mpr hp)⟩, fun b o e => hk₁ _ _ (H.le _ _ e), H.offT, ?_, Nat.le_refl _, (fun p hp => nomatch hp), .nil, ⟨fun b o z z e => hk₁ _ _ e, Nat.le_of_lt hsz⟩, fun b o e z => e, St.le.refl _, rfl, hLg⟩
   ·obtain ⟨ps, h1, h2, h3⟩ := (H.inv.tabs x hx).ex
    exact ⟨ps, hk₁ _ _ h1, h2, fun pos cv hc => (h3 pos cv hc).keeps hk₁⟩
   ·cases e : st s.heap.objs.size with
    | none => rfl
    | some o => exact absurd (Heap.lt_size (H.le _ _ e)) (Nat.lt_irrefl _)
  exact wpAny_mono (h Q _ _ _ _ cv k N (R.room.deeper) F) (fun v s' q => q) fun z z q => q.elim
noncomputable def FnIn (st : St) (f : Addr) : Prop := ∃ oc od fd sl, st f = some ⟨oc, od, .func fd, sl⟩
theorem FnIn.mono {st st' : St} {f : Addr} (h : FnIn st f) (k : St.le st st') : FnIn st' f := by
 obtain ⟨oc, od, fd, sl, e⟩ := h
 exact ⟨oc, od, fd, sl, k _ _ e⟩
theorem Fx.fnIn {f : Addr} (F : Fx B md s₀ st₀ st L own l s) (h : FnIn st f) : FnAt f s.heap := by
 obtain ⟨_, _, _, _, e⟩ := h
 exact ⟨_, _, _, _, F.le _ _ e⟩
theorem LamAt.fn {g : Heap} {f : Addr} {q : Str} {params : Arguments} {body : Expr} {scope : Scope} {clos : List (Str × Addr)} (La : LamAt st g f q params body scope clos) : FnIn st f := by
 obtain ⟨_, _, _, e, _⟩ := La
 exact ⟨_, _, _, _, e⟩
structure Keeps (φ : St → Value → Prop) : Prop where
 k : ∀ {st st' : St} {v : Value}, φ st v → St.le st st' → φ st' v
noncomputable def Does (B : Bs) (st : St) (m : Nat) (f : Addr) (x : Value) (φ : St → Value → Prop) : Prop :=
 ∀ st' s' A', St.le st st' → At B st' s' → Rm A' m → Spec B A' [] st' s' (call (.ref f) [x]) (fun z => φ)
section
variable {Q E : Value → Shared → Prop} {env : Env}
theorem item_mk {value : Expr} {c : Const} {k : Nat} {p pos : Pos}
  (h : wpAny (model B.prog B.w) A (eval value env) (fun o s₁ => wpAny (model B.prog B.w) A (eval (.Constant c k p) env) (fun i s₂ => ItemOn (model B.prog B.w) A E o i Q s₂) E s₁) E s) (ht : autoParam (∀ o r, letTemporaryGo value o r = pure ()) Mine.tI) :
  wpAny (model B.prog B.w) A (eval (.Subscript value (.Constant c k p) pos) env) Q E s := PySem.Subscript_Constant h ht
theorem Fx.itemL {a : Addr} {vs : List Value} {i : Int} {t : Tok} {x : Value} (F : Fx B md s₀ st₀ st L own l s) (hl : LA st own a vs) (h0 : 0 ≤ i) (hi : i < 2 ^ 63) (hx : vs[i.toNat]? = some x) (h : Q x s) : ItemOn (model B.prog B.w) A E (.ref a) (.int i t) Q s := by
 have hL := hl.list F
 exact ⟨"list", _, PySem.F.slot_list_getitem.lookup, hL.typeIs, wpAny_getItem_list hL h0 hi (by simpa using hx) h⟩
end
noncomputable def closOf (cl : List (Str × Addr)) : List (Str × NameKind) → List (Str × Addr) → Option (List (Str × Addr))
 | [], acc => some acc
 | (n, k) :: r, acc => match k with
  | .free => match cl.lookup n with
   | some c => closOf cl r ((n, c) :: acc)
   | none => none
  | _ => closOf cl r acc
theorem closureFor_go {env : Env} {cl : List (Str × Addr)} (hc : env.cells = cl) : ∀ (names : List (Str × NameKind)) (acc clos : List (Str × Addr)), closOf cl names acc = some clos →
  (forIn names acc fun x cs => if x.2 == NameKind.free then do let c ← cellOf env x.1; pure (ForInStep.yield ((x.1, c) :: cs)) else pure (ForInStep.yield cs) : Sem (List (Str × Addr))) = pure clos
 | [], acc, clos, h => by cases h; rfl
 | (n, k) :: r, acc, clos, h => by
  rw [List.forIn_cons]
  by_cases hk : k = .free
  ·subst hk
   unfold closOf at h
   dsimp only at h
   cases hl : cl.lookup n with
   | none => rw [hl] at h; cases h
   | some c =>
    rw [hl] at h
    have : cellOf env n = pure c := by unfold cellOf; rw [hc, hl]
    rw [if_pos (by rfl)]
    dsimp only
    rw [this]
    exact closureFor_go hc r _ _ h
  ·have hb : (k == NameKind.free) = false := by simpa using hk
   have h' : closOf cl r acc = some clos := by
    unfold closOf at h
    cases k <;> first | exact absurd rfl hk | exact h
   rw [if_neg (by show ¬ (k == NameKind.free) = true; rw [hb]; decide)]
   exact closureFor_go hc r _ _ h'
theorem closureFor_of {env : Env} {names : List (Str × NameKind)} {cl clos : List (Str × Addr)} {qual : Str} {cd : Value} (N : En env L names cl qual cd) {scope : Scope} (h : closOf cl scope.names [] = some clos) : closureFor scope env = pure clos := by
 have := closureFor_go N.cells scope.names [] clos h
 dsimp only [closureFor]
 exact (congrArg (fun m => m >>= fun cs => (pure cs : Sem (List (Str × Addr)))) this).trans rfl
theorem closOf_keep {cl : List (Str × Addr)} {x : Str} : ∀ (names : List (Str × NameKind)) (acc clos : List (Str × Addr)), closOf cl names acc = some clos → x ∉ names.map (·.1) → clos.lookup x = acc.lookup x
 | [], acc, clos, h, _ => by cases h; rfl
 | (n, k) :: r, acc, clos, h, hx => by
  have hr : x ∉ r.map (·.1) := fun q => hx (.tail _ q)
  have hn : x ≠ n := fun q => hx (q ▸ .head _)
  unfold closOf at h
  split at h
  ·split at h
   ·rw [closOf_keep r _ _ h hr, List.lookup_cons, beq_eq_false_iff_ne.mpr hn]
   ·cases h
  ·exact closOf_keep r _ _ h hr
theorem closOf_get {cl : List (Str × Addr)} {x : Str} : ∀ (names : List (Str × NameKind)) (acc clos : List (Str × Addr)), closOf cl names acc = some clos → (names.map (·.1)).Nodup → (x, NameKind.free) ∈ names → clos.lookup x = cl.lookup x
 | (n, k) :: r, acc, clos, h, hn, hx => by
  have hn' := List.nodup_cons.mp hn
  unfold closOf at h
  rcases List.mem_cons.mp hx with e | hr
  ·cases e
   dsimp only at h
   cases hl : cl.lookup x with
   | none => rw [hl] at h; cases h
   | some c =>
    rw [hl] at h
    rw [closOf_keep r _ _ h hn'.1, List.lookup_cons, beq_self_eq_true]
  ·split at h
   ·split at h
    ·exact closOf_get r _ _ h hn'.2 hr
    ·cases h
   ·exact closOf_get r _ _ h hn'.2 hr
theorem Cells.clos {st : St} {cl clos : List (Str × Addr)} {cb cb' : List (Str × Value)} {names : List (Str × NameKind)} (C : Cells st cl cb) (h : closOf cl names [] = some clos) (hn : (names.map (·.1)).Nodup) (hf : ∀ p ∈ cb', p ∈ cb ∧ (p.1, NameKind.free) ∈ names) : Cells st clos cb' := fun p hp => by
 obtain ⟨c, e, d⟩ := C p (hf p hp).1
 exact ⟨c, by rw [closOf_get _ _ _ h hn (hf p hp).2]; exact e, d⟩
noncomputable def relC (names : List (Str × NameKind)) : List (Str × NameKind) := names.map fun p => if p.2 == .free then (p.1, .cell) else p
theorem relabel_of {env : Env} {names : List (Str × NameKind)} {cl : List (Str × Addr)} {qual : Str} {cd : Value} (N : En env L names cl qual cd) {scope : Scope} (h : ∀ p ∈ scope.names, p.2 = NameKind.free → (p.1, NameKind.cell) ∈ names) : relabel scope env = { scope with names := relC scope.names } := by
 delta relabel relC
 congr 1
 refine List.map_congr_left fun p hp => ?_
 obtain ⟨n, k⟩ := p
 by_cases hk : k = .free
 ·subst hk
  have e := (N.at' _ (h _ hp rfl)).1
  dsimp only at e ⊢
  rw [e, N.kind]
  rfl
 ·have hb : (k == NameKind.free) = false := by simpa using hk
  dsimp only
  rw [hb]
  rfl
theorem En.inner {env : Env} {names : List (Str × NameKind)} {cl clos : List (Str × Addr)} {qual : Str} {cd : Value} {C : Addr} (N : En env L names cl qual cd) {scope : Scope} (hS : ScopeOk { scope with names := relC scope.names }) :
  En { newEnv scope C env.globals clos env.qual none .none (some env) 0 with scope := { scope with names := relC scope.names } } C (relC scope.names) clos qual cd :=
 ⟨rfl, N.glob, N.bi, hS.kind, fun p hp => ⟨hS.at hp, hS.nodbg p hp⟩, rfl, N.qual, N.code, by show (scope.kind == _ && _) = false; rw [show scope.kind = .function from hS.kind]; rfl⟩
theorem Fx.inner {oL : Obj} {h' : Heap} {t : Nat} (F : Fx B md s₀ st₀ st L own l s) (hoL : s.heap.get? L = some oL) {m : Str → Option Value} (hn : h'.Ns s.heap.objs.size m) (hk : ∀ b o, s.heap.get? b = some o → h'.get? b = some o) (hz : s.heap.objs.size ≤ h'.objs.size) :
  Fx B md s₀ st₀ st s.heap.objs.size ((L, oL) :: own) [] { s with heap := h', toks := t } := by
 refine ⟨F.ok, ⟨fun b o e => hk _ _ (F.inv.base b o e), F.inv.bare, fun x hx => ?_, Nat.le_trans F.inv.size hz⟩, ⟨m, hn, fun p hp => nomatch hp⟩, fun b o e => hk _ _ (F.le b o e), F.offT, F.fresh, F.ext.2, fun p hp => ?_, ?_, ⟨fun b o h1 h2 e => hk _ _ (F.ext.1 b o h1 h2 e), Nat.le_trans F.ext.2 hz⟩, F.new, F.old, F.os, F.gs⟩
 ·obtain ⟨ps, h1, h2, h3⟩ := (F.inv.tabs x hx).ex
  exact ⟨ps, hk _ _ h1, h2, fun pos cv hc => (h3 pos cv hc).keeps hk⟩
 ·rcases List.mem_cons.mp hp with rfl | hp
  ·exact ⟨hk _ _ hoL, F.offL, Nat.ne_of_lt F.ltL, .inl F.hL, Nat.le_trans F.gs F.hL⟩
  ·obtain ⟨h1, h2, h3, h4, h5⟩ := F.ow p hp
   exact ⟨hk _ _ h1, h2, Nat.ne_of_lt (Heap.lt_size h1), h4, h5⟩
 ·refine List.nodup_cons.mpr ⟨fun hm => ?_, F.nodup⟩
  obtain ⟨p, hp, e⟩ := List.mem_map.mp hm
  exact (F.ow p hp).2.2.1 e
theorem Fx.outer {C : Addr} {oL : Obj} {h' : Heap} {l' : List (Str × Value)} (F : Fx B md s₀ st₀ st C ((L, oL) :: own) l' s) (hL : ∃ m, (∃ es ep, oL.data = .dict es ep ∧ (∀ h : Heap, h.get? L = some oL → h.Ns L m)) ∧ ∀ p ∈ l, m p.1 = some p.2) (hL0 : s₀.heap.objs.size ≤ L)
  (hs : Heap.SameBut C s.heap h') : Fx B md s₀ st₀ st L own l { s with heap := h' } := by
 obtain ⟨g1, g2, g3, g4, g5⟩ := F.ow (L, oL) (.head _)
 dsimp only at g1 g2 g3 g4 g5
 have keep : ∀ b o, b ≠ C → s.heap.get? b = some o → h'.get? b = some o := fun b o q e => (hs.2 b q).trans e
 have hLg : B.g.objs.size ≤ C := Nat.le_trans F.gs F.hL
 have hTC : ∀ P ∈ TT, P ≠ C := fun P hP e => F.notTT hLg (e ▸ hP)
 have hcode : ∀ cv q, s.heap.CodeRec cv q → h'.CodeRec cv q := by
  rintro cv q ⟨c, o, vs, t, e1, e2, e3, e4⟩
  refine ⟨c, o, vs, t, e1, keep _ _ ?_ e2, e3, e4⟩
  rintro rfl
  obtain ⟨m, ⟨oC, es, ep, e5, e6, _⟩, _⟩ := F.ns
  rw [e2] at e5
  cases e5
  rw [e3] at e6
  cases e6
 have nd := List.nodup_cons.mp F.nodup
 obtain ⟨m, ⟨es, ep, _, hns⟩, hm⟩ := hL
 refine ⟨F.ok, ⟨fun b o e => keep b o ?_ (F.inv.base b o e), F.inv.bare, fun t ht => ?_, by rw [hs.1]; exact F.inv.size⟩, ⟨m, hns _ (keep _ _ g3 g1), hm⟩, fun b o e => keep b o ?_ (F.le b o e), F.offT, g2, hL0, fun p hp => ?_, nd.2, ⟨fun b o h1 h2 e => keep b o ?_ (F.ext.1 b o h1 h2 e), by rw [hs.1]; exact F.ext.2⟩, F.new, F.old, F.os, F.gs⟩
 ·exact Nat.ne_of_lt (Nat.lt_of_lt_of_le (Heap.lt_size e) hLg)
 ·obtain ⟨ps, h1, h2, h3⟩ := (F.inv.tabs t ht).ex
  exact ⟨ps, keep _ _ (hTC _ (tabs_TT t ht)) h1, h2, fun pos cv hc => hcode _ _ (h3 pos cv hc)⟩
 ·intro q; rw [q, F.offL] at e; cases e
 ·obtain ⟨h1, h2, h3, h4, h5⟩ := F.ow p (.tail _ hp)
  exact ⟨keep _ _ h3 h1, h2, fun q => nd.1 (q ▸ List.mem_map_of_mem (f := (·.1)) hp), h4, h5⟩
 ·exact Nat.ne_of_lt (Nat.lt_of_lt_of_le (Heap.lt_size e) F.hL)
noncomputable def tests (M : Model) (A : Around) (env : Env) (ifs : List Expr) (Q : Bool → Shared → Prop) (E : Value → Shared → Prop) (s : Shared) : Prop :=
 wpAny M A (forIn ifs true fun c r => if r = true then do let ok ← isTrue c env (eval c env); pure (ForInStep.yield ok) else pure (ForInStep.yield r)) Q E s
theorem tests_nil {env : Env} {Q : Bool → Shared → Prop} {E : Value → Shared → Prop} (h : Q true s) : tests (model B.prog B.w) A env [] Q E s := wpAny_tests_nil h
theorem tests_one {env : Env} {c : Expr} {Q : Bool → Shared → Prop} {E : Value → Shared → Prop} (h : wpAny (model B.prog B.w) A (isTrue c env (eval c env)) Q E s) : tests (model B.prog B.w) A env [c] Q E s := wpAny_tests_one h
noncomputable def compQ (M : Model) (A : Around) (E : Value → Shared → Prop) (env : Env) (elt target iter : Expr) (ifs : List Expr) (scope : Scope) (pos : Pos) (cl : List (Str × Addr)) (Q : Value → Shared → Prop) (x : Value) (s : Shared) : Prop :=
 wpAny M A (pyIter x) (fun it s₂ => wpAny M A (newList []) (fun acc s₃ => wpAny M A (newFunctionEnv scope env.globals cl [] env.qual none .none (some env)) (fun cenv s₄ =>
  codeAny M A (.compStart (.ListComp elt [⟨target, iter, ifs, 0⟩] scope pos) 0 it acc { cenv with scope := relabel scope env }) (compPost M A E none Q acc cenv.locals) s₄) E s₃) E s₂) E s
theorem comp_mk {elt target iter : Expr} {ifs : List Expr} {scope : Scope} {pos : Pos} {env : Env} {names : List (Str × NameKind)} {cl : List (Str × Addr)} (clos : List (Str × Addr)) {qual : Str} {cd : Value} {Q E : Value → Shared → Prop}
  (N : En env L names cl qual cd) (hcl : closOf cl scope.names [] = some clos) (hk : scope.kind = .function) (hnd : (scope.names.map (·.1)).Nodup)
  (h : wpAny (model B.prog B.w) A (eval iter env) (compQ (model B.prog B.w) A E env elt target iter ifs scope pos clos Q) E s) (hs : ∀ x, foldedSetIterable iter env x = pure x := by intro _; rfl) :
  wpAny (model B.prog B.w) A (eval (.ListComp elt [⟨target, iter, ifs, 0⟩] scope pos) env) Q E s := by
 rw [eval_ListComp]
 exact wpAny_comprehension_free (g := ⟨target, iter, ifs, 0⟩) rfl hs (closureFor_of N hcl) hk (fun x hx hl => by obtain ⟨n, k⟩ := x; dsimp only at hl; subst hl; exact lookup_mem hnd hx) h
theorem perm3 {α : Type} {a b c : α} {l : List α} : (a :: b :: c :: l).Perm (c :: b :: a :: l) :=
 ((List.Perm.swap b a (c :: l)).trans ((List.Perm.swap c a l).cons b)).trans (List.Perm.swap c b (a :: l))
theorem Fx.compLp {elt iter : Expr} {tn : Str} {tp : Pos} {ifs : List Expr} {scope : Scope} {pos : Pos} {env' : Env} {names' : List (Str × NameKind)} {clos : List (Str × Addr)} {qual : Str} {cd : Value} {Q E : Value → Shared → Prop} {a C it D : Addr} {o oL : Obj} {vs : List Value} {s₁ : Shared}
  (J : Nat → St → List Value → Prop) (N2 : En env' C names' clos qual cd) (hh : A.handled = none) (htn : (tn, NameKind.local) ∈ names')
  (hl : Lst st a vs) (hz : vs.length ≤ 900) (hback : ∃ m, (∃ es ep, oL.data = .dict es ep ∧ (∀ h : Heap, h.get? L = some oL → h.Ns L m)) ∧ ∀ p ∈ l, m p.1 = some p.2) (hL0 : s₀.heap.objs.size ≤ L)
  (turn : ∀ i x st' us C env' ow s' E', vs[i]? = some x → St.le st st' → J i st' us → En env' C names' clos qual cd → Fx B md s₀ st₀ st' C ow [(tn, x)] s' →
   tests (model B.prog B.w) A env' ifs (fun ok s₂ => if ok = true then wpAny (model B.prog B.w) A (eval elt env') (fun v s₃ => ∃ st₃, St.le st' st₃ ∧ Fx B md s₀ st₀ st₃ C ow [(tn, x)] s₃ ∧ J (i + 1) st₃ (us ++ [v])) E' s₂
    else ∃ st₃, St.le st' st₃ ∧ Fx B md s₀ st₀ st₃ C ow [(tn, x)] s₂ ∧ J (i + 1) st₃ us) E' s')
  (done : ∀ st' us n D s', St.le st st' → J vs.length st' us → Fx B md s₀ st₀ st' L ((D, lstO us n) :: own) l s' → Q (.ref D) s')
  (F3 : Fx B md s₀ st₀ st C ((it, o) :: (D, lstO [] 0) :: (L, oL) :: own) [] s₁) (hi : IterO o a 0) (h0 : J 0 st []) :
  codeAny (model B.prog B.w) A (.compLoop (.ListComp elt [⟨.Name tn tp, iter, ifs, 0⟩] scope pos) 0 (.ref it) (.ref D) env') (compPost (model B.prog B.w) A E none Q (.ref D) C) s₁ := by
 refine codeAny_compLoop_tests (fun n s => ∃ i st' us k o l', n + i = vs.length ∧ St.le st st' ∧ J i st' us ∧ us.length ≤ i ∧ IterO o a i ∧ Fx B md s₀ st₀ st' C ((it, o) :: (D, lstO us k) :: (L, oL) :: own) l' s) ?_ vs.length ⟨0, st, [], 0, o, [], rfl, St.le.refl _, h0, Nat.le_refl _, hi, F3⟩
 rintro n s' ⟨i, st', us, k, o, l', hn, le, hJ, hus, hi, F⟩
 cases hx : vs[i]? with
 | none =>
  refine F.nextEnd hh hi (hl.mono le).la hx fun s₂ F => ?_
  have hi' : i = vs.length := dz hn (List.getElem?_eq_none_iff.mp hx)
  subst hi'
  obtain ⟨m, hm, _⟩ := F.ns
  exact ⟨m, hm, fun h' hs => done _ _ _ _ _ le hJ ((F.ownPerm (List.Perm.swap ..)).outer hback hL0 hs)⟩
 | some x =>
  refine F.nextItem hi (hl.mono le).la hx fun o' s₂ hi' F => ?_
  refine wpAny_assign_Name (F.store [] N2 htn (fun z h => nomatch h) fun s₃ F => ?_)
  have hlt : i < vs.length := (List.getElem?_eq_some_iff.mp hx).1
  refine wpAny_mono (turn i x st' us C env' _ s₃ _ hx le hJ N2 F) (fun ok s₄ q => ?_) fun z z e => e
  cases ok with
  | false =>
   obtain ⟨st3, le3, F3, J3⟩ := q
   exact ⟨n - 1, (dn hn hlt).1, i + 1, st3, us, k, o', _, (dn hn hlt).2, le.trans le3, J3, Nat.le_succ_of_le hus, hi', F3⟩
  | true =>
   refine wpAny_mono q (fun v s₅ q => ?_) fun z z e => e
   obtain ⟨st3, le3, F3, J3⟩ := q
   refine Fx.appendAt [(it, o')] F3 (Nat.le_trans hus (Nat.le_trans (Nat.le_of_lt hlt) hz)) fun n' s₆ F6 => ?_
   exact ⟨n - 1, (dn hn hlt).1, i + 1, st3, _, n', o', _, (dn hn hlt).2, le.trans le3, J3, by rw [List.length_append, List.length_singleton]; exact Nat.succ_le_succ hus, hi', F6⟩
theorem Fx.compL {elt iter : Expr} {tn : Str} {tp : Pos} {ifs : List Expr} {scope : Scope} {pos : Pos} {env : Env} {names : List (Str × NameKind)} {cl clos : List (Str × Addr)} {qual : Str} {cd : Value} {Q E : Value → Shared → Prop} {a : Addr} {vs : List Value}
  (J : Nat → St → List Value → Prop) (F : Fx B md s₀ st₀ st L own l s) (N : En env L names cl qual cd) (hh : A.handled = none) (hS : ScopeOk { scope with names := relC scope.names }) (hrel : ∀ p ∈ scope.names, p.2 = NameKind.free → (p.1, NameKind.cell) ∈ names) (hnc : ∀ x ∈ scope.names, x.2 ≠ .cell) (htn : (tn, NameKind.local) ∈ relC scope.names)
  (hl : Lst st a vs) (hz : vs.length ≤ 900) (h0 : J 0 st [])
  (turn : ∀ i x st' us C env' ow s' E', vs[i]? = some x → St.le st st' → J i st' us → En env' C (relC scope.names) clos qual cd → Fx B md s₀ st₀ st' C ow [(tn, x)] s' →
   tests (model B.prog B.w) A env' ifs (fun ok s₂ => if ok = true then wpAny (model B.prog B.w) A (eval elt env') (fun v s₃ => ∃ st₃, St.le st' st₃ ∧ Fx B md s₀ st₀ st₃ C ow [(tn, x)] s₃ ∧ J (i + 1) st₃ (us ++ [v])) E' s₂
    else ∃ st₃, St.le st' st₃ ∧ Fx B md s₀ st₀ st₃ C ow [(tn, x)] s₂ ∧ J (i + 1) st₃ us) E' s')
  (done : ∀ st' us n D s', St.le st st' → J vs.length st' us → Fx B md s₀ st₀ st' L ((D, lstO us n) :: own) l s' → Q (.ref D) s') :
  compQ (model B.prog B.w) A E env elt (.Name tn tp) iter ifs scope pos clos Q (.ref a) s := by
 unfold compQ
 refine F.pyIterL hl.la fun it o s₁ hi F => ?_
 refine wpAny_newObj_type ?_
 have F1 := F.pushO (o := lstO [] 0) (t := s₁.toks) rfl
 generalize s₁.heap.objs.size = D at F1
 refine wpAny_newFunctionEnv hnc (fun x hx => nomatch hx) (fun h₁ hns hsb => ?_) hS.kind
 dsimp only at hns hsb
 obtain ⟨m0, ⟨oL, esL, epL, eL, dL, kL, fL⟩, hm0⟩ := F1.ns
 have hk1 : ∀ b o', (s₁.heap.push (lstO [] 0)).get? b = some o' → h₁.get? b = some o' := fun b o' e => hsb.extBut b o' (Nat.ne_of_lt (Heap.lt_size e)) (Heap.get?_push_of_some _ e)
 have hz1 : (s₁.heap.push (lstO [] 0)).objs.size ≤ h₁.objs.size := by rw [hsb.1]; simp only [Heap.size_push]; o_head qo
 have F2 := F1.inner (t := s₁.toks) eL hns hk1 hz1
 have hL0 : s₀.heap.objs.size ≤ L := F1.hL
 have hback : ∃ m, (∃ es ep, oL.data = .dict es ep ∧ (∀ h : Heap, h.get? L = some oL → h.Ns L m)) ∧ ∀ p ∈ l, m p.1 = some p.2 := ⟨m0, ⟨esL, epL, dL, fun h e => ⟨oL, esL, epL, e, dL, kL, fL⟩⟩, hm0⟩
 generalize hC : (s₁.heap.push (lstO [] 0)).objs.size = C at F2 hns
 rw [relabel_of N hrel]
 have N2 : En { newEnv scope C env.globals clos env.qual none .none (some env) 0 with scope := { scope with names := relC scope.names } } C (relC scope.names) clos qual cd := N.inner hS
 have F3 := F2.ownPerm (own' := (it, o) :: (D, lstO [] 0) :: (L, oL) :: own) perm3
 refine codeAny_compStart_list (R := _) ?_ ?_
 ·exact Fx.compLp J N2 hh htn hl hz hback hL0 turn done F3 hi h0
 ·exact wpAny_pyIter_listiter ⟨_, (F3.ow _ (.head _)).1, hi.1, hi.2⟩ (Fx.compLp J N2 hh htn hl hz hback hL0 turn done F3 hi h0)
noncomputable def InstD (st : St) (a dx C : Addr) (fs : List (Str × Value)) : Prop := ∃ n es, st a = some (instObj C dx) ∧ st dx = some (dictOf es n) ∧ Ents fs es
set_option tactic.hygienic true in
theorem makeN {C fI : Addr} {name qual : Str} {params : Arguments} {body : List Stmt} {scope : Scope} {dV kV doc pm cdv ct oc : Value} {an od : Option Addr} {osl : Array (Option Value)} {args : List Value} {binds : Addr → List (Str × Value)} {fs : List (Str × Value)} {n : Nat}
  (H : At B st s) (R : Rm A (n + 2)) (hC : (makesIn (hd.heap_39 B.w.params) C && (findIn (hd.heap_39 B.w.params) (.ref C) "__init__" == some (some (.ref fI))) && (typeIn (hd.heap_39 B.w.params) (.ref fI) == some (.type "function"))) = true)
  (ho : (hd.heap_39 B.w.params).lookup fI = some ⟨oc, od, .func (fnOf name qual params body scope dV kV doc pm an cdv ct), osl⟩) (hcd : codeIn (hd.heap_39 B.w.params) cdv qual = true)
  (hbind : ∀ x s', (hd.heap_39 B.w.params).In s'.heap → BindsTo s' (fnOf name qual params body scope dV kV doc pm an cdv ct) ⟨.ref x :: args, []⟩ (binds x)) (hS : ScopeOk scope) {ps : List Str} (hps : ∀ x, (binds x).map (·.1) = ps) (hloc : ∀ y ∈ ps, (y, NameKind.local) ∈ scope.names) (hbn : ps.Nodup) (hcell : ∀ x ∈ scope.names, x.2 ≠ .cell)
  (hco : scope.isCoroutine = false) (hgen : scope.isGenerator = false)
  (h : ∀ (Q : Value → Shared → Prop) L s' s₁ env A' x dx st', St.le st st' → st' x = some (instObj C dx) → En env L scope.names [] qual cdv → Rm A' n → Fx B [dx] s' st' st' L [(dx, dictOf [] 0)] (binds x) s₁ →
   (∀ es m st'' l own s'', Fx B [dx] s' st' st'' L ((dx, dictOf es m) :: own) l s'' → Ents fs es → Q .none s'') →
   wpAny (model B.prog B.w) A' (execs body env) (fun fl s' => Q (match fl with | .ret v => v | _ => .none) s') (fun z z => False) s₁) :
  Spec B A [] st s (call (.ref C) args) (fun z st' v => ∃ x dx, v = .ref x ∧ s.heap.objs.size ≤ dx ∧ st dx = none ∧ InstD st' x dx C fs) := fun Q E k => by
 simp only [Bool.and_eq_true, beq_iff_eq] at hC
 have X := H.ok.X.keeps H.inv.base
 obtain ⟨hh, g, dr, t, os⟩ := s
 have e1 : ∀ b o, hh.get? b = some o → ((hh.push emptyDict).push (instObj C hh.objs.size)).get? b = some o := fun b o e => Heap.get?_push_of_some _ (Heap.get?_push_of_some _ e)
 have z1 : (hh.push emptyDict).objs.size = hh.objs.size + 1 := Heap.size_push _ _
 have z2 : ((hh.push emptyDict).push (instObj C hh.objs.size)).objs.size = hh.objs.size + 2 := by rw [Heap.size_push, z1]
 have ed : ((hh.push emptyDict).push (instObj C hh.objs.size)).get? hh.objs.size = some emptyDict := Heap.get?_push_of_some _ (Heap.get?_push_size _ rfl)
 have ex : ((hh.push emptyDict).push (instObj C hh.objs.size)).get? (hh.objs.size + 1) = some (instObj C hh.objs.size) := by have := Heap.get?_push_size (hh.push emptyDict) (o := instObj C hh.objs.size) rfl; rwa [z1] at this
 have fr1 : ∀ b : Nat, hh.objs.size ≤ b → st b = none := fun b hb => by
  cases q : st b with
  | none => rfl
  | some o => exact absurd (Heap.lt_size (H.le _ _ q)) (Nat.not_lt.mpr hb)
 have hle : St.le st (st.put (hh.objs.size + 1) (instObj C hh.objs.size)) := fun b o e => by
  unfold St.put
  rw [if_neg (fun q => by rw [q, fr1 _ (Nat.le_succ _)] at e; cases e)]; exact e
 have hgs : B.g.objs.size ≤ hh.objs.size := H.inv.size
 have hTl : ∀ P ∈ TT, @LT.lt Nat _ P hh.objs.size := fun P hP => Nat.lt_of_lt_of_le (Nat.lt_of_lt_of_le (TT_lt P hP) H.ok.size) hgs
 have H' : At B (st.put (hh.objs.size + 1) (instObj C hh.objs.size)) ⟨(hh.push emptyDict).push (instObj C hh.objs.size), g, dr, t, os⟩ := by
  refine ⟨H.ok, ⟨fun b o e => e1 _ _ (H.inv.base _ _ e), H.inv.bare, fun y hy => ?_, by show _ ≤ Array.size _; rw [z2]; o_head qo⟩, fun b o e => ?_, fun P hP => ?_⟩
  ·obtain ⟨ps, h1, h2, h3⟩ := (H.inv.tabs y hy).ex
   exact ⟨ps, e1 _ _ h1, h2, fun pos cv hc => (h3 pos cv hc).keeps e1⟩
  ·unfold St.put at e
   split at e
   ·rename_i q; cases e; rw [q]; exact ex
   ·exact e1 _ _ (H.le _ _ e)
  ·unfold St.put
   have := hTl P hP
   rw [if_neg (fun (q : P = hh.objs.size + 1) => by o_head qo)]; exact H.offT P hP
 have hx' : (st.put (hh.objs.size + 1) (instObj C hh.objs.size)) (hh.objs.size + 1) = some (instObj C hh.objs.size) := if_pos rfl
 have own : ∀ p ∈ [((hh.objs.size : Addr), dictOf [] 0)], ((hh.push emptyDict).push (instObj C hh.objs.size)).get? p.1 = some p.2 ∧ (st.put (hh.objs.size + 1) (instObj C hh.objs.size)) p.1 = none ∧ p.1 ∈ [hh.objs.size] ∧ B.g.objs.size ≤ p.1 := by
  intro p hp
  cases List.mem_singleton.mp hp
  refine ⟨ed, ?_, .head _, hgs⟩
  unfold St.put
  rw [if_neg (Nat.ne_of_lt (Nat.lt_succ_self _))]; exact fr1 _ (Nat.le_refl _)
 refine wpAny_call (make_core (makes_of X hC.1.1) (looks_findIn X hC.1.2) (fun self => bind_fn X self hC.2) (.inl rfl) ?_)
 have nd : ([((hh.objs.size : Addr), dictOf [] 0)].map (·.1)).Nodup := List.nodup_cons.mpr ⟨(fun h => nomatch h), .nil⟩
 refine enterC (md := [hh.objs.size]) H' own nd (Rm.make (C := C) (rest := args) (kw := []) R).room ho hcd (hbind (hh.objs.size + 1) _ (H'.ok.X.keeps H'.inv.base)) hS (hps _) hloc hbn hcell hco hgen fun L s₁ env A' N R' F => ?_
 refine h (fun v s' => InitBack (hh.objs.size + 1) _ (.ok (.ret v)) s') L _ s₁ env A' (hh.objs.size + 1) hh.objs.size _ hle hx' N R' F fun es m st'' l own s'' F' hE => ⟨rfl, ?_⟩
 refine k _ s'' F'.inv ⟨fun b o hT hM e => ?_, ?_⟩ F'.os ⟨_, hh.objs.size, rfl, Nat.le_refl _, fr1 _ (Nat.le_refl _), m, es, ?_, ?_, hE⟩
 ·refine F'.ext.1 _ _ hT (fun hM => ?_) (e1 _ _ e)
  cases List.mem_singleton.mp hM; exact Nat.lt_irrefl _ (Heap.lt_size e)
 ·have h1 := F'.ext.2
  rw [show (Shared.heap ⟨(hh.push emptyDict).push (instObj C hh.objs.size), g, dr, t, os⟩).objs.size = hh.objs.size + 2 from z2] at h1
  exact Nat.le_trans (Nat.le_add_right _ 2) h1
 ·show (if _ then _ else _) = _
  rw [if_neg (Nat.not_lt.mpr (Nat.le_succ _))]
  exact F'.le _ _ (F'.old _ _ hx')
 ·show (if _ then _ else _) = _
  rw [if_neg (Nat.lt_irrefl _)]
  exact (F'.ow _ (.head _)).1
noncomputable def St.cut (st : St) (a : Addr) : St := fun b => if b = a then none else st b
theorem St.cut_le {st stA : St} {a : Addr} (k : St.le stA st) (h : stA a = none) : St.le stA (st.cut a) := fun b o e => by
 unfold St.cut
 rw [if_neg (fun q => by rw [q, h] at e; cases e)]
 exact k b o e
theorem St.cut_ne {st : St} {a b : Addr} (h : b ≠ a) : st.cut a b = st b := if_neg h
theorem Fx.thaw {d : Addr} {o : Obj} (F : Fx B md s₀ st₀ st L own l s) (hd : st d = some o) (h0 : st₀ d = none) (hn : s₀.heap.objs.size ≤ d) : Fx B md s₀ st₀ (st.cut d) L ((d, o) :: own) l s := by
 have hne : ∀ p ∈ own, p.1 ≠ d := fun p hp q => by rw [← q, (F.ow p hp).2.1] at hd; cases hd
 refine { F with le := fun b x e => ?_, offT := fun P hP => ?_, offL := ?_, ow := fun p hp => ?_, nodup := ?_, new := fun b x e hb => ?_, old := St.cut_le F.old h0 }
 ·unfold St.cut at e
  split at e
  ·cases e
  ·exact F.le b x e
 ·unfold St.cut
  split
  ·rfl
  ·exact F.offT P hP
 ·unfold St.cut
  split
  ·rfl
  ·exact F.offL
 ·rcases List.mem_cons.mp hp with rfl | hp
  ·exact ⟨F.le _ _ hd, if_pos rfl, (fun (q : d = L) => by rw [q, F.offL] at hd; cases hd), .inl hn, Nat.le_trans F.gs hn⟩
  ·obtain ⟨h1, h2, h3, h4, h5⟩ := F.ow p hp
   exact ⟨h1, by rw [St.cut_ne (hne p hp)]; exact h2, h3, h4, h5⟩
 ·refine List.nodup_cons.mpr ⟨fun hm => ?_, F.nodup⟩
  obtain ⟨p, hp, e⟩ := List.mem_map.mp hm
  exact hne p hp e
 ·unfold St.cut at e
  split at e
  ·cases e
  ·exact F.new b x e hb
theorem Fx.callM1 {d : Addr} {o : Obj} {A₁ : Around} {t : Sem Value} {Φ : Heap → St → Value → Prop} {Q E : Value → Shared → Prop} (F : Fx B md s₀ st₀ st L ((d, o) :: own) l s) (C : At B st s → Spec B A₁ [d] st s t Φ)
  (k : ∀ v st' s', St.le st st' → (∀ o', s'.heap.get? d = some o' → Fx B md s₀ st₀ st' L ((d, o') :: own) l s') → Φ s'.heap st' v → Q v s') : wpAny (model B.prog B.w) A₁ t Q E s := by
 obtain ⟨g1, g2, g3, g4, g5⟩ := F.ow (d, o) (.head _)
 dsimp only at g1 g2 g3 g4 g5
 have nd := List.nodup_cons.mp F.nodup
 refine C F.at Q E fun v s' I X hos hΦ => k v _ s' ?_ (fun o' ho' => ?_) hΦ
 ·intro b o e
  unfold grow
  rw [if_pos (Heap.lt_size (F.le b o e))]; exact e
 ·have hT : ∀ b, b ∈ TT → b < s.heap.objs.size := fun b hb => Nat.lt_of_lt_of_le (Nat.lt_of_lt_of_le (TT_lt b hb) F.ok.size) F.inv.size
  have hLlt : L < s.heap.objs.size := F.ltL
  have hLT : L ∉ TT := F.notTT (Nat.le_trans F.gs F.hL)
  have hd1 : ∀ b, b ≠ d → b ∉ [d] := fun b hb h => hb (List.mem_singleton.mp h)
  refine ⟨F.ok, I, ?_, ?_, ?_, ?_, F.hL, ?_, F.nodup, ?_, ?_, ?_, hos.trans F.os, F.gs⟩
  ·obtain ⟨m, ⟨oL, es, ep, e, r⟩, hm⟩ := F.ns
   exact ⟨m, ⟨oL, es, ep, X.1 _ _ hLT (hd1 _ g3.symm) e, r⟩, hm⟩
  ·intro b o e
   unfold grow at e
   split at e
   ·exact X.1 _ _ (fun q => by rw [F.offT b q] at e; cases e) (hd1 _ fun q => by rw [q, g2] at e; cases e) (F.le b o e)
   ·exact e
  ·intro P hP
   unfold grow
   rw [if_pos (hT P hP)]; exact F.offT P hP
  ·unfold grow
   rw [if_pos hLlt]; exact F.offL
  ·intro p hp
   rcases List.mem_cons.mp hp with rfl | hp
   ·refine ⟨ho', ?_, g3, g4, g5⟩
    unfold grow
    rw [if_pos (Heap.lt_size g1)]; exact g2
   ·obtain ⟨h1, h2, h3, h4, h5⟩ := F.ow p (.tail _ hp)
    refine ⟨X.1 _ _ (F.notTT h5) (hd1 _ fun q => nd.1 (q ▸ List.mem_map_of_mem (f := (·.1)) hp)) h1, ?_, h3, h4, h5⟩
    unfold grow
    rw [if_pos (Heap.lt_size h1)]; exact h2
  ·refine ⟨fun b x h1 h2 e => ?_, Nat.le_trans F.ext.2 X.2⟩
   have e1 := F.ext.1 b x h1 h2 e
   refine X.1 b x h1 (hd1 _ fun q => ?_) e1
   rcases g4 with g4 | g4
   ·exact absurd (Heap.lt_size e) (Nat.not_lt.mpr (q ▸ g4))
   ·exact h2 (q ▸ g4)
  ·intro b o e hb
   unfold grow at e
   rw [if_pos (Nat.lt_of_lt_of_le hb F.ext.2)] at e
   exact F.new b o e hb
  ·intro b o e
   have e' := F.old b o e
   unfold grow
   rw [if_pos (Heap.lt_size (F.le b o e'))]; exact e'
theorem Fx.getO {a C dx : Addr} {fs : List (Str × Value)} {es : List DictEntry} {n : Nat} {name : Str} {v : Value} {ex : Bool} {Q E : Value → Shared → Prop} (F : Fx B md s₀ st₀ st L own l s) (hq : (dx, dictOf es n) ∈ own) (ha : st a = some (instObj C dx)) (hE : Ents fs es) (hf : fieldB (hd.heap_39 B.w.params) C name = true)
  (hl : fs.lookup name = some v) (hv : handedIn v = true) (h : ∀ s', Fx B md s₀ st₀ st L own l s' → Q v s') : wpAny (model B.prog B.w) A (PySem.getAttr (.ref a) name ex) Q E s := by
 simp only [fieldB, Bool.and_eq_true, beq_iff_eq] at hf
 obtain ⟨m, fr⟩ := F.fr
 exact get_own (attr := none) fr F.ok.X ⟨F.le _ _ ha, rfl, rfl, (F.ow _ hq).1⟩ hf.1.1 hf.1.2 hf.2 rfl (by rw [hE.get, hl]) hv (h _ F.toks)
theorem Fx.methodO {a C dx f : Addr} {fs : List (Str × Value)} {es : List DictEntry} {n : Nat} {name : Str} {pl : Sem Bool} {Q : Value × List Value → Shared → Prop} {E : Value → Shared → Prop} (F : Fx B md s₀ st₀ st L own l s) (hq : (dx, dictOf es n) ∈ own) (ha : st a = some (instObj C dx)) (hE : Ents fs es) (hm : methB (hd.heap_39 B.w.params) C name f = true)
  (hl : fs.lookup name = none) (h : Q (.ref f, [.ref a]) s) : wpAny (model B.prog B.w) A (getMethod (.ref a) name pl) Q E s := by
 simp only [methB, Bool.and_eq_true, beq_iff_eq] at hm
 obtain ⟨m, fr⟩ := F.fr
 exact method_inst fr F.ok.X ⟨F.le _ _ ha, rfl, rfl, (F.ow _ hq).1⟩ hm.1.1.1 hm.1.1.2 hm.1.2 (by rw [hE.get, hl]) h
theorem Fx.retM {Φ : Heap → St → Value → Prop} {Q : Value → Shared → Prop} {v : Value} (k : Back B md st₀ s₀ Φ Q)
  (F : Fx B md s₀ st₀ st L own l s) (h : ∀ st', St.le st st' → Φ s.heap st' v) : Q v s := k v s F.inv F.ext F.os (h _ F.outle)
theorem enterM {name qual : Str} {params : Arguments} {body : List Stmt} {scope : Scope} {dV kV doc pm cdv ct oc : Value} {an od : Option Addr} {osl : Array (Option Value)} {f : Addr} {args : List Value} {kw : List (Str × Value)} {binds : List (Str × Value)} {Φ : Heap → St → Value → Prop} {n : Nat} {dx : Addr} {o : Obj}
  (H : At B st s) (hq : s.heap.get? dx = some o) (hnone : st dx = none) (hg : B.g.objs.size ≤ dx) (R : Rm A (n + 1))
  (ho : (hd.heap_39 B.w.params).lookup f = some ⟨oc, od, .func (fnOf name qual params body scope dV kV doc pm an cdv ct), osl⟩) (hcd : codeIn (hd.heap_39 B.w.params) cdv qual = true)
  (hbind : BindsTo s (fnOf name qual params body scope dV kV doc pm an cdv ct) ⟨args, kw⟩ binds) (hS : ScopeOk scope) {ps : List Str} (hps : binds.map (·.1) = ps) (hloc : ∀ y ∈ ps, (y, NameKind.local) ∈ scope.names) (hbn : ps.Nodup) (hcell : ∀ x ∈ scope.names, x.2 ≠ .cell)
  (hco : scope.isCoroutine = false) (hgen : scope.isGenerator = false)
  (h : ∀ (Q : Value → Shared → Prop) L s₁ env A', Back B [dx] st s Φ Q →
   En env L scope.names [] qual cdv → Rm A' n → Fx B [dx] s st st L [(dx, o)] binds s₁ →
   wpAny (model B.prog B.w) A' (execs body env) (fun fl s' => Q (match fl with | .ret v => v | _ => .none) s') (fun z z => False) s₁) :
  Spec B A [dx] st s (call (.ref f) args kw) Φ := fun Q z k =>
 enterO (own := [(dx, o)]) (md := [dx]) H (fun p hp => by cases List.mem_singleton.mp hp; exact ⟨hq, hnone, .head _, hg⟩) (List.nodup_cons.mpr ⟨(fun h => nomatch h), .nil⟩) R.room ho hcd hbind hS hps hloc hbn hcell hco hgen fun L s₁ env A' N R' F => h Q L s₁ env A' k N R' F
theorem Fx.eqBoolStr {Q : Bool → Shared → Prop} {E : Value → Shared → Prop} {x y : Str} {t u : Tok} (F : Fx B md s₀ st₀ st L own l s) (h : Q (x == y) s) : wpAny (model B.prog B.w) A (eqBool (.str x t) (.str y u)) Q E s := by
 unfold eqBool
 refine wpAny_holding ?_
 by_cases q : (Value.str x t : Value) = .str y u
 ·rw [if_pos (by rw [q]; exact beq_self_eq_true _)]
  refine wpAny_bind (wpAny_rule (wpAny_pure ?_))
  cases q
  rwa [beq_self_eq_true] at h
 ·rw [if_neg (by simpa using q)]
  exact wpAny_bind (PyProof.Rows.eq_str (wpAny_truthy_bool h))
noncomputable def strL (xs : List (Str × Tok)) : List Value := xs.map fun p => .str p.1 p.2
theorem Fx.inLoopS {R₀ : Result → Shared → Prop} {a : Addr} {x : Str} {u : Tok} {xs : List (Str × Tok)} (k : Nat) : ∀ (i : Nat), i + k = xs.length → Fx B md s₀ st₀ st L own l s → LA st own a (strL xs) →
  R₀ (.ok (.ret (.bool ((xs.drop i).any (·.1 == x))))) s →
  wpAny (model B.prog B.w) A.in1 (Builtin.«list.__contains__.loop» ⟨[.ref a, .str x u, rawInt i], []⟩) (fun fin s' => match fin with | .done f => R₀ (.ok f) s' | .again c' => c'.quiet = true ∧ codeAny (model B.prog B.w) A c' R₀ s') (fun e s' => R₀ (.error e) s') s := by
 induction k with
 | zero =>
  intro i hk F hl h
  obtain ⟨m, e⟩ := hl.get F
  have hn : (strL xs).toArray[((i : Nat) : Int).toNat]? = none := Array.getElem?_eq_none (Nat.le_of_eq ((List.length_map ..).trans hk.symm))
  have hd : xs.drop i = [] := List.drop_eq_nil_of_le (Nat.le_of_eq hk.symm)
  unfold Builtin.«list.__contains__.loop»
  refine wpAny_bind (wpAny_listItems e rfl ?_)
  rw [hn]
  rw [hd] at h
  exact wpAny_pure h
 | succ k ih =>
  intro i hk F hl h
  obtain ⟨m, e⟩ := hl.get F
  have hlt : i < xs.length := hk ▸ Nat.lt_add_of_pos_right (Nat.succ_pos k)
  have hn : (strL xs).toArray[((i : Nat) : Int).toNat]? = some (.str xs[i].1 xs[i].2) := by show (strL xs).toArray[i]? = _; rw [List.getElem?_toArray, strL, List.getElem?_map, List.getElem?_eq_getElem hlt]; rfl
  have hd : xs.drop i = xs[i] :: xs.drop (i + 1) := List.drop_eq_getElem_cons hlt
  unfold Builtin.«list.__contains__.loop»
  refine wpAny_bind (wpAny_listItems e rfl ?_)
  rw [hn]
  rw [hd, List.any_cons] at h
  refine wpAny_bind (F.eqBoolStr ?_)
  cases hb : (xs[i].1 == x) with
  | true =>
   rw [hb] at h
   rw [if_pos rfl]
   exact wpAny_pure h
  | false =>
   rw [hb] at h
   rw [if_neg (by decide)]
   have hc : ((i : Int) + 1) = ((i + 1 : Nat) : Int) := by push_cast; rfl
   rw [hc]
   refine wpAny_pure ⟨plainId_quiet MeetsSeq.plain_contains_loop _, codeAny_builtin MeetsSeq.entry_contains_loop ?_⟩
   rw [Around.under_plainId MeetsSeq.plain_contains_loop _]
   exact ih (i + 1) ((Nat.succ_add_eq_add_succ i k).trans hk) F hl (by rwa [Bool.false_or] at h)
theorem Fx.containsS {Q : Bool → Shared → Prop} {E : Value → Shared → Prop} {a : Addr} {x : Str} {u : Tok} {xs : List (Str × Tok)} (F : Fx B md s₀ st₀ st L own l s) (hl : LA st own a (strL xs)) (h : Q (xs.any (·.1 == x)) s) : wpAny (model B.prog B.w) A (PySem.contains (.ref a) (.str x u)) Q E s := by
 obtain ⟨m, e⟩ := hl.get F
 have T : s.TypeIs (.ref a) "list" := ⟨_, e, rfl⟩
 refine wpAny_contains_slot T PySem.F.slot_list_contains (wpAny_call (codeAny_call_builtin PySem.F.slot_list_contains.plain PySem.F.entry_list_contains (PySem.F.slot_list_contains.check _ _ _ _ _ _ _ _ T (PySem.F.args_list_contains_2 _ _) ?_)))
 unfold Builtin.«list.__contains__»
 refine wpAny_pure ⟨plainId_quiet MeetsSeq.plain_contains_loop _, codeAny_builtin MeetsSeq.entry_contains_loop ?_⟩
 rw [Around.under_plainId MeetsSeq.plain_contains_loop _]
 exact Fx.inLoopS (R₀ := fun r s' => match r with | .ok (.ret v) => wpAny (model B.prog B.w) A (truthy v) Q E s' | .ok _ => False | .error e => E e s') _ 0 (Nat.zero_add _) F hl (wpAny_truthy_bool h)
theorem Fx.inStrs {Q E : Value → Shared → Prop} {a : Addr} {x : Str} {u : Tok} {xs : List (Str × Tok)} (F : Fx B md s₀ st₀ st L own l s) (hl : LA st own a (strL xs)) (h : Q (.bool (xs.any (·.1 == x))) s) : wpAny (model B.prog B.w) A (compareOp .In (.str x u) (.ref a)) Q E s := by
 show wpAny _ _ (do return .bool (← PySem.contains _ _)) Q E s
 exact wpAny_bind (F.containsS hl (wpAny_pure h))
theorem Fx.notInStrs {Q E : Value → Shared → Prop} {a : Addr} {x : Str} {u : Tok} {xs : List (Str × Tok)} (F : Fx B md s₀ st₀ st L own l s) (hl : LA st own a (strL xs)) (h : Q (.bool (!xs.any (·.1 == x))) s) : wpAny (model B.prog B.w) A (compareOp .NotIn (.str x u) (.ref a)) Q E s := by
 show wpAny _ _ (do return .bool (!(← PySem.contains _ _))) Q E s
 exact wpAny_bind (F.containsS hl (wpAny_pure h))
theorem subs_eq (slice : Expr) (o i : Value) : subscripted slice false o i = operate [i, o] (getItem o i) ∨ subscripted slice false o i = operate [o, i] (getItem o i) := by
 cases slice with
 | Slice a b c p => cases c with
  | none => exact .inl rfl
  | some _ => exact .inr rfl
 | _ => exact .inr rfl
theorem tailG {value slice : Expr} {o i : Value} {T id : String} {Q E : Value → Shared → Prop} (hT : s.TypeIs o T) (hl : typeLookup (.type T) "__getitem__" = pure (some (.builtin id))) (h : wpAny (model B.prog B.w) A (getItem o i) Q E s) :
  wpAny (model B.prog B.w) A (subscriptTail value slice o i) Q E s := by
 unfold subscriptTail
 refine wpAny_bind ?_
 rw [getitemInPython_of_ne hT.not_modules]
 refine wpAny_bind (wpAny_specialOf hT hl ?_)
 have fin : wpAny (model B.prog B.w) A (subscripted slice false o i) (fun r s₃ => wpAny (model B.prog B.w) A (letTemporaryGo value o r >>= fun z => pure r) Q E s₃) E s := by
  rcases subs_eq slice o i with e | e <;> rw [e]
  ·exact wpAny_operating (wpAny_mono h (fun r s₃ h₃ => wpAny_bind (wpAny_letTemporaryGo (wpAny_pure h₃))) fun z z x => x)
  ·exact wpAny_operating (wpAny_mono h (fun r s₃ h₃ => wpAny_bind (wpAny_letTemporaryGo (wpAny_pure h₃))) fun z z x => x)
 first
  | exact wpAny_pure (wpAny_bind fin)
  | exact wpAny_bind (wpAny_pure (wpAny_bind fin))
  | exact wpAny_bind fin
section
variable {Q E : Value → Shared → Prop} {env : Env}
theorem item_any {value slice : Expr} {pos : Pos} (h : wpAny (model B.prog B.w) A (eval value env) (fun o s₁ => wpAny (model B.prog B.w) A (eval slice env) (fun i s₂ => ItemOn (model B.prog B.w) A E o i Q s₂) E s₁) E s) :
  wpAny (model B.prog B.w) A (eval (.Subscript value slice pos) env) Q E s :=
 Subscript_ (wpAny_mono h (fun z z h₁ => wpAny_mono h₁ (fun _ _ ⟨_, _, hl, hT, hg⟩ => tailG hT hl hg) fun z z e => e) fun z z e => e)
theorem slice_any {value : Expr} {lower upper : Option Expr} {p pos : Pos}
  (h : wpAny (model B.prog B.w) A (eval value env) (fun o s₁ => wpAny (model B.prog B.w) A (evalPart lower env) (fun vl s₂ => wpAny (model B.prog B.w) A (evalPart upper env) (fun vu s₃ => slcQ Q o vl vu s₃) E s₂) E s₁) E s) :
  wpAny (model B.prog B.w) A (eval (.Subscript value (.Slice lower upper none p) pos) env) Q E s := by
 refine Subscript_ (wpAny_mono h (fun o s₁ h₁ => wpAny_Slice (wpAny_mono h₁ (fun vl s₂ h₂ => wpAny_mono h₂ (fun vu s₃ h₃ => ?_) fun z z e => e) fun z z e => e)) fun z z e => e)
 obtain ⟨x, t, l, u, rfl, rfl, rfl, hQ⟩ := h₃
 rw [evalPart_none]
 exact wpAny_pure (tailG (typeIs_str _ x t) PySem.F.slot_str_getitem.lookup (wpAny_getItem_str_slice (l := l) (u := u) (st := none) ⟨_, Heap.get?_push_size _ rfl, rfl, rfl⟩ rfl hQ))
end
noncomputable def BoxO (o : Obj) (c : Int) : Prop := o.cls = .type "list" ∧ ∃ n t, o.data = .seq #[.int c t] n
theorem BoxO.list {h : Heap} {a : Addr} {o : Obj} {c : Int} (b : BoxO o c) (g : h.get? a = some o) : ∃ t, h.IsList a #[.int c t] := by
 obtain ⟨e, n, t, d⟩ := b
 exact ⟨t, o, g, e, n, d⟩
theorem BoxO.no {o : Obj} {c : Int} (b : BoxO o c) : ∀ vs, o.data = .fields vs → ∀ q t, vs[1]? ≠ some (.str q t) := fun vs e => by
 obtain ⟨_, n, t, d⟩ := b
 rw [d] at e; cases e
section
variable {Q E : Value → Shared → Prop} {env : Env}
theorem Fx.boxItem {a : Addr} {o : Obj} {c : Int} {t : Tok} (F : Fx B md s₀ st₀ st L own l s) (ho : (a, o) ∈ own) (hb : BoxO o c) (h : ∀ u, Q (.int c u) s) : ItemOn (model B.prog B.w) A E (.ref a) (.int 0 t) Q s := by
 obtain ⟨u, hL⟩ := hb.list (F.ow _ ho).1
 exact ⟨"list", _, PySem.F.slot_list_getitem.lookup, hL.typeIs, wpAny_getItem_list hL (by decide) (by decide) rfl (h u)⟩
theorem Fx.boxSet {a : Addr} {o : Obj} {c d : Int} {t u : Tok} {Q : Unit → Shared → Prop} (F : Fx B md s₀ st₀ st L ((a, o) :: own) l s) (hb : BoxO o c) (h : ∀ o' s', BoxO o' d → Fx B md s₀ st₀ st L ((a, o') :: own) l s' → Q () s') : wpAny (model B.prog B.w) A (setItem (.ref a) (.int 0 t) (.int d u)) Q E s := by
 obtain ⟨u', hL⟩ := hb.list (F.ow _ (.head _)).1
 refine wpAny_setItem_list hL (by decide) (by decide) (show (0 : Int) < ((1 : Nat) : Int) by decide) fun h' hl hs => ?_
 obtain ⟨o', g', c', n', d'⟩ := hl
 exact h o' _ ⟨c', n', u, d'⟩ (F.changeI (t := s.toks) hb.no hs g')
theorem Fx.modI {a b : Int} {t u : Tok} (F : Fx B md s₀ st₀ st L own l s) (hb : b ≠ 0) (h : ∀ t s', Fx B md s₀ st₀ st L own l s' → Q (.int (a.fmod b) t) s') : wpAny (model B.prog B.w) A (binaryOp .Mod (.int a t) (.int b u)) Q E s := PyProof.Rows.mod_int hb (h _ _ F.toks)
theorem Fx.divI {a b : Int} {t u : Tok} (F : Fx B md s₀ st₀ st L own l s) (hb : b ≠ 0) (hz : b.natAbs < 1073741824) (h : ∀ t s', Fx B md s₀ st₀ st L own l s' → Q (.int (a.fdiv b) t) s') : wpAny (model B.prog B.w) A (binaryOp .FloorDiv (.int a t) (.int b u)) Q E s := PyProof.Rows.floordiv_int hb (h _ _ F.toks) (.inl (PyProof.noPylong_small hz))
theorem Fx.addI {a b : Int} {t u : Tok} (F : Fx B md s₀ st₀ st L own l s) (h : ∀ t s', Fx B md s₀ st₀ st L own l s' → Q (.int (a + b) t) s') : wpAny (model B.prog B.w) A (binaryOp .Add (.int a t) (.int b u)) Q E s := PyProof.Rows.add_int (h _ _ F.toks)
theorem Fx.subI {a b : Int} {t u : Tok} (F : Fx B md s₀ st₀ st L own l s) (h : ∀ t s', Fx B md s₀ st₀ st L own l s' → Q (.int (a - b) t) s') : wpAny (model B.prog B.w) A (binaryOp .Sub (.int a t) (.int b u)) Q E s := PyProof.Rows.sub_int (h _ _ F.toks)
theorem Fx.mulI {a b : Int} {t u : Tok} (F : Fx B md s₀ st₀ st L own l s) (hm : IntMulOk a b) (h : ∀ t s', Fx B md s₀ st₀ st L own l s' → Q (.int (a * b) t) s') : wpAny (model B.prog B.w) A (binaryOp .Mult (.int a t) (.int b u)) Q E s := PySem.P.mul_int (h _ _ F.toks) hm
theorem Fx.ltI {a b : Int} {t u : Tok} (_F : Fx B md s₀ st₀ st L own l s) (h : Q (.bool (decide (a < b))) s) : wpAny (model B.prog B.w) A (compareOp .Lt (.int a t) (.int b u)) Q E s := PyProof.Rows.lt_int h
theorem Fx.eqI {a b : Int} {t u : Tok} (_F : Fx B md s₀ st₀ st L own l s) (h : Q (.bool (a == b)) s) : wpAny (model B.prog B.w) A (compareOp .Eq (.int a t) (.int b u)) Q E s := PyProof.Rows.eq_int h
end
theorem Fx.addL {a b : Addr} {vs ws : List Value} {Q E : Value → Shared → Prop} (F : Fx B md s₀ st₀ st L own l s) (ha : LA st own a vs) (hb : LA st own b ws) (hsz : vs.length + ws.length ≤ 200000)
  (h : ∀ c st' s', St.le st st' → Lst st' c (vs ++ ws) → Fx B md s₀ st₀ st' L own l s' → Q (.ref c) s') : wpAny (model B.prog B.w) A (binaryOp .Add (.ref a) (.ref b)) Q E s := by
 obtain ⟨n1, e1⟩ := ha.get F
 obtain ⟨n2, e2⟩ := hb.get F
 have e : vs.toArray ++ ws.toArray = (vs ++ ws).toArray := by simp
 refine concat_meets ⟨_, e1, rfl⟩ ⟨_, e2, rfl⟩ noFill_list_add seq_list_add PySem.F.slot_list_add PySem.F.entry_list_add (PySem.F.args_list_add_2 _ _) (list_addW a b vs.toArray ws.toArray n1 n2 none none #[] #[] (by rw [sizeLine_eq]; simp; o_head qo)) ⟨e1, e2, ?_⟩
 rw [e]
 obtain ⟨le, F'⟩ := F.pushS (o := lstO (vs ++ ws) 0) (t := s.toks) rfl
 exact h _ _ _ le ⟨0, St.put_self⟩ F'
theorem pow2_ok {k : Int} (h0 : 0 ≤ k) (hk : k ≤ 20) : ¬ Builtin.Int.intTooBig (((Builtin.Int.intBits 2 : Nat) : Int) * k) = true := by
 have e : ((Builtin.Int.intBits 2 : Nat) : Int) = 2 := by decide +kernel
 rw [e]
 unfold Builtin.Int.intTooBig
 have e2 : (40 : Int) ≤ bitsLine := by decide +kernel
 simp only [gt_iff_lt, decide_eq_true_eq]
 o_head qo
theorem Fx.pow2 {k : Int} {t u : Tok} {Q E : Value → Shared → Prop} (F : Fx B md s₀ st₀ st L own l s) (h0 : 0 ≤ k) (hk : k ≤ 20) (h : ∀ t s', Fx B md s₀ st₀ st L own l s' → Q (.int (2 ^ k.toNat) t) s') : wpAny (model B.prog B.w) A (binaryOp .Pow (.int 2 t) (.int k u)) Q E s := by
 by_cases q : (k == 0) = true
 ·have : k = 0 := by simpa using q
  subst this
  exact PySem.AutoIntOps.pow_0 (Int.le_refl _) rfl (h _ _ F.toks)
 ·exact PySem.AutoIntOps.pow_4 h0 q (by decide) (by decide) (pow2_ok h0 hk) (h _ _ F.toks)
theorem pow2_pos {k : Int} (hk : k ≤ 20) : (2 : Int) ^ k.toNat ≠ 0 ∧ ((2 : Int) ^ k.toNat).natAbs < 1073741824 := by
 have h1 : (2 : Int) ^ k.toNat = ((2 ^ k.toNat : Nat) : Int) := by push_cast; rfl
 have h2 : (2 : Nat) ^ k.toNat ≤ 2 ^ 20 := Nat.pow_le_pow_right (by decide) (by o_head qo)
 have h3 : 0 < (2 : Nat) ^ k.toNat := Nat.pow_pos (by decide)
 rw [h1]
 constructor
 ·o_head qo
 ·rw [Int.natAbs_natCast]; o_head qo
noncomputable def DicS (B : Bs) (st : St) (a : Addr) (kvs : List (Str × Value)) : Prop := ∃ o, st a = some o ∧ o.IsDictOf (strKind B.prog B.w) kvs ∧ (a == sysModules) = false
theorem DicS.mono {st' : St} {a : Addr} {kvs : List (Str × Value)} (h : DicS B st a kvs) (k : St.le st st') : DicS B st' a kvs := by
 obtain ⟨o, e, r⟩ := h
 exact ⟨o, k _ _ e, r⟩
theorem DicS.heap {a : Addr} {kvs : List (Str × Value)} (h : DicS B st a kvs) (F : Fx B md s₀ st₀ st L own l s) : s.heap.DictOf (strKind B.prog B.w) a kvs := by
 obtain ⟨o, e, d, _⟩ := h
 exact Heap.dictOf_iff.mpr ⟨o, F.le _ _ e, d⟩
section
variable {Q E : Value → Shared → Prop}
theorem Fx.dicItem {a : Addr} {kvs : List (Str × Value)} {x : Str} {t : Tok} {v : Value} (F : Fx B md s₀ st₀ st L own l s) (D : DicS B st a kvs) (hv : valueAt kvs x = some v) (h : ∀ s', Fx B md s₀ st₀ st L own l s' → Q v s') : ItemOn (model B.prog B.w) A E (.ref a) (.str x t) Q s :=
 ⟨"dict", _, slot_dict_getitem.lookup, (D.heap F).typeIs, wpAny_getItem_of (strKind_is _ _ _ _) (D.heap F).mapOf hv (h _ F.toks)⟩
theorem isd_data {o : Obj} {kvs : List (Str × Value)} (h : o.IsDictOf (strKind B.prog B.w) kvs) : ∀ vs, o.data ≠ .fields vs := fun vs e => by
 obtain ⟨es, ep, _, d, _⟩ := h
 rw [d] at e; cases e
theorem Fx.dicOf {a : Addr} {kvs : List (Str × Value)} (F : Fx B md s₀ st₀ st L own l s) (D : DicS B st a kvs) (hsz : kvs.length ≤ 200000) (h : ∀ d o s', o.IsDictOf (strKind B.prog B.w) kvs → s₀.heap.objs.size ≤ d → Fx B md s₀ st₀ st L ((d, o) :: own) l s' → Q (.ref d) s') :
  wpAny (model B.prog B.w) A (PySem.call (.type "dict") [.ref a]) Q E s := by
 refine kt_call_dict (knd := strKind B.prog B.w) D.choose_spec.2.2 (D.heap F) (by rw [sizeLine_eq]; o_head qo) fun h' hd hs => ?_
 obtain ⟨o', ho', hd'⟩ := Heap.dictOf_iff.mp hd
 exact h _ o' _ hd' F.ext.2 ((F.pushO (o := { cls := .type "dict", data := .dict #[] }) (t := s.toks) rfl).change (t := s.toks) (fun z e => nomatch e) hs ho')
theorem Fx.dicSet {d : Addr} {o : Obj} {kvs : List (Str × Value)} {x : Str} {t : Tok} {v : Value} {Q : Unit → Shared → Prop} (F : Fx B md s₀ st₀ st L ((d, o) :: own) l s) (hd : o.IsDictOf (strKind B.prog B.w) kvs) (hsz : kvs.length ≤ 200000)
  (h : ∀ o' s', o'.IsDictOf (strKind B.prog B.w) (stored kvs x v) → Fx B md s₀ st₀ st L ((d, o') :: own) l s' → Q () s') : wpAny (model B.prog B.w) A (setItem (.ref d) (.str x t) v) Q E s := by
 refine wpAny_setItem_pairs (strKind_is _ _ _ _) (Heap.dictOf_iff.mpr ⟨o, (F.ow _ (.head _)).1, hd⟩) (fun h' hm hs => ?_) (by rw [sizeLine_eq]; o_head qo)
 obtain ⟨o', ho', hd'⟩ := Heap.dictOf_iff.mp hm
 exact h o' _ hd' (F.change (isd_data hd) hs ho')
theorem Fx.dicS {d : Addr} {o : Obj} {kvs : List (Str × Value)} (F : Fx B md s₀ st₀ st L ((d, o) :: own) l s) (hd : o.IsDictOf (strKind B.prog B.w) kvs) : DicS B (st.put d o) d kvs :=
 ⟨o, St.put_self, hd, beq_eq_false_iff_ne.mpr fun e => by
  have h1 := (F.ow _ (.head _)).2.2.2.2
  have h2 := F.ok.size
  have h3 : (sysModules : Nat) < 1214 := by decide +kernel
  dsimp only at h1
  rw [e] at h1
  exact absurd (Nat.lt_of_lt_of_le h3 (Nat.le_trans h2 h1)) (Nat.lt_irrefl _)⟩
end
theorem stored_len (kvs : List (Str × Value)) (k : Str) (v : Value) : (stored kvs k v).length ≤ kvs.length + 1 := stored_length_le kvs k v
set_option tactic.hygienic true in
theorem valueAt_stored (kvs : List (Str × Value)) (k : Str) (v : Value) (x : Str) : valueAt (stored kvs k v) x = if x = k then some v else valueAt kvs x := by
 unfold stored
 split
 ·rename_i h
  unfold valueAt
  induction kvs with
  | nil => simp at h
  | cons kv r ih =>
   rw [List.map_cons, List.find?_cons, List.find?_cons]
   by_cases q : kv.1 = k
   ·rw [if_pos q]
    by_cases qx : x = k
    ·have e1 : (decide (kv.1 = x)) = true := decide_eq_true (q.trans qx.symm)
     rw [if_pos qx]
     simp only [e1, Option.map_some]
    ·have e1 : (decide (k = x)) = false := decide_eq_false (Ne.symm qx)
     have e2 : (decide (kv.1 = x)) = false := by rw [q]; exact e1
     rw [if_neg qx]
     simp only [e1, e2]
     by_cases hr : (r.any fun kv => decide (kv.1 = k)) = true
     ·have := ih hr
      rw [if_neg qx] at this
      exact this
     ·have : (r.map fun kv => if kv.1 = k then (kv.1, v) else kv) = r := by
       conv => rhs; rw [← List.map_id r]
       refine List.map_congr_left fun y hy => ?_
       rw [if_neg (fun hk => hr (List.any_eq_true.mpr ⟨y, hy, by simpa using hk⟩))]; rfl
      rw [this]
   ·rw [if_neg q]
    have hr : (r.any fun kv => decide (kv.1 = k)) = true := by simpa [q] using h
    cases qx : decide (kv.1 = x) with
    | true =>
     have : kv.1 = x := of_decide_eq_true qx
     simp only
     rw [if_neg (fun e => q (this.trans e))]
    | false => exact ih hr
 ·rename_i h
  unfold valueAt
  rw [List.find?_append]
  by_cases qx : x = k
  ·rw [if_pos qx]
   have : (kvs.find? fun kv => decide (kv.1 = x)) = none := List.find?_eq_none.mpr fun y hy hk => h (List.any_eq_true.mpr ⟨y, hy, by rw [← qx]; exact hk⟩)
   rw [this, qx]; simp
  ·rw [if_neg qx]
   have : ([(k, v)] : List (Str × Value)).find? (fun kv => decide (kv.1 = x)) = none := by simp [Ne.symm qx]
   rw [this, Option.or_none]
noncomputable def bitI (b : Bool) : Int := if b then 1 else 0
noncomputable def wbit (world k : Int) : Int := (world.fdiv (2 ^ k.toNat)).fmod 2
theorem wbit_01 (world k : Int) : wbit world k = 0 ∨ wbit world k = 1 := by
 unfold wbit
 have h1 := Int.fmod_nonneg_of_pos (world.fdiv (2 ^ k.toNat)) (b := 2) (by decide)
 have h2 := Int.fmod_lt_of_pos (world.fdiv (2 ^ k.toNat)) (b := 2) (by decide)
 o_head qo
theorem wbit_bit (world k : Int) : wbit world k = bitI (wbit world k == 1) := by
 rcases wbit_01 world k with h | h <;> rw [h] <;> rfl
noncomputable def wdOf (world : Int) : Wd where
 dog b := wbit world (bitI b) == 1
 sees x y := wbit world (2 + 2 * bitI x + bitI y) == 1
 mother b := wbit world (6 + bitI b) == 1
 rex := wbit world 8 == 1
theorem bitI_01 (b : Bool) : 0 ≤ bitI b ∧ bitI b ≤ 1 := by cases b <;> decide
theorem bitI_eq (x y : Bool) : (bitI x == bitI y) = (x == y) := by cases x <;> cases y <;> rfl
noncomputable def PlaceAt (B : Bs) (st : St) (a : Addr) (p : Pl) (m : Nat) : Prop := ∃ kvs, DicS B st a kvs ∧ kvs.length ≤ m ∧ ∀ n b, p n = some b → ∃ t, valueAt kvs n.str = some (.int (bitI b) t)
theorem PlaceAt.mono {st' : St} {a : Addr} {p : Pl} {m : Nat} (h : PlaceAt B st a p m) (k : St.le st st') : PlaceAt B st' a p m := by
 obtain ⟨kvs, D, r⟩ := h
 exact ⟨kvs, D.mono k, r⟩
theorem Nm.str_inj {a b : Nm} (h : a.str = b.str) : a = b := by
 have := Nm.str_beq a b
 rw [h, beq_self_eq_true] at this
 exact (beq_iff_eq.mp this.symm)
set_option tactic.hygienic true in
theorem place_put {kvs : List (Str × Value)} {p : Pl} {n : Nm} {b : Bool} {t : Tok} (h : ∀ n b, p n = some b → ∃ t, valueAt kvs n.str = some (.int (bitI b) t)) :
  ∀ m c, (p.put n b) m = some c → ∃ u, valueAt (stored kvs n.str (.int (bitI b) t)) m.str = some (.int (bitI c) u) := fun m c hc => by
 rw [valueAt_stored]
 unfold Pl.put at hc
 split at hc
 ·rename_i q
  cases hc
  exact ⟨t, if_pos (by rw [q])⟩
 ·rename_i q
  obtain ⟨u, hu⟩ := h m c hc
  exact ⟨u, by rw [if_neg (fun e => q (Nm.str_inj e)), hu]⟩
section
variable {Q E : Value → Shared → Prop}
theorem Fx.placeItem {a : Addr} {p : Pl} {m : Nat} {n : Nm} {b : Bool} {t : Tok} (F : Fx B md s₀ st₀ st L own l s) (P : PlaceAt B st a p m) (hp : p n = some b) (h : ∀ t s', Fx B md s₀ st₀ st L own l s' → Q (.int (bitI b) t) s') : ItemOn (model B.prog B.w) A E (.ref a) (.str n.str t) Q s := by
 obtain ⟨kvs, D, _, hk⟩ := P
 obtain ⟨u, hu⟩ := hk n b hp
 exact F.dicItem D hu (h u)
theorem Fx.wdiv {world k : Int} {t u : Tok} (F : Fx B md s₀ st₀ st L own l s) (hk : k ≤ 20) (h : ∀ t s', Fx B md s₀ st₀ st L own l s' → Q (.int (world.fdiv (2 ^ k.toNat)) t) s') : wpAny (model B.prog B.w) A (binaryOp .FloorDiv (.int world t) (.int (2 ^ k.toNat) u)) Q E s :=
 F.divI (pow2_pos hk).1 (pow2_pos hk).2 h
theorem Fx.wmod {world k : Int} {t u : Tok} (F : Fx B md s₀ st₀ st L own l s) (h : ∀ t s', Fx B md s₀ st₀ st L own l s' → Q (.int (wbit world k) t) s') : wpAny (model B.prog B.w) A (binaryOp .Mod (.int (world.fdiv (2 ^ k.toNat)) t) (.int 2 u)) Q E s :=
 F.modI (by decide) h
end
noncomputable def IterR (o : Obj) (i n : Nat) : Prop := o = { cls := .type "range_iterator", dict := none, data := .fields #[rawInt i, rawInt ((n : Int) - i), rawInt 1], slots := #[] }
theorem IterR.no {o : Obj} {i n : Nat} (h : IterR o i n) : ∀ vs, o.data = .fields vs → ∀ q t, vs[1]? ≠ some (.str q t) := fun vs e q t k => by
 rw [h] at e
 cases e
 simp [rawInt] at k
theorem next_endR {prog : Program} {w : World} {it : Addr} {i n : Nat} {Q : Option Value → Shared → Prop} {E : Value → Shared → Prop} (hh : A.handled = none) (g : IsRangeIter s.heap it i ((n : Int) - i) 1) (hx : n ≤ i)
  (hQ : ∀ h', Heap.ExtBut it s.heap h' → s.heap.objs.size ≤ h'.objs.size → Q none { s with heap := h' }) : wpAny (model prog w) A (pyNext (.ref it)) Q E s := by
 have T : s.TypeIs (.ref it) "range_iterator" := ⟨_, g, rfl⟩
 unfold pyNext
 refine wpAny_bind (wpAny_attempt (wpAny_callSpecial?_slot (name := Str.ofString "__next__") T PySem.F.slot_range_iterator_next (wpAny_call_entry PySem.F.slot_range_iterator_next T PySem.F.entry_range_iterator_next ?_ (PySem.F.args_range_iterator_next_1 _))))
 show wpAny _ _ (field (.ref it) 0 >>= _) _ _ s
 refine wpAny_bind (wpAny_field g rfl (x := rawInt i) rfl ?_)
 show wpAny _ _ (field (.ref it) 1 >>= _) _ _ s
 refine wpAny_bind (wpAny_field g rfl (x := rawInt ((n : Int) - i)) rfl ?_)
 show wpAny _ _ (field (.ref it) 2 >>= _) _ _ s
 refine wpAny_bind (wpAny_field g rfl (x := rawInt 1) rfl ?_)
 show wpAny _ _ (if ((n : Int) - i) ≤ 0 then _ else _) _ _ s
 rw [if_pos (by o_head qo)]
 refine wpAny_bind (wpAny_rule ?_)
 refine wpAny_bind ?_
 show wpAny _ _ (newExc (.type "StopIteration") [] >>= _) _ _ _
 refine wpAny_bind ?_
 simp only [newExc, newTuple]
 refine wpAny_bind (wpAny_newObj_type ?_ (by size_fits))
 refine wpAny_bind (m := firstArgMember _ _) (wpAny_of_eq (a := Value.none) (by first | rfl | (simp only [firstArgMember]; rfl)) ?_)
 refine wpAny_newObj_type ?_ (by size_fits)
 dsimp only [raiseNew]
 refine wpAny_bind (wpAny_handled ?_)
 rw [show A.in1.handled = none from hh]
 refine wpAny_bind (wpAny_pure (wpAny_throw ?_))
 refine wpAny_bind (wpAny_isInstance (T := "StopIteration") (b := true) ⟨_, Heap.get?_push_size _ rfl, rfl⟩ isSubtype_stop ?_)
 refine wpAny_pure (hQ _ (((Heap.ExtBut.refl it s.heap).push _).push _) ?_)
 rw [Heap.size_push, Heap.size_push]
 exact Nat.le_trans (Nat.le_succ _) (Nat.le_succ _)
theorem Fx.rangeN {n : Int} {t : Tok} {Q E : Value → Shared → Prop} (F : Fx B md s₀ st₀ st L own l s) (h : ∀ r t u v s', IsRange s'.heap r 0 n 1 t u v → Fx B md s₀ st₀ st L own l s' → Q (.ref r) s') :
  wpAny (model B.prog B.w) A (PySem.call (.type "range") [.int n t]) Q E s :=
 call_range_1 (h _ _ _ _ _ (Heap.get?_push_size _ rfl) (F.push _ _))
theorem Fx.forR {Q : Flow → Shared → Prop} {E : Value → Shared → Prop} {r : Addr} {n : Nat} {t u v : Tok} {target : Expr} {body : List Stmt} {env : Env} (J : Nat → St → List (Addr × Obj) → List (Str × Value) → Prop)
  (F : Fx B md s₀ st₀ st L own l s) (hr : IsRange s.heap r 0 n 1 t u v) (hn : n ≤ 1000) (hh : A.handled = none) (h0 : J 0 st own l)
  (turn : ∀ i tk st' it o own' l' s' E', i < n → St.le st st' → J i st' own' l' → Fx B md s₀ st₀ st' L ((it, o) :: own') l' s' →
   wpAny (model B.prog B.w) A (assign target env (.int i tk)) (fun z s₂ => wpAny (model B.prog B.w) A (execs body env) (turnQ (fun s₃ => ∃ st'' own'' l'', St.le st' st'' ∧ J (i + 1) st'' own'' l'' ∧ Fx B md s₀ st₀ st'' L ((it, o) :: own'') l'' s₃) Q) E' s₂) E' s')
  (done : ∀ st' own' l' s', St.le st st' → J n st' own' l' → Fx B md s₀ st₀ st' L own' l' s' → Q .next s')
  (ht : autoParam (∀ it v, letOwnedTupleGo target it v = pure ()) Mine.tI) :
  wpAny (model B.prog B.w) A (pyIter (.ref r)) (fun it s₂ => codeAny (model B.prog B.w) A (.forLoop target it body [] env) (fun r s' => match r with | .ok f => Q f s' | .error e => cameBackBy (model B.prog B.w) A env E e s') s₂) E s := by
 have hsz : Builtin.Range.rangeSize 0 (n : Int) 1 = (n : Int) := by rw [rangeSize_one]; split <;> o_head qo
 refine wpAny_pyIter_range hr (small_one (by decide) (by decide) (by o_head qo) (by o_head qo)) ?_
 rw [hsz]
 have F0 := F.pushO (o := { cls := .type "range_iterator", data := .fields #[rawInt 0, rawInt (n : Int), rawInt 1] }) (t := s.toks) rfl
 generalize s.heap.objs.size = it at F0
 refine codeAny_forLoop (fun k s => ∃ i st' o own' l', k + i = n ∧ St.le st st' ∧ J i st' own' l' ∧ IterR o i n ∧ Fx B md s₀ st₀ st' L ((it, o) :: own') l' s) ?_ n ⟨0, st, _, own, l, rfl, St.le.refl _, h0, by unfold IterR; simp, F0⟩ (ht _)
 rintro k s' ⟨i, st', o, own', l', hk, le, hJ, hi, F⟩
 have g := (F.ow _ (.head _)).1
 dsimp only at g
 rw [hi] at g
 by_cases hx : i < n
 ·refine wpAny_pyNext_range_item g (Int.sub_pos_of_lt (Int.ofNat_lt.mpr hx)) fun h' hit hs => ?_
  have F' := F.changeI (t := s'.toks + 1) hi.no hs hit
  have e : (⟨Value.type "range_iterator", none, .fields #[rawInt ((i : Int) + 1), rawInt ((n : Int) - i - 1), rawInt 1], #[]⟩ : Obj) = ⟨Value.type "range_iterator", none, .fields #[rawInt ((i + 1 : Nat) : Int), rawInt ((n : Int) - (i + 1 : Nat)), rawInt 1], #[]⟩ := by
   have e1 : (i : Int) + 1 = ((i + 1 : Nat) : Int) := by push_cast; rfl
   have e2 : (n : Int) - i - 1 = (n : Int) - (i + 1 : Nat) := by push_cast; o_head qo
   rw [e1, e2]
  rw [e] at F'
  refine wpAny_mono (turn i _ st' it _ own' l' _ _ hx le hJ F') (fun z s₃ q => wpAny_mono q (fun f s₄ q => ?_) fun z z e => e) fun z z e => e
  have fin : (∃ st'' own'' l'', St.le st' st'' ∧ J (i + 1) st'' own'' l'' ∧ Fx B md s₀ st₀ st'' L ((it, ⟨Value.type "range_iterator", none, .fields #[rawInt ((i + 1 : Nat) : Int), rawInt ((n : Int) - (i + 1 : Nat)), rawInt 1], #[]⟩) :: own'') l'' s₄) → ∃ m, m < k ∧ ∃ i st' o own' l', m + i = n ∧ St.le st st' ∧ J i st' own' l' ∧ IterR o i n ∧ Fx B md s₀ st₀ st' L ((it, o) :: own') l' s₄ := by
   rintro ⟨st'', own'', l'', le', hJ', F'⟩
   exact ⟨k - 1, (dn hk hx).1, i + 1, st'', _, own'', l'', (dn hk hx).2, le.trans le', hJ', rfl, F'⟩
  cases f with
  | next => exact fin q
  | cont => exact fin q
  | brk => exact q
  | ret v => exact q
 ·refine next_endR hh g (Nat.le_of_not_lt hx) fun h' hs hz => ?_
  refine wpAny_execs_nil (done _ _ _ _ le ?_ (F.grown (t := s'.toks) hi.no hs hz))
  have : i = n := dz hk (Nat.le_of_not_lt hx)
  rwa [← this]
noncomputable def bools (bs : List Bool) : List Value := bs.map .bool
theorem Fx.allLoop {R : Result → Shared → Prop} {a it : Addr} {bs : List Bool} (hh : A.handled = none) (k : Nat) : ∀ (i : Nat) (o : Obj) (s : Shared), i + k = bs.length → IterO o a i → LA st own a (bools bs) → Fx B md s₀ st₀ st L ((it, o) :: own) l s →
  (∀ s', Fx B md s₀ st₀ st L own l s' → R (.ok (.ret (.bool ((bs.drop i).all id)))) s') → codeAny (model B.prog B.w) A (.builtin "all.loop" ⟨[.ref it], []⟩) R s := by
 induction k with
 | zero =>
  intro i o s hk hi hl F h
  refine codeAny_builtin PySem.F.entry_all_loop ?_
  rw [Around.under_plainId PySem.F.plain_all_loop _]
  show wpAny _ A.in1 (pyNext (.ref it) >>= _) _ _ s
  have hd : bs.drop i = [] := List.drop_eq_nil_of_le (Nat.le_of_eq hk.symm)
  refine wpAny_bind (Fx.nextEnd F hh hi hl (List.getElem?_eq_none (Nat.le_of_eq ((List.length_map ..).trans hk.symm))) fun s' F' => ?_)
  have := h s' F'
  rw [hd] at this
  exact wpAny_bind (wpAny_rule (wpAny_pure this))
 | succ k ih =>
  intro i o s hk hi hl F h
  refine codeAny_builtin PySem.F.entry_all_loop ?_
  rw [Around.under_plainId PySem.F.plain_all_loop _]
  show wpAny _ A.in1 (pyNext (.ref it) >>= _) _ _ s
  have hlt : i < bs.length := hk ▸ Nat.lt_add_of_pos_right (Nat.succ_pos k)
  have hd : bs.drop i = bs[i] :: bs.drop (i + 1) := List.drop_eq_getElem_cons hlt
  refine wpAny_bind (Fx.nextItem F hi hl (x := .bool bs[i]) (by rw [bools, List.getElem?_map, List.getElem?_eq_getElem hlt]; rfl) fun o' s' hi' F' => ?_)
  refine wpAny_bind (wpAny_holding (wpAny_truthy_bool ?_))
  refine wpAny_bind (wpAny_letGo ?_)
  cases hb : bs[i] with
  | true =>
   simp only [if_true]
   refine wpAny_pure ⟨plainId_quiet PySem.F.plain_all_loop _, ih (i + 1) o' _ ((Nat.succ_add_eq_add_succ i k).trans hk) hi' hl F' fun s'' F'' => ?_⟩
   have := h s'' F''
   rwa [hd, List.all_cons, hb, id, Bool.true_and] at this
  | false =>
   simp only [Bool.false_eq_true, if_false]
   have := h _ (F'.drop (List.sublist_cons_self _ _))
   rw [hd, List.all_cons, hb, id, Bool.false_and] at this
   exact wpAny_bind (wpAny_rule (wpAny_pure this))
theorem Fx.anyLoop {R : Result → Shared → Prop} {a it : Addr} {bs : List Bool} (hh : A.handled = none) (k : Nat) : ∀ (i : Nat) (o : Obj) (s : Shared), i + k = bs.length → IterO o a i → LA st own a (bools bs) → Fx B md s₀ st₀ st L ((it, o) :: own) l s →
  (∀ s', Fx B md s₀ st₀ st L own l s' → R (.ok (.ret (.bool ((bs.drop i).any id)))) s') → codeAny (model B.prog B.w) A (.builtin "any.loop" ⟨[.ref it], []⟩) R s := by
 induction k with
 | zero =>
  intro i o s hk hi hl F h
  refine codeAny_builtin PySem.F.entry_any_loop ?_
  rw [Around.under_plainId PySem.F.plain_any_loop _]
  show wpAny _ A.in1 (pyNext (.ref it) >>= _) _ _ s
  have hd : bs.drop i = [] := List.drop_eq_nil_of_le (Nat.le_of_eq hk.symm)
  refine wpAny_bind (Fx.nextEnd F hh hi hl (List.getElem?_eq_none (Nat.le_of_eq ((List.length_map ..).trans hk.symm))) fun s' F' => ?_)
  have := h s' F'
  rw [hd] at this
  exact wpAny_bind (wpAny_rule (wpAny_pure this))
 | succ k ih =>
  intro i o s hk hi hl F h
  refine codeAny_builtin PySem.F.entry_any_loop ?_
  rw [Around.under_plainId PySem.F.plain_any_loop _]
  show wpAny _ A.in1 (pyNext (.ref it) >>= _) _ _ s
  have hlt : i < bs.length := hk ▸ Nat.lt_add_of_pos_right (Nat.succ_pos k)
  have hd : bs.drop i = bs[i] :: bs.drop (i + 1) := List.drop_eq_getElem_cons hlt
  refine wpAny_bind (Fx.nextItem F hi hl (x := .bool bs[i]) (by rw [bools, List.getElem?_map, List.getElem?_eq_getElem hlt]; rfl) fun o' s' hi' F' => ?_)
  refine wpAny_bind (wpAny_holding (wpAny_truthy_bool ?_))
  refine wpAny_bind (wpAny_letGo ?_)
  cases hb : bs[i] with
  | false =>
   simp only [Bool.false_eq_true, if_false]
   refine wpAny_pure ⟨plainId_quiet PySem.F.plain_any_loop _, ih (i + 1) o' _ ((Nat.succ_add_eq_add_succ i k).trans hk) hi' hl F' fun s'' F'' => ?_⟩
   have := h s'' F''
   rwa [hd, List.any_cons, hb, id, Bool.false_or] at this
  | true =>
   simp only [if_true]
   have := h _ (F'.drop (List.sublist_cons_self _ _))
   rw [hd, List.any_cons, hb, id, Bool.true_or] at this
   exact wpAny_bind (wpAny_rule (wpAny_pure this))
theorem Fx.callAll {Q E : Value → Shared → Prop} {a : Addr} {bs : List Bool} (F : Fx B md s₀ st₀ st L own l s) (hh : A.handled = none) (hl : LA st own a (bools bs)) (h : ∀ s', Fx B md s₀ st₀ st L own l s' → Q (.bool (bs.all id)) s') :
  wpAny (model B.prog B.w) A (PySem.call (.builtin "all") [.ref a]) Q E s := by
 refine call_function_tree PySem.F.kind_all PySem.F.plain_all PySem.F.entry_all (PySem.F.args_all1 _) ?_
 unfold Builtin.«all»
 refine wpAny_bind (m := oneArg "all" _) (wpAny_pure ?_)
 refine wpAny_bind (F.pyIterL hl fun it o s' hi F' => ?_)
 exact wpAny_pure ⟨plainId_quiet PySem.F.plain_all_loop _, Fx.allLoop hh _ 0 o s' (Nat.zero_add _) hi hl F' fun s'' F'' => h s'' F''⟩
theorem Fx.callAny {Q E : Value → Shared → Prop} {a : Addr} {bs : List Bool} (F : Fx B md s₀ st₀ st L own l s) (hh : A.handled = none) (hl : LA st own a (bools bs)) (h : ∀ s', Fx B md s₀ st₀ st L own l s' → Q (.bool (bs.any id)) s') :
  wpAny (model B.prog B.w) A (PySem.call (.builtin "any") [.ref a]) Q E s := by
 refine call_function_tree PySem.F.kind_any PySem.F.plain_any PySem.F.entry_any (PySem.F.args_any1 _) ?_
 unfold Builtin.«any»
 refine wpAny_bind (m := oneArg "any" _) (wpAny_pure ?_)
 refine wpAny_bind (F.pyIterL hl fun it o s' hi F' => ?_)
 exact wpAny_pure ⟨plainId_quiet PySem.F.plain_any_loop _, Fx.anyLoop hh _ 0 o s' (Nat.zero_add _) hi hl F' fun s'' F'' => h s'' F''⟩
theorem callT {M : Model} {A : Around} {E : Value → Shared → Prop} {s : Shared} {env : Env} {Q : Value → Shared → Prop} {T : String} {pos : Pos} {e : Expr} {rest : List Expr} (hn : (e :: rest).all kdsPlain = true)
  (h : wpAny M A (spliced (backTo pos (starEach (e :: rest) env))) (fun vs s₁ => wpAny M A (PySem.call (.type T) vs) Q E s₁) E s) : wpAny M A (callWith pos (.type T) [] (backTo pos (starEach (e :: rest) env)) []) Q E s := by
 rw [List.all_cons, Bool.and_eq_true] at hn
 exact PyProof.Rows.callWith_type1 h (star_of hn.1) (plain_of hn.2)
theorem Fx.absI {c : Int} {t : Tok} {Q E : Value → Shared → Prop} (F : Fx B md s₀ st₀ st L own l s) (h : ∀ c t s', Fx B md s₀ st₀ st L own l s' → Q (.int c t) s') : wpAny (model B.prog B.w) A (PySem.call (.builtin "abs") [.int c t]) Q E s :=
 PyProof.Rows.call_abs_int fun u tk => h _ u _ F.toks
theorem Fx.lenLst {a : Addr} {vs : List Value} {Q E : Value → Shared → Prop} (F : Fx B md s₀ st₀ st L own l s) (hl : LA st own a vs) (hn : vs.length < 2 ^ 62) (h : ∀ t s', Fx B md s₀ st₀ st L own l s' → Q (.int vs.length t) s') : wpAny (model B.prog B.w) A (PySem.call (.builtin "len") [.ref a]) Q E s :=
 PyProof.Rows.len_list (hl.list F) (by simp; o_head qo) (by first | exact h _ _ F.toks | exact fun t => h _ _ F.toks | (simpa using h _ _ F.toks))
theorem ten12_ok : ¬ Builtin.Int.intTooBig (((Builtin.Int.intBits 10 : Nat) : Int) * 12) = true := by decide +kernel
theorem Fx.ten12 {t u : Tok} {Q E : Value → Shared → Prop} (F : Fx B md s₀ st₀ st L own l s) (h : ∀ t s', Fx B md s₀ st₀ st L own l s' → Q (.int 1000000000000 t) s') : wpAny (model B.prog B.w) A (binaryOp .Pow (.int 10 t) (.int 12 u)) Q E s :=
 PySem.AutoIntOps.pow_4 (by decide) (by decide) (by decide) (by decide) ten12_ok (h _ _ F.toks)
structure Frs (A : Around) (Ls : List Addr) (h : Heap) : Prop where
 ex : ∃ envs, A.frames = some envs ∧ ∀ env ∈ envs, env.scope.kind ≠ .module ∧ ∃ L ∈ Ls, env.frame = some L
 obj : ∀ L ∈ Ls, ∃ o es ep, h.get? L = some o ∧ o.data = .dict es ep
theorem Frs.fun' {h h' : Heap} {Ls : List Addr} : ∀ (envs : List Env), (∀ L ∈ Ls, ∃ o es ep, h.get? L = some o ∧ o.data = .dict es ep) → (∀ env ∈ envs, env.scope.kind ≠ .module ∧ ∃ L ∈ Ls, env.frame = some L) → h.FunFrames (hideAll h' Ls) envs
 | [], _, _ => trivial
 | env :: r, ho, he => by
  obtain ⟨hk, L, hL, hf⟩ := he env (.head _)
  obtain ⟨o, es, ep, e1, e2⟩ := ho L hL
  exact ⟨hk, ⟨L, o, hf, hideAll_none Ls hL, e1, fun vs q => by rw [e2] at q; cases q⟩, Frs.fun' r ho fun x hx => he x (.tail _ hx)⟩
theorem Frs.deeper {A : Around} {Ls : List Addr} {h h' : Heap} {env : Env} {L : Addr} {m : Str → Option Value} (F : Frs A Ls h) (hk : env.scope.kind ≠ .module) (hf : env.frame = some L) (hn : h'.Ns L m) (keep : ∀ b ∈ Ls, ∀ o, h.get? b = some o → h'.get? b = some o) : Frs (A.deeper env) (L :: Ls) h' := by
 obtain ⟨envs, e1, e2⟩ := F.ex
 refine ⟨⟨env :: envs, Around.frames_deeper e1, fun x hx => ?_⟩, fun b hb => ?_⟩
 ·rcases List.mem_cons.mp hx with rfl | hx
  ·exact ⟨hk, L, .head _, hf⟩
  ·obtain ⟨q1, b, hb, q2⟩ := e2 x hx
   exact ⟨q1, b, .tail _ hb, q2⟩
 ·rcases List.mem_cons.mp hb with rfl | hb
  ·obtain ⟨o, es, ep, g1, g2, _⟩ := hn
   exact ⟨o, es, ep, g1, g2⟩
  ·obtain ⟨o, es, ep, g1, g2⟩ := F.obj b hb
   exact ⟨o, es, ep, keep b hb o g1, g2⟩
theorem Frs.in1 {A : Around} {Ls : List Addr} {h : Heap} (F : Frs A Ls h) : Frs A.in1 Ls h := ⟨F.ex, F.obj⟩
theorem enterX {name qual : Str} {params : Arguments} {body : List Stmt} {scope : Scope} {dV kV doc pm cdv ct oc : Value} {an od : Option Addr} {osl : Array (Option Value)} {f : Addr} {args : List Value} {kw : List (Str × Value)} {binds : List (Str × Value)} {R₀ : Result → Shared → Prop} {d u : Nat}
  (H : At B st s) (hown : ∀ p ∈ own, s.heap.get? p.1 = some p.2 ∧ st p.1 = none ∧ p.1 ∈ md ∧ B.g.objs.size ≤ p.1) (hnd : (own.map (·.1)).Nodup) (R : Room A (d + 1) (u + 3))
  (ho : (hd.heap_39 B.w.params).lookup f = some ⟨oc, od, .func (fnOf name qual params body scope dV kV doc pm an cdv ct), osl⟩) (hcd : codeIn (hd.heap_39 B.w.params) cdv qual = true)
  (hbind : BindsTo s (fnOf name qual params body scope dV kV doc pm an cdv ct) ⟨args, kw⟩ binds) (hS : ScopeOk scope) {ps : List Str} (hps : binds.map (·.1) = ps) (hloc : ∀ y ∈ ps, (y, NameKind.local) ∈ scope.names) (hbn : ps.Nodup) (hcell : ∀ x ∈ scope.names, x.2 ≠ .cell)
  (hco : scope.isCoroutine = false) (hgen : scope.isGenerator = false)
  (h : ∀ L s₁ env, En env L scope.names [] qual cdv → env.frame = some L → Room (A.deeper env) d u → Fx B md s st st L own binds s₁ → (∀ b o, s.heap.get? b = some o → s₁.heap.get? b = some o) → s.heap.get? L = none →
   wpAny (model B.prog B.w) (A.deeper env) (execs body env) (fun fl s' => R₀ (.ok (.ret (match fl with | .ret v => v | _ => .none))) s') (fun e s' => wpAny (model B.prog B.w) (A.deeper env) (PySem.leaving env e) (fun z s'' => R₀ (.error e) s'') (fun e' s'' => R₀ (.error e') s'') s') s₁) :
  codeAny (model B.prog B.w) A (.call (.ref f) ⟨args, kw⟩) R₀ s := by
 have X := H.ok.X.keeps H.inv.base
 refine codeAny_call_def (fd := fnOf name qual params body scope dV kV doc pm an cdv ct) (body := body) (binds := binds) (by have := R.d; o_head qo) (X _ _ ho) rfl (H.ok.lim.keeps H.inv.base) (codeRec_of X hcd) rfl hbind hcell (fun y hy => hS.at (hloc y.1 (hps ▸ List.mem_map_of_mem (f := (·.1)) hy))) (fun h₁ hns hk₁ => ?_) hco hgen hS.kind
 have hsz : s.heap.objs.size < h₁.objs.size := by obtain ⟨o, _, _, e, _⟩ := hns; exact Heap.lt_size e
 have hLg : B.g.objs.size ≤ s.heap.objs.size := H.inv.size
 have hTTs : ∀ P ∈ TT, s.heap.objs.size ≠ P := fun P hP e => by have := TT_lt P hP; have := H.ok.size; o_head qo
 have F : Fx B md s st st s.heap.objs.size own binds { s with heap := h₁, toks := s.toks + binds.length } := by
  refine ⟨H.ok, ⟨fun b o e => hk₁ _ _ (H.inv.base _ _ e), H.inv.bare, fun x hx => ?_, Nat.le_trans H.inv.size (Nat.le_of_lt hsz)⟩, ⟨_, hns, fun p hp => lookup_mem (by rw [List.map_reverse]; rw [hps]; exact List.pairwise_reverse.mpr (hbn.imp Ne.symm)) (List.mem_reverse.mpr hp)⟩, fun b o e => hk₁ _ _ (H.le _ _ e), H.offT, ?_, Nat.le_refl _, fun p hp => ?_, hnd, ⟨fun b o z z e => hk₁ _ _ e, Nat.le_of_lt hsz⟩, fun b o e z => e, St.le.refl _, rfl, hLg⟩
  ·obtain ⟨ps, h1, h2, h3⟩ := (H.inv.tabs x hx).ex
   exact ⟨ps, hk₁ _ _ h1, h2, fun pos cv hc => (h3 pos cv hc).keeps hk₁⟩
  ·cases q : st s.heap.objs.size with
   | none => rfl
   | some o => exact absurd (Heap.lt_size (H.le _ _ q)) (Nat.lt_irrefl _)
  ·obtain ⟨h1, h2, h3, h4⟩ := hown p hp
   exact ⟨hk₁ _ _ h1, h2, Nat.ne_of_lt (Heap.lt_size h1), .inr h3, h4⟩
 exact h _ _ _ hS.en rfl R.deeper F hk₁ (Heap.get?_none_of_le (Nat.le_refl _))
noncomputable def SlEq : List (Addr × Obj) → List (Addr × Obj) → Prop
 | [], [] => True
 | p :: ps, q :: qs => p.1 = q.1 ∧ (∃ sl, q.2 = { p.2 with slots := sl }) ∧ SlEq ps qs
 | _, _ => False
theorem SlEq.refl : ∀ (fr : List (Addr × Obj)), SlEq fr fr
 | [] => trivial
 | p :: r => ⟨rfl, ⟨p.2.slots, rfl⟩, SlEq.refl r⟩
theorem SlEq.trans : ∀ {a b c : List (Addr × Obj)}, SlEq a b → SlEq b c → SlEq a c
 | [], [], [], _, _ => trivial
 | p :: _, q :: _, r :: _, ⟨h1, ⟨sl, h2⟩, h3⟩, ⟨k1, ⟨sl', k2⟩, k3⟩ => ⟨h1.trans k1, ⟨sl', by rw [k2, h2]⟩, h3.trans k3⟩
 | [], _ :: _, _, h, _ => h.elim
 | _ :: _, [], _, h, _ => h.elim
 | _ :: _, _ :: _, [], _, k => k.elim
 | [], [], _ :: _, _, k => k.elim
theorem SlEq.keys : ∀ {a b : List (Addr × Obj)}, SlEq a b → b.map (·.1) = a.map (·.1)
 | [], [], _ => rfl
 | p :: _, q :: _, ⟨h1, _, h3⟩ => by rw [List.map_cons, List.map_cons, h1, h3.keys]
 | [], _ :: _, h => h.elim
 | _ :: _, [], h => h.elim
theorem SlEq.data : ∀ {a b : List (Addr × Obj)}, SlEq a b → ∀ q ∈ b, ∃ p ∈ a, p.1 = q.1 ∧ q.2.data = p.2.data
 | p :: _, q :: _, ⟨h1, ⟨sl, h2⟩, h3⟩, x, hx => by
  rcases List.mem_cons.mp hx with rfl | hx
  ·exact ⟨p, .head _, h1, by rw [h2]⟩
  ·obtain ⟨y, hy, r⟩ := h3.data x hx
   exact ⟨y, .tail _ hy, r⟩
 | [], [], _, _, hx => nomatch hx
 | [], _ :: _, h, _, _ => h.elim
theorem SlEq.of {h' : Heap} : ∀ (fr : List (Addr × Obj)), (∀ p ∈ fr, ∃ sl, h'.get? p.1 = some { p.2 with slots := sl }) → ∃ fr', SlEq fr fr' ∧ ∀ q ∈ fr', h'.get? q.1 = some q.2
 | [], _ => ⟨[], trivial, fun z h => nomatch h⟩
 | p :: r, h => by
  obtain ⟨sl, e⟩ := h p (.head _)
  obtain ⟨r', h1, h2⟩ := SlEq.of r fun q hq => h q (.tail _ hq)
  refine ⟨(p.1, { p.2 with slots := sl }) :: r', ⟨rfl, ⟨sl, rfl⟩, h1⟩, fun q hq => ?_⟩
  rcases List.mem_cons.mp hq with rfl | hq
  ·exact e
  ·exact h2 q hq
theorem Fx.after {md' : List Addr} {s' : Shared} {own' : List (Addr × Obj)} (F : Fx B md s₀ st₀ st L own l s) (I : Inv B s') (X : Ext md' s.heap s'.heap) (hos : s'.os = s.os) (hmd : ∀ b ∈ md', b = L ∨ b ∈ own.map (·.1)) (hk : own'.map (·.1) = own.map (·.1)) (hown : ∀ p ∈ own', s'.heap.get? p.1 = some p.2) (hns : ∃ m, s'.heap.Ns L m ∧ ∀ p ∈ l, m p.1 = some p.2) :
  St.le st (grow st s.heap.objs.size s'.heap) ∧ Fx B md s₀ st₀ (grow st s.heap.objs.size s'.heap) L own' l s' := by
 have le : St.le st (grow st s.heap.objs.size s'.heap) := fun b o e => by
  unfold grow
  rw [if_pos (Heap.lt_size (F.le b o e))]; exact e
 have hT : ∀ b, b ∈ TT → b < s.heap.objs.size := fun b hb => Nat.lt_of_lt_of_le (Nat.lt_of_lt_of_le (TT_lt b hb) F.ok.size) F.inv.size
 have off : ∀ b ∈ md', st b = none ∧ (s₀.heap.objs.size ≤ b ∨ b ∈ md) := fun b hb => by
  rcases hmd b hb with rfl | hb
  ·exact ⟨F.offL, .inl F.hL⟩
  ·obtain ⟨p, hp, rfl⟩ := List.mem_map.mp hb
   exact ⟨(F.ow p hp).2.1, (F.ow p hp).2.2.2.1⟩
 refine ⟨le, F.ok, I, hns, ?_, ?_, ?_, F.hL, ?_, by rw [hk]; exact F.nodup, ?_, ?_, F.old.trans le, hos.trans F.os, F.gs⟩
 ·intro b o e
  unfold grow at e
  split at e
  ·exact X.1 _ _ (fun q => by rw [F.offT b q] at e; cases e) (fun q => by rw [(off b q).1] at e; cases e) (F.le b o e)
  ·exact e
 ·intro P hP
  unfold grow
  rw [if_pos (hT P hP)]; exact F.offT P hP
 ·unfold grow
  rw [if_pos F.ltL]; exact F.offL
 ·intro p hp
  have hp1 : p.1 ∈ own.map (·.1) := hk ▸ List.mem_map_of_mem hp
  obtain ⟨q, hq, e⟩ := List.mem_map.mp hp1
  obtain ⟨h1, h2, h3, h4, h5⟩ := F.ow q hq
  rw [e] at h1 h2 h3 h4 h5
  refine ⟨hown p hp, ?_, h3, h4, h5⟩
  unfold grow
  rw [if_pos (Heap.lt_size h1)]; exact h2
 ·refine ⟨fun b o h1 h2 e => ?_, Nat.le_trans F.ext.2 X.2⟩
  refine X.1 b o h1 (fun q => ?_) (F.ext.1 b o h1 h2 e)
  rcases (off b q).2 with g | g
  ·exact absurd (Heap.lt_size e) (Nat.not_lt.mpr g)
  ·exact h2 g
 ·intro b o e hb
  unfold grow at e
  rw [if_pos (Nat.lt_of_lt_of_le hb F.ext.2)] at e
  exact F.new b o e hb
structure Threw (B : Bs) (envs : List Env) (Ls : List Addr) (s : Shared) (e : Addr) (s₁ s' : Shared) : Prop where
 inv : Inv B s₁
 ext : Ext [] s.heap s₁.heap
 obj : ∀ b ∈ Ls, ∃ o es ep, s₁.heap.get? b = some o ∧ o.data = .dict es ep
 fly : ∃ a0, Heap.FlyingW (hideAll s₁.heap Ls) envs e (.type "KeyError") a0 s'.heap
 up : s₁.heap.UpToSlots s'.heap
 os : s'.os = s.os
 gens : s'.gens = s₁.gens
theorem Fx.threw {Ls : List Addr} {ow fr : List (Addr × Obj)} {s₁ s' : Shared} (F : Fx B md s₀ st₀ st L (ow ++ fr) l s) (I : Inv B s₁) (X : Ext [] s.heap s₁.heap) (hobj : ∀ b ∈ Ls, ∃ o es ep, s₁.heap.get? b = some o ∧ o.data = .dict es ep) (hLs : ∀ b ∈ Ls, b = L ∨ b ∈ fr.map (·.1) ∨ s.heap.objs.size ≤ b) (hfr : ∀ p ∈ fr, p.1 ∈ Ls)
  (hst : (hideAll s₁.heap Ls).StaysIn s'.heap) (hup : s₁.heap.UpToSlots s'.heap) (hos : s'.os = s.os) (hgens : s'.gens = s₁.gens) (how : ∀ p ∈ ow, p.1 ∉ Ls) :
  ∃ fr', SlEq fr fr' ∧ Fx B md s₀ st₀ st L (ow ++ fr') l s' := by
 have keep1 : ∀ b o, b ∉ TT → s.heap.get? b = some o → s₁.heap.get? b = some o := fun b o hb e => X.1 b o hb (fun h => nomatch h) e
 have keep : ∀ b o, b ∉ Ls → s₁.heap.get? b = some o → s'.heap.get? b = some o := fun b o hb e => hst b o (hideAll_get Ls e hb)
 have memL : ∀ p ∈ fr, p ∈ ow ++ fr := fun p hp => List.mem_append_right _ hp
 have off : ∀ b ∈ Ls, st b = none ∧ B.g.objs.size ≤ b ∧ (b ∈ md ∨ s₀.heap.objs.size ≤ b) := fun b hb => by
  rcases hLs b hb with rfl | hb | hb
  ·exact ⟨F.offL, Nat.le_trans F.gs F.hL, .inr F.hL⟩
  ·obtain ⟨p, hp, rfl⟩ := List.mem_map.mp hb
   obtain ⟨h1, h2, h3, h4, h5⟩ := F.ow p (memL p hp)
   exact ⟨h2, h5, h4.symm⟩
  ·refine ⟨?_, Nat.le_trans F.inv.size hb, .inr (Nat.le_trans F.ext.2 hb)⟩
   cases q : st b with
   | none => rfl
   | some o => exact absurd (Heap.lt_size (F.le _ _ q)) (Nat.not_lt.mpr hb)
 have hcode : ∀ cv q, s₁.heap.CodeRec cv q → s'.heap.CodeRec cv q := by
  rintro cv q ⟨c, oc, vs, tt, e1, e2, e3, e4⟩
  refine ⟨c, oc, vs, tt, e1, keep _ _ (fun hc => ?_) e2, e3, e4⟩
  obtain ⟨o, es, ep, g1, g2⟩ := hobj c hc
  rw [e2] at g1; cases g1
  rw [e3] at g2; cases g2
 have hTT : ∀ b : Nat, B.g.objs.size ≤ b → b ∉ TT := fun b hb => F.notTT hb
 obtain ⟨m, hn, hm⟩ := F.ns
 have hn1 : s₁.heap.Ns L m := by
  obtain ⟨oL, es, ep, e, r⟩ := hn
  exact ⟨oL, es, ep, keep1 _ _ (hTT _ (Nat.le_trans F.gs F.hL)) e, r⟩
 have hn' := hup.ns hn1
 have hlt : L < s'.heap.objs.size := by obtain ⟨o, _, _, e, _⟩ := hn'; exact Heap.lt_size e
 have hsz0 : s₀.heap.objs.size ≤ s'.heap.objs.size := Nat.le_of_lt (Nat.lt_of_le_of_lt F.hL hlt)
 obtain ⟨fr', hsl, hg'⟩ := SlEq.of (h' := s'.heap) fr fun p hp => by
  obtain ⟨h1, h2, h3, h4, h5⟩ := F.ow p (memL p hp)
  have g1 := keep1 _ _ (hTT _ h5) h1
  obtain ⟨o, es, ep, k1, k2⟩ := hobj _ (hfr p hp)
  rw [g1] at k1; cases k1
  exact hup _ _ g1 fun vs q => by rw [k2] at q; cases q
 have hkeys : (ow ++ fr').map (·.1) = (ow ++ fr).map (·.1) := by rw [List.map_append, List.map_append, hsl.keys]
 refine ⟨fr', hsl, F.ok, ⟨fun b o e => keep b o (fun hb => absurd (Heap.lt_size e) (Nat.not_lt.mpr (off b hb).2.1)) (I.base b o e), by rw [hgens]; exact I.bare, fun x hx => ?_, Nat.le_trans F.gs hsz0⟩, ⟨m, hn', hm⟩, fun b o e => keep b o (fun hb => by rw [(off b hb).1] at e; cases e) (keep1 b o (fun q => by rw [F.offT b q] at e; cases e) (F.le b o e)), F.offT, F.offL, F.hL, fun p hp => ?_, by rw [hkeys]; exact F.nodup, ⟨fun b o h1 h2 e => ?_, hsz0⟩, F.new, F.old, hos.trans F.os, F.gs⟩
 ·obtain ⟨ps, h1, h2, h3⟩ := (I.tabs x hx).ex
  exact ⟨ps, keep _ _ (fun hb => hTT _ (off _ hb).2.1 (tabs_TT x hx)) h1, h2, fun pos cv hc => hcode _ _ (h3 pos cv hc)⟩
 ·rcases List.mem_append.mp hp with hp | hp
  ·obtain ⟨h1, h2, h3, h4, h5⟩ := F.ow p (List.mem_append_left _ hp)
   exact ⟨keep _ _ (how p hp) (keep1 _ _ (hTT _ h5) h1), h2, h3, h4, h5⟩
  ·obtain ⟨q, hq, e, _⟩ := hsl.data p hp
   obtain ⟨h1, h2, h3, h4, h5⟩ := F.ow q (memL q hq)
   rw [e] at h1 h2 h3 h4 h5
   exact ⟨hg' p hp, h2, h3, h4, h5⟩
 ·refine keep b o (fun hb => ?_) (keep1 b o h1 (F.ext.1 b o h1 h2 e))
  rcases (off b hb).2.2 with q | q
  ·exact h2 q
  ·exact absurd (Heap.lt_size e) (Nat.not_lt.mpr q)
theorem Fx.dicMiss {d : Addr} {o : Obj} {kvs : List (Str × Value)} {x : Str} {t : Tok} {Q E : Value → Shared → Prop} (F : Fx B md s₀ st₀ st L own l s) (hh : A.handled = none) (hq : (d, o) ∈ own) (hd : o.IsDictOf (strKind B.prog B.w) kvs) (hv : valueAt kvs x = none)
  (h : ∀ h' e, Heap.NewExc s.heap h' e "KeyError" → E (.ref e) { s with heap := h', toks := s.toks + 1 }) : ItemOn (model B.prog B.w) A E (.ref d) (.str x t) Q s := by
 have hD := Heap.dictOf_iff.mpr ⟨o, (F.ow _ hq).1, hd⟩
 have hne : (d == sysModules) = false := beq_eq_false_iff_ne.mpr fun e => by
  have h1 := (F.ow _ hq).2.2.2.2
  have h2 := F.ok.size
  have h3 : (sysModules : Nat) < 1214 := by decide +kernel
  dsimp only at h1
  rw [e] at h1
  exact absurd (Nat.lt_of_lt_of_le h3 (Nat.le_trans h2 h1)) (Nat.lt_irrefl _)
 exact ⟨"dict", _, slot_dict_getitem.lookup, hD.typeIs, wpAny_getItem_missing_of (strKind_is _ _ _ _) hne hh hD.mapOf hv h⟩
theorem leaves_key {A : Around} {Ls : List Addr} {env : Env} {L e : Addr} {h₀ : Heap} {s₁ : Shared} {envs : List Env} {Q : Unit → Shared → Prop} {E : Value → Shared → Prop} (F1 : Frs (A.deeper env) (L :: Ls) h₀) (hA : A.frames = some envs) (hf : env.frame = some L) (hx : Heap.NewExc h₀ s₁.heap e "KeyError")
  (hQ : ∀ h' a0, Heap.FlyingW (hideAll h₀ (L :: Ls)) envs e (.type "KeyError") a0 h' → h₀.UpToSlots h' → Q () { s₁ with heap := h' }) : wpAny (model B.prog B.w) (A.deeper env) (PySem.leaving env (.ref e)) Q E s₁ := by
 obtain ⟨ob, tv, he, hc, hdt⟩ := hx.there
 have hfr : (A.deeper env).frames = some (env :: envs) := Around.frames_deeper hA
 have hkb : (hideAll h₀ (L :: Ls)).StaysIn s₁.heap := fun b o e => hx.keeps _ _ (of_hideAll _ e)
 have hen : (hideAll h₀ (L :: Ls)).get? e = none := by
  cases q : (hideAll h₀ (L :: Ls)).get? e with
  | none => rfl
  | some o => exact absurd (of_hideAll _ q) (by rw [hx.new]; exact fun h => nomatch h)
 have hff : s₁.heap.FunFrames (hideAll h₀ (L :: Ls)) (env :: envs) := by
  obtain ⟨envs', r1, r2⟩ := F1.ex
  rw [hfr] at r1; cases r1
  refine Frs.fun' (env :: envs) (fun b hb => ?_) r2
  obtain ⟨o, es, ep, g1, g2⟩ := F1.obj b hb
  exact ⟨o, es, ep, hx.keeps _ _ g1, g2⟩
 refine wpAny_leaving_firstW (a0 := tv) hfr hff hf he hkb hen hdt rfl rfl fun h' hL => ?_
 obtain ⟨k1, ⟨_, _, k2⟩, k3, k4⟩ := hL
 rw [hc] at k3
 exact hQ _ tv ⟨k1, hen, k2, k3⟩ fun b o hb hn => k4 b o (hx.keeps _ _ hb) hn
theorem key_exc : isSubtype (.type "KeyError") (.type "BaseException") = pure true := by rw [isSubtype_type]; kernel_rfl
theorem key_key : isSubtype (.type "KeyError") (.type "KeyError") = pure true := by rw [isSubtype_type]; kernel_rfl
theorem key_tup : isSubtype (.type ((Manifest.find? "KeyError").elim "type" fun x => x.metatype)) (.type "tuple") = pure false := by rw [isSubtype_type]; kernel_rfl
theorem Fx.caughtKey {Ls : List Addr} {ow fr : List (Addr × Obj)} {s₁ s' : Shared} {env : Env} {outer : List Env} {names : List (Str × NameKind)} {cl : List (Str × Addr)} {qual : Str} {cd : Value} {e : Addr} {np pos : Pos} {b₀ : Stmt} {suite : List Stmt} {Q : Flow → Shared → Prop} {E : Value → Shared → Prop}
  (F : Fx B md s₀ st₀ st L (ow ++ fr) l s) (N : En env L names cl qual cd) (hA : A.frames = some (env :: outer)) (hf : env.frame = some L) (T : Threw B (env :: outer) Ls s e s₁ s') (hLs : ∀ b ∈ Ls, b = L ∨ b ∈ fr.map (·.1) ∨ s.heap.objs.size ≤ b) (hfr : ∀ p ∈ fr, p.1 ∈ Ls) (how : ∀ p ∈ ow, p.1 ∉ Ls) (hx : (("KeyError" : Str), NameKind.globalImplicit) ∈ names)
  (h : ∀ fr' s'', SlEq fr fr' → Fx B md s₀ st₀ st L (ow ++ fr') l s'' → wpAny (model B.prog B.w) (A.mark (some (.ref e))) (execs (b₀ :: suite) env) Q (notedBy (model B.prog B.w) (A.mark (some (.ref e))) env (cameBackBy (model B.prog B.w) A env E)) s'') :
  wpAny (model B.prog B.w) A (noteFrame (.ref e) env) (fun z s₂ => wpAny (model B.prog B.w) A (setFlight (.ref e) none) (fun z s₃ => wpAny (model B.prog B.w) A (handleBy (.ref e) env [.ExceptHandler (some (.Name "KeyError" np)) none (b₀ :: suite) pos]) Q E s₃) E s₂) E s' := by
 obtain ⟨a0, fly⟩ := T.fly
 refine wpAny_looks_onW hA hf fly fun h1 held up1 => ?_
 refine wpAny_landsW (s := { s' with heap := h1 }) held fun h2 fly2 up2 => ?_
 obtain ⟨fr2, sl2, F2⟩ := F.threw (s' := { s' with heap := h2 }) T.inv T.ext T.obj hLs hfr fly2.1 ((T.up.trans up1).trans up2) T.os T.gens how
 refine wpAny_handleBy_builtin (X := "KeyError") (T := "KeyError") (b := true) key_exc key_tup key_key ?_
 refine F2.nameB N (b_KeyError _) hx ⟨rfl, fly2.there, ?_⟩
 rw [if_pos rfl]
 refine lands_againW (s := { s' with heap := h2 }) fly2 fun h3 fly3 up3 => ?_
 obtain ⟨fr3, sl3, F3⟩ := F.threw (s' := { s' with heap := h3 }) T.inv T.ext T.obj hLs hfr fly3.1 (((T.up.trans up1).trans up2).trans up3) T.os T.gens how
 exact h _ _ sl3 F3
set_option tactic.hygienic true in
theorem makeX {C fI : Addr} {name qual : Str} {params : Arguments} {body : List Stmt} {scope : Scope} {dV kV doc pm cdv ct oc : Value} {an od : Option Addr} {osl : Array (Option Value)} {args : List Value} {binds : Addr → List (Str × Value)} {n : Nat} {fr : List (Addr × Obj)} {Φ : Heap → St → Value → Prop}
  (H : At B st s) (R : Rm A (n + 2)) (hC : (makesIn (hd.heap_39 B.w.params) C && (findIn (hd.heap_39 B.w.params) (.ref C) "__init__" == some (some (.ref fI))) && (typeIn (hd.heap_39 B.w.params) (.ref fI) == some (.type "function"))) = true)
  (FS : Frs A (fr.map (·.1)) s.heap) (hfr : ∀ p ∈ fr, s.heap.get? p.1 = some p.2 ∧ st p.1 = none ∧ B.g.objs.size ≤ p.1) (hfd : (fr.map (·.1)).Nodup)
  (ho : (hd.heap_39 B.w.params).lookup fI = some ⟨oc, od, .func (fnOf name qual params body scope dV kV doc pm an cdv ct), osl⟩) (hcd : codeIn (hd.heap_39 B.w.params) cdv qual = true)
  (hbind : ∀ x s', (hd.heap_39 B.w.params).In s'.heap → BindsTo s' (fnOf name qual params body scope dV kV doc pm an cdv ct) ⟨.ref x :: args, []⟩ (binds x)) (hS : ScopeOk scope) {ps : List Str} (hps : ∀ x, (binds x).map (·.1) = ps) (hloc : ∀ y ∈ ps, (y, NameKind.local) ∈ scope.names) (hbn : ps.Nodup) (hcell : ∀ x ∈ scope.names, x.2 ≠ .cell)
  (hco : scope.isCoroutine = false) (hgen : scope.isGenerator = false)
  (h : ∀ (Q : Value → Shared → Prop) L s' s₁ env A' x dx st', St.le st st' → s.heap.objs.size ≤ x → s.heap.objs.size ≤ dx → s.heap.objs.size ≤ s'.heap.objs.size → st' x = some (instObj C dx) → En env L scope.names [] qual cdv → env.frame = some L → A'.frames = A.frames.map (env :: ·) → Rm A' n → Frs A' (L :: fr.map (·.1)) s₁.heap → Fx B (dx :: fr.map (·.1)) s' st' st' L ((dx, dictOf [] 0) :: fr) (binds x) s₁ →
   (∀ st'' l own s'', Fx B (dx :: fr.map (·.1)) s' st' st'' L own l s'' → Φ s''.heap (grow st s.heap.objs.size s''.heap) (.ref x) → Q .none s'') →
   wpAny (model B.prog B.w) A' (execs body env) (fun fl s' => Q (match fl with | .ret v => v | _ => .none) s') (fun z z => False) s₁) :
  Spec B A (fr.map (·.1)) st s (call (.ref C) args) Φ := fun Q E k => by
 simp only [Bool.and_eq_true, beq_iff_eq] at hC
 have X := H.ok.X.keeps H.inv.base
 obtain ⟨hh, g, dr, t, os⟩ := s
 have e1 : ∀ b o, hh.get? b = some o → ((hh.push emptyDict).push (instObj C hh.objs.size)).get? b = some o := fun b o e => Heap.get?_push_of_some _ (Heap.get?_push_of_some _ e)
 have z1 : (hh.push emptyDict).objs.size = hh.objs.size + 1 := Heap.size_push _ _
 have z2 : ((hh.push emptyDict).push (instObj C hh.objs.size)).objs.size = hh.objs.size + 2 := by rw [Heap.size_push, z1]
 have ed : ((hh.push emptyDict).push (instObj C hh.objs.size)).get? hh.objs.size = some emptyDict := Heap.get?_push_of_some _ (Heap.get?_push_size _ rfl)
 have ex : ((hh.push emptyDict).push (instObj C hh.objs.size)).get? (hh.objs.size + 1) = some (instObj C hh.objs.size) := by have := Heap.get?_push_size (hh.push emptyDict) (o := instObj C hh.objs.size) rfl; rwa [z1] at this
 have fr1 : ∀ b : Nat, hh.objs.size ≤ b → st b = none := fun b hb => by
  cases q : st b with
  | none => rfl
  | some o => exact absurd (Heap.lt_size (H.le _ _ q)) (Nat.not_lt.mpr hb)
 have hle : St.le st (st.put (hh.objs.size + 1) (instObj C hh.objs.size)) := fun b o e => by
  unfold St.put
  rw [if_neg (fun q => by rw [q, fr1 _ (Nat.le_succ _)] at e; cases e)]; exact e
 have hgs : B.g.objs.size ≤ hh.objs.size := H.inv.size
 have hTl : ∀ P ∈ TT, @LT.lt Nat _ P hh.objs.size := fun P hP => Nat.lt_of_lt_of_le (Nat.lt_of_lt_of_le (TT_lt P hP) H.ok.size) hgs
 have H' : At B (st.put (hh.objs.size + 1) (instObj C hh.objs.size)) ⟨(hh.push emptyDict).push (instObj C hh.objs.size), g, dr, t, os⟩ := by
  refine ⟨H.ok, ⟨fun b o e => e1 _ _ (H.inv.base _ _ e), H.inv.bare, fun y hy => ?_, by show _ ≤ Array.size _; rw [z2]; o_head qo⟩, fun b o e => ?_, fun P hP => ?_⟩
  ·obtain ⟨ps, h1, h2, h3⟩ := (H.inv.tabs y hy).ex
   exact ⟨ps, e1 _ _ h1, h2, fun pos cv hc => (h3 pos cv hc).keeps e1⟩
  ·unfold St.put at e
   split at e
   ·rename_i q; cases e; rw [q]; exact ex
   ·exact e1 _ _ (H.le _ _ e)
  ·unfold St.put
   have := hTl P hP
   rw [if_neg (fun (q : P = hh.objs.size + 1) => by o_head qo)]; exact H.offT P hP
 have hx' : (st.put (hh.objs.size + 1) (instObj C hh.objs.size)) (hh.objs.size + 1) = some (instObj C hh.objs.size) := if_pos rfl
 have own : ∀ p ∈ ((hh.objs.size : Addr), dictOf [] 0) :: fr, ((hh.push emptyDict).push (instObj C hh.objs.size)).get? p.1 = some p.2 ∧ (st.put (hh.objs.size + 1) (instObj C hh.objs.size)) p.1 = none ∧ p.1 ∈ hh.objs.size :: fr.map (·.1) ∧ B.g.objs.size ≤ p.1 := by
  intro p hp
  rcases List.mem_cons.mp hp with rfl | hp
  ·refine ⟨ed, ?_, .head _, hgs⟩
   unfold St.put
   rw [if_neg (Nat.ne_of_lt (Nat.lt_succ_self _))]; exact fr1 _ (Nat.le_refl _)
  ·obtain ⟨h1, h2, h3⟩ := hfr p hp
   refine ⟨e1 _ _ h1, ?_, .tail _ (List.mem_map_of_mem hp), h3⟩
   unfold St.put
   rw [if_neg (Nat.ne_of_lt (Nat.lt_succ_of_lt (Heap.lt_size h1)))]; exact h2
 have nd : ((((hh.objs.size : Addr), dictOf [] 0) :: fr).map (·.1)).Nodup := List.nodup_cons.mpr ⟨fun hm => by
  obtain ⟨p, hp, e⟩ := List.mem_map.mp hm
  have := Heap.lt_size (hfr p hp).1
  rw [e] at this
  exact Nat.lt_irrefl _ this, hfd⟩
 refine wpAny_call (make_core (makes_of X hC.1.1) (looks_findIn X hC.1.2) (fun self => bind_fn X self hC.2) (.inl rfl) ?_)
 refine enterX (md := hh.objs.size :: fr.map (·.1)) H' own nd (Rm.make (C := C) (rest := args) (kw := []) R).room ho hcd (hbind (hh.objs.size + 1) _ (H'.ok.X.keeps H'.inv.base)) hS (hps _) hloc hbn hcell hco hgen fun L s₁ env N hf R' F keep hLn => ?_
 have FS1 : Frs (A.under (.builtin "type.__call__" ⟨.ref C :: args, []⟩)) (fr.map (·.1)) hh := ⟨by
  obtain ⟨envs, q1, q2⟩ := FS.ex
  exact ⟨envs, q1, q2⟩, FS.obj⟩
 have FS2 : Frs ((A.under (.builtin "type.__call__" ⟨.ref C :: args, []⟩)).deeper env) (L :: fr.map (·.1)) s₁.heap := by
  obtain ⟨m, hn, _⟩ := F.ns
  exact FS1.deeper (by rw [N.kind]; decide) hf hn fun b z o e => keep _ _ (e1 _ _ e)
 refine wpAny_mono (h (fun v s' => InitBack (hh.objs.size + 1) _ (.ok (.ret v)) s') L _ s₁ env _ (hh.objs.size + 1) hh.objs.size _ hle (Nat.le_succ _) (Nat.le_refl _) (by show hh.objs.size ≤ Array.size _; rw [z2]; o_head qo) hx' N hf rfl R' FS2 F fun st'' l own s'' F' hE => ⟨rfl, ?_⟩) (fun z z q => q) fun z z q => q.elim
 refine k _ s'' F'.inv ⟨fun b o hT hM e => ?_, ?_⟩ F'.os hE
 ·refine F'.ext.1 _ _ hT (fun hM' => ?_) (e1 _ _ e)
  rcases List.mem_cons.mp hM' with rfl | hM'
  ·exact Nat.lt_irrefl _ (Heap.lt_size e)
  ·exact hM hM'
 ·have h1 := F'.ext.2
  rw [show (Shared.heap ⟨(hh.push emptyDict).push (instObj C hh.objs.size), g, dr, t, os⟩).objs.size = hh.objs.size + 2 from z2] at h1
  exact Nat.le_trans (Nat.le_add_right _ 2) h1
theorem Fx.keeps {h' : Heap} {t : Nat} (F : Fx B md s₀ st₀ st L own l s) (hk : ∀ b o, s.heap.get? b = some o → h'.get? b = some o) : Fx B md s₀ st₀ st L own l { s with heap := h', toks := t } := by
 obtain ⟨m, ⟨oL, es, ep, e, r⟩, hm⟩ := F.ns
 have e' := hk _ _ e
 have hsz0 : s₀.heap.objs.size ≤ h'.objs.size := Nat.le_of_lt (Nat.lt_of_le_of_lt F.hL (Heap.lt_size e'))
 refine ⟨F.ok, ⟨fun b o e => hk _ _ (F.inv.base b o e), F.inv.bare, fun x hx => ?_, Nat.le_trans F.gs hsz0⟩, ⟨m, ⟨oL, es, ep, e', r⟩, hm⟩, fun b o e => hk _ _ (F.le b o e), F.offT, F.offL, F.hL, fun p hp => ?_, F.nodup, ⟨fun b o h1 h2 e => hk _ _ (F.ext.1 b o h1 h2 e), hsz0⟩, F.new, F.old, F.os, F.gs⟩
 ·obtain ⟨ps, h1, h2, h3⟩ := (F.inv.tabs x hx).ex
  exact ⟨ps, hk _ _ h1, h2, fun pos cv hc => (h3 pos cv hc).keeps hk⟩
 ·obtain ⟨h1, h2⟩ := F.ow p hp
  exact ⟨hk _ _ h1, h2⟩
noncomputable abbrev tupO (vs : List Value) (n : Nat) : Obj := { cls := .type "tuple", data := .seq vs.toArray n }
noncomputable def Tup (st : St) (a : Addr) (vs : List Value) : Prop := ∃ n, st a = some (tupO vs n)
theorem Tup.mono {st st' : St} {a : Addr} {vs : List Value} (h : Tup st a vs) (k : St.le st st') : Tup st' a vs := by
 obtain ⟨n, e⟩ := h
 exact ⟨n, k _ _ e⟩
theorem Fx.forP {Q : Flow → Shared → Prop} {E : Value → Shared → Prop} {a : Addr} {vs : List Value} {x y : Str} {px py tp : Pos} {kk : Nat} {body : List Stmt} {env : Env} (J : Nat → St → List (Addr × Obj) → List (Str × Value) → Prop)
  (F : Fx B md s₀ st₀ st L own l s) (hh : A.handled = none) (hl : Lst st a vs) (hp : ∀ (i : Nat) (z : Value), vs[i]? = some z → ∃ t p q, z = Value.ref t ∧ Tup st t [p, q]) (h0 : J 0 st own l)
  (turn : ∀ (i : Nat) (t : Addr) (p q : Value) st' it o own' l' s' E', vs[i]? = some (.ref t) → Tup st t [p, q] → St.le st st' → J i st' own' l' → Fx B md s₀ st₀ st' L ((it, o) :: own') l' s' →
   wpAny (model B.prog B.w) A (assign (.Name x px) env p) (fun z s₁ => wpAny (model B.prog B.w) A (assign (.Name y py) env q) (fun z s₂ => wpAny (model B.prog B.w) A (execs body env) (turnQ (fun s₃ => ∃ st'' own'' l'', St.le st' st'' ∧ J (i + 1) st'' own'' l'' ∧ Fx B md s₀ st₀ st'' L ((it, o) :: own'') l'' s₃) Q) E' s₂) E' s₁) E' s')
  (done : ∀ st' own' l' s', St.le st st' → J vs.length st' own' l' → Fx B md s₀ st₀ st' L own' l' s' → Q .next s') :
  wpAny (model B.prog B.w) A (pyIter (.ref a)) (fun it s₂ => codeAny (model B.prog B.w) A (.forLoop (.Tuple [.Name x px, .Name y py] kk tp) it body [] env) (fun r s' => match r with | .ok f => Q f s' | .error e => cameBackBy (model B.prog B.w) A env E e s') s₂) E s := by
 refine F.pyIterL hl.la fun it o s₁ hi F => ?_
 refine codeAny_forLoop_any (fun n s => ∃ i st' o own' l', n + i = vs.length ∧ St.le st st' ∧ J i st' own' l' ∧ IterO o a i ∧ Fx B md s₀ st₀ st' L ((it, o) :: own') l' s) ?_ vs.length ⟨0, st, o, own, l, rfl, St.le.refl _, h0, hi, F⟩
 rintro n s' ⟨i, st', o, own', l', hn, le, hJ, hi, F⟩
 cases hx : vs[i]? with
 | none =>
  refine F.nextEnd hh hi (hl.mono le).la hx fun s₂ F => ?_
  refine wpAny_execs_nil (done _ _ _ _ le ?_ F)
  have : i = vs.length := dz hn (List.getElem?_eq_none_iff.mp hx)
  rwa [← this]
 | some z =>
  obtain ⟨t, p, q, rfl, hT⟩ := hp i z hx
  refine F.nextItem hi (hl.mono le).la hx fun o' s₂ hi' F => ?_
  refine wpAny_letOwnedTupleGo_listiter ⟨_, (F.ow _ (.head _)).1, hi'.1, hi'.2⟩ ?_
  obtain ⟨nt, eT⟩ := hT.mono le
  refine wpAny_assign_Tuple hh (items := #[p, q]) ⟨_, F.le _ _ eT, rfl, nt, rfl⟩ rfl rfl fun h' hs => ?_
  have G := F.keeps (t := s₂.toks) fun b o e => hs b o (Nat.ne_of_lt (Heap.lt_size e)) e
  show wpAny _ _ (assignInOrder [assign (.Name x px) env, assign (.Name y py) env] [p, q]) _ _ _
  have hlt : i < vs.length := (List.getElem?_eq_some_iff.mp hx).1
  have fin : ∀ s₄, (∃ st'' own'' l'', St.le st' st'' ∧ J (i + 1) st'' own'' l'' ∧ Fx B md s₀ st₀ st'' L ((it, o') :: own'') l'' s₄) → ∃ m, m < n ∧ ∃ i st' o own' l', m + i = vs.length ∧ St.le st st' ∧ J i st' own' l' ∧ IterO o a i ∧ Fx B md s₀ st₀ st' L ((it, o) :: own') l' s₄ := by
   rintro s₄ ⟨st'', own'', l'', le', hJ', F'⟩
   exact ⟨n - 1, (dn hn hlt).1, i + 1, st'', o', own'', l'', (dn hn hlt).2, le.trans le', hJ', hi', F'⟩
  refine wpAny_assignInOrder_more (wpAny_mono (turn i t p q st' it o' own' l' _ _ hx hT le hJ G) (fun z s₃ q1 => ?_) fun z z e => e)
  refine wpAny_assignInOrder_more (wpAny_mono q1 (fun z s₄ q2 => ?_) fun z z e => e)
  refine wpAny_assignInOrder_none (wpAny_mono q2 (fun f s₅ q3 => ?_) fun z z e => e)
  cases f with
  | next => exact fin _ q3
  | cont => exact fin _ q3
  | brk => exact q3
  | ret v => exact q3
noncomputable def modNo (K : Frag) (C : Addr) : Bool := match clsIn K C with
 | some cd => cd.mro.all fun c => (match c with | .ref _ => true | .type _ => true | _ => false) && findIn K c "__mod__" == some none && findIn K c "__rmod__" == some none
 | none => false
theorem anyM_no {α : Type} {M : Model} {E : Value → Shared → Prop} {f : α → Sem Bool} : ∀ {l : List α} {s : Shared} {Q : Bool → Shared → Prop}, (∀ x ∈ l, ∀ Q', Q' false s → wpAny M A (f x) Q' E s) → Q false s → wpAny M A (l.anyM f) Q E s
 | [], _, _, _, q => wpAny_pure q
 | x :: r, s, Q, h, q => by
  rw [List.anyM_cons]
  refine wpAny_bind (h x (.head _) _ ?_)
  exact anyM_no (fun y hy => h y (.tail _ hy)) q
set_option tactic.hygienic true in
theorem fillsNo {M : Model} {E : Value → Shared → Prop} {K : Frag} {C : Addr} {Q : Bool → Shared → Prop} (X : K.In s.heap) (e : modNo K C = true) (q : Q false s) : wpAny M A (fillsNumberSlot (.ref C) "mod") Q E s := by
 unfold modNo at e
 split at e
 ·rename_i cd hc
  unfold fillsNumberSlot
  refine wpAny_bind (Looks.here (s := s) ((looks_clsIn X hc).andThen (f := fun cd => pure cd.mro) .now) ?_)
  refine anyM_no (fun c hcm Q' q' => ?_) q
  have h1 := List.all_eq_true.mp e c hcm
  simp only [Bool.and_eq_true, beq_iff_eq] at h1
  have lk : ∀ name : Str, findIn K c name = some none → ∀ {Q : Option Value → Shared → Prop}, Q none s → wpAny M A (typeLookup c name) Q E s := fun name e Q q => Looks.here (s := s) (looks_findIn X e) q
  cases c with
  | type n =>
   have key : wpAny M A (do
     let f ← typeLookup (.type n) (PySem.dunder "mod")
     let r ← typeLookup (.type n) (dunderR "mod")
     return (f.isSome && !isSeqSlot f) || (r.isSome && !isSeqSlot r)) Q' E s :=
    wpAny_bind (m := typeLookup _ _) (lk _ h1.1.2 (wpAny_bind (m := typeLookup _ _) (lk _ h1.2 (wpAny_pure q'))))
   exact key
  | ref x =>
   refine anyM_no (fun nm hnm Q'' q'' => ?_) q'
   rcases List.mem_cons.mp hnm with rfl | hnm
   ·exact wpAny_bind (m := typeLookup _ _) (lk _ h1.1.2 (wpAny_pure q''))
   ·cases List.mem_singleton.mp hnm
    exact wpAny_bind (m := typeLookup _ _) (lk _ h1.2 (wpAny_pure q''))
  | _ => exact absurd h1.1.1 Bool.false_ne_true
 ·cases e
open Builtin Builtin.Str in
theorem mod_entry (X : PySem.Str) (t : Tok) (a : Addr) : «str.__mod__» ⟨[.str X t, .ref a], []⟩ = percentFormat (.str X t) X (.ref a) := by kernel_rfl
noncomputable def notTup (K : Frag) (C : Addr) : Bool := modNo K C && mroIn K C (.type "tuple") == some false && findIn K (.ref C) "__getitem__" == some none
open Builtin Builtin.Str in
theorem pct_entry {E : Value → Shared → Prop} {K : Frag} {x C : Addr} {ox : Obj} {od : Option Obj} {t : Tok} {Q : Fin → Shared → Prop} (X : K.In s.heap) (I : InstAt s.heap x ox C od) (hp : ox.data = .plain) (hc : notTup K C = true)
  (h : wpAny (model B.prog B.w) A (PySem.Builtin.Str.strOf (.ref x)) (fun r s' => ∃ y u, r = .str y u ∧ y.length ≤ 1000000 ∧ ∀ t' k, Q (.done (.ret (.str y t'))) { s' with toks := k }) E s) : wpAny (model B.prog B.w) A (percentFormat (.str "%s" t) "%s" (.ref x)) Q E s := by
 simp only [notTup, Bool.and_eq_true, beq_iff_eq] at hc
 unfold percentFormat
 have hI : Looks (model B.prog B.w) s.heap (isInstance (.ref x) (.type "tuple")) false := I.type.andThen (looks_mroIn X hc.1.2)
 refine wpAny_bind (hI.here (s := s) ?_)
 have ha : wpAny (model B.prog B.w) A (asStr? (.ref x)) (fun r s' => r = none ∧ s' = s) E s := by
  unfold asStr?
  refine wpAny_bind (wpAny_load I.at_ ?_)
  rw [hp]
  exact wpAny_pure ⟨rfl, rfl⟩
 refine wpAny_bind (wpAny_mono ha (fun r s' q => ?_) fun z z e => e)
 obtain ⟨rfl, rfl⟩ := q
 have hm : ∀ {Q : Bool → Shared → Prop}, Q false s' → wpAny (model B.prog B.w) A (fillsMappingSlot (.ref x)) Q E s' := fun q => by
  unfold fillsMappingSlot
  refine wpAny_bind (m := specialOf _ _) ?_
  unfold specialOf
  refine wpAny_bind (I.type.here (s := s') ?_)
  exact Looks.here (s := s') (looks_findIn X hc.2) (wpAny_pure q)
 refine wpAny_bind (hm ?_)
 kpc_if
 refine wpAny_bind (wpAny_pure ?_)
 refine wpAny_bind ?_
 rw [KPc.range_list]
 refine KPc.start ?_
 intro w0 g0
 refine KPc.turn ?_
 kpc_check
 (repeat kpc_if)
 refine wpAny_bind ?_
 refine wpAny_holding ?_
 (repeat kpc_if)
 refine wpAny_bind (wpAny_mono h (fun r s2 q => ?_) fun z z e => e)
 obtain ⟨y, u, rfl, hl, hq⟩ := q
 refine wpAny_bind (wpAny_of_eq (a := some _) rfl ?_)
 refine wpAny_pure ?_
 refine wpAny_pure ?_
 refine KPc.after_str0 (by kpc_g) hl (by kpc_obj) ?_
 intro w1 g1
 refine KPc.turn ?_
 kpc_check
 (repeat kpc_if)
 refine wpAny_pure ?_
 kpc_if
 exact KPc.finish_ok g1 (by decide +kernel) rfl fun t' k => hq t' k
theorem sub_str_own {K : Frag} {x C : Addr} {ox : Obj} {od : Option Obj} {t : Tok} {Q E : Value → Shared → Prop} (X : K.In s.heap) (I : InstAt s.heap x ox C od) (hp : ox.data = .plain) (hc : notTup K C = true)
  (h : wpAny (model B.prog B.w) A.in1 (PySem.Builtin.Str.strOf (.ref x)) (fun r s' => ∃ y u, r = .str y u ∧ y.length ≤ 1000000 ∧ ∀ t' k, Q (.str y t') { s' with toks := k }) E s) : wpAny (model B.prog B.w) A (binaryOp .Mod (.str "%s" t) (.ref x)) Q E s := by
 have hc' := hc
 simp only [notTup, Bool.and_eq_true, beq_iff_eq] at hc'
 unfold binaryOp
 refine wpAny_holding ?_
 show wpAny _ A (binaryOp1 "mod" _ _ >>= _) _ _ _
 refine wpAny_bind ?_
 unfold binaryOp1
 refine wpAny_bind (wpAny_typeOf (T := "str") (typeIs_str s _ t) ?_)
 refine wpAny_bind (I.type.here (s := s) ?_)
 refine wpAny_bind (wpAny_of_eq F.fills_str_mod ?_)
 show wpAny _ A ((fillsNumberSlot (.ref C) "mod") >>= _) _ _ _
 refine wpAny_bind (fillsNo X hc'.1.1 ?_)
 show wpAny _ A (pure false >>= _) _ _ _
 refine wpAny_bind (wpAny_pure ?_)
 show wpAny _ A (tryMethod _ _ _ >>= _) _ _ _
 refine wpAny_bind (m := tryMethod _ _ _) ?_
 unfold tryMethod
 refine wpAny_bind (wpAny_callSpecial?_slot (name := Str.ofString "__mod__") (typeIs_str s _ t) F.slot_str_mod (wpAny_call_entry F.slot_str_mod (typeIs_str s _ t) F.entry_str_mod ?_ (F.args_str_mod_2 _ _)))
 rw [mod_entry]
 refine pct_entry X I hp hc (wpAny_mono h (fun r s' q => ?_) fun z z e => e)
 obtain ⟨y, u, rfl, hl, hq⟩ := q
 exact ⟨y, u, rfl, hl, fun t' k => ⟨_, rfl, wpAny_pure (wpAny_pure (wpAny_pure (hq t' k)))⟩⟩
theorem strOf_own {K : Frag} {x C f : Addr} {ox : Obj} {od : Option Obj} {Q E : Value → Shared → Prop} (hu : A.units < cLine) (X : K.In s.heap) (I : InstAt s.heap x ox C od) (hs : findIn K (.ref C) "__str__" = some (some (.ref f))) (hf : isFn K (.ref f) = true)
  (h : wpAny (model B.prog B.w) A (PySem.call (.ref f) [.ref x]) (fun r s' => ∃ y u, r = .str y u ∧ Q (.str y u) s') E s) : wpAny (model B.prog B.w) A (PySem.Builtin.Str.strOf (.ref x)) Q E s := by
 unfold PySem.Builtin.Str.strOf
 rw [show PySem.Builtin.Str.isExactStr (.ref x) = false from rfl]
 refine wpAny_bind (m := cRoomFor _ _) (wpAny_cRoomFor hu ?_)
 refine wpAny_bind (m := callSpecial? (.ref x) (Str.ofString "__str__")) (special_fn X I hs (beq_iff_eq.mp hf) (wpAny_mono h (fun r s' z => ?_) fun z z y => y))
 obtain ⟨y, u, rfl, hq⟩ := z
 exact wpAny_pure hq
noncomputable def strB (K : Frag) (C f : Addr) : Bool := notTup K C && findIn K (.ref C) "__str__" == some (some (.ref f)) && isFn K (.ref f)
theorem Fx.callStr {a C f : Addr} {fs : List (Str × Value)} {w : PySem.Str} {Q E : Value → Shared → Prop} (F : Fx B md s₀ st₀ st L own l s) (R : Rm A.in1.in1 1) (I : Inst st a C fs) (hb : strB (hd.heap_39 B.w.params) C f = true)
  (S : At B st s → Spec B A.in1.in1 [] st s (PySem.call (.ref f) [.ref a]) (fun z z v => ∃ t, v = .str w t)) (h : ∀ t st' s', St.le st st' → Fx B md s₀ st₀ st' L own l s' → Q (.str w t) s') : wpAny (model B.prog B.w) A (PySem.call (.type "str") [.ref a]) Q E s := by
 obtain ⟨dx, n, es, h1, h2, _⟩ := I
 simp only [strB, Bool.and_eq_true, beq_iff_eq] at hb
 have hI := F.inst h1 h2
 refine callType_codes (T := "str") (Bi := Builtin.«object.__init__») (Q₁ := fun r s₁ => ∃ y u, r = .str y u ∧ Q r s₁) PySem.F.called_str (PySem.F.typeCall_str_1 _) PySem.F.entry_object_init ?_ ?_
 ·refine codeAny_of_tree ?_
  show wpAny _ A.in1.in1 (do checkBuiltinCall "str.__new__" ⟨[.type "str", .ref a], []⟩; again (.builtin "str.__new__" ⟨[.type "str", .ref a], []⟩)) _ _ s
  refine wpAny_bind (wpAny_of_eq (PySem.F.newCall_str_1 _) (wpAny_pure ⟨plainId_quiet (by decide +kernel) _, codeAny_builtin PySem.F.entry_str_new ?_⟩))
  rw [Around.under_plainId (by decide +kernel) _]
  rw [str_new_tree]
  refine wpAny_bind (wpAny_pure ?_)
  refine wpAny_bind (wpAny_of_eq isSubtype_str_str ?_)
  refine wpAny_bind (strOf_own (by have := R.u; o_head qo) F.X hI hb.1.2 hb.2 ?_)
  refine F.call (md' := []) (S F.at) fun v st' s' le F' hv => ?_
  obtain ⟨u, rfl⟩ := hv
  exact ⟨w, u, rfl, wpAny_pure ⟨w, u, rfl, h u st' s' le F'⟩⟩
 ·rintro obj s₁ ⟨y, u, rfl, hq⟩
  exact ⟨typeIs_str _ _ _, PySem.F.args_object_init_2 _ _, object_init_meets PySem.F.called_str.init.lookup PySem.F.called_str.made (by decide) B.prog B.w A.in1 _ s₁ ⟨typeIs_str _ _ _, rfl, hq⟩⟩
noncomputable abbrev Bs.wg (B : Bs) (G : Array GenState) : Bs := { B with gv := G }
theorem Inv.gle (I : Inv B s) : B.gv.size ≤ s.gens.size := by
 by_cases q : B.gv.size ≤ s.gens.size
 ·exact q
 ·have h := I.bare.2 s.gens.size (by o_head qo)
  rw [Array.getElem?_eq_none (Nat.le_refl _), Array.getElem?_eq_getElem (by o_head qo)] at h
  cases h
theorem Fx.gens {G : Array GenState} (F : Fx B md s₀ st₀ st L own l s) (hb : AllBare G) (hk : ∀ k, k < B.gv.size → G[k]? = s.gens[k]?) : Fx B md s₀ st₀ st L own l { s with gens := G } :=
 ⟨F.ok, ⟨F.inv.base, ⟨hb, fun k h => (hk k h).trans (F.inv.bare.2 k h)⟩, F.inv.tabs, F.inv.size⟩, F.ns, F.le, F.offT, F.offL, F.hL, F.ow, F.nodup, F.ext, F.new, F.old, F.os, F.gs⟩
theorem Fx.setG {g : Nat} {x y : GenState} (F : Fx B md s₀ st₀ st L own l s) (hg : s.gens[g]? = some x) (hle : B.gv.size ≤ g) (hy : y.bare = true) : Fx B md s₀ st₀ st L own l (s.setGen g y) :=
 F.gens ((GenOnlyQ.of (GenOnly.setGen s g y) (setGen_self hg) hy).bare F.inv.bare.1) fun k hk => (GenOnly.setGen s g y).2 k (by o_head qo)
theorem Fx.up (F : Fx B md s₀ st₀ st L own l s) : Fx (B.wg s.gens) md s₀ st₀ st L own l s :=
 ⟨⟨F.ok.X, F.ok.gl, F.ok.bl, F.ok.lim, F.ok.bi, F.ok.bm, F.ok.off, F.ok.size⟩, ⟨F.inv.base, ⟨F.inv.bare.1, fun z z => rfl⟩, F.inv.tabs, F.inv.size⟩, F.ns, F.le, F.offT, F.offL, F.hL, F.ow, F.nodup, F.ext, F.new, F.old, F.os, F.gs⟩
theorem Fx.down {G : Array GenState} (O : B.Ok) (F : Fx (B.wg G) md s₀ st₀ st L own l s) (hG : ∀ k, k < B.gv.size → G[k]? = B.gv[k]?) : Fx B md s₀ st₀ st L own l s :=
 ⟨O, ⟨F.inv.base, ⟨F.inv.bare.1, fun k hk => by
  have h1 := hG k hk
  have h2 : k < G.size := by
   rw [Array.getElem?_eq_getElem hk] at h1
   exact (Array.getElem?_eq_some_iff.mp h1).1
  exact (F.inv.bare.2 k h2).trans h1⟩, F.inv.tabs, F.inv.size⟩, F.ns, F.le, F.offT, F.offL, F.hL, F.ow, F.nodup, F.ext, F.new, F.old, F.os, F.gs⟩
theorem Fx.swap {C : Addr} {oC : Obj} {l' : List (Str × Value)} (F : Fx B md s₀ st₀ st L ((C, oC) :: own) l s) (hC : s₀.heap.objs.size ≤ C) (hm : ∃ m, s.heap.Ns C m ∧ ∀ p ∈ l', m p.1 = some p.2) :
  ∃ oL, (∃ m, (∀ h : Heap, h.get? L = some oL → h.Ns L m) ∧ ∀ p ∈ l, m p.1 = some p.2) ∧ Fx B md s₀ st₀ st C ((L, oL) :: own) l' s := by
 obtain ⟨m, ⟨oL, es, ep, e, d, k, f⟩, hl⟩ := F.ns
 obtain ⟨g1, g2, g3, g4, g5⟩ := F.ow _ (.head _)
 dsimp only at g1 g2 g3 g4 g5
 have nd := List.nodup_cons.mp F.nodup
 refine ⟨oL, ⟨m, fun h e' => ⟨oL, es, ep, e', d, k, f⟩, hl⟩, F.ok, F.inv, hm, F.le, F.offT, g2, hC, fun p hp => ?_, ?_, F.ext, F.new, F.old, F.os, F.gs⟩
 ·rcases List.mem_cons.mp hp with rfl | hp
  ·exact ⟨e, F.offL, g3.symm, .inl F.hL, Nat.le_trans F.gs F.hL⟩
  ·obtain ⟨h1, h2, h3, h4, h5⟩ := F.ow p (.tail _ hp)
   exact ⟨h1, h2, fun q => nd.1 (q ▸ List.mem_map_of_mem (f := (·.1)) hp), h4, h5⟩
 ·refine List.nodup_cons.mpr ⟨fun hmem => ?_, nd.2⟩
  obtain ⟨p, hp, q⟩ := List.mem_map.mp hmem
  exact (F.ow p (.tail _ hp)).2.2.1 q
theorem Fx.genCode {c P : Addr} {q : Str} {env : Env} {pos : Pos} {scope : Scope} {Q E : Value → Shared → Prop} (F : Fx B md s₀ st₀ st L own l s) (hcode : env.code = .ref c) (hT : (c, P, q) ∈ tabs) (hC : codeHdB (hd.heap_39 B.w.params) c P = true)
  (h : ∀ cv s', Fx B md s₀ st₀ st L own l s' → s'.gens = s.gens → Q cv s') : wpAny (model B.prog B.w) A (genexprCode env pos q scope) Q E s := by
 obtain ⟨ps, h1, h2, h3⟩ := (F.inv.tabs _ hT).ex
 have hP : P ∈ TT := tabs_TT _ hT
 obtain ⟨o, vs, file, tf, flags, tg, inF, text, tt, ho, hcls, hd, _, h11, e2, e7, e9, e10, hne⟩ := codeHd_of F.X hC
 dsimp only at h1
 unfold genexprCode codeAt
 rw [hcode, if_neg (show ¬ ((Value.ref c == Value.none) = true) from Bool.false_ne_true)]
 refine wpAny_bind (wpAny_fieldsOf ho hd ?_)
 rw [h11]
 refine wpAny_bind (wpAny_fieldsOf h1 rfl ?_)
 cases hnf : codeAmong pos ps.toList with
 | some cv => exact wpAny_pure (h cv s F rfl)
 | none =>
  rw [e2, e7, e9, e10]
  refine wpAny_bind (wpAny_newCode fun c' P' h' tk hk hc' hP' hcode' hrec' => ?_)
  have hop' := hk _ _ h1
  refine wpAny_bind (wpAny_updateFieldsOfTheText hop' rfl ?_)
  have hnew : Obj.mapFields (fun vs => if (codeAmong pos vs.toList).isSome = true then vs else vs ++ #[rawInt pos.line, rawInt pos.col, .ref c']) (tabObj ps) = tabObj (ps ++ #[rawInt pos.line, rawInt pos.col, .ref c']) := by
   show tabObj (if (codeAmong pos ps.toList).isSome = true then ps else ps ++ #[rawInt pos.line, rawInt pos.col, .ref c']) = _
   rw [hnf]; rfl
  have hget := Heap.get?_update_self (h := h') (fun o => Obj.mapFields (fun vs => if (codeAmong pos vs.toList).isSome = true then vs else
   vs ++ #[rawInt pos.line, rawInt pos.col, .ref c']) o) hop' (by rw [hnew]; rfl)
  rw [hnew] at hget
  refine wpAny_bind (wpAny_fieldsOf hget rfl ?_)
  have hl : (ps ++ #[rawInt pos.line, rawInt pos.col, Value.ref c']).toList = ps.toList ++ [rawInt pos.line, rawInt pos.col, .ref c'] := by simp
  rw [hl, PySem.codeAmong_snoc _ h2 hnf]
  have hx : Heap.ExtBut P s.heap (h'.update P (fun o => Obj.mapFields (fun vs => if (codeAmong pos vs.toList).isSome = true then vs else vs ++ #[rawInt pos.line, rawInt pos.col, .ref c']) o)) := fun b o' hb e => (Heap.SameBut.update ..).extBut b o' hb (hk b o' e)
  have hcP : c' ≠ P := fun e => absurd (Heap.lt_size h1) (Nat.not_lt.mpr (e ▸ hc'))
  have hz : s.heap.objs.size ≤ (h'.update P (fun o => Obj.mapFields (fun vs => if (codeAmong pos vs.toList).isSome = true then vs else vs ++ #[rawInt pos.line, rawInt pos.col, .ref c']) o)).objs.size := by
   rw [(Heap.SameBut.update ..).1]
   obtain ⟨c₂, o₂, vs₂, t₂, e₂, g₂, r₂⟩ := hrec'
   cases e₂
   exact Nat.le_of_lt (Nat.lt_of_le_of_lt hc' (Heap.lt_size g₂))
  refine wpAny_pure (h _ _ (F.tabKept (t := tk) hP hx hz fun x hx1 hx2 => ?_) rfl)
  have := tabs_inj x hx1 _ hT hx2
  subst this
  refine ⟨_, hget, ?_, fun pos' cv hc => ?_⟩
  ·rw [hl]; exact TriplesOk_snoc _ _ _ _ h2
  ·rw [hl] at hc
   rcases Mine.codeAmong_snoc h2 hc with e | e
   ·obtain ⟨c2, oc, ws, tt2, f1, f2, f3, f4⟩ := h3 _ _ e
    refine ⟨c2, oc, ws, tt2, f1, hx _ _ (fun q => ?_) f2, f3, f4⟩
    rw [q, h1] at f2
    cases f2; cases f3
    exact TriplesOk.no h2 _ _ f4
   ·rw [e]
    obtain ⟨c₂, o₂, vs₂, t₂, e₂, g₂, r₂⟩ := hrec'
    cases e₂
    exact ⟨_, o₂, vs₂, t₂, rfl, (Heap.SameBut.update ..).extBut _ _ hcP g₂, r₂⟩
theorem Fx.storeX {env : Env} {x : Str} {v : Value} {Q : Unit → Shared → Prop} {E : Value → Shared → Prop} (F : Fx B md s₀ st₀ st L own l s) (hloc : env.locals = L) (hx : env.kindOf x = some .local) (hk : env.scope.kind = .function)
  (h : ∀ s', Fx B md s₀ st₀ st L own [(x, v)] s' → Ext [L] s.heap s'.heap → Q () s') : wpAny (model B.prog B.w) A (storeName env x v) Q E s := by
 obtain ⟨m, hn, hm⟩ := F.ns
 refine wpAny_storeName_local hx (hloc.symm ▸ hn) (fun h' hn' hs => ?_) (by rw [hk]; rfl)
 rw [hloc] at hn' hs
 refine h _ ?_ ⟨fun b o z hb e => (hs.2 b fun q => hb (q ▸ .head _)).trans e, by rw [hs.1]; exact Nat.le_refl _⟩
 have hLg : B.g.objs.size ≤ L := Nat.le_trans F.gs F.hL
 have keep : ∀ b o, b ≠ L → s.heap.get? b = some o → h'.get? b = some o := fun b o q e => (hs.2 b q).trans e
 have hTL : ∀ P ∈ TT, P ≠ L := fun P hP e => F.notTT hLg (e ▸ hP)
 have hcode : ∀ cv q, s.heap.CodeRec cv q → h'.CodeRec cv q := by
  rintro cv q ⟨c, o, vs, t, e1, e2, e3, e4⟩
  refine ⟨c, o, vs, t, e1, keep _ _ ?_ e2, e3, e4⟩
  rintro rfl
  obtain ⟨oL, es, ep, e5, e6, _⟩ := hn
  rw [e2] at e5
  cases e5
  rw [e3] at e6
  cases e6
 refine ⟨F.ok, ⟨fun b o e => keep b o ?_ (F.inv.base b o e), F.inv.bare, fun t ht => ?_, by rw [hs.1]; exact F.inv.size⟩, ⟨_, hn', fun p hp => ?_⟩, fun b o e => keep b o ?_ (F.le b o e), F.offT, F.offL, F.hL, fun p hp => ?_, F.nodup, ⟨fun b o h1 h2 e => keep b o ?_ (F.ext.1 b o h1 h2 e), by rw [hs.1]; exact F.ext.2⟩, F.new, F.old, F.os, F.gs⟩
 ·exact Nat.ne_of_lt (Nat.lt_of_lt_of_le (Heap.lt_size e) hLg)
 ·obtain ⟨ps, h1, h2, h3⟩ := (F.inv.tabs t ht).ex
  exact ⟨ps, keep _ _ (hTL _ (tabs_TT t ht)) h1, h2, fun pos cv hc => hcode _ _ (h3 pos cv hc)⟩
 ·cases List.mem_singleton.mp hp
  exact if_pos rfl
 ·intro q; rw [q, F.offL] at e; cases e
 ·obtain ⟨h1, h2, h3, h4, h5⟩ := F.ow p hp
  exact ⟨keep _ _ h3 h1, h2, h3, h4, h5⟩
 ·exact Nat.ne_of_lt (Nat.lt_of_lt_of_le (Heap.lt_size e) F.hL)
theorem Fx.loadX {env : Env} {x : Str} {pos : Pos} {v : Value} {Q E : Value → Shared → Prop} (F : Fx B md s₀ st₀ st L own l s) (hloc : env.locals = L) (hx : env.kindOf x = some .local) (hk : env.scope.kind = .function) (hd : (x == ("__debug__" : Str)) = false) (hv : (x, v) ∈ l) (h : Q v s) :
  wpAny (model B.prog B.w) A (eval (.Name x pos) env) Q E s := by
 obtain ⟨m, hn, hm⟩ := F.ns
 exact wpAny_Name (wpAny_loadName_local hk hx (hloc.symm ▸ hn) (hm _ hv) h) hd
theorem Fx.shr {st' : St} (F : Fx B md s₀ st₀ st' L own l s) (k : St.le st st') (h0 : St.le st₀ st) : Fx B md s₀ st₀ st L own l s := by
 have none' : ∀ b, st' b = none → st b = none := fun b e => by
  cases q : st b with
  | none => rfl
  | some o => rw [k b o q] at e; cases e
 exact ⟨F.ok, F.inv, F.ns, fun b o e => F.le b o (k b o e), fun P hP => none' _ (F.offT P hP), none' _ F.offL, F.hL, fun p hp => let ⟨h1, h2, h3⟩ := F.ow p hp; ⟨h1, none' _ h2, h3⟩, F.nodup, F.ext, fun b o e hb => F.new b o (k b o e) hb, h0, F.os, F.gs⟩
theorem Fx.callE {A : Around} {t : Sem Value} {Φ : Heap → St → Value → Prop} {Q E : Value → Shared → Prop} (F : Fx B md s₀ st₀ st L own l s) (C : Spec B A [] st s t Φ)
  (k : ∀ v st' s', St.le st st' → Fx B md s₀ st₀ st' L own l s' → Ext [] s.heap s'.heap → Φ s'.heap st' v → Q v s') : wpAny (model B.prog B.w) A t Q E s :=
 C Q E fun v s' I X hos hΦ => by
  obtain ⟨le, F'⟩ := F.after (own' := own) I X hos (fun z h => nomatch h) rfl (fun p hp => X.1 _ _ (F.notTT (F.ow p hp).2.2.2.2) (fun h => nomatch h) (F.ow p hp).1) (by
   obtain ⟨m, ⟨oL, es, ep, e, r⟩, hm⟩ := F.ns
   exact ⟨m, ⟨oL, es, ep, X.1 _ _ (F.notTT (Nat.le_trans F.gs F.hL)) (fun h => nomatch h) e, r⟩, hm⟩)
  exact k v _ s' le F' X hΦ
theorem szL : 900 ≤ sizeLine := by rw [sizeLine_eq]; decide
section
variable {g : Nat} {a C I lst : Addr} {oa : Obj} {ws : List PySem.Str}
noncomputable def GRun (B : Bs) (md : List Addr) (s₀ : Shared) (st₀ st : St) (L : Addr) (l : List (Str × Value)) (g : Nat) (a C I lst : Addr) (oa : Obj) (i : Nat) (s : Shared) : Prop :=
 ∃ oC oI, IterO oI lst i ∧ (∃ m, s.heap.Ns C m) ∧ Fx B md s₀ st₀ st L [(I, oI), (C, oC), (a, oa)] l s ∧ s.gens[g]? = some .running
noncomputable def GEnd (B : Bs) (md : List Addr) (s₀ : Shared) (st₀ st : St) (L : Addr) (l : List (Str × Value)) (g : Nat) (I C : Addr) (s₁ s : Shared) : Prop :=
 Fx B md s₀ st₀ st L [] l s ∧ s.gens[g]? = some .running ∧ Ext [I, C] s₁.heap s.heap
noncomputable def GY (B : Bs) (md : List Addr) (s₀ : Shared) (st₀ st : St) (L : Addr) (l : List (Str × Value)) (g : Nat) (a C I lst : Addr) (oa : Obj) (ws : List PySem.Str) : Protocol := fun m s₁ v s kap =>
 ∃ i w t, ws[i]? = some w ∧ i + 1 + m = ws.length ∧ v = .str w t ∧ GRun B md s₀ st₀ st L l g a C I lst oa (i + 1) s ∧ Ext [I, C] s₁.heap s.heap ∧ ∀ s'', GRun B md s₀ st₀ st L l g a C I lst oa (i + 1) s'' → kap (.send .none) s''
noncomputable def GR (B : Bs) (md : List Addr) (s₀ : Shared) (st₀ st : St) (L : Addr) (l : List (Str × Value)) (g : Nat) (I C : Addr) : Nat → Shared → Shared → Prop := fun n s₁ s => n = 0 ∧ GEnd B md s₀ st₀ st L l g I C s₁ s
noncomputable abbrev GEnds (B : Bs) (md : List Addr) (s₀ : Shared) (st₀ st : St) (L : Addr) (l : List (Str × Value)) (g : Nat) (I C : Addr) : GenEnd := fun n x r y => r = .ok .next ∧ GR B md s₀ st₀ st L l g I C n x y
noncomputable def GElt (B : Bs) (md : List Addr) (s₀ : Shared) (st₀ st : St) (A : Around) (C : Addr) (xn : Str) (elt : Expr) (cenv : Env) (vs : List Value) (ws : List PySem.Str) : Prop :=
 ∀ (i : Nat) x w G own' s' E', vs[i]? = some x → ws[i]? = some w → Fx (B.wg G) md s₀ st₀ st C own' [(xn, x)] s' →
  wpAny (model B.prog B.w) A (eval elt cenv) (fun v s'' => ∃ st'' t, St.le st st'' ∧ v = .str w t ∧ Fx (B.wg G) md s₀ st₀ st'' C own' [(xn, x)] s'' ∧ Ext [] s'.heap s''.heap) E' s'
theorem Ext.but {d : Addr} {h h' : Heap} {md : List Addr} (x : Heap.ExtBut d h h') (hz : h.objs.size ≤ h'.objs.size) (hd : d ∈ md) : Ext md h h' := ⟨fun b o z hb e => x b o (fun q => hb (q ▸ hd)) e, hz⟩
theorem seg_loopF {elt iter : Expr} {xn : Str} {px : Pos} {scope : Scope} {pos : Pos} {cenv : Env} {vs : List Value} (O : B.Ok) (h0 : St.le st₀ st) (hh : A.handled = none)
  (hx : cenv.kindOf xn = some .local) (hk : cenv.scope.kind = .function) (hco : cenv.scope.isCoroutine = false) (hloc : cenv.locals = C) (hC : s₀.heap.objs.size ≤ C) (hL : s₀.heap.objs.size ≤ L) (hl : Lst st lst vs) (hlen : vs.length = ws.length)
  (helt : GElt B md s₀ st₀ st (A.over (.compLoop (.GeneratorExp elt [⟨.Name xn px, iter, [], 0⟩] scope pos) 0 (.ref I) .none cenv) []) C xn elt cenv vs ws) :
  ∀ (k i : Nat) (s s₁ : Shared), i + k = ws.length → Ext [I, C] s₁.heap s.heap → GRun B md s₀ st₀ st L l g a C I lst oa i s →
   Seg (model B.prog B.w) A (GEnds B md s₀ st₀ st L l g I C) (GY B md s₀ st₀ st L l g a C I lst oa ws) k s₁
    (.compLoop (.GeneratorExp elt [⟨.Name xn px, iter, [], 0⟩] scope pos) 0 (.ref I) .none cenv)
    ((model B.prog B.w).den (.compLoop (.GeneratorExp elt [⟨.Name xn px, iter, [], 0⟩] scope pos) 0 (.ref I) .none cenv)) [] s := by
 have hh' : (A.over (.compLoop (.GeneratorExp elt [⟨.Name xn px, iter, [], 0⟩] scope pos) 0 (.ref I) .none cenv) []).handled = none := hh
 have mI : ∀ x ∈ ([I] : List Addr), x ∈ ([I, C] : List Addr) := fun x h => by cases List.mem_singleton.mp h; exact .head _
 intro k
 induction k with
 | zero =>
  intro i s s₁ hk' hX hR
  obtain ⟨oC, oI, hI, hm, F, hrun⟩ := hR
  show Seg _ A _ _ _ s₁ _ ((compTurn (.GeneratorExp elt [⟨.Name xn px, iter, [], 0⟩] scope pos) 0 (.ref I) .none cenv).onRaise (PySem.leaving cenv)) [] s
  rw [compTurn_gen, Sem.onRaise_eq_wrap]
  refine seg_bind_wrap (wpAny_standAt ?_)
  obtain ⟨nl, el⟩ := hl.la.get (F.drop (List.sublist_cons_self _ _))
  refine seg_bind_wrap (next_end hh' (F.ow _ (.head _)).1 hI el (List.getElem?_eq_none (Nat.le_of_eq (hlen.trans hk'.symm))) fun h' hs hz => ?_)
  exact seg_end (.ok .next) ⟨rfl, rfl, (F.grown (t := s.toks) hI.no hs hz).drop (List.nil_sublist _), hrun, hX.trans (Ext.but hs hz (.head _)) fun z h => h⟩
 | succ k ih =>
  intro i s s₁ hk' hX hR
  have hlt : i < ws.length := hk' ▸ Nat.lt_add_of_pos_right (Nat.succ_pos k)
  obtain ⟨x, hx'⟩ : ∃ x, vs[i]? = some x := ⟨vs[i]'(hlen.symm ▸ hlt), List.getElem?_eq_getElem _⟩
  obtain ⟨w, hw⟩ : ∃ w, ws[i]? = some w := ⟨ws[i], List.getElem?_eq_getElem hlt⟩
  obtain ⟨oC, oI, hI, hm, F, hrun⟩ := hR
  show Seg _ A _ _ _ s₁ _ ((compTurn (.GeneratorExp elt [⟨.Name xn px, iter, [], 0⟩] scope pos) 0 (.ref I) .none cenv).onRaise (PySem.leaving cenv)) [] s
  rw [compTurn_gen, Sem.onRaise_eq_wrap]
  refine seg_bind_wrap (wpAny_standAt ?_)
  have hgs : g < s.gens.size := (Array.getElem?_eq_some_iff.mp hrun).1
  refine seg_bind_wrap (wpAny_pyNext_list_item ⟨_, (F.ow _ (.head _)).1, hI.1, hI.2⟩ (hl.la.list (F.drop (List.sublist_cons_self _ _))) (by simpa using hx') fun h2 hit hs2 => ?_)
  obtain ⟨o', i1, i2, i3⟩ := hit
  have F2 := F.up.changeI (t := s.toks) hI.no hs2 i1
  have X2 : Ext [I, C] s.heap h2 := Ext.but hs2.extBut (by rw [hs2.1]; exact Nat.le_refl _) (.head _)
  refine seg_bind_wrap (wpAny_of_eq (rfl : letOwnedTupleGo (.Name xn px) (.ref I) x = pure ()) ?_)
  have F2' := F2.ownPerm (own' := [(C, oC), (I, o'), (a, oa)]) (List.Perm.swap ..)
  have hm2 : ∃ m, h2.Ns C m := by
   obtain ⟨m, hn⟩ := hm
   obtain ⟨oC', es, ep, e, r⟩ := hn
   have e1 := (F.ow _ (.tail _ (.head _))).1
   dsimp only at e1
   rw [e1] at e; cases e
   exact ⟨m, _, es, ep, (F2'.ow _ (.head _)).1, r⟩
  obtain ⟨oL, hback, F3⟩ := F2'.swap (l' := []) hC (let ⟨m, h⟩ := hm2; ⟨m, h, fun z h => nomatch h⟩)
  refine seg_bind_wrap (wpAny_assign_Name (Fx.storeX (B := B.wg s.gens) F3 hloc hx hk fun s3 F4 X4 => ?_))
  refine seg_bind_wrap (wpAny_tests_nil ?_)
  simp only [if_true]
  have hy : ∀ v, yieldOut cenv v = yieldValue v := fun v => by simp only [yieldOut, hco, Bool.false_eq_true, if_false]
  simp only [hy]
  rw [Sem.bind_eq_wrap', Sem.bind_eq_wrap', Sem.wrap_wrap, Sem.wrap_wrap]
  refine seg_wrap (wpAny_mono (helt i x w s.gens _ s3 _ hx' hw F4) (fun y s4 h4 => ?_) fun z z e => e)
  obtain ⟨st4, t, le4, rfl, F5, X5⟩ := h4
  have F5' := F5.shr le4 h0
  have hm5 : ∃ m, s4.heap.Ns C m := let ⟨m, h, _⟩ := F5.ns; ⟨m, h⟩
  have hL5 : ∃ m, s4.heap.Ns L m ∧ ∀ p ∈ l, m p.1 = some p.2 := by
   obtain ⟨m, h1, h2⟩ := hback
   exact ⟨m, h1 _ (F5.ow _ (.head _)).1, h2⟩
  obtain ⟨oC5, _, F6⟩ := F5'.swap (l' := l) hL hL5
  have F7 := Fx.down O F6 fun k hk => F.inv.bare.2 k hk
  have hrun4 : s4.gens[g]? = some .running := (F6.inv.bare.2 g hgs).trans hrun
  have X : Ext [I, C] s₁.heap s4.heap := ((hX.trans X2 fun z h => h).trans X4 fun x h => by cases List.mem_singleton.mp h; exact .tail _ (.head _)).trans X5 fun z h => nomatch h
  refine seg_at (seg_yield rfl rfl rfl ⟨i, w, t, hw, (Nat.succ_add_eq_add_succ i k).trans hk', rfl, ⟨oC5, o', ⟨i2, i3⟩, hm5, F7.ownPerm (List.Perm.swap ..), hrun4⟩, X, fun s'' h => ?_⟩)
  exact seg_again rfl (ih (i + 1) s'' s'' ((Nat.succ_add_eq_add_succ i k).trans hk') (Ext.refl _ _) h)
theorem seg_startF {elt iter : Expr} {xn : Str} {px : Pos} {scope : Scope} {pos : Pos} {cenv : Env} {vs : List Value} (O : B.Ok) (h0 : St.le st₀ st) (hh : A.handled = none)
  (hx : cenv.kindOf xn = some .local) (hk : cenv.scope.kind = .function) (hco : cenv.scope.isCoroutine = false) (hloc : cenv.locals = C) (hC : s₀.heap.objs.size ≤ C) (hL : s₀.heap.objs.size ≤ L) (hl : Lst st lst vs) (hlen : vs.length = ws.length)
  (helt : GElt B md s₀ st₀ st (A.over (.compLoop (.GeneratorExp elt [⟨.Name xn px, iter, [], 0⟩] scope pos) 0 (.ref I) .none cenv) []) C xn elt cenv vs ws) (s : Shared) (h : GRun B md s₀ st₀ st L l g a C I lst oa 0 s) :
   Seg (model B.prog B.w) A (GEnds B md s₀ st₀ st L l g I C) (GY B md s₀ st₀ st L l g a C I lst oa ws) ws.length s
    (.compStart (.GeneratorExp elt [⟨.Name xn px, iter, [], 0⟩] scope pos) 0 (.ref I) .none cenv)
    ((model B.prog B.w).den (.compStart (.GeneratorExp elt [⟨.Name xn px, iter, [], 0⟩] scope pos) 0 (.ref I) .none cenv)) [] s := by
 have loop := seg_loopF (iter := iter) (px := px) (scope := scope) (pos := pos) O h0 hh hx hk hco hloc hC hL hl hlen helt _ 0 s s (Nat.zero_add _) (Ext.refl _ _) h
 obtain ⟨oC, oI, hI, hm, F, hrun⟩ := h
 show Seg _ A _ _ _ s _ ((compStart (.GeneratorExp elt [⟨.Name xn px, iter, [], 0⟩] scope pos) 0 (.ref I) .none cenv).onRaise (PySem.leaving cenv)) [] s
 unfold compStart
 rw [Sem.onRaise_eq_wrap]
 show Seg _ A _ _ _ s _ ((ask >>= _).wrap _ _ _ _) [] s
 refine seg_bind_wrap (wpAny_askSetting ?_)
 split
 ·exact seg_again rfl loop
 ·first
   | exact seg_bind_wrap (wpAny_rule (seg_bind_wrap (wpAny_standAt (seg_bind_wrap (wpAny_pyIter_listiter ⟨_, (F.ow _ (.head _)).1, hI.1, hI.2⟩ (seg_again rfl loop))))))
   | (refine seg_bind_wrap (wpAny_rule ?_); show Seg _ A _ _ _ s _ ((standAt iter.pos >>= _).wrap _ _ _ _) [] s; exact seg_bind_wrap (wpAny_standAt (seg_bind_wrap (wpAny_pyIter_listiter ⟨_, (F.ow _ (.head _)).1, hI.1, hI.2⟩ (seg_again rfl loop)))))
noncomputable def GOut (B : Bs) (A : Around) (md : List Addr) (s₀ : Shared) (st₀ st : St) (L : Addr) (own : List (Addr × Obj)) (l : List (Str × Value)) (g : Nat) (a C I lst : Addr) (oa : Obj) (ws : List PySem.Str) (i : Nat) (s : Shared) : Prop :=
 ∃ oC oI gs, IterO oI lst i ∧ (∃ m, s.heap.Ns C m) ∧ Fx B md s₀ st₀ st L ((I, oI) :: (C, oC) :: (a, oa) :: own) l s ∧ s.gens[g]? = some gs ∧ gs.bare = true ∧
  ∀ s'' k, i + k = ws.length → GRun B md s₀ st₀ st L l g a C I lst oa i s'' → gs.Goes (model B.prog B.w) A (GEnds B md s₀ st₀ st L l g I C) (GY B md s₀ st₀ st L l g a C I lst oa ws) k (.send .none) s''
noncomputable def IsG (oa : Obj) (g : Nat) : Prop := ∃ nm qn, oa.cls = .type "generator" ∧ oa.data = .fields #[.int g 0, nm, qn] ∧ oa.slots = #[]
theorem Fx.merge {oC oI oC2 oI2 : Obj} {s₁ : Shared} (F : Fx B md s₀ st₀ st L ((I, oI) :: (C, oC) :: (a, oa) :: own) l s) (F2 : Fx B md s₀ st₀ st L [(I, oI2), (C, oC2), (a, oa)] l s₁) (X : Ext [I, C] s.heap s₁.heap) :
  Fx B md s₀ st₀ st L ((I, oI2) :: (C, oC2) :: (a, oa) :: own) l s₁ :=
 { F2 with
  ow := fun p hp => by
   rcases List.mem_cons.mp hp with rfl | hp
   ·exact F2.ow _ (.head _)
   ·rcases List.mem_cons.mp hp with rfl | hp
    ·exact F2.ow _ (.tail _ (.head _))
    ·have h := F.ow p (.tail _ (.tail _ hp))
     refine ⟨X.1 _ _ (F.notTT h.2.2.2.2) (fun q => ?_) h.1, h.2⟩
     have nd := List.nodup_cons.mp F.nodup
     have nd1 := List.nodup_cons.mp nd.2
     have hm : p.1 ∈ ((a, oa) :: own).map (·.1) := List.mem_map_of_mem hp
     rcases List.mem_cons.mp q with q | q
     ·exact nd.1 (.tail _ (q ▸ hm))
     ·exact nd1.1 (List.mem_singleton.mp q ▸ hm)
  nodup := F.nodup }
theorem Fx.mergeE {oC oI : Obj} {s₁ : Shared} (F : Fx B md s₀ st₀ st L ((I, oI) :: (C, oC) :: (a, oa) :: own) l s) (F2 : Fx B md s₀ st₀ st L [] l s₁) (X : Ext [I, C] s.heap s₁.heap) : Fx B md s₀ st₀ st L own l s₁ :=
 { F2 with
  ow := fun p hp => by
   have h := F.ow p (.tail _ (.tail _ (.tail _ hp)))
   refine ⟨X.1 _ _ (F.notTT h.2.2.2.2) (fun q => ?_) h.1, h.2⟩
   have nd := List.nodup_cons.mp F.nodup
   have nd1 := List.nodup_cons.mp nd.2
   have hm : p.1 ∈ ((a, oa) :: own).map (·.1) := .tail _ (List.mem_map_of_mem hp)
   rcases List.mem_cons.mp q with q | q
   ·exact nd.1 (.tail _ (q ▸ hm))
   ·exact nd1.1 (List.mem_singleton.mp q ▸ hm)
  nodup := (List.nodup_cons.mp (List.nodup_cons.mp (List.nodup_cons.mp F.nodup).2).2).2 }
theorem GOut.run {i : Nat} (h : GOut B A md s₀ st₀ st L own l g a C I lst oa ws i s) (hg : B.gv.size ≤ g) : GRun B md s₀ st₀ st L l g a C I lst oa i (s.setGen g .running) := by
 obtain ⟨oC, oI, gs, hI, hm, F, hgs, hb, _⟩ := h
 exact ⟨oC, oI, hI, hm, (F.setG hgs hg rfl).drop (((List.nil_sublist _).cons_cons _).cons_cons _ |>.cons_cons _), setGen_self hgs⟩
theorem GOut.next {i : Nat} {w : PySem.Str} {Q : Option Value → Shared → Prop} {E : Value → Shared → Prop} (h : GOut B A.in1 md s₀ st₀ st L own l g a C I lst oa ws i s) (hg : B.gv.size ≤ g) (ha : IsG oa g) (hh : A.handled = none) (hr : A.depth < recursionLimit) (hw : ws[i]? = some w)
  (hQ : ∀ t s', GOut B A.in1 md s₀ st₀ st L own l g a C I lst oa ws (i + 1) s' → Q (some (.str w t)) s') : wpAny (model B.prog B.w) A (pyNext (.ref a)) Q E s := by
 have hrun := h.run hg
 obtain ⟨r, er⟩ := Nat.exists_eq_add_of_lt (List.getElem?_eq_some_iff.mp hw).1
 obtain ⟨oC, oI, gs, hI, hm, F, hgs, hb, hgo⟩ := h
 obtain ⟨nm, qn, a1, a2, a3⟩ := ha
 refine wpAny_pyNext_genexpQ (P := GR B md s₀ st₀ st L l g I C) hh (F.ok.lim.keeps F.inv.base) hr ⟨oa, nm, qn, (F.ow _ (.tail _ (.tail _ (.head _)))).1, a1, a2, a3⟩ hgs (hgo _ (r + 1) er.symm hrun) (fun v s₁ gs' hb' hv => ?_) (fun s₁ hp h' hk => ?_)
 ·obtain ⟨i', w', t, hw', he, rfl, hrun', X, hkap⟩ := hv
  have : i' = i := Nat.succ.inj (Nat.add_right_cancel (he.trans (er.trans (Nat.add_right_comm i r 1))))
  subst this
  rw [hw] at hw'; cases hw'
  obtain ⟨oC2, oI2, hI2, hm2, F2, hg2⟩ := hrun'
  refine hQ t _ ⟨oC2, oI2, gs', hI2, hm2, (F.merge F2 X).setG hg2 hg hb', setGen_self hg2, hb', fun s'' k hk h'' => ?_⟩
  cases Nat.add_left_cancel (hk.trans he.symm)
  exact hkap s'' h''
 ·exact (Nat.succ_ne_zero _ hp.1).elim
theorem GOut.done {Q : Option Value → Shared → Prop} {E : Value → Shared → Prop} (h : GOut B A.in1 md s₀ st₀ st L own l g a C I lst oa ws ws.length s) (hg : B.gv.size ≤ g) (ha : IsG oa g) (hh : A.handled = none) (hr : A.depth < recursionLimit)
  (hQ : ∀ s', Fx B md s₀ st₀ st L own l s' → Q none s') : wpAny (model B.prog B.w) A (pyNext (.ref a)) Q E s := by
 have hrun := h.run hg
 obtain ⟨oC, oI, gs, hI, hm, F, hgs, hb, hgo⟩ := h
 obtain ⟨nm, qn, a1, a2, a3⟩ := ha
 refine wpAny_pyNext_genexpQ (P := GR B md s₀ st₀ st L l g I C) hh (F.ok.lim.keeps F.inv.base) hr ⟨oa, nm, qn, (F.ow _ (.tail _ (.tail _ (.head _)))).1, a1, a2, a3⟩ hgs (hgo _ 0 rfl hrun) (fun v s₁ gs' hb' hv => ?_) (fun s₁ hp h' hk => ?_)
 ·obtain ⟨i', w', t, hw', he, rfl, hrun', X, hkap⟩ := hv
  have := hkap _ hrun'
  exact this.elim
 ·obtain ⟨_, F2, hg2, X⟩ := hp
  exact hQ _ (((F.mergeE F2 X).setG (y := .finished) hg2 hg rfl).keeps (t := s₁.toks) hk)
theorem GOut.type {i : Nat} (h : GOut B A md s₀ st₀ st L own l g a C I lst oa ws i s) (ha : IsG oa g) : s.TypeIs (.ref a) "generator" ∧ s.heap.IsGen a g := by
 obtain ⟨oC, oI, gs, hI, hm, F, hgs, hb, hgo⟩ := h
 obtain ⟨nm, qn, a1, a2, a3⟩ := ha
 have e := (F.ow _ (.tail _ (.tail _ (.head _)))).1
 exact ⟨⟨_, e, a1⟩, oa, nm, qn, e, a1, a2, a3⟩
theorem GOut.chg {own' : List (Addr × Obj)} {i : Nat} {s' : Shared} (h : GOut B A md s₀ st₀ st L own l g a C I lst oa ws i s) (k : ∀ own0, Fx B md s₀ st₀ st L (own0 ++ own) l s → Fx B md s₀ st₀ st L (own0 ++ own') l s' ∧ s'.gens = s.gens) : GOut B A md s₀ st₀ st L own' l g a C I lst oa ws i s' := by
 obtain ⟨oC, oI, gs, hI, hm, F, hgs, hb, hgo⟩ := h
 obtain ⟨F', hG⟩ := k [(I, oI), (C, oC), (a, oa)] F
 refine ⟨oC, oI, gs, hI, ?_, F', by rw [hG]; exact hgs, hb, hgo⟩
 obtain ⟨m, oC', es, ep, e, r⟩ := hm
 have e1 := (F.ow _ (.tail _ (.head _))).1
 dsimp only at e1
 rw [e1] at e; cases e
 exact ⟨m, _, es, ep, (F'.ow _ (.tail _ (.head _))).1, r⟩
end
section
variable {g : Nat} {a C I lst : Addr} {oa : Obj} {ws : List PySem.Str}
theorem strV_snoc (l : List (PySem.Str × Tok)) (w : PySem.Str) (t : Tok) : strValues (l ++ [(w, t)]) = strValues l ++ [.str w t] := by simp [strValues]
theorem GOut.loop {R : Result → Shared → Prop} {res : Value} (S : Addr) (hg : B.gv.size ≤ g) (ha : IsG oa g) (hh : A.handled = none) (hr : A.depth < recursionLimit) (hws : ws.length ≤ 900) :
  ∀ (k i : Nat) (s : Shared) (acc : List (PySem.Str × Tok)) (n : Nat), i + k = ws.length → acc.map (·.1) = ws.take i → GOut B A.in1.in1 md s₀ st₀ st L ((S, lstO (strValues acc) n) :: own) l g a C I lst oa ws i s →
   (∀ s' acc' n', acc'.map (·.1) = ws → Fx B md s₀ st₀ st L ((S, lstO (strValues acc') n') :: own) l s' → R (.ok (.ret res)) s') →
   codeAny (model B.prog B.w) A (.builtin "list.extend.loop" ⟨[.ref S, .ref a, res], []⟩) R s := by
 intro k
 induction k with
 | zero =>
  intro i s acc n hk hacc G hR
  replace hk : i = ws.length := hk
  subst hk
  refine codeAny_builtin F.entry_extend_loop ?_
  rw [Around.under_plainId F.plain_extend_loop _]
  show wpAny _ A.in1 (pyNext (.ref a) >>= _) _ _ s
  refine wpAny_bind (G.done hg ha hh hr fun s' F' => ?_)
  exact wpAny_pure (hR s' acc n (by rw [hacc]; exact List.take_length) F')
 | succ k ih =>
  intro i s acc n hk hacc G hR
  have hlt : i < ws.length := hk ▸ Nat.lt_add_of_pos_right (Nat.succ_pos k)
  have hw : ws[i]? = some ws[i] := List.getElem?_eq_getElem hlt
  refine codeAny_builtin F.entry_extend_loop ?_
  rw [Around.under_plainId F.plain_extend_loop _]
  show wpAny _ A.in1 (pyNext (.ref a) >>= _) _ _ s
  refine wpAny_bind (G.next hg ha hh hr hw fun t s' G' => ?_)
  have hlen : acc.length = i := by
   have := congrArg List.length hacc
   rwa [List.length_map, List.length_take, Nat.min_eq_left (Nat.le_of_lt hlt)] at this
  have hS : s'.heap.get? S = some (lstO (strValues acc) n) := by
   obtain ⟨oC, oI, gs, _, _, F, _⟩ := G'
   exact (F.ow _ (.tail _ (.tail _ (.tail _ (.head _))))).1
  have hsz : (strValues acc).length = i := by simp [strValues, hlen]
  show wpAny _ A.in1 (updateSeq S (·.push (.str ws[i] t)) >>= _) _ _ _
  refine wpAny_bind ?_
  refine wpAny_updateSeq hS rfl (wpAny_pure ⟨plainId_quiet F.plain_extend_loop _, ?_⟩) (by rw [List.size_toArray, hsz]; exact Nat.le_trans (Nat.le_of_lt hlt) (Nat.le_trans hws szL)) (by show (Array.push _ _).size ≤ _; rw [Array.size_push, List.size_toArray, hsz]; exact Nat.le_trans hlt (Nat.le_trans hws (Nat.le_succ_of_le szL)))
  refine ih (i + 1) _ (acc ++ [(ws[i], t)]) (n + 1) ((Nat.succ_add_eq_add_succ i k).trans hk) (by rw [List.map_append, hacc, take_snoc hw]; rfl) (G'.chg fun own0 F => ⟨?_, rfl⟩) hR
  have F1 := F.ownPerm (own' := (S, lstO (strValues acc) n) :: (own0 ++ own)) List.perm_middle.symm
  have F2 := F1.update (f := Obj.mapSeq fun y => y.push (.str ws[i] t)) (t := s'.toks) (fun vs e => nomatch e) rfl
  have q : Obj.mapSeq (fun y => y.push (.str ws[i] t)) (lstO (strValues acc) n) = lstO (strValues (acc ++ [(ws[i], t)])) (n + 1) := by
   rw [strV_snoc]
   unfold Obj.mapSeq lstO
   simp
  rw [q] at F2
  exact F2.ownPerm List.perm_middle
theorem GOut.collect {Q : List Value → Shared → Prop} {E : Value → Shared → Prop} (G : GOut B A.in1.in1 md s₀ st₀ st L own l g a C I lst oa ws 0 s) (hg : B.gv.size ≤ g) (ha : IsG oa g) (hh : A.handled = none) (hr : A.depth < recursionLimit) (hws : ws.length ≤ 900)
  (hQ : ∀ s' acc, acc.map (·.1) = ws → Fx B md s₀ st₀ st L own l s' → Q (strValues acc) s') : wpAny (model B.prog B.w) A (PySem.collect (.ref a)) Q E s := by
 have hSI : s.heap.objs.size ≠ a := by
  obtain ⟨oC, oI, gs, _, _, F, _⟩ := G
  exact fun e => Nat.lt_irrefl _ (e ▸ Heap.lt_size (F.ow _ (.tail _ (.tail _ (.head _)))).1)
 unfold PySem.collect
 refine wpAny_bind (wpAny_runValue (codeAny_builtin F.entry_proto_collect ?_))
 rw [Around.under_plainId F.plain_proto_collect _]
 show wpAny _ A.in1 (newList [] >>= fun l => again (.builtin "list.__iadd__" ⟨[l, .ref a], []⟩)) _ _ s
 refine wpAny_bind (wpAny_newObj_type ?_)
 refine wpAny_pure ⟨plainId_quiet F.plain_list_iadd _, codeAny_builtin F.entry_list_iadd ?_⟩
 rw [Around.under_plainId F.plain_list_iadd _]
 have G1 : GOut B A.in1.in1 md s₀ st₀ st L ((s.heap.objs.size, lstO [] 0) :: own) l g a C I lst oa ws 0 { s with heap := s.heap.push (lstO [] 0) } :=
  G.chg fun own0 F => ⟨(F.pushO (o := lstO [] 0) (t := s.toks) rfl).ownPerm List.perm_middle, rfl⟩
 generalize s.heap.objs.size = S at G1 hSI
 show wpAny _ A.in1 (Builtin.List.listExtendWith (.ref S) (.ref a) (.ref S)) _ _ _
 unfold Builtin.List.listExtendWith
 refine wpAny_bind (wpAny_typeOf (G1.type ha).1 ?_)
 have h1 : Builtin.List.listSameRef (.ref S) (.ref a) = false := by simp [Builtin.List.listSameRef, hSI]
 have h2 : (Value.type "generator" == Value.type "list") = false := by decide
 have h3 : (Value.type "generator" == Value.type "tuple") = false := by decide
 simp only [h1, h2, h3, Bool.or_false, Bool.false_eq_true, if_false]
 refine wpAny_bind (wpAny_pyIter_gen (G1.type ha).2 ?_)
 refine wpAny_bind (wpAny_holding ?_)
 unfold Builtin.List.listLengthHint
 refine wpAny_bind (wpAny_specialOf (G1.type ha).1 F.gen_no_len ?_)
 show wpAny _ A.in1 (specialOf (Value.ref a) (Str.ofString "__length_hint__") >>= _) _ _ _
 refine wpAny_bind (wpAny_specialOf (G1.type ha).1 F.gen_no_hint ?_)
 refine wpAny_pure ?_
 show wpAny _ A.in1 (rule "list.extend.makes-room" >>= fun z => Builtin.List.listTouch (.ref S) >>= fun z => again (.builtin "list.extend.loop" ⟨[.ref S, .ref a, .ref S], []⟩)) _ _ _
 refine wpAny_bind (wpAny_rule ?_)
 refine wpAny_bind ?_
 show wpAny _ A.in1 (updateSeq S (·.push .none) >>= fun z => updateSeq S (·.pop)) _ _ _
 have hS1 : (s.heap.push (lstO [] 0)).get? S = some (lstO [] 0) := by
  obtain ⟨oC, oI, gs, _, _, F, _⟩ := G1
  exact (F.ow _ (.tail _ (.tail _ (.tail _ (.head _))))).1
 refine wpAny_bind (wpAny_updateSeq hS1 rfl ?_)
 have hS2 := Heap.get?_update_self (Obj.mapSeq (·.push Value.none)) hS1 rfl
 refine wpAny_updateSeq hS2 rfl ?_
 refine wpAny_pure ⟨plainId_quiet F.plain_extend_loop _, ?_⟩
 refine GOut.loop (A := A) (own := own) S hg ha hh hr hws _ 0 _ [] 2 (Nat.zero_add _) rfl (G1.chg fun own0 F => ⟨?_, rfl⟩) fun s' acc' n' hacc F' => ?_
 ·have F1 := F.ownPerm (own' := (S, lstO [] 0) :: (own0 ++ own)) List.perm_middle.symm
  have F2 := F1.update (f := Obj.mapSeq fun y => y.push .none) (t := s.toks) (fun vs e => nomatch e) rfl
  have F3 := F2.update (f := Obj.mapSeq fun y => y.pop) (t := s.toks) (fun vs e => nomatch e) rfl
  exact F3.ownPerm List.perm_middle
 ·show wpAny _ A (load S >>= _) _ _ s'
  refine wpAny_bind (wpAny_load (F'.ow _ (.head _)).1 ?_)
  refine wpAny_pure ?_
  show Q (strValues acc').toArray.toList s'
  rw [List.toList_toArray]
  exact hQ s' acc' hacc (F'.drop (List.sublist_cons_self _ _))
theorem GOut.join {sep : PySem.Str} {t : Tok} {Q E : Value → Shared → Prop} (G : GOut B A.in1.in1.in1 md s₀ st₀ st L own l g a C I lst oa ws 0 s) (hg : B.gv.size ≤ g) (ha : IsG oa g) (hh : A.handled = none) (hr : A.depth < recursionLimit) (hws : ws.length ≤ 900) (hok : JoinOk sep ws = true)
  (hQ : ∀ t s', Fx B md s₀ st₀ st L own l s' → Q (.str (Txt.join sep ws) t) s') : wpAny (model B.prog B.w) A (PySem.call (.builtin "str.join") [.str sep t, .ref a]) Q E s := by
 refine wpAny_call (codeAny_call_builtin F.slot_str_join.plain F.entry_str_join (F.slot_str_join.check _ _ _ _ _ _ _ _ (typeIs_str _ _ _) (F.args_str_join_2 _ _) ?_))
 rw [join_tree_other]
 refine wpAny_bind (wpAny_typeOf (G.type ha).1 ?_)
 show wpAny _ A.in1 ((pyIter (.ref a)).tryCatch _ >>= fun it => PySem.collect it >>= fun items => joinTail sep items) _ _ s
 refine wpAny_bind (wpAny_tryCatch (wpAny_pyIter_gen (G.type ha).2 ?_))
 refine wpAny_bind (GOut.collect (A := A.in1) G hg ha hh hr hws fun s' acc hacc F' => ?_)
 subst hacc
 unfold JoinOk at hok
 rw [Bool.not_eq_true'] at hok
 have g : Gives (joinTail sep (strValues acc)) (joinMade sep acc) := by
  have g0 := gives_joinTail sep acc hok
  cases acc with
  | nil => exact g0
  | cons p r => cases r with
   | nil => exact g0
   | cons q r' => exact g0
 exact g B.prog B.w A (wants Q E) s' (post_join acc ⟨joinFit_length hok, fun t' k => hQ t' _ F'.toks⟩)
end
theorem Fx.genexp {elt iter : Expr} {xn : Str} {px : Pos} {scope : Scope} {pos : Pos} {env : Env} {c P lst : Addr} {q qual : Str} {names : List (Str × NameKind)} {cl : List (Str × Addr)} {vs : List Value} {ws : List PySem.Str} {A' : Around} {Q E : Value → Shared → Prop}
  (F : Fx B md s₀ st₀ st L own l s) (N : En env L names cl qual (.ref c)) (hT : (c, P, q) ∈ tabs) (hq : qual ++ ".<locals>." ++ "<genexpr>" = q) (hC : codeHdB (hd.heap_39 B.w.params) c P = true) (hr : A.depth < recursionLimit) (hh' : A'.handled = none)
  (hco : scope.isCoroutine = false) (hclos : closureFor scope env = pure []) (hcell : ∀ y ∈ scope.names, y.2 ≠ .cell) (h0 : scope.names.lookup (".0" : Str) = some NameKind.local) (hx : scope.names.lookup xn = some .local) (hkind : scope.kind = .function) (hl : Lst st lst vs) (hlen : vs.length = ws.length)
  (hi : wpAny (model B.prog B.w) A (eval iter env) (fun v s' => v = .ref lst ∧ Fx B md s₀ st₀ st L own l s') E s)
  (helt : ∀ C I cv, s₀.heap.objs.size ≤ C → GElt B md s₀ st₀ st (A'.over (.compLoop (.GeneratorExp elt [⟨.Name xn px, iter, [], 0⟩] scope pos) 0 (.ref I) .none (genEnv scope [] C cv builtinsNs env)) []) C xn elt (genEnv scope [] C cv builtinsNs env) vs ws)
  (h : ∀ a g C I oa s', B.gv.size ≤ g → IsG oa g → GOut B A' md s₀ st₀ st L own l g a C I lst oa ws 0 s' → Q (.ref a) s') (hs : ∀ x, genFold iter env x = pure x) :
  wpAny (model B.prog B.w) A (eval (.GeneratorExp elt [⟨.Name xn px, iter, [], 0⟩] scope pos) env) Q E s := by
 refine wpAny_GeneratorExp_make hco hclos hcell h0 hkind hr (wpAny_mono hi (fun xv s₁ h₁ => ?_) fun z z e => e) hs
 obtain ⟨rfl, F1⟩ := h₁
 refine F1.pyIterL hl.la fun I oI s₂ hI F2 => ⟨F2.ok.lim.keeps F2.inv.base, ?_⟩
 have hqual : env.qual ++ "<genexpr>" = q := by rw [N.qual]; exact hq
 rw [hqual]
 refine F2.genCode N.code hT hC fun cv s₃ F3 z => ?_
 obtain ⟨bm, ob, b1, b2, b3, b4, b5, b6, b7⟩ := F3.ok.bm
 refine wpAny_builtinsFor (N.glob.symm ▸ F3.ok.gl.keeps F3.inv.base) b1 b2 (F3.inv.base _ _ b4) b5 b6 b7 ?_
 intro h' hn hs'
 have F4 := F3.pushO (o := { cls := .type "frame", data := .dict #[] }) (t := s₃.toks) rfl
 have hCl : s₀.heap.objs.size ≤ s₃.heap.objs.size := F3.ext.2
 have helt' := helt s₃.heap.objs.size I cv hCl
 obtain ⟨oC, es, ep, eC, rC⟩ := id hn
 have F5 := F4.changeI (t := s₃.toks) (fun vs e => nomatch e) hs' eC
 have F6 := F5.pushO (o := { cls := .type "generator", data := .fields #[.int s₃.gens.size 0, .str "<genexpr>" (s₃.toks + 1), .str q (s₃.toks + 1 + 1)] }) (t := s₃.toks + 1 + 1 + 1) rfl
 have F7 := F6.gens (G := s₃.gens.push (.fresh (.compStart (.GeneratorExp elt [⟨.Name xn px, iter, [], 0⟩] scope pos) 0 (.ref I) .none (genEnv scope [] s₃.heap.objs.size cv builtinsNs env)))) (F3.inv.bare.1.push rfl) fun k hk => Array.getElem?_push_lt (Nat.lt_of_lt_of_le hk F3.inv.gle) |>.trans (Array.getElem?_eq_getElem _).symm
 have hNs : ((h'.push { cls := .type "generator", data := .fields #[.int s₃.gens.size 0, .str "<genexpr>" (s₃.toks + 1), .str q (s₃.toks + 1 + 1)] })).Ns s₃.heap.objs.size (fun y => if y = ".0" then some (.ref I) else none) := hn.push _
 refine h h'.objs.size s₃.gens.size s₃.heap.objs.size I _ _ F3.inv.gle ⟨_, _, rfl, rfl, rfl⟩ ⟨oC, oI, _, hI, ⟨_, hNs⟩, F7.ownPerm perm3, Array.getElem?_push_size .., rfl, fun s'' k hk hR => ⟨rfl, ?_⟩⟩
 cases (Nat.zero_add k).symm.trans hk
 exact seg_startF (cenv := genEnv scope [] s₃.heap.objs.size cv builtinsNs env) F.ok F.old hh' hx hkind hco rfl hCl F.hL hl hlen helt' s'' hR
noncomputable abbrev tokL : List (Str × Value) := [(("DOT" : Str), (.str "." 274 : Value)), (("OPEN" : Str), (.str "(" 276 : Value)), (("CLOSE" : Str), (.str ")" 278 : Value)), (("NOT" : Str), (.str "-" 282 : Value)), (("AND" : Str), (.str "&" 288 : Value)), (("OR" : Str), (.str "|" 294 : Value)), (("IMP" : Str), (.str "->" 299 : Value)), (("EQ" : Str), (.str "=" 311 : Value)), (("ALL" : Str), (.str "all" 265 : Value)), (("EXISTS" : Str), (.str "exists" 259 : Value))]
noncomputable def tokB (K : Frag) (x : Str) (v : Value) : Bool := match findCls K (.ref 84) (.type "type") x with
 | some (.val u) => u == v
 | _ => false
theorem tok_all (P) : (tokL.all fun p => tokB (hd.heap_39 P) p.1 p.2) = true := by kernel_rfl
theorem tok_cls (P) : (typeIn (hd.heap_39 P) (.ref 84) == some (.type "type") && readsIn (hd.heap_39 P) 84 (.type "type")) = true := by kernel_rfl
theorem tok_handed : ∀ p ∈ tokL, handedIn p.2 = true := by decide
set_option tactic.hygienic true in
theorem Fx.tokA {x : Str} {v : Value} {ex : Bool} {Q E : Value → Shared → Prop} (F : Fx B md s₀ st₀ st L own l s) (hm : (x, v) ∈ tokL) (h : ∀ s', Fx B md s₀ st₀ st L own l s' → Q v s') : wpAny (model B.prog B.w) A (PySem.getAttr (.ref 84) x ex) Q E s := by
 obtain ⟨m, fr⟩ := F.fr
 have hc := tok_cls B.w.params
 simp only [Bool.and_eq_true, beq_iff_eq] at hc
 have ht := List.all_eq_true.mp (tok_all B.w.params) _ hm
 unfold tokB at ht
 split at ht
 ·rename_i u hu
  rw [beq_iff_eq] at ht
  subst ht
  exact cls_val fr F.ok.X hc.1 hc.2 hu (tok_handed _ hm) (h _ F.toks)
 ·cases ht
theorem Fx.addS {x y : Str} {t u : Tok} {Q E : Value → Shared → Prop} (n m : Nat) (F : Fx B md s₀ st₀ st L own l s) (hx : x.length ≤ n) (hy : y.length ≤ m) (hnm : n + m ≤ 1000000) (h : ∀ t s', (x ++ y).length ≤ n + m → Fx B md s₀ st₀ st L own l s' → Q (.str (x ++ y) t) s') :
  wpAny (model B.prog B.w) A (binaryOp .Add (.str x t) (.str y u)) Q E s :=
 PyProof.Rows.add_str (fun t' tk => h t' _ (by rw [PySem.Str.length_append]; o_head qo) F.toks) (by rw [sizeLine_eq]; o_head qo)
theorem Fx.pctE {a C f : Addr} {fs : List (Str × Value)} {w : PySem.Str} {t : Tok} {Q E : Value → Shared → Prop} (F : Fx B md s₀ st₀ st L own l s) (R : Rm A.in1 1) (I : Inst st a C fs) (hb : strB (hd.heap_39 B.w.params) C f = true) (hw : w.length ≤ 1000000)
  (S : At B st s → Spec B A.in1 [] st s (PySem.call (.ref f) [.ref a]) (fun z z v => ∃ t, v = .str w t)) (h : ∀ t st' s', St.le st st' → Fx B md s₀ st₀ st' L own l s' → Ext [] s.heap s'.heap → Q (.str w t) s') : wpAny (model B.prog B.w) A (binaryOp .Mod (.str "%s" t) (.ref a)) Q E s := by
 obtain ⟨dx, n, es, h1, h2, _⟩ := I
 simp only [strB, Bool.and_eq_true, beq_iff_eq] at hb
 have hI := F.inst h1 h2
 refine sub_str_own F.X hI rfl hb.1.1 (strOf_own (by have := R.u; o_head qo) F.X hI hb.1.2 hb.2 ?_)
 refine F.callE (S F.at) fun v st' s' le F' X hv => ?_
 obtain ⟨u, rfl⟩ := hv
 exact ⟨w, u, rfl, w, u, rfl, hw, fun t' k => h t' st' _ le F'.toks X⟩
theorem gelt_pct {C : Addr} {xn : Str} {k : Nat} {p1 p2 p3 : Pos} {cenv : Env} {vs : List Value} {ws : List PySem.Str} {n : Nat} (hloc : cenv.locals = C) (hx : cenv.kindOf xn = some .local) (hk : cenv.scope.kind = .function) (hdb : (xn == ("__debug__" : Str)) = false) (R : Rm A.in1 n) (hn : 1 ≤ n)
  (h : ∀ (i : Nat) x w, vs[i]? = some x → ws[i]? = some w → ∃ a Cc f fs, x = .ref a ∧ Inst st a Cc fs ∧ strB (hd.heap_39 B.w.params) Cc f = true ∧ w.length ≤ 1000000 ∧ ∀ G (s' : Shared) (A' : Around), At (B.wg G) st s' → Rm A' n → Spec (B.wg G) A' [] st s' (PySem.call (.ref f) [.ref a]) (fun z z v => ∃ t, v = .str w t)) :
  GElt B md s₀ st₀ st A C xn (.BinOp (.Constant (.str "%s") k p1) .Mod (.Name xn p2) p3) cenv vs ws := by
 intro i x w G own' s' E' hxi hwi F
 obtain ⟨a, Cc, f, fs, rfl, I, hb, hw, hS⟩ := h i x w hxi hwi
 refine wpAny_BinOp ?_
 refine wpAny_Constant_str ?_
 refine Fx.loadX (B := B.wg G) F.toks hloc hx hk hdb (.head _) ?_
 refine Fx.pctE (B := B.wg G) F.toks (R.le hn) I hb hw (fun H => hS G _ _ H R) fun t st' s'' le F' X => ?_
 exact ⟨st', t, le, rfl, F', X⟩
noncomputable def SpecC (B : Bs) (A : Around) (st : St) (s : Shared) (c : Code) (Φ : Heap → St → Value → Prop) : Prop :=
 ∀ R₀ : Result → Shared → Prop, Back B [] st s Φ (fun v s' => R₀ (.ok (.ret v)) s') → codeAny (model B.prog B.w) A c R₀ s
theorem enterS {name qual : Str} {params : Arguments} {body : List Stmt} {scope : Scope} {dV kV doc pm cdv ct oc : Value} {an od : Option Addr} {osl : Array (Option Value)} {f : Addr} {args : List Value} {kw : List (Str × Value)} {binds : List (Str × Value)} {Φ : Heap → St → Value → Prop} {d u : Nat}
  (H : At B st s) (R : Room A (d + 1) (u + 3))
  (ho : (hd.heap_39 B.w.params).lookup f = some ⟨oc, od, .func (fnOf name qual params body scope dV kV doc pm an cdv ct), osl⟩) (hcd : codeIn (hd.heap_39 B.w.params) cdv qual = true)
  (hbind : BindsTo s (fnOf name qual params body scope dV kV doc pm an cdv ct) ⟨args, kw⟩ binds) (hS : ScopeOk scope) {ps : List Str} (hps : binds.map (·.1) = ps) (hloc : ∀ y ∈ ps, (y, NameKind.local) ∈ scope.names) (hbn : ps.Nodup) (hcell : ∀ x ∈ scope.names, x.2 ≠ .cell)
  (hco : scope.isCoroutine = false) (hgen : scope.isGenerator = false)
  (h : ∀ (Q : Value → Shared → Prop) L s₁ env A', Back B [] st s Φ Q →
   En env L scope.names [] qual cdv → Room A' d u → Fx B [] s st st L [] binds s₁ →
   wpAny (model B.prog B.w) A' (execs body env) (fun fl s' => Q (match fl with | .ret v => v | _ => .none) s') (fun z z => False) s₁) :
  SpecC B A st s (.call (.ref f) ⟨args, kw⟩) Φ := fun R₀ k =>
 enterC (own := []) (md := []) H (fun z h => nomatch h) .nil R ho hcd hbind hS hps hloc hbn hcell hco hgen fun L s₁ env A' N R' F => h (fun v s' => R₀ (.ok (.ret v)) s') L s₁ env A' k N R' F
theorem Fx.prop {a C p f : Addr} {fs : List (Str × Value)} {name : Str} {ex : Bool} {rest : List Value} {Φ : Heap → St → Value → Prop} {Q E : Value → Shared → Prop} (F : Fx B md s₀ st₀ st L own l s) (I : Inst st a C fs)
  (hg : (plainGet (hd.heap_39 B.w.params) C name && hasDictIn (hd.heap_39 B.w.params) C && findIn (hd.heap_39 B.w.params) (.ref C) name == some (some (.ref p)) && specialIn (hd.heap_39 B.w.params) (.ref p) "__get__" == some (some (.builtin "property.__get__")) && takesIn (hd.heap_39 B.w.params) (.ref p) == some true) = true)
  (hp : recIn (hd.heap_39 B.w.params) p "property" = some (.ref f :: rest)) (S : ∀ s', At B st s' → SpecC B A.in1 st s' (.call (.ref f) ⟨[.ref a], []⟩) Φ)
  (h : ∀ v st' s', St.le st st' → Fx B md s₀ st₀ st' L own l s' → Φ s'.heap st' v → handedIn v = true ∧ Q v s') : wpAny (model B.prog B.w) A (PySem.getAttr (.ref a) name ex) Q E s := by
 obtain ⟨dx, n, es, h1, h2, _⟩ := I
 obtain ⟨m, fr⟩ := F.fr
 simp only [Bool.and_eq_true, beq_iff_eq] at hg
 obtain ⟨⟨⟨⟨g1, g2⟩, g3⟩, g4⟩, g5⟩ := hg
 refine get_prop fr F.ok.X (F.inst h1 h2) g1 g2 g3 g4 g5 hp (S _ (F.toks (t := s.toks + 1)).at _ fun v s' I X hos hΦ => ?_)
 obtain ⟨le, F'⟩ := (F.toks (t := s.toks + 1)).after (own' := own) I X hos (fun z h => nomatch h) rfl (fun p hp => X.1 _ _ (F.notTT (F.ow p hp).2.2.2.2) (fun h => nomatch h) (F.ow p hp).1) (by
   obtain ⟨m, ⟨oL, es, ep, e, r⟩, hm⟩ := F.ns
   exact ⟨m, ⟨oL, es, ep, X.1 _ _ (F.notTT (Nat.le_trans F.gs F.hL)) (fun h => nomatch h) e, r⟩, hm⟩)
 obtain ⟨q1, q2⟩ := h v _ s' le F' hΦ
 exact handed_on q1 q2
theorem Rm.over {c : Code} {n : Nat} (R : Rm A (n + 1)) (hw : c.weight ≤ 1) (hu : c.cUnits ≤ 8) : Rm (A.over c []) n :=
 ⟨R.hh, by
  have := R.d
  show A.depth + frameCount [] + c.weight + n < _
  have h0 : frameCount [] = 0 := rfl
  o_head qo, by
  have := R.u
  show A.units + unitsOf [] + c.cUnits + 8 * n < _
  have h0 : unitsOf [] = 0 := rfl
  o_head qo⟩
theorem Fx.joinPct {sep : PySem.Str} {t : Tok} {xn ln : Str} {k : Nat} {p1 p2 p3 px pn : Pos} {scope : Scope} {pos gpos : Pos} {env : Env} {pl : Sem Bool} {c P lst : Addr} {q qual : Str} {names : List (Str × NameKind)} {cl : List (Str × Addr)} {vs : List Value} {ws : List PySem.Str} {n : Nat} {Q E : Value → Shared → Prop}
  (F : Fx B md s₀ st₀ st L own l s) (N : En env L names cl qual (.ref c)) (R : Rm A (n + 5)) (hn : 1 ≤ n) (hl : Lst st lst vs) (hv : (ln, .ref lst) ∈ l) (hln : (ln, NameKind.local) ∈ names) (hT : (c, P, q) ∈ tabs) (hq : qual ++ ".<locals>." ++ "<genexpr>" = q) (hC : codeHdB (hd.heap_39 B.w.params) c P = true)
  (hco : scope.isCoroutine = false) (hclos : closureFor scope env = pure []) (hcell : ∀ y ∈ scope.names, y.2 ≠ .cell) (h0 : scope.names.lookup (".0" : Str) = some NameKind.local) (hx : scope.names.lookup xn = some .local) (hkind : scope.kind = .function) (hdb : (xn == ("__debug__" : Str)) = false) (hlen : vs.length = ws.length)
  (hws : ws.length ≤ 900) (hok : JoinOk sep ws = true)
  (helt : ∀ (i : Nat) x w, vs[i]? = some x → ws[i]? = some w → ∃ a Cc f fs, x = .ref a ∧ Inst st a Cc fs ∧ strB (hd.heap_39 B.w.params) Cc f = true ∧ w.length ≤ 1000000 ∧ ∀ G (s' : Shared) (A' : Around), At (B.wg G) st s' → Rm A' n → Spec (B.wg G) A' [] st s' (PySem.call (.ref f) [.ref a]) (fun z z v => ∃ t, v = .str w t))
  (h : ∀ t s', Fx B md s₀ st₀ st L own l s' → Q (.str (Txt.join sep ws) t) s') :
  wpAny (model B.prog B.w) A (getMethod (.str sep t) "join" pl) (fun fx s₂ => wpAny (model B.prog B.w) A (callWith pos fx.1 fx.2 (backTo pos (starEach [.GeneratorExp (.BinOp (.Constant (.str "%s") k p1) .Mod (.Name xn p2) p3) [⟨.Name xn px, .Name ln pn, [], 0⟩] scope gpos] env)) []) Q E s₂) E s := by
 refine PySem.GM.join (callWith_method1 ?_ rfl rfl)
 refine wpAny_items_cons ?_
 refine Fx.genexp (A' := A.in1.in1.in1) F N hT hq hC (by have := R.d; o_head qo) R.hh hco hclos hcell h0 hx hkind hl hlen (F.nameL N hv hln ⟨rfl, F⟩) (fun C I cv hC => ?_) (fun a g C I oa s' hg ha G => ?_) (fun x => rfl)
 ·exact gelt_pct rfl hx hkind hdb ((R.in1.in1.in1).over (Nat.le_of_ble_eq_true rfl) (Nat.le_of_ble_eq_true rfl)).in1 hn helt
 ·refine wpAny_items_nil ?_
  exact GOut.join G hg ha R.hh (by have := R.d; o_head qo) hws hok h
noncomputable def mkT (Q : Value → Shared → Prop) (vs : List Value) (s : Shared) : Prop := vs.length ≤ sizeLine ∧ Q (.ref s.heap.objs.size) { s with heap := s.heap.push { cls := .type "tuple", data := .seq vs.toArray } }
theorem tup_mk {elts : List Expr} {k : Nat} {pos : Pos} {env : Env} {Q E : Value → Shared → Prop} (h : wpAny (model B.prog B.w) A (spliced (backTo pos (starEach elts env))) (mkT Q) E s) : wpAny (model B.prog B.w) A (eval (.Tuple elts k pos) env) Q E s := wpAny_Tuple h
theorem Fx.tupS {Q : Value → Shared → Prop} {vs : List Value} (F : Fx B md s₀ st₀ st L own l s) (hn : vs.length ≤ 900) (h : ∀ a st' s', St.le st st' → Tup st' a vs → Fx B md s₀ st₀ st' L own l s' → Q (.ref a) s') :
  mkT Q vs s := by
 refine ⟨by rw [sizeLine_eq]; o_head qo, ?_⟩
 obtain ⟨le, G⟩ := F.pushS (o := tupO vs 0) (t := s.toks) rfl
 exact h _ _ _ le ⟨0, St.put_self⟩ G
theorem Fx.itemT {a : Addr} {vs : List Value} {i : Int} {t : Tok} {x : Value} {Q E : Value → Shared → Prop} (F : Fx B md s₀ st₀ st L own l s) (hl : Tup st a vs) (h0 : 0 ≤ i) (hi : i < 2 ^ 63) (hx : vs[i.toNat]? = some x) (h : Q x s) : ItemOn (model B.prog B.w) A E (.ref a) (.int i t) Q s := by
 obtain ⟨n, e⟩ := hl
 have hT : IsTup s.heap a vs.toArray := ⟨_, F.le _ _ e, rfl, n, rfl⟩
 exact ⟨"tuple", _, PySem.F.slot_tuple_getitem.lookup, hT.typeIs, PyProof.Rows.getItem_tuple (j := i.toNat) hT (by o_head qo) hi (seqIndex_of h0 (by have := (List.getElem?_eq_some_iff.mp hx).1; simp; o_head qo)) (by simpa using hx) h⟩
theorem Fx.unpack {x y : Str} {px py tp : Pos} {kk : Nat} {t : Addr} {p q : Value} {env : Env} {Q : Unit → Shared → Prop} {E : Value → Shared → Prop} (F : Fx B md s₀ st₀ st L own l s) (hh : A.handled = none) (hT : Tup st t [p, q])
  (h : ∀ s', Fx B md s₀ st₀ st L own l s' → wpAny (model B.prog B.w) A (assign (.Name x px) env p) (fun z s₁ => wpAny (model B.prog B.w) A (assign (.Name y py) env q) (fun z s₂ => Q () s₂) E s₁) E s') :
  wpAny (model B.prog B.w) A (assign (.Tuple [.Name x px, .Name y py] kk tp) env (.ref t)) Q E s := by
 obtain ⟨nt, eT⟩ := hT
 refine wpAny_assign_Tuple hh (items := #[p, q]) ⟨_, F.le _ _ eT, rfl, nt, rfl⟩ rfl rfl fun h' hs => ?_
 have G := F.keeps (t := s.toks) fun b o e => hs b o (Nat.ne_of_lt (Heap.lt_size e)) e
 show wpAny _ _ (assignInOrder [assign (.Name x px) env, assign (.Name y py) env] [p, q]) _ _ _
 refine wpAny_assignInOrder_more (wpAny_mono (h _ G) (fun z s₃ q1 => ?_) fun z z e => e)
 refine wpAny_assignInOrder_more (wpAny_mono q1 (fun z s₄ q2 => ?_) fun z z e => e)
 exact wpAny_assignInOrder_none q2
theorem Fx.insert0 {Q E : Value → Shared → Prop} {a : Addr} {vs : List Value} {n : Nat} {x : Value} {u : Tok} (F : Fx B md s₀ st₀ st L ((a, lstO vs n) :: own) l s) (hn : vs.length ≤ 900)
  (h : ∀ n' s', Fx B md s₀ st₀ st L ((a, lstO (x :: vs) n') :: own) l s' → Q .none s') : wpAny (model B.prog B.w) A (PySem.call (.builtin "list.insert") [.ref a, .int 0 u, x]) Q E s := by
 have e := (F.ow _ (.head _)).1
 refine call_meets PySem.F.slot_list_insert ⟨_, e, rfl⟩ PySem.F.entry_list_insert (PySem.F.args_list_insert_3 _ _ _) (PySem.AutoSeq1.list_insert_list_int_val_1 a vs.toArray n 0 u x (by decide) (by rw [sizeLine_eq, List.size_toArray]; o_head qo)) ⟨e, ?_⟩
 have G := F.update (f := Obj.mapSeq fun xs => have k := if (0 : Int) < 0 then ((0 : Int) + (xs.size : Int)).toNat else min (0 : Int).toNat xs.size; (xs.extract 0 k).push x ++ xs.extract k) (t := s.toks) (fun vs e => nomatch e) rfl
 have q : Obj.mapSeq (fun xs => have k := if (0 : Int) < 0 then ((0 : Int) + (xs.size : Int)).toNat else min (0 : Int).toNat xs.size; (xs.extract 0 k).push x ++ xs.extract k) (lstO vs n) = lstO (x :: vs) (n + 1) := by
  unfold Obj.mapSeq lstO
  simp
 rw [q] at G
 exact h _ _ G
theorem Fx.callInsert {Q E : Value → Shared → Prop} {a : Addr} {vs : List Value} {pl : Sem Bool} {pos : Pos} {e : Expr} {rest : List Expr} {env : Env} (F : Fx B md s₀ st₀ st L own l s) (hl : LA st own a vs)
  (h : wpAny (model B.prog B.w) A (spliced (backTo pos (starEach (e :: rest) env))) (fun xs s₁ => wpAny (model B.prog B.w) A (PySem.call (.builtin "list.insert") (.ref a :: xs)) Q E s₁) E s)
  (he : autoParam (starEach (e :: rest) env = (false, eval e env) :: starEach rest env) Mine.tR) (hplain : autoParam ((backTo pos (starEach rest env)).any (·.1) = false) Mine.tR) :
  wpAny (model B.prog B.w) A (getMethod (.ref a) "insert" pl) (fun fx s₂ => wpAny (model B.prog B.w) A (callWith pos fx.1 fx.2 (backTo pos (starEach (e :: rest) env)) []) Q E s₂) E s := by
 obtain ⟨n, g⟩ := hl.get F
 exact getMethod_list_of PySem.F.slot_list_insert PySem.F.type_list_insert ⟨_, g, rfl, n, rfl⟩ ⟨_, g, rfl⟩ (callWith_method1 h he hplain)
section
variable {prog : Program} {w : World} {E : Value → Shared → Prop}
noncomputable def byT (w : World) : Bool := w.params.followText "set-order"
noncomputable def SetS (prog : Program) (w : World) (o : Obj) (qs : List PySem.Str) : Prop :=
 ∃ es ep t, o.ExactSet ∧ o.data = .set es ep t ∧ ElemsOf (PySem.strKind prog w) es.toList ∧ StrsAre (es.toList.map (·.2)) qs ∧ qs.Nodup ∧ t.fits es.size = true ∧ t.led = !(byT w) ∧ (es.size ≠ 0 → t.plain = false)
theorem StrsAre.len' {vs : List Value} {ss : List PySem.Str} (h : StrsAre vs ss) : vs.length = ss.length := by induction h with
 | nil => rfl
 | cons _ _ _ ih => exact congrArg (· + 1) ih
theorem orStandIn_led (t : SetTable) (n : Nat) : (t.orStandIn n).led = t.led ∧ (t.plain = false → (t.orStandIn n).plain = false) := by
 unfold SetTable.orStandIn
 split
 ·exact ⟨rfl, id⟩
 ·exact ⟨rfl, fun z => rfl⟩
theorem layNew_led (t : SetTable) (es : Array (Int × Value)) (h : Int) (x : Value) : (layNew t es h x).2.1.led = t.led ∧ (t.plain = false → (layNew t es h x).2.1.plain = false) := by
 unfold layNew
 split
 ·exact orStandIn_led ..
 ·exact ⟨rfl, fun z => rfl⟩
theorem relayAll_led (t : SetTable) (es : Array (Int × Value)) (k : Nat) : (relayAll t es k).2.1.led = t.led ∧ (t.plain = false → (relayAll t es k).2.1.plain = false) := by
 delta relayAll
 cases hr : t.relaid (es.map (·.1)) k with
 | none => exact ⟨rfl, fun z => rfl⟩
 | some p =>
  obtain ⟨ow, _, hw⟩ := Option.bind_eq_some_iff.mp hr
  cases hw
  dsimp only
  split
  ·exact ⟨rfl, id⟩
  ·exact ⟨rfl, fun z => rfl⟩
theorem setS_store {h : Heap} {a : Addr} {o : Obj} {es : Array (Int × Value)} {ep : Nat} {t : SetTable} (ho : h.get? a = some o) (hex : o.ExactSet) (hd : o.data = .set es ep t) (es' : Array (Int × Value)) (t' : SetTable) :
  (h.update a (Obj.putSet es' t')).get? a = some { o with data := .set es' (ep + 1) t' } := by
 have := Heap.get?_update_self (Obj.putSet es' t') ho (by rw [putSet_of es' t' hd]; rfl)
 rwa [putSet_of es' t' hd] at this
theorem addTailS {g : Bool → Sem Unit} (hg : ∀ (b : Bool) (s₁ : Shared) (Q' : Unit → Shared → Prop), Q' () s₁ → wpAny (model prog w) A (g b) Q' E s₁)
  {a : Addr} {o : Obj} {es : Array (Int × Value)} {ep : Nat} {t : SetTable} (ho : s.heap.get? a = some o) (hex : o.ExactSet) (hd : o.data = .set es ep t)
  {es1 : Array (Int × Value)} {t2 : SetTable} (hb1 : es1.size < scanBound) (hf2 : t2.fits es1.size = true) (hp2 : t2.plain = false) {wasDummy : Bool} {R : Option Bool → Shared → Prop}
  (h : ∀ h' o' es' ep' t', Heap.SameBut a s.heap h' → h'.get? a = some o' → o'.ExactSet → o'.data = .set es' ep' t' → List.Perm es'.toList es1.toList → t'.fits es'.size = true → t'.led = t2.led → t'.plain = false → R (some true) { s with heap := h' }) :
  wpAny (model prog w) A (do
    storeSet a es1 t2
    if (!wasDummy && t2.tooFull) = true then do
      g (relayAll t2 es1 (SetTable.grown es1.size)).2.2
      storeSet a (relayAll t2 es1 (SetTable.grown es1.size)).1 (relayAll t2 es1 (SetTable.grown es1.size)).2.1
      pure (some true)
     else pure (some true)) R E s := by
 refine wpAny_bind (wpAny_storeSet_of ho hd ?_ (fits_of_scanBound hb1))
 have ho1 := setS_store ho hex hd es1 t2
 have hsb1 := Heap.SameBut.update s.heap a (Obj.putSet es1 t2)
 split
 ·have hp := relayAll_perm t2 es1 (SetTable.grown es1.size)
  have hfr := relayAll_fits t2 es1 (SetTable.grown es1.size)
  have hl := relayAll_led t2 es1 (SetTable.grown es1.size)
  generalize hRl : relayAll t2 es1 (SetTable.grown es1.size) = Rl at hp hfr hl ⊢
  obtain ⟨es2, t3, gave2⟩ := Rl
  dsimp only at hp hfr hl ⊢
  have hsz : es2.size = es1.size := by rw [← Array.length_toList, hp.length_eq, Array.length_toList]
  have hb2 : es2.size < scanBound := by rw [hsz]; exact hb1
  refine wpAny_bind (hg _ _ _ ?_)
  refine wpAny_bind (wpAny_storeSet_of ho1 rfl ?_ (fits_of_scanBound hb2))
  have ho2 := setS_store ho1 hex rfl es2 t3
  exact wpAny_pure (h _ _ _ _ _ (hsb1.trans (Heap.SameBut.update _ a _)) ho2 hex rfl hp hfr hl.1 (hl.2 hp2))
 ·exact wpAny_pure (h _ _ _ _ _ hsb1 ho1 hex rfl (.refl _) hf2 rfl hp2)
set_option tactic.hygienic true in
theorem addStr {a : Addr} {k : PySem.Str} {tk : Tok} {o : Obj} {qs : List PySem.Str} {Q : Bool → Shared → Prop} (ho : s.heap.get? a = some o) (hS : SetS prog w o qs) (hroom : qs.length + 1 < scanBound)
  (h : ∀ b o' qs' h', Heap.SameBut a s.heap h' → h'.get? a = some o' → SetS prog w o' qs' → (∀ j, j ∈ qs' ↔ j ∈ qs ∨ j = k) → qs'.length ≤ qs.length + 1 → Q b { s with heap := h' }) :
  wpAny (model prog w) A (setAddHashed a (.str k tk) ((PySem.strKind prog w).hash k)) Q E s := by
 obtain ⟨es, ep, t, hex, hd, hel, hst, hnd, hf, hled, hpl⟩ := id hS
 have hkey := strKind_is prog w k tk
 have hsc : (Value.str k tk).scannable = true := rfl
 have hlen : es.size = qs.length := by have := StrsAre.len' hst; rwa [List.length_map, Array.length_toList] at this
 have hb1 : es.size + 1 < scanBound := hlen.symm ▸ hroom
 have hb : es.size < scanBound := Nat.lt_of_succ_lt hb1
 have hmem : ∀ j, j ∈ qs ↔ ∃ e ∈ es.toList, (PySem.strKind prog w).is j e.2 = true := fun j => by
  rw [← StrsAre.strs hst, List.map_map, List.mem_map]
  constructor
  ·rintro ⟨e, he, rfl⟩
   obtain ⟨x, t, ex⟩ := StrsAre.all hst e.2 (List.mem_map_of_mem he)
   exact ⟨e, he, by show _ = true; rw [Function.comp, ex]; exact strKind_is prog w _ _⟩
  ·rintro ⟨e, he, hj⟩
   obtain ⟨x, t, ex⟩ := StrsAre.all hst e.2 (List.mem_map_of_mem he)
   refine ⟨e, he, ?_⟩
   rw [ex] at hj
   rw [Function.comp, ex]
   exact (PySem.strKind prog w).inj _ _ _ (strKind_is prog w x t) hj
 unfold setAddHashed setAddHashedIn
 refine wpAny_holding (wpAny_bind (wpAny_setState_of ho hd hf ?_))
 dsimp only
 rw [byScan_of hsc hb hel]
 simp only [↓reduceIte]
 unfold setAddByScan
 refine wpAny_bind ?_
 refine wpAny_bind (wpAny_rule ?_)
 refine wpAny_bind (wpAny_setScan_of hkey ho hd hf hel ?_)
 cases hr : List.findIdx? (fun e => (PySem.strKind prog w).is k e.2) es.toList with
 | some j =>
  dsimp only
  obtain ⟨hj, hpj, _⟩ := List.findIdx?_eq_some_iff_getElem.mp hr
  have hSk : k ∈ qs := (hmem k).mpr ⟨es.toList[j], List.getElem_mem hj, hpj⟩
  refine wpAny_pure (wpAny_pure ?_)
  exact h _ o qs s.heap (Heap.SameBut.refl a s.heap) ho hS (fun i => ⟨.inl, fun q => q.elim id fun e => e ▸ hSk⟩) (Nat.le_succ _)
 | none =>
  dsimp only
  have hSk : k ∉ qs := fun hk => by
   obtain ⟨e, he, hp⟩ := (hmem k).mp hk
   have := List.findIdx?_eq_none_iff.mp hr e he
   rw [hp] at this; exact Bool.noConfusion this
  have hgw : ∀ (b : Bool) {s₁ : Shared} {Q' : Unit → Shared → Prop}, Q' () s₁ → wpAny (model prog w) A (match b with | true => rule "set.scan.the-table-gave-way" | false => pure ()) Q' E s₁ :=
   fun b s₁ Q' hq => by cases b <;> first | exact wpAny_pure hq | exact wpAny_rule hq
  have hperm := layNew_perm t es ((PySem.strKind prog w).hash k) (.str k tk)
  have hfits := layNew_fits t es ((PySem.strKind prog w).hash k) (.str k tk)
  have hl := layNew_led t es ((PySem.strKind prog w).hash k) (.str k tk)
  generalize hL : layNew t es ((PySem.strKind prog w).hash k) (.str k tk) = LL at hperm hfits hl ⊢
  obtain ⟨es1, t1, wasDummy, gave⟩ := LL
  dsimp only at hperm hfits hl ⊢
  rw [Array.toList_push] at hperm
  have hel1 : ElemsOf (PySem.strKind prog w) es1.toList := (hel.push hkey hsc).perm hperm
  have hb1' : es1.size < scanBound := by rw [← Array.length_toList, hperm.length_eq, List.length_append, Array.length_toList]; simpa using hb1
  refine wpAny_bind (hgw _ ?_)
  have fin : ∀ (h' : Heap) (o' : Obj) (es' : Array (Int × Value)) (ep' : Nat) (t' : SetTable), Heap.SameBut a s.heap h' → h'.get? a = some o' → o'.ExactSet → o'.data = .set es' ep' t' → List.Perm es'.toList es1.toList → t'.fits es'.size = true → t'.led = t1.led → t'.plain = false → Q true { s with heap := h' } := by
   intro h' o' es' ep' t' hsb ho' hex' hd' hp' hf' hled' hpl'
   have hp2 := hp'.trans hperm
   have hall : ∀ v ∈ es'.toList.map (·.2), ∃ x t, v = .str x t := fun v hv => by
    obtain ⟨e, he, rfl⟩ := List.mem_map.mp hv
    rcases List.mem_append.mp (hp2.mem_iff.mp he) with he | he
    ·exact StrsAre.all hst _ (List.mem_map_of_mem he)
    ·cases List.mem_singleton.mp he; exact ⟨k, tk, rfl⟩
   have hq : List.Perm ((es'.toList.map (·.2)).map strOf) (qs ++ [k]) := by
    have := (hp2.map (·.2)).map strOf
    rw [List.map_append, List.map_append, StrsAre.strs hst] at this
    exact this
   refine h _ o' _ h' hsb ho' ⟨es', ep', t', hex', hd', (hel.push hkey hsc).perm hp2, strsAre_map _ hall, hq.nodup_iff.mpr (List.nodup_append.mpr ⟨hnd, List.pairwise_singleton .., fun x hx y hy e => hSk (by cases List.mem_singleton.mp hy; exact e ▸ hx)⟩), hf', by rw [hled', hl.1, hled], fun z => hpl'⟩ (fun j => by rw [hq.mem_iff, List.mem_append, List.mem_singleton]) (by rw [hq.length_eq, List.length_append]; exact Nat.le_refl _)
  split
  ·refine wpAny_bind ?_
   rw [hashByValue_scannable 8 hsc]
   refine wpAny_pure ?_
   refine addTailS (t2 := { t1 with plain := false }) ?_ ho hex hd hb1' (SetTable.fits_plain_off hfits) rfl ?_
   ·intro b s₁ Q' hq; cases b <;> first | exact wpAny_pure hq | exact wpAny_rule hq
   ·intro h' o' es' ep' t' q1 q2 q3 q4 q5 q6 q7 q8; dsimp only; exact wpAny_pure (fin h' o' es' ep' t' q1 q2 q3 q4 q5 q6 q7 q8)
  ·rename_i hnp
   refine wpAny_bind (wpAny_pure ?_)
   simp only [↓reduceIte]
   refine addTailS ?_ ho hex hd hb1' hfits (by cases hh : t1.plain with | false => rfl | true => exact absurd hh hnp) ?_
   ·intro b s₁ Q' hq; cases b <;> first | exact wpAny_pure hq | exact wpAny_rule hq
   ·intro h' o' es' ep' t' q1 q2 q3 q4 q5 q6 q7 q8; dsimp only; exact wpAny_pure (fin h' o' es' ep' t' q1 q2 q3 q4 q5 q6 q7 q8)
end
theorem LA.cons {a : Addr} {vs : List Value} {p : Addr × Obj} (h : LA st own a vs) : LA st (p :: own) a vs := by
 obtain ⟨n, e⟩ := h
 exact ⟨n, e.imp id (List.mem_cons_of_mem _)⟩
theorem SetS.noF {prog : Program} {w : World} {o : Obj} {qs : List PySem.Str} (h : SetS prog w o qs) : ∀ vs, o.data = .fields vs → ∀ q t, vs[1]? ≠ some (.str q t) := fun vs e => by
 obtain ⟨es, ep, t, _, hd, _⟩ := h
 rw [hd] at e; cases e
section
variable {S it a : Addr} {vs : List Value} {ss : List PySem.Str}
theorem Fx.setLoop {R : Result → Shared → Prop} (hh : A.handled = none) (hl : LA st own a vs) (hs : StrsAre vs ss) (hlen : vs.length ≤ 1000)
  (hR : ∀ s' o' qs', Fx B md s₀ st₀ st L ((S, o') :: own) l s' → SetS B.prog B.w o' qs' → (∀ j, j ∈ qs' ↔ j ∈ ss) → R (.ok (.ret .none)) s') :
  ∀ (k i : Nat) (s : Shared) (o io : Obj) (qs : List PySem.Str), i + k = vs.length → Fx B md s₀ st₀ st L ((it, io) :: (S, o) :: own) l s → IterO io a i → SetS B.prog B.w o qs → (∀ j, j ∈ qs ↔ j ∈ ss.take i) → qs.length ≤ i →
   codeAny (model B.prog B.w) A (.builtin "set.update.loop" ⟨[.ref S, .ref it], []⟩) R s := by
 intro k
 induction k with
 | zero =>
  intro i s o io qs hk F hi hS hm hq
  replace hk : i = vs.length := hk
  subst hk
  refine codeAny_builtin PyProof.Rows.F.entry_set_update_loop ?_
  rw [Around.under_plainId PyProof.Rows.F.plain_set_update_loop _]
  show wpAny _ A.in1 (pyNext (.ref it) >>= _) _ _ s
  refine wpAny_bind (F.nextEnd (A := A.in1) hh hi hl.cons (List.getElem?_eq_none (Nat.le_refl _)) fun s' F' => ?_)
  refine wpAny_pure (hR s' o qs F' hS fun j => ?_)
  rw [hm, StrsAre.len' hs, List.take_length]
 | succ k ih =>
  intro i s o io qs hk F hi hS hm hq
  have hlt : i < vs.length := hk ▸ Nat.lt_add_of_pos_right (Nat.succ_pos k)
  have hlt' : i < ss.length := by rw [← StrsAre.len' hs]; exact hlt
  have hx : vs[i]? = some vs[i] := List.getElem?_eq_getElem hlt
  have hsx : ss[i]? = some ss[i] := List.getElem?_eq_getElem hlt'
  obtain ⟨x, t, ex⟩ := StrsAre.all hs vs[i] (List.getElem_mem hlt)
  have hxi : x = ss[i] := by
   have h1 : (vs.map strOf)[i]? = ss[i]? := by rw [StrsAre.strs hs]
   rw [List.getElem?_map, hx, hsx, ex] at h1
   exact Option.some.inj h1
  refine codeAny_builtin PyProof.Rows.F.entry_set_update_loop ?_
  rw [Around.under_plainId PyProof.Rows.F.plain_set_update_loop _]
  show wpAny _ A.in1 (pyNext (.ref it) >>= _) _ _ s
  refine wpAny_bind (F.nextItem hi hl.cons hx fun io' s1 hi1 F1 => ?_)
  rw [ex]
  show wpAny _ A.in1 (holding [Value.str x t] (setAdd S (.str x t)) >>= _) _ _ s1
  refine wpAny_bind (wpAny_holding ?_)
  unfold setAdd
  refine wpAny_holding ?_
  refine wpAny_bind ((PySem.strKind B.prog B.w).pyHash (k := x) (strKind_is _ _ _ _) ?_)
  have F2 := F1.toks (t := s1.toks + 1)
  have w1 := F2.ow _ (.tail _ (.head _))
  refine addStr w1.1 hS (Nat.lt_of_le_of_lt (Nat.le_trans (Nat.succ_le_succ hq) (Nat.le_trans hlt hlen)) (by decide : 1000 < 4096)) fun b o' qs' h' hsb ho' hS' hm' hq' => ?_
  have F3 := (F2.ownPerm (List.Perm.swap ..)).changeI (t := s1.toks + 1) hS.noF hsb ho'
  refine wpAny_pure ⟨plainId_quiet PyProof.Rows.F.plain_set_update_loop _, ih (i + 1) _ o' io' qs' ((Nat.succ_add_eq_add_succ i k).trans hk) (F3.ownPerm (List.Perm.swap ..)) hi1 hS' (fun j => ?_) (Nat.le_trans hq' (Nat.succ_le_succ hq))⟩
  rw [hm', hm, take_snoc hsx, List.mem_append, List.mem_singleton, hxi]
end
theorem set_new_code {prog : Program} {w : World} {E : Value → Shared → Prop} (a : Value) {Q₁ : Value → Shared → Prop}
  (h : Q₁ (.ref s.heap.objs.size) { s with heap := s.heap.push { cls := .type "set", dict := none, data := .set #[] 0 (.fresh 0 0 (!(byT w))) } }) :
  codeAny (model prog w) A (.call (.builtin "set.__new__") ⟨[.type "set", a], []⟩) (wants Q₁ E) s := by
 refine codeAny_of_tree ?_
 show wpAny _ A.in1 (do checkBuiltinCall "set.__new__" ⟨[.type "set", a], []⟩; again (.builtin "set.__new__" ⟨[.type "set", a], []⟩)) _ _ s
 refine wpAny_bind (wpAny_of_eq (PySem.F.newCall_set_1 a) (wpAny_pure ⟨plainId_quiet PySem.F.plain_set_new _, codeAny_builtin PySem.F.entry_set_new ?_⟩))
 rw [Around.under_plainId PySem.F.plain_set_new _]
 unfold Builtin.«set.__new__» Builtin.Frozenset.newClass
 have hsub := PySem.sub_set_self
 obtain ⟨hp, g, d, tk, os⟩ := s
 dsimp only
 wp_walk
 refine wpAny_askSetting (wpAny_pure ?_)
 dsimp only
 simp only [newObj]
 refine wpAny_bind (wpAny_alloc (wpAny_pure ?_))
 exact wpAny_pure h
theorem setS_new {prog : Program} {w : World} : SetS prog w { cls := .type "set", dict := none, data := .set #[] 0 (.fresh 0 0 (!(byT w))) } [] :=
 ⟨#[], 0, _, ⟨rfl, rfl, rfl⟩, rfl, fun e he => (nomatch he), .nil, .nil, rfl, rfl, fun h => absurd rfl h⟩
set_option maxHeartbeats 4000000 in
theorem Fx.callSet {a : Addr} {vs : List Value} {ss : List PySem.Str} {Q E : Value → Shared → Prop} (F : Fx B md s₀ st₀ st L own l s) (hh : A.handled = none) (hl : LA st own a vs) (hs : StrsAre vs ss) (hlen : vs.length ≤ 1000)
  (h : ∀ S o qs s', Fx B md s₀ st₀ st L ((S, o) :: own) l s' → SetS B.prog B.w o qs → (∀ j, j ∈ qs ↔ j ∈ ss) → Q (.ref S) s') :
  wpAny (model B.prog B.w) A (PySem.call (.type "set") [.ref a]) Q E s := by
 obtain ⟨c, tl, hmro⟩ := PySem.F.called_set.mro
 have hmade := PySem.F.called_set.made
 have hsub := PySem.F.called_set.sub
 refine wpAny_call (codeAny_of_tree ?_)
 show wpAny _ _ (PySem.callAny (.type "set") _) _ _ _
 refine wpAny_pure ⟨Code.quiet_builtin _ (by decide +kernel), codeAny_builtin PySem.F.entry_type_call ?_⟩
 rw [Around.under_plain (weight_type_call_type "set" [.ref a] []) rfl]
 have h1 := PySem.F.called_set.notType
 have h2 := PySem.F.called_set.canCreate
 have hct := PySem.F.typeCall_set_1 (.ref a)
 repeat (any_goals (first | assumption | wp_step))
 refine codeAny_mono (set_new_code (.ref a) (E := E) (Q₁ := fun obj s₁ => obj = .ref s.heap.objs.size ∧ s₁ = { s with heap := s.heap.push { cls := .type "set", dict := none, data := .set #[] 0 (.fresh 0 0 (!(byT B.w))) } }) ⟨rfl, rfl⟩) fun r s₁ hr => ?_
 cases r with
 | error e => exact hr
 | ok fl =>
  cases fl with
  | ret obj =>
   obtain ⟨rfl, rfl⟩ := hr
   have F0 := F.pushO (o := { cls := .type "set", dict := none, data := .set #[] 0 (.fresh 0 0 (!(byT B.w))) }) (t := s.toks) rfl
   have hT : Shared.TypeIs { s with heap := s.heap.push { cls := .type "set", dict := none, data := .set #[] 0 (.fresh 0 0 (!(byT B.w))) } } (.ref s.heap.objs.size) "set" := ⟨_, Heap.get?_push_size _ rfl, rfl⟩
   have hli := PySem.F.called_set.init.lookup
   have hbi := PySem.F.called_set.init.bind (.ref s.heap.objs.size)
   repeat (any_goals (first | assumption | wp_step))
   generalize s.heap.objs.size = S at F0 hT
   refine codeAny_mono (codeAny_call_builtin (R := wants (fun r s₂ => r = .none ∧ ∃ o qs, Fx B md s₀ st₀ st L ((S, o) :: own) l s₂ ∧ SetS B.prog B.w o qs ∧ ∀ j, j ∈ qs ↔ j ∈ ss) E) PySem.F.called_set.init.plain PySem.F.entry_set_init (PySem.check_set_init_1 hT ?_)) fun r₂ s₂ hr₂ => ?_
   ·obtain ⟨n, hol⟩ := hl.cons.get F0
    have hlT : Shared.TypeIs { s with heap := s.heap.push { cls := .type "set", dict := none, data := .set #[] 0 (.fresh 0 0 (!(byT B.w))) } } (.ref a) "list" := ⟨_, hol, rfl⟩
    have hsls := PySem.F.sub_list_set
    have hslf := PySem.F.sub_list_frozenset
    have hne : (Value.type "list" == Value.type "dict") = false := by decide
    have hl1 := hl.cons.list F0
    have hS0 := (F0.ow _ (.head _)).1
    dsimp only at hS0 hol
    unfold Builtin.«set.__init__» noKeywords Builtin.Frozenset.updateFrom
    generalize hPI : pyIter = PI
    wp_walk
    subst hPI
    refine F0.pyIterL hl.cons fun it io s1 hi F1 => ?_
    refine wpAny_bind (wpAny_runValue ?_)
    refine Fx.setLoop (A := A.in1.in1) (own := own) hh hl hs hlen (fun s' o' qs' F' S' m' => ?_) _ 0 _ _ io [] (Nat.zero_add _) F1 hi setS_new (fun j => ⟨fun h => (nomatch h), fun h => (nomatch h)⟩) (Nat.le_refl _)
    refine wpAny_pure ?_
    exact wpAny_pure ⟨rfl, o', qs', F', S', m'⟩
   ·cases r₂ with
    | error e => exact hr₂
    | ok fl₂ =>
     cases fl₂ with
     | ret r =>
      obtain ⟨rfl, o, qs, F', hS', hm⟩ := hr₂
      refine wpAny_pure ?_
      dsimp only
      rw [if_neg (by decide)]
      exact wpAny_pure (h _ _ _ _ F' hS' hm)
     | _ => exact hr₂.elim
  | _ => exact hr.elim
section
variable {prog : Program} {w : World} {E : Value → Shared → Prop}
theorem wpAny_choose {M : Model} {src : Source} {n : Nat} {Q : Nat → Shared → Prop} (hn : n ≠ 0) (h : ∀ i d, i < n → Q i { s with drawn := d }) : wpAny M A (choose src n) Q E s := fun Γ p z => by
 show Sem.wp M Γ (.choose src n .pure) _ _ p s
 rw [Sem.wp_choose]
 exact ⟨hn, h _ _ (Nat.mod_lt _ (Nat.pos_of_ne_zero hn))⟩
theorem Fx.drawn {d : Drawn} (F : Fx B md s₀ st₀ st L own l s) : Fx B md s₀ st₀ st L own l { s with drawn := d } :=
 ⟨F.ok, ⟨F.inv.base, F.inv.bare, F.inv.tabs, F.inv.size⟩, F.ns, F.le, F.offT, F.offL, F.hL, F.ow, F.nodup, F.ext, F.new, F.old, F.os, F.gs⟩
theorem eraseIdx_perm {α : Type} : ∀ {l : List α} {i : Nat} {x : α}, l[i]? = some x → List.Perm (x :: l.eraseIdx i) l
 | [], _, _, h => nomatch h
 | y :: r, 0, x, h => by cases h; exact .refl _
 | y :: r, i + 1, x, h => by
  rw [List.eraseIdx_cons_succ]
  exact (List.Perm.swap ..).trans ((eraseIdx_perm (i := i) h).cons y)
theorem wpAny_drawOrder {M : Model} {α : Type} : ∀ (n : Nat) {xs : List α} {s : Shared} {Q : List α → Shared → Prop}, xs.length = n → (∀ ys d, List.Perm ys xs → Q ys { s with drawn := d }) → wpAny M A (drawOrder n xs) Q E s
 | 0, xs, s, Q, hn, h => by
  have : xs = [] := List.eq_nil_of_length_eq_zero hn
  subst this
  exact wpAny_pure (h [] s.drawn (.refl _))
 | n + 1, [], _, _, hn, _ => by cases hn
 | n + 1, y :: r, s, Q, hn, h => by
  show wpAny M A (choose .order (y :: r).length >>= _) Q E s
  refine wpAny_bind (wpAny_choose (by rw [hn]; exact Nat.succ_ne_zero n) fun i d hi => ?_)
  have hx : (y :: r)[i]? = some (y :: r)[i] := List.getElem?_eq_getElem hi
  rw [hx]
  dsimp only
  have hp := eraseIdx_perm hx
  refine wpAny_bind (wpAny_drawOrder n (by have := hp.length_eq; rw [List.length_cons, hn] at this; o_head qo) fun ys d' hy => ?_)
  exact wpAny_pure (h _ _ ((hy.cons _).trans hp))
theorem pickGo_perm {α : Type} (next : Nat → Nat) : ∀ (n k : Nat) (left : List α) (out : Array α), left.length = n → List.Perm (pickOrder.go next n k left out).toList (out.toList ++ left)
 | 0, k, left, out, hn => by
  have : left = [] := List.eq_nil_of_length_eq_zero hn
  subst this
  show List.Perm out.toList _
  rw [List.append_nil]
 | n + 1, k, left, out, hn => by
  have hi : next k % left.length < left.length := Nat.mod_lt _ (by o_head qo)
  have hx : left[next k % left.length]? = some left[next k % left.length] := List.getElem?_eq_getElem hi
  have hp := eraseIdx_perm hx
  unfold pickOrder.go
  rw [hx]
  dsimp only
  refine (pickGo_perm next n (k + 1) _ _ (by have := hp.length_eq; rw [List.length_cons] at this; o_head qo)).trans ?_
  rw [Array.toList_push, List.append_assoc]
  exact hp.append_left _
theorem pick_perm {α : Type} (next : Nat → Nat) (xs : Array α) : List.Perm (pickOrder next xs).toList xs.toList := by
 have := pickGo_perm next xs.size 0 xs.toList #[] (by simp)
 simpa [pickOrder] using this
noncomputable def SIter (w : World) (st : St) (S : Addr) (es : Array (Int × Value)) (ep : Nat) (t : SetTable) (io : Obj) (rest : List Value) : Prop :=
 io.cls = .type "set_iterator" ∧ ∃ (first : Value) (i : Nat), io.data = .fields #[first, .int i 0, .ref S, .int es.size 0, .int ep 0] ∧
  ((byT w = true ∧ ∃ sl : Nat, first = .int sl 0 ∧ rest = ((pickOrder (w.params.setOrder S ep) es).toList.map (·.2)).drop i) ∨
   (byT w = false ∧ es.size ≤ 1 ∧ ∃ sl : Nat, first = .int sl 0 ∧ ((sl = 0 ∧ rest = es.toList.map (·.2)) ∨ (rest = [] ∧ ∃ j, t.place[0]? = some j ∧ sl = j + 1))) ∨
   (byT w = false ∧ 1 < es.size ∧ ∃ (tp : Addr) (places : List Nat), first = .ref tp ∧ Tup st tp (places.map fun (p : Nat) => Value.int (p : Int) 0) ∧ (∀ p ∈ places, p < es.size) ∧ rest = (places.drop i).map fun p => ((es[p]?.map (·.2)).getD Value.none)))
theorem slot_si_next : Slot "set_iterator" "__next__" "set_iterator.__next__" :=
 .of (owner := "set_iterator") (n := "__next__") (by rw [typeLookup_type, builtinLookup_eq_fast]; kernel_rfl) (by decide +kernel) (by decide +kernel) (by decide +kernel)
  (by first | exact .inl (by decide +kernel) | exact .inr (by decide +kernel)) (by rw [isSubtype_type]; kernel_rfl)
theorem entry_si_next : entryFor table "set_iterator.__next__" = some Builtin.«set_iterator.__next__» := entryFor_of_tree (by kernel_rfl)
theorem args_si_next (a : Value) : argsOk "set_iterator.__next__" ⟨[a], []⟩ := by unfold argsOk; kernel_rfl
theorem entry_set_iter : entryFor table "set.__iter__" = some Builtin.«frozenset.__iter__» :=
 entryFor_alias (id' := "frozenset.__iter__") (by kernel_rfl) rfl (by decide +kernel) (by kernel_rfl)
end
theorem SIter.noF {w : World} {S : Addr} {es : Array (Int × Value)} {ep : Nat} {t : SetTable} {io : Obj} {rest : List Value} (h : SIter w st S es ep t io rest) : ∀ vs, io.data = .fields vs → ∀ q t, vs[1]? ≠ some (.str q t) := fun vs e q t k => by
 obtain ⟨_, first, i, hd, _⟩ := h
 rw [hd] at e
 cases e
 cases k
section
variable {it S : Addr} {io o : Obj} {es : Array (Int × Value)} {ep : Nat} {t : SetTable}
theorem ifT {α : Type} {M : Model} {A : Around} {b : Bool} {m n : Sem α} {Q : α → Shared → Prop} {E : Value → Shared → Prop} {s : Shared} (hb : b = true) (h : wpAny M A m Q E s) : wpAny M A (if b = true then m else n) Q E s := by
 rw [if_pos hb]; exact h
theorem ifF {α : Type} {M : Model} {A : Around} {b : Bool} {m n : Sem α} {Q : α → Shared → Prop} {E : Value → Shared → Prop} {s : Shared} (hb : b = false) (h : wpAny M A n Q E s) : wpAny M A (if b = true then m else n) Q E s := by
 subst hb; exact h
theorem sbt {Q : Bool → Shared → Prop} {E : Value → Shared → Prop} (h : Q (byT B.w) s) : wpAny (model B.prog B.w) A setsByText Q E s :=
 wpAny_bind (m := ask) (wpAny_askSetting (wpAny_pure h))
theorem setNext_next {Q : Option (Value × Nat) → Shared → Prop} {E : Value → Shared → Prop} {sl i : Nat} (ho : s.heap.get? S = some o) (hd : o.data = .set es ep t) (hf : t.fits es.size = true) (hled : t.led = !(byT B.w)) (hpl : es.size ≠ 0 → t.plain = false)
  (hm : (byT B.w = true ∧ Q ((pickOrder (B.w.params.setOrder S ep) es)[i]?.map fun e => (e.2, sl)) s) ∨
   (byT B.w = false ∧ es.size ≤ 1 ∧ Q (match es[SetTable.below t.place sl]?, t.place[SetTable.below t.place sl]? with | some (_, x), some j => some (x, j + 1) | _, _ => none) s)) : wpAny (model B.prog B.w) A (setNext S sl i ep) Q E s := by
 refine wpAny_bind (m := setState S) (wpAny_setState_of ho hd hf ?_)
 refine wpAny_bind (m := setsByText) (sbt ?_)
 rcases hm with ⟨hb, hQ⟩ | ⟨hb, hsz, hQ⟩
 ·refine ifT (b := byT B.w) hb (ifF (b := ep != ep) (bne_self_eq_false ep) (wpAny_bind (m := setWalk S) (wpAny_bind (m := setState S) (wpAny_setState_of ho hd hf ?_))))
  refine wpAny_bind (m := setsByText) (sbt ?_)
  exact ifT (b := byT B.w) hb (wpAny_bind (m := ask) (wpAny_askSetting (wpAny_pure (wpAny_pure hQ))))
 ·have hdr : (!t.plain && decide (es.size > 1)) = false := by rw [decide_eq_false (Nat.not_lt_of_le hsz), Bool.and_false]
  refine ifF (b := byT B.w) hb (ifF hdr (wpAny_bind ?_))
  show wpAny _ _ ((if (!t.led && !es.isEmpty) = true then _ else _)) _ _ _
  rw [hled, hb]
  exact wpAny_pure (wpAny_pure hQ)
theorem Fx.setFld {d : Addr} {vs : Array Value} {i : Nat} {x : Value} {Q : Unit → Shared → Prop} {E : Value → Shared → Prop} (F : Fx B md s₀ st₀ st L ((d, io) :: own) l s) (hdat : io.data = .fields vs) (hno : ∀ q t, vs[1]? ≠ some (.str q t)) (hi : i < vs.size)
  (h : ∀ s', Fx B md s₀ st₀ st L ((d, io.mapFields (·.setIfInBounds i x)) :: own) l s' → Q () s') : wpAny (model B.prog B.w) A (setField (.ref d) i x) Q E s := by
 have hit := (F.ow _ (.head _)).1
 exact wpAny_setField hit hdat hi (h _ (F.changeI (t := s.toks) (fun vs' e => by rw [hdat] at e; cases e; exact hno) (Heap.SameBut.update ..) (Heap.get?_update_self _ hit (Obj.isFreed_of_fields (Obj.data_mapFields hdat _)))))
theorem drop_cons {α : Type} {l : List α} {i : Nat} {x : α} {r : List α} (h : l.drop i = x :: r) : l[i]? = some x ∧ l.drop (i + 1) = r := by
 have h1 : (l.drop i)[0]? = some x := by rw [h]; rfl
 rw [List.getElem?_drop] at h1
 refine ⟨h1, ?_⟩
 have := congrArg (List.drop 1) h
 rwa [List.drop_drop] at this
theorem below_one {xs : Array Nat} {j : Nat} (h : xs.size = 1) : SetTable.below xs j = if xs.getD 0 j < j then 1 else 0 := by
 unfold SetTable.below
 rw [h]
 delta SetTable.below.go
 dsimp only [Nat.zero_lt_one, if_true]
 show (if xs.getD 0 j < j then SetTable.below.go xs j 0 1 1 else SetTable.below.go xs j 0 0 0) = _
 split <;> rfl
theorem Fx.setNextItem {x : Value} {r : List Value} {Q : Option Value → Shared → Prop} {E : Value → Shared → Prop} (F : Fx B md s₀ st₀ st L ((it, io) :: (S, o) :: own) l s) (hd : o.data = .set es ep t) (hf : t.fits es.size = true) (hled : t.led = !(byT B.w)) (hpl : es.size ≠ 0 → t.plain = false)
  (I : SIter B.w st S es ep t io (x :: r)) (h : ∀ io' s', Fx B md s₀ st₀ st L ((it, io') :: (S, o) :: own) l s' → SIter B.w st S es ep t io' r → Q (some x) s') : wpAny (model B.prog B.w) A (pyNext (.ref it)) Q E s := by
 have hno := I.noF
 obtain ⟨hc, first, i, hdat, hm⟩ := I
 have ho := (F.ow _ (.tail _ (.head _))).1
 have hit := (F.ow _ (.head _)).1
 dsimp only at ho hit
 have T : s.TypeIs (.ref it) "set_iterator" := ⟨_, hit, hc⟩
 unfold pyNext
 refine wpAny_bind (wpAny_attempt (wpAny_callSpecial?_slot (name := Str.ofString "__next__") T slot_si_next (wpAny_call_entry slot_si_next T entry_si_next ?_ (args_si_next _))))
 unfold Builtin.«set_iterator.__next__»
 refine wpAny_bind (wpAny_pure ?_)
 refine wpAny_bind (wpAny_fieldsOf hit hdat ?_)
 dsimp only
 refine wpAny_bind (wpAny_setEntries_of ho hd hf ?_)
 rw [if_neg (by simp)]
 have h1ne : ∀ (f g a b c : Value) (k : Nat) (q : PySem.Str) (t : Tok), (#[f, Value.int (k : Int) 0, a, b, c] : Array Value)[1]? ≠ some (.str q t) := fun f g a b c k q t e => by cases e
 rcases hm with ⟨hb, sl, rfl, hr⟩ | ⟨hb, hz, sl, rfl, hr⟩ | ⟨hb, hz, tp, ps, rfl, hT, hps, hr⟩
 ·obtain ⟨hx, hr'⟩ := drop_cons hr.symm
  rw [List.getElem?_map, Array.getElem?_toList] at hx
  dsimp only
  dsimp only [Int.toNat_natCast]
  refine wpAny_bind (setNext_next ho hd hf hled hpl (.inl ⟨hb, ?_⟩))
  cases hg : (pickOrder (B.w.params.setOrder S ep) es)[i]? with
  | none => rw [hg] at hx; cases hx
  | some e0 =>
   rw [hg] at hx
   have hx' : e0.2 = x := Option.some.inj hx
   dsimp only [Option.map_some]
   rw [hx']
   refine wpAny_bind (F.setFld hdat (fun q t => h1ne _ .none _ _ _ _ q t) (by simp) fun s2 F2 => ?_)
   refine wpAny_bind (F2.setFld (Obj.data_mapFields hdat _) (fun q t e => by simp [rawInt] at e) (by simp) fun s3 F3 => ?_)
   refine wpAny_pure ⟨_, rfl, wpAny_pure (h _ _ F3 ⟨by rw [Obj.cls_mapFields, Obj.cls_mapFields]; exact hc, .int sl 0, i + 1, by rw [Obj.data_mapFields (Obj.data_mapFields hdat _)]; simp [rawInt], .inl ⟨hb, sl, rfl, hr'.symm⟩⟩)⟩
 ·rcases hr with ⟨rfl, hr⟩ | ⟨hr, _⟩
  ·have hlen : es.size = r.length + 1 := by have := congrArg List.length hr; simpa using this.symm
   have h1 : es.size = 1 := Nat.le_antisymm hz (hlen ▸ Nat.le_add_left 1 _)
   have hr0 : r = [] := List.eq_nil_of_length_eq_zero (Nat.succ.inj (hlen.symm.trans h1))
   subst hr0
   have hps : t.place.size = 1 := by
    have := hf
    simp only [SetTable.fits, Bool.and_eq_true, beq_iff_eq] at this
    exact this.1.trans h1
   obtain ⟨p0, hp0⟩ : ∃ p, t.place[0]? = some p := ⟨_, Array.getElem?_eq_getElem (i := 0) (by rw [hps]; exact Nat.one_pos)⟩
   obtain ⟨e0, he0⟩ : ∃ e, es[0]? = some e := ⟨_, Array.getElem?_eq_getElem (i := 0) (by rw [h1]; exact Nat.one_pos)⟩
   have hx : e0.2 = x := by
    have := congrArg (fun l => l[0]?) hr
    simp only [List.getElem?_map, Array.getElem?_toList, he0] at this
    exact (Option.some.inj this).symm
   dsimp only
   simp only [Int.toNat_natCast]
   refine wpAny_bind (setNext_next ho hd hf hled hpl (.inr ⟨hb, hz, ?_⟩))
   rw [below_one hps, if_neg (Nat.not_lt_zero _), he0, hp0]
   dsimp only
   rw [hx]
   refine wpAny_bind (F.setFld hdat (fun q t => h1ne _ .none _ _ _ _ q t) (by simp) fun s2 F2 => ?_)
   refine wpAny_bind (F2.setFld (Obj.data_mapFields hdat _) (fun q t e => by simp [rawInt] at e) (by simp) fun s3 F3 => ?_)
   refine wpAny_pure ⟨_, rfl, wpAny_pure (h _ _ F3 ⟨by rw [Obj.cls_mapFields, Obj.cls_mapFields]; exact hc, .int (p0 + 1 : Nat) 0, i + 1, by rw [Obj.data_mapFields (Obj.data_mapFields hdat _)]; simp [rawInt], .inr (.inl ⟨hb, hz, _, rfl, .inr ⟨rfl, _, hp0, rfl⟩⟩)⟩)⟩
  ·cases hr
 ·obtain ⟨p0, hp0⟩ : ∃ p0, (ps.drop i)[0]? = some p0 := by
   cases hd0 : ps.drop i with
   | nil => rw [hd0] at hr; cases hr
   | cons y z => exact ⟨y, rfl⟩
  have hpi : ps[i]? = some p0 := by rwa [List.getElem?_drop, Nat.add_zero] at hp0
  obtain ⟨nt, eT⟩ := hT
  have hpl0 : p0 < es.size := hps _ (List.mem_of_getElem? hpi)
  have hes : es[p0]? = some es[p0] := Array.getElem?_eq_getElem hpl0
  have hdr : ps.drop i = p0 :: ps.drop (i + 1) := by
   obtain ⟨q1, q2⟩ := List.getElem?_eq_some_iff.mp hpi
   rw [List.drop_eq_getElem_cons q1, q2]
  rw [hdr, List.map_cons, hes] at hr
  have hx : x = es[p0].2 := (List.cons.inj hr).1
  have hr2 := (List.cons.inj hr).2
  dsimp only
  refine wpAny_bind (wpAny_seqItems (F.le _ _ eT) rfl ?_)
  have hpa : ((ps.map fun (p : Nat) => Value.int (p : Int) 0).toArray)[i]? = some (.int p0 0) := by simp [hpi]
  dsimp only
  simp only [Int.toNat_natCast, hpa]
  refine wpAny_bind ?_
  unfold setNextDrawn
  refine wpAny_bind (wpAny_setState_of ho hd hf ?_)
  dsimp only
  rw [if_neg (by simp)]
  rw [hes]
  dsimp only
  refine wpAny_pure ?_
  rw [← hx]
  refine wpAny_bind (F.setFld hdat (fun q t => h1ne _ .none _ _ _ _ q t) (by simp) fun s2 F2 => ?_)
  refine wpAny_pure ⟨_, rfl, wpAny_pure (h _ _ F2 ⟨by rw [Obj.cls_mapFields]; exact hc, .ref tp, i + 1, by rw [Obj.data_mapFields hdat]; simp [rawInt], .inr (.inr ⟨hb, hz, tp, ps, rfl, ⟨nt, eT⟩, hps, hr2⟩)⟩)⟩
theorem Fx.stop {P : Fin → Shared → Prop} {Q : Option Value → Shared → Prop} {E : Value → Shared → Prop} (F : Fx B md s₀ st₀ st L own l s) (hh : A.handled = none) (h : ∀ s', Fx B md s₀ st₀ st L own l s' → Q none s') :
  wpAny (model B.prog B.w) A.in1 (newExc (.type "StopIteration") [] >>= fun e => (raiseNew e : Sem Fin)) P (fun e s' => wpAny (model B.prog B.w) A (do
       let b ← isInstance e (Value.type "StopIteration")
       if b = true then pure none else throw e) Q E s') s := by
 refine wpAny_bind ?_
 simp only [newExc, newTuple]
 refine wpAny_bind (wpAny_newObj_type ?_ (by size_fits))
 refine wpAny_bind (m := firstArgMember _ _) (wpAny_of_eq (a := Value.none) (by first | rfl | (simp only [firstArgMember]; rfl)) ?_)
 refine wpAny_newObj_type ?_ (by size_fits)
 dsimp only [raiseNew]
 refine wpAny_bind (wpAny_handled ?_)
 rw [show A.in1.handled = none from hh]
 refine wpAny_bind (wpAny_pure (wpAny_throw ?_))
 refine wpAny_bind (wpAny_isInstance (T := "StopIteration") (b := true) ⟨_, Heap.get?_push_size _ rfl, rfl⟩ PySem.isSubtype_stop ?_)
 exact wpAny_pure (h _ ((F.push _ s.toks).push _ s.toks))
theorem Fx.setNextStop {Q : Option Value → Shared → Prop} {E : Value → Shared → Prop} (hh : A.handled = none) (F : Fx B md s₀ st₀ st L ((it, io) :: (S, o) :: own) l s) (hd : o.data = .set es ep t) (hf : t.fits es.size = true) (hled : t.led = !(byT B.w)) (hpl : es.size ≠ 0 → t.plain = false)
  (I : SIter B.w st S es ep t io []) (h : ∀ s', Fx B md s₀ st₀ st L ((S, o) :: own) l s' → Q none s') : wpAny (model B.prog B.w) A (pyNext (.ref it)) Q E s := by
 obtain ⟨hc, first, i, hdat, hm⟩ := I
 have ho := (F.ow _ (.tail _ (.head _))).1
 have hit := (F.ow _ (.head _)).1
 dsimp only at ho hit
 have T : s.TypeIs (.ref it) "set_iterator" := ⟨_, hit, hc⟩
 unfold pyNext
 refine wpAny_bind (wpAny_attempt (wpAny_callSpecial?_slot (name := Str.ofString "__next__") T slot_si_next (wpAny_call_entry slot_si_next T entry_si_next ?_ (args_si_next _))))
 unfold Builtin.«set_iterator.__next__»
 refine wpAny_bind (wpAny_pure ?_)
 refine wpAny_bind (wpAny_fieldsOf hit hdat ?_)
 dsimp only
 refine wpAny_bind (wpAny_setEntries_of ho hd hf ?_)
 rw [if_neg (by simp)]
 have h1ne : ∀ (f g a b c : Value) (k : Nat) (q : PySem.Str) (t : Tok), (#[f, Value.int (k : Int) 0, a, b, c] : Array Value)[1]? ≠ some (.str q t) := fun f g a b c k q t e => by cases e
 rcases hm with ⟨hb, sl, rfl, hr⟩ | ⟨hb, hz, sl, rfl, hr⟩ | ⟨hb, hz, tp, ps, rfl, ⟨nt, eT⟩, hps, hr⟩
 ·have hx : (pickOrder (B.w.params.setOrder S ep) es)[i]? = none := by
   have h1 := List.drop_eq_nil_iff.mp hr.symm
   rw [List.length_map, Array.length_toList] at h1
   exact Array.getElem?_eq_none h1
  dsimp only
  simp only [Int.toNat_natCast]
  refine wpAny_bind (setNext_next ho hd hf hled hpl (.inl ⟨hb, ?_⟩))
  rw [hx]
  dsimp only [Option.map_none]
  refine wpAny_bind (F.setFld hdat (fun q t => h1ne _ .none _ _ _ _ q t) (by simp) fun s2 F2 => ?_)
  exact (F2.drop (List.sublist_cons_self _ _)).stop hh h
 ·dsimp only
  simp only [Int.toNat_natCast]
  refine wpAny_bind (setNext_next ho hd hf hled hpl (.inr ⟨hb, hz, ?_⟩))
  have hes : es[SetTable.below t.place sl]? = none := by
   have hps : t.place.size = es.size := by
    have := hf
    simp only [SetTable.fits, Bool.and_eq_true, beq_iff_eq] at this
    exact this.1
   rcases hr with ⟨rfl, hr⟩ | ⟨_, j, hj, rfl⟩
   ·have : es.size = 0 := by have := congrArg List.length hr; simpa using this.symm
    exact Array.getElem?_eq_none (by rw [this]; exact Nat.zero_le _)
   ·have h1 : es.size = 1 := Nat.le_antisymm hz (hps ▸ (Array.getElem?_eq_some_iff.mp hj).1)
    rw [below_one (hps.trans h1)]
    have hg : t.place.getD 0 (j + 1) = j := by simp [Array.getD_eq_getD_getElem?, hj]
    rw [hg, if_pos (Nat.lt_succ_self _)]
    exact Array.getElem?_eq_none (Nat.le_of_eq h1)
  rw [hes]
  dsimp only
  refine wpAny_bind (F.setFld hdat (fun q t => h1ne _ .none _ _ _ _ q t) (by simp) fun s2 F2 => ?_)
  exact (F2.drop (List.sublist_cons_self _ _)).stop hh h
 ·have hpi : ((ps.map fun (p : Nat) => Value.int (p : Int) 0).toArray)[i]? = none := by
   have h1 := List.drop_eq_nil_iff.mp (List.map_eq_nil_iff.mp hr.symm)
   exact Array.getElem?_eq_none (by simpa using h1)
  dsimp only
  refine wpAny_bind (wpAny_seqItems (F.le _ _ eT) rfl ?_)
  dsimp only
  simp only [Int.toNat_natCast, hpi]
  refine wpAny_bind (F.setFld hdat (fun q t => h1ne _ .none _ _ _ _ q t) (by simp) fun s2 F2 => ?_)
  refine wpAny_bind (F2.setFld (Obj.data_mapFields hdat _) (fun q t e => by simp [rawInt] at e) (by simp) fun s3 F3 => ?_)
  exact (F3.drop (List.sublist_cons_self _ _)).stop hh h
theorem Fx.setIter {Q E : Value → Shared → Prop} (F : Fx B md s₀ st₀ st L ((S, o) :: own) l s) (hc : o.cls = .type "set") (hd : o.data = .set es ep t) (hf : t.fits es.size = true) (hpl : es.size ≠ 0 → t.plain = false) (hz : es.size ≤ 1000)
  (h : ∀ it io rest st' s', St.le st st' → Fx B md s₀ st₀ st' L ((it, io) :: (S, o) :: own) l s' → SIter B.w st' S es ep t io rest → List.Perm rest (es.toList.map (·.2)) → Q (.ref it) s') : wpAny (model B.prog B.w) A (pyIter (.ref S)) Q E s := by
 have ho := (F.ow _ (.head _)).1
 dsimp only at ho
 have T : s.TypeIs (.ref S) "set" := ⟨_, ho, hc⟩
 refine wpAny_pyIter_slot T PySem.F.slot_set_iter (wpAny_call_entry PySem.F.slot_set_iter T entry_set_iter ?_ (PySem.F.args_set_iter_1 _))
 unfold Builtin.«frozenset.__iter__» Builtin.Frozenset.slot0 Builtin.Frozenset.sizeOf setDrawn setEpoch
 refine wpAny_bind (wpAny_bind (wpAny_pure ?_))
 refine wpAny_pure ?_
 refine wpAny_bind (wpAny_bind (wpAny_setEntries_of ho hd hf (wpAny_pure ?_)))
 refine wpAny_bind ?_
 refine wpAny_bind (wpAny_setState_of ho hd hf ?_)
 dsimp only
 unfold setsByText
 refine wpAny_bind (wpAny_bind (wpAny_askSetting (wpAny_pure ?_)))
 refine wpAny_pure ?_
 show wpAny _ _ (if (!(byT B.w) && (!t.plain && decide (es.size > 1))) = true then _ else _) _ _ _
 have fin : ∀ (first : Value) (st' : St) (s' : Shared) (rest : List Value), St.le st st' → Fx B md s₀ st₀ st' L ((S, o) :: own) l s' → SIter B.w st' S es ep t { cls := .type "set_iterator", data := .fields #[first, .int (0 : Nat) 0, .ref S, .int es.size 0, .int ep 0] } rest → List.Perm rest (es.toList.map (·.2)) →
   wpAny (model B.prog B.w) A.in1 (do
     let ep' ← (do
       let x ← setState S
       pure x.2.1)
     let x ← newFields "set_iterator" [first, rawInt 0, Value.ref S, rawInt (es.size : Int), rawInt (ep' : Int)]
     PySem.ret x) (fun fin s' => ∃ v, fin = Fin.done (Flow.ret v) ∧ ∃ T' r, s'.TypeIs v T' ∧ typeLookup (Value.type T') (Str.ofString "__next__") = pure (some r) ∧ Q v s') E s' := by
  intro first st' s' rest le F' I hp
  have ho' := (F'.ow _ (.head _)).1
  dsimp only at ho'
  refine wpAny_bind (wpAny_bind (wpAny_setState_of ho' hd hf (wpAny_pure ?_)))
  refine wpAny_bind (wpAny_newObj_type (wpAny_pure ⟨_, rfl, "set_iterator", _, ⟨_, Heap.get?_push_size _ rfl, rfl⟩, slot_si_next.lookup, ?_⟩))
  exact h _ _ rest st' _ le (F'.pushO (o := { cls := .type "set_iterator", data := .fields #[first, .int (0 : Nat) 0, .ref S, .int es.size 0, .int ep 0] }) (t := s'.toks) rfl) I hp
 cases hb : byT B.w with
 | true =>
  rw [if_neg (by simp)]
  refine wpAny_bind (wpAny_pure ?_)
  exact fin _ st _ _ (St.le.refl _) F ⟨rfl, _, 0, rfl, .inl ⟨hb, 0, rfl, rfl⟩⟩ (by rw [List.drop_zero]; exact (pick_perm _ _).map _)
 | false =>
  rcases Nat.lt_or_ge 1 es.size with hz1 | hz1
  ·rw [if_pos (by rw [hpl (by o_head qo)]; simp; o_head qo)]
   refine wpAny_bind (wpAny_drawOrder es.size (by simp) fun ys d hy => ?_)
   have F1 := F.drawn (d := d)
   obtain ⟨le, G⟩ := F1.pushS (o := tupO (ys.map fun (p : Nat) => Value.int (p : Int) 0) 0) (t := s.toks) rfl
   have hl : ys.length = es.size := by rw [hy.length_eq, List.length_range]
   refine wpAny_bind (wpAny_newTuple ?_ (by rw [List.length_map, hl, sizeLine_eq]; o_head qo))
   refine fin _ _ _ _ le G ⟨rfl, _, 0, rfl, .inr (.inr ⟨hb, hz1, _, ys, rfl, ⟨0, St.put_self⟩, fun p hp => List.mem_range.mp (hy.mem_iff.mp hp), rfl⟩)⟩ ?_
   rw [List.drop_zero]
   refine (hy.map _).trans (List.Perm.of_eq ?_)
   refine List.ext_getElem (by simp) fun i h1 h2 => ?_
   simp
   have : i < es.size := by simpa using h2
   rw [Array.getElem?_eq_getElem this]
   rfl
  ·rw [if_neg (by simp; intros; o_head qo)]
   refine wpAny_bind (wpAny_pure ?_)
   exact fin _ st _ _ (St.le.refl _) F ⟨rfl, _, 0, rfl, .inr (.inl ⟨hb, hz1, 0, rfl, .inl ⟨rfl, rfl⟩⟩)⟩ (.refl _)
end
theorem permA {α : Type} {a b c : α} {l : List α} : List.Perm (a :: b :: c :: l) (c :: a :: b :: l) := ((List.Perm.swap c b l).cons a).trans (List.Perm.swap c a (b :: l))
section
variable {it S C : Addr} {o : Obj} {es : Array (Int × Value)} {ep : Nat} {t : SetTable} {res : Value}
theorem Fx.colLoop {R : Result → Shared → Prop} {all : List Value} (hh : A.handled = none) (hd : o.data = .set es ep t) (hf : t.fits es.size = true) (hled : t.led = !(byT B.w)) (hpl : es.size ≠ 0 → t.plain = false) (hn : all.length ≤ 900)
  (hR : ∀ s' n, Fx B md s₀ st₀ st L ((S, o) :: (C, lstO all n) :: own) l s' → R (.ok (.ret res)) s') :
  ∀ (rest acc : List Value) (n : Nat) (io : Obj) (s : Shared), Fx B md s₀ st₀ st L ((it, io) :: (S, o) :: (C, lstO acc n) :: own) l s → SIter B.w st S es ep t io rest → acc ++ rest = all →
   codeAny (model B.prog B.w) A (.builtin "list.extend.loop" ⟨[.ref C, .ref it, res], []⟩) R s := by
 intro rest
 induction rest with
 | nil =>
  intro acc n io s F I ha
  rw [List.append_nil] at ha
  subst ha
  refine codeAny_builtin PySem.F.entry_extend_loop ?_
  rw [Around.under_plainId PySem.F.plain_extend_loop _]
  show wpAny _ A.in1 (pyNext (.ref it) >>= _) _ _ s
  refine wpAny_bind (Fx.setNextStop (A := A.in1) hh F hd hf hled hpl I fun s' F' => ?_)
  exact wpAny_pure (hR s' n F')
 | cons x r ih =>
  intro acc n io s F I ha
  refine codeAny_builtin PySem.F.entry_extend_loop ?_
  rw [Around.under_plainId PySem.F.plain_extend_loop _]
  show wpAny _ A.in1 (pyNext (.ref it) >>= _) _ _ s
  refine wpAny_bind (F.setNextItem hd hf hled hpl I fun io' s1 F1 I1 => ?_)
  have hC := (F1.ow _ (.tail _ (.tail _ (.head _)))).1
  dsimp only at hC
  have hl : acc.length + 1 ≤ 900 := by
   have := congrArg List.length ha
   simp only [List.length_append, List.length_cons] at this
   o_head qo
  show wpAny _ A.in1 (updateSeq C (·.push x) >>= _) _ _ _
  refine wpAny_bind ?_
  refine wpAny_updateSeq hC rfl (wpAny_pure ⟨plainId_quiet PySem.F.plain_extend_loop _, ?_⟩) (by simp only [List.size_toArray]; rw [sizeLine_eq]; o_head qo) (by show (Array.push _ _).size ≤ _; rw [Array.size_push, List.size_toArray, sizeLine_eq]; o_head qo)
  have F2 := (F1.ownPerm permA.symm).update (f := Obj.mapSeq fun y => y.push x) (t := s1.toks) (fun vs e => nomatch e) rfl
  have q : Obj.mapSeq (fun y => y.push x) (lstO acc n) = lstO (acc ++ [x]) (n + 1) := by
   unfold Obj.mapSeq lstO
   simp
  rw [q] at F2
  exact ih (acc ++ [x]) (n + 1) io' _ (F2.ownPerm permA) I1 (by rw [List.append_assoc]; exact ha)
theorem hint_set {r : Addr} {Q : Bool → Shared → Prop} {E : Value → Shared → Prop} (hT : s.TypeIs (.ref r) "set") (h : Q false s) : wpAny (model B.prog B.w) A (Builtin.List.listLengthHint (.ref r)) Q E s := by
 unfold Builtin.List.listLengthHint
 refine wpAny_bind (wpAny_specialOf hT PySem.F.slot_set_len.lookup ?_)
 generalize hid : ("set.__len__" : String) = id0
 wp_delta
 rw [show splitId id0 = some ("set", "__len__") from by subst hid; decide +kernel]
 subst hid
 refine wpAny_bind (wpAny_isInstance (T := "set") (b := true) hT (by rw [isSubtype_type]; kernel_rfl) ?_)
 refine wpAny_ite_split (fun hab => absurd hab (by decide)) (fun z => ?_)
 refine wpAny_ite_split (fun z => ?_) (fun hab => absurd (by decide +kernel) hab)
 refine wpAny_bind (wpAny_typeOf hT ?_)
 exact wpAny_pure h
theorem Fx.collectS {qs : List PySem.Str} {Q : List Value → Shared → Prop} {E : Value → Shared → Prop} (F : Fx B md s₀ st₀ st L ((S, o) :: own) l s) (hh : A.handled = none) (hS : SetS B.prog B.w o qs) (hn : qs.length ≤ 900)
  (h : ∀ xs qs' st' s', St.le st st' → Fx B md s₀ st₀ st' L ((S, o) :: own) l s' → StrsAre xs qs' → List.Perm qs' qs → Q xs s') : wpAny (model B.prog B.w) A (PySem.collect (.ref S)) Q E s := by
 obtain ⟨es, ep, t, hex, hd, hel, hst, hnd, hf, hled, hpl⟩ := id hS
 have hlen : es.size = qs.length := by have := StrsAre.len' hst; rwa [List.length_map, Array.length_toList] at this
 unfold PySem.collect
 refine wpAny_bind (wpAny_runValue (codeAny_builtin PySem.F.entry_proto_collect ?_))
 rw [Around.under_plainId PySem.F.plain_proto_collect _]
 show wpAny _ A.in1 (newList [] >>= fun l => again (.builtin "list.__iadd__" ⟨[l, .ref S], []⟩)) _ _ s
 refine wpAny_bind (wpAny_newObj_type ?_)
 refine wpAny_pure ⟨plainId_quiet PySem.F.plain_list_iadd _, codeAny_builtin PySem.F.entry_list_iadd ?_⟩
 rw [Around.under_plainId PySem.F.plain_list_iadd _]
 have F1 := (F.pushO (o := lstO [] 0) (t := s.toks) rfl).ownPerm (List.Perm.swap ..)
 have hSC : s.heap.objs.size ≠ S := fun e => Nat.lt_irrefl _ (e ▸ Heap.lt_size (F.ow _ (.head _)).1)
 generalize s.heap.objs.size = C at F1 hSC
 show wpAny _ A.in1 (Builtin.List.listExtendWith (.ref C) (.ref S) (.ref C)) _ _ _
 unfold Builtin.List.listExtendWith
 have hSo := (F1.ow _ (.head _)).1
 dsimp only at hSo
 have T : Shared.TypeIs { s with heap := s.heap.push (lstO [] 0) } (.ref S) "set" := ⟨_, hSo, hex.1⟩
 refine wpAny_bind (wpAny_typeOf T ?_)
 have h1 : Builtin.List.listSameRef (.ref C) (.ref S) = false := by simp [Builtin.List.listSameRef, hSC]
 have h2 : (Value.type "set" == Value.type "list") = false := by decide
 have h3 : (Value.type "set" == Value.type "tuple") = false := by decide
 simp only [h1, h2, h3, Bool.or_false, Bool.false_eq_true, if_false]
 refine wpAny_bind (F1.setIter hex.1 hd hf hpl (by o_head qo) fun it io rest st2 s2 le2 F2 I2 hp2 => ?_)
 refine wpAny_bind (wpAny_holding ?_)
 have hSo2 := (F2.ow _ (.tail _ (.head _))).1
 dsimp only at hSo2
 have T2 : s2.TypeIs (.ref S) "set" := ⟨_, hSo2, hex.1⟩
 refine hint_set T2 ?_
 have hrl : rest.length ≤ 900 := by rw [hp2.length_eq, List.length_map, Array.length_toList]; o_head qo
 have hall : ∀ v ∈ rest, ∃ x t, v = .str x t := fun v hv => StrsAre.all hst v (hp2.mem_iff.mp hv)
 have last : ∀ (n' : Nat) (s' : Shared), Fx B md s₀ st₀ st2 L ((S, o) :: (C, lstO rest n') :: own) l s' → Q rest s' := fun n' s' F' => by
  refine h rest _ st2 s' le2 ((F'.ownPerm (List.Perm.swap ..)).drop (List.sublist_cons_self _ _)) (strsAre_map rest hall) ?_
  have := hp2.map strOf
  rwa [StrsAre.strs hst] at this
 have hC2 := (F2.ow _ (.tail _ (.tail _ (.head _)))).1
 dsimp only at hC2
 refine wpAny_ite_split (fun z => ?_) (fun hab => absurd (by decide +kernel) hab)
 refine wpAny_bind (wpAny_rule ?_)
 refine wpAny_bind ?_
 show wpAny _ _ (updateSeq C (·.push .none) >>= fun z => updateSeq C (·.pop)) _ _ _
 refine wpAny_bind (wpAny_updateSeq hC2 rfl ?_)
 have hC3 := Heap.get?_update_self (Obj.mapSeq (·.push Value.none)) hC2 rfl
 refine wpAny_updateSeq hC3 rfl ?_
 refine wpAny_pure ⟨plainId_quiet PySem.F.plain_extend_loop _, ?_⟩
 have G1 := (F2.ownPerm permA.symm).update (f := Obj.mapSeq fun y => y.push .none) (t := s2.toks) (fun vs e => nomatch e) rfl
 have G2 := G1.update (f := Obj.mapSeq fun y => y.pop) (t := s2.toks) (fun vs e => nomatch e) rfl
 exact Fx.colLoop (A := A) (own := own) (all := rest) hh hd hf hled hpl hrl (fun s' n' F' => by
  have hC' := (F'.ow _ (.tail _ (.head _))).1
  dsimp only at hC'
  show wpAny _ A (load C >>= _) _ _ s'
  refine wpAny_bind (wpAny_load hC' ?_)
  refine wpAny_pure ?_
  show Q rest.toArray.toList s'
  rw [List.toList_toArray]
  exact last n' s' F') rest [] 2 io _ (G2.ownPerm permA) I2 rfl
end
theorem Fx.gain {a : Addr} {o : Obj} {h' : Heap} {t : Nat} (F : Fx B md s₀ st₀ st L own l s) (hk : ∀ b x, s.heap.get? b = some x → h'.get? b = some x) (ha : s.heap.objs.size ≤ a) (ho : h'.get? a = some o) : Fx B md s₀ st₀ st L ((a, o) :: own) l { s with heap := h', toks := t } := by
 have G := F.keeps (t := t) hk
 have hst : st a = none := by
  cases q : st a with
  | none => rfl
  | some x => exact absurd (Heap.lt_size (F.le _ _ q)) (Nat.not_lt.mpr ha)
 have hL : a ≠ L := fun q => by
  obtain ⟨m, ⟨oL, _, _, e, _⟩, _⟩ := F.ns
  exact absurd (Heap.lt_size e) (Nat.not_lt.mpr (q ▸ ha))
 exact { G with
  ow := fun p hp => by
   rcases List.mem_cons.mp hp with rfl | hp
   ·exact ⟨ho, hst, hL, .inl (Nat.le_trans F.ext.2 ha), Nat.le_trans F.inv.size ha⟩
   ·exact G.ow p hp
  nodup := List.nodup_cons.mpr ⟨fun hm => by
   obtain ⟨p, hp, q⟩ := List.mem_map.mp hm
   exact absurd (Heap.lt_size (F.ow p hp).1) (Nat.not_lt.mpr (q ▸ ha)), F.nodup⟩ }
theorem Fx.sortedC {v : Value} {qs : List PySem.Str} {Q E : Value → Shared → Prop} (hn : qs.length ≤ 60)
  (hc : ∀ (Q' : List Value → Shared → Prop), (∀ xs qs' st' s', St.le st st' → Fx B md s₀ st₀ st' L own l s' → StrsAre xs qs' → List.Perm qs' qs → Q' xs s') → wpAny (model B.prog B.w) A.in1 (PySem.collect v) Q' E s)
  (h : ∀ a st' s' xs qs', St.le st st' → Fx B md s₀ st₀ st' L own l s' → Lst st' a xs → StrsAre xs qs' → List.Perm qs' qs → sortedS qs' = true → Q (.ref a) s') :
  wpAny (model B.prog B.w) A (PySem.call (.builtin "sorted") [v]) Q E s := by
 refine Calls.call_function_entry kind_sorted plain_sorted entry_sorted (args_sorted1 _) ?_
 unfold Builtin.«sorted»
 refine wpAny_bind (m := checkCount "sorted" 1 1 _) (wpAny_pure ?_)
 refine wpAny_bind (hc _ fun xs qs1 st1 s1 le1 F1 hS1 hp1 => ?_)
 have hlen : xs.length = qs.length := by rw [StrsAre.len' hS1, hp1.length_eq]
 refine wpAny_bind (wpAny_newList ?_)
 show wpAny _ _ _ _ _ { s1 with heap := s1.heap.push (seqObj "list" xs.toArray 0) }
 have hoL : (s1.heap.push (seqObj "list" xs.toArray 0)).get? s1.heap.objs.size = some (seqObj "list" xs.toArray 0) := Heap.get?_push_size _ rfl
 refine wpAny_bind (wpAny_holding (wpAny_call_entry PyProof.Rows.slot_list_sort ⟨_, hoL, rfl⟩ PyProof.Rows.entry_list_sort (list_sort_treeK (κ := PyProof.Rows.strKind) strKind_oneLt hoL (StrsAre.keysOf hS1) (fun v₁ v₂ rest e => keyKind_strs (by rw [← e]; exact hS1)) (by o_head qo) fun st' a1 a2 => ⟨_, rfl, ?_⟩) (args_list_sort _)))
 obtain ⟨ss', q1, q2, q3⟩ := sorted_out_str hS1 a1 a2
 obtain ⟨e, he⟩ := sortedHeap_at (out := (arrOf st').map (·.2)) hoL
 have hk : ∀ b x, s1.heap.get? b = some x → (sortedHeap (s1.heap.push (seqObj "list" xs.toArray 0)) s1.heap.objs.size xs ((arrOf st').map (·.2))).get? b = some x := fun b x hb => by
  have hb' : (s1.heap.push (seqObj "list" xs.toArray 0)).get? b = some x := Heap.get?_push_of_some _ hb
  exact (sortedHeap_old (Nat.ne_of_lt (Heap.lt_size hb)) (Heap.lt_size hb')).trans hb'
 have fin : ∀ (H' : Heap), (∀ b x, s1.heap.get? b = some x → H'.get? b = some x) → H'.get? s1.heap.objs.size = some (seqObj "list" ((arrOf st').map (·.2)) e) → Q (.ref s1.heap.objs.size) { s1 with heap := H' } := fun H' hk he => by
  have G := F1.gain (t := s1.toks) hk (Nat.le_refl _) he
  obtain ⟨lef, G2⟩ := G.freeze F1.ext.2
  exact h _ _ _ ((arrOf st').map (·.2)).toList ss' (le1.trans lef) G2 ⟨e, by rw [St.put_self]⟩ q1 (q2.trans hp1) q3
 exact wpAny_pure ⟨_, rfl, fin _ hk he⟩
theorem Fx.sortedSet {S : Addr} {o : Obj} {qs : List PySem.Str} {Q E : Value → Shared → Prop} (F : Fx B md s₀ st₀ st L ((S, o) :: own) l s) (hh : A.handled = none) (hS : SetS B.prog B.w o qs) (hn : qs.length ≤ 60)
  (h : ∀ a st' s' xs qs', St.le st st' → Fx B md s₀ st₀ st' L ((S, o) :: own) l s' → Lst st' a xs → StrsAre xs qs' → List.Perm qs' qs → sortedS qs' = true → Q (.ref a) s') :
  wpAny (model B.prog B.w) A (PySem.call (.builtin "sorted") [.ref S]) Q E s :=
 Fx.sortedC (own := (S, o) :: own) hn (fun Q' k => F.collectS (A := A.in1) hh hS (by o_head qo) k) h
theorem Fx.sortedL {a : Addr} {vs : List Value} {qs : List PySem.Str} {Q E : Value → Shared → Prop} (F : Fx B md s₀ st₀ st L own l s) (hl : LA st own a vs) (hS : StrsAre vs qs) (hn : qs.length ≤ 60)
  (h : ∀ a st' s' xs qs', St.le st st' → Fx B md s₀ st₀ st' L own l s' → Lst st' a xs → StrsAre xs qs' → List.Perm qs' qs → sortedS qs' = true → Q (.ref a) s') :
  wpAny (model B.prog B.w) A (PySem.call (.builtin "sorted") [.ref a]) Q E s := by
 have hvl : vs.length ≤ 60 := by rw [StrsAre.len' hS]; exact hn
 refine Fx.sortedC (own := own) hn (fun Q' k => ?_) h
 refine collect_list (hl.list F) ?_ (by rw [sizeLine_eq]; o_head qo)
 refine k vs qs st _ (St.le.refl _) (F.keeps (t := s.toks) fun b x hb => ?_) hS (.refl _)
 rw [Heap.get?_update_ne _ _ _ _ (Nat.ne_of_lt (Heap.lt_size hb))]
 exact Heap.get?_push_of_some _ hb
theorem risingS_pw : ∀ (l : List PySem.Str) (p : PySem.Str), risingS p l = true → (p :: l).Pairwise fun a b => b.cps.toList < a.cps.toList → False
 | [], _, _ => List.pairwise_singleton ..
 | x :: r, p, h => by
  have h' : (!PySem.Spec.ltCps x.cps.toList p.cps.toList && risingS x r) = true := h
  rw [Bool.and_eq_true, Bool.not_eq_true', ltCps_eq, decide_eq_false_iff_not] at h'
  have ih := risingS_pw r x h'.2
  refine List.pairwise_cons.mpr ⟨fun y hy => ?_, ih⟩
  rcases List.mem_cons.mp hy with rfl | hy
  ·exact h'.1
  ·have h2 := (List.pairwise_cons.mp ih).1 y hy
   intro h3
   exact h'.1 (List.lt_of_le_of_lt (List.not_lt.mp h2) h3)
theorem sortedS_pw {l : List PySem.Str} (h : sortedS l = true) : l.Pairwise fun a b => b.cps.toList < a.cps.toList → False := by
 cases l with
 | nil => exact .nil
 | cons x r => exact risingS_pw r x h
theorem sorted_same {ps qs : List PySem.Str} (h1 : sortedS ps = true) (h2 : sortedS qs = true) (hp : List.Perm ps qs) : ps = qs :=
 List.Perm.eq_of_pairwise (le := fun a b => b.cps.toList < a.cps.toList → False) (fun a b z z x y => by
  have := List.le_antisymm (List.not_lt.mp x) (List.not_lt.mp y)
  have h3 : a.cps = b.cps := Array.toList_inj.mp this
  cases a; cases b; cases h3; rfl) (sortedS_pw h1) (sortedS_pw h2) hp
theorem Fx.neLists {a b : Addr} {vs us : List Value} {ps : List PySem.Str} {Q E : Value → Shared → Prop} (F : Fx B md s₀ st₀ st L own l s) (hu : A.units < cLine) (ha : LA st own a vs) (hb : LA st own b us) (hs : StrsAre vs ps) (hr : StrsAre us ps) (h : Q (.bool false) s) :
  wpAny (model B.prog B.w) A (compareOp .NotEq (.ref a) (.ref b)) Q E s := by
 have l1 := StrsAre.len' hs
 have l2 := StrsAre.len' hr
 refine PySem.EqBoolInt.of_rcne (k := false) ?_ h
 have key := SeqAt.RcNeAt.lists (A := A) (e := fun z => true) (ha.list F) (hb.list F) (by simp; o_head qo) hu (fun j h1 h2 => ?_)
 ·have hall : ((List.range vs.toArray.size).all fun z => true) = true := List.all_eq_true.mpr fun z z => rfl
  rw [hall] at key
  exact key
 ·have q1 : j < vs.length := by simpa using h1
  have q2 : j < us.length := by simpa using h2
  obtain ⟨x, t, ex⟩ := StrsAre.all hs vs[j] (List.getElem_mem q1)
  obtain ⟨y, u, ey⟩ := StrsAre.all hr us[j] (List.getElem_mem q2)
  have hxy : x = y := by
   have e1 : (vs.map strOf)[j]? = (us.map strOf)[j]? := by rw [StrsAre.strs hs, StrsAre.strs hr]
   rw [List.getElem?_map, List.getElem?_map, List.getElem?_eq_getElem q1, List.getElem?_eq_getElem q2, ex, ey] at e1
   exact Option.some.inj e1
  simp only [List.getElem_toArray]
  rw [ex, ey, hxy]
  have := SeqAt.EqAt.str_str (A := A.in1) (s := s) y t y u
  rwa [beq_self_eq_true] at this
noncomputable def dispQ (B : Bs) (md : List Addr) (s₀ : Shared) (st₀ st : St) (L : Addr) (own : List (Addr × Obj)) (l : List (Str × Value)) (d : Addr) (Q : Value → Shared → Prop) (vs : List (Value × Value)) (s₁ : Shared) : Prop :=
 ∃ kvs, Carries (PySem.strKind B.prog B.w) vs kvs ∧ Fx B md s₀ st₀ st L ((d, { cls := .type "dict", data := .dict #[] }) :: own) l s₁ ∧ ∀ o' s', o'.IsDictOf (PySem.strKind B.prog B.w) (merged [] kvs) → Fx B md s₀ st₀ st L ((d, o') :: own) l s' → Q (.ref d) s'
theorem empty_dic' {B : Bs} {h : Heap} : ({ cls := .type "dict", data := .dict #[] } : Obj).IsDictOf (PySem.strKind B.prog B.w) [] := by
 obtain ⟨o, ho, hd⟩ := Heap.dictOf_iff.mp (Heap.DictOf.new (knd := PySem.strKind B.prog B.w) h)
 rw [Heap.get?_push_size _ rfl] at ho
 exact (Option.some.inj ho) ▸ hd
theorem Fx.dispD {keys : List (Option Expr)} {values : List Expr} {pos : Pos} {env : Env} {Q E : Value → Shared → Prop} (F : Fx B md s₀ st₀ st L own l s)
  (h : ∀ d s', s₀.heap.objs.size ≤ d → Fx B md s₀ st₀ st L ((d, { cls := .type "dict", data := .dict #[] }) :: own) l s' → wpAny (model B.prog B.w) A (evalPairs (pairTrees keys values env pos)) (dispQ B md s₀ st₀ st L own l d Q) E s')
  (hall : autoParam (keys.all (·.isSome) = true) Mine.tR) (hl : autoParam (keys.length = values.length) Mine.tR) (h0 : keys ≠ []) (hlen : keys.length ≤ 15) :
  wpAny (model B.prog B.w) A (eval (.Dict keys values pos) env) Q E s := by
 refine wpAny_Dict_walk (knd := PySem.strKind B.prog B.w) hall hl h0 hlen ?_
 have F0 := F.pushO (o := { cls := .type "dict", data := .dict #[] }) (t := s.toks) rfl
 refine wpAny_mono (h _ _ F.ext.2 F0) (fun vs s₁ q => ?_) fun z z e => e
 obtain ⟨kvs, hc, F1, hq⟩ := q
 have e1 := (F1.ow _ (.head _)).1
 dsimp only at e1
 refine ⟨kvs, hc, Heap.dictOf_iff.mpr ⟨_, e1, empty_dic' (h := s.heap)⟩, fun h' hd hs => ?_⟩
 obtain ⟨o', ho', hd'⟩ := Heap.dictOf_iff.mp hd
 exact hq o' _ hd' (F1.changeI (t := s₁.toks + vs.length) (fun vs e => nomatch e) hs ho')
theorem Fx.neB {a b : Bool} {Q E : Value → Shared → Prop} (_F : Fx B md s₀ st₀ st L own l s) (h : Q (.bool (!(a == b))) s) : wpAny (model B.prog B.w) A (compareOp .NotEq (.bool a) (.bool b)) Q E s := PySem.EqBoolInt.of_rcne (SeqAt.RcNeAt.bool_bool a b) h
theorem Fx.neT {x y : PySem.Str} {t u : Tok} {Q E : Value → Shared → Prop} (_F : Fx B md s₀ st₀ st L own l s) (h : Q (.bool (!(x == y))) s) : wpAny (model B.prog B.w) A (compareOp .NotEq (.str x t) (.str y u)) Q E s := PySem.EqBoolInt.of_rcne (SeqAt.RcNeAt.str_str x t y u) h
theorem enterCF {name qual : Str} {params : Arguments} {body : List Stmt} {scope : Scope} {dV kV doc pm cdv ct oc : Value} {an od : Option Addr} {osl : Array (Option Value)} {f : Addr} {args : List Value} {kw : List (Str × Value)} {binds : List (Str × Value)} {Φ : Heap → St → Value → Prop} {n : Nat} {x : Str}
  (H : At B st s) (R : Rm A (n + 1)) (FS : Frs A [] s.heap)
  (ho : (hd.heap_39 B.w.params).lookup f = some ⟨oc, od, .func (fnOf name qual params body scope dV kV doc pm an cdv ct), osl⟩) (hcd : codeIn (hd.heap_39 B.w.params) cdv qual = true)
  (hbind : BindsTo s (fnOf name qual params body scope dV kV doc pm an cdv ct) ⟨args, kw⟩ binds) (hS : ScopeOk scope) {ps : List Str} (hps : binds.map (·.1) = ps) (hbn : ps.Nodup)
  (hll : ∀ y ∈ ps, (y, NameKind.local) ∈ scope.names) (hx : (x, NameKind.cell) ∈ scope.names) (hxp : x ∉ ps) (honly : ∀ k, cellsFrom k scope.names [] = [(x, k)])
  (hco : scope.isCoroutine = false) (hgen : scope.isGenerator = false)
  (h : ∀ (Q E' : Value → Shared → Prop) L s₁ env A' o, Back B [] st s Φ Q → En env L scope.names [(x, L + 1)] qual cdv → Rm A' n → Frs A' [L] s₁.heap → o.data = .cell none → Fx B [] s st st L [(L + 1, o)] binds s₁ →
   wpAny (model B.prog B.w) A' (execs body env) (fun fl s' => Q (match fl with | .ret v => v | _ => .none) s') E' s₁) :
  Spec B A [] st s (PySem.call (.ref f) args kw) Φ := fun Q E k => by
 have X := H.ok.X.keeps H.inv.base
 have hnd : (binds.map (·.1)).Nodup := hps ▸ hbn
 refine wpAny_call (codeAny_call_function (fd := fnOf name qual params body scope dV kV doc pm an cdv ct) (body := body) (by have := R.d; o_head qo) (X _ _ ho) rfl hco hgen rfl (codeRec_of X hcd) ?_)
 refine hbind _ _ _ _ (wpAny_newFunctionEnv_cells hS.kind (fun y hy => .inl (hS.at (hll y.1 (hps ▸ List.mem_map_of_mem (f := (·.1)) hy)))) fun env henv s₁ C => ?_)
 subst henv
 rw [honly] at C ⊢
 have N : En (envX qual scope s.heap.objs.size f cdv [(x, s.heap.objs.size + 1)]) s.heap.objs.size scope.names [(x, s.heap.objs.size + 1)] qual cdv := hS.en
 obtain ⟨⟨⟨h₁, tk, e1⟩, hns, keep, hfr⟩, hcell, _, habove⟩ := C
 subst e1
 dsimp only at hns keep hcell
 change h₁.Ns s.heap.objs.size _ at hns
 have hsz : s.heap.objs.size < h₁.objs.size := by obtain ⟨o, _, _, e, _⟩ := hns; exact Heap.lt_size e
 refine ⟨(H.ok.lim.keeps H.inv.base).keeps keep, codeAny_func ?_⟩
 obtain ⟨o, eo, od'⟩ := hcell x (s.heap.objs.size + 1) (by show List.lookup x [(x, s.heap.objs.size + 1)] = _; rw [List.lookup_cons, beq_self_eq_true])
 have hLg : B.g.objs.size ≤ s.heap.objs.size := H.inv.size
 have nost : ∀ b : Nat, s.heap.objs.size ≤ b → st b = none := fun b hb => by
  cases q : st b with
  | none => rfl
  | some o => exact absurd (Heap.lt_size (H.le _ _ q)) (Nat.not_lt.mpr hb)
 have F : Fx B [] s st st s.heap.objs.size [(s.heap.objs.size + 1, o)] binds { s with heap := h₁, toks := tk } := by
  refine ⟨H.ok, ⟨fun b o e => keep _ _ (H.inv.base _ _ e), H.inv.bare, fun x hx => ?_, Nat.le_trans H.inv.size (Nat.le_of_lt hsz)⟩, ⟨_, hns, fun p hp => bindL_get ((N.at' _ (hll _ (hps ▸ List.mem_map_of_mem hp))).1) _ _ hnd hp⟩, fun b o e => keep _ _ (H.le _ _ e), H.offT, nost _ (Nat.le_refl _), Nat.le_refl _, fun p hp => ?_, List.nodup_cons.mpr ⟨List.not_mem_nil, .nil⟩, ⟨fun b o z z e => keep _ _ e, Nat.le_of_lt hsz⟩, fun b o e hb => e, St.le.refl _, rfl, hLg⟩
  ·obtain ⟨ps, h1, h2, h3⟩ := (H.inv.tabs x hx).ex
   exact ⟨ps, keep _ _ h1, h2, fun pos cv hc => (h3 pos cv hc).keeps keep⟩
  ·cases List.mem_singleton.mp hp
   exact ⟨eo, nost _ (Nat.le_succ _), Nat.succ_ne_self _, .inl (Nat.le_succ _), Nat.le_trans hLg (Nat.le_succ _)⟩
 have FS1 : Frs (A.deeper (envX qual scope s.heap.objs.size f cdv [(x, s.heap.objs.size + 1)])) [s.heap.objs.size] h₁ := FS.deeper (by rw [N.kind]; decide) rfl hns fun b hb => nomatch hb
 refine h Q _ _ _ _ _ o k N (R.room.deeper) FS1 ?_ F
 rw [od', bindC_keep _ _ (hps ▸ hxp)]
theorem Fx.storeC {x : Str} {v : Value} {c : Addr} {o : Obj} {env : Env} {names : List (Str × NameKind)} {qual : Str} {cd : Value} {Q : Unit → Shared → Prop} {E : Value → Shared → Prop} (F : Fx B md s₀ st₀ st L ((c, o) :: own) l s) (N : En env L names [(x, c)] qual cd) (hx : (x, NameKind.cell) ∈ names) (hd : o.data = .cell none) (hn : s₀.heap.objs.size ≤ c)
  (h : ∀ st' s', St.le st st' → Cells st' [(x, c)] [(x, v)] → Fx B md s₀ st₀ st' L own l s' → Q () s') : wpAny (model B.prog B.w) A (storeName env x v) Q E s := by
 have g := (F.ow _ (.head _)).1
 dsimp only at g
 refine wpAny_storeName_cell N.kind (N.at' _ hx).1 (N.cells.symm ▸ (show List.lookup x [(x, c)] = some c by rw [List.lookup_cons, beq_self_eq_true])) ⟨o, g, hd⟩ fun h' hc hs => ?_
 obtain ⟨o', ho', hd'⟩ := hc
 have F1 := F.changeI (t := s.toks) (fun vs e => by rw [hd] at e; cases e) hs ho'
 obtain ⟨le, F2⟩ := F1.freeze hn
 refine h _ _ le (fun p hp => ?_) F2
 cases List.mem_singleton.mp hp
 exact ⟨c, by rw [List.lookup_cons, beq_self_eq_true], o', St.put_self, hd'⟩
noncomputable abbrev lc (x : Str) (v : Value) (l : List (Str × Value)) : List (Str × Value) := (x, v) :: l
section
variable {x x1 x2 x3 x4 x5 x6 x7 x8 : Str} {v v1 v2 v3 v4 v5 v6 v7 v8 : Value} {l : List (Str × Value)}
theorem lm_0 : (x, v) ∈ lc x v l := .head _
theorem lm_1 : (x, v) ∈ lc x1 v1 (lc x v l) := .tail _ (.head _)
theorem lm_2 : (x, v) ∈ lc x1 v1 (lc x2 v2 (lc x v l)) := .tail _ (.tail _ (.head _))
theorem lm_3 : (x, v) ∈ lc x1 v1 (lc x2 v2 (lc x3 v3 (lc x v l))) := .tail _ (.tail _ (.tail _ (.head _)))
theorem lm_4 : (x, v) ∈ lc x1 v1 (lc x2 v2 (lc x3 v3 (lc x4 v4 (lc x v l)))) := .tail _ (.tail _ (.tail _ (.tail _ (.head _))))
theorem lm_5 : (x, v) ∈ lc x1 v1 (lc x2 v2 (lc x3 v3 (lc x4 v4 (lc x5 v5 (lc x v l))))) := .tail _ (.tail _ (.tail _ (.tail _ (.tail _ (.head _)))))
theorem lm_6 : (x, v) ∈ lc x1 v1 (lc x2 v2 (lc x3 v3 (lc x4 v4 (lc x5 v5 (lc x6 v6 (lc x v l)))))) := .tail _ (.tail _ (.tail _ (.tail _ (.tail _ (.tail _ (.head _))))))
theorem lm_7 : (x, v) ∈ lc x1 v1 (lc x2 v2 (lc x3 v3 (lc x4 v4 (lc x5 v5 (lc x6 v6 (lc x7 v7 (lc x v l))))))) := .tail _ (.tail _ (.tail _ (.tail _ (.tail _ (.tail _ (.tail _ (.head _)))))))
theorem lm_8 (h : (x, v) ∈ l) : (x, v) ∈ lc x1 v1 (lc x2 v2 (lc x3 v3 (lc x4 v4 (lc x5 v5 (lc x6 v6 (lc x7 v7 (lc x8 v8 l))))))) := .tail _ (.tail _ (.tail _ (.tail _ (.tail _ (.tail _ (.tail _ (.tail _ h)))))))
theorem lt_1 (h : (x, v) ∈ l) : (x, v) ∈ lc x1 v1 l := .tail _ h
theorem lt_2 (h : (x, v) ∈ l) : (x, v) ∈ lc x1 v1 (lc x2 v2 l) := .tail _ (.tail _ h)
theorem lt_3 (h : (x, v) ∈ l) : (x, v) ∈ lc x1 v1 (lc x2 v2 (lc x3 v3 l)) := .tail _ (.tail _ (.tail _ h))
theorem lt_4 (h : (x, v) ∈ l) : (x, v) ∈ lc x1 v1 (lc x2 v2 (lc x3 v3 (lc x4 v4 l))) := .tail _ (.tail _ (.tail _ (.tail _ h)))
theorem lt_5 (h : (x, v) ∈ l) : (x, v) ∈ lc x1 v1 (lc x2 v2 (lc x3 v3 (lc x4 v4 (lc x5 v5 l)))) := .tail _ (.tail _ (.tail _ (.tail _ (.tail _ h))))
theorem lt_6 (h : (x, v) ∈ l) : (x, v) ∈ lc x1 v1 (lc x2 v2 (lc x3 v3 (lc x4 v4 (lc x5 v5 (lc x6 v6 l))))) := .tail _ (.tail _ (.tail _ (.tail _ (.tail _ (.tail _ h)))))
end
/-! what is still to be done, by short names -/
section
variable (B : Bs) (A : Around) (E : Value → Shared → Prop) (env : Env)
noncomputable abbrev kGA (attr : Str) (Q : Value → Shared → Prop) : Value → Shared → Prop := fun o s₁ => wpAny (model B.prog B.w) A (getAttr o attr true) Q E s₁
noncomputable abbrev kCW (pos : Pos) (args : List Expr) (Q : Value → Shared → Prop) : Value × List Value → Shared → Prop := fun fx s₂ => wpAny (model B.prog B.w) A (callWith pos fx.1 fx.2 (backTo pos (starEach args env)) []) Q E s₂
noncomputable abbrev kGM (name : Str) (pl : Sem Bool) (pos : Pos) (args : List Expr) (Q : Value → Shared → Prop) : Value → Shared → Prop := fun ov s₁ => wpAny (model B.prog B.w) A (getMethod ov name pl) (kCW B A E env pos args Q) E s₁
noncomputable abbrev kC2 (op : CmpOp) (a : Value) (Q : Value → Shared → Prop) : Value → Shared → Prop := fun b s₂ => wpAny (model B.prog B.w) A (compareOp op a b) Q E s₂
noncomputable abbrev kC1 (op : CmpOp) (rx : Expr) (Q : Value → Shared → Prop) : Value → Shared → Prop := fun a s₁ => wpAny (model B.prog B.w) A (eval rx env) (kC2 B A E op a Q) E s₁
noncomputable abbrev kI2 (o : Value) (Q : Value → Shared → Prop) : Value → Shared → Prop := fun i s₂ => ItemOn (model B.prog B.w) A E o i Q s₂
noncomputable abbrev kI1 (x : Expr) (Q : Value → Shared → Prop) : Value → Shared → Prop := fun o s₁ => wpAny (model B.prog B.w) A (eval x env) (kI2 B A E o Q) E s₁
noncomputable abbrev kV2 (v : Value) (Q : List Value → Shared → Prop) : List Value → Shared → Prop := fun vs s₂ => Q (v :: vs) s₂
noncomputable abbrev kV1 (pos : Pos) (rest : List Expr) (Q : List Value → Shared → Prop) : Value → Shared → Prop := fun v s₁ => wpAny (model B.prog B.w) A (spliced (backTo pos (starEach rest env))) (kV2 v Q) E s₁
noncomputable abbrev kCv (f : Value) (Q : Value → Shared → Prop) : List Value → Shared → Prop := fun vs s₁ => wpAny (model B.prog B.w) A (PySem.call f vs) Q E s₁
noncomputable abbrev kCF (q : Addr) (first : List Value) (Q : Value → Shared → Prop) : List Value → Shared → Prop := fun vs s₁ => FnAt q s₁.heap ∧ wpAny (model B.prog B.w) A (PySem.call (.ref q) (first ++ vs)) Q E s₁
noncomputable abbrev kCN (f : Value) (Q : Value → Shared → Prop) : List Value → Shared → Prop := fun vs s₁ => (hd.heap_39 B.w.params).In s₁.heap ∧ wpAny (model B.prog B.w) A (PySem.call f vs) Q E s₁
noncomputable abbrev kNx (Q : Flow → Shared → Prop) : Unit → Shared → Prop := fun z => Q .next
noncomputable abbrev kSt (x : Str) (Q : Flow → Shared → Prop) : Value → Shared → Prop := fun v s₁ => wpAny (model B.prog B.w) A (storeName env x v) (kNx Q) E s₁
noncomputable abbrev kA2 (attr : Str) (v : Value) (Q : Flow → Shared → Prop) : Value → Shared → Prop := fun ov s₂ => wpAny (model B.prog B.w) A (setAttr ov attr v) (kNx Q) E s₂
noncomputable abbrev kA1 (o : Expr) (attr : Str) (Q : Flow → Shared → Prop) : Value → Shared → Prop := fun v s₁ => wpAny (model B.prog B.w) A (eval o env) (kA2 B A E attr v Q) E s₁
noncomputable abbrev kTr (Q : Bool → Shared → Prop) : Value → Shared → Prop := fun c s₃ => wpAny (model B.prog B.w) A (truthy c) Q E s₃
noncomputable abbrev kT2 (op : CmpOp) (a : Value) (Q : Bool → Shared → Prop) : Value → Shared → Prop := fun b s₂ => wpAny (model B.prog B.w) A (compareOp op a b) (kTr B A E Q) E s₂
noncomputable abbrev kT1 (op : CmpOp) (rx : Expr) (Q : Bool → Shared → Prop) : Value → Shared → Prop := fun a s₁ => wpAny (model B.prog B.w) A (eval rx env) (kT2 B A E op a Q) E s₁
noncomputable abbrev kIf (body orelse : List Stmt) (Q : Flow → Shared → Prop) : Bool → Shared → Prop := fun b s₂ => if b = true then wpAny (model B.prog B.w) A (execs body env) Q E s₂ else wpAny (model B.prog B.w) A (execs orelse env) Q E s₂
noncomputable abbrev kRe (Q : Flow → Shared → Prop) : Value → Shared → Prop := fun v s₁ => Q (.ret v) s₁
end
/-! what the local macros use: what a rule asks for besides is found by itself -/
section
variable {E : Value → Shared → Prop} {env : Env} {names : List (Str × NameKind)} {cl : List (Str × Addr)} {qual : Str} {cd : Value}
section
variable {Q : Value → Shared → Prop}
theorem z1 {x : Str} {pos : Pos} {v : Value} (h : Q v s) (F : autoParam (Fx B md s₀ st₀ st L own l s) Mine.tA) (N : autoParam (En env L names cl qual cd) Mine.tA) (hv : autoParam ((x, v) ∈ l) Mine.tM) (hx : autoParam ((x, NameKind.local) ∈ names) Mine.tN) :
  wpAny (model B.prog B.w) A (eval (.Name x pos) env) Q E s := F.nameL N hv hx h
theorem z2 {x : Str} {pos : Pos} {v : Value} {cb : List (Str × Value)} (h : Q v s) (F : autoParam (Fx B md s₀ st₀ st L own l s) Mine.tA) (N : autoParam (En env L names cl qual cd) Mine.tA) (C : Cells st cl cb := by o_head m_C) (hv : autoParam ((x, v) ∈ cb) Mine.tM) (hx : autoParam ((x, NameKind.cell) ∈ names) Mine.tN) :
  wpAny (model B.prog B.w) A (eval (.Name x pos) env) Q E s := F.nameC N C hv hx h
theorem z3 {x : Str} {pos : Pos} {v : Value} {cb : List (Str × Value)} (h : Q v s) (F : autoParam (Fx B md s₀ st₀ st L own l s) Mine.tA) (N : autoParam (En env L names cl qual cd) Mine.tA) (C : Cells st cl cb := by o_head m_C) (hv : autoParam ((x, v) ∈ cb) Mine.tM) (hx : autoParam ((x, NameKind.free) ∈ names) Mine.tN) (hn : (x == ("__classdict__" : Str)) = false := by decide +kernel) :
  wpAny (model B.prog B.w) A (eval (.Name x pos) env) Q E s := F.nameF N C hv hx h hn
theorem z4 {x : Str} {pos : Pos} {v : Value} (h : Q v s) (F : autoParam (Fx B md s₀ st₀ st L own l s) Mine.tA) (N : autoParam (En env L names cl qual cd) Mine.tA) (e : autoParam ((x, v) ∈ biL) Mine.tN) (hx : autoParam ((x, NameKind.globalImplicit) ∈ names) Mine.tN) :
  wpAny (model B.prog B.w) A (eval (.Name x pos) env) Q E s := F.nameB N (bi_of _ e) hx h
theorem z5 {x : Str} {pos : Pos} {v : Value} (h : Q v s) (F : autoParam (Fx B md s₀ st₀ st L own l s) Mine.tA) (N : autoParam (En env L names cl qual cd) Mine.tA) (e : autoParam ((x, v) ∈ globL) Mine.tN) (hx : autoParam ((x, NameKind.globalImplicit) ∈ names) Mine.tN) :
  wpAny (model B.prog B.w) A (eval (.Name x pos) env) Q E s := F.nameG N (glob_of _ e) hx h
theorem z6 {x Cn : Str} {a C : Addr} {e : Ex} {p1 p2 p3 p4 : Pos} (h : ∀ s', Fx B md s₀ st₀ st L own l s' → Q (.bool (Mine.isaE e C)) s') (F : autoParam (Fx B md s₀ st₀ st L own l s) Mine.tA) (N : autoParam (En env L names cl qual cd) Mine.tA) (hv : autoParam ((x, .ref a) ∈ l) Mine.tM) (hx : autoParam ((x, NameKind.local) ∈ names) Mine.tN) (hb : autoParam ((("isinstance" : Str), NameKind.globalImplicit) ∈ names) Mine.tN) (hg : autoParam ((Cn, NameKind.globalImplicit) ∈ names) Mine.tN)
  (g : autoParam ((Cn, Value.ref C) ∈ globL) Mine.tN) (R : autoParam (Rep st a e) Mine.tP) (hC : autoParam (C ∈ isaL) Mine.tE) : wpAny (model B.prog B.w) A (eval (.Call (.Name "isinstance" p1) [.Name x p2, .Name Cn p3] [] p4) env) Q E s := F.isaE N hv hx hb hg (glob_of _ g) R hC h
theorem z8 {x : Str} {a : Addr} {n : Nm} {p1 p2 : Pos} (h : ∀ t s', Fx B md s₀ st₀ st L own l s' → Q (.str n.str t) s') (F : autoParam (Fx B md s₀ st₀ st L own l s) Mine.tA) (N : autoParam (En env L names cl qual cd) Mine.tA) (hv : autoParam ((x, .ref a) ∈ l) Mine.tM) (hx : autoParam ((x, NameKind.local) ∈ names) Mine.tN) (V : autoParam (VarAt st a n) Mine.tV) :
  wpAny (model B.prog B.w) A (eval (.Attribute (.Name x p1) "name" p2) env) Q E s := F.attrN N hv hx V h
theorem z9 {x attr : Str} {a C : Addr} {fs : List (Str × Value)} {v : Value} {p1 p2 : Pos} (h : ∀ s', Fx B md s₀ st₀ st L own l s' → Q v s') (F : autoParam (Fx B md s₀ st₀ st L own l s) Mine.tA) (N : autoParam (En env L names cl qual cd) Mine.tA) (hv : autoParam ((x, .ref a) ∈ l) Mine.tM) (hx : autoParam ((x, NameKind.local) ∈ names) Mine.tN) (I : autoParam (Inst st a C fs) Mine.tJ)
  (hf : fieldB (hd.heap_39 B.w.params) C attr = true := by o_head m_f) (hl : autoParam (fs.lookup attr = some v) Mine.tD) (hh : autoParam (handedIn v = true) Mine.tD) : wpAny (model B.prog B.w) A (eval (.Attribute (.Name x p1) attr p2) env) Q E s := F.attrL N hv hx I hf hl hh h
theorem z10 {value : Expr} {attr : Str} {pos : Pos} (h : wpAny (model B.prog B.w) A (eval value env) (kGA B A E attr Q) E s) (he : autoParam (eval (.Attribute value attr pos) env = (do
   let o ← eval value env
   standAt pos.atName
   let r ← holding [o] (getAttr o attr true)
   letTemporaryGo value o r
   pure r)) Mine.tD) : wpAny (model B.prog B.w) A (eval (.Attribute value attr pos) env) Q E s := Attribute_any_ h he
theorem z11 {o : Expr} {name : Str} {apos pos : Pos} {args : List Expr} {pl : Sem Bool}
  (h : wpAny (model B.prog B.w) A (eval o env) (kGM B A E env name pl pos args Q) E s)
  (he : autoParam (eval (.Call (.Attribute o name apos) args [] pos) env = (do
   let ov ← eval o env
   standAt apos.atName
   let (f, first) ← holding [ov] (getMethod ov name pl)
   callWith pos f first (backTo pos (starEach args env)) [])) Mine.tD) : wpAny (model B.prog B.w) A (eval (.Call (.Attribute o name apos) args [] pos) env) Q E s := MethodCall_ h he
theorem z12 {lx : Expr} {op : CmpOp} {rx : Expr} {pos : Pos} (h : wpAny (model B.prog B.w) A (eval lx env) (kC1 B A E env op rx Q) E s) (hm : autoParam (behindInMarks op rx = false) Mine.tD) :
  wpAny (model B.prog B.w) A (eval (.Compare lx [op] [rx] pos) env) Q E s := wpAny_Compare1 h hm
theorem z13 {x : Str} {k : Nat} {pos : Pos} (h : ∀ t s', Fx B md s₀ st₀ st L own l s' → Q (.str x t) s') (F : autoParam (Fx B md s₀ st₀ st L own l s) Mine.tA) : wpAny (model B.prog B.w) A (eval (.Constant (.str x) k pos) env) Q E s := F.constS h
theorem z14 {i : Int} {k : Nat} {pos : Pos} (h : ∀ t s', Fx B md s₀ st₀ st L own l s' → Q (.int i t) s') (F : autoParam (Fx B md s₀ st₀ st L own l s) Mine.tA) : wpAny (model B.prog B.w) A (eval (.Constant (.int i) k pos) env) Q E s := F.constI h
theorem z15 {value : Expr} {lower upper : Option Expr} {p pos : Pos}
  (h : wpAny (model B.prog B.w) A (eval value env) (fun o s₁ => wpAny (model B.prog B.w) A (evalPart lower env) (fun vl s₂ => wpAny (model B.prog B.w) A (evalPart upper env) (fun vu s₃ => slcQ Q o vl vu s₃) E s₂) E s₁) E s) (ht : ∀ o r, letTemporaryGo value o r = pure () := by intro _ _; with_unfolding_all rfl) :
  wpAny (model B.prog B.w) A (eval (.Subscript value (.Slice lower upper none p) pos) env) Q E s := slice_mk h ht
theorem z16 {value : Expr} {c : Const} {k : Nat} {p pos : Pos}
  (h : wpAny (model B.prog B.w) A (eval value env) (kI1 B A E env (.Constant c k p) Q) E s) (ht : ∀ o r, letTemporaryGo value o r = pure () := by intro _ _; k_dflt rfl) :
  wpAny (model B.prog B.w) A (eval (.Subscript value (.Constant c k p) pos) env) Q E s := item_mk h ht
theorem z17 {Q : List Value → Shared → Prop} {pos : Pos} {e : Expr} {rest : List Expr} (h : wpAny (model B.prog B.w) A (eval e env) (kV1 B A E env pos rest Q) E s) (hn : autoParam (kdsPlain e = true) Mine.tD) :
  wpAny (model B.prog B.w) A (spliced (backTo pos (starEach (e :: rest) env))) Q E s := items_c hn h
theorem z18 {id : String} {pos : Pos} {e : Expr} {rest : List Expr} (h : wpAny (model B.prog B.w) A (spliced (backTo pos (starEach (e :: rest) env))) (kCv B A E (.builtin id) Q) E s) (hn : autoParam ((e :: rest).all kdsPlain = true) Mine.tD) :
  wpAny (model B.prog B.w) A (callWith pos (.builtin id) [] (backTo pos (starEach (e :: rest) env)) []) Q E s := callB hn h
theorem z19 {q : Addr} {first : List Value} {pos : Pos} {e : Expr} {rest : List Expr} (h : wpAny (model B.prog B.w) A (spliced (backTo pos (starEach (e :: rest) env))) (kCF B A E q first Q) E s)
  (F : autoParam (Fx B md s₀ st₀ st L own l s) Mine.tA) (I : FnIn st q := by o_head m_FI) (hn : autoParam ((e :: rest).all kdsPlain = true) Mine.tD) : wpAny (model B.prog B.w) A (callWith pos (.ref q) first (backTo pos (starEach (e :: rest) env)) []) Q E s := callF (F.fnIn I) hn h
theorem z21 {f : Value} {first : List Value} {pos : Pos} (h : wpAny (model B.prog B.w) A (PySem.call f (first ++ [])) Q E s) (F : autoParam (Fx B md s₀ st₀ st L own l s) Mine.tA) (hk : autoParam (keepIn (hd.heap_39 B.w.params) f = true) Mine.tK) :
  wpAny (model B.prog B.w) A (callWith pos f first (backTo pos (starEach [] env)) []) Q E s := callWith_K0 F.X hk h
theorem z22 {a : Addr} {n : Nm} (h : Q (.bool true) s) (F : autoParam (Fx B md s₀ st₀ st L own l s) Mine.tA) (V : autoParam (VarAt st a n) Mine.tV) : wpAny (model B.prog B.w) A (PySem.call (.builtin "isinstance") [Value.ref a, Value.ref 126]) Q E s := F.isaV V h
theorem z23 {a C : Addr} {e : Ex} (h : ∀ s', Fx B md s₀ st₀ st L own l s' → Q (.bool (Mine.isaE e C)) s') (F : autoParam (Fx B md s₀ st₀ st L own l s) Mine.tA) (R : autoParam (Rep st a e) Mine.tP) (hC : autoParam (C ∈ isaL) Mine.tE) : wpAny (model B.prog B.w) A (PySem.call (.builtin "isinstance") [.ref a, .ref C]) Q E s := F.isaR R hC h
theorem z24 {a : Addr} {n : Nm} {ex : Bool} (h : ∀ t s', Fx B md s₀ st₀ st L own l s' → Q (.str n.str t) s') (F : autoParam (Fx B md s₀ st₀ st L own l s) Mine.tA) (V : autoParam (VarAt st a n) Mine.tV) : wpAny (model B.prog B.w) A (PySem.getAttr (.ref a) "name" ex) Q E s := F.varName V h
theorem z25 {a C : Addr} {fs : List (Str × Value)} {name : Str} {v : Value} {ex : Bool} (h : ∀ s', Fx B md s₀ st₀ st L own l s' → Q v s') (F : autoParam (Fx B md s₀ st₀ st L own l s) Mine.tA) (I : autoParam (Inst st a C fs) Mine.tJ) (hf : fieldB (hd.heap_39 B.w.params) C name = true := by o_head m_f)
  (hl : autoParam (fs.lookup name = some v) Mine.tD) (hv : autoParam (handedIn v = true) Mine.tD) : wpAny (model B.prog B.w) A (PySem.getAttr (.ref a) name ex) Q E s := F.getAttr I hf hl hv h
theorem z26 {x y : Str} {t u : Tok} (h : Q (.bool (x == y)) s) (F : autoParam (Fx B md s₀ st₀ st L own l s) Mine.tA) : wpAny (model B.prog B.w) A (compareOp .Eq (.str x t) (.str y u)) Q E s := F.eqStr h
theorem z28 {x y : Str} {t u : Tok} (h : Q (.bool (!Txt.contains x y)) s) (F : autoParam (Fx B md s₀ st₀ st L own l s) Mine.tA) : wpAny (model B.prog B.w) A (compareOp .NotIn (.str y u) (.str x t)) Q E s := F.notInS h
theorem z29 {a b : Addr} {n1 n2 : Nm} (h : ∀ st' s', St.le st st' → Fx B md s₀ st₀ st' L own l s' → Q (.bool (n1 == n2)) s') (F : autoParam (Fx B md s₀ st₀ st L own l s) Mine.tA) (R : Rm A 2 := by o_head m_rm) (V1 : autoParam (VarAt st a n1) Mine.tV) (V2 : autoParam (VarAt st b n2) Mine.tV) :
  wpAny (model B.prog B.w) A (compareOp .Eq (.ref a) (.ref b)) Q E s := cmp_ofEq (F.eqVar R V1 V2 h)
theorem z30 {e : Expr} (h : wpAny (model B.prog B.w) A (eval e env) Q E s) (he : autoParam (evalPart (some e) env = eval e env) Mine.tD) : wpAny (model B.prog B.w) A (evalPart (some e) env) Q E s := part_some h he
theorem z31 {vs : List Value} {a : Addr} {i : Int} {t : Tok} {x : Value} (h : Q x s) (F : autoParam (Fx B md s₀ st₀ st L own l s) Mine.tA) (hl : Lst st a vs := by o_head m_L) (h0 : autoParam (0 ≤ i) Mine.tE) (hi : autoParam (i < 2 ^ 63) Mine.tE) (hx : autoParam (vs[i.toNat]? = some x) Mine.tD) : ItemOn (model B.prog B.w) A E (.ref a) (.int i t) Q s := F.itemL hl.la h0 hi hx h
theorem z48 {id : Str} {f : Value} {p pos : Pos} {e : Expr} {rest : List Expr} (h : wpAny (model B.prog B.w) A (spliced (backTo pos (starEach (e :: rest) env))) (kCN B A E f Q) E s)
  (F : autoParam (Fx B md s₀ st₀ st L own l s) Mine.tA) (N : autoParam (En env L names cl qual cd) Mine.tA) (g : autoParam ((id, f) ∈ globL) Mine.tN) (hx : autoParam ((id, NameKind.globalImplicit) ∈ names) Mine.tN) (hk : autoParam (keepIn (hd.heap_39 B.w.params) f = true) Mine.tK) (hn : autoParam ((e :: rest).all kdsPlain = true) Mine.tD) :
  wpAny (model B.prog B.w) A (eval (.Call (.Name id p) (e :: rest) [] pos) env) Q E s := wpAny_Call_NameR (F.nameG N (glob_of _ g) hx (callK F.X hk hn h))
end
section
variable {Q : Flow → Shared → Prop}
theorem z32 {x : Str} {pos' : Pos} {value : Expr} {pos : Pos} (h : wpAny (model B.prog B.w) A (eval value env) (kSt B A E env x Q) E s) (hs : autoParam (swapsWith value (some (.Name x pos')) pos.line env = pure false) Mine.tD) :
  wpAny (model B.prog B.w) A (exec (.Assign [.Name x pos'] value pos) env) Q E s := wpAny_Assign_Name h hs
theorem z33 {o : Expr} {attr : Str} {pos' : Pos} {value : Expr} {pos : Pos} (h : wpAny (model B.prog B.w) A (eval value env) (kA1 B A E env o attr Q) E s)
  (hs : autoParam (swapsWith value (some (.Attribute o attr pos')) pos.line env = pure false) Mine.tD) : wpAny (model B.prog B.w) A (exec (.Assign [.Attribute o attr pos'] value pos) env) Q E s := plainObj_wpAny_Assign_Attribute h hs
theorem z34 {target iter : Expr} {body orelse : List Stmt} {pos : Pos} (h : wpAny (model B.prog B.w) A (eval iter env) (fun x s₁ => wpAny (model B.prog B.w) A (pyIter x) (fun it s₂ =>
   codeAny (model B.prog B.w) A (.forLoop target it body orelse env) (fun r s' => match r with | .ok f => Q f s' | .error e => cameBackBy (model B.prog B.w) A env E e s') s₂) E s₁) E s) (hs : ∀ x, foldedSetIterable iter env x = pure x := by intro _; with_unfolding_all rfl) :
  wpAny (model B.prog B.w) A (exec (.For target iter body orelse pos) env) Q E s := wpAny_For h hs
theorem z35 {e : Expr} {pos : Pos} (h : wpAny (model B.prog B.w) A (eval e env) (fun v s' => match v with | .ref _ => False | _ => Q .next s') E s) (N : autoParam (En env L names cl qual cd) Mine.tA) (hs : autoParam (swapsWith e none pos.line env = pure false) Mine.tD) :
  wpAny (model B.prog B.w) A (exec (.Expr e pos) env) Q E s := wpAny_Expr h N.inter hs
theorem z36 {o i value : Expr} {pos' pos : Pos} (h : wpAny (model B.prog B.w) A (eval value env) (fun v s₁ => wpAny (model B.prog B.w) A (eval o env) (fun ov s₂ => wpAny (model B.prog B.w) A (eval i env) (fun iv s₃ => wpAny (model B.prog B.w) A (setItem ov iv v) (fun z => Q .next) E s₃) E s₂) E s₁) E s)
  (hs : swapsWith value (some (.Subscript o i pos')) pos.line env = pure false := by with_unfolding_all rfl) : wpAny (model B.prog B.w) A (exec (.Assign [.Subscript o i pos'] value pos) env) Q E s := wpAny_Assign_Subscript h hs
end
section
variable {Q : Bool → Shared → Prop}
theorem z37 {x Cn : Str} {a C : Addr} {e : Ex} {p1 p2 p3 p4 : Pos} (h : ∀ s', Fx B md s₀ st₀ st L own l s' → Q (Mine.isaE e C) s') (F : autoParam (Fx B md s₀ st₀ st L own l s) Mine.tA) (N : autoParam (En env L names cl qual cd) Mine.tA) (hv : autoParam ((x, .ref a) ∈ l) Mine.tM) (hx : autoParam ((x, NameKind.local) ∈ names) Mine.tN) (hb : autoParam ((("isinstance" : Str), NameKind.globalImplicit) ∈ names) Mine.tN) (hg : autoParam ((Cn, NameKind.globalImplicit) ∈ names) Mine.tN)
  (g : autoParam ((Cn, Value.ref C) ∈ globL) Mine.tN) (R : autoParam (Rep st a e) Mine.tP) (hC : autoParam (C ∈ isaL) Mine.tE) :
  wpAny (model B.prog B.w) A (isTrue (.Call (.Name "isinstance" p1) [.Name x p2, .Name Cn p3] [] p4) env (eval (.Call (.Name "isinstance" p1) [.Name x p2, .Name Cn p3] [] p4) env)) Q E s := F.isaT' N hv hx hb hg (glob_of _ g) R hC h
theorem z38 {x : Str} {a : Addr} {n : Nm} {p1 p2 p3 p4 : Pos} (h : Q true s) (F : autoParam (Fx B md s₀ st₀ st L own l s) Mine.tA) (N : autoParam (En env L names cl qual cd) Mine.tA) (hv : autoParam ((x, .ref a) ∈ l) Mine.tM) (hx : autoParam ((x, NameKind.local) ∈ names) Mine.tN) (hb : autoParam ((("isinstance" : Str), NameKind.globalImplicit) ∈ names) Mine.tN) (hg : autoParam ((("Variable" : Str), NameKind.globalImplicit) ∈ names) Mine.tN)
  (V : autoParam (VarAt st a n) Mine.tV) : wpAny (model B.prog B.w) A (isTrue (.Call (.Name "isinstance" p1) [.Name x p2, .Name "Variable" p3] [] p4) env (eval (.Call (.Name "isinstance" p1) [.Name x p2, .Name "Variable" p3] [] p4) env)) Q E s := F.isaN' N hv hx hb hg V h
theorem z39 {lx : Expr} {op : CmpOp} {rx : Expr} {pos : Pos} {whole : Sem Value} (h : wpAny (model B.prog B.w) A (eval lx env) (kT1 B A E env op rx Q) E s) (hm : autoParam (behindInMarks op rx = false) Mine.tD) :
  wpAny (model B.prog B.w) A (isTrue (.Compare lx [op] [rx] pos) env whole) Q E s := wpAny_isTrue_Compare1 h hm
theorem z40 {e : Expr} {whole : Sem Value} (h : wpAny (model B.prog B.w) A whole (kTr B A E Q) E s) (he : autoParam (isTrue e env whole = (do let v ← whole; standAt e.pos; holding [v] (truthy v))) Mine.tD) : wpAny (model B.prog B.w) A (isTrue e env whole) Q E s := wpAny_isTrue_value h he
end
section
variable {Q : Unit → Shared → Prop}
theorem z41 {x : Str} {v : Value} (h : ∀ s', Fx B md s₀ st₀ st L own (lc x v l) s' → Q () s') (F : autoParam (Fx B md s₀ st₀ st L own l s) Mine.tA) (N : autoParam (En env L names cl qual cd) Mine.tA) (hx : autoParam ((x, NameKind.local) ∈ names) Mine.tN) (hl : ∀ p ∈ l, p.1 ≠ x := by o_head m_ne) : wpAny (model B.prog B.w) A (storeName env x v) Q E s := F.storeN N hx hl h
theorem z42 {x : Str} {v v0 : Value} (h : ∀ s', Fx B md s₀ st₀ st L own (lc x v l) s' → Q () s') (F : autoParam (Fx B md s₀ st₀ st L own (lc x v0 l) s) Mine.tA) (N : autoParam (En env L names cl qual cd) Mine.tA) (hx : autoParam ((x, NameKind.local) ∈ names) Mine.tN) (hl : ∀ p ∈ l, p.1 ≠ x := by o_head m_ne) : wpAny (model B.prog B.w) A (storeName env x v) Q E s := F.storeH N hx hl h
theorem z43 {x dx C : Addr} {es : List DictEntry} {n : Nat} {fs : List (Str × Value)} {name : Str} {v : Value} (h : ∀ es' n' s', Ents (putF name v fs) es' → Fx B md s₀ st₀ st L ((dx, dictOf es' n') :: own) l s' → Q () s') (F : autoParam (Fx B md s₀ st₀ st L ((dx, dictOf es n) :: own) l s) Mine.tA) (hx : autoParam (st x = some (instObj C dx)) Mine.tA)
  (hc : setB (hd.heap_39 B.w.params) C name = true := by o_head m_s) (hf : autoParam (Ents fs es) Mine.tA) (hz : fs.length ≤ 900 := by with_unfolding_all exact Nat.le_of_ble_eq_true rfl) : wpAny (model B.prog B.w) A (setAttr (.ref x) name v) Q E s := F.setO hx hc hf hz h
end
theorem z44 {q : Addr} {X : Prop} (h : X) (F : autoParam (Fx B md s₀ st₀ st L own l s) Mine.tA) (I : FnIn st q := by o_head m_FI) : FnAt q s.heap ∧ X := ⟨F.fnIn I, h⟩
theorem z45 {X : Prop} (h : X) (F : autoParam (Fx B md s₀ st₀ st L own l s) Mine.tA) : (hd.heap_39 B.w.params).In s.heap ∧ X := ⟨F.X, h⟩
theorem z61 {K : Flow → Shared → Prop} {P : Shared → Prop} (h : P s) (hK : autoParam (∀ s', P s' → K .next s') Mine.tA) : K .next s := hK _ h
theorem z62 {K : Flow → Shared → Prop} {R : Value → Shared → Prop} {v : Value} (h : R v s) (hK : autoParam (∀ v s', R v s' → K (.ret v) s') Mine.tA) : K (.ret v) s := hK _ _ h
theorem z46 {c : Bool} {X : Prop} (h : X) (hc : autoParam (c = true) Mine.tD) : c = true ∧ X := ⟨hc, h⟩
theorem z47 {c : Bool} {X Y : Prop} (h : X) (hc : autoParam (c = true) Mine.tD) : if c then X else Y := if_t hc h
theorem z49 {c : Bool} {X Y : Prop} (h : Y) (hc : autoParam (c = false) Mine.tD) : if c then X else Y := if_f hc h
end
section
variable {Q E : Value → Shared → Prop} {env : Env}
theorem z50 {a b : Int} {t u : Tok} (h : ∀ t s', Fx B md s₀ st₀ st L own l s' → Q (.int (a.fmod b) t) s') (F : autoParam (Fx B md s₀ st₀ st L own l s) Mine.tA) (hb : autoParam (b ≠ 0) Mine.tO) : wpAny (model B.prog B.w) A (binaryOp .Mod (.int a t) (.int b u)) Q E s := F.modI hb h
theorem z51 {a b : Int} {t u : Tok} (h : ∀ t s', Fx B md s₀ st₀ st L own l s' → Q (.int (a.fdiv b) t) s') (F : autoParam (Fx B md s₀ st₀ st L own l s) Mine.tA) (hb : autoParam (b ≠ 0) Mine.tO) (hz : autoParam (b.natAbs < 1073741824) Mine.tO) : wpAny (model B.prog B.w) A (binaryOp .FloorDiv (.int a t) (.int b u)) Q E s := F.divI hb hz h
theorem z52 {a b : Int} {t u : Tok} (h : ∀ t s', Fx B md s₀ st₀ st L own l s' → Q (.int (a + b) t) s') (F : autoParam (Fx B md s₀ st₀ st L own l s) Mine.tA) : wpAny (model B.prog B.w) A (binaryOp .Add (.int a t) (.int b u)) Q E s := F.addI h
theorem z53 {a b : Int} {t u : Tok} (h : ∀ t s', Fx B md s₀ st₀ st L own l s' → Q (.int (a - b) t) s') (F : autoParam (Fx B md s₀ st₀ st L own l s) Mine.tA) : wpAny (model B.prog B.w) A (binaryOp .Sub (.int a t) (.int b u)) Q E s := F.subI h
theorem z54 {a b : Int} {t u : Tok} (h : Q (.bool (decide (a < b))) s) (F : autoParam (Fx B md s₀ st₀ st L own l s) Mine.tA) : wpAny (model B.prog B.w) A (compareOp .Lt (.int a t) (.int b u)) Q E s := F.ltI h
theorem z55 {a b : Int} {t u : Tok} (h : Q (.bool (a == b)) s) (F : autoParam (Fx B md s₀ st₀ st L own l s) Mine.tA) : wpAny (model B.prog B.w) A (compareOp .Eq (.int a t) (.int b u)) Q E s := F.eqI h
theorem z58 {k : Int} {t u : Tok} (h : ∀ t s', Fx B md s₀ st₀ st L own l s' → Q (.int (2 ^ k.toNat) t) s') (F : autoParam (Fx B md s₀ st₀ st L own l s) Mine.tA) (h0 : autoParam (0 ≤ k) Mine.tO) (hk : autoParam (k ≤ 20) Mine.tO) : wpAny (model B.prog B.w) A (binaryOp .Pow (.int 2 t) (.int k u)) Q E s := F.pow2 h0 hk h
theorem z59 {world k : Int} {t u : Tok} (h : ∀ t s', Fx B md s₀ st₀ st L own l s' → Q (.int (world.fdiv (2 ^ k.toNat)) t) s') (F : autoParam (Fx B md s₀ st₀ st L own l s) Mine.tA) (hk : autoParam (k ≤ 20) Mine.tO) : wpAny (model B.prog B.w) A (binaryOp .FloorDiv (.int world t) (.int (2 ^ k.toNat) u)) Q E s := F.wdiv hk h
theorem z60 {world k : Int} {t u : Tok} (h : ∀ t s', Fx B md s₀ st₀ st L own l s' → Q (.int (wbit world k) t) s') (F : autoParam (Fx B md s₀ st₀ st L own l s) Mine.tA) : wpAny (model B.prog B.w) A (binaryOp .Mod (.int (world.fdiv (2 ^ k.toNat)) t) (.int 2 u)) Q E s := F.wmod h
end
theorem z57 {E : Value → Shared → Prop} {env : Env} {Q : Value → Shared → Prop} {T : String} {pos : Pos} {e : Expr} {rest : List Expr} (h : wpAny (model B.prog B.w) A (spliced (backTo pos (starEach (e :: rest) env))) (kCv B A E (.type T) Q) E s) (hn : autoParam ((e :: rest).all kdsPlain = true) Mine.tD) :
  wpAny (model B.prog B.w) A (callWith pos (.type T) [] (backTo pos (starEach (e :: rest) env)) []) Q E s := callT hn h
theorem z63 {E : Value → Shared → Prop} {env : Env} {Q : Flow → Shared → Prop} {test : Expr} {body orelse : List Stmt} {pos : Pos} (h : wpAny (model B.prog B.w) A (isTrue test env (eval test env)) (kIf B A E env body orelse Q) E s) : wpAny (model B.prog B.w) A (exec (.If test body orelse pos) env) Q E s := wpAny_If h
theorem z64 {E : Value → Shared → Prop} {env : Env} {Q : Flow → Shared → Prop} {v : Expr} {pos : Pos} (h : wpAny (model B.prog B.w) A (eval v env) (kRe Q) E s) : wpAny (model B.prog B.w) A (exec (.Return (some v) pos) env) Q E s := wpAny_Return_some h
theorem Fx.orT {c : Bool} {G : Bool → Shared → Prop} {E : Value → Shared → Prop} {t : Sem Bool} (F : Fx B md s₀ st₀ st L own l s) (h1 : c = false → ∀ G' : Bool → Shared → Prop, (∀ s', Fx B md s₀ st₀ st L own l s' → G' true s') → wpAny (model B.prog B.w) A t G' E s) (h2 : ∀ s', Fx B md s₀ st₀ st L own l s' → G true s') :
  if c = true then G true s else wpAny (model B.prog B.w) A t G E s := by
 cases c with
 | true => exact h2 s F
 | false => exact h1 rfl G h2
theorem Fx.orQ {c : Bool} {G : Bool → Shared → Prop} {E : Value → Shared → Prop} {t : Sem Bool} (d : Bool) (F : Fx B md s₀ st₀ st L own l s) (h1 : c = false → ∀ G' : Bool → Shared → Prop, (∀ s', Fx B md s₀ st₀ st L own l s' → G' d s') → wpAny (model B.prog B.w) A t G' E s) (h2 : ∀ s', Fx B md s₀ st₀ st L own l s' → G (c || d) s') :
  if c = true then G true s else wpAny (model B.prog B.w) A t G E s := by
 cases c with
 | true => exact h2 s F
 | false => exact h1 rfl G h2
section
variable {E : Value → Shared → Prop} {env : Env} {names : List (Str × NameKind)} {cl : List (Str × Addr)} {qual : Str} {cd : Value}
theorem z80 {x Cn : Str} {a C : Addr} {e : Ex} {p1 p2 p3 p4 pos : Pos} {body rest : List Stmt} {Q : Flow → Shared → Prop} (h : ∀ s', Fx B md s₀ st₀ st L own l s' → wpAny (model B.prog B.w) A (execs rest env) Q E s') (F : autoParam (Fx B md s₀ st₀ st L own l s) Mine.tA) (N : autoParam (En env L names cl qual cd) Mine.tA)
  (hv : autoParam ((x, .ref a) ∈ l) Mine.tM) (hx : autoParam ((x, NameKind.local) ∈ names) Mine.tN) (hb : autoParam ((("isinstance" : Str), NameKind.globalImplicit) ∈ names) Mine.tN) (hg : autoParam ((Cn, NameKind.globalImplicit) ∈ names) Mine.tN)
  (g : autoParam ((Cn, Value.ref C) ∈ globL) Mine.tN) (R : autoParam (Rep st a e) Mine.tP) (hC : autoParam (C ∈ isaL) Mine.tE) (hc : autoParam (Mine.isaE e C = false) Mine.tD) :
  wpAny (model B.prog B.w) A (execs (.If (.Call (.Name "isinstance" p1) [.Name x p2, .Name Cn p3] [] p4) body [] pos :: rest) env) Q E s :=
 xs_k fun K h1 z => z63 (z37 (fun s' F' => if_f hc (wpAny_execs_nil (h1 s' (h s' F')))) F N hv hx hb hg g R hC)
theorem z82 {x Cn Dn : Str} {a C D : Addr} {e : Ex} {p1 p2 p3 p4 q1 q2 q3 q4 q5 pos : Pos} {body rest : List Stmt} {Q : Flow → Shared → Prop} (h : ∀ s', Fx B md s₀ st₀ st L own l s' → wpAny (model B.prog B.w) A (execs rest env) Q E s') (F : autoParam (Fx B md s₀ st₀ st L own l s) Mine.tA) (N : autoParam (En env L names cl qual cd) Mine.tA)
  (hv : autoParam ((x, .ref a) ∈ l) Mine.tM) (hx : autoParam ((x, NameKind.local) ∈ names) Mine.tN) (hb : autoParam ((("isinstance" : Str), NameKind.globalImplicit) ∈ names) Mine.tN) (hg : autoParam ((Cn, NameKind.globalImplicit) ∈ names) Mine.tN) (kg : autoParam ((Dn, NameKind.globalImplicit) ∈ names) Mine.tN)
  (g : autoParam ((Cn, Value.ref C) ∈ globL) Mine.tN) (k : autoParam ((Dn, Value.ref D) ∈ globL) Mine.tN) (R : autoParam (Rep st a e) Mine.tP) (hC : autoParam (C ∈ isaL) Mine.tE) (hD : autoParam (D ∈ isaL) Mine.tE) (hc : autoParam (Mine.isaE e C = false) Mine.tD) (hd : autoParam (Mine.isaE e D = false) Mine.tD) :
  wpAny (model B.prog B.w) A (execs (.If (.BoolOp .Or [.Call (.Name "isinstance" p1) [.Name x p2, .Name Cn p3] [] p4, .Call (.Name "isinstance" q1) [.Name x q2, .Name Dn q3] [] q4] q5) body [] pos :: rest) env) Q E s :=
 xs_k fun K h1 z => z63 (wpAny_isTrue_BoolOp (allTrue_or (z37 (fun s' F' => if_f hc (z37 (fun s'' F'' => if_f hd (wpAny_execs_nil (h1 s'' (h s'' F'')))) F' N hv hx hb kg k R hD)) F N hv hx hb hg g R hC)))
end
set_option maxHeartbeats 0
set_option hygiene false
local macro_rules | `(tactic| o_head m_enter) => `(tactic| (
 (case ho => k_is); (case hcd => k_is); (try (case hbind => first | exact BindsTo.of_eq rfl | (intros; exact BindsTo.of_eq rfl))); (case hS => exact ⟨rfl, by decide, by decide⟩); (case hps => first | exact rfl | (intros; exact rfl)); (case hloc => decide); (case hbn => decide); (case hcell => decide); (case hco => exact rfl); (case hgen => exact rfl)))
local macro_rules | `(tactic| o_head m_sub) => `(tactic| first | exact List.forall_mem_nil _ | (refine List.forall_mem_cons.mpr ⟨by o_head m_mem, ?_⟩; o_head m_sub))
local macro_rules | `(tactic| o_head m_st) => `(tactic| first | exact List.forall_mem_nil _ | (refine List.forall_mem_cons.mpr ⟨⟨by o_head m_mem, by dsimp only; decide +kernel⟩, ?_⟩; o_head m_st))
local macro_rules | `(tactic| o_head m_enterC) => `(tactic| (
 (case ho => k_is); (case hcd => k_is); (try (case hbind => exact BindsTo.of_eq rfl)); (case hS => exact ⟨rfl, by decide, by decide⟩); (case hps => exact rfl); (case hbn => decide); (case hlb => o_head m_sub); (case hlp => exact rfl); (case hll => decide); (case hcb => o_head m_sub); (case hcp => exact rfl); (case hcc => decide); (case hall => decide); (case hco => exact rfl); (case hgen => exact rfl)))
local macro_rules | `(tactic| o_head m_nam) => `(tactic| with_reducible first | exact mem_hd | exact mem_1 | exact mem_2 | exact mem_3 | exact mem_4 | exact mem_5 | exact mem_6 | exact mem_7 | (refine mem_8 ?_; o_head m_nam) | assumption)
local macro_rules | `(tactic| o_head m_l8) => `(tactic| first | exact lm_0 | exact lm_1 | exact lm_2 | exact lm_3 | exact lm_4 | exact lm_5 | exact lm_6 | exact lm_7 | (refine lm_8 ?_; o_head m_l8))
local macro_rules | `(tactic| o_head m_mem) => `(tactic| with_reducible first | o_head m_l8 | assumption | exact lt_1 ‹_› | exact lt_2 ‹_› | exact lt_3 ‹_› | exact lt_4 ‹_› | exact lt_5 ‹_› | exact lt_6 ‹_› | o_head m_nam)
local macro_rules | `(tactic| o_head m_f) => `(tactic| with_reducible first | exact fld_of _ (by o_head m_mem) | exact f_nm_variable _ _ | exact f_qu_variable _ _ | exact f_qu_term _ _ | exact f_op_first _ _ | exact f_op_second _ _)
local macro_rules | `(tactic| o_head m_I) => `(tactic| first | assumption | exact Inst.mono ‹_› (Fx.old ‹_›) | exact Inst.mono ‹_› ‹_›)
local macro_rules | `(tactic| o_head m_V) => `(tactic| first | assumption | exact VarAt.mono ‹_› (Fx.old ‹_›) | exact VarAt.mono ‹_› ‹_›)
local macro_rules | `(tactic| o_head m_R) => `(tactic| first | assumption | exact Rep.mono ‹_› (Fx.old ‹_›) | exact Rep.mono ‹_› ‹_›)
local macro_rules | `(tactic| o_head m_FI) => `(tactic| first | assumption | exact FnIn.mono ‹_› (Fx.old ‹_›) | exact FnIn.mono ‹_› ‹_›)
local macro_rules | `(tactic| o_head m_L) => `(tactic| first | assumption | exact Lst.mono ‹_› (Fx.old ‹_›) | exact Lst.mono ‹_› ‹_›)
local macro_rules | `(tactic| o_head m_C) => `(tactic| first | assumption | exact Cells.mono ‹_› (Fx.old ‹_›) | exact Cells.mono ‹_› ‹_›)
local macro_rules | `(tactic| o_head m_ne) => `(tactic| with_reducible first | exact ne_nil | (refine ne_cons (by decide +kernel) ?_; o_head m_ne) | assumption)
local macro_rules | `(tactic| o_head m_k) => `(tactic| with_reducible first | exact keep_of _ (by o_head m_mem))
local macro_rules | `(tactic| o_head m_s) => `(tactic| with_reducible first | exact fld_set _ (by o_head m_mem) | exact s_nm_variable _ _ | exact s_qu_variable _ _ | exact s_qu_term _ _ | exact s_op_first _ _ | exact s_op_second _ _)
local macro_rules | `(tactic| o_head m_rm) => `(tactic| first | exact Rm.le ‹_› (by o_head qo) | exact Rm.le (Rm.in1 ‹_›) (by o_head qo))
local macro_rules | `(tactic| o_head m_nm) => `(tactic| with_reducible first | refine z1 ?_ | refine z2 ?_ | refine z3 ?_ | refine z4 ?_ | refine z5 ?_)
local macro_rules | `(tactic| o_head m_ev) => `(tactic| with_reducible first
 | (show wpAny _ _ (eval (PySem.Expr.Name _ _) _) _ _ _; o_head m_nm)
 | refine z6 ?_ | refine z8 ?_ | refine z9 ?_ | refine z10 ?_ | refine z48 ?_ | refine wpAny_Call_NameR ?_ | refine z11 ?_ | refine z12 ?_
 | refine wpAny_And2 ?_ | refine wpAny_Or2 ?_ | refine wpAny_UnaryOp ?_ | refine wpAny_Constant_none ?_ | refine wpAny_Constant_bool ?_ | refine wpAny_IfExp ?_ | refine list_mk ?_
 | refine z13 ?_ | refine z14 ?_ | refine z15 ?_ | refine z16 ?_)
local macro_rules | `(tactic| o_head m_ex) => `(tactic| with_reducible first | refine z64 ?_ | refine z63 ?_ | refine wpAny_Assert_holds ?_ | refine z32 ?_ | refine z33 ?_ | refine z34 ?_ | refine z35 ?_)
local macro_rules | `(tactic| o_head m_cw) => `(tactic| with_reducible first | refine z18 ?_ | refine z19 ?_ | refine z21 ?_)
local macro_rules | `(tactic| o_head m_cm) => `(tactic| with_reducible first | refine z26 ?_ | refine is_none ?_ | refine isNot_none ?_ | refine z28 ?_ | refine z29 ?_)
local macro_rules | `(tactic| o_head m_bi) => `(tactic| fail)
local macro_rules | `(tactic| o_head m_go1) => `(tactic| (
 (with_reducible first
 | (show wpAny _ _ (execs _ _) _ _ _; first | refine z80 ?_ | refine z82 ?_ | refine xs_k ?_ | refine wpAny_execs_nil ?_)
 | (show wpAny _ _ (eval _ _) _ _ _; o_head m_ev)
 | (show wpAny _ _ (storeName _ _ _) _ _ _; first | refine z41 ?_ | refine z42 ?_)
 | (show wpAny _ _ (exec _ _) _ _ _; o_head m_ex)
 | (show wpAny _ _ (spliced _) _ _ _; first | refine z17 ?_ | refine wpAny_items_nil ?_)
 | (show wpAny _ _ (callWith _ _ _ _ _) _ _ _; o_head m_cw)
 | (show wpAny _ _ (PySem.getAttr _ _ _) _ _ _; first | refine z24 ?_ | refine z25 ?_)
 | (show wpAny _ _ (PySem.call _ _ _) _ _ _; first | refine z22 ?_ | refine z23 ?_ | refine PySem.IsiPair.str_str ?_)
 | (show wpAny _ _ (truthy _) _ _ _; refine wpAny_truthy_bool ?_)
 | (show wpAny _ _ (isTrue _ _ _) _ _ _; first | refine z37 ?_ | refine z38 ?_ | refine z39 ?_ | refine wpAny_isTrue_Not ?_ | refine z40 ?_ | refine wpAny_isTrue_BoolOp ?_)
 | (show wpAny _ _ (compareOp _ _ _) _ _ _; o_head m_cm)
 | (show wpAny _ _ (binaryOp _ _ _) _ _ _; o_head m_bi)
 | (show wpAny _ _ _ _ _ _; first | refine not_value ?_ | refine z43 ?_ | refine wpAny_assign_Name ?_ | refine part_none ?_ | refine z30 ?_ | refine allTrue_or ?_ | refine allTrue_and ?_)
 | refine z44 ?_ | refine z45 ?_ | refine z46 ?_
 | refine z61 ?_ | refine z62 ?_ | refine thn_next ?_ | refine z47 ?_ | refine z49 ?_ | refine turnQ_next ?_ | refine turnQ_ret ?_ | refine z31 ?_)
 intros))
local macro_rules | `(tactic| o_head m_go) => `(tactic| repeat o_head m_go1)
set_option hygiene true
set_option maxHeartbeats 4000000
theorem mkVar {x : Str} {t : Tok} (H : At B st s) (R : Rm A 3) : Spec B A [] st s (call (.ref 126) [.str x t]) (fun z st' v => ∃ a, v = .ref a ∧ Inst st' a 126 [("name", .str x t)]) := by
 refine' make (n := 1) (fI := 102) (args := [.str x t]) (binds := fun a => [("self", .ref a), ("name", .str x t)]) (ps := ["self", "name"]) H R (mk_core (mk_126 _)) ?ho ?hcd ?hbind ?hS ?hps ?hloc ?hbn ?hcell ?hco ?hgen ?_
 o_head m_enter
 intro Q L s' s₁ env A' a dx st' le hx N R' F k
 have hE : Ents [] [] := trivial
 dsimp only at N
 o_head m_go
 exact k _ _ _ _ _ _ (by assumption) (by assumption)
theorem mkNm {n : Nm} {b : Addr} (H : At B st s) (R : Rm A 3) (V : VarAt st b n) : Spec B A [] st s (call (.ref (nmCls n)) [.ref b]) (fun z st' v => ∃ a, v = .ref a ∧ Rep st' a (.nm n)) := by
 refine Spec.imp (hle := fun b o e => Heap.lt_size (H.le b o e)) (Φ := fun z st' v => ∃ a, v = .ref a ∧ Inst st' a (nmCls n) [("variable", .ref b)]) ?_ fun z st' v le hv => by
  obtain ⟨a, rfl, I⟩ := hv; exact ⟨a, rfl, .nm I (V.mono le)⟩
 refine' make (n := 1) (fI := 439) (args := [.ref b]) (binds := fun a => [("self", .ref a), ("variable", .ref b)]) (ps := ["self", "variable"]) H R (mk_core (mk_nm _ n)) ?ho ?hcd ?hbind ?hS ?hps ?hloc ?hbn ?hcell ?hco ?hgen ?_
 o_head m_enter
 intro Q L s' s₁ env A' a dx st' le hx N R' F k
 have hE : Ents [] [] := trivial
 dsimp only at N
 have V' := V.mono le
 o_head m_go
 exact k _ _ _ _ _ _ (by assumption) (by assumption)
theorem mkApp {f g : Addr} {e1 e2 : Ex} (H : At B st s) (R : Rm A 3) (R1 : Rep st f e1) (R2 : Rep st g e2) : Spec B A [] st s (call (.ref 423) [.ref f, .ref g]) (fun z st' v => ∃ a, v = .ref a ∧ Rep st' a (.app e1 e2)) := by
 refine Spec.imp (hle := fun b o e => Heap.lt_size (H.le b o e)) (Φ := fun z st' v => ∃ a, v = .ref a ∧ Inst st' a 423 [("function", .ref f), ("argument", .ref g)]) ?_ fun z st' v le hv => by
  obtain ⟨a, rfl, I⟩ := hv; exact ⟨a, rfl, .app I (R1.mono le) (R2.mono le)⟩
 refine' make (n := 1) (fI := 341) (args := [.ref f, .ref g]) (binds := fun a => [("self", .ref a), ("function", .ref f), ("argument", .ref g)]) (ps := ["self", "function", "argument"]) H R (mk_core (mk_423 _)) ?ho ?hcd ?hbind ?hS ?hps ?hloc ?hbn ?hcell ?hco ?hgen ?_
 o_head m_enter
 intro Q L s' s₁ env A' a dx st' le hx N R' F k
 have hE : Ents [] [] := trivial
 dsimp only at N
 have R1' := R1.mono le
 have R2' := R2.mono le
 o_head m_go
 exact k _ _ _ _ _ _ (by assumption) (by assumption)
theorem mkNeg {f : Addr} {e : Ex} (H : At B st s) (R : Rm A 3) (R1 : Rep st f e) : Spec B A [] st s (call (.ref 814) [.ref f]) (fun z st' v => ∃ a, v = .ref a ∧ Rep st' a (.neg e)) := by
 refine Spec.imp (hle := fun b o e => Heap.lt_size (H.le b o e)) (Φ := fun z st' v => ∃ a, v = .ref a ∧ Inst st' a 814 [("term", .ref f)]) ?_ fun z st' v le hv => by
  obtain ⟨a, rfl, I⟩ := hv; exact ⟨a, rfl, .neg I (R1.mono le)⟩
 refine' make (n := 1) (fI := 776) (args := [.ref f]) (binds := fun a => [("self", .ref a), ("term", .ref f)]) (ps := ["self", "term"]) H R (mk_core (mk_814 _)) ?ho ?hcd ?hbind ?hS ?hps ?hloc ?hbn ?hcell ?hco ?hgen ?_
 o_head m_enter
 intro Q L s' s₁ env A' a dx st' le hx N R' F k
 have hE : Ents [] [] := trivial
 dsimp only at N
 have R1' := R1.mono le
 o_head m_go
 exact k _ _ _ _ _ _ (by assumption) (by assumption)
theorem mkQu {b : Bool} {n : Nm} {v f : Addr} {e : Ex} (H : At B st s) (R : Rm A 3) (V : VarAt st v n) (R1 : Rep st f e) : Spec B A [] st s (call (.ref (quCls b)) [.ref v, .ref f]) (fun z st' v => ∃ a, v = .ref a ∧ Rep st' a (.qu b n e)) := by
 refine Spec.imp (hle := fun b o e => Heap.lt_size (H.le b o e)) (Φ := fun z st' w => ∃ a, w = .ref a ∧ Inst st' a (quCls b) [("variable", .ref v), ("term", .ref f)]) ?_ fun z st' w le hv => by
  obtain ⟨a, rfl, I⟩ := hv; exact ⟨a, rfl, .qu I (V.mono le) (R1.mono le)⟩
 refine' make (n := 1) (fI := 598) (args := [.ref v, .ref f]) (binds := fun a => [("self", .ref a), ("variable", .ref v), ("term", .ref f)]) (ps := ["self", "variable", "term"]) H R (mk_core (mk_qu _ b)) ?ho ?hcd ?hbind ?hS ?hps ?hloc ?hbn ?hcell ?hco ?hgen ?_
 o_head m_enter
 intro Q L s' s₁ env A' a dx st' le hx N R' F k
 have hE : Ents [] [] := trivial
 dsimp only at N
 have V' := V.mono le
 have R1' := R1.mono le
 o_head m_go
 exact k _ _ _ _ _ _ (by assumption) (by assumption)
theorem mkBin {o : Op} {f g : Addr} {e1 e2 : Ex} (H : At B st s) (R : Rm A 3) (R1 : Rep st f e1) (R2 : Rep st g e2) : Spec B A [] st s (call (.ref (opCls o)) [.ref f, .ref g]) (fun z st' v => ∃ a, v = .ref a ∧ Rep st' a (.bin o e1 e2)) := by
 refine Spec.imp (hle := fun b o e => Heap.lt_size (H.le b o e)) (Φ := fun z st' v => ∃ a, v = .ref a ∧ Inst st' a (opCls o) [("first", .ref f), ("second", .ref g)]) ?_ fun z st' v le hv => by
  obtain ⟨a, rfl, I⟩ := hv; exact ⟨a, rfl, .bin I (R1.mono le) (R2.mono le)⟩
 refine' make (n := 1) (fI := 830) (args := [.ref f, .ref g]) (binds := fun a => [("self", .ref a), ("first", .ref f), ("second", .ref g)]) (ps := ["self", "first", "second"]) H R (mk_core (mk_op _ o)) ?ho ?hcd ?hbind ?hS ?hps ?hloc ?hbn ?hcell ?hco ?hgen ?_
 o_head m_enter
 intro Q L s' s₁ env A' a dx st' le hx N R' F k
 have hE : Ents [] [] := trivial
 dsimp only at N
 have R1' := R1.mono le
 have R2' := R2.mono le
 o_head m_go
 exact k _ _ _ _ _ _ (by assumption) (by assumption)
set_option tactic.hygienic true in
theorem union_spec {p : Addr} {vs : List Value} {nss : List (List Nm)} (H : At B st s) (R : Rm A 8) (hp : Lst st p vs) (hv : VL st vs nss) : Spec B A [] st s (call (.ref 57) [.ref p]) (fun z st' v => Vars st' v (unionN nss)) := by
 refine' enter (d := 7) (u := 8 * (7)) (binds := (lc "parts" (.ref p) [])) (ps := ["parts"]) H (Rm.room R) ?ho ?hcd ?hbind ?hS ?hps ?hloc ?hbn ?hcell ?hco ?hgen ?_
 o_head m_enter
 intro Q L s₁ env A' k N R' F
 dsimp only at N
 replace R' : Rm A' (7) := R'
 o_head m_go
 refine Fx.lstW (vs := []) ‹_› (by decide) fun fa n0 s₂ F₂ => ?_
 o_head m_go
 rename_i s₃ F₃ _ _ _
 refine Fx.forL (fun i st' own' l' => l' = (lc "found" (.ref fa) (lc "parts" (.ref p) [])) ∧ ∃ us n, own' = ([(fa, lstO us n)] : Owns) ∧ Vs st' us (unionN (nss.take i))) F₃ R'.hh (hp.mono F₃.old) ⟨rfl, [], n0, rfl, trivial⟩ ?_ ?_
 ·rintro i x st' it o own' l' s' E' hx le ⟨rfl, us, n, rfl, hus⟩ F
  obtain ⟨ns, hns, b, ys, rfl, hb, hys⟩ := (hv.mono (F₃.old.trans le)).get hx
  o_head m_go
  rename_i s₅ F₅ _ _ _
  refine Fx.forL (fun j st'' own'' l'' => l'' = (lc "part" (.ref b) (lc "found" (.ref fa) (lc "parts" (.ref p) []))) ∧ ∃ us n, own'' = ([(it, o), (fa, lstO us n)] : Owns) ∧ Vs st'' us (addAll (unionN (nss.take i)) (ns.take j))) F₅ R'.hh hb ⟨rfl, us, n, rfl, hus⟩ ?_ ?_
  ·rintro j y st2 it2 o2 own2 l2 s6 E6 hy le2 ⟨rfl, us2, n2, rfl, hus2⟩ F
   obtain ⟨m, c, hm, rfl, hc⟩ := (hys.mono le2).get' hy
   o_head m_go
   refine Fx.notInV (vs := us2) ‹_› (R'.le (by o_head qo)) ⟨n2, .inr (by o_head m_mem)⟩ hus2 hc fun st3 s7 le3 F => ?_
   refine wpAny_truthy_bool ?_
   have hfin : ∀ us3 n3 s8, Fx B [] s st st3 L [(it2, o2), (it, o), (fa, lstO us3 n3)] [("one", .ref c), ("part", .ref b), ("found", .ref fa), ("parts", .ref p)] s8 → Vs st3 us3 (addN (addAll (unionN (nss.take i)) (ns.take j)) m) →
     ∃ st'' own'' l'', St.le st2 st'' ∧ (l'' = (lc "part" (.ref b) (lc "found" (.ref fa) (lc "parts" (.ref p) []))) ∧ ∃ us n, own'' = ([(it, o), (fa, lstO us n)] : Owns) ∧ Vs st'' us (addAll (unionN (nss.take i)) (ns.take (j + 1)))) ∧ Fx B [] s st st'' L ((it2, o2) :: own'') l'' s8 := by
    intro us3 n3 s8 F8 hv8
    refine ⟨st3, _, _, le3, ⟨rfl, us3, n3, rfl, ?_⟩, F8.lsub fun p hp => .tail _ hp⟩
    rw [take_snoc hm, addAll_snoc]
    exact hv8
   cases hb : (addAll (unionN (nss.take i)) (ns.take j)).any (· == m) with
   | true =>
    o_head m_go
    refine hfin us2 n2 _ ‹_› ?_
    rw [addN_t hb]
    exact hus2.mono le3
   | false =>
    o_head m_go
    refine Fx.callAppend (vs := us2) ‹_› ⟨n2, .inr (by o_head m_mem)⟩ ?_
    o_head m_go
    have hlen : us2.length ≤ 900 := by
     have h1 := hus2.len
     have h2 := nm_len (fold_nodup (ns := ns.take j) (union_nodup (nss.take i)))
     o_head qo
    refine Fx.appendAt [(it2, o2), (it, o)] ‹_› hlen fun n3 s8 F8 => ?_
    o_head m_go
    refine hfin _ _ _ F8 ?_
    rw [addN_f hb]
    exact (hus2.mono le3).snoc (hc.mono le3)
  ·rintro st2 own2 l2 s6 le2 ⟨rfl, us2, n2, rfl, hus2⟩ F
   o_head m_go
   refine ⟨st2, _, _, le2, ⟨rfl, us2, n2, rfl, ?_⟩, F.lsub fun p hp => .tail _ hp⟩
   rw [take_snoc hns, unionN_snoc]
   rwa [hys.len, List.take_length] at hus2
 ·rintro st2 own2 l2 s6 le2 ⟨rfl, us2, n2, rfl, hus2⟩ F
  o_head m_go
  obtain ⟨le, G⟩ := Fx.freeze ‹_› F₂.ow4
  o_head m_go
  refine Fx.ret k G fun st' le' => ⟨fa, us2, rfl, ⟨n2, le' _ _ St.put_self⟩, ?_⟩
  have := (hus2.mono le).mono le'
  rwa [hv.len, List.take_length] at this
noncomputable def lad (x ls : Str) : Bool := !(Txt.slice x none (some 1) == "") && Txt.contains ls (Txt.slice x none (some 1)) && (Txt.slice x (some 1) none).cps.toList.all fun c => Txt.contains "0123456789" ⟨#[c]⟩
set_option tactic.hygienic true in
theorem lad_spec {x ls : Str} {t u : Tok} (H : At B st s) (R : Rm A 4) (hx : x.length ≤ 100) (ha : (Txt.slice x (some 1) none).cps.all (· < 128) = true) : Spec B A [] st s (call (.ref 1061) [.str x t, .str ls u]) (fun z z v => v = .bool (lad x ls)) := by
 refine' enter (d := 3) (u := 8 * (3)) (binds := (lc "expr" (.str x t) (lc "letters" (.str ls u) []))) (ps := ["expr", "letters"]) H (Rm.room R) ?ho ?hcd ?hbind ?hS ?hps ?hloc ?hbn ?hcell ?hco ?hgen ?_
 o_head m_enter
 intro Q L s₁ env A' k N R' F
 dsimp only at N
 replace R' : Rm A' (3) := R'
 have hz : x.length ≤ sizeLine := by rw [sizeLine_eq]; o_head qo
 o_head m_go
 rename_i t1 s2 F2
 refine Fx.slc none (some (1, t1)) F2 hz fun t2 s3 F3 => ?_
 o_head m_go
 cases h1 : (Txt.slice x none (some 1) == "") with
 | true =>
  refine if_t h1 ?_
  o_head m_go
  exact Fx.ret k ‹_› fun z z => by unfold lad; rw [h1]; rfl
 | false =>
  refine if_f h1 ?_
  o_head m_go
  rename_i t4 s4 F4
  refine Fx.slc none (some (1, t4)) F4 hz fun t2 s3 F3 => ?_
  o_head m_go
  cases h2 : Txt.contains ls (Txt.slice x none (some 1)) with
  | false =>
   refine if_t (by show (!Txt.contains ls (Txt.slice x none (some 1))) = true; rw [h2]; rfl) ?_
   o_head m_go
   exact Fx.ret k ‹_› fun z z => by unfold lad; rw [h2, Bool.and_false, Bool.false_and]
  | true =>
   refine if_f (by show (!Txt.contains ls (Txt.slice x none (some 1))) = false; rw [h2]; rfl) ?_
   o_head m_go
   rename_i t5 s5 F5
   refine Fx.slc (some (1, t5)) none F5 hz fun t2 s3 F3 => ?_
   refine Fx.forS (fun i st' own' l' => own' = ([] : Owns) ∧ l' = (lc "expr" (.str x t) (lc "letters" (.str ls u) [])) ∧ ∀ j (h : j < (Txt.slice x (some 1) none).cps.size), j < i → Txt.contains "0123456789" ⟨#[(Txt.slice x (some 1) none).cps[j]]⟩ = true) F3 R'.hh ha ⟨rfl, rfl, fun j z h => absurd h (Nat.not_lt_zero _)⟩ ?_ ?_
   ·rintro i c tk st' it o own' l' s' E' hc le ⟨rfl, rfl, hd⟩ F
    o_head m_go
    cases h3 : Txt.contains "0123456789" ⟨#[c]⟩ with
    | false =>
     o_head m_go
     refine Fx.ret k ‹_› fun z z => ?_
     unfold lad
     have : ((Txt.slice x (some 1) none).cps.toList.all fun c => Txt.contains "0123456789" ⟨#[c]⟩) = false := by
      rw [List.all_eq_false]
      exact ⟨c, by rw [Array.mem_toList_iff]; exact Array.mem_of_getElem? hc, by rw [h3]; decide⟩
     rw [this, Bool.and_false]
    | true =>
     o_head m_go
     refine ⟨_, _, _, St.le.refl _, ⟨rfl, rfl, fun j hj hi => ?_⟩, Fx.lsub ‹_› fun p hp => .tail _ hp⟩
     rcases Nat.lt_succ_iff_lt_or_eq.mp hi with h | rfl
     ·exact hd j hj h
     ·replace hc : (Txt.slice x (some 1) none).cps[j]? = some c := hc
      rw [Array.getElem?_eq_getElem hj] at hc
      cases hc; exact h3
   ·rintro st' own' l' s' le ⟨rfl, rfl, hd⟩ F
    o_head m_go
    refine Fx.ret k ‹_› fun z z => ?_
    unfold lad
    have : ((Txt.slice x (some 1) none).cps.toList.all fun c => Txt.contains "0123456789" ⟨#[c]⟩) = true := by
     rw [List.all_eq_true]
     intro c hc
     obtain ⟨j, hj, e⟩ := List.getElem_of_mem hc
     have := hd j (by simpa using hj) (by simpa using hj)
     rw [← e]; simpa using this
    rw [this, h1, h2]; rfl
theorem nm_len100 (n : Nm) : n.str.length ≤ 100 := by cases n <;> decide +kernel
theorem nm_tail (n : Nm) : (Txt.slice n.str (some 1) none).cps.all (· < 128) = true := by cases n <;> decide +kernel
theorem lad_ind (n : Nm) : lad n.str "abcdfghijklmnopqrstuvwxyz" = n.isVar := by cases n <;> decide +kernel
theorem lad_func (n : Nm) : lad n.str "ABCDEFGHIJKLMNOPQRSTUVWXYZ" = false := by cases n <;> decide +kernel
theorem lad_ev (n : Nm) : lad n.str "e" = false := by cases n <;> decide +kernel
theorem is_indvar_spec {n : Nm} {t : Tok} (H : At B st s) (R : Rm A 6) : Spec B A [] st s (call (.ref 1068) [.str n.str t]) (fun z z v => v = .bool n.isVar) := by
 refine' enter (d := 5) (u := 8 * (5)) (binds := (lc "expr" (.str n.str t) [])) (ps := ["expr"]) H (Rm.room R) ?ho ?hcd ?hbind ?hS ?hps ?hloc ?hbn ?hcell ?hco ?hgen ?_
 o_head m_enter
 intro Q L s₁ env A' k N R' F
 dsimp only at N
 replace R' : Rm A' (5) := R'
 o_head m_go
 refine Fx.callV ‹_› (fun H => lad_spec H (R'.le (by o_head qo)) (nm_len100 n) (nm_tail n)) fun st' s' le F => ?_
 o_head m_go
 exact Fx.ret k F fun z z => by rw [lad_ind]
theorem is_funcvar_spec {n : Nm} {t : Tok} (H : At B st s) (R : Rm A 6) : Spec B A [] st s (call (.ref 1075) [.str n.str t]) (fun z z v => v = .bool false) := by
 refine' enter (d := 5) (u := 8 * (5)) (binds := (lc "expr" (.str n.str t) [])) (ps := ["expr"]) H (Rm.room R) ?ho ?hcd ?hbind ?hS ?hps ?hloc ?hbn ?hcell ?hco ?hgen ?_
 o_head m_enter
 intro Q L s₁ env A' k N R' F
 dsimp only at N
 replace R' : Rm A' (5) := R'
 o_head m_go
 refine Fx.callV ‹_› (fun H => lad_spec H (R'.le (by o_head qo)) (nm_len100 n) (nm_tail n)) fun st' s' le F => ?_
 o_head m_go
 exact Fx.ret k F fun z z => by rw [lad_func]
theorem is_eventvar_spec {n : Nm} {t : Tok} (H : At B st s) (R : Rm A 6) : Spec B A [] st s (call (.ref 1082) [.str n.str t]) (fun z z v => v = .bool false) := by
 refine' enter (d := 5) (u := 8 * (5)) (binds := (lc "expr" (.str n.str t) [])) (ps := ["expr"]) H (Rm.room R) ?ho ?hcd ?hbind ?hS ?hps ?hloc ?hbn ?hcell ?hco ?hgen ?_
 o_head m_enter
 intro Q L s₁ env A' k N R' F
 dsimp only at N
 replace R' : Rm A' (5) := R'
 o_head m_go
 refine Fx.callV ‹_› (fun H => lad_spec H (R'.le (by o_head qo)) (nm_len100 n) (nm_tail n)) fun st' s' le F => ?_
 o_head m_go
 exact Fx.ret k F fun z z => by rw [lad_ev]
theorem nm_isVar_cls {n : Nm} (h : n.isVar = true) : nmCls n = 511 := by unfold nmCls; rw [h]; rfl
theorem nm_const_cls {n : Nm} (h : n.isVar = false) : nmCls n = 575 := by unfold nmCls; rw [h]; rfl
theorem mkInd {n : Nm} {b : Addr} (hn : n.isVar = true) (H : At B st s) (R : Rm A 3) (V : VarAt st b n) : Spec B A [] st s (call (.ref 511) [.ref b]) (fun z st' v => ∃ a, v = .ref a ∧ Rep st' a (.nm n)) := by
 have h := mkNm H R V
 rw [nm_isVar_cls hn] at h
 exact h
theorem mkConst {n : Nm} {b : Addr} (hn : n.isVar = false) (H : At B st s) (R : Rm A 3) (V : VarAt st b n) : Spec B A [] st s (call (.ref 575) [.ref b]) (fun z st' v => ∃ a, v = .ref a ∧ Rep st' a (.nm n)) := by
 have h := mkNm H R V
 rw [nm_const_cls hn] at h
 exact h
theorem varExpr_spec {b : Addr} {n : Nm} (H : At B st s) (R : Rm A 8) (V : VarAt st b n) : Spec B A [] st s (call (.ref 584) [.ref b]) (fun z st' v => ∃ a, v = .ref a ∧ Rep st' a (.nm n)) := by
 refine' enter (d := 7) (u := 8 * (7)) (binds := (lc "variable" (.ref b) [])) (ps := ["variable"]) H (Rm.room R) ?ho ?hcd ?hbind ?hS ?hps ?hloc ?hbn ?hcell ?hco ?hgen ?_
 o_head m_enter
 intro Q L s₁ env A' k N R' F
 dsimp only at N
 replace R' : Rm A' (7) := R'
 o_head m_go
 refine Fx.callV ‹_› (fun H => is_indvar_spec H (R'.le (by o_head qo))) fun st' s' le F => ?_
 o_head m_go
 cases hn : n.isVar with
 | true =>
  o_head m_go
  refine Fx.callR ‹_› (fun H => mkInd hn H (R'.le (by o_head qo)) (V.mono le)) fun a st2 s2 le2 F ha => ?_
  o_head m_go
  exact Fx.ret k F fun z le' => ⟨a, rfl, ha.mono le'⟩
 | false =>
  o_head m_go
  refine Fx.callV ‹_› (fun H => is_funcvar_spec H (R'.le (by o_head qo))) fun st2 s2 le2 F => ?_
  o_head m_go
  refine Fx.callV ‹_› (fun H => is_eventvar_spec H (R'.le (by o_head qo))) fun st3 s3 le3 F => ?_
  o_head m_go
  refine Fx.callR ‹_› (fun H => mkConst hn H (R'.le (by o_head qo)) (V.mono (Fx.old ‹_›))) fun a st2 s2 le2 F ha => ?_
  o_head m_go
  exact Fx.ret k F fun z le' => ⟨a, rfl, ha.mono le'⟩
theorem Rep.nmI {st : St} {a : Addr} {n : Nm} (h : Rep st a (.nm n)) : ∃ v, Inst st a (nmCls n) [("variable", .ref v)] ∧ VarAt st v n := by
 cases h with | nm I V => exact ⟨_, I, V⟩
theorem Rep.appI {st : St} {a : Addr} {e1 e2 : Ex} (h : Rep st a (.app e1 e2)) : ∃ f g, Inst st a 423 [("function", .ref f), ("argument", .ref g)] ∧ Rep st f e1 ∧ Rep st g e2 := by
 cases h with | app I V W => exact ⟨_, _, I, V, W⟩
theorem Rep.negI {st : St} {a : Addr} {e : Ex} (h : Rep st a (.neg e)) : ∃ t, Inst st a 814 [("term", .ref t)] ∧ Rep st t e := by
 cases h with | neg I V => exact ⟨_, I, V⟩
theorem Rep.quI {st : St} {a : Addr} {b : Bool} {n : Nm} {e : Ex} (h : Rep st a (.qu b n e)) : ∃ v t, Inst st a (quCls b) [("variable", .ref v), ("term", .ref t)] ∧ VarAt st v n ∧ Rep st t e := by
 cases h with | qu I V W => exact ⟨_, _, I, V, W⟩
theorem Rep.binI {st : St} {a : Addr} {o : Op} {e1 e2 : Ex} (h : Rep st a (.bin o e1 e2)) : ∃ f g, Inst st a (opCls o) [("first", .ref f), ("second", .ref g)] ∧ Rep st f e1 ∧ Rep st g e2 := by
 cases h with | bin I V W => exact ⟨_, _, I, V, W⟩
theorem Vars.nil {st : St} {a : Addr} (h : Lst st a []) : Vars st (.ref a) [] := ⟨a, [], rfl, h, trivial⟩
theorem Vars.one {st : St} {a b : Addr} {n : Nm} (h : Lst st a [.ref b]) (V : VarAt st b n) : Vars st (.ref a) [n] := ⟨a, _, rfl, h, ⟨⟨b, rfl, V⟩, trivial⟩⟩
theorem free_var {a : Addr} {n : Nm} (H : At B st s) (R : Rm A 2) (Rp : Rep st a (.nm n)) : Spec B A [] st s (call (.ref 501) [.ref a]) (fun z st' v => Vars st' v [n]) := by
 obtain ⟨v, I, V⟩ := Rp.nmI
 refine' enter (d := 1) (u := 8 * (1)) (binds := (lc "self" (.ref a) [])) (ps := ["self"]) H (Rm.room R) ?ho ?hcd ?hbind ?hS ?hps ?hloc ?hbn ?hcell ?hco ?hgen ?_
 o_head m_enter
 intro Q L s₁ env A' k N R' F
 dsimp only at N
 replace R' : Rm A' (1) := R'
 o_head m_go
 refine Fx.lstS ‹_› (Nat.le_of_ble_eq_true rfl) fun la st' s' le hl F => ?_
 o_head m_go
 exact Fx.ret k F fun st2 le2 => (Vars.one hl (V.mono le)).mono le2
theorem free_const {a : Addr} {n : Nm} (H : At B st s) (R : Rm A 2) (Rp : Rep st a (.nm n)) : Spec B A [] st s (call (.ref 565) [.ref a]) (fun z st' v => Vars st' v []) := by
 refine' enter (d := 1) (u := 8 * (1)) (binds := (lc "self" (.ref a) [])) (ps := ["self"]) H (Rm.room R) ?ho ?hcd ?hbind ?hS ?hps ?hloc ?hbn ?hcell ?hco ?hgen ?_
 o_head m_enter
 intro Q L s₁ env A' k N R' F
 dsimp only at N
 replace R' : Rm A' (1) := R'
 o_head m_go
 refine Fx.lstS (vs := []) ‹_› (Nat.le_of_ble_eq_true rfl) fun la st' s' le hl F => ?_
 o_head m_go
 exact Fx.ret k F fun st2 le2 => (Vars.nil hl).mono le2
theorem const_var {a : Addr} {n : Nm} (H : At B st s) (R : Rm A 2) (Rp : Rep st a (.nm n)) : Spec B A [] st s (call (.ref 508) [.ref a]) (fun z st' v => Vars st' v []) := by
 refine' enter (d := 1) (u := 8 * (1)) (binds := (lc "self" (.ref a) [])) (ps := ["self"]) H (Rm.room R) ?ho ?hcd ?hbind ?hS ?hps ?hloc ?hbn ?hcell ?hco ?hgen ?_
 o_head m_enter
 intro Q L s₁ env A' k N R' F
 dsimp only at N
 replace R' : Rm A' (1) := R'
 o_head m_go
 refine Fx.lstS (vs := []) ‹_› (Nat.le_of_ble_eq_true rfl) fun la st' s' le hl F => ?_
 o_head m_go
 exact Fx.ret k F fun st2 le2 => (Vars.nil hl).mono le2
theorem const_const {a : Addr} {n : Nm} (H : At B st s) (R : Rm A 2) (Rp : Rep st a (.nm n)) : Spec B A [] st s (call (.ref 572) [.ref a]) (fun z st' v => Vars st' v [n]) := by
 obtain ⟨v, I, V⟩ := Rp.nmI
 refine' enter (d := 1) (u := 8 * (1)) (binds := (lc "self" (.ref a) [])) (ps := ["self"]) H (Rm.room R) ?ho ?hcd ?hbind ?hS ?hps ?hloc ?hbn ?hcell ?hco ?hgen ?_
 o_head m_enter
 intro Q L s₁ env A' k N R' F
 dsimp only at N
 replace R' : Rm A' (1) := R'
 o_head m_go
 refine Fx.lstS ‹_› (Nat.le_of_ble_eq_true rfl) fun la st' s' le hl F => ?_
 o_head m_go
 exact Fx.ret k F fun st2 le2 => (Vars.one hl (V.mono le)).mono le2
theorem pred_nm {a : Addr} {n : Nm} (H : At B st s) (R : Rm A 2) (Rp : Rep st a (.nm n)) : Spec B A [] st s (call (.ref 461) [.ref a]) (fun z st' v => Vars st' v []) := by
 refine' enter (d := 1) (u := 8 * (1)) (binds := (lc "self" (.ref a) [])) (ps := ["self"]) H (Rm.room R) ?ho ?hcd ?hbind ?hS ?hps ?hloc ?hbn ?hcell ?hco ?hgen ?_
 o_head m_enter
 intro Q L s₁ env A' k N R' F
 dsimp only at N
 replace R' : Rm A' (1) := R'
 o_head m_go
 refine Fx.lstS (vs := []) ‹_› (Nat.le_of_ble_eq_true rfl) fun la st' s' le hl F => ?_
 o_head m_go
 exact Fx.ret k F fun st2 le2 => (Vars.nil hl).mono le2
theorem simp_nm {a : Addr} {n : Nm} (H : At B st s) (R : Rm A 2) (Rp : Rep st a (.nm n)) : Spec B A [] st s (call (.ref 446) [.ref a]) (fun z st' v => ∃ b, v = .ref b ∧ Rep st' b (.nm n)) := by
 refine' enter (d := 1) (u := 8 * (1)) (binds := (lc "self" (.ref a) [])) (ps := ["self"]) H (Rm.room R) ?ho ?hcd ?hbind ?hS ?hps ?hloc ?hbn ?hcell ?hco ?hgen ?_
 o_head m_enter
 intro Q L s₁ env A' k N R' F
 dsimp only at N
 replace R' : Rm A' (1) := R'
 o_head m_go
 exact Fx.ret k ‹_› fun st2 le2 => ⟨a, rfl, Rp.mono le2⟩
theorem free_nm {a : Addr} {n : Nm} (H : At B st s) (R : Rm A 2) (Rp : Rep st a (.nm n)) : Spec B A [] st s (call (.ref (freeF (.nm n))) [.ref a]) (fun z st' v => Vars st' v (if n.isVar then [n] else [])) := by
 unfold freeF
 dsimp only
 cases h : n.isVar
 ·exact free_const H R Rp
 ·exact free_var H R Rp
theorem const_nm {a : Addr} {n : Nm} (H : At B st s) (R : Rm A 2) (Rp : Rep st a (.nm n)) : Spec B A [] st s (call (.ref (constF (.nm n))) [.ref a]) (fun z st' v => Vars st' v (if n.isVar then [] else [n])) := by
 unfold constF
 dsimp only
 cases h : n.isVar
 ·exact const_const H R Rp
 ·exact const_var H R Rp
noncomputable def RA (a v x : Addr) (rb : Bool) (args : List Value) (kw : List (Str × Value)) : Prop :=
 (args = ([.ref a, .ref v, .ref x, .bool rb, .bool true] : List Value) ∧ kw = ([] : Loc)) ∨ (args = ([.ref a, .ref v, .ref x, .bool rb] : List Value) ∧ kw = ([] : Loc)) ∨ (args = ([.ref a, .ref v, .ref x] : List Value) ∧ kw = ([] : Loc) ∧ rb = false) ∨ (args = ([.ref a, .ref v, .ref x] : List Value) ∧ kw = (lc "alpha_convert" (.bool true) []) ∧ rb = false)
theorem repl_nm {a v x : Addr} {n m : Nm} {e : Ex} {rb : Bool} {args : List Value} {kw : List (Str × Value)} (H : At B st s) (R : Rm A 4) (hra : RA a v x rb args kw) (Rp : Rep st a (.nm n)) (V : VarAt st v m) (Rx : Rep st x e) :
  Spec B A [] st s (call (.ref 454) args kw) (fun z st' w => ∃ b, w = .ref b ∧ Rep st' b (if n == m then e else .nm n)) := by
 obtain ⟨u, I, U⟩ := Rp.nmI
 have X := H.ok.X.keeps H.inv.base
 refine' enter (d := 3) (u := 8 * (3)) (binds := (lc "self" (.ref a) (lc "variable" (.ref v) (lc "expression" (.ref x) (lc "replace_bound" (.bool rb) (lc "alpha_convert" (.bool true) [])))))) (ps := ["self", "variable", "expression", "replace_bound", "alpha_convert"]) H (Rm.room R) ?ho ?hcd ?hbind ?hS ?hps ?hloc ?hbn ?hcell ?hco ?hgen ?_
 o_head m_enter
 case hbind => rcases hra with ⟨rfl, rfl⟩ | ⟨rfl, rfl⟩ | ⟨rfl, rfl, rfl⟩ | ⟨rfl, rfl, rfl⟩ <;> exact binds_K X rfl (by k_is) rfl rfl rfl
 intro Q L s₁ env A' k N R' F
 dsimp only at N
 replace R' : Rm A' (3) := R'
 o_head m_go
 cases h : (n == m) with
 | true =>
  o_head m_go
  exact Fx.ret k ‹_› fun st2 le2 => ⟨x, rfl, by rw [if_pos h]; exact Rx.mono ((Fx.old ‹_›).trans le2)⟩
 | false =>
  o_head m_go
  exact Fx.ret k ‹_› fun st2 le2 => ⟨a, rfl, by rw [if_neg (by rw [h]; decide)]; exact Rp.mono ((Fx.old ‹_›).trans le2)⟩
theorem visit_app {a a1 a2 f cmb : Addr} {m : Nat} {φ1 φ2 φ : St → Value → Prop} (H : At B st s) (R : Rm A (m + 4)) (I : Inst st a 423 [("function", .ref a1), ("argument", .ref a2)]) (hf : FnIn st f) (hc : FnIn st cmb)
  (D1 : Does B st m f (.ref a1) φ1) (D2 : Does B st m f (.ref a2) φ2) (K1 : Keeps φ1) (K : Keeps φ) (K2 : Keeps φ2)
  (D : ∀ st' lp v1 v2, St.le st st' → Lst st' lp [v1, v2] → φ1 st' v1 → φ2 st' v2 → Does B st' m cmb (.ref lp) φ) : Spec B A [] st s (call (.ref 376) [.ref a, .ref f, .ref cmb]) (fun z => φ) := by
 refine' enter (d := m + 3) (u := 8 * (m + 3)) (binds := (lc "self" (.ref a) (lc "function" (.ref f) (lc "combinator" (.ref cmb) [])))) (ps := ["self", "function", "combinator"]) H (Rm.room R) ?ho ?hcd ?hbind ?hS ?hps ?hloc ?hbn ?hcell ?hco ?hgen ?_
 o_head m_enter
 intro Q L s₁ env A' k N R' F
 dsimp only at N
 replace R' : Rm A' (m + 3) := R'
 o_head m_go
 refine Fx.callA ‹_› (fun H => D1 _ _ _ (Fx.old ‹_›) H (R'.le (by o_head qo))) fun v1 st1 s1 le1 F h1 => ?_
 o_head m_go
 refine Fx.callA ‹_› (fun H => D2 _ _ _ (Fx.old ‹_›) H (R'.le (by o_head qo))) fun v2 st2 s2 le2 F h2 => ?_
 o_head m_go
 refine Fx.lstS ‹_› (Nat.le_of_ble_eq_true rfl) fun lp st3 s3 le3 hl F => ?_
 o_head m_go
 refine Fx.callA ‹_› (fun H => D st3 lp v1 v2 (Fx.old ‹_›) hl (K1.k h1 (le2.trans le3)) (K2.k h2 le3) _ _ _ (St.le.refl _) H (R'.le (by o_head qo))) fun v st4 s4 le4 F h4 => ?_
 o_head m_go
 exact Fx.ret k F fun st5 le5 => K.k h4 le5
theorem visit_bin {o : Op} {a a1 a2 f cmb : Addr} {m : Nat} {φ1 φ2 φ : St → Value → Prop} (H : At B st s) (R : Rm A (m + 4)) (I : Inst st a (opCls o) [("first", .ref a1), ("second", .ref a2)]) (hf : FnIn st f) (hc : FnIn st cmb)
  (D1 : Does B st m f (.ref a1) φ1) (D2 : Does B st m f (.ref a2) φ2) (K1 : Keeps φ1) (K : Keeps φ) (K2 : Keeps φ2)
  (D : ∀ st' lp v1 v2, St.le st st' → Lst st' lp [v1, v2] → φ1 st' v1 → φ2 st' v2 → Does B st' m cmb (.ref lp) φ) : Spec B A [] st s (call (.ref 837) [.ref a, .ref f, .ref cmb]) (fun z => φ) := by
 refine' enter (d := m + 3) (u := 8 * (m + 3)) (binds := (lc "self" (.ref a) (lc "function" (.ref f) (lc "combinator" (.ref cmb) [])))) (ps := ["self", "function", "combinator"]) H (Rm.room R) ?ho ?hcd ?hbind ?hS ?hps ?hloc ?hbn ?hcell ?hco ?hgen ?_
 o_head m_enter
 intro Q L s₁ env A' k N R' F
 dsimp only at N
 replace R' : Rm A' (m + 3) := R'
 o_head m_go
 refine Fx.callA ‹_› (fun H => D1 _ _ _ (Fx.old ‹_›) H (R'.le (by o_head qo))) fun v1 st1 s1 le1 F h1 => ?_
 o_head m_go
 refine Fx.callA ‹_› (fun H => D2 _ _ _ (Fx.old ‹_›) H (R'.le (by o_head qo))) fun v2 st2 s2 le2 F h2 => ?_
 o_head m_go
 refine Fx.lstS ‹_› (Nat.le_of_ble_eq_true rfl) fun lp st3 s3 le3 hl F => ?_
 o_head m_go
 refine Fx.callA ‹_› (fun H => D st3 lp v1 v2 (Fx.old ‹_›) hl (K1.k h1 (le2.trans le3)) (K2.k h2 le3) _ _ _ (St.le.refl _) H (R'.le (by o_head qo))) fun v st4 s4 le4 F h4 => ?_
 o_head m_go
 exact Fx.ret k F fun st5 le5 => K.k h4 le5
theorem visit_neg {a a1 f cmb : Addr} {m : Nat} {φ1 φ : St → Value → Prop} (H : At B st s) (R : Rm A (m + 4)) (I : Inst st a 814 [("term", .ref a1)]) (hf : FnIn st f) (hc : FnIn st cmb)
  (D1 : Does B st m f (.ref a1) φ1) (K1 : Keeps φ1) (K : Keeps φ)
  (D : ∀ st' lp v1, St.le st st' → Lst st' lp [v1] → φ1 st' v1 → Does B st' m cmb (.ref lp) φ) : Spec B A [] st s (call (.ref 790) [.ref a, .ref f, .ref cmb]) (fun z => φ) := by
 refine' enter (d := m + 3) (u := 8 * (m + 3)) (binds := (lc "self" (.ref a) (lc "function" (.ref f) (lc "combinator" (.ref cmb) [])))) (ps := ["self", "function", "combinator"]) H (Rm.room R) ?ho ?hcd ?hbind ?hS ?hps ?hloc ?hbn ?hcell ?hco ?hgen ?_
 o_head m_enter
 intro Q L s₁ env A' k N R' F
 dsimp only at N
 replace R' : Rm A' (m + 3) := R'
 o_head m_go
 refine Fx.callA ‹_› (fun H => D1 _ _ _ (Fx.old ‹_›) H (R'.le (by o_head qo))) fun v1 st1 s1 le1 F h1 => ?_
 o_head m_go
 refine Fx.lstS ‹_› (Nat.le_of_ble_eq_true rfl) fun lp st3 s3 le3 hl F => ?_
 o_head m_go
 refine Fx.callA ‹_› (fun H => D st3 lp v1 (Fx.old ‹_›) hl (K1.k h1 le3) _ _ _ (St.le.refl _) H (R'.le (by o_head qo))) fun v st4 s4 le4 F h4 => ?_
 o_head m_go
 exact Fx.ret k F fun st5 le5 => K.k h4 le5
theorem visit_qu {b : Bool} {a a0 a1 f cmb : Addr} {m : Nat} {φ1 φ : St → Value → Prop} (H : At B st s) (R : Rm A (m + 4)) (I : Inst st a (quCls b) [("variable", .ref a0), ("term", .ref a1)]) (hf : FnIn st f) (hc : FnIn st cmb)
  (D1 : Does B st m f (.ref a1) φ1) (K1 : Keeps φ1) (K : Keeps φ)
  (D : ∀ st' lp v1, St.le st st' → Lst st' lp [v1] → φ1 st' v1 → Does B st' m cmb (.ref lp) φ) : Spec B A [] st s (call (.ref 625) [.ref a, .ref f, .ref cmb]) (fun z => φ) := by
 refine' enter (d := m + 3) (u := 8 * (m + 3)) (binds := (lc "self" (.ref a) (lc "function" (.ref f) (lc "combinator" (.ref cmb) [])))) (ps := ["self", "function", "combinator"]) H (Rm.room R) ?ho ?hcd ?hbind ?hS ?hps ?hloc ?hbn ?hcell ?hco ?hgen ?_
 o_head m_enter
 intro Q L s₁ env A' k N R' F
 dsimp only at N
 replace R' : Rm A' (m + 3) := R'
 o_head m_go
 refine Fx.callA ‹_› (fun H => D1 _ _ _ (Fx.old ‹_›) H (R'.le (by o_head qo))) fun v1 st1 s1 le1 F h1 => ?_
 o_head m_go
 refine Fx.lstS ‹_› (Nat.le_of_ble_eq_true rfl) fun lp st3 s3 le3 hl F => ?_
 o_head m_go
 refine Fx.callA ‹_› (fun H => D st3 lp v1 (Fx.old ‹_›) hl (K1.k h1 le3) _ _ _ (St.le.refl _) H (R'.le (by o_head qo))) fun v st4 s4 le4 F h4 => ?_
 o_head m_go
 exact Fx.ret k F fun st5 le5 => K.k h4 le5
theorem made_app {a lp f g : Addr} {e1 e2 : Ex} (H : At B st s) (R : Rm A 5) (hl : Lst st lp [.ref f, .ref g]) (R1 : Rep st f e1) (R2 : Rep st g e2) : Spec B A [] st s (call (.ref 355) [.ref a, .ref lp]) (fun z st' v => ∃ c, v = .ref c ∧ Rep st' c (.app e1 e2)) := by
 refine' enter (d := 4) (u := 8 * (4)) (binds := (lc "self" (.ref a) (lc "parts" (.ref lp) []))) (ps := ["self", "parts"]) H (Rm.room R) ?ho ?hcd ?hbind ?hS ?hps ?hloc ?hbn ?hcell ?hco ?hgen ?_
 o_head m_enter
 intro Q L s₁ env A' k N R' F
 dsimp only at N
 replace R' : Rm A' (4) := R'
 o_head m_go
 refine Fx.callR ‹_› (fun H => mkApp H (R'.le (by o_head qo)) (R1.mono (Fx.old ‹_›)) (R2.mono (Fx.old ‹_›))) fun c st2 s2 le2 F hc => ?_
 o_head m_go
 exact Fx.ret k F fun z le' => ⟨c, rfl, hc.mono le'⟩
theorem made_neg {a lp f : Addr} {e1 : Ex} (H : At B st s) (R : Rm A 5) (hl : Lst st lp [.ref f]) (R1 : Rep st f e1) : Spec B A [] st s (call (.ref 783) [.ref a, .ref lp]) (fun z st' v => ∃ c, v = .ref c ∧ Rep st' c (.neg e1)) := by
 refine' enter (d := 4) (u := 8 * (4)) (binds := (lc "self" (.ref a) (lc "parts" (.ref lp) []))) (ps := ["self", "parts"]) H (Rm.room R) ?ho ?hcd ?hbind ?hS ?hps ?hloc ?hbn ?hcell ?hco ?hgen ?_
 o_head m_enter
 intro Q L s₁ env A' k N R' F
 dsimp only at N
 replace R' : Rm A' (4) := R'
 o_head m_go
 refine Fx.callR ‹_› (fun H => mkNeg H (R'.le (by o_head qo)) (R1.mono (Fx.old ‹_›))) fun c st2 s2 le2 F hc => ?_
 o_head m_go
 exact Fx.ret k F fun z le' => ⟨c, rfl, hc.mono le'⟩
theorem binder_true {a v f : Addr} {n : Nm} {e : Ex} (H : At B st s) (R : Rm A 5) (V : VarAt st v n) (R1 : Rep st f e) : Spec B A [] st s (call (.ref 743) [.ref a, .ref v, .ref f]) (fun z st' w => ∃ c, w = .ref c ∧ Rep st' c (.qu true n e)) := by
 refine' enter (d := 4) (u := 8 * (4)) (binds := (lc "self" (.ref a) (lc "variable" (.ref v) (lc "term" (.ref f) [])))) (ps := ["self", "variable", "term"]) H (Rm.room R) ?ho ?hcd ?hbind ?hS ?hps ?hloc ?hbn ?hcell ?hco ?hgen ?_
 o_head m_enter
 intro Q L s₁ env A' k N R' F
 dsimp only at N
 replace R' : Rm A' (4) := R'
 o_head m_go
 refine Fx.callR ‹_› (fun H => mkQu (b := true) H (R'.le (by o_head qo)) (V.mono (Fx.old ‹_›)) (R1.mono (Fx.old ‹_›))) fun c st2 s2 le2 F hc => ?_
 o_head m_go
 exact Fx.ret k F fun z le' => ⟨c, rfl, hc.mono le'⟩
theorem binder_false {a v f : Addr} {n : Nm} {e : Ex} (H : At B st s) (R : Rm A 5) (V : VarAt st v n) (R1 : Rep st f e) : Spec B A [] st s (call (.ref 710) [.ref a, .ref v, .ref f]) (fun z st' w => ∃ c, w = .ref c ∧ Rep st' c (.qu false n e)) := by
 refine' enter (d := 4) (u := 8 * (4)) (binds := (lc "self" (.ref a) (lc "variable" (.ref v) (lc "term" (.ref f) [])))) (ps := ["self", "variable", "term"]) H (Rm.room R) ?ho ?hcd ?hbind ?hS ?hps ?hloc ?hbn ?hcell ?hco ?hgen ?_
 o_head m_enter
 intro Q L s₁ env A' k N R' F
 dsimp only at N
 replace R' : Rm A' (4) := R'
 o_head m_go
 refine Fx.callR ‹_› (fun H => mkQu (b := false) H (R'.le (by o_head qo)) (V.mono (Fx.old ‹_›)) (R1.mono (Fx.old ‹_›))) fun c st2 s2 le2 F hc => ?_
 o_head m_go
 exact Fx.ret k F fun z le' => ⟨c, rfl, hc.mono le'⟩
theorem binder_spec {b : Bool} {a v f : Addr} {n : Nm} {e : Ex} (H : At B st s) (R : Rm A 5) (V : VarAt st v n) (R1 : Rep st f e) : Spec B A [] st s (call (.ref (binderF b)) [.ref a, .ref v, .ref f]) (fun z st' w => ∃ c, w = .ref c ∧ Rep st' c (.qu b n e)) := by
 cases b
 ·exact binder_false H R V R1
 ·exact binder_true H R V R1
theorem Rep.methN {a : Addr} {e : Ex} {name : Str} {f : Addr} (h : Rep st a e) (hm : methB (hd.heap_39 B.w.params) (clsOf e) name f = true) (hn : autoParam (name ∉ fieldNames) Mine.tE) : MethAt B st a name f := h.meth hm hn
theorem made_qu {b : Bool} {n : Nm} {a v t lp f : Addr} {e1 : Ex} (H : At B st s) (R : Rm A 7) (I : Inst st a (quCls b) [("variable", .ref v), ("term", .ref t)]) (V : VarAt st v n) (hl : Lst st lp [.ref f]) (R1 : Rep st f e1) : Spec B A [] st s (call (.ref 632) [.ref a, .ref lp]) (fun z st' v => ∃ c, v = .ref c ∧ Rep st' c (.qu b n e1)) := by
 refine' enter (d := 6) (u := 8 * (6)) (binds := (lc "self" (.ref a) (lc "parts" (.ref lp) []))) (ps := ["self", "parts"]) H (Rm.room R) ?ho ?hcd ?hbind ?hS ?hps ?hloc ?hbn ?hcell ?hco ?hgen ?_
 o_head m_enter
 intro Q L s₁ env A' k N R' F
 dsimp only at N
 replace R' : Rm A' (6) := R'
 o_head m_go
 refine Fx.callM ‹_› ((I.mono (Fx.old ‹_›)).meth (m_binder _ b) rfl) ?_
 o_head m_go
 refine Fx.callR ‹_› (fun H => binder_spec H (R'.le (by o_head qo)) (V.mono (Fx.old ‹_›)) (R1.mono (Fx.old ‹_›))) fun c st2 s2 le2 F hc => ?_
 o_head m_go
 exact Fx.ret k F fun z le' => ⟨c, rfl, hc.mono le'⟩
theorem made_and {a lp f g : Addr} {e1 e2 : Ex} (H : At B st s) (R : Rm A 5) (hl : Lst st lp [.ref f, .ref g]) (R1 : Rep st f e1) (R2 : Rep st g e2) : Spec B A [] st s (call (.ref 889) [.ref a, .ref lp]) (fun z st' v => ∃ c, v = .ref c ∧ Rep st' c (.bin .and e1 e2)) := by
 refine' enter (d := 4) (u := 8 * (4)) (binds := (lc "self" (.ref a) (lc "parts" (.ref lp) []))) (ps := ["self", "parts"]) H (Rm.room R) ?ho ?hcd ?hbind ?hS ?hps ?hloc ?hbn ?hcell ?hco ?hgen ?_
 o_head m_enter
 intro Q L s₁ env A' k N R' F
 dsimp only at N
 replace R' : Rm A' (4) := R'
 o_head m_go
 refine Fx.callR ‹_› (fun H => mkBin (o := .and) H (R'.le (by o_head qo)) (R1.mono (Fx.old ‹_›)) (R2.mono (Fx.old ‹_›))) fun c st2 s2 le2 F hc => ?_
 o_head m_go
 exact Fx.ret k F fun z le' => ⟨c, rfl, hc.mono le'⟩
theorem made_or {a lp f g : Addr} {e1 e2 : Ex} (H : At B st s) (R : Rm A 5) (hl : Lst st lp [.ref f, .ref g]) (R1 : Rep st f e1) (R2 : Rep st g e2) : Spec B A [] st s (call (.ref 929) [.ref a, .ref lp]) (fun z st' v => ∃ c, v = .ref c ∧ Rep st' c (.bin .or e1 e2)) := by
 refine' enter (d := 4) (u := 8 * (4)) (binds := (lc "self" (.ref a) (lc "parts" (.ref lp) []))) (ps := ["self", "parts"]) H (Rm.room R) ?ho ?hcd ?hbind ?hS ?hps ?hloc ?hbn ?hcell ?hco ?hgen ?_
 o_head m_enter
 intro Q L s₁ env A' k N R' F
 dsimp only at N
 replace R' : Rm A' (4) := R'
 o_head m_go
 refine Fx.callR ‹_› (fun H => mkBin (o := .or) H (R'.le (by o_head qo)) (R1.mono (Fx.old ‹_›)) (R2.mono (Fx.old ‹_›))) fun c st2 s2 le2 F hc => ?_
 o_head m_go
 exact Fx.ret k F fun z le' => ⟨c, rfl, hc.mono le'⟩
theorem made_imp {a lp f g : Addr} {e1 e2 : Ex} (H : At B st s) (R : Rm A 5) (hl : Lst st lp [.ref f, .ref g]) (R1 : Rep st f e1) (R2 : Rep st g e2) : Spec B A [] st s (call (.ref 969) [.ref a, .ref lp]) (fun z st' v => ∃ c, v = .ref c ∧ Rep st' c (.bin .imp e1 e2)) := by
 refine' enter (d := 4) (u := 8 * (4)) (binds := (lc "self" (.ref a) (lc "parts" (.ref lp) []))) (ps := ["self", "parts"]) H (Rm.room R) ?ho ?hcd ?hbind ?hS ?hps ?hloc ?hbn ?hcell ?hco ?hgen ?_
 o_head m_enter
 intro Q L s₁ env A' k N R' F
 dsimp only at N
 replace R' : Rm A' (4) := R'
 o_head m_go
 refine Fx.callR ‹_› (fun H => mkBin (o := .imp) H (R'.le (by o_head qo)) (R1.mono (Fx.old ‹_›)) (R2.mono (Fx.old ‹_›))) fun c st2 s2 le2 F hc => ?_
 o_head m_go
 exact Fx.ret k F fun z le' => ⟨c, rfl, hc.mono le'⟩
theorem made_eq {a lp f g : Addr} {e1 e2 : Ex} (H : At B st s) (R : Rm A 5) (hl : Lst st lp [.ref f, .ref g]) (R1 : Rep st f e1) (R2 : Rep st g e2) : Spec B A [] st s (call (.ref 1035) [.ref a, .ref lp]) (fun z st' v => ∃ c, v = .ref c ∧ Rep st' c (.bin .eq e1 e2)) := by
 refine' enter (d := 4) (u := 8 * (4)) (binds := (lc "self" (.ref a) (lc "parts" (.ref lp) []))) (ps := ["self", "parts"]) H (Rm.room R) ?ho ?hcd ?hbind ?hS ?hps ?hloc ?hbn ?hcell ?hco ?hgen ?_
 o_head m_enter
 intro Q L s₁ env A' k N R' F
 dsimp only at N
 replace R' : Rm A' (4) := R'
 o_head m_go
 refine Fx.callR ‹_› (fun H => mkBin (o := .eq) H (R'.le (by o_head qo)) (R1.mono (Fx.old ‹_›)) (R2.mono (Fx.old ‹_›))) fun c st2 s2 le2 F hc => ?_
 o_head m_go
 exact Fx.ret k F fun z le' => ⟨c, rfl, hc.mono le'⟩
theorem made_op {o : Op} {a lp f g : Addr} {e1 e2 : Ex} (H : At B st s) (R : Rm A 5) (hl : Lst st lp [.ref f, .ref g]) (R1 : Rep st f e1) (R2 : Rep st g e2) : Spec B A [] st s (call (.ref (madeO o)) [.ref a, .ref lp]) (fun z st' v => ∃ c, v = .ref c ∧ Rep st' c (.bin o e1 e2)) := by
 cases o
 ·exact made_and H R hl R1 R2
 ·exact made_or H R hl R1 R2
 ·exact made_imp H R hl R1 R2
 ·exact made_eq H R hl R1 R2
noncomputable def kids : Ex → List Ex
 | .nm _ => []
 | .app f a => [f, a]
 | .neg t => [t]
 | .qu _ _ t => [t]
 | .bin _ a b => [a, b]
noncomputable def Fa (φ : Ex → St → Value → Prop) (st : St) : List Value → List Ex → Prop
 | [], [] => True
 | v :: vs, e :: es => φ e st v ∧ Fa φ st vs es
 | _, _ => False
theorem visit_any {e : Ex} {a f cmb : Addr} {m : Nat} {φ : Ex → St → Value → Prop} {Ψ : St → Value → Prop} (he : kids e ≠ []) (H : At B st s) (R : Rm A (m + 4)) (Rp : Rep st a e) (hf : FnIn st f) (hc : FnIn st cmb)
  (K : ∀ x, Keeps (φ x)) (KΨ : Keeps Ψ) (D1 : ∀ x ∈ kids e, ∀ b, Rep st b x → Does B st m f (.ref b) (φ x))
  (D : ∀ st' lp vs, St.le st st' → Lst st' lp vs → Fa φ st' vs (kids e) → Does B st' m cmb (.ref lp) Ψ) : Spec B A [] st s (call (.ref (visitF e)) [.ref a, .ref f, .ref cmb]) (fun z => Ψ) := by
 cases e with
 | nm n => exact absurd rfl he
 | app e1 e2 =>
  obtain ⟨f1, g1, I, R1, R2⟩ := Rp.appI
  exact visit_app H R I hf hc (D1 e1 (.head _) _ R1) (D1 e2 (.tail _ (.head _)) _ R2) (K _) KΨ (K _) fun st' lp v1 v2 le hl h1 h2 => D st' lp _ le hl ⟨h1, h2, trivial⟩
 | neg t =>
  obtain ⟨f1, I, R1⟩ := Rp.negI
  exact visit_neg H R I hf hc (D1 t (.head _) _ R1) (K _) KΨ fun st' lp v1 le hl h1 => D st' lp _ le hl ⟨h1, trivial⟩
 | qu b n t =>
  obtain ⟨v1, f1, I, V, R1⟩ := Rp.quI
  exact visit_qu H R I hf hc (D1 t (.head _) _ R1) (K _) KΨ fun st' lp v1 le hl h1 => D st' lp _ le hl ⟨h1, trivial⟩
 | bin o e1 e2 =>
  obtain ⟨f1, g1, I, R1, R2⟩ := Rp.binI
  exact visit_bin H R I hf hc (D1 e1 (.head _) _ R1) (D1 e2 (.tail _ (.head _)) _ R2) (K _) KΨ (K _) fun st' lp v1 v2 le hl h1 h2 => D st' lp _ le hl ⟨h1, h2, trivial⟩
theorem VL_of {g : Ex → List Nm} {st : St} : ∀ {vs : List Value} {es : List Ex}, Fa (fun x st v => Vars st v (g x)) st vs es → VL st vs (es.map g)
 | [], [], _ => trivial
 | _ :: _, _ :: _, ⟨h, r⟩ => ⟨h, VL_of r⟩
 | [], _ :: _, h => h.elim
 | _ :: _, [], h => h.elim
theorem keepsVars (ns : List Nm) : Keeps (fun st v => Vars st v ns) := ⟨fun h k => h.mono k⟩
theorem Lst.fnIn' : True := trivial
theorem free_exp {a : Addr} {e : Ex} {m : Nat} (he : kids e ≠ []) (H : At B st s) (R : Rm A (m + 16)) (Rp : Rep st a e)
  (IH : ∀ x ∈ kids e, ∀ (B' : Bs) st' s' A' b, B'.w = B.w → At B' st' s' → Rm A' (m + 1) → Rep st' b x → Spec B' A' [] st' s' (call (.ref (freeF x)) [.ref b]) (fun z st' v => Vars st' v x.free)) :
  Spec B A [] st s (call (.ref 287) [.ref a]) (fun z st' v => Vars st' v (unionN ((kids e).map Ex.free))) := by
 refine' enter (d := m + 15) (u := 8 * (m + 15)) (binds := (lc "self" (.ref a) [])) (ps := ["self"]) H (Rm.room R) ?ho ?hcd ?hbind ?hS ?hps ?hloc ?hbn ?hcell ?hco ?hgen ?_
 o_head m_enter
 intro Q L s₁ env A' k N R' F
 dsimp only at N
 replace R' : Rm A' (m + 15) := R'
 o_head m_go
 refine Fx.callM ‹_› (Rep.methN (Rp.mono (Fx.old ‹_›)) (m_visit _ e)) ?_
 o_head m_go
 refine Fx.lam (c := 286) (P := 282) (q := "Expression.free.<locals>.<lambda>") ‹_› ‹_› (by decide +kernel) (by decide +kernel) (by kernel_rfl) (by rfl) (by with_unfolding_all rfl) fun f1 st1 s1 le1 kp1 La1 F1 => ?_
 o_head m_go
 refine Fx.lam (c := 286) (P := 282) (q := "Expression.free.<locals>.<lambda>") ‹_› ‹_› (by decide +kernel) (by decide +kernel) (by kernel_rfl) (by rfl) (by with_unfolding_all rfl) fun f2 st2 s2 le2 kp2 La2 F2 => ?_
 o_head m_go
 have La1' := La1.keepT le2 kp2
 refine Fx.callA ‹_› (fun H2 => Spec.re H2 (visit_any (m := m + 9) (φ := fun x st v => Vars st v x.free) (Ψ := fun st v => Vars st v (unionN ((kids e).map Ex.free))) he H2.re (R'.le (by o_head qo)) (Rp.mono F2.old) La1'.fn La2.fn (fun x => keepsVars _) (keepsVars _) ?_ ?_)) fun v st3 s3 le3 F3 hv => ?_
 ·intro x hx b Rb st3 s3 A3 le3 H3 R3
  refine enterLam (n := m + 8) (binds := [("e", .ref b)]) (ps := ["e"]) H3 R3 (La1'.mono le3 fun z z e => e) ?_ ?_ ?_ ?_ ?_ ?_ ?_ ?_ fun Q4 L4 s4 env4 A4 cd4 k4 N4 R4 F4 => ?_
  ·intro pm cv ctv; exact BindsTo.of_eq rfl
  ·exact ⟨rfl, by decide, by decide⟩
  ·rfl
  ·decide
  ·decide
  ·decide
  ·rfl
  ·rfl
  o_head m_go
  refine Fx.callM0 ‹_› (Rep.methN ((Rb.mono le3).mono (Fx.old ‹_›)) (m_free _ x)) ?_
  refine Fx.callA ‹_› (fun H5 => IH x hx _ _ _ _ b rfl H5 (R4.le (by o_head qo)) ((Rb.mono le3).mono (Fx.old ‹_›))) fun v st5 s5 le5 F5 hv => ?_
  exact Fx.ret k4 F5 fun st6 le6 => hv.mono le6
 ·intro st3 lp vs le3 hl hfa st4 s4 A4 le4 H4 R4
  refine enterLam (n := m + 8) (binds := [("parts", .ref lp)]) (ps := ["parts"]) H4 R4 (La2.mono (le3.trans le4) fun z z e => e) ?_ ?_ ?_ ?_ ?_ ?_ ?_ ?_ fun Q5 L5 s5 env5 A5 cd5 k5 N5 R5 F5 => ?_
  ·intro pm cv ctv; exact BindsTo.of_eq rfl
  ·exact ⟨rfl, by decide, by decide⟩
  ·rfl
  ·decide
  ·decide
  ·decide
  ·rfl
  ·rfl
  o_head m_go
  refine Fx.callA ‹_› (fun H6 => union_spec H6 (R5.le (by o_head qo)) ((hl.mono le4).mono (Fx.old ‹_›)) ((VL.mono le4 (VL_of hfa)).mono (Fx.old ‹_›))) fun v st6 s6 le6 F6 hv => ?_
  exact Fx.ret k5 F6 fun st7 le7 => hv.mono le7
 ·o_head m_go
  exact Fx.ret k F3 fun st4 le4 => hv.mono le4
theorem consts_exp {a : Addr} {e : Ex} {m : Nat} (he : kids e ≠ []) (H : At B st s) (R : Rm A (m + 16)) (Rp : Rep st a e)
  (IH : ∀ x ∈ kids e, ∀ (B' : Bs) st' s' A' b, B'.w = B.w → At B' st' s' → Rm A' (m + 1) → Rep st' b x → Spec B' A' [] st' s' (call (.ref (constF x)) [.ref b]) (fun z st' v => Vars st' v x.consts)) :
  Spec B A [] st s (call (.ref 294) [.ref a]) (fun z st' v => Vars st' v (unionN ((kids e).map Ex.consts))) := by
 refine' enter (d := m + 15) (u := 8 * (m + 15)) (binds := (lc "self" (.ref a) [])) (ps := ["self"]) H (Rm.room R) ?ho ?hcd ?hbind ?hS ?hps ?hloc ?hbn ?hcell ?hco ?hgen ?_
 o_head m_enter
 intro Q L s₁ env A' k N R' F
 dsimp only at N
 replace R' : Rm A' (m + 15) := R'
 o_head m_go
 refine Fx.callM ‹_› (Rep.methN (Rp.mono (Fx.old ‹_›)) (m_visit _ e)) ?_
 o_head m_go
 refine Fx.lam (c := 293) (P := 289) (q := "Expression.constants.<locals>.<lambda>") ‹_› ‹_› (by decide +kernel) (by decide +kernel) (by kernel_rfl) (by rfl) (by with_unfolding_all rfl) fun f1 st1 s1 le1 kp1 La1 F1 => ?_
 o_head m_go
 refine Fx.lam (c := 293) (P := 289) (q := "Expression.constants.<locals>.<lambda>") ‹_› ‹_› (by decide +kernel) (by decide +kernel) (by kernel_rfl) (by rfl) (by with_unfolding_all rfl) fun f2 st2 s2 le2 kp2 La2 F2 => ?_
 o_head m_go
 have La1' := La1.keepT le2 kp2
 refine Fx.callA ‹_› (fun H2 => Spec.re H2 (visit_any (m := m + 9) (φ := fun x st v => Vars st v x.consts) (Ψ := fun st v => Vars st v (unionN ((kids e).map Ex.consts))) he H2.re (R'.le (by o_head qo)) (Rp.mono F2.old) La1'.fn La2.fn (fun x => keepsVars _) (keepsVars _) ?_ ?_)) fun v st3 s3 le3 F3 hv => ?_
 ·intro x hx b Rb st3 s3 A3 le3 H3 R3
  refine enterLam (n := m + 8) (binds := [("e", .ref b)]) (ps := ["e"]) H3 R3 (La1'.mono le3 fun z z e => e) ?_ ?_ ?_ ?_ ?_ ?_ ?_ ?_ fun Q4 L4 s4 env4 A4 cd4 k4 N4 R4 F4 => ?_
  ·intro pm cv ctv; exact BindsTo.of_eq rfl
  ·exact ⟨rfl, by decide, by decide⟩
  ·rfl
  ·decide
  ·decide
  ·decide
  ·rfl
  ·rfl
  o_head m_go
  refine Fx.callM0 ‹_› (Rep.methN ((Rb.mono le3).mono (Fx.old ‹_›)) (m_constants _ x)) ?_
  refine Fx.callA ‹_› (fun H5 => IH x hx _ _ _ _ b rfl H5 (R4.le (by o_head qo)) ((Rb.mono le3).mono (Fx.old ‹_›))) fun v st5 s5 le5 F5 hv => ?_
  exact Fx.ret k4 F5 fun st6 le6 => hv.mono le6
 ·intro st3 lp vs le3 hl hfa st4 s4 A4 le4 H4 R4
  refine enterLam (n := m + 8) (binds := [("parts", .ref lp)]) (ps := ["parts"]) H4 R4 (La2.mono (le3.trans le4) fun z z e => e) ?_ ?_ ?_ ?_ ?_ ?_ ?_ ?_ fun Q5 L5 s5 env5 A5 cd5 k5 N5 R5 F5 => ?_
  ·intro pm cv ctv; exact BindsTo.of_eq rfl
  ·exact ⟨rfl, by decide, by decide⟩
  ·rfl
  ·decide
  ·decide
  ·decide
  ·rfl
  ·rfl
  o_head m_go
  refine Fx.callA ‹_› (fun H6 => union_spec H6 (R5.le (by o_head qo)) ((hl.mono le4).mono (Fx.old ‹_›)) ((VL.mono le4 (VL_of hfa)).mono (Fx.old ‹_›))) fun v st6 s6 le6 F6 hv => ?_
  exact Fx.ret k5 F6 fun st7 le7 => hv.mono le7
 ·o_head m_go
  exact Fx.ret k F3 fun st4 le4 => hv.mono le4
theorem preds_exp {a : Addr} {e : Ex} {m : Nat} (he : kids e ≠ []) (H : At B st s) (R : Rm A (m + 16)) (Rp : Rep st a e)
  (IH : ∀ x ∈ kids e, ∀ (B' : Bs) st' s' A' b, B'.w = B.w → At B' st' s' → Rm A' (m + 1) → Rep st' b x → Spec B' A' [] st' s' (call (.ref (predF x)) [.ref b]) (fun z st' v => Vars st' v x.preds)) :
  Spec B A [] st s (call (.ref 301) [.ref a]) (fun z st' v => Vars st' v (unionN ((kids e).map Ex.preds))) := by
 refine' enter (d := m + 15) (u := 8 * (m + 15)) (binds := (lc "self" (.ref a) [])) (ps := ["self"]) H (Rm.room R) ?ho ?hcd ?hbind ?hS ?hps ?hloc ?hbn ?hcell ?hco ?hgen ?_
 o_head m_enter
 intro Q L s₁ env A' k N R' F
 dsimp only at N
 replace R' : Rm A' (m + 15) := R'
 o_head m_go
 refine Fx.callM ‹_› (Rep.methN (Rp.mono (Fx.old ‹_›)) (m_visit _ e)) ?_
 o_head m_go
 refine Fx.lam (c := 300) (P := 296) (q := "Expression.predicates.<locals>.<lambda>") ‹_› ‹_› (by decide +kernel) (by decide +kernel) (by kernel_rfl) (by rfl) (by with_unfolding_all rfl) fun f1 st1 s1 le1 kp1 La1 F1 => ?_
 o_head m_go
 refine Fx.lam (c := 300) (P := 296) (q := "Expression.predicates.<locals>.<lambda>") ‹_› ‹_› (by decide +kernel) (by decide +kernel) (by kernel_rfl) (by rfl) (by with_unfolding_all rfl) fun f2 st2 s2 le2 kp2 La2 F2 => ?_
 o_head m_go
 have La1' := La1.keepT le2 kp2
 refine Fx.callA ‹_› (fun H2 => Spec.re H2 (visit_any (m := m + 9) (φ := fun x st v => Vars st v x.preds) (Ψ := fun st v => Vars st v (unionN ((kids e).map Ex.preds))) he H2.re (R'.le (by o_head qo)) (Rp.mono F2.old) La1'.fn La2.fn (fun x => keepsVars _) (keepsVars _) ?_ ?_)) fun v st3 s3 le3 F3 hv => ?_
 ·intro x hx b Rb st3 s3 A3 le3 H3 R3
  refine enterLam (n := m + 8) (binds := [("e", .ref b)]) (ps := ["e"]) H3 R3 (La1'.mono le3 fun z z e => e) ?_ ?_ ?_ ?_ ?_ ?_ ?_ ?_ fun Q4 L4 s4 env4 A4 cd4 k4 N4 R4 F4 => ?_
  ·intro pm cv ctv; exact BindsTo.of_eq rfl
  ·exact ⟨rfl, by decide, by decide⟩
  ·rfl
  ·decide
  ·decide
  ·decide
  ·rfl
  ·rfl
  o_head m_go
  refine Fx.callM0 ‹_› (Rep.methN ((Rb.mono le3).mono (Fx.old ‹_›)) (m_predicates _ x)) ?_
  refine Fx.callA ‹_› (fun H5 => IH x hx _ _ _ _ b rfl H5 (R4.le (by o_head qo)) ((Rb.mono le3).mono (Fx.old ‹_›))) fun v st5 s5 le5 F5 hv => ?_
  exact Fx.ret k4 F5 fun st6 le6 => hv.mono le6
 ·intro st3 lp vs le3 hl hfa st4 s4 A4 le4 H4 R4
  refine enterLam (n := m + 8) (binds := [("parts", .ref lp)]) (ps := ["parts"]) H4 R4 (La2.mono (le3.trans le4) fun z z e => e) ?_ ?_ ?_ ?_ ?_ ?_ ?_ ?_ fun Q5 L5 s5 env5 A5 cd5 k5 N5 R5 F5 => ?_
  ·intro pm cv ctv; exact BindsTo.of_eq rfl
  ·exact ⟨rfl, by decide, by decide⟩
  ·rfl
  ·decide
  ·decide
  ·decide
  ·rfl
  ·rfl
  o_head m_go
  refine Fx.callA ‹_› (fun H6 => union_spec H6 (R5.le (by o_head qo)) ((hl.mono le4).mono (Fx.old ‹_›)) ((VL.mono le4 (VL_of hfa)).mono (Fx.old ‹_›))) fun v st6 s6 le6 F6 hv => ?_
  exact Fx.ret k5 F6 fun st7 le7 => hv.mono le7
 ·o_head m_go
  exact Fx.ret k F3 fun st4 le4 => hv.mono le4
theorem free_nodup (e : Ex) : e.free.Nodup := by
 induction e with
 | nm n => unfold Ex.free; split <;> simp
 | app f a _ _ => exact union_nodup _
 | neg t _ => exact union_nodup _
 | qu b n t ih => exact ih.filter _
 | bin o f a _ _ => exact union_nodup _
theorem free_quS {a : Addr} {b : Bool} {n : Nm} {t : Ex} {m : Nat} (H : At B st s) (R : Rm A (m + 16)) (Rp : Rep st a (.qu b n t))
  (IH : ∀ (B' : Bs) st' s' A' b, B'.w = B.w → At B' st' s' → Rm A' (m + 1) → Rep st' b t → Spec B' A' [] st' s' (call (.ref (freeF t)) [.ref b]) (fun z st' v => Vars st' v t.free)) :
  Spec B A [] st s (call (.ref 618) [.ref a]) (fun z st' v => Vars st' v (Ex.qu b n t).free) := by
 obtain ⟨v, t1, I, V, Rt⟩ := Rp.quI
 refine' enterCells (n := m + 15) (binds := (lc "self" (.ref a) [])) (lb := ([])) (cb := [("self", .ref a)]) (ps := ["self"]) (lps := []) (cps := ["self"]) H R ?ho ?hcd ?hbind ?hS ?hps ?hbn ?hlb ?hlp ?hll ?hcb ?hcp ?hcc ?hall ?hco ?hgen ?_
 o_head m_enterC
 (try (case hbind => rcases hra with ⟨rfl, rfl⟩ | ⟨rfl, rfl⟩ | ⟨rfl, rfl, rfl⟩ | ⟨rfl, rfl, rfl⟩ <;> exact binds_K X rfl (by k_is) rfl rfl rfl))
 intro Q L s₁ env A' cl st₁ k le₁ N hcl CC R' F
 dsimp only at N
 replace R' : Rm A' (m + 15) := R'
 have hclo : closOf cl [(".0", NameKind.local), ("v", NameKind.local), ("self", NameKind.free)] [] = some ([("self", L + 1)] : List (Str × Addr)) := by rw [hcl]; kernel_rfl
 o_head m_go
 refine comp_mk [("self", L + 1)] ‹_› hclo rfl (by decide) ?_
 o_head m_go
 refine Fx.callM0 ‹_› (Rep.methN (Rt.mono (Fx.old ‹_›)) (m_free _ t)) ?_
 refine Fx.callA ‹_› (fun H2 => IH _ _ _ _ _ rfl H2 (R'.le (by o_head qo)) (Rt.mono (Fx.old ‹_›))) fun w st2 s2 le2 F2 hv => ?_
 obtain ⟨la, vs, rfl, hl, hvs⟩ := hv
 refine Fx.compL (fun i st' us => Vs st' us ((t.free.take i).filter fun k => !(k == n))) F2 N R'.hh ⟨rfl, by decide, by decide⟩ (by decide) (by decide) (by decide) hl (by have := hvs.len; have := nm_len (free_nodup t); o_head qo) trivial ?_ ?_
 ·intro i x st3 us C env3 ow s3 E3 hx le3 hJ N3 F3
  replace N3 : En env3 C [(".0", NameKind.local), ("v", NameKind.local), ("self", NameKind.cell)] [("self", L + 1)] _ _ := N3
  have CC3 : Cells st3 [("self", L + 1)] [("self", .ref a)] := ((CC.clos hclo (by decide) (cb' := [("self", .ref a)]) (List.forall_mem_cons.mpr ⟨⟨by o_head m_mem, by o_head m_mem⟩, fun z h => nomatch h⟩)).mono le2).mono le3
  obtain ⟨k, kb, hk, rfl, Vk⟩ := (hvs.mono le3).get' hx
  refine tests_one ?_
  o_head m_go
  cases hb : (k == n) with
  | true =>
   o_head m_go
   refine ⟨_, ‹St.le st3 _›, ‹_›, ?_⟩
   rw [take_snoc hk, List.filter_append]
   simpa [hb] using hJ.mono ‹St.le st3 _›
  | false =>
   o_head m_go
   refine ⟨_, ‹St.le st3 _›, ‹_›, ?_⟩
   rw [take_snoc hk, List.filter_append]
   have := (hJ.mono ‹St.le st3 _›).snoc (Vk.mono ‹St.le st3 _›)
   simpa [hb] using this
 ·intro st3 us n3 D s3 le3 hJ F3
  o_head m_go
  obtain ⟨le4, G⟩ := Fx.freeze F3 F3.ow4
  o_head m_go
  refine Fx.ret k G fun st' le' => ⟨D, us, rfl, ⟨n3, le' _ _ St.put_self⟩, ?_⟩
  have := (hJ.mono le4).mono le'
  rwa [hvs.len, List.take_length] at this
theorem free_all (e : Ex) : ∀ {B : Bs} {st : St} {s : Shared} {A : Around} {a : Addr}, At B st s → Rm A (16 * e.ht) → Rep st a e → Spec B A [] st s (call (.ref (freeF e)) [.ref a]) (fun z st' v => Vars st' v e.free) := by
 induction e with
 | nm n => intro B st s A a H R Rp; exact free_nm H (R.le (by simp only [Ex.ht]; o_head qo)) Rp
 | app f g i1 i2 =>
  intro B st s A a H R Rp
  refine free_exp (e := .app f g) (m := 16 * max f.ht g.ht) (by simp [kids]) H (R.le (by simp only [Ex.ht]; o_head qo)) Rp fun x hx B' st' s' A' b z H' R' Rb => ?_
  simp only [kids, List.mem_cons, List.not_mem_nil, or_false] at hx
  rcases hx with rfl | rfl
  ·exact i1 H' (R'.le (by o_head qo)) Rb
  ·exact i2 H' (R'.le (by o_head qo)) Rb
 | neg t i1 =>
  intro B st s A a H R Rp
  refine free_exp (e := .neg t) (m := 16 * t.ht) (by simp [kids]) H (R.le (by simp only [Ex.ht]; o_head qo)) Rp fun x hx B' st' s' A' b z H' R' Rb => ?_
  cases List.mem_singleton.mp hx
  exact i1 H' (R'.le (by o_head qo)) Rb
 | qu b n t i1 =>
  intro B st s A a H R Rp
  exact free_quS (m := 16 * t.ht) H (R.le (by simp only [Ex.ht]; o_head qo)) Rp fun B' st' s' A' b z H' R' Rb => i1 H' (R'.le (by o_head qo)) Rb
 | bin o f g i1 i2 =>
  intro B st s A a H R Rp
  refine free_exp (e := .bin o f g) (m := 16 * max f.ht g.ht) (by simp [kids]) H (R.le (by simp only [Ex.ht]; o_head qo)) Rp fun x hx B' st' s' A' b z H' R' Rb => ?_
  simp only [kids, List.mem_cons, List.not_mem_nil, or_false] at hx
  rcases hx with rfl | rfl
  ·exact i1 H' (R'.le (by o_head qo)) Rb
  ·exact i2 H' (R'.le (by o_head qo)) Rb
theorem const_app {a : Addr} {e1 e2 : Ex} {m : Nat} (H : At B st s) (R : Rm A (m + 12)) (Rp : Rep st a (.app e1 e2))
  (IH1 : ∀ (B' : Bs) st' s' A' b, B'.w = B.w → At B' st' s' → Rm A' (m + 1) → Rep st' b e1 → Spec B' A' [] st' s' (call (.ref (constF e1)) [.ref b]) (fun z st' v => Vars st' v e1.consts))
  (IH2 : ∀ (B' : Bs) st' s' A' b, B'.w = B.w → At B' st' s' → Rm A' (m + 1) → Rep st' b e2 → Spec B' A' [] st' s' (call (.ref (constF e2)) [.ref b]) (fun z st' v => Vars st' v e2.consts)) :
  Spec B A [] st s (call (.ref 362) [.ref a]) (fun z st' v => Vars st' v (Ex.app e1 e2).consts) := by
 obtain ⟨f1, g1, I, R1, R2⟩ := Rp.appI
 refine' enter (d := m + 11) (u := 8 * (m + 11)) (binds := (lc "self" (.ref a) [])) (ps := ["self"]) H (Rm.room R) ?ho ?hcd ?hbind ?hS ?hps ?hloc ?hbn ?hcell ?hco ?hgen ?_
 o_head m_enter
 intro Q L s₁ env A' k N R' F
 dsimp only at N
 replace R' : Rm A' (m + 11) := R'
 o_head m_go
 have hi : isaE e1 485 = e1.isNm := by cases e1 <;> rfl
 rw [hi]
 cases hb : e1.isNm with
 | true =>
  o_head m_go
  refine Fx.lstS (vs := []) ‹_› (Nat.le_of_ble_eq_true rfl) fun lf st3 s3 le3 hlf F3 => ?_
  o_head m_go
  refine Fx.callM0 ‹_› (Rep.methN (R2.mono (Fx.old ‹_›)) (m_constants _ e2)) ?_
  refine Fx.callA ‹_› (fun H2 => IH2 _ _ _ _ _ rfl H2 (R'.le (by o_head qo)) (R2.mono (Fx.old ‹_›))) fun w st5 s5 le5 F5 hw => ?_
  o_head m_go
  refine Fx.lstS ‹_› (Nat.le_of_ble_eq_true rfl) fun la st6 s6 le6 hl F6 => ?_
  o_head m_go
  refine Fx.callA ‹_› (fun H2 => union_spec (nss := [[], e2.consts]) H2 (R'.le (by o_head qo)) hl ⟨(Vars.nil hlf).mono (le5.trans le6), hw.mono le6, trivial⟩) fun v st7 s7 le7 F7 hv => ?_
  o_head m_go
  refine Fx.ret k F7 fun st8 le8 => ?_
  have := hv.mono le8
  simpa [Ex.consts, hb] using this
 | false =>
  o_head m_go
  refine Fx.callM0 ‹_› (Rep.methN (R1.mono (Fx.old ‹_›)) (m_constants _ e1)) ?_
  refine Fx.callA ‹_› (fun H2 => IH1 _ _ _ _ _ rfl H2 (R'.le (by o_head qo)) (R1.mono (Fx.old ‹_›))) fun wf st3 s3 le3 F3 hwf => ?_
  o_head m_go
  refine Fx.callM0 ‹_› (Rep.methN (R2.mono (Fx.old ‹_›)) (m_constants _ e2)) ?_
  refine Fx.callA ‹_› (fun H2 => IH2 _ _ _ _ _ rfl H2 (R'.le (by o_head qo)) (R2.mono (Fx.old ‹_›))) fun w st5 s5 le5 F5 hw => ?_
  o_head m_go
  refine Fx.lstS ‹_› (Nat.le_of_ble_eq_true rfl) fun la st6 s6 le6 hl F6 => ?_
  o_head m_go
  refine Fx.callA ‹_› (fun H2 => union_spec (nss := [e1.consts, e2.consts]) H2 (R'.le (by o_head qo)) hl ⟨hwf.mono (le5.trans le6), hw.mono le6, trivial⟩) fun v st7 s7 le7 F7 hv => ?_
  o_head m_go
  refine Fx.ret k F7 fun st8 le8 => ?_
  have := hv.mono le8
  simpa [Ex.consts, hb] using this
theorem pred_app {a : Addr} {e1 e2 : Ex} {m : Nat} (H : At B st s) (R : Rm A (m + 12)) (Rp : Rep st a (.app e1 e2))
  (IH1 : ∀ (B' : Bs) st' s' A' b, B'.w = B.w → At B' st' s' → Rm A' (m + 1) → Rep st' b e1 → Spec B' A' [] st' s' (call (.ref (predF e1)) [.ref b]) (fun z st' v => Vars st' v e1.preds))
  (IH2 : ∀ (B' : Bs) st' s' A' b, B'.w = B.w → At B' st' s' → Rm A' (m + 1) → Rep st' b e2 → Spec B' A' [] st' s' (call (.ref (predF e2)) [.ref b]) (fun z st' v => Vars st' v e2.preds)) :
  Spec B A [] st s (call (.ref 369) [.ref a]) (fun z st' v => Vars st' v (Ex.app e1 e2).preds) := by
 obtain ⟨f1, g1, I, R1, R2⟩ := Rp.appI
 refine' enter (d := m + 11) (u := 8 * (m + 11)) (binds := (lc "self" (.ref a) [])) (ps := ["self"]) H (Rm.room R) ?ho ?hcd ?hbind ?hS ?hps ?hloc ?hbn ?hcell ?hco ?hgen ?_
 o_head m_enter
 intro Q L s₁ env A' k N R' F
 dsimp only at N
 replace R' : Rm A' (m + 11) := R'
 o_head m_go
 have hi : isaE e1 575 = e1.isConst.isSome := by cases e1 with
  | nm n => cases n <;> rfl
  | _ => rfl
 rw [hi]
 cases hb : e1.isConst with
 | some n =>
  have he1 : e1 = .nm n := by cases e1 with
   | nm i => cases i <;> first | cases hb; rfl | (cases hb; done)
   | app f g => exact nomatch hb
   | neg t => exact nomatch hb
   | qu b n t => exact nomatch hb
   | bin o f g => exact nomatch hb
  subst he1
  obtain ⟨vv, I1, V1⟩ := R1.nmI
  o_head m_go
  refine Fx.lstS ‹_› (Nat.le_of_ble_eq_true rfl) fun lf st3 s3 le3 hlf F3 => ?_
  o_head m_go
  refine Fx.callM0 ‹_› (Rep.methN (R2.mono (Fx.old ‹_›)) (m_predicates _ e2)) ?_
  refine Fx.callA ‹_› (fun H2 => IH2 _ _ _ _ _ rfl H2 (R'.le (by o_head qo)) (R2.mono (Fx.old ‹_›))) fun w st5 s5 le5 F5 hw => ?_
  o_head m_go
  refine Fx.lstS ‹_› (Nat.le_of_ble_eq_true rfl) fun la st6 s6 le6 hl F6 => ?_
  o_head m_go
  refine Fx.callA ‹_› (fun H2 => union_spec (nss := [[n], e2.preds]) H2 (R'.le (by o_head qo)) hl ⟨((Vars.one hlf (V1.mono (Fx.old F3))).mono (le5.trans le6)), hw.mono le6, trivial⟩) fun v st7 s7 le7 F7 hv => ?_
  o_head m_go
  refine Fx.ret k F7 fun st8 le8 => ?_
  have := hv.mono le8
  simpa [Ex.preds, hb] using this
 | none =>
  o_head m_go
  refine Fx.callM0 ‹_› (Rep.methN (R1.mono (Fx.old ‹_›)) (m_predicates _ e1)) ?_
  refine Fx.callA ‹_› (fun H2 => IH1 _ _ _ _ _ rfl H2 (R'.le (by o_head qo)) (R1.mono (Fx.old ‹_›))) fun wf st3 s3 le3 F3 hwf => ?_
  o_head m_go
  refine Fx.callM0 ‹_› (Rep.methN (R2.mono (Fx.old ‹_›)) (m_predicates _ e2)) ?_
  refine Fx.callA ‹_› (fun H2 => IH2 _ _ _ _ _ rfl H2 (R'.le (by o_head qo)) (R2.mono (Fx.old ‹_›))) fun w st5 s5 le5 F5 hw => ?_
  o_head m_go
  refine Fx.lstS ‹_› (Nat.le_of_ble_eq_true rfl) fun la st6 s6 le6 hl F6 => ?_
  o_head m_go
  refine Fx.callA ‹_› (fun H2 => union_spec (nss := [e1.preds, e2.preds]) H2 (R'.le (by o_head qo)) hl ⟨hwf.mono (le5.trans le6), hw.mono le6, trivial⟩) fun v st7 s7 le7 F7 hv => ?_
  o_head m_go
  refine Fx.ret k F7 fun st8 le8 => ?_
  have := hv.mono le8
  simpa [Ex.preds, hb] using this
theorem const_all (e : Ex) : ∀ {B : Bs} {st : St} {s : Shared} {A : Around} {a : Addr}, At B st s → Rm A (16 * e.ht) → Rep st a e → Spec B A [] st s (call (.ref (constF e)) [.ref a]) (fun z st' v => Vars st' v e.consts) := by
 induction e with
 | nm n => intro B st s A a H R Rp; exact const_nm H (R.le (by simp only [Ex.ht]; o_head qo)) Rp
 | app f g i1 i2 =>
  intro B st s A a H R Rp
  exact const_app (m := 16 * max f.ht g.ht) H (R.le (by simp only [Ex.ht]; o_head qo)) Rp (fun B' st' s' A' b z H' R' Rb => i1 H' (R'.le (by o_head qo)) Rb) (fun B' st' s' A' b z H' R' Rb => i2 H' (R'.le (by o_head qo)) Rb)
 | neg t i1 =>
  intro B st s A a H R Rp
  refine consts_exp (e := .neg t) (m := 16 * t.ht) (by simp [kids]) H (R.le (by simp only [Ex.ht]; o_head qo)) Rp fun x hx B' st' s' A' b z H' R' Rb => ?_
  cases List.mem_singleton.mp hx
  exact i1 H' (R'.le (by o_head qo)) Rb
 | qu b n t i1 =>
  intro B st s A a H R Rp
  refine consts_exp (e := .qu b n t) (m := 16 * t.ht) (by simp [kids]) H (R.le (by simp only [Ex.ht]; o_head qo)) Rp fun x hx B' st' s' A' b z H' R' Rb => ?_
  cases List.mem_singleton.mp hx
  exact i1 H' (R'.le (by o_head qo)) Rb
 | bin o f g i1 i2 =>
  intro B st s A a H R Rp
  refine consts_exp (e := .bin o f g) (m := 16 * max f.ht g.ht) (by simp [kids]) H (R.le (by simp only [Ex.ht]; o_head qo)) Rp fun x hx B' st' s' A' b z H' R' Rb => ?_
  simp only [kids, List.mem_cons, List.not_mem_nil, or_false] at hx
  rcases hx with rfl | rfl
  ·exact i1 H' (R'.le (by o_head qo)) Rb
  ·exact i2 H' (R'.le (by o_head qo)) Rb
theorem pred_all (e : Ex) : ∀ {B : Bs} {st : St} {s : Shared} {A : Around} {a : Addr}, At B st s → Rm A (16 * e.ht) → Rep st a e → Spec B A [] st s (call (.ref (predF e)) [.ref a]) (fun z st' v => Vars st' v e.preds) := by
 induction e with
 | nm n => intro B st s A a H R Rp; exact pred_nm H (R.le (by simp only [Ex.ht]; o_head qo)) Rp
 | app f g i1 i2 =>
  intro B st s A a H R Rp
  exact pred_app (m := 16 * max f.ht g.ht) H (R.le (by simp only [Ex.ht]; o_head qo)) Rp (fun B' st' s' A' b z H' R' Rb => i1 H' (R'.le (by o_head qo)) Rb) (fun B' st' s' A' b z H' R' Rb => i2 H' (R'.le (by o_head qo)) Rb)
 | neg t i1 =>
  intro B st s A a H R Rp
  refine preds_exp (e := .neg t) (m := 16 * t.ht) (by simp [kids]) H (R.le (by simp only [Ex.ht]; o_head qo)) Rp fun x hx B' st' s' A' b z H' R' Rb => ?_
  cases List.mem_singleton.mp hx
  exact i1 H' (R'.le (by o_head qo)) Rb
 | qu b n t i1 =>
  intro B st s A a H R Rp
  refine preds_exp (e := .qu b n t) (m := 16 * t.ht) (by simp [kids]) H (R.le (by simp only [Ex.ht]; o_head qo)) Rp fun x hx B' st' s' A' b z H' R' Rb => ?_
  cases List.mem_singleton.mp hx
  exact i1 H' (R'.le (by o_head qo)) Rb
 | bin o f g i1 i2 =>
  intro B st s A a H R Rp
  refine preds_exp (e := .bin o f g) (m := 16 * max f.ht g.ht) (by simp [kids]) H (R.le (by simp only [Ex.ht]; o_head qo)) Rp fun x hx B' st' s' A' b z H' R' Rb => ?_
  simp only [kids, List.mem_cons, List.not_mem_nil, or_false] at hx
  rcases hx with rfl | rfl
  ·exact i1 H' (R'.le (by o_head qo)) Rb
  ·exact i2 H' (R'.le (by o_head qo)) Rb
theorem At.unre {st0 st' : St} {s' : Shared} (H0 : At B st0 s) (H' : At (B.re s) st' s') : At B st' s' :=
 ⟨H0.ok, ⟨fun b o e => H'.inv.base b o (H0.reKeep b o e), H'.inv.bare, H'.inv.tabs, by
  have := H'.inv.size
  rw [show (B.re s).g.objs.size = s.heap.objs.size from hideAll_size ..] at this
  exact Nat.le_trans H0.inv.size this⟩, H'.le, H'.offT⟩
theorem Spec.toRe {st' : St} {s' : Shared} {t : Sem Value} {Φ : Heap → St → Value → Prop} (H' : At (B.re s) st' s') (C : Spec B A [] st' s' t Φ) : Spec (B.re s) A [] st' s' t Φ := fun Q E k => C Q E fun v s'' I X hos hΦ => k v s'' ⟨fun b o e => by
 have hb : b ∉ TT := fun q => by rw [hideAll_none TT q] at e; cases e
 exact X.1 b o hb (fun h => nomatch h) (H'.inv.base b o e), I.bare, I.tabs, Nat.le_trans H'.inv.size X.2⟩ X hos hΦ
theorem Does.re {m : Nat} {f : Addr} {x : Value} {φ : St → Value → Prop} {st : St} {st0 : St} (D : Does B st m f x φ) (H0 : At B st0 s) : Does (B.re s) st m f x φ := fun z z z le H' R => Spec.toRe H' (D _ _ _ le (H0.unre H') R)
noncomputable def mapK (T : Ex → Ex) : Ex → Ex
 | .nm n => .nm n
 | .app f a => .app (T f) (T a)
 | .neg t => .neg (T t)
 | .qu b n t => .qu b n (T t)
 | .bin o a b => .bin o (T a) (T b)
theorem keepsRep (e : Ex) : Keeps (fun st v => ∃ c, v = .ref c ∧ Rep st c e) := ⟨fun ⟨c, h1, h2⟩ k => ⟨c, h1, h2.mono k⟩⟩
theorem Fa.mono {φ : Ex → St → Value → Prop} (K : ∀ x, Keeps (φ x)) {st st' : St} (k : St.le st st') : ∀ {vs : List Value} {es : List Ex}, Fa φ st vs es → Fa φ st' vs es
 | [], [], _ => trivial
 | _ :: _, _ :: _, ⟨h, r⟩ => ⟨(K _).k h k, r.mono K k⟩
 | [], _ :: _, h => h.elim
 | _ :: _, [], h => h.elim
theorem Fa.one {φ : Ex → St → Value → Prop} {x : Ex} {vs : List Value} (h : Fa φ st vs [x]) : ∃ v, vs = [v] ∧ φ x st v := by
 cases vs with
 | nil => exact h.elim
 | cons v r =>
  cases r with
  | nil => exact ⟨v, rfl, h.1⟩
  | cons w r => exact h.2.elim
theorem Fa.two {φ : Ex → St → Value → Prop} {x y : Ex} {vs : List Value} (h : Fa φ st vs [x, y]) : ∃ v w, vs = [v, w] ∧ φ x st v ∧ φ y st w := by
 cases vs with
 | nil => exact h.elim
 | cons v r =>
  obtain ⟨w, rfl, h2⟩ := Fa.one (φ := φ) (st := st) (x := y) (vs := r) h.2
  exact ⟨v, w, rfl, h.1, h2⟩
theorem made_any {T : Ex → Ex} {e : Ex} {a lp : Addr} {vs : List Value} (he : kids e ≠ []) (H : At B st s) (R : Rm A 7) (Rp : Rep st a e) (hl : Lst st lp vs) (hfa : Fa (fun x st v => ∃ c, v = .ref c ∧ Rep st c (T x)) st vs (kids e)) :
  Spec B A [] st s (call (.ref (madeF e)) [.ref a, .ref lp]) (fun z st' v => ∃ c, v = .ref c ∧ Rep st' c (mapK T e)) := by
 cases e with
 | nm n => exact absurd rfl he
 | app e1 e2 =>
  obtain ⟨_, _, rfl, ⟨c1, rfl, r1⟩, ⟨c2, rfl, r2⟩⟩ := Fa.two hfa
  exact made_app H (R.le (by o_head qo)) hl r1 r2
 | neg t =>
  obtain ⟨_, rfl, ⟨c1, rfl, r1⟩⟩ := Fa.one hfa
  exact made_neg H (R.le (by o_head qo)) hl r1
 | qu b n t =>
  obtain ⟨v1, f1, I, V, R1⟩ := Rp.quI
  obtain ⟨_, rfl, ⟨c1, rfl, r1⟩⟩ := Fa.one hfa
  exact made_qu H R I V hl r1
 | bin o e1 e2 =>
  obtain ⟨_, _, rfl, ⟨c1, rfl, r1⟩, ⟨c2, rfl, r2⟩⟩ := Fa.two hfa
  have := made_op (o := o) (a := a) H (R.le (by o_head qo)) hl r1 r2
  cases o <;> exact this
theorem m_made_any (P) {e : Ex} (he : kids e ≠ []) : methB (hd.heap_39 P) (clsOf e) "_made" (madeF e) = true := by
 cases e with
 | nm n => exact absurd rfl he
 | app e1 e2 => exact m_made_app P
 | neg t => exact m_made_neg P
 | qu b n t => exact m_made_qu P b
 | bin o e1 e2 => have := m_made_op P o; cases o <;> exact this
theorem visitS {T : Ex → Ex} {e : Ex} {a f : Addr} {m : Nat} (he : kids e ≠ []) (H : At B st s) (R : Rm A (m + 20)) (Rp : Rep st a e) (hf : FnIn st f)
  (D1 : ∀ x ∈ kids e, ∀ st1 b, St.le st st1 → Rep st1 b x → Does B st1 (m + 12) f (.ref b) (fun st v => ∃ c, v = .ref c ∧ Rep st c (T x))) :
  Spec B A [] st s (call (.ref 275) [.ref a, .ref f]) (fun z st' v => ∃ c, v = .ref c ∧ Rep st' c (mapK T e)) := by
 refine' enterCells (n := m + 19) (binds := (lc "self" (.ref a) (lc "function" (.ref f) []))) (lb := (lc "function" (.ref f) [])) (cb := [("self", .ref a)]) (ps := ["self", "function"]) (lps := ["function"]) (cps := ["self"]) H R ?ho ?hcd ?hbind ?hS ?hps ?hbn ?hlb ?hlp ?hll ?hcb ?hcp ?hcc ?hall ?hco ?hgen ?_
 o_head m_enterC
 (try (case hbind => rcases hra with ⟨rfl, rfl⟩ | ⟨rfl, rfl⟩ | ⟨rfl, rfl, rfl⟩ | ⟨rfl, rfl, rfl⟩ <;> exact binds_K X rfl (by k_is) rfl rfl rfl))
 intro Q L s₁ env A' cl st₁ k le₁ N hcl CC R' F
 dsimp only at N
 replace R' : Rm A' (m + 19) := R'
 have hclo : closOf cl [("parts", NameKind.local), ("self", NameKind.free)] [] = some ([("self", L + 1)] : List (Str × Addr)) := by rw [hcl]; kernel_rfl
 o_head m_go
 refine Fx.callM ‹_› (Rep.methN (Rp.mono (Fx.old ‹_›)) (m_visit _ e)) ?_
 o_head m_go
 refine Fx.lam (c := 274) (P := 270) (q := "Expression.visit_structured.<locals>.<lambda>") ‹_› ‹_› (by decide +kernel) (by decide +kernel) (by kernel_rfl) (by rfl) (closureFor_of ‹_› hclo) fun f2 st2 s2 le2 kp2 La2 F2 => ?_
 o_head m_go
 have CC2 : Cells st2 [("self", L + 1)] [("self", .ref a)] := (CC.clos hclo (by decide) (cb' := [("self", .ref a)]) (List.forall_mem_cons.mpr ⟨⟨by o_head m_mem, by o_head m_mem⟩, fun z h => nomatch h⟩)).mono le2
 refine Fx.callA ‹_› (fun H2 => Spec.re H2 (visit_any (m := m + 12) (φ := fun x st v => ∃ c, v = .ref c ∧ Rep st c (T x)) (Ψ := fun st v => ∃ c, v = .ref c ∧ Rep st c (mapK T e)) he H2.re (R'.le (by o_head qo)) (Rp.mono F2.old) (hf.mono F2.old) La2.fn (fun x => keepsRep _) (keepsRep _) ?_ ?_)) fun v st3 s3 le3 F3 hv => ?_
 ·exact fun x hx b Rb => (D1 x hx st2 b F2.old Rb).re F2.at
 ·intro st3 lp vs le3 hl hfa st4 s4 A4 le4 H4 R4
  refine enterLam (n := m + 11) (binds := [("parts", .ref lp)]) (ps := ["parts"]) H4 R4 (La2.mono (le3.trans le4) fun z z e => e) ?_ ?_ ?_ ?_ ?_ ?_ ?_ ?_ fun Q5 L5 s5 env5 A5 cd5 k5 N5 R5 F5 => ?_
  ·intro pm cv ctv; exact BindsTo.of_eq rfl
  ·exact ⟨rfl, by decide, by decide⟩
  ·rfl
  ·decide
  ·decide
  ·decide
  ·rfl
  ·rfl
  have CC5 : Cells st4 [("self", L + 1)] [("self", .ref a)] := CC2.mono (le3.trans le4)
  have Rp5 : Rep st4 a e := (Rp.mono F2.old).mono (le3.trans le4)
  o_head m_go
  refine Fx.callM ‹_› (Rep.methN (Rp5.mono (Fx.old ‹_›)) (m_made_any _ he)) ?_
  o_head m_go
  refine Fx.callA ‹_› (fun H6 => made_any (T := T) he H6 (R5.le (by o_head qo)) (Rp5.mono (Fx.old ‹_›)) ((hl.mono le4).mono (Fx.old ‹_›)) ((hfa.mono (fun x => keepsRep _) le4).mono (fun x => keepsRep _) (Fx.old ‹_›))) fun v st6 s6 le6 F6 hv => ?_
  exact Fx.ret k5 F6 fun st7 le7 => (keepsRep _).k hv le7
 ·o_head m_go
  exact Fx.ret k F3 fun st4 le4 => (keepsRep _).k hv le4
theorem simp_exp {e : Ex} {a : Addr} {m : Nat} (he : kids e ≠ []) (H : At B st s) (R : Rm A (m + 24)) (Rp : Rep st a e)
  (IH : ∀ x ∈ kids e, ∀ (B' : Bs) st' s' A' b, B'.w = B.w → At B' st' s' → Rm A' (m + 1) → Rep st' b x → Spec B' A' [] st' s' (call (.ref (simpF x)) [.ref b]) (fun z st' v => ∃ c, v = .ref c ∧ Rep st' c x)) :
  Spec B A [] st s (call (.ref 308) [.ref a]) (fun z st' v => ∃ c, v = .ref c ∧ Rep st' c (mapK id e)) := by
 refine' enter (d := m + 23) (u := 8 * (m + 23)) (binds := (lc "self" (.ref a) [])) (ps := ["self"]) H (Rm.room R) ?ho ?hcd ?hbind ?hS ?hps ?hloc ?hbn ?hcell ?hco ?hgen ?_
 o_head m_enter
 intro Q L s₁ env A' k N R' F
 dsimp only at N
 replace R' : Rm A' (m + 23) := R'
 o_head m_go
 refine Fx.callM ‹_› (Rep.methN (Rp.mono (Fx.old ‹_›)) (m_visit_structured _ e)) ?_
 o_head m_go
 refine Fx.lam (c := 307) (P := 303) (q := "Expression.simplify.<locals>.<lambda>") ‹_› ‹_› (by decide +kernel) (by decide +kernel) (by kernel_rfl) (by rfl) (by with_unfolding_all rfl) fun f2 st2 s2 le2 kp2 La2 F2 => ?_
 o_head m_go
 refine Fx.callA ‹_› (fun H2 => Spec.re H2 (visitS (T := id) (m := m + 3) he H2.re (R'.le (by o_head qo)) (Rp.mono F2.old) La2.fn ?_)) fun v st3 s3 le3 F3 hv => ?_
 ·intro x hx st3 b le3 Rb st4 s4 A4 le4 H4 R4
  refine enterLam (n := m + 14) (binds := [("e", .ref b)]) (ps := ["e"]) H4 R4 (La2.mono (le3.trans le4) fun z z e => e) ?_ ?_ ?_ ?_ ?_ ?_ ?_ ?_ fun Q5 L5 s5 env5 A5 cd5 k5 N5 R5 F5 => ?_
  ·intro pm cv ctv; exact BindsTo.of_eq rfl
  ·exact ⟨rfl, by decide, by decide⟩
  ·rfl
  ·decide
  ·decide
  ·decide
  ·rfl
  ·rfl
  o_head m_go
  refine Fx.callM0 ‹_› (Rep.methN ((Rb.mono le4).mono (Fx.old ‹_›)) (m_simplify _ x)) ?_
  refine Fx.callA ‹_› (fun H5 => IH x hx _ _ _ _ b rfl H5 (R5.le (by o_head qo)) ((Rb.mono le4).mono (Fx.old ‹_›))) fun v st5 s5 le5 F5 hv => ?_
  exact Fx.ret k5 F5 fun st6 le6 => (keepsRep _).k hv le6
 ·o_head m_go
  exact Fx.ret k F3 fun st4 le4 => (keepsRep _).k hv le4
theorem mapK_id (e : Ex) : mapK id e = e := by cases e <;> rfl
theorem simp_app {e1 e2 : Ex} {a : Addr} {m : Nat} (H : At B st s) (R : Rm A (m + 8)) (Rp : Rep st a (.app e1 e2))
  (IH1 : ∀ (B' : Bs) st' s' A' b, B'.w = B.w → At B' st' s' → Rm A' (m + 1) → Rep st' b e1 → Spec B' A' [] st' s' (call (.ref (simpF e1)) [.ref b]) (fun z st' v => ∃ c, v = .ref c ∧ Rep st' c e1))
  (IH2 : ∀ (B' : Bs) st' s' A' b, B'.w = B.w → At B' st' s' → Rm A' (m + 1) → Rep st' b e2 → Spec B' A' [] st' s' (call (.ref (simpF e2)) [.ref b]) (fun z st' v => ∃ c, v = .ref c ∧ Rep st' c e2)) :
  Spec B A [] st s (call (.ref 348) [.ref a]) (fun z st' v => ∃ c, v = .ref c ∧ Rep st' c (.app e1 e2)) := by
 obtain ⟨f1, g1, I, R1, R2⟩ := Rp.appI
 refine' enter (d := m + 7) (u := 8 * (m + 7)) (binds := (lc "self" (.ref a) [])) (ps := ["self"]) H (Rm.room R) ?ho ?hcd ?hbind ?hS ?hps ?hloc ?hbn ?hcell ?hco ?hgen ?_
 o_head m_enter
 intro Q L s₁ env A' k N R' F
 dsimp only at N
 replace R' : Rm A' (m + 7) := R'
 o_head m_go
 refine Fx.callM0 ‹_› (Rep.methN (R1.mono (Fx.old ‹_›)) (m_simplify _ e1)) ?_
 refine Fx.callR ‹_› (fun H2 => IH1 _ _ _ _ _ rfl H2 (R'.le (by o_head qo)) (R1.mono (Fx.old ‹_›))) fun c1 st3 s3 le3 F3 Rc1 => ?_
 o_head m_go
 refine Fx.callM0 ‹_› (Rep.methN (R2.mono (Fx.old ‹_›)) (m_simplify _ e2)) ?_
 refine Fx.callR ‹_› (fun H2 => IH2 _ _ _ _ _ rfl H2 (R'.le (by o_head qo)) (R2.mono (Fx.old ‹_›))) fun c2 st4 s4 le4 F4 Rc2 => ?_
 have Rc1' := Rc1.mono le4
 o_head m_go
 refine Fx.callR ‹_› (fun H => mkApp H (R'.le (by o_head qo)) (by o_head m_R) (by o_head m_R)) fun c st2 s2 le2 F hc => ?_
 o_head m_go
 exact Fx.ret k F fun z le' => ⟨c, rfl, hc.mono le'⟩
theorem simp_all (e : Ex) : ∀ {B : Bs} {st : St} {s : Shared} {A : Around} {a : Addr}, At B st s → Rm A (24 * e.ht) → Rep st a e → Spec B A [] st s (call (.ref (simpF e)) [.ref a]) (fun z st' v => ∃ c, v = .ref c ∧ Rep st' c e) := by
 induction e with
 | nm n => intro B st s A a H R Rp; exact simp_nm H (R.le (by simp only [Ex.ht]; o_head qo)) Rp
 | app f g i1 i2 =>
  intro B st s A a H R Rp
  exact simp_app (m := 24 * max f.ht g.ht) H (R.le (by simp only [Ex.ht]; o_head qo)) Rp (fun B' st' s' A' b z H' R' Rb => i1 H' (R'.le (by o_head qo)) Rb) (fun B' st' s' A' b z H' R' Rb => i2 H' (R'.le (by o_head qo)) Rb)
 | neg t i1 =>
  intro B st s A a H R Rp
  have := simp_exp (e := .neg t) (m := 24 * t.ht) (by simp [kids]) H (R.le (by simp only [Ex.ht]; o_head qo)) Rp fun x hx B' st' s' A' b z H' R' Rb => by
   cases List.mem_singleton.mp hx
   exact i1 H' (R'.le (by o_head qo)) Rb
  rwa [mapK_id] at this
 | qu b n t i1 =>
  intro B st s A a H R Rp
  have := simp_exp (e := .qu b n t) (m := 24 * t.ht) (by simp [kids]) H (R.le (by simp only [Ex.ht]; o_head qo)) Rp fun x hx B' st' s' A' b z H' R' Rb => by
   cases List.mem_singleton.mp hx
   exact i1 H' (R'.le (by o_head qo)) Rb
  rwa [mapK_id] at this
 | bin o f g i1 i2 =>
  intro B st s A a H R Rp
  have := simp_exp (e := .bin o f g) (m := 24 * max f.ht g.ht) (by simp [kids]) H (R.le (by simp only [Ex.ht]; o_head qo)) Rp fun x hx B' st' s' A' b z H' R' Rb => by
   simp only [kids, List.mem_cons, List.not_mem_nil, or_false] at hx
   rcases hx with rfl | rfl
   ·exact i1 H' (R'.le (by o_head qo)) Rb
   ·exact i2 H' (R'.le (by o_head qo)) Rb
  rwa [mapK_id] at this
theorem counter_get {x dx : Addr} {es : List DictEntry} {n : Nat} {i : Int} {t : Tok} (H : At B st s) (hx : st x = some (instObj 46 dx)) (hq : s.heap.get? dx = some (dictOf es n)) (hnone : st dx = none) (hg : B.g.objs.size ≤ dx) (hE : Ents [("_value", .int i t)] es) (R : Rm A 2) :
  Spec B A [dx] st s (call (.ref 43) [.ref x]) (fun h' z v => ∃ t' n' es', v = .int (i + 1) t' ∧ h'.get? dx = some (dictOf es' n') ∧ Ents [("_value", .int (i + 1) t')] es') := by
 refine' enterM (n := 1) (binds := (lc "self" (.ref x) [])) (ps := ["self"]) H hq hnone hg R ?ho ?hcd ?hbind ?hS ?hps ?hloc ?hbn ?hcell ?hco ?hgen ?_
 o_head m_enter
 intro Q L s₁ env A' k N R' F
 dsimp only at N
 refine xs_cons ?_
 refine wpAny_AugAssign_AttributeAny ?_
 o_head m_go
 refine Fx.getO ‹_› (.head _) hx hE (f_46_value _) rfl rfl fun s2 F2 => ?_
 o_head m_go
 refine iadd_int ?_
 refine Fx.setO (Fx.toks ‹_›) hx (fld_set _ (by decide)) hE (Nat.le_of_ble_eq_true rfl) fun es3 n3 s3 hE3 F3 => ?_
 o_head m_go
 refine Fx.getO ‹_› (.head _) hx hE3 (f_46_value _) rfl rfl fun s4 F4 => ?_
 o_head m_go
 exact Fx.retM k F4 fun st' le => ⟨_, n3, es3, rfl, (F4.ow _ (.head _)).1, hE3⟩
theorem mkCounter (H : At B st s) (R : Rm A 3) : Spec B A [] st s (call (.ref 46) []) (fun z st' v => ∃ x dx, v = .ref x ∧ s.heap.objs.size ≤ dx ∧ st dx = none ∧ ∃ t, InstD st' x dx 46 [("_value", .int 0 t)]) := by
 refine Spec.imp (hle := fun b o e => Heap.lt_size (H.le b o e)) (Φ := fun z st' v => ∃ x dx, v = .ref x ∧ s.heap.objs.size ≤ dx ∧ st dx = none ∧ InstD st' x dx 46 [("_value", .int 0 208)]) ?_ fun z st' v le hv => by
  obtain ⟨x, dx, h1, h2, h3, h4⟩ := hv; exact ⟨x, dx, h1, h2, h3, _, h4⟩
 refine' makeN (n := 1) (fI := 36) (args := []) (binds := fun a => [("self", .ref a), ("initial_value", .int 0 208)]) (ps := ["self", "initial_value"]) H R (mk_core (mk_46 _)) ?ho ?hcd ?hbind ?hS ?hps ?hloc ?hbn ?hcell ?hco ?hgen ?_
 o_head m_enter
 case hbind => intro x s' X; exact binds_K X rfl (by k_is) rfl rfl rfl
 intro Q L s' s₁ env A' a dx st' le hx N R' F k
 have hE : Ents [] [] := trivial
 dsimp only at N
 o_head m_go
 exact k _ _ _ _ _ _ (by assumption) (by assumption)
set_option tactic.hygienic true in
theorem unique_spec {a ig : Addr} {vs : List Value} {k : Nm} {ns : List Nm} (H : At B st s) (R : Rm A 12) (V : VarAt st a k) (hk : k.isVar = true) (hl : Lst st ig vs) (hv : Vs st vs ns) (hn : ns.any (· == .z1) = false) :
  Spec B A [] st s (call (.ref 138) [.ref a, .ref ig]) (fun z st' v => ∃ b, v = .ref b ∧ VarAt st' b .z1) := by
 have X := H.ok.X.keeps H.inv.base
 refine' enter (d := 11) (u := 8 * (11)) (binds := (lc "pattern" (.ref a) (lc "ignore" (.ref ig) (lc "counter" (.none) [])))) (ps := ["pattern", "ignore", "counter"]) H (Rm.room R) ?ho ?hcd ?hbind ?hS ?hps ?hloc ?hbn ?hcell ?hco ?hgen ?_
 o_head m_enter
 case hbind =>  exact binds_K X rfl (by k_is) rfl rfl rfl
 intro Q L s₁ env A' k N R' F
 dsimp only at N
 replace R' : Rm A' (11) := R'
 o_head m_go
 refine Fx.callV ‹_› (fun H => is_indvar_spec H (R'.le (by o_head qo))) fun st2 s2 le2 F2 => ?_
 rw [hk]
 o_head m_go
 refine Fx.callA ‹_› (fun H => mkCounter H (R'.le (by o_head qo))) fun v st3 s3 le3 F3 hv3 => ?_
 obtain ⟨x, dx, rfl, hsz, hnone, t, n, es, hx, hdx, hE⟩ := hv3
 have hst0 : st dx = none := by
  cases q : st dx with
  | none => rfl
  | some o => rw [le2 _ _ q] at hnone; cases hnone
 have F4 := F3.thaw hdx hst0 (Nat.le_trans (Fx.ext ‹Fx B [] s st st2 L [] _ _›).2 hsz)
 have hxd : x ≠ dx := fun q => by rw [q, hdx] at hx; cases hx
 have hx4 : (st3.cut dx) x = some (instObj 46 dx) := by rw [St.cut_ne hxd]; exact hx
 have le4 : St.le st2 (st3.cut dx) := St.cut_le le3 hnone
 clear F3
 o_head m_go
 refine Fx.store [("prefix", _), ("pattern", .ref a), ("ignore", .ref ig)] ‹_› ‹_› (by o_head m_mem) (by o_head m_st) fun s5 F5 => ?_
 o_head m_go
 refine JoinedStr_many ?_
 refine joinParts_cons ?_
 refine FormattedValue_plain ?_
 o_head m_go
 refine formatField_str (fun t' tk => ?_) (by decide +kernel)
 refine ⟨by decide +kernel, ?_⟩
 refine joinParts_cons ?_
 refine FormattedValue_plain ?_
 have F6 := F5.toks (t := tk)
 o_head m_go
 refine Fx.methodO F6 (.head _) hx4 hE (m_get _) rfl ?_
 refine callWith_K0 (Fx.X ‹_›) (meth_keep (m_get _)) ?_
 refine Fx.callM1 F6 (fun H7 => counter_get H7 hx4 F6.ow1 F6.ow2 F6.ow5 hE (R'.le (by o_head qo))) fun v st7 s7 le7 mk hv7 => ?_
 obtain ⟨t7, n7, es7, rfl, ho7, hE7⟩ := hv7
 have F7 := mk _ ho7
 refine wpAny_formatField_int (by decide) ?_
 refine ⟨by decide +kernel, ?_⟩
 refine joinParts_nil ?_ (by decide +kernel)
 have F8 := F7.toks (t := s7.toks + 1 + 1 + 1)
 o_head m_go
 refine Fx.callR (Fx.toks (Fx.toks F7)) (fun H => mkVar H (R'.le (by o_head qo))) fun b st9 s9 le9 F9 Ib => ?_
 have Vb : VarAt st9 b .z1 := ⟨_, Ib⟩
 o_head m_go
 refine wpAny_While ?_
 rename_i s10 F10 _ _ _
 refine codeAny_whileLoop (fun n s' => s' = s10) ?_ 0 rfl
 rintro n s' rfl
 o_head m_go
 refine Fx.inV ‹_› (R'.le (by o_head qo)) ((hl.mono (Fx.old ‹_›)).la) (hv.mono (Fx.old ‹_›)) Vb fun st11 s11 le11 F11 => ?_
 rw [hn]
 o_head m_go
 exact Fx.ret k F11 fun st' le' => ⟨b, rfl, (Vb.mono le11).mono le'⟩
noncomputable def rT (n : Nat) (m : Nm) (x : Ex) (rb : Bool) (y : Ex) : Ex := (replO n y m x rb).getD y
theorem rT_of {n : Nat} {m : Nm} {x y r : Ex} {rb : Bool} (h : replO n y m x rb = some r) : rT n m x rb y = r := by unfold rT; rw [h]; rfl
theorem replO_kids {n : Nat} {e : Ex} {m : Nm} {x r : Ex} {rb : Bool} (h : replO (n + 1) e m x rb = some r) (hk : kids e ≠ []) (hq : ∀ b k t, e ≠ .qu b k t) :
  (∀ y ∈ kids e, replO n y m x rb = some (rT n m x rb y)) ∧ mapK (rT n m x rb) e = r := by
 cases e with
 | nm k => exact absurd rfl hk
 | qu b k t => exact absurd rfl (hq b k t)
 | app f a =>
  obtain ⟨f', a', h1, h2, rfl⟩ := ex2_some h
  refine ⟨List.forall_mem_cons.mpr ⟨by rw [rT_of h1]; exact h1, List.forall_mem_cons.mpr ⟨by rw [rT_of h2]; exact h2, fun z h => nomatch h⟩⟩, by show Ex.app _ _ = _; rw [rT_of h1, rT_of h2]⟩
 | bin o f a =>
  obtain ⟨f', a', h1, h2, rfl⟩ := ex2_some h
  refine ⟨List.forall_mem_cons.mpr ⟨by rw [rT_of h1]; exact h1, List.forall_mem_cons.mpr ⟨by rw [rT_of h2]; exact h2, fun z h => nomatch h⟩⟩, by show Ex.bin _ _ _ = _; rw [rT_of h1, rT_of h2]⟩
 | neg t =>
  obtain ⟨t', h1, rfl⟩ := Option.map_eq_some_iff.mp h
  exact ⟨List.forall_mem_cons.mpr ⟨by rw [rT_of h1]; exact h1, fun z h => nomatch h⟩, by show Ex.neg _ = _; rw [rT_of h1]⟩
theorem kids_ht {e y : Ex} {n : Nat} (h : e.ht ≤ n + 1) (hy : y ∈ kids e) : y.ht ≤ n := by
 cases e with
 | nm k => cases hy
 | app f a => simp only [kids, List.mem_cons, List.not_mem_nil, or_false] at hy; simp only [Ex.ht] at h; rcases hy with rfl | rfl <;> o_head qo
 | bin o f a => simp only [kids, List.mem_cons, List.not_mem_nil, or_false] at hy; simp only [Ex.ht] at h; rcases hy with rfl | rfl <;> o_head qo
 | neg t => simp only [kids, List.mem_cons, List.not_mem_nil, or_false] at hy; simp only [Ex.ht] at h; subst hy; o_head qo
 | qu b k t => simp only [kids, List.mem_cons, List.not_mem_nil, or_false] at hy; simp only [Ex.ht] at h; subst hy; o_head qo
noncomputable def ReplOk (n : Nat) : Prop := ∀ {B : Bs} {st : St} {s : Shared} {A : Around} {a v x : Addr} {e ex r : Ex} {m : Nm} {rb : Bool} {args : List Value} {kw : List (Str × Value)}, At B st s → Rm A (24 * n + 200) → RA a v x rb args kw → Rep st a e → VarAt st v m → Rep st x ex →
 e.ht ≤ n → ex.ht ≤ 6 → replO n e m ex rb = some r → Spec B A [] st s (call (.ref (replF e)) args kw) (fun z st' w => ∃ c, w = .ref c ∧ Rep st' c r)
theorem repl_exp {n : Nat} (IH : ReplOk n) {a v x : Addr} {e ex r : Ex} {m : Nm} {rb : Bool} {args : List Value} {kw : List (Str × Value)} (H : At B st s) (R : Rm A (24 * n + 224)) (hra : RA a v x rb args kw) (Rp : Rep st a e) (V : VarAt st v m) (Rx : Rep st x ex)
  (he : e.ht ≤ n + 1) (hx6 : ex.ht ≤ 6) (hk : kids e ≠ []) (hq : ∀ b k t, e ≠ .qu b k t) (hr : replO (n + 1) e m ex rb = some r) :
  Spec B A [] st s (call (.ref 261) args kw) (fun z st' w => ∃ c, w = .ref c ∧ Rep st' c r) := by
 obtain ⟨hkids, rfl⟩ := replO_kids hr hk hq
 have X := H.ok.X.keeps H.inv.base
 refine' enterCells (n := 24 * n + 223) (binds := (lc "self" (.ref a) (lc "variable" (.ref v) (lc "expression" (.ref x) (lc "replace_bound" (.bool rb) (lc "alpha_convert" (.bool true) [])))))) (lb := (lc "self" (.ref a) [])) (cb := [("variable", .ref v), ("expression", .ref x), ("replace_bound", .bool rb), ("alpha_convert", .bool true)]) (ps := ["self", "variable", "expression", "replace_bound", "alpha_convert"]) (lps := ["self"]) (cps := ["variable", "expression", "replace_bound", "alpha_convert"]) H R ?ho ?hcd ?hbind ?hS ?hps ?hbn ?hlb ?hlp ?hll ?hcb ?hcp ?hcc ?hall ?hco ?hgen ?_
 o_head m_enterC
 (try (case hbind => rcases hra with ⟨rfl, rfl⟩ | ⟨rfl, rfl⟩ | ⟨rfl, rfl, rfl⟩ | ⟨rfl, rfl, rfl⟩ <;> exact binds_K X rfl (by k_is) rfl rfl rfl))
 intro Q L s₁ env A' cl st₁ k le₁ N hcl CC R' F
 dsimp only at N
 replace R' : Rm A' (24 * n + 223) := R'
 o_head m_go
 refine Fx.callM ‹_› (Rep.methN (Rp.mono (Fx.old ‹_›)) (m_visit_structured _ e)) ?_
 o_head m_go
 obtain ⟨clos, hclo⟩ := Option.isSome_iff_exists.mp (show (closOf cl [("e", NameKind.local), ("alpha_convert", NameKind.free), ("expression", NameKind.free), ("replace_bound", NameKind.free), ("variable", NameKind.free)] []).isSome = true by rw [hcl]; kernel_rfl)
 have CC1 : Cells st₁ clos [("variable", .ref v), ("expression", .ref x), ("replace_bound", .bool rb), ("alpha_convert", .bool true)] := CC.clos hclo (by decide) (List.forall_mem_cons.mpr ⟨⟨by o_head m_mem, by o_head m_mem⟩, List.forall_mem_cons.mpr ⟨⟨by o_head m_mem, by o_head m_mem⟩, List.forall_mem_cons.mpr ⟨⟨by o_head m_mem, by o_head m_mem⟩, List.forall_mem_cons.mpr ⟨⟨by o_head m_mem, by o_head m_mem⟩, List.forall_mem_nil _⟩⟩⟩⟩)
 refine Fx.lam (c := 260) (P := 256) (q := "Expression.replace.<locals>.<lambda>") ‹_› ‹_› (by decide +kernel) (by decide +kernel) (by kernel_rfl) (by rfl) (closureFor_of ‹_› hclo) fun f2 st2 s2 le2 kp2 La2 F2 => ?_
 o_head m_go
 refine Fx.callA ‹_› (fun H2 => Spec.re H2 (visitS (T := rT n m ex rb) (m := 24 * n + 203) hk H2.re (R'.le (by o_head qo)) (Rp.mono F2.old) La2.fn ?_)) fun v st3 s3 le3 F3 hv => ?_
 ·intro y hy st3 b le3 Rb st4 s4 A4 le4 H4 R4
  refine enterLam (n := 24 * n + 214) (binds := [("e", .ref b)]) (ps := ["e"]) H4 R4 (La2.mono (le3.trans le4) fun z z e => e) ?_ ?_ ?_ ?_ ?_ ?_ ?_ ?_ fun Q5 L5 s5 env5 A5 cd5 k5 N5 R5 F5 => ?_
  ·intro pm cv ctv; exact BindsTo.of_eq rfl
  ·exact ⟨rfl, by decide, by decide⟩
  ·rfl
  ·decide
  ·decide
  ·decide
  ·rfl
  ·rfl
  have CC4 := CC1.mono (le2.trans (le3.trans le4))
  have Rx4 : Rep st4 x ex := ((Rx.mono F2.old).mono le3).mono le4
  have V4 : VarAt st4 v m := ((V.mono F2.old).mono le3).mono le4
  have Rb4 := Rb.mono le4
  o_head m_go
  refine Fx.callM ‹_› (Rep.methN (Rb4.mono (Fx.old ‹_›)) (m_replace _ y)) ?_
  o_head m_go
  refine Fx.callA ‹_› (fun H6 => IH (rb := rb) (v := v) (x := x) H6 (R5.le (by o_head qo)) (.inl ⟨rfl, rfl⟩) (Rb4.mono (Fx.old ‹_›)) (V4.mono (Fx.old ‹_›)) (Rx4.mono (Fx.old ‹_›)) (kids_ht he hy) hx6 (hkids y hy)) fun v st6 s6 le6 F6 hv => ?_
  exact Fx.ret k5 F6 fun st7 le7 => (keepsRep _).k hv le7
 ·o_head m_go
  exact Fx.ret k F3 fun st4 le4 => (keepsRep _).k hv le4
theorem alpha_spec {n : Nat} (IH : ReplOk n) {a nv : Addr} {b : Bool} {k j : Nm} {t t1 : Ex} (H : At B st s) (R : Rm A (24 * n + 204)) (Rp : Rep st a (.qu b k t)) (V : VarAt st nv j) (ht : t.ht ≤ n) (hr : replO n t k (.nm j) true = some t1) :
  Spec B A [] st s (call (.ref 613) [.ref a, .ref nv]) (fun z st' w => ∃ c, w = .ref c ∧ Rep st' c (.qu b j t1)) := by
 obtain ⟨kv, ta, I, Vk, Rt⟩ := Rp.quI
 refine' enter (d := 24 * n + 203) (u := 8 * (24 * n + 203)) (binds := (lc "self" (.ref a) (lc "newvar" (.ref nv) []))) (ps := ["self", "newvar"]) H (Rm.room R) ?ho ?hcd ?hbind ?hS ?hps ?hloc ?hbn ?hcell ?hco ?hgen ?_
 o_head m_enter
 intro Q L s₁ env A' k N R' F
 dsimp only at N
 replace R' : Rm A' (24 * n + 203) := R'
 o_head m_go
 refine Fx.callM ‹_› ((I.mono (Fx.old ‹_›)).meth (m_binder _ b) rfl) ?_
 o_head m_go
 refine Fx.callM ‹_› (Rep.methN (Rt.mono (Fx.old ‹_›)) (m_replace _ t)) ?_
 o_head m_go
 refine Fx.callR ‹_› (fun H => varExpr_spec H (R'.le (by o_head qo)) (V.mono (Fx.old ‹_›))) fun xa st2 s2 le2 F2 Rx => ?_
 o_head m_go
 refine Fx.callR ‹_› (fun H => IH (rb := true) H (R'.le (by o_head qo)) (.inr (.inl ⟨rfl, rfl⟩)) (Rt.mono (Fx.old ‹_›)) (Vk.mono (Fx.old ‹_›)) Rx ht (show (1 : Nat) ≤ 6 by decide) hr) fun c1 st3 s3 le3 F3 R1 => ?_
 o_head m_go
 refine Fx.callA ‹_› (fun H => binder_spec H (R'.le (by o_head qo)) (V.mono (Fx.old ‹_›)) R1) fun v st4 s4 le4 F4 hv => ?_
 o_head m_go
 exact Fx.ret k F4 fun st5 le5 => (keepsRep _).k hv le5
set_option tactic.hygienic true in
theorem repl_qu {n : Nat} (IH : ReplOk n) {a v x : Addr} {b : Bool} {kn : Nm} {t ex r : Ex} {m : Nm} {rb : Bool} {args : List Value} {kw : List (Str × Value)} (H : At B st s) (R : Rm A (24 * n + 224)) (hra : RA a v x rb args kw) (Rp : Rep st a (.qu b kn t)) (V : VarAt st v m) (Rx : Rep st x ex)
  (ht : t.ht ≤ n) (hx6 : ex.ht ≤ 6) (hr : replO (n + 1) (.qu b kn t) m ex rb = some r) :
  Spec B A [] st s (call (.ref 606) args kw) (fun z st' w => ∃ c, w = .ref c ∧ Rep st' c r) := by
 obtain ⟨kv, ta, I, Vk, Rt⟩ := Rp.quI
 rw [replO_quE] at hr
 have X := H.ok.X.keeps H.inv.base
 refine' enter (d := 24 * n + 223) (u := 8 * (24 * n + 223)) (binds := (lc "self" (.ref a) (lc "variable" (.ref v) (lc "expression" (.ref x) (lc "replace_bound" (.bool rb) (lc "alpha_convert" (.bool true) [])))))) (ps := ["self", "variable", "expression", "replace_bound", "alpha_convert"]) H (Rm.room R) ?ho ?hcd ?hbind ?hS ?hps ?hloc ?hbn ?hcell ?hco ?hgen ?_
 o_head m_enter
 case hbind => rcases hra with ⟨rfl, rfl⟩ | ⟨rfl, rfl⟩ | ⟨rfl, rfl, rfl⟩ | ⟨rfl, rfl, rfl⟩ <;> exact binds_K X rfl (by k_is) rfl rfl rfl
 intro Q L s₁ env A' k N R' F
 dsimp only at N
 replace R' : Rm A' (24 * n + 223) := R'
 o_head m_go
 cases hkm : (kn == m) with
 | true =>
  rw [if_pos hkm] at hr
  o_head m_go
  cases rb with
  | false =>
   rw [if_neg (by decide)] at hr
   cases hr
   o_head m_go
   exact Fx.ret k ‹_› fun st2 le2 => ⟨a, rfl, Rp.mono ((Fx.old ‹_›).trans le2)⟩
  | true =>
   rw [if_pos rfl] at hr
   split at hr
   ·rename_i j t' hrt
    cases hr
    obtain ⟨jv, Ij, Vj⟩ := Rx.nmI
    o_head m_go
    refine Fx.callM ‹_› ((I.mono (Fx.old ‹_›)).meth (m_binder _ b) rfl) ?_
    o_head m_go
    refine Fx.callM ‹_› (Rep.methN (Rt.mono (Fx.old ‹_›)) (m_replace _ t)) ?_
    o_head m_go
    refine Fx.callR ‹_› (fun H => IH (rb := true) H (R'.le (by o_head qo)) (.inl ⟨rfl, rfl⟩) (Rt.mono (Fx.old ‹_›)) (V.mono (Fx.old ‹_›)) (Rx.mono (Fx.old ‹_›)) ht hx6 hrt) fun c1 st3 s3 le3 F3 R1 => ?_
    o_head m_go
    refine Fx.callA ‹_› (fun H => binder_spec H (R'.le (by o_head qo)) (Vj.mono (Fx.old ‹_›)) R1) fun v st4 s4 le4 F4 hv => ?_
    o_head m_go
    exact Fx.ret k F4 fun st5 le5 => (keepsRep _).k hv le5
   ·cases hr
 | false =>
  rw [if_neg (by rw [hkm]; decide)] at hr
  o_head m_go
  refine Fx.callM0 ‹_› (Rep.methN (Rx.mono (Fx.old ‹_›)) (m_free _ ex)) ?_
  refine Fx.callA ‹_› (fun H => free_all ex H (R'.le (by o_head qo)) (Rx.mono (Fx.old ‹_›))) fun w st3 s3 le3 F3 hw => ?_
  obtain ⟨fl, fvs, rfl, hfl, hfvs⟩ := hw
  o_head m_go
  refine Fx.inV ‹_› (R'.le (by o_head qo)) hfl.la hfvs (Vk.mono (Fx.old ‹_›)) fun st4 s4 le4 F4 => ?_
  cases hin : ex.free.any (· == kn) with
  | false =>
   rw [if_neg (by rw [hin]; decide)] at hr
   split at hr
   ·rename_i t' hrt
    cases hr
    o_head m_go
    refine Fx.callM ‹_› ((I.mono (Fx.old ‹_›)).meth (m_binder _ b) rfl) ?_
    o_head m_go
    refine Fx.callM ‹_› (Rep.methN (Rt.mono (Fx.old ‹_›)) (m_replace _ t)) ?_
    o_head m_go
    refine Fx.callR ‹_› (fun H => IH (rb := rb) H (R'.le (by o_head qo)) (.inl ⟨rfl, rfl⟩) (Rt.mono (Fx.old ‹_›)) (V.mono (Fx.old ‹_›)) (Rx.mono (Fx.old ‹_›)) ht hx6 hrt) fun c1 st5 s5 le5 F5 R1 => ?_
    o_head m_go
    refine Fx.callA ‹_› (fun H => binder_spec H (R'.le (by o_head qo)) (Vk.mono (Fx.old ‹_›)) R1) fun v st6 s6 le6 F6 hv => ?_
    o_head m_go
    exact Fx.ret k F6 fun st7 le7 => (keepsRep _).k hv le7
   ·cases hr
  | true =>
   rw [if_pos hin] at hr
   cases hz : (unionN [[m], t.free, ex.free]).any (· == .z1) with
   | true => rw [if_pos hz] at hr; cases hr
   | false =>
    rw [if_neg (by rw [hz]; decide)] at hr
    split at hr
    ·rename_i t1 hr1
     split at hr
     ·rename_i t' hrt
      cases hr
      have hkv : kn.isVar = true := free_isVar (any_beq.mp hin)
      o_head m_go
      refine Fx.lstS ‹_› (Nat.le_of_ble_eq_true rfl) fun l1 st5 s5 le5 hl1 F5 => ?_
      o_head m_go
      refine Fx.callM0 ‹_› (Rep.methN (Rt.mono (Fx.old ‹_›)) (m_free _ t)) ?_
      refine Fx.callA ‹_› (fun H => free_all t H (R'.le (by o_head qo)) (Rt.mono (Fx.old ‹_›))) fun w6 st6 s6 le6 F6 hw6 => ?_
      o_head m_go
      refine Fx.callM0 ‹_› (Rep.methN (Rx.mono (Fx.old ‹_›)) (m_free _ ex)) ?_
      refine Fx.callA ‹_› (fun H => free_all ex H (R'.le (by o_head qo)) (Rx.mono (Fx.old ‹_›))) fun w7 st7 s7 le7 F7 hw7 => ?_
      o_head m_go
      refine Fx.lstS ‹_› (Nat.le_of_ble_eq_true rfl) fun l8 st8 s8 le8 hl8 F8 => ?_
      o_head m_go
      refine Fx.callA ‹_› (fun H => union_spec (nss := [[m], t.free, ex.free]) H (R'.le (by o_head qo)) hl8 ⟨(Vars.one hl1 ((V.mono (Fx.old F5)))).mono (le6.trans (le7.trans le8)), hw6.mono (le7.trans le8), hw7.mono le8, trivial⟩) fun w9 st9 s9 le9 F9 hw9 => ?_
      obtain ⟨tl, tvs, rfl, htl, htvs⟩ := hw9
      o_head m_go
      refine Fx.callM ‹_› ((I.mono (Fx.old ‹_›)).meth (m_alpha _ b) rfl) ?_
      o_head m_go
      refine Fx.callR ‹_› (fun H => unique_spec H (R'.le (by o_head qo)) (Vk.mono (Fx.old ‹_›)) hkv htl htvs hz) fun nv st10 s10 le10 F10 Vn => ?_
      o_head m_go
      refine Fx.callR ‹_› (fun H => alpha_spec IH H (R'.le (by o_head qo)) (Rp.mono (Fx.old ‹_›)) Vn ht hr1) fun bi st11 s11 le11 F11 Rb => ?_
      obtain ⟨zv, tb, Ib, Vb, Rtb⟩ := Rb.quI
      o_head m_go
      refine Fx.store [("taken", .ref tl), ("self", .ref a), ("variable", .ref v), ("expression", .ref x), ("replace_bound", .bool rb), ("alpha_convert", .bool true)] ‹_› ‹_› (by o_head m_mem) (by o_head m_st) fun s12 F12 => ?_
      o_head m_go
      refine Fx.callM ‹_› ((I.mono (Fx.old ‹_›)).meth (m_binder _ b) rfl) ?_
      o_head m_go
      refine Fx.callM ‹_› (Rep.methN Rtb (m_replace _ t1)) ?_
      o_head m_go
      refine Fx.callR ‹_› (fun H => IH (rb := rb) H (R'.le (by o_head qo)) (.inl ⟨rfl, rfl⟩) Rtb (V.mono (Fx.old ‹_›)) (Rx.mono (Fx.old ‹_›)) (by rw [replO_nm_ht n hr1]; exact ht) hx6 hrt) fun c1 st13 s13 le13 F13 R1 => ?_
      o_head m_go
      refine Fx.callA ‹_› (fun H => binder_spec H (R'.le (by o_head qo)) (Vb.mono le13) R1) fun v st14 s14 le14 F14 hv => ?_
      o_head m_go
      exact Fx.ret k F14 fun st15 le15 => (keepsRep _).k hv le15
     ·cases hr
    ·cases hr
theorem repl_all (n : Nat) : ReplOk n := by
 induction n with
 | zero => intro B st s A a v x e ex r m rb args kw H R hra Rp V Rx he hx6 hr; cases hr
 | succ n IH =>
  intro B st s A a v x e ex r m rb args kw H R hra Rp V Rx he hx6 hr
  cases e with
  | nm k =>
   rw [replO_nmE] at hr
   cases hr
   exact repl_nm H (R.le (by o_head qo)) hra Rp V Rx
  | qu b k t => exact repl_qu IH H (R.le (by o_head qo)) hra Rp V Rx (by simp only [Ex.ht] at he; o_head qo) hx6 hr
  | app f g => exact repl_exp IH H (R.le (by o_head qo)) hra Rp V Rx he hx6 (by simp [kids]) (fun z z z h => nomatch h) hr
  | neg t => exact repl_exp IH H (R.le (by o_head qo)) hra Rp V Rx he hx6 (by simp [kids]) (fun z z z h => nomatch h) hr
  | bin o f g => exact repl_exp IH H (R.le (by o_head qo)) hra Rp V Rx he hx6 (by simp [kids]) (fun z z z h => nomatch h) hr
set_option maxHeartbeats 0
set_option hygiene false
local macro_rules | `(tactic| o_head m_ev) => `(tactic| with_reducible first | refine slice_any ?_ | refine item_any ?_ | refine wpAny_BinOp ?_)
local macro_rules | `(tactic| o_head m_ex) => `(tactic| with_reducible refine z36 ?_)
local macro_rules | `(tactic| o_head m_bi) => `(tactic| with_reducible first | refine z50 fun _ _ _ => ?_ | refine z51 fun _ _ _ => ?_ | refine z52 fun _ _ _ => ?_ | refine z53 fun _ _ _ => ?_)
local macro_rules | `(tactic| o_head m_cm) => `(tactic| with_reducible first | refine z54 ?_ | refine z55 ?_)
set_option hygiene true
set_option maxHeartbeats 4000000
theorem nm_q (n : Nm) (t u : Tok) : (([("?", t), ("@", u)] : List (Str × Tok)).any fun x => x.1 == Txt.slice n.str none (some 1)) = false := by
 have h : (([("?", 0), ("@", 0)] : List (Str × Tok)).any fun x => x.1 == Txt.slice n.str none (some 1)) = false := by cases n <;> decide +kernel
 simpa only [List.any_cons, List.any_nil] using h
set_option tactic.hygienic true in
theorem vars_spec {e : Ex} {a : Addr} (H : At B st s) (R : Rm A (16 * e.ht + 20)) (Rp : Rep st a e) : Spec B A [] st s (call (.ref 280) [.ref a]) (fun z st' v => Vars st' v e.vars) := by
 refine' enter (d := 16 * e.ht + 19) (u := 8 * (16 * e.ht + 19)) (binds := (lc "self" (.ref a) [])) (ps := ["self"]) H (Rm.room R) ?ho ?hcd ?hbind ?hS ?hps ?hloc ?hbn ?hcell ?hco ?hgen ?_
 o_head m_enter
 intro Q L s₁ env A' k N R' F
 dsimp only at N
 replace R' : Rm A' (16 * e.ht + 19) := R'
 o_head m_go
 refine Fx.callM0 ‹_› (Rep.methN (Rp.mono (Fx.old ‹_›)) (m_free _ e)) ?_
 refine Fx.callA ‹_› (fun H2 => free_all e H2 (R'.le (by o_head qo)) (Rp.mono (Fx.old ‹_›))) fun w1 st1 s1 le1 F1 hw1 => ?_
 o_head m_go
 refine comp_mk [] ‹_› rfl rfl (by decide) ?_
 o_head m_go
 refine Fx.callM0 ‹_› (Rep.methN (Rp.mono (Fx.old ‹_›)) (m_predicates _ e)) ?_
 refine Fx.callA ‹_› (fun H2 => pred_all e H2 (R'.le (by o_head qo)) (Rp.mono (Fx.old ‹_›))) fun w2 st2 s2 le2 F2 hw2 => ?_
 o_head m_go
 refine Fx.callM0 ‹_› (Rep.methN (Rp.mono (Fx.old ‹_›)) (m_constants _ e)) ?_
 refine Fx.callA ‹_› (fun H2 => const_all e H2 (R'.le (by o_head qo)) (Rp.mono (Fx.old ‹_›))) fun w3 st3 s3 le3 F3 hw3 => ?_
 o_head m_go
 refine Fx.lstS ‹_› (Nat.le_of_ble_eq_true rfl) fun l4 st4 s4 le4 hl4 F4 => ?_
 o_head m_go
 refine Fx.callA ‹_› (fun H2 => union_spec (nss := [e.preds, e.consts]) H2 (R'.le (by o_head qo)) hl4 ⟨hw2.mono (le3.trans le4), hw3.mono le4, trivial⟩) fun w5 st5 s5 le5 F5 hw5 => ?_
 obtain ⟨l5, vs5, rfl, hl5, hv5⟩ := hw5
 refine Fx.compL (fun i st' us => us = ([] : List Value)) F5 N R'.hh ⟨rfl, by decide, by decide⟩ (by decide) (by decide) (by decide) hl5 (by have := hv5.len; have := nm_len (union_nodup [e.preds, e.consts]); o_head qo) rfl ?_ ?_
 ·rintro i x st6 us C env6 ow s6 E6 hx le6 rfl N6 F6
  replace N6 : En env6 C [(".0", NameKind.local), ("p", NameKind.local)] [] _ _ := N6
  obtain ⟨k, kb, hk, rfl, Vk⟩ := (hv5.mono le6).get' hx
  refine tests_one ?_
  o_head m_go
  rename_i t7 s7 F7
  refine Fx.slc none (some (1, t7)) F7 (by have := nm_len100 k; rw [sizeLine_eq]; o_head qo) fun t8 s8 F8 => ?_
  o_head m_go
  refine Fx.lstS ‹_› (Nat.le_of_ble_eq_true rfl) fun l9 st9 s9 le9 hl9 F9 => ?_
  refine Fx.inStrs (xs := [("?", _), ("@", _)]) F9 hl9.la ?_
  simp only [Option.map_some, Option.map_none]
  rw [nm_q]
  o_head m_go
  exact ⟨st9, le9, F9, trivial⟩
 ·rintro st6 us n6 D s6 le6 rfl F6
  o_head m_go
  obtain ⟨le7, F7⟩ := Fx.freeze F6 F6.ow4
  refine Fx.lstS F7 (Nat.le_of_ble_eq_true rfl) fun l8 st8 s8 le8 hl8 F8 => ?_
  o_head m_go
  refine Fx.callA ‹_› (fun H2 => union_spec (nss := [e.free, []]) H2 (R'.le (by o_head qo)) hl8 ⟨hw1.mono (le2.trans (le3.trans (le4.trans (le5.trans (le6.trans (le7.trans le8)))))), ⟨D, [], rfl, ⟨n6, le8 _ _ St.put_self⟩, trivial⟩, trivial⟩) fun w9 st9 s9 le9 F9 hw9 => ?_
  o_head m_go
  exact Fx.ret k F9 fun st10 le10 => hw9.mono le10
theorem Fx.callRB {A₁ : Around} {t : Sem Value} {bx : Addr} {o : Obj} {P : St → Addr → Prop} {c' : Int} {Q E : Value → Shared → Prop} (F : Fx B md s₀ st₀ st L ((bx, o) :: own) l s) (C : At B st s → Spec B A₁ [bx] st s t (fun h' st' v => ∃ a o', v = .ref a ∧ P st' a ∧ h'.get? bx = some o' ∧ BoxO o' c'))
  (h : ∀ a o' st' s', St.le st st' → Fx B md s₀ st₀ st' L ((bx, o') :: own) l s' → P st' a → BoxO o' c' → Q (.ref a) s') : wpAny (model B.prog B.w) A₁ t Q E s := by
 refine Fx.callM1 F C fun v st' s' le mk hv => ?_
 obtain ⟨a, o', rfl, p, ho, hb⟩ := hv
 exact h a o' st' s' le (mk _ ho) p hb
theorem Fx.callTB {A₁ : Around} {t : Sem Value} {bx : Addr} {o : Obj} {i c' : Int} {Q E : Value → Shared → Prop} (F : Fx B md s₀ st₀ st L ((bx, o) :: own) l s) (C : At B st s → Spec B A₁ [bx] st s t (fun h' z v => ∃ u o', v = .int i u ∧ h'.get? bx = some o' ∧ BoxO o' c'))
  (h : ∀ u o' st' s', St.le st st' → Fx B md s₀ st₀ st' L ((bx, o') :: own) l s' → BoxO o' c' → Q (.int i u) s') : wpAny (model B.prog B.w) A₁ t Q E s := by
 refine Fx.callM1 F C fun v st' s' le mk hv => ?_
 obtain ⟨u, o', rfl, ho, hb⟩ := hv
 exact h u o' st' s' le (mk _ ho) hb
theorem take_spec {bx : Addr} {o : Obj} {c many : Int} {tm : Tok} (H : At B st s) (hq : s.heap.get? bx = some o) (hb : BoxO o c) (hnone : st bx = none) (hg : B.g.objs.size ≤ bx) (hm : 0 < many) (hm2 : many < 1000) (R : Rm A 2) :
  Spec B A [bx] st s (call (.ref 1166) [.ref bx, .int many tm]) (fun h' z v => ∃ t' o', v = .int (c.fmod many) t' ∧ h'.get? bx = some o' ∧ BoxO o' (c.fdiv many)) := by
 refine' enterM (n := 1) (binds := (lc "box" (.ref bx) (lc "many" (.int many tm) []))) (ps := ["box", "many"]) H hq hnone hg R ?ho ?hcd ?hbind ?hS ?hps ?hloc ?hbn ?hcell ?hco ?hgen ?_
 o_head m_enter
 intro Q L s₁ env A' k N R' F
 dsimp only at N
 o_head m_go
 refine Fx.boxItem ‹_› (.head _) hb fun u => ?_
 o_head m_go
 refine Fx.boxItem ‹_› (.head _) hb fun u => ?_
 o_head m_go
 refine Fx.boxSet ‹_› hb fun o' s5 hb' F5 => ?_
 o_head m_go
 exact Fx.retM k F5 fun st' le => ⟨_, o', rfl, (F5.ow _ (.head _)).1, hb'⟩
theorem name_spec {n : Nm} {t : Tok} (H : At B st s) (R : Rm A 10) : Spec B A [] st s (call (.ref 1173) [.str n.str t]) (fun z st' v => ∃ a, v = .ref a ∧ Rep st' a (.nm n)) := by
 refine' enter (d := 9) (u := 8 * (9)) (binds := (lc "name" (.str n.str t) [])) (ps := ["name"]) H (Rm.room R) ?ho ?hcd ?hbind ?hS ?hps ?hloc ?hbn ?hcell ?hco ?hgen ?_
 o_head m_enter
 intro Q L s₁ env A' k N R' F
 dsimp only at N
 replace R' : Rm A' (9) := R'
 o_head m_go
 refine Fx.callR ‹_› (fun H => mkVar H (R'.le (by o_head qo))) fun b st2 s2 le2 F2 Ib => ?_
 o_head m_go
 refine Fx.callA ‹_› (fun H => varExpr_spec H (R'.le (by o_head qo)) (n := n) ⟨_, Ib⟩) fun v st3 s3 le3 F3 hv => ?_
 o_head m_go
 exact Fx.ret k F3 fun st4 le4 => (keepsRep _).k hv le4
theorem fmod_b (c m : Int) (h : 0 < m) : 0 ≤ c.fmod m ∧ c.fmod m < m := ⟨Int.fmod_nonneg_of_pos c h, Int.fmod_lt_of_pos c h⟩
theorem nmOf_get {i : Int} (h0 : 0 ≤ i) (h4 : i < 4) (t0 t1 t2 t3 : Tok) : ∃ t, ([.str "x" t0, .str "y" t1, .str "w" t2, .str "rex" t3] : List Value)[i.toNat]? = some (.str (nmOf i).str t) := by
 have : i = 0 ∨ i = 1 ∨ i = 2 ∨ i = 3 := by o_head qo
 rcases this with rfl | rfl | rfl | rfl
 ·exact ⟨t0, rfl⟩
 ·exact ⟨t1, rfl⟩
 ·exact ⟨t2, rfl⟩
 ·exact ⟨t3, rfl⟩
set_option tactic.hygienic true in
theorem term_spec {bx : Addr} {o : Obj} {c : Int} (H : At B st s) (hq : s.heap.get? bx = some o) (hb : BoxO o c) (hnone : st bx = none) (hg : B.g.objs.size ≤ bx) (R : Rm A 14) :
  Spec B A [bx] st s (call (.ref 1180) [.ref bx]) (fun h' st' v => ∃ a o', v = .ref a ∧ Rep st' a (termE c) ∧ h'.get? bx = some o' ∧ BoxO o' (termC c)) := by
 refine' enterM (n := 13) (binds := (lc "box" (.ref bx) [])) (ps := ["box"]) H hq hnone hg R ?ho ?hcd ?hbind ?hS ?hps ?hloc ?hbn ?hcell ?hco ?hgen ?_
 o_head m_enter
 intro Q L s₁ env A' k N R' F
 dsimp only at N
 o_head m_go
 refine Fx.lstS ‹_› (Nat.le_of_ble_eq_true rfl) fun l1 st1 s1 le1 hl1 F1 => ?_
 o_head m_go
 rename_i t2 s2 F2
 refine Fx.callTB F2 (fun H => take_spec H F2.ow1 hb F2.ow2 F2.ow5 (by decide) (by decide) (R'.le (by o_head qo))) fun t3 o3 st3 s3 le3 F3 hb3 => ?_
 obtain ⟨hi0, hi4⟩ := fmod_b c 4 (by decide)
 obtain ⟨tx, hx⟩ := nmOf_get hi0 hi4 _ _ _ _
 refine Fx.itemL F3 (hl1.mono le3).la hi0 (by o_head qo) hx ?_
 o_head m_go
 refine Fx.callR ‹_› (fun H => name_spec H (R'.le (by o_head qo))) fun a4 st4 s4 le4 F4 Ra => ?_
 o_head m_go
 rename_i t5 s5 F5
 refine Fx.callTB F5 (fun H => take_spec H F5.ow1 hb3 F5.ow2 F5.ow5 (by decide) (by decide) (R'.le (by o_head qo))) fun t6 o6 st6 s6 le6 F6 hb6 => ?_
 have Ra6 := Ra.mono le6
 o_head m_go
 cases hc : ((c.fdiv 4).fmod 4 == 3) with
 | true =>
  have e : termE c = .app (.nm .mother) (.nm (nmOf (c.fmod 4))) := if_pos (by simpa using hc)
  o_head m_go
  refine Fx.callR ‹_› (fun H => name_spec (n := .mother) H (R'.le (by o_head qo))) fun a7 st7 s7 le7 F7 R7 => ?_
  o_head m_go
  refine Fx.callR ‹_› (fun H => mkApp H (R'.le (by o_head qo)) R7 (Ra6.mono le7)) fun a8 st8 s8 le8 F8 R8 => ?_
  o_head m_go
  exact Fx.retM k F8 fun st9 le9 => ⟨a8, o6, rfl, by rw [e]; exact R8.mono le9, (F8.ow _ (.head _)).1, hb6⟩
 | false =>
  have e : termE c = .nm (nmOf (c.fmod 4)) := if_neg (by simpa using hc)
  o_head m_go
  rename_i F9 _ _ _
  o_head m_go
  exact Fx.retM k F9 fun st9 le9 => ⟨a4, o6, rfl, by rw [e]; exact Ra6.mono le9, (F9.ow _ (.head _)).1, hb6⟩
theorem Fx.itemXyw {i : Int} {t u : Tok} {Q E : Value → Shared → Prop} (F : Fx B md s₀ st₀ st L own l s) (h0 : 0 ≤ i) (h3 : i < 3) (h : ∀ t' s', Fx B md s₀ st₀ st L own l s' → Q (.str (nmOf i).str t') s') : ItemOn (model B.prog B.w) A E (.str "xyw" t) (.int i u) Q s := by
 refine ⟨"str", _, PySem.F.slot_str_getitem.lookup, typeIs_str _ _ _, ?_⟩
 have : i = 0 ∨ i = 1 ∨ i = 2 := by o_head qo
 rcases this with rfl | rfl | rfl
 ·refine PyProof.Rows.getItem_str (c := 120) (by decide) (by decide +kernel) ?_
  rw [show (⟨#[120]⟩ : Str) = (nmOf 0).str by decide +kernel]
  exact h _ _ F.toks
 ·refine PyProof.Rows.getItem_str (c := 121) (by decide) (by decide +kernel) ?_
  rw [show (⟨#[121]⟩ : Str) = (nmOf 1).str by decide +kernel]
  exact h _ _ F.toks
 ·refine PyProof.Rows.getItem_str (c := 119) (by decide) (by decide +kernel) ?_
  rw [show (⟨#[119]⟩ : Str) = (nmOf 2).str by decide +kernel]
  exact h _ _ F.toks
noncomputable def FormOk (f : Nat) : Prop := ∀ {B : Bs} {st : St} {s : Shared} {A : Around} {bx : Addr} {o : Obj} {c most : Int} {tm : Tok}, At B st s → s.heap.get? bx = some o → BoxO o c → st bx = none → B.g.objs.size ≤ bx → 0 ≤ most → most ≤ f → Rm A (4 * f + 30) →
  Spec B A [bx] st s (call (.ref 1187) [.ref bx, .int most tm]) (fun h' st' v => ∃ a o', v = .ref a ∧ Rep st' a (formE f c most).1 ∧ h'.get? bx = some o' ∧ BoxO o' (formE f c most).2)
theorem form_atom {f : Nat} {c most : Int} (h0 : 0 ≤ most) (hm : most ≤ f) (h : most = 0 ∨ c.fmod 9 = 0) (hf : f = 0 → most = 0) : formE f c most = atomE (c.fdiv 9) := by
 cases f with
 | zero => rfl
 | succ f => unfold formE; dsimp only; rw [if_pos h]
theorem opOf_cases (i : Int) : opOf i = .and ∨ opOf i = .or ∨ opOf i = .imp := by
 unfold opOf
 split
 ·exact .inl rfl
 ·split
  ·exact .inr (.inl rfl)
  ·exact .inr (.inr rfl)
theorem opList {i : Int} (h6 : 6 ≤ i) (h9 : i < 9) (a b c : Value) : ([a, b, c] : List Value)[(i - 6).toNat]? = some (match opOf i with | .and => a | .or => b | _ => c) := by
 have : i = 6 ∨ i = 7 ∨ i = 8 := by o_head qo
 rcases this with rfl | rfl | rfl <;> rfl
set_option maxHeartbeats 4000000 in
set_option tactic.hygienic true in
theorem form_any {f : Nat} (hIH : ∀ f', f = f' + 1 → FormOk f') (hf : f ≤ 10) : FormOk f := by
 intro B st s A bx o c most tm H hq hb hnone hg hm0 hmf R
 refine' enterM (n := 4 * f + 29) (binds := (lc "box" (.ref bx) (lc "most" (.int most tm) []))) (ps := ["box", "most"]) H hq hnone hg R ?ho ?hcd ?hbind ?hS ?hps ?hloc ?hbn ?hcell ?hco ?hgen ?_
 o_head m_enter
 intro Q L s₁ env A' k N R' F
 dsimp only at N
 o_head m_go
 rename_i t1 s1 F1
 refine Fx.callTB F1 (fun H => take_spec H F1.ow1 hb F1.ow2 F1.ow5 (by o_head qo) (by o_head qo) (R'.le (by o_head qo))) fun t1' o1 st1' s1' le1 G1 hb1 => ?_
 o_head m_go
 refine Fx.orQ (G := kIf B A' (fun z z => False) env _ _ _) (c.fmod 9 == 0) ‹_› (fun hc G' hG => ?_) (fun s2 F2 => ?_)
 ·o_head m_go
  exact hG _ ‹_›
 clear G1
 cases hA : (most == 0 || c.fmod 9 == 0) with
 | true =>
  have hor : most = 0 ∨ c.fmod 9 = 0 := by simpa using hA
  have hat := form_atom (c := c) hm0 hmf hor (fun h => by o_head qo)
  o_head m_go
  rename_i t20 s20 F20
  refine Fx.callTB F20 (fun H => take_spec H F20.ow1 hb1 F20.ow2 F20.ow5 (by o_head qo) (by o_head qo) (R'.le (by o_head qo))) fun t20' o20 st20' s20' le20 G20 hb20 => ?_
  o_head m_go
  cases h20 : ((c.fdiv 9).fmod 3 == 0) with
  | true =>
   have e0 : atomE (c.fdiv 9) = (.app (.nm .dog) (termE ((c.fdiv 9).fdiv 3)), termC ((c.fdiv 9).fdiv 3)) := by unfold atomE; dsimp only; rw [if_pos (by simpa using h20)]
   o_head m_go
   refine Fx.callR ‹_› (fun H => name_spec (n := .dog) H (R'.le (by o_head qo))) fun a21 st21 s21 le21 F21 R21 => ?_
   o_head m_go
   have K22 := ‹Fx B [bx] s st _ L [(bx, _)] _ _›
   refine Fx.callRB K22 (fun H => term_spec H K22.ow1 hb20 K22.ow2 K22.ow5 (R'.le (by o_head qo))) fun a22 o22 st22' s22' le22 G22 Ra22 hb22 => ?_
   clear K22
   o_head m_go
   refine Fx.callR ‹_› (fun H => mkApp H (R'.le (by o_head qo)) (R21.mono le22) Ra22) fun a23 st23 s23 le23 F23 R23 => ?_
   o_head m_go
   exact Fx.retM k F23 fun st24 le24 => ⟨a23, o22, rfl, by rw [hat, e0]; exact R23.mono le24, (F23.ow _ (.head _)).1, by rw [hat, e0]; exact hb22⟩
  | false =>
   o_head m_go
   cases h21 : ((c.fdiv 9).fmod 3 == 1) with
   | true =>
    have e1 : atomE (c.fdiv 9) = (.app (.app (.nm .sees) (termE ((c.fdiv 9).fdiv 3))) (termE (termC ((c.fdiv 9).fdiv 3))), termC (termC ((c.fdiv 9).fdiv 3))) := by unfold atomE; dsimp only; rw [if_neg (by simpa using h20), if_pos (by simpa using h21)]
    o_head m_go
    refine Fx.callR ‹_› (fun H => name_spec (n := .sees) H (R'.le (by o_head qo))) fun a21 st21 s21 le21 F21 R21 => ?_
    o_head m_go
    have K22 := ‹Fx B [bx] s st _ L [(bx, _)] _ _›
    refine Fx.callRB K22 (fun H => term_spec H K22.ow1 hb20 K22.ow2 K22.ow5 (R'.le (by o_head qo))) fun a22 o22 st22' s22' le22 G22 Ra22 hb22 => ?_
    clear K22
    o_head m_go
    refine Fx.callR ‹_› (fun H => mkApp H (R'.le (by o_head qo)) (R21.mono le22) Ra22) fun a23 st23 s23 le23 F23 R23 => ?_
    o_head m_go
    have K24 := ‹Fx B [bx] s st _ L [(bx, _)] _ _›
    refine Fx.callRB K24 (fun H => term_spec H K24.ow1 hb22 K24.ow2 K24.ow5 (R'.le (by o_head qo))) fun a24 o24 st24' s24' le24 G24 Ra24 hb24 => ?_
    clear K24
    o_head m_go
    refine Fx.callR ‹_› (fun H => mkApp H (R'.le (by o_head qo)) (R23.mono le24) Ra24) fun a25 st25 s25 le25 F25 R25 => ?_
    o_head m_go
    exact Fx.retM k F25 fun st26 le26 => ⟨a25, o24, rfl, by rw [hat, e1]; exact R25.mono le26, (F25.ow _ (.head _)).1, by rw [hat, e1]; exact hb24⟩
   | false =>
    have e2 : atomE (c.fdiv 9) = (.bin .eq (termE ((c.fdiv 9).fdiv 3)) (termE (termC ((c.fdiv 9).fdiv 3))), termC (termC ((c.fdiv 9).fdiv 3))) := by unfold atomE; dsimp only; rw [if_neg (by simpa using h20), if_neg (by simpa using h21)]
    o_head m_go
    have K22 := ‹Fx B [bx] s st _ L [(bx, _)] _ _›
    refine Fx.callRB K22 (fun H => term_spec H K22.ow1 hb20 K22.ow2 K22.ow5 (R'.le (by o_head qo))) fun a22 o22 st22' s22' le22 G22 Ra22 hb22 => ?_
    clear K22
    o_head m_go
    have K24 := ‹Fx B [bx] s st _ L [(bx, _)] _ _›
    refine Fx.callRB K24 (fun H => term_spec H K24.ow1 hb22 K24.ow2 K24.ow5 (R'.le (by o_head qo))) fun a24 o24 st24' s24' le24 G24 Ra24 hb24 => ?_
    clear K24
    o_head m_go
    refine Fx.callR ‹_› (fun H => mkBin (o := .eq) H (R'.le (by o_head qo)) (Ra22.mono le24) Ra24) fun a25 st25 s25 le25 F25 R25 => ?_
    o_head m_go
    exact Fx.retM k F25 fun st26 le26 => ⟨a25, o24, rfl, by rw [hat, e2]; exact R25.mono le26, (F25.ow _ (.head _)).1, by rw [hat, e2]; exact hb24⟩
 | false =>
  have hAB : ¬ (most = 0 ∨ c.fmod 9 = 0) := by simpa using hA
  have hmp : 0 < most := by o_head qo
  obtain ⟨f', hff⟩ : ∃ f', f = f' + 1 := ⟨f - 1, by o_head qo⟩
  have IH : FormOk f' := @hIH f' hff
  obtain ⟨hp0, hp9⟩ := fmod_b c 9 (by decide)
  o_head m_go
  cases h1 : (c.fmod 9 == 1) with
  | true =>
   have e1 : formE f c most = (.neg (formE f' (c.fdiv 9) (most - 1)).1, (formE f' (c.fdiv 9) (most - 1)).2) := by subst hff; conv => lhs; unfold formE; dsimp only; rw [if_neg hAB, if_pos (by simpa using h1)]
   o_head m_go
   have K3 := ‹Fx B [bx] s st _ L [(bx, _)] _ _›
   refine Fx.callRB K3 (fun H => IH H K3.ow1 hb1 K3.ow2 K3.ow5 (by o_head qo) (by o_head qo) (R'.le (by o_head qo))) fun a3 o3 st3 s3 le3 G3 Ra3 hb3 => ?_
   clear K3
   o_head m_go
   refine Fx.callR ‹_› (fun H => mkNeg H (R'.le (by o_head qo)) Ra3) fun a4 st4 s4 le4 F4 R4 => ?_
   o_head m_go
   exact Fx.retM k F4 fun st5 le5 => ⟨a4, o3, rfl, by rw [e1]; exact R4.mono le5, (F4.ow _ (.head _)).1, by rw [e1]; exact hb3⟩
  | false =>
   o_head m_go
   cases h6 : (decide (c.fmod 9 < 6)) with
   | true =>
    have e6 : formE f c most = (.qu (decide (c.fmod 9 < 4)) (nmOf ((c.fdiv 9).fmod 3)) (formE f' ((c.fdiv 9).fdiv 3) (most - 1)).1, (formE f' ((c.fdiv 9).fdiv 3) (most - 1)).2) := by subst hff; conv => lhs; unfold formE; dsimp only; rw [if_neg hAB, if_neg (by simpa using h1), if_pos (by simpa using h6)]
    o_head m_go
    rename_i t3 s3 F3
    refine Fx.callTB F3 (fun H => take_spec H F3.ow1 hb1 F3.ow2 F3.ow5 (by o_head qo) (by o_head qo) (R'.le (by o_head qo))) fun t3' o3 st3' s3' le3 G3 hb3 => ?_
    obtain ⟨hi0, hi3⟩ := fmod_b (c.fdiv 9) 3 (by decide)
    refine Fx.itemXyw G3 hi0 hi3 fun t4 s4 F4 => ?_
    o_head m_go
    refine Fx.callR ‹_› (fun H => mkVar H (R'.le (by o_head qo))) fun v5 st5 s5 le5 F5 I5 => ?_
    have V5 : VarAt st5 v5 (nmOf ((c.fdiv 9).fmod 3)) := ⟨_, I5⟩
    o_head m_go
    have K6 := ‹Fx B [bx] s st _ L [(bx, _)] _ _›
    refine Fx.callRB K6 (fun H => IH H K6.ow1 hb3 K6.ow2 K6.ow5 (by o_head qo) (by o_head qo) (R'.le (by o_head qo))) fun a6 o6 st6 s6 le6 G6 Ra6 hb6 => ?_
    clear K6
    o_head m_go
    cases h4 : decide (c.fmod 9 < 4) with
    | true =>
     o_head m_go
     refine Fx.callR ‹_› (fun H => mkQu (b := true) H (R'.le (by o_head qo)) (V5.mono le6) Ra6) fun a7 st7 s7 le7 F7 R7 => ?_
     o_head m_go
     exact Fx.retM k F7 fun st8 le8 => ⟨a7, o6, rfl, by rw [e6, h4]; exact R7.mono le8, (F7.ow _ (.head _)).1, by rw [e6]; exact hb6⟩
    | false =>
     o_head m_go
     refine Fx.callR ‹_› (fun H => mkQu (b := false) H (R'.le (by o_head qo)) (V5.mono le6) Ra6) fun a7 st7 s7 le7 F7 R7 => ?_
     o_head m_go
     exact Fx.retM k F7 fun st8 le8 => ⟨a7, o6, rfl, by rw [e6, h4]; exact R7.mono le8, (F7.ow _ (.head _)).1, by rw [e6]; exact hb6⟩
   | false =>
    have hp6 : 6 ≤ c.fmod 9 := by have : ¬ (c.fmod 9 < 6) := (by simpa using h6); o_head qo
    have e9 : formE f c most = (.bin (opOf (c.fmod 9)) (formE f' ((c.fdiv 9).fdiv most) ((c.fdiv 9).fmod most)).1 (formE f' (formE f' ((c.fdiv 9).fdiv most) ((c.fdiv 9).fmod most)).2 (most - 1 - (c.fdiv 9).fmod most)).1, (formE f' (formE f' ((c.fdiv 9).fdiv most) ((c.fdiv 9).fmod most)).2 (most - 1 - (c.fdiv 9).fmod most)).2) := by
     subst hff; conv => lhs; unfold formE; dsimp only; rw [if_neg hAB, if_neg (by simpa using h1), if_neg (by simpa using h6)]
    obtain ⟨hi0, him⟩ := fmod_b (c.fdiv 9) most hmp
    o_head m_go
    have K3 := ‹Fx B [bx] s st _ L [(bx, _)] _ _›
    refine Fx.callTB K3 (fun H => take_spec H K3.ow1 hb1 K3.ow2 K3.ow5 hmp (by o_head qo) (R'.le (by o_head qo))) fun t3 o3 st3 s3 le3 G3 hb3 => ?_
    clear K3
    o_head m_go
    have K4 := ‹Fx B [bx] s st _ L [(bx, _)] _ _›
    refine Fx.callRB K4 (fun H => IH H K4.ow1 hb3 K4.ow2 K4.ow5 hi0 (by o_head qo) (R'.le (by o_head qo))) fun a4 o4 st4 s4 le4 G4 Ra4 hb4 => ?_
    clear K4
    o_head m_go
    have K5 := ‹Fx B [bx] s st _ L [(bx, _)] _ _›
    refine Fx.callRB K5 (fun H => IH H K5.ow1 hb4 K5.ow2 K5.ow5 (by o_head qo) (by o_head qo) (R'.le (by o_head qo))) fun a5 o5 st5 s5 le5 G5 Ra5 hb5 => ?_
    clear K5
    have Ra4' := Ra4.mono le5
    o_head m_go
    refine Fx.callR ‹_› (fun H => mkBin (o := .and) H (R'.le (by o_head qo)) Ra4' Ra5) fun a6 st6 s6 le6 F6 R6 => ?_
    o_head m_go
    refine Fx.callR ‹_› (fun H => mkBin (o := .or) H (R'.le (by o_head qo)) (Ra4'.mono le6) (Ra5.mono le6)) fun a7 st7 s7 le7 F7 R7 => ?_
    o_head m_go
    refine Fx.callR ‹_› (fun H => mkBin (o := .imp) H (R'.le (by o_head qo)) (Ra4'.mono (le6.trans le7)) (Ra5.mono (le6.trans le7))) fun a8 st8 s8 le8 F8 R8 => ?_
    o_head m_go
    refine Fx.lstS ‹_› (Nat.le_of_ble_eq_true rfl) fun l9 st9 s9 le9 hl9 F9 => ?_
    o_head m_go
    have K10 := ‹Fx B [bx] s st st9 L [(bx, _)] _ _›
    refine Fx.itemL K10 hl9.la (by o_head qo) (by o_head qo) (opList hp6 hp9 _ _ _) ?_
    o_head m_go
    have hres : ∃ ar, (match opOf (c.fmod 9) with | .and => Value.ref a6 | .or => .ref a7 | _ => .ref a8) = .ref ar ∧ Rep st9 ar (.bin (opOf (c.fmod 9)) (formE f' ((c.fdiv 9).fdiv most) ((c.fdiv 9).fmod most)).1 (formE f' (formE f' ((c.fdiv 9).fdiv most) ((c.fdiv 9).fmod most)).2 (most - 1 - (c.fdiv 9).fmod most)).1) := by
     rcases opOf_cases (c.fmod 9) with h | h | h
     ·rw [h]; exact ⟨a6, rfl, R6.mono (le7.trans (le8.trans le9))⟩
     ·rw [h]; exact ⟨a7, rfl, R7.mono (le8.trans le9)⟩
     ·rw [h]; exact ⟨a8, rfl, R8.mono le9⟩
    obtain ⟨ar, har, Rar⟩ := hres
    rw [har]
    o_head m_go
    exact Fx.retM k K10 fun st10 le10 => ⟨ar, o5, rfl, by rw [e9]; exact Rar.mono le10, (K10.ow _ (.head _)).1, by rw [e9]; exact hb5⟩
theorem form_all (f : Nat) (h : f ≤ 10) : FormOk f := by
 induction f with
 | zero => exact form_any (fun f' e => by o_head qo) h
 | succ f ih => exact form_any (fun f' e => by cases e; exact ih (by o_head qo)) h
noncomputable def NmL (st : St) (v : Value) (ns : List Nm) : Prop := ∃ a xs, v = .ref a ∧ Lst st a (strL xs) ∧ xs.map (·.1) = ns.map Nm.str
theorem NmL.mono {st' : St} {v : Value} {ns : List Nm} (h : NmL st v ns) (k : St.le st st') : NmL st' v ns := by
 obtain ⟨a, xs, e, hl, hx⟩ := h
 exact ⟨a, xs, e, hl.mono k, hx⟩
theorem strL_append (xs ys : List (Str × Tok)) : strL xs ++ strL ys = strL (xs ++ ys) := (List.map_append).symm
theorem NmL.len {v : Value} {ns : List Nm} (h : NmL st v ns) : ∃ a xs, v = .ref a ∧ Lst st a (strL xs) ∧ xs.map (·.1) = ns.map Nm.str ∧ (strL xs).length = ns.length := by
 obtain ⟨a, xs, e, hl, hx⟩ := h
 refine ⟨a, xs, e, hl, hx, ?_⟩
 have := congrArg List.length hx
 simpa [strL] using this
theorem lawFree_len : ∀ (e : Ex) (bd : List Nm), (lawFree e bd).length ≤ 2 ^ e.ht
 | .nm n, bd => by
  unfold lawFree
  split
  ·exact Nat.zero_le _
  ·exact Nat.one_le_two_pow
 | .neg t, bd => Nat.le_trans (lawFree_len t bd) (Nat.pow_le_pow_right (by decide) (Nat.le_succ _))
 | .qu _ n t, bd => Nat.le_trans (lawFree_len t _) (Nat.pow_le_pow_right (by decide) (Nat.le_succ _))
 | .app f a, bd => by
  have h1 := lawFree_len f bd
  have h2 := lawFree_len a bd
  have h3 : 2 ^ f.ht ≤ 2 ^ max f.ht a.ht := Nat.pow_le_pow_right (by decide) (Nat.le_max_left _ _)
  have h4 : 2 ^ a.ht ≤ 2 ^ max f.ht a.ht := Nat.pow_le_pow_right (by decide) (Nat.le_max_right _ _)
  show (lawFree f bd ++ lawFree a bd).length ≤ 2 ^ (max f.ht a.ht + 1)
  rw [List.length_append, Nat.pow_succ]; o_head qo
 | .bin _ f a, bd => by
  have h1 := lawFree_len f bd
  have h2 := lawFree_len a bd
  have h3 : 2 ^ f.ht ≤ 2 ^ max f.ht a.ht := Nat.pow_le_pow_right (by decide) (Nat.le_max_left _ _)
  have h4 : 2 ^ a.ht ≤ 2 ^ max f.ht a.ht := Nat.pow_le_pow_right (by decide) (Nat.le_max_right _ _)
  show (lawFree f bd ++ lawFree a bd).length ≤ 2 ^ (max f.ht a.ht + 1)
  rw [List.length_append, Nat.pow_succ]; o_head qo
theorem any_str {xs : List (Str × Tok)} {ns : List Nm} {n : Nm} (h : xs.map (·.1) = ns.map Nm.str) : (xs.any fun p => p.1 == n.str) = ns.any (· == n) := by
 have e : (xs.any fun p => p.1 == n.str) = ((xs.map (·.1)).any fun p => p == n.str) := by rw [List.any_map]; rfl
 rw [e, h, List.any_map]
 exact List.any_congr rfl fun y => Nm.str_beq y n
noncomputable def FreeOk (e : Ex) : Prop := ∀ {B : Bs} {s : Shared} {st : St} {A : Around} {a : Addr} {v : Value} {bd : List Nm}, At B st s → Rm A (4 * e.ht + 10) → Rep st a e → NmL st v bd → bd.length + e.ht ≤ 100 → e.ht ≤ 16 →
  Spec B A [] st s (call (.ref 1208) [.ref a, v]) (fun z st' v => NmL st' v (lawFree e bd))
set_option maxHeartbeats 4000000 in
theorem lawfree_all : ∀ e : Ex, FreeOk e := by
 intro e
 induction e with
 | nm n =>
  intro B s st A a v bd H R Rp hv hz h16
  obtain ⟨b, xs, rfl, hl, hx, hlen⟩ := hv.len
  have hz' : bd.length + 1 ≤ 100 := hz
  replace R : Rm A (13 + 1) := R
  refine' enter (d := 13) (u := 8 * (13)) (binds := (lc "e" (.ref a) (lc "bound" (.ref b) []))) (ps := ["e", "bound"]) H (Rm.room R) ?ho ?hcd ?hbind ?hS ?hps ?hloc ?hbn ?hcell ?hco ?hgen ?_
  o_head m_enter
  intro Q L s₁ env A' k N R' F
  dsimp only at N
  replace R' : Rm A' (13) := R'
  have Rp0 := Rp
  obtain ⟨_, I, V⟩ := Rp.nmI
  o_head m_go
  refine Fx.lstS ‹_› (Nat.le_of_ble_eq_true rfl) fun l2 st2 s2 le2 hl2 F2 => ?_
  refine Fx.addL (ws := strL [("rex", _), ("dog", _), ("sees", _), ("mother", _)]) F2 (hl.mono le2).la hl2.la (by rw [hlen]; show bd.length + 4 ≤ _; o_head qo) fun l3 st3 s3 le3 hl3 F3 => ?_
  rw [strL_append] at hl3
  o_head m_go
  refine Fx.notInStrs F3 hl3.la ?_
  rw [any_str (ns := bd ++ [.rex, .dog, .sees, .mother]) (by rw [List.map_append, List.map_append, hx]; rfl)]
  cases hc : ((bd ++ [Nm.rex, .dog, .sees, .mother]).any (· == n)) with
  | true =>
   o_head m_go
   refine Fx.lstS ‹_› (Nat.le_of_ble_eq_true rfl) fun l4 st4 s4 le4 hl4 F4 => ?_
   o_head m_go
   exact Fx.ret k F4 fun st5 le5 => ⟨l4, [], rfl, hl4.mono le5, by rw [lawFree, if_pos hc]; rfl⟩
  | false =>
   o_head m_go
   refine Fx.lstS ‹_› (Nat.le_of_ble_eq_true rfl) fun l5 st5 s5 le5 hl5 F5 => ?_
   o_head m_go
   exact Fx.ret k F5 fun st6 le6 => ⟨l5, [(n.str, _)], rfl, hl5.mono le6, by rw [lawFree, if_neg (by rw [hc]; decide)]; rfl⟩
 | neg t ih =>
  intro B s st A a v bd H R Rp hv hz h16
  obtain ⟨b, xs, rfl, hl, hx, hlen⟩ := hv.len
  replace ih : FreeOk t := @ih
  have hh : (Ex.neg t).ht = t.ht + 1 := rfl
  have q : 4 * (Ex.neg t).ht + 10 = (4 * t.ht + 13) + 1 := by o_head qo
  rw [q] at R
  refine' enter (d := 4 * t.ht + 13) (u := 8 * (4 * t.ht + 13)) (binds := (lc "e" (.ref a) (lc "bound" (.ref b) []))) (ps := ["e", "bound"]) H (Rm.room R) ?ho ?hcd ?hbind ?hS ?hps ?hloc ?hbn ?hcell ?hco ?hgen ?_
  o_head m_enter
  intro Q L s₁ env A' k N R' F
  dsimp only at N
  replace R' : Rm A' (4 * t.ht + 13) := R'
  have Rp0 := Rp
  obtain ⟨_, I, Rt⟩ := Rp.negI
  o_head m_go
  refine Fx.callA ‹_› (fun H => ih H (R'.le (by o_head qo)) Rt hv (by o_head qo) (by o_head qo)) fun v st2 s2 le2 F2 hv2 => ?_
  o_head m_go
  exact Fx.ret k F2 fun st3 le3 => hv2.mono le3
 | qu al n t ih =>
  intro B s st A a v bd H R Rp hv hz h16
  obtain ⟨b, xs, rfl, hl, hx, hlen⟩ := hv.len
  replace ih : FreeOk t := @ih
  have hh : (Ex.qu al n t).ht = t.ht + 1 := rfl
  have q : 4 * (Ex.qu al n t).ht + 10 = (4 * t.ht + 13) + 1 := by o_head qo
  rw [q] at R
  have Rp0 := Rp
  obtain ⟨_, _, I, V, Rt⟩ := Rp.quI
  refine' enter (d := 4 * t.ht + 13) (u := 8 * (4 * t.ht + 13)) (binds := (lc "e" (.ref a) (lc "bound" (.ref b) []))) (ps := ["e", "bound"]) H (Rm.room R) ?ho ?hcd ?hbind ?hS ?hps ?hloc ?hbn ?hcell ?hco ?hgen ?_
  o_head m_enter
  intro Q L s₁ env A' k N R' F
  dsimp only at N
  replace R' : Rm A' (4 * t.ht + 13) := R'
  o_head m_go
  refine Fx.orT (G := kIf B A' (fun z z => False) env _ _ _) ‹_› (fun hc G' hG => ?_) (fun s1 F1 => ?_)
  ·cases (show al = false from hc)
   o_head m_go
   exact hG _ ‹_›
  o_head m_go
  refine Fx.lstS ‹_› (Nat.le_of_ble_eq_true rfl) fun l2 st2 s2 le2 hl2 F2 => ?_
  refine Fx.addL (ws := strL [(n.str, _)]) F2 (hl.mono le2).la hl2.la (by rw [hlen]; show bd.length + 1 ≤ _; o_head qo) fun l3 st3 s3 le3 hl3 F3 => ?_
  rw [strL_append] at hl3
  o_head m_go
  refine Fx.callA ‹_› (fun H => ih (bd := bd ++ [n]) H (R'.le (by o_head qo)) (Rt.mono (le2.trans le3)) ⟨l3, _, rfl, hl3, by rw [List.map_append, List.map_append, hx]; rfl⟩ (by rw [List.length_append]; show bd.length + 1 + _ ≤ _; o_head qo) (by o_head qo)) fun v st4 s4 le4 F4 hv4 => ?_
  o_head m_go
  exact Fx.ret k F4 fun st5 le5 => hv4.mono le5
 | app f g ih1 ih2 =>
  intro B s st A a v bd H R Rp hv hz h16
  obtain ⟨b, xs, rfl, hl, hx, hlen⟩ := hv.len
  replace ih1 : FreeOk f := @ih1
  replace ih2 : FreeOk g := @ih2
  have hh : (Ex.app f g).ht = max f.ht g.ht + 1 := rfl
  have q : 4 * (Ex.app f g).ht + 10 = (4 * max f.ht g.ht + 13) + 1 := by o_head qo
  rw [q] at R
  refine' enter (d := 4 * max f.ht g.ht + 13) (u := 8 * (4 * max f.ht g.ht + 13)) (binds := (lc "e" (.ref a) (lc "bound" (.ref b) []))) (ps := ["e", "bound"]) H (Rm.room R) ?ho ?hcd ?hbind ?hS ?hps ?hloc ?hbn ?hcell ?hco ?hgen ?_
  o_head m_enter
  intro Q L s₁ env A' k N R' F
  dsimp only at N
  replace R' : Rm A' (4 * max f.ht g.ht + 13) := R'
  have Rp0 := Rp
  obtain ⟨_, _, I, Rf, Rg⟩ := Rp.appI
  o_head m_go
  refine Fx.callA ‹_› (fun H => ih1 H (R'.le (by o_head qo)) Rf hv (by o_head qo) (by o_head qo)) fun v st2 s2 le2 F2 hv2 => ?_
  o_head m_go
  refine Fx.callA ‹_› (fun H => ih2 H (R'.le (by o_head qo)) (Rg.mono le2) (hv.mono le2) (by o_head qo) (by o_head qo)) fun v st3 s3 le3 F3 hv3 => ?_
  obtain ⟨b2, xs2, rfl, hl2, hx2, hlen2⟩ := (hv2.mono le3).len
  obtain ⟨b3, xs3, rfl, hl3, hx3, hlen3⟩ := hv3.len
  have k1 := lawFree_len f bd
  have k2 := lawFree_len g bd
  have k3 : 2 ^ f.ht ≤ 2 ^ 16 := Nat.pow_le_pow_right (by decide) (by o_head qo)
  have k4 : 2 ^ g.ht ≤ 2 ^ 16 := Nat.pow_le_pow_right (by decide) (by o_head qo)
  refine Fx.addL F3 hl2.la hl3.la (by rw [hlen2, hlen3]; o_head qo) fun l4 st4 s4 le4 hl4 F4 => ?_
  rw [strL_append] at hl4
  o_head m_go
  exact Fx.ret k F4 fun st5 le5 => ⟨l4, _, rfl, hl4.mono le5, by rw [List.map_append, hx2, hx3, ← List.map_append]; rfl⟩
 | bin o f g ih1 ih2 =>
  intro B s st A a v bd H R Rp hv hz h16
  obtain ⟨b, xs, rfl, hl, hx, hlen⟩ := hv.len
  replace ih1 : FreeOk f := @ih1
  replace ih2 : FreeOk g := @ih2
  have hh : (Ex.bin o f g).ht = max f.ht g.ht + 1 := rfl
  have q : 4 * (Ex.bin o f g).ht + 10 = (4 * max f.ht g.ht + 13) + 1 := by o_head qo
  rw [q] at R
  have Rp0 := Rp
  obtain ⟨_, _, I, Rf, Rg⟩ := Rp.binI
  refine' enter (d := 4 * max f.ht g.ht + 13) (u := 8 * (4 * max f.ht g.ht + 13)) (binds := (lc "e" (.ref a) (lc "bound" (.ref b) []))) (ps := ["e", "bound"]) H (Rm.room R) ?ho ?hcd ?hbind ?hS ?hps ?hloc ?hbn ?hcell ?hco ?hgen ?_
  o_head m_enter
  intro Q L s₁ env A' k N R' F
  dsimp only at N
  replace R' : Rm A' (4 * max f.ht g.ht + 13) := R'
  o_head m_go
  refine Fx.callA ‹_› (fun H => ih1 H (R'.le (by o_head qo)) Rf hv (by o_head qo) (by o_head qo)) fun v st2 s2 le2 F2 hv2 => ?_
  o_head m_go
  refine Fx.callA ‹_› (fun H => ih2 H (R'.le (by o_head qo)) (Rg.mono le2) (hv.mono le2) (by o_head qo) (by o_head qo)) fun v st3 s3 le3 F3 hv3 => ?_
  obtain ⟨b2, xs2, rfl, hl2, hx2, hlen2⟩ := (hv2.mono le3).len
  obtain ⟨b3, xs3, rfl, hl3, hx3, hlen3⟩ := hv3.len
  have k1 := lawFree_len f bd
  have k2 := lawFree_len g bd
  have k3 : 2 ^ f.ht ≤ 2 ^ 16 := Nat.pow_le_pow_right (by decide) (by o_head qo)
  have k4 : 2 ^ g.ht ≤ 2 ^ 16 := Nat.pow_le_pow_right (by decide) (by o_head qo)
  refine Fx.addL F3 hl2.la hl3.la (by rw [hlen2, hlen3]; o_head qo) fun l4 st4 s4 le4 hl4 F4 => ?_
  rw [strL_append] at hl4
  o_head m_go
  exact Fx.ret k F4 fun st5 le5 => ⟨l4, _, rfl, hl4.mono le5, by rw [List.map_append, hx2, hx3, ← List.map_append]; rfl⟩
set_option maxHeartbeats 0
set_option hygiene false
local macro_rules | `(tactic| o_head m_cw) => `(tactic| with_reducible refine z57 ?_)
local macro_rules | `(tactic| o_head m_bi) => `(tactic| with_reducible first | refine z58 fun _ _ _ => ?_ | refine z59 fun _ _ _ => ?_ | refine z60 fun _ _ _ => ?_)
set_option hygiene true
set_option maxHeartbeats 4000000
noncomputable def ThingOk (e : Ex) : Prop := ∀ {B : Bs} {s : Shared} {st : St} {A : Around} {a d : Addr} {p : Pl} {m : Nat} {world : Int} {tw : Tok} {b : Bool}, At B st s → Rm A (2 * e.ht + 4) → Rep st a e → PlaceAt B st d p m → th (wdOf world) p e = some b →
  Spec B A [] st s (call (.ref 1194) [.ref a, .ref d, .int world tw]) (fun z z v => ∃ t, v = .int (bitI b) t)
set_option tactic.hygienic true in
theorem thing_all : ∀ e : Ex, ThingOk e := by
 intro e
 induction e with
 | nm n =>
  intro B s st A a d p m world tw b H R Rp P hb
  replace R : Rm A (5 + 1) := R
  refine' enter (d := 5) (u := 8 * (5)) (binds := (lc "e" (.ref a) (lc "place" (.ref d) (lc "world" (.int world tw) [])))) (ps := ["e", "place", "world"]) H (Rm.room R) ?ho ?hcd ?hbind ?hS ?hps ?hloc ?hbn ?hcell ?hco ?hgen ?_
  o_head m_enter
  intro Q L s₁ env A' k N R' F
  dsimp only at N
  replace R' : Rm A' (5) := R'
  have Rp0 := Rp
  obtain ⟨_, I, V⟩ := Rp.nmI
  o_head m_go
  have hr : (n.str == ("rex" : Str)) = (n == .rex) := Nm.str_beq n .rex
  cases hc : (n.str == ("rex" : Str)) with
  | true =>
   have e : n = .rex := by rw [hc] at hr; simpa using hr.symm
   subst e
   have hb' : (wdOf world).rex = b := Option.some.inj hb
   o_head m_go
   rename_i t1 s1 F1
   o_head m_go
   exact Fx.ret k F1 fun st2 le2 => ⟨t1, by rw [wbit_bit, ← hb']; rfl⟩
  | false =>
   have e : n ≠ .rex := by rw [hc] at hr; simpa using hr.symm
   have hb' : p n = some b := by
    unfold th at hb
    rwa [if_neg e] at hb
   o_head m_go
   refine Fx.placeItem ‹_› P hb' fun t1 s1 F1 => ?_
   o_head m_go
   exact Fx.ret k F1 fun st2 le2 => ⟨t1, rfl⟩
 | app f g ih1 ih2 =>
  intro B s st A a d p m world tw b H R Rp P hb
  replace ih2 : ThingOk g := @ih2
  have hh : (Ex.app f g).ht = max f.ht g.ht + 1 := rfl
  have q : 2 * (Ex.app f g).ht + 4 = (2 * max f.ht g.ht + 5) + 1 := by o_head qo
  rw [q] at R
  refine' enter (d := 2 * max f.ht g.ht + 5) (u := 8 * (2 * max f.ht g.ht + 5)) (binds := (lc "e" (.ref a) (lc "place" (.ref d) (lc "world" (.int world tw) [])))) (ps := ["e", "place", "world"]) H (Rm.room R) ?ho ?hcd ?hbind ?hS ?hps ?hloc ?hbn ?hcell ?hco ?hgen ?_
  o_head m_enter
  intro Q L s₁ env A' k N R' F
  dsimp only at N
  replace R' : Rm A' (2 * max f.ht g.ht + 5) := R'
  have Rp0 := Rp
  obtain ⟨_, _, I, Rf, Rg⟩ := Rp.appI
  obtain ⟨c, hc, hcb⟩ := Option.map_eq_some_iff.mp hb
  have hc01 := bitI_01 c
  o_head m_go
  refine Fx.callT ‹_› (fun H => ih2 H (R'.le (by o_head qo)) (Rg.mono (Fx.old ‹_›)) (P.mono (Fx.old ‹_›)) hc) fun t2 st2 s2 le2 F2 => ?_
  o_head m_go
  rename_i t1 s1 F1
  o_head m_go
  exact Fx.ret k F1 fun st2 le2 => ⟨t1, by rw [wbit_bit, ← hcb]; rfl⟩
 | neg t ih => intro B s st A a d p m world tw b H R Rp P hb; exact nomatch hb
 | qu al n t ih => intro B s st A a d p m world tw b H R Rp P hb; exact nomatch hb
 | bin o f g ih1 ih2 => intro B s st A a d p m world tw b H R Rp P hb; exact nomatch hb
noncomputable def TrueOk (e : Ex) : Prop := ∀ {B : Bs} {s : Shared} {st : St} {A : Around} {a d : Addr} {p : Pl} {m : Nat} {world : Int} {tw : Tok} {b : Bool}, At B st s → Rm A (4 * e.ht + 10) → Rep st a e → PlaceAt B st d p m → m + e.ht ≤ 1000 → tr (wdOf world) p e = some b →
  Spec B A [] st s (call (.ref 1201) [.ref a, .ref d, .int world tw]) (fun z z v => v = .bool b)
theorem op2_some {g : Bool → Bool → Bool} {x y : Option Bool} {r : Bool} (h : op2 g x y = some r) : ∃ a b, x = some a ∧ y = some b ∧ g a b = r := by
 cases x with
 | none => cases h
 | some a =>
  cases y with
  | none => cases h
  | some b => exact ⟨a, b, rfl, rfl, Option.some.inj h⟩
theorem tri_eq {W : Wd} {p : Pl} {f g : Ex} {b : Bool} (h : tr W p (.bin .eq f g) = some b) : ∃ c d, th W p f = some c ∧ th W p g = some d ∧ (c == d) = b := op2_some h
theorem tri_and {W : Wd} {p : Pl} {f g : Ex} {b : Bool} (h : tr W p (.bin .and f g) = some b) : ∃ c d, tr W p f = some c ∧ tr W p g = some d ∧ (c && d) = b := op2_some h
theorem tri_or {W : Wd} {p : Pl} {f g : Ex} {b : Bool} (h : tr W p (.bin .or f g) = some b) : ∃ c d, tr W p f = some c ∧ tr W p g = some d ∧ (c || d) = b := op2_some h
theorem tri_imp {W : Wd} {p : Pl} {f g : Ex} {b : Bool} (h : tr W p (.bin .imp f g) = some b) : ∃ c d, tr W p f = some c ∧ tr W p g = some d ∧ (d || !c) = b := op2_some h
theorem tri_qu {W : Wd} {p : Pl} {al : Bool} {n : Nm} {t : Ex} {b : Bool} (h : tr W p (.qu al n t) = some b) : ∃ c d, tr W (p.put n false) t = some c ∧ tr W (p.put n true) t = some d ∧ (if al then c && d else c || d) = b := op2_some h
theorem tri_sees {W : Wd} {p : Pl} {r f g : Ex} {b : Bool} (h : tr W p (.app (.app r f) g) = some b) : ∃ c d, th W p f = some c ∧ th W p g = some d ∧ (W.sees c d) = b := op2_some h
theorem tri_dog {W : Wd} {p : Pl} {n : Nm} {t : Ex} {b : Bool} (h : tr W p (.app (.nm n) t) = some b) : ∃ c, th W p t = some c ∧ W.dog c = b := Option.map_eq_some_iff.mp h
theorem true_neg {t : Ex} (ih : TrueOk t) : TrueOk (.neg t) := by
 intro B s st A a d p m world tw b H R Rp P hm hb
 have hh : (Ex.neg t).ht = t.ht + 1 := rfl
 have q : 4 * (Ex.neg t).ht + 10 = (4 * t.ht + 13) + 1 := by o_head qo
 rw [q] at R
 have hb' : (tr (wdOf world) p t).map (!·) = some b := hb
 obtain ⟨c, hc, rfl⟩ := Option.map_eq_some_iff.mp hb'
 refine' enter (d := 4 * t.ht + 13) (u := 8 * (4 * t.ht + 13)) (binds := (lc "e" (.ref a) (lc "place" (.ref d) (lc "world" (.int world tw) [])))) (ps := ["e", "place", "world"]) H (Rm.room R) ?ho ?hcd ?hbind ?hS ?hps ?hloc ?hbn ?hcell ?hco ?hgen ?_
 o_head m_enter
 intro Q L s₁ env A' k N R' F
 dsimp only at N
 replace R' : Rm A' (4 * t.ht + 13) := R'
 have Rp0 := Rp
 obtain ⟨_, I, Rt⟩ := Rp.negI
 o_head m_go
 refine Fx.callV ‹_› (fun H => ih H (R'.le (by o_head qo)) (Rt.mono (Fx.old ‹_›)) (P.mono (Fx.old ‹_›)) (by o_head qo) hc) fun st2 s2 le2 F2 => ?_
 o_head m_go
 exact Fx.ret k F2 fun st3 le3 => rfl
theorem true_eq {f g : Ex} : TrueOk (.bin .eq f g) := by
 intro B s st A a d p m world tw b H R Rp P hm hb
 have hh : (Ex.bin .eq f g).ht = max f.ht g.ht + 1 := rfl
 have q : 4 * (Ex.bin .eq f g).ht + 10 = (4 * max f.ht g.ht + 13) + 1 := by o_head qo
 rw [q] at R
 obtain ⟨x, y, hx, hy, rfl⟩ := tri_eq hb
 refine' enter (d := 4 * max f.ht g.ht + 13) (u := 8 * (4 * max f.ht g.ht + 13)) (binds := (lc "e" (.ref a) (lc "place" (.ref d) (lc "world" (.int world tw) [])))) (ps := ["e", "place", "world"]) H (Rm.room R) ?ho ?hcd ?hbind ?hS ?hps ?hloc ?hbn ?hcell ?hco ?hgen ?_
 o_head m_enter
 intro Q L s₁ env A' k N R' F
 dsimp only at N
 replace R' : Rm A' (4 * max f.ht g.ht + 13) := R'
 have Rp0 := Rp
 obtain ⟨_, _, I, Rf, Rg⟩ := Rp.binI
 o_head m_go
 refine Fx.callT ‹_› (fun H => thing_all f H (R'.le (by o_head qo)) (Rf.mono (Fx.old ‹_›)) (P.mono (Fx.old ‹_›)) hx) fun t2 st2 s2 le2 F2 => ?_
 o_head m_go
 refine Fx.callT ‹_› (fun H => thing_all g H (R'.le (by o_head qo)) (Rg.mono (Fx.old ‹_›)) (P.mono (Fx.old ‹_›)) hy) fun t3 st3 s3 le3 F3 => ?_
 o_head m_go
 exact Fx.ret k F3 fun st3 le3 => congrArg Value.bool (bitI_eq x y)
theorem true_and {f g : Ex} (ih1 : TrueOk f) (ih2 : TrueOk g) : TrueOk (.bin .and f g) := by
 intro B s st A a d p m world tw b H R Rp P hm hb
 have hh : (Ex.bin .and f g).ht = max f.ht g.ht + 1 := rfl
 have q : 4 * (Ex.bin .and f g).ht + 10 = (4 * max f.ht g.ht + 13) + 1 := by o_head qo
 rw [q] at R
 obtain ⟨x, y, hx, hy, rfl⟩ := tri_and hb
 refine' enter (d := 4 * max f.ht g.ht + 13) (u := 8 * (4 * max f.ht g.ht + 13)) (binds := (lc "e" (.ref a) (lc "place" (.ref d) (lc "world" (.int world tw) [])))) (ps := ["e", "place", "world"]) H (Rm.room R) ?ho ?hcd ?hbind ?hS ?hps ?hloc ?hbn ?hcell ?hco ?hgen ?_
 o_head m_enter
 intro Q L s₁ env A' k N R' F
 dsimp only at N
 replace R' : Rm A' (4 * max f.ht g.ht + 13) := R'
 have Rp0 := Rp
 obtain ⟨_, _, I, Rf, Rg⟩ := Rp.binI
 o_head m_go
 refine Fx.callV ‹_› (fun H => ih1 H (R'.le (by o_head qo)) (Rf.mono (Fx.old ‹_›)) (P.mono (Fx.old ‹_›)) (by o_head qo) hx) fun st2 s2 le2 F2 => ?_
 o_head m_go
 cases x with
 | false =>
  o_head m_go
  exact Fx.ret k F2 fun st3 le3 => by simp
 | true =>
  o_head m_go
  refine Fx.callV ‹_› (fun H => ih2 H (R'.le (by o_head qo)) (Rg.mono (Fx.old ‹_›)) (P.mono (Fx.old ‹_›)) (by o_head qo) hy) fun st3 s3 le3 F3 => ?_
  o_head m_go
  exact Fx.ret k F3 fun st4 le4 => by simp
theorem true_or {f g : Ex} (ih1 : TrueOk f) (ih2 : TrueOk g) : TrueOk (.bin .or f g) := by
 intro B s st A a d p m world tw b H R Rp P hm hb
 have hh : (Ex.bin .or f g).ht = max f.ht g.ht + 1 := rfl
 have q : 4 * (Ex.bin .or f g).ht + 10 = (4 * max f.ht g.ht + 13) + 1 := by o_head qo
 rw [q] at R
 obtain ⟨x, y, hx, hy, rfl⟩ := tri_or hb
 refine' enter (d := 4 * max f.ht g.ht + 13) (u := 8 * (4 * max f.ht g.ht + 13)) (binds := (lc "e" (.ref a) (lc "place" (.ref d) (lc "world" (.int world tw) [])))) (ps := ["e", "place", "world"]) H (Rm.room R) ?ho ?hcd ?hbind ?hS ?hps ?hloc ?hbn ?hcell ?hco ?hgen ?_
 o_head m_enter
 intro Q L s₁ env A' k N R' F
 dsimp only at N
 replace R' : Rm A' (4 * max f.ht g.ht + 13) := R'
 have Rp0 := Rp
 obtain ⟨_, _, I, Rf, Rg⟩ := Rp.binI
 o_head m_go
 refine Fx.callV ‹_› (fun H => ih1 H (R'.le (by o_head qo)) (Rf.mono (Fx.old ‹_›)) (P.mono (Fx.old ‹_›)) (by o_head qo) hx) fun st2 s2 le2 F2 => ?_
 o_head m_go
 cases x with
 | true =>
  o_head m_go
  exact Fx.ret k F2 fun st3 le3 => by simp
 | false =>
  o_head m_go
  refine Fx.callV ‹_› (fun H => ih2 H (R'.le (by o_head qo)) (Rg.mono (Fx.old ‹_›)) (P.mono (Fx.old ‹_›)) (by o_head qo) hy) fun st3 s3 le3 F3 => ?_
  o_head m_go
  exact Fx.ret k F3 fun st4 le4 => by simp
theorem true_imp {f g : Ex} (ih1 : TrueOk f) (ih2 : TrueOk g) : TrueOk (.bin .imp f g) := by
 intro B s st A a d p m world tw b H R Rp P hm hb
 have hh : (Ex.bin .imp f g).ht = max f.ht g.ht + 1 := rfl
 have q : 4 * (Ex.bin .imp f g).ht + 10 = (4 * max f.ht g.ht + 13) + 1 := by o_head qo
 rw [q] at R
 obtain ⟨x, y, hx, hy, rfl⟩ := tri_imp hb
 refine' enter (d := 4 * max f.ht g.ht + 13) (u := 8 * (4 * max f.ht g.ht + 13)) (binds := (lc "e" (.ref a) (lc "place" (.ref d) (lc "world" (.int world tw) [])))) (ps := ["e", "place", "world"]) H (Rm.room R) ?ho ?hcd ?hbind ?hS ?hps ?hloc ?hbn ?hcell ?hco ?hgen ?_
 o_head m_enter
 intro Q L s₁ env A' k N R' F
 dsimp only at N
 replace R' : Rm A' (4 * max f.ht g.ht + 13) := R'
 have Rp0 := Rp
 obtain ⟨_, _, I, Rf, Rg⟩ := Rp.binI
 o_head m_go
 refine Fx.callV ‹_› (fun H => ih2 H (R'.le (by o_head qo)) (Rg.mono (Fx.old ‹_›)) (P.mono (Fx.old ‹_›)) (by o_head qo) hy) fun st2 s2 le2 F2 => ?_
 o_head m_go
 cases y with
 | true =>
  o_head m_go
  exact Fx.ret k F2 fun st3 le3 => by simp
 | false =>
  o_head m_go
  refine Fx.callV ‹_› (fun H => ih1 H (R'.le (by o_head qo)) (Rf.mono (Fx.old ‹_›)) (P.mono (Fx.old ‹_›)) (by o_head qo) hx) fun st3 s3 le3 F3 => ?_
  o_head m_go
  exact Fx.ret k F3 fun st4 le4 => by simp
set_option tactic.hygienic true in
theorem true_sees {r f g : Ex} : TrueOk (.app (.app r f) g) := by
 intro B s st A a d p m world tw b H R Rp P hm hb
 have hh : (Ex.app (.app r f) g).ht = max (max r.ht f.ht + 1) g.ht + 1 := rfl
 have q : 4 * (Ex.app (.app r f) g).ht + 10 = (4 * max (max r.ht f.ht + 1) g.ht + 13) + 1 := by o_head qo
 rw [q] at R
 obtain ⟨x, y, hx, hy, rfl⟩ := tri_sees hb
 refine' enter (d := 4 * max (max r.ht f.ht + 1) g.ht + 13) (u := 8 * (4 * max (max r.ht f.ht + 1) g.ht + 13)) (binds := (lc "e" (.ref a) (lc "place" (.ref d) (lc "world" (.int world tw) [])))) (ps := ["e", "place", "world"]) H (Rm.room R) ?ho ?hcd ?hbind ?hS ?hps ?hloc ?hbn ?hcell ?hco ?hgen ?_
 o_head m_enter
 intro Q L s₁ env A' k N R' F
 dsimp only at N
 replace R' : Rm A' (4 * max (max r.ht f.ht + 1) g.ht + 13) := R'
 have Rp0 := Rp
 obtain ⟨_, _, I, Rf, Rg⟩ := Rp.appI
 have Rf0 := Rf
 obtain ⟨_, _, I2, Rr, Rs⟩ := Rf.appI
 have hx01 := bitI_01 x
 have hy01 := bitI_01 y
 o_head m_go
 refine Fx.callT ‹_› (fun H => thing_all g H (R'.le (by o_head qo)) (Rg.mono (Fx.old ‹_›)) (P.mono (Fx.old ‹_›)) hy) fun t2 st2 s2 le2 F2 => ?_
 o_head m_go
 refine Fx.callT ‹_› (fun H => thing_all f H (R'.le (by o_head qo)) (Rs.mono (Fx.old ‹_›)) (P.mono (Fx.old ‹_›)) hx) fun t3 st3 s3 le3 F3 => ?_
 refine Fx.mulI F3 (IntMulOk.of_left (by decide)) fun t4 s4 F4 => ?_
 o_head m_go
 rename_i F9
 o_head m_go
 exact Fx.ret k F9 fun st4 le4 => rfl
set_option tactic.hygienic true in
theorem true_dog {n : Nm} {g : Ex} : TrueOk (.app (.nm n) g) := by
 intro B s st A a d p m world tw b H R Rp P hm hb
 have hh : (Ex.app (.nm n) g).ht = max 1 g.ht + 1 := rfl
 have q : 4 * (Ex.app (.nm n) g).ht + 10 = (4 * max 1 g.ht + 13) + 1 := by o_head qo
 rw [q] at R
 obtain ⟨x, hx, rfl⟩ := tri_dog hb
 refine' enter (d := 4 * max 1 g.ht + 13) (u := 8 * (4 * max 1 g.ht + 13)) (binds := (lc "e" (.ref a) (lc "place" (.ref d) (lc "world" (.int world tw) [])))) (ps := ["e", "place", "world"]) H (Rm.room R) ?ho ?hcd ?hbind ?hS ?hps ?hloc ?hbn ?hcell ?hco ?hgen ?_
 o_head m_enter
 intro Q L s₁ env A' k N R' F
 dsimp only at N
 replace R' : Rm A' (4 * max 1 g.ht + 13) := R'
 have Rp0 := Rp
 obtain ⟨_, _, I, Rf, Rg⟩ := Rp.appI
 have hx01 := bitI_01 x
 o_head m_go
 refine Fx.callT ‹_› (fun H => thing_all g H (R'.le (by o_head qo)) (Rg.mono (Fx.old ‹_›)) (P.mono (Fx.old ‹_›)) hx) fun t2 st2 s2 le2 F2 => ?_
 o_head m_go
 rename_i F9
 o_head m_go
 exact Fx.ret k F9 fun st4 le4 => rfl
set_option maxHeartbeats 4000000 in
theorem true_qu {al : Bool} {n : Nm} {t : Ex} (ih : TrueOk t) : TrueOk (.qu al n t) := by
 intro B s st A a d p m world tw b H R Rp P hm hb
 have hh : (Ex.qu al n t).ht = t.ht + 1 := rfl
 have q : 4 * (Ex.qu al n t).ht + 10 = (4 * t.ht + 13) + 1 := by o_head qo
 rw [q] at R
 obtain ⟨x, y, hx, hy, rfl⟩ := tri_qu hb
 obtain ⟨kvs, D, hlen, hkv⟩ := P
 have hv : ∀ i : Nat, i < 2 → ∃ c z, ((i : Int) = bitI c) ∧ tr (wdOf world) (p.put n c) t = some z ∧ [x, y][i]? = some z := by
  intro i hi
  match i, hi with
  | 0, _ => exact ⟨false, x, rfl, hx, rfl⟩
  | 1, _ => exact ⟨true, y, rfl, hy, rfl⟩
 refine' enter (d := 4 * t.ht + 13) (u := 8 * (4 * t.ht + 13)) (binds := (lc "e" (.ref a) (lc "place" (.ref d) (lc "world" (.int world tw) [])))) (ps := ["e", "place", "world"]) H (Rm.room R) ?ho ?hcd ?hbind ?hS ?hps ?hloc ?hbn ?hcell ?hco ?hgen ?_
 o_head m_enter
 intro Q L s₁ env A' k N R' F
 dsimp only at N
 replace R' : Rm A' (4 * t.ht + 13) := R'
 have Rp0 := Rp
 obtain ⟨_, _, I, V, Rt⟩ := Rp.quI
 o_head m_go
 refine Fx.orT (G := kIf B A' (fun z z => False) env _ _ _) ‹_› (fun hc G' hG => ?_) (fun s1 F1 => ?_)
 ·cases (show al = false from hc)
  o_head m_go
  exact hG _ ‹_›
 o_head m_go
 refine Fx.lstW (vs := []) ‹_› (by decide) fun ta n0 s2 F2 => ?_
 o_head m_go
 refine Fx.rangeN ‹_› fun r t1 u1 v1 s3 hr F3 => ?_
 refine Fx.forR (n := 2) (fun i st' own' l' => l' = (lc "told" (.ref ta) (lc "e" (.ref a) (lc "place" (.ref d) (lc "world" (.int world tw) [])))) ∧ ∃ k, own' = ([(ta, lstO (bools ([x, y].take i)) k)] : Owns)) F3 hr (by decide) R'.hh ⟨rfl, n0, rfl⟩ ?_ ?_
 ·rintro i tk st' it o own' l' s' E' hi le ⟨rfl, k1, rfl⟩ F
  obtain ⟨c, z, hic, hz, hzi⟩ := hv i hi
  o_head m_go
  refine Fx.dicOf ‹_› (D.mono (Fx.old ‹_›)) (by o_head qo) fun di od s4 hdi hge F4 => ?_
  o_head m_go
  refine Fx.dicSet ‹_› hdi (by o_head qo) fun od2 s5 hdi2 F5 => ?_
  have D2 := F5.dicS hdi2
  obtain ⟨le6, F6⟩ := Fx.freeze F5 hge
  o_head m_go
  refine Fx.callAppend (vs := bools ([x, y].take i)) ‹_› ⟨k1, .inr (by o_head m_mem)⟩ ?_
  o_head m_go
  rw [hic] at D2
  refine Fx.callV ‹_› (fun H => ih (p := p.put n c) (m := m + 1) H (R'.le (by o_head qo)) (Rt.mono (Fx.old ‹_›)) ⟨_, D2, by have := stored_len kvs n.str (.int (bitI c) tk); o_head qo, place_put hkv⟩ (by o_head qo) hz) fun st7 s7 le7 F7 => ?_
  o_head m_go
  refine Fx.appendAt [(it, o)] ‹_› (by simp [bools]; o_head qo) fun k2 s8 F8 => ?_
  o_head m_go
  refine ⟨st7, _, _, le6.trans le7, ⟨rfl, k2, rfl⟩, ?_⟩
  rw [take_snoc hzi, show bools ([x, y].take i ++ [z]) = bools ([x, y].take i) ++ [.bool z] from List.map_append]
  exact (F8.lsub fun p hp => .tail _ (.tail _ hp))
 ·rintro st' own' l' s' le ⟨rfl, k1, rfl⟩ F
  cases al
  all_goals
   o_head m_go
   first
    | with_reducible refine Fx.callAll (bs := [x, y].take 2) ‹_› R'.hh ?la fun s9 F9 => ?_
    | with_reducible refine Fx.callAny (bs := [x, y].take 2) ‹_› R'.hh ?la fun s9 F9 => ?_
   case la => exact ⟨k1, .inr (by o_head m_mem)⟩
   o_head m_go
   exact Fx.ret k F9 fun st10 le10 => by simp
theorem true_all : ∀ e : Ex, TrueOk e := by
 intro e
 induction e with
 | nm n => intro B s st A a d p m world tw b H R Rp P hm hb; cases hb
 | app f g _ _ =>
  cases f with
  | nm n => exact true_dog
  | app r f => exact true_sees
  | neg t => intro B s st A a d p m world tw b H R Rp P hm hb; cases hb
  | qu al n t => intro B s st A a d p m world tw b H R Rp P hm hb; cases hb
  | bin o f g => intro B s st A a d p m world tw b H R Rp P hm hb; cases hb
 | neg t ih => exact true_neg @ih
 | qu al n t ih => exact true_qu @ih
 | bin o f g ih1 ih2 =>
  cases o with
  | and => exact true_and @ih1 @ih2
  | or => exact true_or @ih1 @ih2
  | imp => exact true_imp @ih1 @ih2
  | eq => exact true_eq
theorem box_spec {a : Addr} {vs : List Value} {kk : Nat} {t : Tok} (H : At B st s) (hl : Lst st a vs) (hv : ∀ v ∈ vs, ∃ c t, v = .int c t) (hn : vs.length < 2 ^ 62) (hk : kk < 100) (R : Rm A 8) :
  Spec B A [] st s (call (.ref 1159) [.ref a, .int kk t]) (fun z st' v => ∃ bx o c, v = .ref bx ∧ s.heap.objs.size ≤ bx ∧ st' bx = some o ∧ BoxO o c) := by
 refine' enter (d := 7) (u := 8 * (7)) (binds := (lc "script" (.ref a) (lc "k" (.int kk t) []))) (ps := ["script", "k"]) H (Rm.room R) ?ho ?hcd ?hbind ?hS ?hps ?hloc ?hbn ?hcell ?hco ?hgen ?_
 o_head m_enter
 intro Q L s₁ env A' k N R' F
 dsimp only at N
 replace R' : Rm A' (7) := R'
 o_head m_go
 refine Fx.lenLst ‹_› (hl.mono (Fx.old ‹_›)).la hn fun t1 s1 F1 => ?_
 o_head m_go
 cases hc : decide ((kk : Int) < vs.length) with
 | true =>
  have hlt : kk < vs.length := by have := of_decide_eq_true hc; o_head qo
  obtain ⟨c0, tc, hx⟩ := hv _ (List.getElem_mem hlt)
  have hx' : vs[((kk : Int)).toNat]? = some (.int c0 tc) := by
   rw [Int.toNat_natCast, List.getElem?_eq_getElem hlt, hx]
  o_head m_go
  refine Fx.itemL ‹_› (hl.mono (Fx.old ‹_›)).la (by o_head qo) (by o_head qo) hx' ?_
  o_head m_go
  refine Fx.absI ‹_› fun c3 t3 s3 F3 => ?_
  o_head m_go
  refine Fx.ten12 ‹_› fun t4 s4 F4 => ?_
  o_head m_go
  cases decide (c3 < 1000000000000) with
  | true =>
   o_head m_go
   refine Fx.mulI ‹_› (IntMulOk.of_right (by decide)) fun t5 s5 F5 => ?_
   o_head m_go
   refine Fx.mulI ‹_› (IntMulOk.of_right (by decide)) fun t6 s6 F6 => ?_
   o_head m_go
   refine Fx.lstW ‹_› (Nat.le_of_ble_eq_true rfl) fun bx n7 s7 F7 => ?_
   have hge : s.heap.objs.size ≤ bx := F7.ow4
   obtain ⟨le8, F8⟩ := Fx.freeze F7 hge
   o_head m_go
   exact Fx.ret k F8 fun st9 le9 => ⟨bx, _, _, rfl, hge, le9 _ _ St.put_self, rfl, _, _, rfl⟩
  | false =>
   o_head m_go
   refine Fx.lstW ‹_› (Nat.le_of_ble_eq_true rfl) fun bx n7 s7 F7 => ?_
   have hge : s.heap.objs.size ≤ bx := F7.ow4
   obtain ⟨le8, F8⟩ := Fx.freeze F7 hge
   o_head m_go
   exact Fx.ret k F8 fun st9 le9 => ⟨bx, _, _, rfl, hge, le9 _ _ St.put_self, rfl, _, _, rfl⟩
 | false =>
  o_head m_go
  refine Fx.ten12 ‹_› fun t4 s4 F4 => ?_
  o_head m_go
  o_head m_go
  refine Fx.mulI ‹_› (IntMulOk.of_right (by decide)) fun t5 s5 F5 => ?_
  o_head m_go
  refine Fx.mulI ‹_› (IntMulOk.of_right (by decide)) fun t6 s6 F6 => ?_
  o_head m_go
  refine Fx.lstW ‹_› (Nat.le_of_ble_eq_true rfl) fun bx n7 s7 F7 => ?_
  have hge : s.heap.objs.size ≤ bx := F7.ow4
  obtain ⟨le8, F8⟩ := Fx.freeze F7 hge
  o_head m_go
  exact Fx.ret k F8 fun st9 le9 => ⟨bx, _, _, rfl, hge, le9 _ _ St.put_self, rfl, _, _, rfl⟩
theorem bd_get (P) : findIn (hd.heap_39 P) (.ref 1135) "__getitem__" = some (some (.ref 1111)) := beq_iff_eq.mp (by kernel_rfl)
theorem bd_set (P) : findIn (hd.heap_39 P) (.ref 1135) "__setitem__" = some (some (.ref 1104)) := beq_iff_eq.mp (by kernel_rfl)
theorem bd_has (P) : findIn (hd.heap_39 P) (.ref 1135) "__contains__" = some (some (.ref 1118)) := beq_iff_eq.mp (by kernel_rfl)
theorem bd_fn (P) : (isFn (hd.heap_39 P) (.ref 1111) && isFn (hd.heap_39 P) (.ref 1104) && isFn (hd.heap_39 P) (.ref 1118) && fnIn (hd.heap_39 P) 1111) = true := by kernel_rfl
theorem bd_noseq (P) : noSeq (hd.heap_39 P) 1135 = true := by kernel_rfl
theorem Ext.of_own {d : Addr} {o : Obj} {h h' : Heap} (X : Ext [d] h h') (h1 : h.get? d = some o) (h2 : h'.get? d = some o) : Ext [] h h' := ⟨fun b x q z e => by
 by_cases hb : b = d
 ·subst hb; rw [h1] at e; cases e; exact h2
 ·exact X.1 b x q (fun m => hb (List.mem_singleton.mp m)) e, X.2⟩
set_option tactic.hygienic true in
theorem gi_miss {x v dd : Addr} {n : Nm} {o : Obj} {kvs : List (Str × Value)} {Ls : List Addr} {envs : List Env} {Q E : Value → Shared → Prop} (H : At B st s) (R : Rm A 2) (FS : Frs A Ls s.heap) (hA : A.frames = some envs) (I : Inst st x 1135 [("d", .ref dd)]) (V : VarAt st v n) (hd : s.heap.get? dd = some o) (hst : st dd = none) (hg : B.g.objs.size ≤ dd) (D : o.IsDictOf (strKind B.prog B.w) kvs) (hv : valueAt kvs n.str = none) (hLg : ∀ b ∈ Ls, B.g.objs.size ≤ b ∧ b ≠ dd)
  (hE : ∀ Lg e s₁ s', s.heap.objs.size ≤ Lg → Threw B envs (Lg :: Ls) s e s₁ s' → E (.ref e) s') : wpAny (model B.prog B.w) A (call (.ref 1111) [.ref x, .ref v]) Q E s := by
 refine' wpAny_call (enterX (d := 1) (u := 8 * 1) (own := [(dd, o)]) (md := [dd]) (binds := [("self", .ref x), ("variable", .ref v)]) (ps := ["self", "variable"]) H (fun p hp => by cases List.mem_singleton.mp hp; exact ⟨hd, hst, .head _, hg⟩) (List.nodup_cons.mpr ⟨(fun h => nomatch h), .nil⟩) R.room ?ho ?hcd ?hbind ?hS ?hps ?hloc ?hbn ?hcell ?hco ?hgen ?_)
 o_head m_enter
 intro L s₁ env N hf R' F keep hLn
 replace R' : Rm (A.deeper env) 1 := R'
 dsimp only at N
 o_head m_go
 rename_i s₂ F₂
 refine Fx.dicMiss F₂ R'.hh (.head _) D hv fun h' e hx => ?_
 have X := Ext.of_own F₂.ext hd (F₂.ow _ (.head _)).1
 obtain ⟨m, hn, _⟩ := F₂.ns
 have F1 : Frs (A.deeper env) (L :: Ls) s₂.heap := FS.deeper (by rw [N.kind]; decide) hf hn fun b hb o' e' => X.1 _ _ (F₂.notTT (hLg b hb).1) (fun h => nomatch h) e'
 refine leaves_key F1 hA hf hx fun h'' a0 fly up => ?_
 exact hE L e s₂ _ F₂.hL ⟨F₂.inv, X, F1.obj, ⟨a0, fly⟩, up, F₂.os, rfl⟩
theorem Fx.subBD {value slice : Expr} {x : Addr} {i : Value} {fs : List (Str × Value)} {Q E : Value → Shared → Prop} (F : Fx B md s₀ st₀ st L own l s) (I : Inst st x 1135 fs)
  (h : wpAny (model B.prog B.w) A.in1 (PySem.call (.ref 1111) [.ref x, i]) Q E s)
  (hsl : subscripted slice true (.ref x) i = runValue (.builtin "lifetime.subscript" ⟨[.ref x, i], []⟩) := by with_unfolding_all rfl) :
  wpAny (model B.prog B.w) A (subscriptTail value slice (.ref x) i) Q E s := by
 obtain ⟨dx, n, es, h1, h2, _⟩ := I
 obtain ⟨m, fr⟩ := F.fr
 have hb := bd_fn B.w.params
 simp only [Bool.and_eq_true] at hb
 exact sub_K fr F.ok.X (F.inst h1 h2) (bd_get _) hb.2 hb.1.1.1 h hsl
set_option tactic.hygienic true in
theorem si_spec {x v b dd : Addr} {n : Nm} {e : Ex} {o : Obj} {kvs : List (Str × Value)} {fr : List (Addr × Obj)} (H : At B st s) (R : Rm A 5) (FS : Frs A (fr.map (·.1)) s.heap) (I : Inst st x 1135 [("d", .ref dd)]) (V : VarAt st v n) (Rp : Rep st b e)
  (hd : s.heap.get? dd = some o) (hst : st dd = none) (hg : B.g.objs.size ≤ dd) (hfr : ∀ p ∈ fr, s.heap.get? p.1 = some p.2 ∧ st p.1 = none ∧ B.g.objs.size ≤ p.1) (hnd : (dd :: fr.map (·.1)).Nodup) (D : o.IsDictOf (strKind B.prog B.w) kvs) (hv : valueAt kvs n.str = none) (hz : kvs.length ≤ 200000) :
  Spec B A (dd :: fr.map (·.1)) st s (call (.ref 1104) [.ref x, .ref v, .ref b]) (fun h' z r => r = .none ∧ (∃ o', h'.get? dd = some o' ∧ o'.IsDictOf (strKind B.prog B.w) (stored kvs n.str (.ref b))) ∧ ∃ fr', SlEq fr fr' ∧ ∀ p ∈ fr', h'.get? p.1 = some p.2) := fun Q E k => by
 refine' wpAny_call (enterX (d := 4) (u := 8 * 4) (own := [(dd, o)] ++ fr) (md := dd :: fr.map (·.1)) (binds := [("self", .ref x), ("variable", .ref v), ("binding", .ref b)]) (ps := ["self", "variable", "binding"]) H (fun p hp => by
  rcases List.mem_cons.mp hp with rfl | hp
  ·exact ⟨hd, hst, .head _, hg⟩
  ·exact ⟨(hfr p hp).1, (hfr p hp).2.1, .tail _ (List.mem_map_of_mem hp), (hfr p hp).2.2⟩) hnd R.room ?ho ?hcd ?hbind ?hS ?hps ?hloc ?hbn ?hcell ?hco ?hgen ?_)
 o_head m_enter
 intro L s₁ env N hf R' F keep hLn
 replace R' : Rm (A.deeper env) 4 := R'
 dsimp only at N
 o_head m_go
 rename_i s1 F1 _ _ _
 refine wpAny_Try_except ?_
 refine xs_cons ?_
 refine wpAny_Assign_Name ?_ (by k_dflt rfl)
 refine Subscript_ ?_
 o_head m_go
 refine F1.subBD I ?_
 obtain ⟨envs, hA, hA2⟩ := FS.ex
 have hLs : ∀ p ∈ fr, s1.heap.get? p.1 = some p.2 := fun p hp => (F1.ow p (.tail _ hp)).1
 have FS1 : Frs (A.deeper env) (L :: fr.map (·.1)) s1.heap := by
  obtain ⟨m, hn, _⟩ := F1.ns
  refine FS.deeper (by rw [N.kind]; decide) hf hn fun c hc o' e' => ?_
  obtain ⟨p, hp, rfl⟩ := List.mem_map.mp hc
  rw [(hfr p hp).1] at e'; cases e'
  exact hLs p hp
 have hdL : dd ≠ L := (F1.ow _ (.head _)).2.2.1
 have hdf : ∀ p ∈ fr, p.1 ≠ dd := fun p hp q => (List.nodup_cons.mp hnd).1 (List.mem_map.mpr ⟨p, hp, q⟩)
 have hin : ∀ c ∈ L :: fr.map (·.1), B.g.objs.size ≤ c ∧ c ≠ dd := fun c hc => by
  rcases List.mem_cons.mp hc with rfl | hc
  ·exact ⟨Nat.le_trans F1.gs F1.hL, hdL.symm⟩
  ·obtain ⟨p, hp, rfl⟩ := List.mem_map.mp hc
   exact ⟨(hfr p hp).2.2, hdf p hp⟩
 refine gi_miss (envs := env :: envs) F1.at (R'.in1.le (by o_head qo)) FS1.in1 (Around.frames_deeper hA) I V (F1.ow _ (.head _)).1 (F1.ow _ (.head _)).2.1 hg D hv hin fun Lg e1 s2 s3 hLg T => ?_
 refine Fx.caughtKey (ow := [(dd, o)]) (fr := fr) F1 N (Around.frames_deeper hA) hf T (fun c hc => ?_) (fun p hp => .tail _ (.tail _ (List.mem_map_of_mem hp))) (fun p hp => ?_) (by o_head m_mem) fun fr' s4 sl F4 => ?_
 ·rcases List.mem_cons.mp hc with rfl | hc
  ·exact .inr (.inr hLg)
  ·rcases List.mem_cons.mp hc with rfl | hc
   ·exact .inl rfl
   ·exact .inr (.inl hc)
 ·cases List.mem_singleton.mp hp
  intro hc
  rcases List.mem_cons.mp hc with q | hc
  ·have h1 := Heap.lt_size (F1.ow _ (.head _)).1
   dsimp only at q h1
   rw [q] at h1
   exact absurd h1 (Nat.not_lt.mpr hLg)
  ·rcases List.mem_cons.mp hc with q | hc
   ·exact hdL q
   ·obtain ⟨p, hp, q⟩ := List.mem_map.mp hc
    exact hdf p hp q
 o_head m_go
 refine truthy_none ?_
 o_head m_go
 rename_i tn s5 F5
 refine Fx.dicSet F5 D hz fun o' s6 hd' F6 => ?_
 o_head m_go
 refine k _ _ F6.inv F6.ext F6.os ⟨rfl, ⟨o', (F6.ow _ (.head _)).1, hd'⟩, fr', sl, fun p hp => (F6.ow p (.tail _ hp)).1⟩
theorem Fx.truthyL {a : Addr} {vs : List Value} {Q : Bool → Shared → Prop} {E : Value → Shared → Prop} (F : Fx B md s₀ st₀ st L own l s) (hl : LA st own a vs) (hn : vs.length ≤ 1000) (h : ∀ s', Fx B md s₀ st₀ st L own l s' → Q (!vs.isEmpty) s') : wpAny (model B.prog B.w) A (truthy (.ref a)) Q E s :=
 wpAny_truthy_list (hl.list F) (by simp; o_head qo) (by simpa using h _ F.toks)
theorem empty_dic {h : Heap} : ({ cls := .type "dict", data := .dict #[] } : Obj).IsDictOf (strKind B.prog B.w) [] := by
 obtain ⟨o, ho, hd⟩ := Heap.dictOf_iff.mp (Heap.DictOf.new (knd := strKind B.prog B.w) h)
 rw [Heap.get?_push_size _ rfl] at ho
 exact (Option.some.inj ho) ▸ hd
theorem Tup.inj {a : Addr} {p q p' q' : Value} (h : Tup st a [p, q]) (k : Tup st a [p', q']) : p = p' ∧ q = q' := by
 obtain ⟨n, e⟩ := h
 obtain ⟨m, f⟩ := k
 rw [e] at f
 injection f with f
 injection f with _ _ f _
 injection f with f _
 simp at f
 exact f
theorem stored1 {k k' : Str} {v v' : Value} (h : k ≠ k') : stored [(k, v)] k' v' = [(k, v), (k', v')] := by
 unfold stored
 rw [if_neg]
 ·rfl
 ·simp [h]
set_option tactic.hygienic true in
theorem bd_spec {lp t1 t2 v1 v2 b1 b2 : Addr} {n1 n2 : Nm} {e1 e2 : Ex} {fr : List (Addr × Obj)} (H : At B st s) (R : Rm A 9) (FS : Frs A (fr.map (·.1)) s.heap) (hfr : ∀ p ∈ fr, s.heap.get? p.1 = some p.2 ∧ st p.1 = none ∧ B.g.objs.size ≤ p.1) (hfd : (fr.map (·.1)).Nodup)
  (HL : Lst st lp [.ref t1, .ref t2]) (T1 : Tup st t1 [.ref v1, .ref b1]) (T2 : Tup st t2 [.ref v2, .ref b2]) (V1 : VarAt st v1 n1) (V2 : VarAt st v2 n2) (P1 : Rep st b1 e1) (P2 : Rep st b2 e2) (hne : n1.str ≠ n2.str) :
  Spec B A (fr.map (·.1)) st s (PySem.call (.ref 1135) [.ref lp]) (fun h' st' r => ∃ x dd, r = .ref x ∧ Inst st' x 1135 [("d", .ref dd)] ∧ DicS B st' dd [(n1.str, .ref b1), (n2.str, .ref b2)] ∧ ∃ fr', SlEq fr fr' ∧ ∀ p ∈ fr', h'.get? p.1 = some p.2) := by
 refine' makeX (n := 7) (fI := 1097) (args := [.ref lp]) (binds := fun a => [("self", .ref a), ("binding_list", .ref lp)]) (ps := ["self", "binding_list"]) (fr := fr) H R (mk_core (mk_1135 _)) FS hfr hfd ?ho ?hcd ?hbind ?hS ?hps ?hloc ?hbn ?hcell ?hco ?hgen ?_
 o_head m_enter
 case hbind => exact fun a s' X => binds_K X rfl (by k_is) rfl rfl rfl
 intro Q L s' s₁ env A' x dx st' le hx0 hd0 hs0 hx N hf hA' R' FS' F k
 have hE : Ents [] [] := trivial
 dsimp only at N
 o_head m_go
 refine wpAny_Dict_empty ?_
 have F0 := F.pushO (o := { cls := .type "dict", data := .dict #[] }) (t := s₁.toks) rfl
 have hdd : s'.heap.objs.size ≤ s₁.heap.objs.size := F.ext.2
 generalize s₁.heap.objs.size = dd at F0 hdd
 replace F0 := F0.ownPerm (List.Perm.swap ..)
 o_head m_go
 rename_i es1 n1' s2 hE1 F2 _ _ _
 refine F2.truthyL (HL.mono le).la (Nat.le_of_ble_eq_true rfl) fun s3 F3 => ?_
 o_head m_go
 refine Fx.forP (fun i z ow l' => ∃ o es n fr', ow = [(dd, o), (dx, dictOf es n)] ++ fr' ∧ o.IsDictOf (strKind B.prog B.w) (([(n1.str, .ref b1), (n2.str, .ref b2)] : List (Str × Value)).take i) ∧ Ents [("d", .ref dd)] es ∧ SlEq fr fr' ∧ l' = (lc "self" (.ref x) (lc "binding_list" (.ref lp) []))) (F3.ownPerm (List.Perm.swap ..)) R'.hh (HL.mono le) (fun i z hz => ?_) ⟨_, _, _, fr, rfl, empty_dic (h := s.heap), hE1, SlEq.refl fr, rfl⟩ (fun i t p q st4 it o own4 l4 s4 E4 hi hT le4 hJ F4 => ?_) (fun st4 own4 l4 s4 le4 hJ F4 => ?_)
 ·rcases i with _ | _ | i
  ·cases hz; exact ⟨t1, _, _, rfl, T1.mono le⟩
  ·cases hz; exact ⟨t2, _, _, rfl, T2.mono le⟩
  ·cases hz
 ·obtain ⟨o', es, n, fr', rfl, hd, hE, sl, rfl⟩ := hJ
  have key : ∃ nn v b e, p = .ref v ∧ q = .ref b ∧ VarAt st' v nn ∧ Rep st' b e ∧ valueAt (([(n1.str, .ref b1), (n2.str, .ref b2)] : List (Str × Value)).take i) nn.str = none ∧ stored (([(n1.str, .ref b1), (n2.str, .ref b2)] : List (Str × Value)).take i) nn.str (.ref b) = ([(n1.str, .ref b1), (n2.str, .ref b2)] : List (Str × Value)).take (i + 1) := by
   rcases i with _ | _ | i
   ·cases hi
    obtain ⟨r1, r2⟩ := hT.inj (T1.mono le)
    exact ⟨n1, v1, b1, e1, r1, r2, V1.mono le, P1.mono le, rfl, rfl⟩
   ·cases hi
    obtain ⟨r1, r2⟩ := hT.inj (T2.mono le)
    refine ⟨n2, v2, b2, e2, r1, r2, V2.mono le, P2.mono le, ?_, stored1 hne⟩
    simp [valueAt, hne]
   ·cases hi
  obtain ⟨nn, v, b, e, rfl, rfl, V, P, hv, hst⟩ := key
  have V4 := V.mono le4
  have P4 := P.mono le4
  o_head m_go
  rename_i s5 F5 _ _ _
  have hx5 := F5.old _ _ hx
  have w0 := F5.ow _ (.head _)
  have w1 := F5.ow _ (.tail _ (.head _))
  have w2 := F5.ow _ (.tail _ (.tail _ (.head _)))
  have w3 : ∀ p ∈ fr', _ := fun p hp => F5.ow p (.tail _ (.tail _ (.tail _ hp)))
  dsimp only at w0 w1 w2
  have nd0 := List.nodup_cons.mp F5.nodup
  have nd1 := List.nodup_cons.mp nd0.2
  have nd2 := List.nodup_cons.mp nd1.2
  dsimp only at nd0 nd1 nd2
  obtain ⟨m5, fr5⟩ := F5.fr
  have hb := bd_fn B.w.params
  simp only [Bool.and_eq_true] at hb
  refine ksp_setItem (od := some (dictOf es n)) fr5 F5.ok.X ⟨F5.le _ _ hx5, rfl, rfl, w2.1⟩ (bd_noseq _) (bd_set _) hb.1.1.2 ?_
  obtain ⟨mL, ⟨oL, esL, epL, eL, dL, rL⟩, hmL⟩ := F5.ns
  have leA : St.le st4 (st4.put dx (dictOf es n)) := fun b o e => by
   unfold St.put
   rw [if_neg (fun q => by rw [q, w2.2.1] at e; cases e)]; exact e
  have neA : ∀ b, b ≠ dx → (st4.put dx (dictOf es n)) b = st4 b := fun b h => if_neg h
  have HA : At B (st4.put dx (dictOf es n)) s5 := ⟨F5.ok, F5.inv, fun b o e => by
   unfold St.put at e
   split at e
   ·rename_i q; cases e; rw [q]; exact w2.1
   ·exact F5.le _ _ e, fun P hP => by rw [neA _ (fun q => F5.notTT w2.2.2.2.2 (q ▸ hP))]; exact F5.offT P hP⟩
  have hLd : L ≠ dd := w1.2.2.1.symm
  have hLx : L ≠ dx := w2.2.2.1.symm
  have hdx : dd ≠ dx := fun q => nd1.1 (q ▸ .head _)
  have hLf : L ∉ fr'.map (·.1) := fun h => by
   obtain ⟨p, hp, q⟩ := List.mem_map.mp h
   exact (w3 p hp).2.2.1 q
  have hdf : dd ∉ fr'.map (·.1) := fun h => nd1.1 (.tail _ h)
  have ndA : (dd :: ((L, oL) :: fr').map (·.1)).Nodup := by
   refine List.nodup_cons.mpr ⟨fun h => ?_, List.nodup_cons.mpr ⟨hLf, nd2.2⟩⟩
   rcases List.mem_cons.mp h with q | h
   ·exact hLd q.symm
   ·exact hdf h
  have frA : ∀ p ∈ (L, oL) :: fr', s5.heap.get? p.1 = some p.2 ∧ (st4.put dx (dictOf es n)) p.1 = none ∧ B.g.objs.size ≤ p.1 := fun p hp => by
   rcases List.mem_cons.mp hp with rfl | hp
   ·exact ⟨eL, by rw [neA _ hLx]; exact F5.offL, Nat.le_trans F5.gs F5.hL⟩
   ·have := w3 p hp
    exact ⟨this.1, by rw [neA _ (fun q => nd2.1 (q ▸ List.mem_map_of_mem hp))]; exact this.2.1, this.2.2.2.2⟩
  have FSA : Frs A' (((L, oL) :: fr').map (·.1)) s5.heap := by
   refine ⟨by rw [List.map_cons, sl.keys]; exact FS'.ex, fun b hb => ?_⟩
   obtain ⟨p, hp, rfl⟩ := List.mem_map.mp hb
   rcases List.mem_cons.mp hp with rfl | hp
   ·exact ⟨oL, esL, epL, eL, dL⟩
   ·obtain ⟨p0, hp0, q1, q2⟩ := sl.data p hp
    obtain ⟨o0, es0, ep0, g1, g2⟩ := FS.obj _ (List.mem_map_of_mem hp0)
    rw [(hfr p0 hp0).1] at g1; cases g1
    exact ⟨p.2, es0, ep0, (w3 p hp).1, by rw [q2]; exact g2⟩
  have C := si_spec (fr := (L, oL) :: fr') (n := nn) (e := e) (o := o') HA (R'.le (by o_head qo)) FSA ⟨dx, n, es, leA _ _ hx5, St.put_self, hE⟩ (V4.mono leA) (P4.mono leA) w1.1 (by rw [neA _ hdx]; exact w1.2.1) w1.2.2.2.2 frA ndA hd hv (by rw [List.length_take]; exact Nat.le_trans (Nat.min_le_right _ _) (Nat.le_of_ble_eq_true rfl))
  refine C _ _ fun v6 s6 I6 X6 hos6 hΦ6 => ?_
  obtain ⟨rfl, ⟨o6, ho6, hd6⟩, fr6, sl6, hfr6⟩ := hΦ6
  match fr6, sl6, hfr6 with
  | q6 :: fr'', ⟨k1, ⟨sl', k2⟩, k3⟩, hfr6 =>
   have hL6 : s6.heap.get? L = some q6.2 := by have := hfr6 q6 (.head _); rwa [← k1] at this
   have keep6 : ∀ b o, B.g.objs.size ≤ b → b ≠ dd → b ≠ L → b ∉ fr'.map (·.1) → s5.heap.get? b = some o → s6.heap.get? b = some o := fun b o g1 g2 g3 g4 e => X6.1 b o (F5.notTT g1) (fun h => by
    rcases List.mem_cons.mp h with h | h
    ·exact g2 h
    ·rcases List.mem_cons.mp h with h | h
     ·exact g3 h
     ·exact g4 h) e
   obtain ⟨le6, F6⟩ := F5.after (own' := (it, o) :: ([(dd, o6), (dx, dictOf es n)] ++ fr'')) I6 X6 hos6 (fun b hb => by
    rcases List.mem_cons.mp hb with rfl | hb
    ·exact .inr (.tail _ (.head _))
    ·rcases List.mem_cons.mp hb with rfl | hb
     ·exact .inl rfl
     ·exact .inr (.tail _ (.tail _ (.tail _ hb)))) (by
    show it :: dd :: dx :: fr''.map (·.1) = it :: dd :: dx :: fr'.map (·.1)
    rw [k3.keys]) (fun p hp => by
    rcases List.mem_cons.mp hp with rfl | hp
    ·exact keep6 _ _ w0.2.2.2.2 (fun q => nd0.1 (q ▸ .head _)) w0.2.2.1 (fun h => nd0.1 (.tail _ (.tail _ h))) w0.1
    ·rcases List.mem_cons.mp hp with rfl | hp
     ·exact ho6
     ·rcases List.mem_cons.mp hp with rfl | hp
      ·exact keep6 _ _ w2.2.2.2.2 hdx.symm w2.2.2.1 nd2.1 w2.1
      ·exact hfr6 p (.tail _ hp)) ⟨mL, ⟨q6.2, esL, epL, hL6, by rw [k2]; exact dL, rL⟩, hmL⟩
   o_head m_go
   refine ⟨_, _, _, le6, ⟨o6, es, n, fr'', rfl, hst ▸ hd6, hE, sl.trans k3, rfl⟩, F6.lsub (fun p hp => .tail _ (.tail _ hp))⟩
 ·o_head m_go
  obtain ⟨o, es, n, fr', rfl, hd, hE, sl, rfl⟩ := hJ
  refine k _ _ _ _ F4 ⟨x, dd, rfl, ⟨dx, n, es, ?_, ?_, hE⟩, ⟨o, ?_, hd, ?_⟩, fr', sl, fun p hp => (F4.ow p (.tail _ (.tail _ hp))).1⟩
  ·unfold grow
   rw [if_neg (Nat.not_lt.mpr hx0)]; exact F4.le _ _ (F4.old _ _ hx)
  ·unfold grow
   rw [if_neg (Nat.not_lt.mpr hd0)]; exact (F4.ow _ (.tail _ (.head _))).1
  ·unfold grow
   rw [if_neg (Nat.not_lt.mpr (Nat.le_trans hs0 hdd))]; exact (F4.ow _ (.head _)).1
  ·exact (F4.dicS hd).choose_spec.2.2
noncomputable def BDAt (B : Bs) (st : St) (x : Addr) (d : Nm → Option Ex) : Prop := ∃ dd kvs, Inst st x 1135 [("d", .ref dd)] ∧ DicS B st dd kvs ∧ ∀ n : Nm, match d n with
 | none => valueAt kvs n.str = none
 | some e => ∃ b, valueAt kvs n.str = some (.ref b) ∧ Rep st b e
theorem BDAt.mono {st st' : St} {x : Addr} {d : Nm → Option Ex} (h : BDAt B st x d) (k : St.le st st') : BDAt B st' x d := by
 obtain ⟨dd, kvs, I, D, h⟩ := h
 refine ⟨dd, kvs, I.mono k, D.mono k, fun n => ?_⟩
 have := h n
 cases q : d n with
 | none => rw [q] at this; exact this
 | some e =>
  rw [q] at this
  obtain ⟨b, e1, e2⟩ := this
  exact ⟨b, e1, e2.mono k⟩
theorem Fx.dicIn {a : Addr} {kvs : List (Str × Value)} {x : Str} {t : Tok} {Q E : Value → Shared → Prop} (F : Fx B md s₀ st₀ st L own l s) (D : DicS B st a kvs) (h : ∀ s', Fx B md s₀ st₀ st L own l s' → Q (.bool (valueAt kvs x).isSome) s') :
  wpAny (model B.prog B.w) A (compareOp .In (.str x t) (.ref a)) Q E s :=
 wpAny_in_of (strKind_is B.prog B.w x t) D.choose_spec.2.2 (D.heap F).mapOf (h _ F.toks)
theorem has_spec {x v dd : Addr} {n : Nm} {kvs : List (Str × Value)} (H : At B st s) (R : Rm A 2) (I : Inst st x 1135 [("d", .ref dd)]) (D : DicS B st dd kvs) (V : VarAt st v n) : Spec B A [] st s (call (.ref 1118) [.ref x, .ref v]) (fun z z w => w = .bool (valueAt kvs n.str).isSome) := by
 refine' enter (d := 1) (u := 8 * (1)) (binds := (lc "self" (.ref x) (lc "item" (.ref v) []))) (ps := ["self", "item"]) H (Rm.room R) ?ho ?hcd ?hbind ?hS ?hps ?hloc ?hbn ?hcell ?hco ?hgen ?_
 o_head m_enter
 intro Q L s₁ env A' k N R' F
 dsimp only at N
 replace R' : Rm A' (1) := R'
 o_head m_go
 refine Fx.dicIn ‹_› (D.mono (Fx.old ‹_›)) fun s3 F3 => ?_
 o_head m_go
 exact Fx.ret k F3 fun z z => rfl
theorem gi_hit {x v dd : Addr} {n : Nm} {kvs : List (Str × Value)} {w : Value} (H : At B st s) (R : Rm A 2) (I : Inst st x 1135 [("d", .ref dd)]) (D : DicS B st dd kvs) (V : VarAt st v n) (hv : valueAt kvs n.str = some w) : Spec B A [] st s (call (.ref 1111) [.ref x, .ref v]) (fun z z r => r = w) := by
 refine' enter (d := 1) (u := 8 * (1)) (binds := (lc "self" (.ref x) (lc "variable" (.ref v) []))) (ps := ["self", "variable"]) H (Rm.room R) ?ho ?hcd ?hbind ?hS ?hps ?hloc ?hbn ?hcell ?hco ?hgen ?_
 o_head m_enter
 intro Q L s₁ env A' k N R' F
 dsimp only at N
 replace R' : Rm A' (1) := R'
 o_head m_go
 refine Fx.dicItem ‹_› (D.mono (Fx.old ‹_›)) hv fun s3 F3 => ?_
 o_head m_go
 exact Fx.ret k F3 fun z z => rfl
theorem MethodCallK {M : Model} {E : Value → Shared → Prop} {env : Env} {o : Expr} {name : Str} {apos pos : Pos} {args : List Expr} {kws : List Keyword} {pl : Sem Bool} {Q : Value → Shared → Prop}
  (h : wpAny M A (eval o env) (fun ov s₁ => wpAny M A (getMethod ov name pl) (fun fx s₂ => wpAny M A (callWith pos fx.1 fx.2 (backTo pos (starEach args env)) (backToKw pos (keywordEach kws env))) Q E s₂) E s₁) E s)
  (he : eval (.Call (.Attribute o name apos) args kws pos) env = (do
   let ov ← eval o env
   standAt apos.atName
   let (f, first) ← holding [ov] (getMethod ov name pl)
   callWith pos f first (backTo pos (starEach args env)) (backToKw pos (keywordEach kws env)))) :
  wpAny M A (eval (.Call (.Attribute o name apos) args kws pos) env) Q E s := by
 rw [he]
 exact wpAny_bind (wpAny_mono h (fun ov s₁ h₁ => wpAny_bind (wpAny_standAt (wpAny_bind (wpAny_holding (wpAny_mono h₁ (fun z z h₂ => h₂) fun z z e => e))))) fun z z e => e)
theorem Fx.callMK {Q E : Value → Shared → Prop} {a f : Addr} {name : Str} {pl : Sem Bool} {pos : Pos} {e : Expr} {rest : List Expr} {kws : List Keyword} {env : Env} (F : Fx B md s₀ st₀ st L own l s) (M : MethAt B st a name f) (hall : (backToKw pos (keywordEach kws env)).all (·.1.isSome) = true)
  (h : wpAny (model B.prog B.w) A (spliced (backTo pos (starEach (e :: rest) env))) (fun vs s₁ => wpAny (model B.prog B.w) A (evalAll ((backToKw pos (keywordEach kws env)).map (·.2))) (fun ks s₂ => (hd.heap_39 B.w.params).In s₂.heap ∧ wpAny (model B.prog B.w) A (PySem.call (.ref f) (.ref a :: vs) (((backToKw pos (keywordEach kws env)).filterMap (·.1)).zip ks)) Q E s₂) E s₁) E s)
  (hplain : autoParam (((backTo pos (starEach (e :: rest) env)).any (·.1) || (backToKw pos (keywordEach kws env)).any (·.1.isNone)) = false) Mine.tR) (he : autoParam (starEach (e :: rest) env = (false, eval e env) :: starEach rest env) Mine.tR) :
  wpAny (model B.prog B.w) A (getMethod (.ref a) name pl) (fun fx s₂ => wpAny (model B.prog B.w) A (callWith pos fx.1 fx.2 (backTo pos (starEach (e :: rest) env)) (backToKw pos (keywordEach kws env))) Q E s₂) E s := by
 refine F.methodA M ?_
 obtain ⟨_, _, _, _, hm⟩ := M
 exact callWith_KW F.X (meth_keep hm) hall h hplain he
theorem Fx.inBD {x : Addr} {i : Value} {fs : List (Str × Value)} {Q E : Value → Shared → Prop} (F : Fx B md s₀ st₀ st L own l s) (I : Inst st x 1135 fs)
  (h : wpAny (model B.prog B.w) A (PySem.call (.ref 1118) [.ref x, i]) (fun r s' => wpAny (model B.prog B.w) A (truthy r) (fun b => Q (.bool b)) E s') E s) : wpAny (model B.prog B.w) A (compareOp .In i (.ref x)) Q E s := by
 obtain ⟨dx, n, es, h1, h2, _⟩ := I
 obtain ⟨m, fr⟩ := F.fr
 have hb := bd_fn B.w.params
 simp only [Bool.and_eq_true] at hb
 exact in_K fr F.ok.X (F.inst h1 h2) (bd_has _) hb.1.2 h
set_option tactic.hygienic true in
theorem sub_spec {x a : Addr} {e r : Ex} {d d' : Nm → Option Ex} {n : Nat} (H : At B st s) (R : Rm A (24 * n + 250)) (Rp : Rep st a e) (BD : BDAt B st x d) (hn : e.ht ≤ n)
  (inner : ∀ k ∈ e.vars, ∀ v, d k = some v → ∃ v', d' k = some v' ∧ v'.ht ≤ 6 ∧ ∀ (st' : St) (s' : Shared) (A' : Around) (b : Addr), At B st' s' → Rm A' (24 * n + 240) → Rep st' b v → BDAt B st' x d → Spec B A' [] st' s' (call (.ref 253) [.ref b, .ref x]) (fun z st' w => ∃ c, w = .ref c ∧ Rep st' c v'))
  (none' : ∀ k, d k = none → d' k = none) (hr : subL n d' e.vars e = some r) : Spec B A [] st s (call (.ref 253) [.ref a, .ref x]) (fun z st' w => ∃ c, w = .ref c ∧ Rep st' c r) := by
 obtain ⟨dd, kvs, Ix, D, hd⟩ := id BD
 refine' enter (d := 24 * n + 249) (u := 8 * (24 * n + 249)) (binds := (lc "self" (.ref a) (lc "bindings" (.ref x) []))) (ps := ["self", "bindings"]) H (Rm.room R) ?ho ?hcd ?hbind ?hS ?hps ?hloc ?hbn ?hcell ?hco ?hgen ?_
 o_head m_enter
 intro Q L s₁ env A' k N R' F
 dsimp only at N
 replace R' : Rm A' (24 * n + 249) := R'
 o_head m_go
 refine Fx.callM0 ‹_› (Rep.methN (Rp.mono (Fx.old ‹_›)) (m_variables _ e)) ?_
 refine Fx.callA ‹_› (fun H2 => vars_spec H2 (R'.le (by o_head qo)) (Rp.mono (Fx.old ‹_›))) fun w1 st1 s1 le1 F1 hw1 => ?_
 obtain ⟨l1, vs1, rfl, hl1, hv1⟩ := hw1
 refine Fx.forL (fun i st' ow l' => ∃ c ei, Rep st' c ei ∧ subL n d' (e.vars.drop i) ei = some r ∧ ow = ([] : Owns) ∧ l' = (lc "expr" (.ref c) (lc "self" (.ref a) (lc "bindings" (.ref x) [])))) F1 R'.hh hl1 ⟨a, e, Rp.mono le1, hr, rfl, rfl⟩ (fun i z st2 it o ow2 l2 s2 E2 hi le2 hJ F2 => ?_) (fun st2 ow2 l2 s2 le2 hJ F2 => ?_)
 ·obtain ⟨c, ei, Rc, hri, rfl, rfl⟩ := hJ
  obtain ⟨k1, b, hk, rfl, Vb⟩ := (hv1.mono le2).get' hi
  have hdrop : e.vars.drop i = k1 :: e.vars.drop (i + 1) := by
   obtain ⟨h1, h2⟩ := List.getElem?_eq_some_iff.mp hk
   rw [List.drop_eq_getElem_cons h1, h2]
  rw [hdrop] at hri
  unfold subL at hri
  split at hri
  ·rename_i hle
   o_head m_go
   rename_i s3 F3 _ _ _
   refine F3.inBD (Ix.mono F3.old) ?_
   refine Fx.callV F3 (fun H => has_spec H (R'.le (by o_head qo)) (Ix.mono F3.old) (D.mono F3.old) Vb) fun st4 s4 le4 F4 => ?_
   have BD4 := BD.mono F4.old
   have Rc4 := Rc.mono le4
   have Vb4 := Vb.mono le4
   have hdk := hd k1
   cases hq : d k1 with
   | none =>
    rw [hq] at hdk
    rw [hdk]
    rw [none' _ hq] at hri
    o_head m_go
    exact ⟨st4, _, _, le4, ⟨c, ei, Rc4, hri, rfl, rfl⟩, F4.lsub (fun p hp => .tail _ hp)⟩
   | some ve =>
    rw [hq] at hdk
    obtain ⟨vb, hvb, Rv⟩ := hdk
    rw [hvb]
    have hmem : k1 ∈ e.vars := List.mem_of_getElem? hk
    obtain ⟨v', hv', hv6, hin⟩ := inner k1 hmem ve hq
    rw [hv'] at hri
    dsimp only at hri
    refine wpAny_truthy_bool ?_
    refine wpAny_truthy_bool ?_
    refine if_t rfl ?_
    refine xs_cons ?_
    refine wpAny_Assign_Name ?_ (by k_dflt rfl)
    refine Subscript_ ?_
    o_head m_go
    refine F4.subBD (Ix.mono F4.old) ?_
    refine Fx.callV F4 (fun H => gi_hit H (R'.in1.le (by o_head qo)) (Ix.mono F4.old) (D.mono F4.old) Vb4 hvb) fun st5 s5 le5 F5 => ?_
    o_head m_go
    refine Fx.callM ‹_› (Rep.methN (Rv.mono (Fx.old ‹_›)) (m_substitute_bindings _ ve)) ?_
    o_head m_go
    refine Fx.callR ‹_› (fun H => hin _ _ _ _ H (R'.le (by o_head qo)) (Rv.mono (Fx.old ‹_›)) (BD.mono (Fx.old ‹_›))) fun c6 st6 s6 le6 F6 Rc6 => ?_
    o_head m_go
    refine MethodCallK ?_ (by k_dflt rfl)
    o_head m_go
    refine' Fx.callMK ‹_› (Rep.methN (Rc4.mono (le5.trans le6)) (m_replace _ ei)) ?hall ?hh ?hplain ?he
    (case hall => rfl); (case hplain => rfl); (case he => rfl)
    o_head m_go
    refine kws_cons ?_
    o_head m_go
    refine kws_nil ⟨Fx.X ‹_›, ?_⟩
    cases hq2 : replO n ei k1 v' false with
    | none => rw [hq2] at hri; cases hri
    | some e' =>
     rw [hq2] at hri
     dsimp only at hri
     refine Fx.callR ‹_› (fun H => repl_all n (rb := false) (kw := [("alpha_convert", .bool true)]) H (R'.le (by o_head qo)) (.inr (.inr (.inr ⟨rfl, rfl, rfl⟩))) (Rc4.mono (le5.trans le6)) (Vb4.mono (le5.trans le6)) Rc6 hle hv6 hq2) fun c7 st7 s7 le7 F7 Rc7 => ?_
     refine F7.store [("self", .ref a), ("bindings", .ref x)] N (by o_head m_mem) (by o_head m_st) fun s8 F8 => ?_
     o_head m_go
     exact ⟨st7, _, _, (le4.trans le5).trans (le6.trans le7), ⟨c7, e', Rc7, hri, rfl, rfl⟩, F8⟩
  ·cases hri
 ·obtain ⟨c, ei, Rc, hri, rfl, rfl⟩ := hJ
  have hend : e.vars.drop vs1.length = [] := by rw [hv1.len]; simp
  rw [hend] at hri
  unfold subL at hri
  split at hri
  ·rename_i hle
   have hei : ei = r := Option.some.inj hri
   subst hei
   o_head m_go
   refine Fx.callM0 ‹_› (Rep.methN (Rc.mono (St.le.refl _)) (m_simplify _ ei)) ?_
   refine Fx.callA ‹_› (fun H2 => simp_all ei H2 (R'.le (by o_head qo)) Rc) fun w st3 s3 le3 F3 hw => ?_
   o_head m_go
   exact Fx.ret k F3 fun z le' => (keepsRep _).k hw le'
  ·cases hri
theorem strB_var (P) : strB (hd.heap_39 P) 126 123 = true := by kernel_rfl
theorem strB_ex (P) (e : Ex) : strB (hd.heap_39 P) (clsOf e) (strF e) = true := by cases e with | nm n => dsimp only [clsOf, nmCls, strF]; cases n.isVar <;> kernel_rfl | app f a => kernel_rfl | neg t => kernel_rfl | qu b n t => cases b <;> kernel_rfl | bin o a b => cases o <;> kernel_rfl
noncomputable def Ex.size : Ex → Nat
 | .nm _ => 1
 | .app f a => f.size + a.size + 1
 | .neg t => t.size + 1
 | .qu _ _ t => t.size + 1
 | .bin _ a b => a.size + b.size + 1
theorem Ex.size_ht : ∀ e : Ex, e.size + 1 ≤ 2 ^ e.ht
 | .nm _ => Nat.le_refl _
 | .app f a => by
  have h1 := f.size_ht; have h2 := a.size_ht
  have k1 := Nat.pow_le_pow_right (n := 2) (by decide) (Nat.le_max_left f.ht a.ht)
  have k2 := Nat.pow_le_pow_right (n := 2) (by decide) (Nat.le_max_right f.ht a.ht)
  show f.size + a.size + 1 + 1 ≤ 2 ^ (max f.ht a.ht + 1)
  rw [Nat.pow_succ]; o_head qo
 | .neg t => by
  have h1 := t.size_ht
  show t.size + 1 + 1 ≤ 2 ^ (t.ht + 1)
  rw [Nat.pow_succ]; o_head qo
 | .qu _ _ t => by
  have h1 := t.size_ht
  show t.size + 1 + 1 ≤ 2 ^ (t.ht + 1)
  rw [Nat.pow_succ]; o_head qo
 | .bin _ a b => by
  have h1 := a.size_ht; have h2 := b.size_ht
  have k1 := Nat.pow_le_pow_right (n := 2) (by decide) (Nat.le_max_left a.ht b.ht)
  have k2 := Nat.pow_le_pow_right (n := 2) (by decide) (Nat.le_max_right a.ht b.ht)
  show a.size + b.size + 1 + 1 ≤ 2 ^ (max a.ht b.ht + 1)
  rw [Nat.pow_succ]; o_head qo
noncomputable def StrIs (e : Ex) (w : PySem.Str) : Prop := w.length ≤ 20 * e.size ∧ ∀ {B : Bs} {st : St} {s : Shared} {A : Around} {a : Addr}, At B st s → Rm A (10 * e.ht) → Rep st a e → Spec B A [] st s (PySem.call (.ref (strF e)) [.ref a]) (fun z z v => ∃ t, v = .str w t)
theorem Nm.str_len (n : Nm) : n.str.length ≤ 6 := by cases n <;> decide
theorem varStr {a : Addr} {n : Nm} (H : At B st s) (R : Rm A 2) (V : VarAt st a n) : Spec B A [] st s (PySem.call (.ref 123) [.ref a]) (fun z z v => ∃ t, v = .str n.str t) := by
 refine' enter (d := 1) (u := 8 * (1)) (binds := (lc "self" (.ref a) [])) (ps := ["self"]) H (Rm.room R) ?ho ?hcd ?hbind ?hS ?hps ?hloc ?hbn ?hcell ?hco ?hgen ?_
 o_head m_enter
 intro Q L s₁ env A' k N R' F
 dsimp only at N
 replace R' : Rm A' (1) := R'
 o_head m_go
 exact Fx.ret k ‹_› fun z z => ⟨_, rfl⟩
theorem nmStr (n : Nm) : StrIs (.nm n) n.str := by
 refine ⟨Nat.le_trans n.str_len (by show 6 ≤ 20 * 1; o_head qo), fun {B st s A a} H R Rp => ?_⟩
 obtain ⟨v, I, V⟩ := Rp.nmI
 replace R : Rm A 10 := R
 show Spec B A [] st s (PySem.call (.ref 482) [.ref a]) _
 refine' enter (d := 9) (u := 8 * (9)) (binds := (lc "self" (.ref a) [])) (ps := ["self"]) H (Rm.room R) ?ho ?hcd ?hbind ?hS ?hps ?hloc ?hbn ?hcell ?hco ?hgen ?_
 o_head m_enter
 intro Q L s₁ env A' k N R' F
 dsimp only at N
 replace R' : Rm A' (9) := R'
 o_head m_go
 obtain ⟨t0, Iv⟩ := id V
 refine Fx.pctE ‹_› (R'.in1.le (by o_head qo)) (Iv.mono (Fx.old ‹_›)) (strB_var _) (Nat.le_trans n.str_len (by o_head qo)) (fun H => varStr H (R'.in1.le (by o_head qo)) (V.mono (Fx.old ‹_›))) fun t st' s' le F X => ?_
 o_head m_go
 exact Fx.ret k ‹_› fun z z => ⟨_, rfl⟩
theorem negStr {e : Ex} {w : PySem.Str} (h : StrIs e w) (hh : e.ht ≤ 8) : StrIs (.neg e) ("-" ++ w) := by
 have hsz := e.size_ht
 have hp := Nat.pow_le_pow_right (n := 2) (by decide) hh
 have hl := h.1
 refine ⟨by rw [PySem.Str.length_append]; show 1 + _ ≤ 20 * (e.size + 1); o_head qo, fun {B st s A a} H R Rp => ?_⟩
 obtain ⟨t, I, Rt⟩ := Rp.negI
 replace R : Rm A (10 * e.ht + 10) := R
 show Spec B A [] st s (PySem.call (.ref 811) [.ref a]) _
 refine' enter (d := 10 * e.ht + 9) (u := 8 * (10 * e.ht + 9)) (binds := (lc "self" (.ref a) [])) (ps := ["self"]) H (Rm.room R) ?ho ?hcd ?hbind ?hS ?hps ?hloc ?hbn ?hcell ?hco ?hgen ?_
 o_head m_enter
 intro Q L s₁ env A' k N R' F
 dsimp only at N
 replace R' : Rm A' (10 * e.ht + 9) := R'
 o_head m_go
 obtain ⟨fs, It, _⟩ := Rt.inst
 refine Fx.tokA ‹_› (by o_head m_mem) fun s2 F2 => ?_
 o_head m_go
 have It' := It.mono F2.old
 refine Fx.pctE ‹_› (R'.in1.le (by o_head qo)) It' (strB_ex _ e) (by o_head qo) (fun H => h.2 H (R'.in1.le (by o_head qo)) (Rt.mono F2.old)) fun t st' s' le F X => ?_
 refine Fx.addS 1 (20 * e.size) F (by decide) hl (by o_head qo) fun t s' hl' F' => ?_
 o_head m_go
 exact Fx.ret k ‹_› fun z z => ⟨_, rfl⟩
noncomputable def opS (o : Op) : PySem.Str := match o with | .and => "&" | .or => "|" | .imp => "->" | .eq => "="
theorem getOpStr (o : Op) (H : At B st s) (R : Rm A 2) {a : Addr} {fs : List (Str × Value)} (I : Inst st a (opCls o) fs) : Spec B A [] st s (PySem.call (.ref (getOpF o)) [.ref a]) (fun z z v => ∃ w t, v = .str w t ∧ w = opS o) := by
 cases o
 ·show Spec B A [] st s (PySem.call (.ref 903) [.ref a]) _
  refine' enter (d := 1) (u := 8 * (1)) (binds := (lc "self" (.ref a) [])) (ps := ["self"]) H (Rm.room R) ?ho ?hcd ?hbind ?hS ?hps ?hloc ?hbn ?hcell ?hco ?hgen ?_
  o_head m_enter
  intro Q L s₁ env A' k N R' F
  dsimp only at N
  replace R' : Rm A' (1) := R'
  o_head m_go
  refine Fx.tokA ‹_› (by o_head m_mem) fun s2 F2 => ?_
  o_head m_go
  exact Fx.ret k ‹_› fun z z => ⟨_, _, rfl, rfl⟩
 ·show Spec B A [] st s (PySem.call (.ref 943) [.ref a]) _
  refine' enter (d := 1) (u := 8 * (1)) (binds := (lc "self" (.ref a) [])) (ps := ["self"]) H (Rm.room R) ?ho ?hcd ?hbind ?hS ?hps ?hloc ?hbn ?hcell ?hco ?hgen ?_
  o_head m_enter
  intro Q L s₁ env A' k N R' F
  dsimp only at N
  replace R' : Rm A' (1) := R'
  o_head m_go
  refine Fx.tokA ‹_› (by o_head m_mem) fun s2 F2 => ?_
  o_head m_go
  exact Fx.ret k ‹_› fun z z => ⟨_, _, rfl, rfl⟩
 ·show Spec B A [] st s (PySem.call (.ref 983) [.ref a]) _
  refine' enter (d := 1) (u := 8 * (1)) (binds := (lc "self" (.ref a) [])) (ps := ["self"]) H (Rm.room R) ?ho ?hcd ?hbind ?hS ?hps ?hloc ?hbn ?hcell ?hco ?hgen ?_
  o_head m_enter
  intro Q L s₁ env A' k N R' F
  dsimp only at N
  replace R' : Rm A' (1) := R'
  o_head m_go
  refine Fx.tokA ‹_› (by o_head m_mem) fun s2 F2 => ?_
  o_head m_go
  exact Fx.ret k ‹_› fun z z => ⟨_, _, rfl, rfl⟩
 ·show Spec B A [] st s (PySem.call (.ref 1049) [.ref a]) _
  refine' enter (d := 1) (u := 8 * (1)) (binds := (lc "self" (.ref a) [])) (ps := ["self"]) H (Rm.room R) ?ho ?hcd ?hbind ?hS ?hps ?hloc ?hbn ?hcell ?hco ?hgen ?_
  o_head m_enter
  intro Q L s₁ env A' k N R' F
  dsimp only at N
  replace R' : Rm A' (1) := R'
  o_head m_go
  refine Fx.tokA ‹_› (by o_head m_mem) fun s2 F2 => ?_
  o_head m_go
  exact Fx.ret k ‹_› fun z z => ⟨_, _, rfl, rfl⟩
noncomputable def alikeO (o : Op) (e : Ex) : Bool := match o with
 | .and => isaE e 913
 | .or => isaE e 953
 | _ => false
noncomputable def subS (o : Op) (e : Ex) (w : PySem.Str) : PySem.Str := if alikeO o e then Txt.slice w (some 1) (some (-1)) else w
theorem subexStr (o : Op) {e : Ex} {w : PySem.Str} (h : StrIs e w) (hh : e.ht ≤ 8) {a t : Addr} (H : At B st s) (R : Rm A (10 * e.ht + 5)) (Rt : Rep st t e) : Spec B A [] st s (PySem.call (.ref (subexF o)) [.ref a, .ref t]) (fun z z v => ∃ t, v = .str (subS o e w) t) := by
 have hsz := e.size_ht
 have hp := Nat.pow_le_pow_right (n := 2) (by decide) hh
 have hl := h.1
 obtain ⟨fs, It, _⟩ := Rt.inst
 have plain : alikeO o e = false → subS o e w = w := fun q => by unfold subS; rw [q]; rfl
 have t858 : subS o e w = w → Spec B A [] st s (PySem.call (.ref 858) [.ref a, .ref t]) (fun z z v => ∃ t, v = .str (subS o e w) t) := fun q => by
  rw [q]
  refine' enter (d := 10 * e.ht + 4) (u := 8 * (10 * e.ht + 4)) (binds := (lc "self" (.ref a) (lc "subex" (.ref t) []))) (ps := ["self", "subex"]) H (Rm.room R) ?ho ?hcd ?hbind ?hS ?hps ?hloc ?hbn ?hcell ?hco ?hgen ?_
  o_head m_enter
  intro Q L s₁ env A' k N R' F
  dsimp only at N
  replace R' : Rm A' (10 * e.ht + 4) := R'
  o_head m_go
  refine Fx.pctE ‹_› (R'.in1.le (by o_head qo)) (It.mono (Fx.old ‹_›)) (strB_ex _ e) (by o_head qo) (fun H => h.2 H (R'.in1.le (by o_head qo)) (Rt.mono (Fx.old ‹_›))) fun t st' s' le F X => ?_
  o_head m_go
  exact Fx.ret k ‹_› fun z z => ⟨_, rfl⟩
 cases o
 ·show Spec B A [] st s (PySem.call (.ref 910) [.ref a, .ref t]) _
  refine' enter (d := 10 * e.ht + 4) (u := 8 * (10 * e.ht + 4)) (binds := (lc "self" (.ref a) (lc "subex" (.ref t) []))) (ps := ["self", "subex"]) H (Rm.room R) ?ho ?hcd ?hbind ?hS ?hps ?hloc ?hbn ?hcell ?hco ?hgen ?_
  o_head m_enter
  intro Q L s₁ env A' k N R' F
  dsimp only at N
  replace R' : Rm A' (10 * e.ht + 4) := R'
  o_head m_go
  refine Fx.pctE ‹_› (R'.in1.le (by o_head qo)) (It.mono (Fx.old ‹_›)) (strB_ex _ e) (by o_head qo) (fun H => h.2 H (R'.in1.le (by o_head qo)) (Rt.mono (Fx.old ‹_›))) fun t' st' s' le F X => ?_
  have Rt' := Rt.mono le
  o_head m_go
  cases hq : isaE e 913 with
  | false =>
   rw [plain hq] at k
   o_head m_go
   exact Fx.ret k ‹_› fun z z => ⟨_, rfl⟩
  | true =>
   have q : subS .and e w = Txt.slice w (some 1) (some (-1)) := by unfold subS; rw [show alikeO .and e = true from hq]; rfl
   rw [q] at k
   o_head m_go
   refine PyProof.Rows.neg_int ?_
   refine Fx.slc (some (1, _)) (some (-1, _)) (Fx.toks ‹_›) (by rw [sizeLine_eq]; o_head qo) fun t2 s3 F3 => ?_
   o_head m_go
   exact Fx.ret k F3 fun z z => ⟨_, rfl⟩
 ·show Spec B A [] st s (PySem.call (.ref 950) [.ref a, .ref t]) _
  refine' enter (d := 10 * e.ht + 4) (u := 8 * (10 * e.ht + 4)) (binds := (lc "self" (.ref a) (lc "subex" (.ref t) []))) (ps := ["self", "subex"]) H (Rm.room R) ?ho ?hcd ?hbind ?hS ?hps ?hloc ?hbn ?hcell ?hco ?hgen ?_
  o_head m_enter
  intro Q L s₁ env A' k N R' F
  dsimp only at N
  replace R' : Rm A' (10 * e.ht + 4) := R'
  o_head m_go
  refine Fx.pctE ‹_› (R'.in1.le (by o_head qo)) (It.mono (Fx.old ‹_›)) (strB_ex _ e) (by o_head qo) (fun H => h.2 H (R'.in1.le (by o_head qo)) (Rt.mono (Fx.old ‹_›))) fun t' st' s' le F X => ?_
  have Rt' := Rt.mono le
  o_head m_go
  cases hq : isaE e 953 with
  | false =>
   rw [plain hq] at k
   o_head m_go
   exact Fx.ret k ‹_› fun z z => ⟨_, rfl⟩
  | true =>
   have q : subS .or e w = Txt.slice w (some 1) (some (-1)) := by unfold subS; rw [show alikeO .or e = true from hq]; rfl
   rw [q] at k
   o_head m_go
   refine PyProof.Rows.neg_int ?_
   refine Fx.slc (some (1, _)) (some (-1, _)) (Fx.toks ‹_›) (by rw [sizeLine_eq]; o_head qo) fun t2 s3 F3 => ?_
   o_head m_go
   exact Fx.ret k F3 fun z z => ⟨_, rfl⟩
 ·exact t858 (plain rfl)
 ·exact t858 (plain rfl)
theorem subS_len {o : Op} {e : Ex} {w : PySem.Str} : (subS o e w).length ≤ w.length := by
 unfold subS
 split
 ·exact Txt.slice_le _ _ _
 ·exact Nat.le_refl _
theorem binStr {o : Op} {e1 e2 : Ex} {w1 w2 : PySem.Str} (h1 : StrIs e1 w1) (h2 : StrIs e2 w2) (hh : (Ex.bin o e1 e2).ht ≤ 9) : ∃ w, StrIs (.bin o e1 e2) w := by
 have m1 := Nat.le_max_left e1.ht e2.ht
 have m2 := Nat.le_max_right e1.ht e2.ht
 replace hh : max e1.ht e2.ht + 1 ≤ 9 := hh
 generalize hm : max e1.ht e2.ht = m at *
 have hsz1 := e1.size_ht
 have hsz2 := e2.size_ht
 have hp1 := Nat.pow_le_pow_right (n := 2) (by decide) (show e1.ht ≤ 8 by o_head qo)
 have hp2 := Nat.pow_le_pow_right (n := 2) (by decide) (show e2.ht ≤ 8 by o_head qo)
 have l1 : (subS o e1 w1).length ≤ 20 * e1.size := Nat.le_trans subS_len h1.1
 have l2 : (subS o e2 w2).length ≤ 20 * e2.size := Nat.le_trans subS_len h2.1
 have l3 : (opS o).length ≤ 2 := by cases o <;> decide
 have l4 : ("(" ++ subS o e1 w1 ++ " " ++ opS o ++ " " ++ subS o e2 w2 ++ ")" : PySem.Str).length ≤ 20 * (e1.size + e2.size + 1) := by
  simp only [PySem.Str.length_append]
  have q1 : ("(" : PySem.Str).length = 1 := rfl
  have q2 : (" " : PySem.Str).length = 1 := rfl
  have q3 : (")" : PySem.Str).length = 1 := rfl
  o_head qo
 refine ⟨"(" ++ subS o e1 w1 ++ " " ++ opS o ++ " " ++ subS o e2 w2 ++ ")", l4, fun {B st s A a} H R Rp => ?_⟩
 obtain ⟨f, g, I, R1, R2⟩ := Rp.binI
 replace R : Rm A (10 * (max e1.ht e2.ht + 1)) := R
 rw [hm] at R
 show Spec B A [] st s (PySem.call (.ref 851) [.ref a]) _
 refine' enter (d := 10 * m + 9) (u := 8 * (10 * m + 9)) (binds := (lc "self" (.ref a) [])) (ps := ["self"]) H (Rm.room R) ?ho ?hcd ?hbind ?hS ?hps ?hloc ?hbn ?hcell ?hco ?hgen ?_
 o_head m_enter
 intro Q L s₁ env A' k N R' F
 dsimp only at N
 replace R' : Rm A' (10 * m + 9) := R'
 o_head m_go
 refine Fx.callM ‹_› ((I.mono (Fx.old ‹_›)).meth (m_subex _ o) rfl) ?_
 o_head m_go
 refine Fx.callT ‹_› (fun H => subexStr o h1 (by o_head qo) H (R'.le (by o_head qo)) (R1.mono (Fx.old ‹_›))) fun t2 st2 s2 le2 F2 => ?_
 o_head m_go
 refine Fx.callM ‹_› ((I.mono (Fx.old ‹_›)).meth (m_subex _ o) rfl) ?_
 o_head m_go
 refine Fx.callT ‹_› (fun H => subexStr o h2 (by o_head qo) H (R'.le (by o_head qo)) (R2.mono (Fx.old ‹_›))) fun t3 st3 s3 le3 F3 => ?_
 o_head m_go
 refine Fx.tokA ‹_› (by o_head m_mem) fun s4 F4 => ?_
 o_head m_go
 refine Fx.addS 1 (20 * e1.size) ‹_› (by decide) l1 (by o_head qo) fun t5 s5 hl5 F5 => ?_
 o_head m_go
 refine Fx.addS (1 + 20 * e1.size) 1 ‹_› hl5 (by decide) (by o_head qo) fun t6 s6 hl6 F6 => ?_
 o_head m_go
 refine Fx.callM0 ‹_› ((I.mono (Fx.old ‹_›)).meth (m_getOp _ o) rfl) ?_
 refine Fx.callA ‹_› (fun H => getOpStr o H (R'.le (by o_head qo)) (I.mono (Fx.old ‹_›))) fun v st7 s7 le7 F7 hv => ?_
 obtain ⟨wo, t7, rfl, hwo⟩ := hv
 subst hwo
 refine Fx.addS (1 + 20 * e1.size + 1) 2 ‹_› hl6 l3 (by o_head qo) fun t8 s8 hl8 F8 => ?_
 o_head m_go
 refine Fx.addS (1 + 20 * e1.size + 1 + 2) 1 ‹_› hl8 (by decide) (by o_head qo) fun t9 s9 hl9 F9 => ?_
 o_head m_go
 refine Fx.addS (1 + 20 * e1.size + 1 + 2 + 1) (20 * e2.size) ‹_› hl9 l2 (by o_head qo) fun t10 s10 hl10 F10 => ?_
 o_head m_go
 refine Fx.tokA ‹_› (by o_head m_mem) fun s11 F11 => ?_
 refine Fx.addS (1 + 20 * e1.size + 1 + 2 + 1 + 20 * e2.size) 1 ‹_› hl10 (by decide) (by o_head qo) fun t12 s12 hl12 F12 => ?_
 o_head m_go
 exact Fx.ret k F12 fun z z => ⟨_, rfl⟩
theorem join_le (sep : PySem.Str) (ts : List PySem.Str) : (Txt.join sep ts).length ≤ (ts.map (·.length)).sum + ts.length * sep.length := by
 show (PySem.Builtin.Str.glued sep ts).length ≤ _
 rw [StrLaws.glued_eq_join]
 exact StrLaws.join_length_le sep ts
theorem sum_le {K : Nat} : ∀ {ts : List PySem.Str}, (∀ t ∈ ts, t.length ≤ K) → (ts.map (·.length)).sum ≤ K * ts.length
 | [], _ => Nat.le_refl _
 | t :: r, h => by
  have h1 := h t (.head _)
  have h2 := sum_le (ts := r) fun x hx => h x (.tail _ hx)
  simp only [List.map_cons, List.sum_cons, List.length_cons, Nat.mul_succ]
  o_head qo
theorem codeHd_690 (P) : codeHdB (hd.heap_39 P) 690 686 = true := by kernel_rfl
theorem codeHd_389 (P) : codeHdB (hd.heap_39 P) 389 385 = true := by kernel_rfl
noncomputable def strip (b : Bool) : Ex → List Nm × Ex
 | .qu c n t => if c = b then (n :: (strip b t).1, (strip b t).2) else ([], .qu c n t)
 | e => ([], e)
theorem strip_ht (b : Bool) : ∀ e : Ex, (strip b e).1.length + (strip b e).2.ht = e.ht ∧ (strip b e).1.length + (strip b e).2.size = e.size
 | .nm _ | .app .. | .neg _ | .bin .. => ⟨Nat.zero_add _, Nat.zero_add _⟩
 | .qu c n t => by
  unfold strip
  split
  ·have := strip_ht b t
   show (_ + 1) + _ = t.ht + 1 ∧ (_ + 1) + _ = t.size + 1
   dsimp only
   o_head qo
  ·exact ⟨Nat.zero_add _, Nat.zero_add _⟩
noncomputable def qS (b : Bool) : PySem.Str := if b then "all" else "exists"
theorem getQStr (b : Bool) (H : At B st s) (R : Rm A 2) {a : Addr} {fs : List (Str × Value)} (I : Inst st a (quCls b) fs) : Spec B A [] st s (PySem.call (.ref (getQF b)) [.ref a]) (fun z z v => ∃ t, v = .str (qS b) t) := by
 cases b
 ·show Spec B A [] st s (PySem.call (.ref 724) [.ref a]) _
  refine' enter (d := 1) (u := 8 * (1)) (binds := (lc "self" (.ref a) [])) (ps := ["self"]) H (Rm.room R) ?ho ?hcd ?hbind ?hS ?hps ?hloc ?hbn ?hcell ?hco ?hgen ?_
  o_head m_enter
  intro Q L s₁ env A' k N R' F
  dsimp only at N
  replace R' : Rm A' (1) := R'
  o_head m_go
  refine Fx.tokA ‹_› (by o_head m_mem) fun s2 F2 => ?_
  o_head m_go
  exact Fx.ret k ‹_› fun z z => ⟨_, rfl⟩
 ·show Spec B A [] st s (PySem.call (.ref 757) [.ref a]) _
  refine' enter (d := 1) (u := 8 * (1)) (binds := (lc "self" (.ref a) [])) (ps := ["self"]) H (Rm.room R) ?ho ?hcd ?hbind ?hS ?hps ?hloc ?hbn ?hcell ?hco ?hgen ?_
  o_head m_enter
  intro Q L s₁ env A' k N R' F
  dsimp only at N
  replace R' : Rm A' (1) := R'
  o_head m_go
  refine Fx.tokA ‹_› (by o_head m_mem) fun s2 F2 => ?_
  o_head m_go
  exact Fx.ret k ‹_› fun z z => ⟨_, rfl⟩
noncomputable def isQu (b : Bool) : Ex → Bool
 | .qu c _ _ => c == b
 | _ => false
theorem isQu_of {b : Bool} {e : Ex} (h : isQu b e = true) : ∃ n t, e = .qu b n t := by
 cases e with
 | qu c n t => exact ⟨n, t, by rw [show c = b from beq_iff_eq.mp h]⟩
 | _ => exact absurd h Bool.false_ne_true
theorem strip_no {b : Bool} {e : Ex} (h : isQu b e = false) : strip b e = ([], e) := by
 cases e with
 | qu c n6 e6 => exact if_neg (fun q => by rw [q] at h; simp [isQu] at h)
 | _ => rfl
theorem alikeStr (b : Bool) (H : At B st s) (R : Rm A 2) {a t : Addr} {e : Ex} {fs : List (Str × Value)} (I : Inst st a (quCls b) fs) (Rt : Rep st t e) : Spec B A [] st s (PySem.call (.ref (alikeF b)) [.ref a, .ref t]) (fun z z v => v = .bool (isQu b e)) := by
 cases b
 ·show Spec B A [] st s (PySem.call (.ref 717) [.ref a, .ref t]) _
  refine' enter (d := 1) (u := 8 * (1)) (binds := (lc "self" (.ref a) (lc "other" (.ref t) []))) (ps := ["self", "other"]) H (Rm.room R) ?ho ?hcd ?hbind ?hS ?hps ?hloc ?hbn ?hcell ?hco ?hgen ?_
  o_head m_enter
  intro Q L s₁ env A' k N R' F
  dsimp only at N
  replace R' : Rm A' (1) := R'
  o_head m_go
  exact Fx.ret k ‹_› fun z z => by cases e with | qu c _ _ => cases c <;> rfl | _ => rfl
 ·show Spec B A [] st s (PySem.call (.ref 750) [.ref a, .ref t]) _
  refine' enter (d := 1) (u := 8 * (1)) (binds := (lc "self" (.ref a) (lc "other" (.ref t) []))) (ps := ["self", "other"]) H (Rm.room R) ?ho ?hcd ?hbind ?hS ?hps ?hloc ?hbn ?hcell ?hco ?hgen ?_
  o_head m_enter
  intro Q L s₁ env A' k N R' F
  dsimp only at N
  replace R' : Rm A' (1) := R'
  o_head m_go
  exact Fx.ret k ‹_› fun z z => by cases e with | qu c _ _ => cases c <;> rfl | _ => rfl
noncomputable def quS (b : Bool) (ns : List Nm) (w : PySem.Str) : PySem.Str := qS b ++ " " ++ Txt.join " " (ns.map Nm.str) ++ "." ++ w
set_option tactic.hygienic true in
theorem quStr {b : Bool} {n : Nm} {e : Ex} {w : PySem.Str} (h : StrIs (strip b e).2 w) (hh : (Ex.qu b n e).ht ≤ 9) : ∃ w, StrIs (.qu b n e) w := by
 have hsz := e.size_ht
 have hp := Nat.pow_le_pow_right (n := 2) (j := 8) (by decide) (show e.ht ≤ 8 by exact Nat.le_of_succ_le_succ hh)
 have hst := strip_ht b e
 have hw := h.1
 have hwl : ∀ t ∈ (n :: (strip b e).1).map Nm.str, t.length ≤ 6 := fun t ht => by
  obtain ⟨m, _, rfl⟩ := List.mem_map.mp ht
  exact m.str_len
 have hsum := sum_le hwl
 have hjl := join_le " " ((n :: (strip b e).1).map Nm.str)
 have hml : ((n :: (strip b e).1).map Nm.str).length = (strip b e).1.length + 1 := by simp
 have q1 : (" " : PySem.Str).length = 1 := rfl
 have q2 : ("." : PySem.Str).length = 1 := rfl
 rw [q1, Nat.mul_one] at hjl
 have hjb : (Txt.join " " ((n :: (strip b e).1).map Nm.str)).length ≤ 7 * ((strip b e).1.length + 1) := by o_head qo
 have hq6 : (qS b).length ≤ 6 := by cases b <;> decide
 have hok : JoinOk " " ((n :: (strip b e).1).map Nm.str) = true := PyProof.Rows.joinOk_of_weight (by o_head qo) (by decide)
 have hlen : (quS b (n :: (strip b e).1) w).length ≤ 20 * (e.size + 1) := by
  unfold quS
  simp only [PySem.Str.length_append]
  o_head qo
 refine ⟨quS b (n :: (strip b e).1) w, hlen, fun {B st s A a} H R Rp => ?_⟩
 obtain ⟨v, t, I, V, Rt⟩ := Rp.quI
 replace R : Rm A (10 * e.ht + 10) := R
 show Spec B A [] st s (PySem.call (.ref 691) [.ref a]) _
 refine' enter (d := 10 * e.ht + 9) (u := 8 * (10 * e.ht + 9)) (binds := (lc "self" (.ref a) [])) (ps := ["self"]) H (Rm.room R) ?ho ?hcd ?hbind ?hS ?hps ?hloc ?hbn ?hcell ?hco ?hgen ?_
 o_head m_enter
 intro Q L s₁ env A' k N R' F
 dsimp only at N
 replace R' : Rm A' (10 * e.ht + 9) := R'
 o_head m_go
 refine Fx.lstW (vs := [.ref v]) ‹_› (Nat.le_of_ble_eq_true rfl) fun fa n0 s2 F2 => ?_
 o_head m_go
 rename_i s3 F3 _ _ _
 refine wpAny_While ?_
 refine codeAny_whileLoop (fun m s' => ∃ st' us nn cur tm, St.le st st' ∧ Fx B [] s st st' L [(fa, lstO us nn)] [("term", .ref tm), ("variables", .ref fa), ("self", .ref a)] s' ∧ Rep st' tm cur ∧ cur.ht = m ∧ ∃ done, Vs st' us done ∧ done ++ (strip b cur).1 = n :: (strip b e).1 ∧ (strip b cur).2 = (strip b e).2) ?_ e.ht ⟨_, [.ref v], n0, e, t, St.le.refl _, F3, Rt, rfl, [n], ⟨⟨v, rfl, V⟩, trivial⟩, rfl, rfl⟩
 rintro m s4 ⟨st4, us, nn, cur, tm, le4, F4, Rc, hm, done, hus, hd, hb⟩
 o_head m_go
 refine Fx.callM ‹_› ((I.mono (Fx.old ‹_›)).meth (m_alike _ b) rfl) ?_
 o_head m_go
 refine Fx.callV ‹_› (fun H => alikeStr b H (R'.le (by o_head qo)) (I.mono (Fx.old ‹_›)) Rc) fun st5 s5 le5 F5 => ?_
 refine wpAny_truthy_bool ?_
 have hdl : done.length ≤ 10 := by
  have := congrArg List.length hd
  rw [List.length_append] at this
  have h2 := (strip_ht b e).1
  replace hh : e.ht + 1 ≤ 9 := hh
  simp only [List.length_cons] at this
  o_head qo
 have hul := hus.len
 cases hq : isQu b cur with
 | true =>
  obtain ⟨n6, e6, rfl⟩ := isQu_of hq
  obtain ⟨v6, t6, I6, V6, R6⟩ := Rc.quI
  have I6' := I6.mono le5
  have V6' := V6.mono le5
  have R6' := R6.mono le5
  o_head m_go
  refine Fx.callAppend (vs := us) ‹_› ⟨nn, .inr (by o_head m_mem)⟩ ?_
  o_head m_go
  refine Fx.appendAt [] ‹_› (by o_head qo) fun n7 s7 F7 => ?_
  o_head m_go
  have hst : strip b (.qu b n6 e6) = (n6 :: (strip b e6).1, (strip b e6).2) := if_pos rfl
  rw [hst] at hd hb
  refine ⟨e6.ht, by rw [← hm]; exact Nat.lt_succ_self _, st5, _, n7, e6, t6, le4.trans le5, Fx.lsub ‹_› (by o_head m_sub), R6', rfl, done ++ [n6], (hus.mono le5).snoc V6', by rw [List.append_assoc]; exact hd, hb⟩
 | false =>
  have hcur : strip b cur = ([], cur) := strip_no hq
  rw [hcur] at hd hb
  rw [List.append_nil] at hd
  dsimp only at hb
  subst hb hd
  obtain ⟨lef, G⟩ := F5.freeze F2.ow4
  have hus' := (hus.mono le5).mono lef
  have Rc' := (Rc.mono le5).mono lef
  have I' := I.mono (G.old)
  have hl : Lst (st5.put fa (lstO us nn)) fa us := ⟨nn, St.put_self⟩
  clear F5 F4 F3 F2
  o_head m_go
  refine Fx.callM0 ‹_› (I'.meth (m_getQ _ b) rfl) ?_
  refine Fx.callT ‹_› (fun H => getQStr b H (R'.le (by o_head qo)) I') fun t7 st7 s7 le7 F7 => ?_
  o_head m_go
  refine Fx.addS 6 1 ‹_› (by cases b <;> decide) (by decide) (by o_head qo) fun t8 s8 hl8 F8 => ?_
  o_head m_go
  refine Fx.joinPct (n := 3) (ws := (n :: (strip b e).1).map Nm.str) ‹_› N (R'.le (by o_head qo)) (by decide) (hl.mono le7) (by o_head m_mem) (by decide) (by decide) rfl (codeHd_690 _) rfl rfl (by decide) rfl rfl rfl rfl (by rw [hus.len]; simp) (by o_head qo) hok (fun i x wi hx hwi => ?_) fun t9 s9 F9 => ?_
  ·obtain ⟨m, vb, hm', rfl, Vm⟩ := (hus'.mono le7).get' hx
   rw [List.getElem?_map, hm'] at hwi
   cases hwi
   obtain ⟨t0, Iv⟩ := id Vm
   exact ⟨vb, 126, 123, _, rfl, Iv, strB_var _, Nat.le_trans m.str_len (by decide), fun G s' A' H R => varStr H (R.le (by decide)) Vm⟩
  refine Fx.addS 7 (7 * ((strip b e).1.length + 1)) ‹_› hl8 hjb (by o_head qo) fun t10 s10 hl10 F10 => ?_
  o_head m_go
  refine Fx.tokA ‹_› (by o_head m_mem) fun s11 F11 => ?_
  refine Fx.addS (7 + 7 * ((strip b e).1.length + 1)) 1 ‹_› hl10 (by decide) (by o_head qo) fun t12 s12 hl12 F12 => ?_
  o_head m_go
  have Rc7 := Rc'.mono le7
  obtain ⟨fs, Ic, _⟩ := Rc7.inst
  refine Fx.pctE ‹_› (R'.in1.le (by o_head qo)) Ic (strB_ex _ _) (by o_head qo) (fun H => h.2 H (R'.in1.le (by o_head qo)) Rc7) fun t13 st13 s13 le13 F13 X => ?_
  refine Fx.addS (7 + 7 * ((strip b e).1.length + 1) + 1) (20 * (strip b e).2.size) F13 hl12 hw (by o_head qo) fun t14 s14 hl14 F14 => ?_
  o_head m_go
  exact Fx.ret k F14 fun z z => ⟨_, rfl⟩
noncomputable def spine : Ex → Ex × List Ex
 | .app f a => ((spine f).1, (spine f).2 ++ [a])
 | e => (e, [])
noncomputable def Reps (st : St) : List Value → List Ex → Prop
 | [], [] => True
 | v :: vs, e :: es => (∃ b, v = .ref b ∧ Rep st b e) ∧ Reps st vs es
 | _, _ => False
theorem Reps.mono {st st' : St} (k : St.le st st') : ∀ {vs : List Value} {es : List Ex}, Reps st vs es → Reps st' vs es
 | [], [], _ => trivial
 | _ :: _, _ :: _, ⟨⟨b, e, h⟩, t⟩ => ⟨⟨b, e, h.mono k⟩, t.mono k⟩
 | [], _ :: _, h => h.elim
 | _ :: _, [], h => h.elim
theorem Reps.len : ∀ {vs : List Value} {es : List Ex}, Reps st vs es → vs.length = es.length
 | [], [], _ => rfl
 | _ :: _, _ :: _, ⟨_, t⟩ => congrArg (· + 1) t.len
 | [], _ :: _, h => h.elim
 | _ :: _, [], h => h.elim
theorem Reps.get : ∀ {vs : List Value} {es : List Ex}, Reps st vs es → ∀ {i : Nat} {x : Value}, vs[i]? = some x → ∃ e b, es[i]? = some e ∧ x = .ref b ∧ Rep st b e
 | [], [], _, i, x, h => nomatch h
 | _ :: _, e :: _, ⟨⟨b, q, r⟩, t⟩, 0, x, h => by cases h; exact ⟨e, b, rfl, q, r⟩
 | _ :: _, _ :: _, ⟨_, t⟩, i + 1, x, h => t.get (i := i) h
 | [], _ :: _, h, _, _, _ => h.elim
 | _ :: _, [], h, _, _, _ => h.elim
theorem spine_len : ∀ e : Ex, (spine e).2.length < e.ht + 1
 | .app f a => by
  have := spine_len f
  show ((spine f).2 ++ [a]).length < max f.ht a.ht + 1 + 1
  rw [List.length_append]
  show _ + 1 < _
  o_head qo
 | .nm _ | .neg _ | .qu .. | .bin .. => Nat.succ_pos _
theorem isa_app {e : Ex} (h : isaE e 423 = true) : ∃ f g, e = .app f g := by cases e <;> first | exact ⟨_, _, rfl⟩ | exact Bool.noConfusion h
theorem spine_no {e : Ex} (h : isaE e 423 = false) : spine e = (e, []) := by cases e <;> first | rfl | exact Bool.noConfusion h
set_option tactic.hygienic true in
theorem uncurry_spec {a : Addr} {e : Ex} (H : At B st s) (R : Rm A 3) (Rp : Rep st a e) (ha : isaE e 423 = true) (hh : e.ht ≤ 800) : Spec B A [] st s (PySem.call (.ref 397) [.ref a]) (fun z st' v => ∃ t h la vs, v = .ref t ∧ Tup st' t [.ref h, .ref la] ∧ Rep st' h (spine e).1 ∧ Lst st' la vs ∧ Reps st' vs (spine e).2) := by
 obtain ⟨e1, e2, rfl⟩ := isa_app ha
 obtain ⟨f, g, I, R1, R2⟩ := Rp.appI
 refine' enter (d := 2) (u := 8 * (2)) (binds := (lc "self" (.ref a) [])) (ps := ["self"]) H (Rm.room R) ?ho ?hcd ?hbind ?hS ?hps ?hloc ?hbn ?hcell ?hco ?hgen ?_
 o_head m_enter
 intro Q L s₁ env A' k N R' F
 dsimp only at N
 replace R' : Rm A' (2) := R'
 o_head m_go
 refine Fx.lstW (vs := [.ref g]) ‹_› (Nat.le_of_ble_eq_true rfl) fun la n0 s2 F2 => ?_
 o_head m_go
 rename_i s3 F3 _ _ _
 refine wpAny_While ?_
 refine codeAny_whileLoop (fun m s' => ∃ st' us nn cur b, St.le st st' ∧ Fx B [] s st st' L [(la, lstO us nn)] [("function", .ref b), ("args", .ref la), ("self", .ref a)] s' ∧ Rep st' b cur ∧ cur.ht = m ∧ ∃ done, Reps st' us done ∧ (spine cur).2 ++ done = (spine (.app e1 e2)).2 ∧ (spine cur).1 = (spine (.app e1 e2)).1) ?_ e1.ht ⟨_, [.ref g], n0, e1, f, St.le.refl _, Fx.lsub F3 (by o_head m_sub), R1, rfl, [e2], ⟨⟨g, rfl, R2⟩, trivial⟩, rfl, rfl⟩
 rintro m s4 ⟨st4, us, nn, cur, b, le4, F4, Rc, hm, done, hus, hd, hb⟩
 o_head m_go
 rename_i s5 F5
 have hdl : done.length ≤ 801 := by
  have := congrArg List.length hd
  rw [List.length_append] at this
  have h2 := spine_len (.app e1 e2)
  o_head qo
 have hul := hus.len
 cases hq : isaE cur 423 with
 | true =>
  obtain ⟨c1, c2, rfl⟩ := isa_app hq
  obtain ⟨f6, g6, I6, S1, S2⟩ := Rc.appI
  o_head m_go
  refine Fx.callInsert (vs := us) ‹_› ⟨nn, .inr (by o_head m_mem)⟩ ?_
  o_head m_go
  refine Fx.insert0 ‹_› (by o_head qo) fun n7 s7 F7 => ?_
  o_head m_go
  refine ⟨c1.ht, by rw [← hm]; exact Nat.lt_succ_of_le (Nat.le_max_left _ _), st4, _, n7, c1, f6, le4, Fx.lsub ‹_› (by o_head m_sub), S1, rfl, c2 :: done, (show Reps _ (.ref g6 :: us) _ from ⟨⟨g6, rfl, S2⟩, hus⟩), by rw [← hd]; exact (List.append_cons _ _ _), hb⟩
 | false =>
  have hcur : spine cur = (cur, []) := spine_no hq
  rw [hcur] at hd hb
  dsimp only [List.nil_append] at hd hb
  subst hb hd
  obtain ⟨lef, G⟩ := F5.freeze F2.ow4
  have hus' := hus.mono lef
  have Rc' := Rc.mono lef
  have hl : Lst (st4.put la (lstO us nn)) la us := ⟨nn, St.put_self⟩
  clear F5 F4 F3 F2
  o_head m_go
  refine tup_mk ?_
  o_head m_go
  refine Fx.tupS ‹_› (Nat.le_of_ble_eq_true rfl) fun t st8 s8 le8 hT F8 => ?_
  o_head m_go
  exact Fx.ret k F8 fun st' le => ⟨t, b, la, us, rfl, hT.mono le, Rc'.mono (le8.trans le), hl.mono (le8.trans le), hus'.mono (le8.trans le)⟩
theorem pred_get (P) : (plainGet (hd.heap_39 P) 423 "pred" && hasDictIn (hd.heap_39 P) 423 && findIn (hd.heap_39 P) (.ref 423) "pred" == some (some (.ref 405)) && specialIn (hd.heap_39 P) (.ref 405) "__get__" == some (some (.builtin "property.__get__")) && takesIn (hd.heap_39 P) (.ref 405) == some true) = true := by kernel_rfl
theorem pred_rec (P) : ((recIn (hd.heap_39 P) 405 "property").bind (·.head?)) = some (.ref 404) := by kernel_rfl
theorem pred_spec {a : Addr} {e : Ex} (H : At B st s) (R : Rm A 4) (Rp : Rep st a e) (ha : isaE e 423 = true) (hh : e.ht ≤ 800) : SpecC B A st s (.call (.ref 404) ⟨[.ref a], []⟩) (fun z st' v => ∃ h, v = .ref h ∧ Rep st' h (spine e).1) := by
 obtain ⟨e1, e2, rfl⟩ := isa_app ha
 obtain ⟨f, g, I, _, _⟩ := Rp.appI
 refine' enterS (d := 3) (u := 8 * 3) (binds := [("self", .ref a)]) (ps := ["self"]) H (Rm.room R) ?ho ?hcd ?hbind ?hS ?hps ?hloc ?hbn ?hcell ?hco ?hgen ?_
 o_head m_enter
 intro Q L s₁ env A' k N R' F
 dsimp only at N
 replace R' : Rm A' 3 := R'
 o_head m_go
 refine Fx.callM0 ‹_› ((I.mono (Fx.old ‹_›)).meth (m_uncurry _) rfl) ?_
 refine Fx.callA ‹_› (fun H => uncurry_spec H (R'.le (by o_head qo)) (Rp.mono (Fx.old ‹_›)) ha hh) fun v st2 s2 le2 F2 hv => ?_
 obtain ⟨t, h, la, vs, rfl, hT, Rh, _, _⟩ := hv
 o_head m_go
 refine Fx.itemT ‹_› hT (by decide) (by decide) rfl ?_
 o_head m_go
 exact Fx.ret k ‹_› fun st' le => ⟨h, rfl, Rh.mono le⟩
theorem atom_spec {a : Addr} {e : Ex} (H : At B st s) (R : Rm A 6) (Rp : Rep st a e) (ha : isaE e 423 = true) (hh : e.ht ≤ 800) : Spec B A [] st s (PySem.call (.ref 420) [.ref a]) (fun z st' v => v = .bool (isaE (spine e).1 485)) := by
 refine' enter (d := 5) (u := 8 * (5)) (binds := (lc "self" (.ref a) [])) (ps := ["self"]) H (Rm.room R) ?ho ?hcd ?hbind ?hS ?hps ?hloc ?hbn ?hcell ?hco ?hgen ?_
 o_head m_enter
 intro Q L s₁ env A' k N R' F
 dsimp only at N
 replace R' : Rm A' (5) := R'
 o_head m_go
 obtain ⟨fs, I, _⟩ := Rp.inst
 have hcl : clsOf e = 423 := by cases e <;> first | rfl | exact Bool.noConfusion ha
 rw [hcl] at I
 have hrec : ∃ rest, recIn (hd.heap_39 B.w.params) 405 "property" = some (.ref 404 :: rest) := by
  have h := pred_rec B.w.params
  cases hr : recIn (hd.heap_39 B.w.params) 405 "property" with
  | none => rw [hr] at h; cases h
  | some l =>
   rw [hr] at h
   cases l with
   | nil => cases h
   | cons x r => cases h; exact ⟨r, rfl⟩
 obtain ⟨rest, hrec⟩ := hrec
 refine Fx.prop ‹_› (I.mono (Fx.old ‹_›)) (pred_get _) hrec (fun s' H => pred_spec H (R'.in1.le (by o_head qo)) (Rp.mono (Fx.old ‹_›)) ha hh) fun v st2 s2 le2 F2 hv => ?_
 obtain ⟨h, rfl, Rh⟩ := hv
 refine ⟨rfl, ?_⟩
 o_head m_go
 exact Fx.ret k ‹_› fun z z => rfl
noncomputable def Strs : List Ex → List PySem.Str → Prop
 | [], [] => True
 | e :: es, w :: ws => StrIs e w ∧ Strs es ws
 | _, _ => False
theorem Strs.get : ∀ {es : List Ex} {ws : List PySem.Str}, Strs es ws → ∀ {i : Nat} {e : Ex} {w : PySem.Str}, es[i]? = some e → ws[i]? = some w → StrIs e w
 | [], [], _, i, e, w, h, _ => nomatch h
 | _ :: _, _ :: _, ⟨h, _⟩, 0, e, w, h1, h2 => by cases h1; cases h2; exact h
 | _ :: _, _ :: _, ⟨_, t⟩, i + 1, e, w, h1, h2 => t.get (i := i) h1 h2
 | [], _ :: _, h, _, _, _, _, _ => h.elim
 | _ :: _, [], h, _, _, _, _, _ => h.elim
theorem Strs.len : ∀ {es : List Ex} {ws : List PySem.Str}, Strs es ws → es.length = ws.length
 | [], [], _ => rfl
 | _ :: _, _ :: _, ⟨_, t⟩ => congrArg (· + 1) t.len
 | [], _ :: _, h => h.elim
 | _ :: _, [], h => h.elim
theorem Strs.sum : ∀ {es : List Ex} {ws : List PySem.Str}, Strs es ws → (ws.map (·.length)).sum ≤ 20 * (es.map Ex.size).sum
 | [], [], _ => Nat.le_refl _
 | _ :: _, _ :: _, ⟨h, t⟩ => by
  have := t.sum
  have := h.1
  simp only [List.map_cons, List.sum_cons]
  o_head qo
 | [], _ :: _, h => h.elim
 | _ :: _, [], h => h.elim
theorem spine_size : ∀ e : Ex, (spine e).1.size + ((spine e).2.map Ex.size).sum + (spine e).2.length = e.size
 | .app f a => by
  have := spine_size f
  show (spine f).1.size + (((spine f).2 ++ [a]).map Ex.size).sum + ((spine f).2 ++ [a]).length = f.size + a.size + 1
  simp only [List.map_append, List.sum_append, List.length_append, List.map_cons, List.map_nil, List.sum_cons, List.sum_nil, List.length_cons, List.length_nil]
  o_head qo
 | .nm _ | .neg _ | .qu .. | .bin .. => rfl
theorem spine_ht : ∀ e : Ex, ∀ x ∈ (spine e).2, x.ht < e.ht
 | .app f a => fun x hx => by
  have h : x ∈ (spine f).2 ∨ x = a := by
   rcases List.mem_append.mp (show x ∈ (spine f).2 ++ [a] from hx) with h | h
   ·exact .inl h
   ·exact .inr (List.mem_singleton.mp h)
  show x.ht < max f.ht a.ht + 1
  rcases h with h | rfl
  ·have := spine_ht f x h; o_head qo
  ·o_head qo
 | .nm _ | .neg _ | .qu .. | .bin .. => fun z h => nomatch h
noncomputable def appS (k : Nm) (ws : List PySem.Str) : PySem.Str := k.str ++ "(" ++ Txt.join "," ws ++ ")"
theorem appStr {e1 e2 : Ex} {kn : Nm} {args : List Ex} {ws : List PySem.Str} (hsp : spine (.app e1 e2) = (.nm kn, args)) (h2 : Strs args ws) (hh : (Ex.app e1 e2).ht ≤ 9) : ∃ w, StrIs (.app e1 e2) w := by
 have hsz := (Ex.app e1 e2).size_ht
 have hp := Nat.pow_le_pow_right (n := 2) (j := 9) (by decide) hh
 have hss := spine_size (.app e1 e2)
 have hsl := spine_len (.app e1 e2)
 have hsh := spine_ht (.app e1 e2)
 have h800 : (Ex.app e1 e2).ht ≤ 800 := by o_head qo
 have hne : 1 ≤ (spine (.app e1 e2)).2.length := by
  show 1 ≤ ((spine e1).2 ++ [e2]).length
  rw [List.length_append]; exact Nat.le_add_left _ _
 rw [hsp] at hss hsl hsh hne
 dsimp only at hss hsl hsh hne
 have hk := kn.str_len
 have hsum := h2.sum
 have hlen := h2.len
 have hjl := join_le "," ws
 have q1 : ("," : PySem.Str).length = 1 := rfl
 have q2 : ("(" : PySem.Str).length = 1 := rfl
 have q3 : (")" : PySem.Str).length = 1 := rfl
 rw [q1, Nat.mul_one] at hjl
 have hnm : (Ex.nm kn).size = 1 := rfl
 rw [hnm] at hss
 have hok : JoinOk "," ws = true := PyProof.Rows.joinOk_of_weight (by o_head qo) (by decide)
 have hwl : (appS kn ws).length ≤ 20 * (Ex.app e1 e2).size := by
  unfold appS
  simp only [PySem.Str.length_append]
  o_head qo
 refine ⟨appS kn ws, hwl, fun {B st s A a} H R Rp => ?_⟩
 have hI : ∃ f g, Inst st a 423 [("function", .ref f), ("argument", .ref g)] := by cases Rp with | app I _ _ => exact ⟨_, _, I⟩
 obtain ⟨f, g, I⟩ := hI
 replace R : Rm A (10 * (max e1.ht e2.ht) + 10) := R
 replace hh : max e1.ht e2.ht + 1 ≤ 9 := hh
 replace hsh : ∀ x ∈ args, x.ht ≤ max e1.ht e2.ht := fun x hx => Nat.le_of_lt_succ (hsh x hx)
 have hm1 : 1 ≤ max e1.ht e2.ht := by
  have : 1 ≤ e1.ht := by cases e1 <;> exact Nat.succ_pos _
  o_head qo
 generalize max e1.ht e2.ht = m at *
 show Spec B A [] st s (PySem.call (.ref 390) [.ref a]) _
 refine' enter (d := 10 * m + 9) (u := 8 * (10 * m + 9)) (binds := (lc "self" (.ref a) [])) (ps := ["self"]) H (Rm.room R) ?ho ?hcd ?hbind ?hS ?hps ?hloc ?hbn ?hcell ?hco ?hgen ?_
 o_head m_enter
 intro Q L s₁ env A' k N R' F
 dsimp only at N
 replace R' : Rm A' (10 * m + 9) := R'
 o_head m_go
 refine Fx.callM0 ‹_› ((I.mono (Fx.old ‹_›)).meth (m_isatom _) rfl) ?_
 refine Fx.callA ‹_› (fun H => atom_spec H (R'.le (by o_head qo)) (Rp.mono (Fx.old ‹_›)) rfl h800) fun v st2 s2 le2 F2 hv => ?_
 rw [hsp] at hv
 subst hv
 o_head m_go
 refine PyProof.Rows.Assign_Tuple ?_ (by k_dflt rfl) (by k_dflt rfl)
 o_head m_go
 refine Fx.callM0 ‹_› ((I.mono (Fx.old ‹_›)).meth (m_uncurry _) rfl) ?_
 refine Fx.callA ‹_› (fun H => uncurry_spec H (R'.le (by o_head qo)) (Rp.mono (Fx.old ‹_›)) rfl h800) fun v st3 s3 le3 F3 hv => ?_
 obtain ⟨t, h, la, vs, rfl, hT, Rh, hl, hvs⟩ := hv
 rw [hsp] at Rh hvs
 dsimp only at Rh hvs
 refine Fx.unpack ‹_› R'.hh hT fun s4 F4 => ?_
 clear F3 F2
 o_head m_go
 refine Fx.joinPct (n := 10 * m) (ws := ws) ‹_› N (R'.le (by o_head qo)) (by o_head qo) hl (by o_head m_mem) (by decide) (by decide) rfl (codeHd_389 _) rfl rfl (by decide) rfl rfl rfl rfl (by rw [hvs.len, hlen]) (by o_head qo) hok (fun i x wi hx hwi => ?_) fun t9 s9 F9 => ?_
 ·obtain ⟨ex, xb, he, rfl, Rx⟩ := hvs.get hx
  obtain ⟨fs, Ix, _⟩ := Rx.inst
  have hS := h2.get he hwi
  have hm := hsh ex (List.mem_of_getElem? he)
  have hxs := ex.size_ht
  have hxp := Nat.pow_le_pow_right (n := 2) (j := 9) (by decide) (show ex.ht ≤ 9 by o_head qo)
  exact ⟨xb, _, _, fs, rfl, Ix, strB_ex _ _, by have := hS.1; o_head qo, fun G s' A' H R => hS.2 H (R.le (by o_head qo)) Rx⟩
 o_head m_go
 obtain ⟨fs, Ih, _⟩ := Rh.inst
 refine Fx.pctE ‹_› (R'.in1.le (by o_head qo)) Ih (strB_ex _ (.nm kn)) (by o_head qo) (fun H => (nmStr kn).2 H (R'.in1.le (by show 10 * 1 ≤ _; o_head qo)) Rh) fun t10 st10 s10 le10 F10 X => ?_
 have Rh' := Rh.mono le10
 clear F4 F9
 o_head m_go
 refine Fx.tokA ‹_› (by o_head m_mem) fun s11 F11 => ?_
 refine Fx.addS 6 1 ‹_› hk (by decide) (by o_head qo) fun t12 s12 hl12 F12 => ?_
 o_head m_go
 refine Fx.addS 7 ((ws.map (·.length)).sum + ws.length) ‹_› hl12 hjl (by o_head qo) fun t13 s13 hl13 F13 => ?_
 o_head m_go
 refine Fx.tokA ‹_› (by o_head m_mem) fun s14 F14 => ?_
 refine Fx.addS (7 + ((ws.map (·.length)).sum + ws.length)) 1 ‹_› hl13 (by decide) (by o_head qo) fun t15 s15 hl15 F15 => ?_
 o_head m_go
 exact Fx.ret k F15 fun z z => ⟨_, rfl⟩
theorem strip_fm {b : Bool} {e : Ex} (h : Fm e) : Fm (strip b e).2 := by
 induction h with
 | @qu c n t hn ht ih =>
  unfold strip
  split
  ·exact ih
  ·exact .qu hn ht
 | dog h => exact .dog h
 | sees h k => exact .sees h k
 | eq h k => exact .eq h k
 | neg h _ => exact .neg h
 | bin h k1 k2 _ _ => exact .bin h k1 k2
theorem str_tm {e : Ex} (h : Tm e) (hh : e.ht ≤ 9) : ∃ w, StrIs e w := by
 induction h with
 | @nm n _ => exact ⟨_, nmStr n⟩
 | @mo t ht ih =>
  have h1 : max 1 t.ht + 1 ≤ 9 := hh
  obtain ⟨w, hw⟩ := ih (by o_head qo)
  exact appStr (kn := .mother) (args := [t]) (ws := [w]) rfl ⟨hw, trivial⟩ hh
theorem str_fm : ∀ (n : Nat) {e : Ex}, Fm e → e.ht ≤ n → n ≤ 9 → ∃ w, StrIs e w
 | 0, e, _, h, _ => by cases e <;> exact absurd h (Nat.not_succ_le_zero _)
 | n + 1, e, hf, h, hn => by
  cases hf with
  | @dog t ht =>
   have h1 : max 1 t.ht + 1 ≤ n + 1 := h
   obtain ⟨w, hw⟩ := str_tm ht (by o_head qo)
   exact appStr (kn := .dog) (args := [t]) (ws := [w]) rfl ⟨hw, trivial⟩ (Nat.le_trans h hn)
  | @sees x t hx ht =>
   have h1 : max (max 1 x.ht + 1) t.ht + 1 ≤ n + 1 := h
   obtain ⟨w1, hw1⟩ := str_tm hx (by o_head qo)
   obtain ⟨w, hw⟩ := str_tm ht (by o_head qo)
   exact appStr (kn := .sees) (args := [x, t]) (ws := [w1, w]) rfl ⟨hw1, hw, trivial⟩ (Nat.le_trans h hn)
  | @eq x t hx ht =>
   have h1 : max x.ht t.ht + 1 ≤ n + 1 := h
   obtain ⟨w1, hw1⟩ := str_tm hx (by o_head qo)
   obtain ⟨w, hw⟩ := str_tm ht (by o_head qo)
   exact binStr hw1 hw (Nat.le_trans h hn)
  | @neg t ht =>
   have h1 : t.ht + 1 ≤ n + 1 := h
   obtain ⟨w, hw⟩ := str_fm n ht (by o_head qo) (by o_head qo)
   exact ⟨_, negStr hw (by o_head qo)⟩
  | @qu b k t hk ht =>
   have h1 : t.ht + 1 ≤ n + 1 := h
   have h2 := (strip_ht b t).1
   obtain ⟨w, hw⟩ := str_fm n (strip_fm (b := b) ht) (by o_head qo) (by o_head qo)
   exact quStr hw (Nat.le_trans h hn)
  | @bin o x t ho hx ht =>
   have h1 : max x.ht t.ht + 1 ≤ n + 1 := h
   obtain ⟨w1, hw1⟩ := str_fm n hx (by o_head qo) (by o_head qo)
   obtain ⟨w, hw⟩ := str_fm n ht (by o_head qo) (by o_head qo)
   exact binStr hw1 hw (Nat.le_trans h hn)
noncomputable def tbl (T : Bool → Bool → Bool → Bool) : List Bool := [T false false false, T true false false, T false true false, T true true false, T false false true, T true false true, T false true true, T true true true]
theorem tbl_get (T : Bool → Bool → Bool → Bool) (a b c : Bool) : (tbl T)[(bitI a + 2 * bitI b + 4 * bitI c).toNat]? = some (T a b c) := by cases a <;> cases b <;> cases c <;> rfl
theorem tbl_num (T : Bool → Bool → Bool → Bool) : ∀ i : Nat, i < 8 → ∃ a b c, ((i : Int).fmod 2) = bitI a ∧ (((i : Int).fdiv 2).fmod 2) = bitI b ∧ ((i : Int).fdiv 4) = bitI c ∧ (tbl T)[i]? = some (T a b c)
 | 0, _ => ⟨false, false, false, rfl, rfl, rfl, rfl⟩
 | 1, _ => ⟨true, false, false, rfl, rfl, rfl, rfl⟩
 | 2, _ => ⟨false, true, false, rfl, rfl, rfl, rfl⟩
 | 3, _ => ⟨true, true, false, rfl, rfl, rfl, rfl⟩
 | 4, _ => ⟨false, false, true, rfl, rfl, rfl, rfl⟩
 | 5, _ => ⟨true, false, true, rfl, rfl, rfl, rfl⟩
 | 6, _ => ⟨false, true, true, rfl, rfl, rfl, rfl⟩
 | 7, _ => ⟨true, true, true, rfl, rfl, rfl, rfl⟩
 | n + 8, h => absurd h (by o_head qo)
theorem dOf_at {dd a1 a2 : Addr} {x : Addr} {f g : Ex} (I : Inst st x 1135 [("d", .ref dd)]) (D : DicS B st dd [(Nm.x.str, .ref a1), (Nm.y.str, .ref a2)]) (R1 : Rep st a1 f) (R2 : Rep st a2 g) : BDAt B st x (dOf f g) := by
 refine ⟨dd, _, I, D, fun n => ?_⟩
 cases n with
 | x => exact ⟨a1, by kernel_rfl, R1⟩
 | y => exact ⟨a2, by kernel_rfl, R2⟩
 | _ => show valueAt _ _ = none; kernel_rfl
theorem Fx.callBD {lp t1 t2 v1 v2 a1 a2 : Addr} {f g : Ex} {Q E : Value → Shared → Prop} (F : Fx B md s₀ st₀ st L own l s) (R : Rm A 9) (ex : ∃ envs, A.frames = some envs ∧ ∀ env ∈ envs, env.scope.kind ≠ .module ∧ ∃ b ∈ [L], env.frame = some b) (HL : Lst st lp [.ref t1, .ref t2]) (T1 : Tup st t1 [.ref v1, .ref a1]) (T2 : Tup st t2 [.ref v2, .ref a2]) (V1 : VarAt st v1 .x) (V2 : VarAt st v2 .y) (R1 : Rep st a1 f) (R2 : Rep st a2 g)
  (h : ∀ x st' s', St.le st st' → Fx B md s₀ st₀ st' L own l s' → BDAt B st' x (dOf f g) → Q (.ref x) s') : wpAny (model B.prog B.w) A (PySem.call (.ref 1135) [.ref lp]) Q E s := by
 obtain ⟨mL, ⟨oL, esL, epL, hL, dL, rL⟩, hmL⟩ := F.ns
 have C := bd_spec (fr := [(L, oL)]) F.at R ⟨ex, fun b hb => ⟨oL, esL, epL, by rw [List.mem_singleton.mp hb]; exact hL, dL⟩⟩ (fun p hp => by rw [List.mem_singleton.mp hp]; exact ⟨hL, F.offL, Nat.le_trans F.gs F.hL⟩) (List.nodup_cons.mpr ⟨fun h => (nomatch h), .nil⟩) HL T1 T2 V1 V2 R1 R2 (fun h => by cases Nm.str_inj h)
 refine C _ _ fun v s' I X hos hΦ => ?_
 obtain ⟨x, dd, rfl, Ix, D, fr', sl, hfr'⟩ := hΦ
 cases fr' with
 | nil => exact sl.elim
 | cons q r =>
  cases r with
  | cons p r => exact sl.2.2.elim
  | nil =>
   have k1 := sl.1
   obtain ⟨sl', k2⟩ := sl.2.1
   have hL' : s'.heap.get? L = some q.2 := by have := hfr' q (.head _); rwa [← k1] at this
   obtain ⟨le, F'⟩ := F.after (own' := own) I X hos (fun b hb => .inl (List.mem_singleton.mp hb)) rfl (fun p hp => X.1 _ _ (F.notTT (F.ow p hp).2.2.2.2) (fun h => (F.ow p hp).2.2.1 (List.mem_singleton.mp h)) (F.ow p hp).1) ⟨mL, ⟨q.2, esL, epL, hL', by rw [k2]; exact dL, rL⟩, hmL⟩
   exact h x _ _ le F' (dOf_at Ix D (R1.mono le) (R2.mono le))
noncomputable def firstE (i : Int) : Ex := if i = 0 then .nm .y else if i = 1 then .app (.nm .mother) (.nm .y) else if i = 2 then .nm .w else .nm .rex
theorem first_cases {i : Int} (h0 : 0 ≤ i) (h4 : i < 4) : i = 0 ∨ i = 1 ∨ i = 2 ∨ i = 3 := by o_head qo
theorem first_get {i : Int} {a0 a1 a2 a3 : Addr} (h0 : 0 ≤ i) (h4 : i < 4) (r0 : Rep st a0 (.nm .y)) (r1 : Rep st a1 (.app (.nm .mother) (.nm .y))) (r2 : Rep st a2 (.nm .w)) (r3 : Rep st a3 (.nm .rex)) : ∃ a, ([.ref a0, .ref a1, .ref a2, .ref a3] : List Value)[i.toNat]? = some (.ref a) ∧ Rep st a (firstE i) := by
 rcases first_cases h0 h4 with rfl | rfl | rfl | rfl
 ·exact ⟨a0, rfl, r0⟩
 ·exact ⟨a1, rfl, r1⟩
 ·exact ⟨a2, rfl, r2⟩
 ·exact ⟨a3, rfl, r3⟩
noncomputable def firstR (i : Int) : Ex := if i = 0 then .nm .rex else if i = 1 then .app (.nm .mother) (.nm .rex) else if i = 2 then .nm .w else .nm .rex
theorem sub_rex {d : Nm → Option Ex} {x b : Addr} (H : At B st s) (R : Rm A 280) (Rp : Rep st b (.nm .rex)) (BD : BDAt B st x d) : Spec B A [] st s (call (.ref 253) [.ref b, .ref x]) (fun z st' w => ∃ c, w = .ref c ∧ Rep st' c (.nm .rex)) :=
 sub_spec (n := 1) (d' := fun z => none) H (R.le (by o_head qo)) Rp BD (Nat.le_refl _) (fun k hk => nomatch (show k ∈ ([] : List Nm) from hk)) (fun z z => rfl) rfl
theorem first_vars {i : Int} (h0 : 0 ≤ i) (h4 : i < 4) : ∀ k ∈ (firstE i).vars, k ≠ .x := by
 rcases first_cases h0 h4 with rfl | rfl | rfl | rfl <;> decide +kernel
theorem first_sub {i : Int} (h0 : 0 ≤ i) (h4 : i < 4) : subL 2 (dOf (firstE i) (.nm .rex)) (firstE i).vars (firstE i) = some (firstR i) ∧ (firstE i).ht ≤ 2 ∧ Tm (firstR i) ∧ .z1 ∉ (firstR i).names ∧ (∀ a ∈ (firstR i).free, ∀ b ∈ (firstR i).free, a = b) ∧ .x ∉ (firstR i).free ∧ .y ∉ (firstR i).free ∧ (firstR i).ht ≤ 2 := by
 rcases first_cases h0 h4 with rfl | rfl | rfl | rfl
 ·exact ⟨rfl, by decide +kernel, .nm rfl, by decide +kernel, by decide +kernel, by decide +kernel, by decide +kernel, by decide +kernel⟩
 ·exact ⟨rfl, by decide +kernel, .mo (.nm rfl), by decide +kernel, by decide +kernel, by decide +kernel, by decide +kernel, by decide +kernel⟩
 ·exact ⟨rfl, by decide +kernel, .nm rfl, by decide +kernel, by decide +kernel, by decide +kernel, by decide +kernel, by decide +kernel⟩
 ·exact ⟨rfl, by decide +kernel, .nm rfl, by decide +kernel, by decide +kernel, by decide +kernel, by decide +kernel, by decide +kernel⟩
theorem sub_first {i : Int} {x b : Addr} (h0 : 0 ≤ i) (h4 : i < 4) (H : At B st s) (R : Rm A 300) (Rp : Rep st b (firstE i)) (BD : BDAt B st x (dOf (firstE i) (.nm .rex))) : Spec B A [] st s (call (.ref 253) [.ref b, .ref x]) (fun z st' w => ∃ c, w = .ref c ∧ Rep st' c (firstR i)) := by
 obtain ⟨h1, h2, _⟩ := first_sub h0 h4
 refine sub_spec (n := 2) (d' := dOf (firstE i) (.nm .rex)) H (R.le (by o_head qo)) Rp BD h2 (fun k hk v hv => ?_) (fun z h => h) h1
 have hx := first_vars h0 h4 k hk
 cases k with
 | x => exact absurd rfl hx
 | y =>
  cases hv
  exact ⟨.nm .rex, rfl, by decide, fun st' s' A' b H' R' Rb BD' => sub_rex H' (R'.le (by o_head qo)) Rb BD'⟩
 | _ => cases hv
theorem Fx.orB {c : Bool} {G : Value → Shared → Prop} {E : Value → Shared → Prop} {t : Sem Value} (d : Bool) (F : Fx B md s₀ st₀ st L own l s) (h1 : ∀ G' : Value → Shared → Prop, (∀ s', Fx B md s₀ st₀ st L own l s' → G' (.bool d) s') → wpAny (model B.prog B.w) A t G' E s) (h2 : ∀ s', Fx B md s₀ st₀ st L own l s' → G (.bool (c || d)) s') :
  if c = true then G (.bool c) s else wpAny (model B.prog B.w) A t G E s := by
 cases c with
 | true => exact h2 s F
 | false => exact h1 G h2
theorem Fx.ifMid {c : Bool} {t1 t2 : Sem Value} {G E : Value → Shared → Prop} (P : St → Value → Prop) (F : Fx B md s₀ st₀ st L own l s) (h1 : c = true → wpAny (model B.prog B.w) A t1 (fun v s' => ∃ st', St.le st st' ∧ Fx B md s₀ st₀ st' L own l s' ∧ P st' v) E s) (h2 : c = false → wpAny (model B.prog B.w) A t2 (fun v s' => ∃ st', St.le st st' ∧ Fx B md s₀ st₀ st' L own l s' ∧ P st' v) E s) (h3 : ∀ v st' s', St.le st st' → Fx B md s₀ st₀ st' L own l s' → P st' v → G v s') :
  if c = true then wpAny (model B.prog B.w) A t1 G E s else wpAny (model B.prog B.w) A t2 G E s := by
 cases c with
 | true => exact wpAny_mono (h1 rfl) (fun v s' ⟨st', k1, k2, k3⟩ => h3 v st' s' k1 k2 k3) fun z z y => y
 | false => exact wpAny_mono (h2 rfl) (fun v s' ⟨st', k1, k2, k3⟩ => h3 v st' s' k1 k2 k3) fun z z y => y
theorem Fx.andF {c : Bool} {G : Bool → Shared → Prop} {E : Value → Shared → Prop} {t : Sem Bool} (F : Fx B md s₀ st₀ st L own l s) (h1 : c = true → ∀ G' : Bool → Shared → Prop, (∀ s', Fx B md s₀ st₀ st L own l s' → G' false s') → wpAny (model B.prog B.w) A t G' E s) (h2 : ∀ s', Fx B md s₀ st₀ st L own l s' → G false s') :
  if c = true then wpAny (model B.prog B.w) A t G E s else G false s := by
 cases c with
 | true => exact h1 rfl G h2
 | false => exact h2 s F
theorem tell_ex {e : Ex} {m : Nat} (h : Form e m) (W : Wd) : ∃ T : Bool → Bool → Bool → Bool, ∀ a b c, tr W (plc a b c) e = some (T a b c) :=
 ⟨fun a b c => (tr W (plc a b c) e).getD false, fun a b c => by
  obtain ⟨v, hv⟩ := form_tr h W a b c
  simp [hv]⟩
theorem Fx.placeD {i1 i2 i3 : Int} {ca cb cc : Bool} {t1 t2 t3 k1 k2 k3 : Tok} {dd : Addr} {Q : Value → Shared → Prop} (hge : s₀.heap.objs.size ≤ dd) (F : Fx B md s₀ st₀ st L ((dd, { cls := .type "dict", data := .dict #[] }) :: own) l s) (h1 : i1 = bitI ca) (h2 : i2 = bitI cb) (h3 : i3 = bitI cc)
  (h : ∀ st' s', St.le st st' → Fx B md s₀ st₀ st' L own l s' → PlaceAt B st' dd (plc ca cb cc) 3 → Q (.ref dd) s') : dispQ B md s₀ st₀ st L own l dd Q [(.str "x" k1, .int i1 t1), (.str "y" k2, .int i2 t2), (.str "w" k3, .int i3 t3)] s := by
 subst h1 h2 h3
 refine ⟨[("x", .int (bitI ca) t1), ("y", .int (bitI cb) t2), ("w", .int (bitI cc) t3)], ⟨by kernel_rfl, rfl, by kernel_rfl, rfl, by kernel_rfl, rfl, trivial⟩, F, fun o' s' hd F' => ?_⟩
 have D := F'.dicS hd
 obtain ⟨le, G⟩ := Fx.freeze F' hge
 refine h _ s' le G ⟨_, D, Nat.le_of_ble_eq_true (by kernel_rfl), fun n b hb => ?_⟩
 cases n with
 | x => cases hb; exact ⟨t1, by kernel_rfl⟩
 | y => cases hb; exact ⟨t2, by kernel_rfl⟩
 | w => cases hb; exact ⟨t3, by kernel_rfl⟩
 | _ => cases hb
theorem put_plc {n : Nm} (h : n = .x ∨ n = .y ∨ n = .w) (a b c v : Bool) : ∃ a' b' c', (plc a b c).put n v = plc a' b' c' := by
 rcases h with rfl | rfl | rfl
 ·exact ⟨v, b, c, funext fun k => by cases k <;> rfl⟩
 ·exact ⟨a, v, c, funext fun k => by cases k <;> rfl⟩
 ·exact ⟨a, b, v, funext fun k => by cases k <;> rfl⟩
theorem first_th {i : Int} (h0 : 0 ≤ i) (h4 : i < 4) (W : Wd) (a b c : Bool) : ∃ v, th W (plc false W.rex c) (firstE i) = some v ∧ th W (plc a b c) (firstR i) = some v := by
 rcases first_cases h0 h4 with rfl | rfl | rfl | rfl
 ·exact ⟨W.rex, rfl, rfl⟩
 ·exact ⟨W.mother W.rex, rfl, rfl⟩
 ·exact ⟨c, rfl, rfl⟩
 ·exact ⟨W.rex, rfl, rfl⟩
theorem free_vars {e : Ex} {k : Nm} (h : k ∈ e.free) : k ∈ e.vars := (mem_foldU (nss := [e.free, []]) (f := [])).mpr (.inr ⟨_, .head _, h⟩)
theorem upd_tr {e : Ex} {m : Nat} (h : Form e m) (W : Wd) (a b c v : Bool) : tr W (upd e.vars v W.rex (plc a b c)) e = tr W (plc v W.rex c) e := tr_congr h.fm fun k hk => by
 have hk' := free_vars hk
 rcases free_base h.names hk with rfl | rfl | rfl
 ·exact if_pos ⟨rfl, hk'⟩
 ·exact (if_neg fun h => nomatch h.1).trans (if_pos ⟨rfl, hk'⟩)
 ·exact (if_neg fun h => nomatch h.1).trans (if_neg fun h => nomatch h.1)
theorem bool_get {T : Bool → Bool → Bool → Bool} {i : Nat} {b : Bool} (h : (tbl T)[i]? = some b) : (bools (tbl T))[i]? = some (.bool b) := by
 unfold bools
 rw [List.getElem?_map, h]
 rfl
theorem idx_ok (a b c : Bool) : 0 ≤ bitI a + 2 * bitI b + 4 * bitI c ∧ bitI a + 2 * bitI b + 4 * bitI c < 2 ^ 63 := by cases a <;> cases b <;> cases c <;> decide
theorem Fx.hideL {X : Prop} (F : Fx B md s₀ st₀ st L own l s) (h : ∀ lv : List (Str × Value), lv = l → Fx B md s₀ st₀ st L own lv s → X) : X := h l rfl F
theorem inner_ok {ci : Int} {x : Addr} (h0 : 0 ≤ ci) (h4 : ci < 4) {ks : List Nm} : ∀ k ∈ ks, ∀ v, dOf (firstE ci) (.nm .rex) k = some v → ∃ v', dOf (firstR ci) (.nm .rex) k = some v' ∧ v'.ht ≤ 6 ∧ ∀ (st' : St) (s' : Shared) (A' : Around) (b : Addr), At B st' s' → Rm A' (24 * 10 + 240) → Rep st' b v → BDAt B st' x (dOf (firstE ci) (.nm .rex)) → Spec B A' [] st' s' (call (.ref 253) [.ref b, .ref x]) (fun z st' w => ∃ c, w = .ref c ∧ Rep st' c v') := fun k z v hv => by
 cases k with
 | x =>
  obtain rfl : firstE ci = v := Option.some.inj hv
  exact ⟨_, rfl, Nat.le_trans (first_sub h0 h4).2.2.2.2.2.2.2 (by decide), fun st' s' A' b H' R' Rb BD' => sub_first h0 h4 H' (R'.le (by o_head qo)) Rb BD'⟩
 | y =>
  obtain rfl : Ex.nm .rex = v := Option.some.inj hv
  exact ⟨.nm .rex, rfl, by decide, fun st' s' A' b H' R' Rb BD' => sub_rex H' (R'.le (by o_head qo)) Rb BD'⟩
 | _ => exact nomatch (show (none : Option Ex) = some v from hv)
theorem dOf_none {f f' g g' : Ex} (k : Nm) (h : dOf f g k = none) : dOf f' g' k = none := by
 cases k <;> first | rfl | exact nomatch (show some _ = none from h)
theorem Fx.dispXYW {env : Env} {names : List (Str × NameKind)} {cl : List (Str × Addr)} {qual : Str} {cd : Value} {p1 p2 p3 p4 p5 p6 q1 q2 q3 q4 q5 r1 r2 r3 pos : Pos} {k1 k2 k3 k4 k5 k6 k7 i : Nat} {tk : Tok} {ca cb cc : Bool} {Q E : Value → Shared → Prop} (F : Fx B md s₀ st₀ st L own l s) (N : En env L names cl qual cd) (hv : (("number" : Str), Value.int i tk) ∈ l) (hx : (("number" : Str), NameKind.local) ∈ names)
  (hx1 : ((i : Int).fmod 2) = bitI ca) (hx2 : (((i : Int).fdiv 2).fmod 2) = bitI cb) (hx3 : ((i : Int).fdiv 4) = bitI cc)
  (h : ∀ dd st' s', St.le st st' → Fx B md s₀ st₀ st' L own l s' → PlaceAt B st' dd (plc ca cb cc) 3 → Q (.ref dd) s') :
  wpAny (model B.prog B.w) A (eval (.Dict [some (.Constant (.str "x") k1 p1), some (.Constant (.str "y") k2 p2), some (.Constant (.str "w") k3 p3)]
   [.BinOp (.Name "number" p4) .Mod (.Constant (.int 2) k4 p5) p6, .BinOp (.BinOp (.Name "number" q1) .FloorDiv (.Constant (.int 2) k5 q2) q3) .Mod (.Constant (.int 2) k6 q4) q5, .BinOp (.Name "number" r1) .FloorDiv (.Constant (.int 4) k7 r2) r3] pos) env) Q E s := by
 refine Fx.dispD (h0 := List.cons_ne_nil _ _) (hlen := Nat.le_of_ble_eq_true rfl) F fun dd s45 hge F45 => ?_
 refine PySem.pairTrees_cons_walk ?_
 o_head m_go
 refine PySem.pairTrees_cons_walk ?_
 o_head m_go
 refine PySem.pairTrees_cons_walk ?_
 o_head m_go
 refine PySem.pairTrees_nil_walk ?_
 exact Fx.placeD hge ‹_› hx1 hx2 hx3 (h dd)
theorem strL_get {xs : List (Str × Tok)} {ns : List Nm} (h : xs.map (·.1) = ns.map Nm.str) {i : Nat} {x : Value} (hx : (strL xs)[i]? = some x) : ∃ k t, ns[i]? = some k ∧ x = .str k.str t := by
 unfold strL at hx
 rw [List.getElem?_map] at hx
 obtain ⟨p, hp, rfl⟩ := Option.map_eq_some_iff.mp hx
 have e : (xs.map (·.1))[i]? = some p.1 := by rw [List.getElem?_map, hp]; rfl
 rw [h, List.getElem?_map] at e
 obtain ⟨k, hk, e⟩ := Option.map_eq_some_iff.mp e
 exact ⟨k, p.2, hk, by rw [e]⟩
theorem strL_len {xs : List (Str × Tok)} {ns : List Nm} (h : xs.map (·.1) = ns.map Nm.str) : (strL xs).length = ns.length := by
 have := congrArg List.length h
 rw [List.length_map, List.length_map] at this
 exact (List.length_map _).trans this
theorem Fx.mid {t : Sem Value} {Q E : Value → Shared → Prop} (P : St → Value → Prop) (F : Fx B md s₀ st₀ st L own l s) (h1 : wpAny (model B.prog B.w) A t (fun v s' => ∃ st', St.le st st' ∧ Fx B md s₀ st₀ st' L own l s' ∧ P st' v) E s) (h2 : ∀ v st' s', St.le st st' → Fx B md s₀ st₀ st' L own l s' → P st' v → Q v s') : wpAny (model B.prog B.w) A t Q E s :=
 wpAny_mono h1 (fun v s' ⟨st', k1, k2, k3⟩ => h2 v st' s' k1 k2 k3) fun z z y => y
theorem strs_L : ∀ xs : List (Str × Tok), StrsAre (strL xs) (xs.map (·.1))
 | [] => .nil
 | _ :: r => .cons _ _ (strs_L r)
theorem str_nodup {l : List Nm} (h : l.Nodup) : (l.map Nm.str).Nodup := List.pairwise_map.mpr (h.imp fun q e => q (Nm.str_inj e))
theorem due_perm {e x put : Ex} {n : Nm} (MP : Made e n x put) {qs : List Str} (hnd : qs.Nodup) (hm : ∀ j, j ∈ qs ↔ j ∈ (((lawFree e []).filter fun k => !(k == n)) ++ (if (lawFree e []).any (· == n) then lawFree x [] else [])).map Nm.str) : List.Perm qs (put.free.map Nm.str) := by
 refine (List.perm_ext_iff_of_nodup hnd (str_nodup (free_nodup put))).mpr fun j => ?_
 have hin : (lawFree e []).any (· == n) = true ↔ n ∈ e.free := by
  rw [List.any_eq_true]
  constructor
  ·rintro ⟨k, h1, h2⟩
   exact (beq_iff_eq.mp h2) ▸ (mem_lawFree.mp h1).1
  ·exact fun h => ⟨n, mem_lawFree.mpr ⟨h, fun h => nomatch h⟩, beq_iff_eq.mpr rfl⟩
 have key : ∀ k, (k ∈ ((lawFree e []).filter fun k => !(k == n)) ++ (if (lawFree e []).any (· == n) then lawFree x [] else [])) ↔ k ∈ put.free := fun k => by
  rw [MP.free, List.mem_append, List.mem_filter, mem_lawFree]
  have h1 : (!(k == n)) = true ↔ k ≠ n := by simp
  rw [h1]
  have h2 : (k ∈ (if (lawFree e []).any (· == n) then lawFree x [] else [])) ↔ n ∈ e.free ∧ k ∈ x.free := by
   by_cases q : n ∈ e.free
   ·rw [if_pos (hin.mpr q), mem_lawFree]
    exact ⟨fun h => ⟨q, h.1⟩, fun h => ⟨h.2, fun h => nomatch h⟩⟩
   ·rw [if_neg (fun h => q (hin.mp h))]
    exact ⟨fun h => (nomatch h), fun h => absurd h.1 q⟩
  rw [h2]
  exact or_congr ⟨fun h => ⟨h.1.1, h.2⟩, fun h => ⟨⟨h.1, fun h => nomatch h⟩, h.2⟩⟩ Iff.rfl
 rw [hm]
 simp only [List.mem_map, key]
set_option maxHeartbeats 40000000 in
set_option tactic.hygienic true in
theorem law_spec {a : Addr} {vs : List Value} (H : At B st s) (hl : Lst st a vs) (hv : ∀ v ∈ vs, ∃ c t, v = .int c t) (hn : vs.length < 2 ^ 62) (R : Rm A 601) (FS : Frs A [] s.heap) : Spec B A [] st s (PySem.call (.ref 1213) [.ref a]) (fun z z v => v = .bool true) := by
 refine' enterCF (n := 600) (x := "name") (binds := [("script", .ref a)]) (ps := ["script"]) H R FS ?ho ?hcd ?hbind ?hS ?hps ?hbn ?hll ?hx ?hxp ?honly ?hco ?hgen ?_
 (case ho => k_is); (case hcd => k_is); (case hbind => exact BindsTo.of_eq rfl); (case hS => exact ⟨rfl, by decide, by decide⟩); (case hps => exact rfl); (case hbn => decide); (case hll => decide); (case hx => decide); (case hxp => decide); (case honly => exact fun z => rfl); (case hco => rfl); (case hgen => rfl)
 intro Q E' L s₁ env A' oc k N R' FS1 hoc F
 dsimp only at N
 o_head m_go
 rename_i t1 s1 F1
 have fresh : ∀ {b : Addr} {st' : St} {s' : Shared}, (∀ b o, st' b = some o → s'.heap.get? b = some o) → s'.heap.objs.size ≤ b → st' b = none := fun {b st' s'} hle hb => by
  cases q : st' b with
  | none => rfl
  | some o => exact absurd (Heap.lt_size (hle _ _ q)) (Nat.not_lt.mpr hb)
 refine Fx.callA F1 (fun H => box_spec (kk := 0) H (hl.mono F1.old) hv hn (by decide) (R'.le (by o_head qo))) fun v st2 s2 le2 F2 hv2 => ?_
 obtain ⟨b0, o0, c0, rfl, hz0, ho0, hb0⟩ := hv2
 have n0 := fresh F1.le hz0
 have F3 := F2.thaw ho0 (fresh H.le (Nat.le_trans F1.ext.2 hz0)) (Nat.le_trans F1.ext.2 hz0)
 have le3 := St.cut_le le2 n0
 clear F2
 o_head m_go
 rename_i t4 s4 F4
 refine Fx.callTB F4 (fun H => take_spec H F4.ow1 hb0 F4.ow2 F4.ow5 (by decide) (by decide) (R'.le (by o_head qo))) fun tw o5 st5 s5 le5 F5' z => ?_
 have F5 := F5'.drop (List.sublist_cons_self _ _)
 have le6 : St.le st st5 := (F1.old.trans le3).trans le5
 generalize c0.fmod 512 = world at F5
 clear F4 F3 F1 le3 le5 hb0 n0
 o_head m_go
 rename_i t7 s7 F7
 refine Fx.callA F7 (fun H => box_spec (kk := 1) H (hl.mono F7.old) hv hn (by decide) (R'.le (by o_head qo))) fun v st8 s8 le8 F8 hv8 => ?_
 obtain ⟨b1, o1, c1, rfl, hz1, ho1, hb1⟩ := hv8
 have n1 := fresh F7.le hz1
 have F9 := F8.thaw ho1 (fresh H.le (Nat.le_trans F7.ext.2 hz1)) (Nat.le_trans F7.ext.2 hz1)
 have le9 := St.cut_le le8 n1
 clear F8
 o_head m_go
 rename_i t10 s10 F10
 refine Fx.callRB F10 (fun H => form_all 3 (by decide) H F10.ow1 hb1 F10.ow2 F10.ow5 (by decide) (by decide) (R'.le (by decide))) fun ea o11 st11 s11 le11 F11' Re z => ?_
 have F11 := F11'.drop (List.sublist_cons_self _ _)
 have FE := formE_form 3 c1 3
 generalize (formE 3 c1 3).1 = e at Re FE
 clear F10 F9 F7 le9 le11 le8 hb1 n1 ho1 hz1
 obtain ⟨we, hwe⟩ := str_fm 7 FE.fm FE.ht (by decide)
 o_head m_go
 have Ie := Re.inst
 obtain ⟨fs, Ie, _⟩ := Ie
 have hht := FE.ht
 refine Fx.callStr ‹_› (R'.in1.in1.le (by o_head qo)) Ie (strB_ex _ e) (fun H => hwe.2 H (R'.in1.in1.le (by o_head qo)) Re) fun t13 st13 s13 le13 F13 => ?_
 have Re13 := Re.mono le13
 o_head m_go
 rename_i t14 s14 F14
 refine Fx.callA F14 (fun H => box_spec (kk := 2) H (hl.mono F14.old) hv hn (by decide) (R'.le (by o_head qo))) fun v st15 s15 le15 F15 hv15 => ?_
 obtain ⟨b2, o2, c2, rfl, hz2, ho2, hb2⟩ := hv15
 have n2 := fresh F14.le hz2
 have F16 := F15.thaw ho2 (fresh H.le (Nat.le_trans F14.ext.2 hz2)) (Nat.le_trans F14.ext.2 hz2)
 have le16 := St.cut_le le15 n2
 have Re16 := Re13.mono le16
 clear F15 F14 F13
 replace F16 := Fx.lsub (l' := (lc "kept" (.str we t13) (lc "e" (.ref ea) (lc "world" (.int world tw) [])))) F16 (by o_head m_sub)
 o_head m_go
 rename_i t17 _ s17 F17
 refine Fx.callTB F17 (fun H => take_spec H F17.ow1 hb2 F17.ow2 F17.ow5 (by decide) (by decide) (R'.le (by o_head qo))) fun t18 o18 st18 s18 le18 F18 hb18 => ?_
 obtain ⟨hi0, hi3⟩ := fmod_b c2 3 (by decide)
 have hnv := nmOf_var hi0 hi3
 refine Fx.itemXyw F18 hi0 hi3 fun t19 s19 F19 => ?_
 generalize nmOf (c2.fmod 3) = n at hnv F19
 refine Fx.storeC (F19.ownPerm (List.Perm.swap ..)) N (by decide) hoc (Nat.le_trans F19.hL (Nat.le_succ _)) fun st20 s20 le20 CC F20 => ?_
 have Re20 := Re16.mono (le18.trans le20)
 clear F19 F18 F17 F16 hb2 n2 ho2
 o_head m_go
 refine Fx.callRB F20 (fun H => term_spec H F20.ow1 hb18 F20.ow2 F20.ow5 (R'.le (by o_head qo))) fun ta o21 st21 s21 le21 F21 Rt hb21 => ?_
 have Re21 := Re20.mono le21
 have CC21 := CC.mono le21
 clear F20 hb18
 generalize c2.fdiv 3 = cq at Rt hb21
 obtain ⟨put, hput, MP⟩ := law_put FE hnv cq (k := 7) (Nat.le_refl _)
 have TT2 := termE_tm cq
 have Tht := termE_ht cq
 generalize termC cq = c3 at hb21
 o_head m_go
 refine Fx.callM ‹_› (Rep.methN (Re21.mono (St.le.refl _)) (m_replace _ e)) ?_
 o_head m_go
 refine Fx.callR ‹_› (fun H => mkVar H (R'.le (by o_head qo))) fun va st22 s22 le22 F22 Iv => ?_
 have Va : VarAt st22 va n := ⟨_, Iv⟩
 o_head m_go
 refine Fx.callR ‹_› (fun H => repl_all 7 (rb := false) (kw := []) H (R'.le (by o_head qo)) (.inr (.inr (.inl ⟨rfl, rfl, rfl⟩))) (Re21.mono le22) Va (Rt.mono le22) hht (by o_head qo) hput) fun pa st23 s23 le23 F23 Rput => ?_
 have Re23 := Re21.mono (le22.trans le23)
 have Rt23 := Rt.mono (le22.trans le23)
 have CC23 := CC21.mono (le22.trans le23)
 clear F22 F21
 o_head m_go
 refine Fx.lstS (vs := []) ‹_› (Nat.zero_le _) fun l1 st24 s24 le24 hl1 F24 => ?_
 o_head m_go
 refine Fx.callA ‹_› (fun H => lawfree_all e (bd := []) H (R'.le (by o_head qo)) (Re23.mono le24) ⟨l1, [], rfl, hl1, rfl⟩ (by show 0 + e.ht ≤ _; o_head qo) (by o_head qo)) fun v st25 s25 le25 F25 hfr => ?_
 have Re25 := Re23.mono (le24.trans le25)
 have Rt25 := Rt23.mono (le24.trans le25)
 have Rp25 := Rput.mono (le24.trans le25)
 have CC25 := CC23.mono (le24.trans le25)
 obtain ⟨fa, xs, rfl, hfa, hxs⟩ := hfr
 clear F24 F23
 o_head m_go
 have hns : (strL xs).length ≤ 128 := by
  have h1 := lawFree_len e []
  have h2 : 2 ^ e.ht ≤ 2 ^ 7 := Nat.pow_le_pow_right (by decide) hht
  rw [strL_len hxs]
  o_head qo
 have hclo : closOf [("name", L + 1)] [(".0", NameKind.local), ("one", NameKind.local), ("name", NameKind.free)] [] = some ([("name", L + 1)] : List (Str × Addr)) := by kernel_rfl
 refine comp_mk [("name", L + 1)] ‹_› hclo rfl (by decide) ?_
 o_head m_go
 refine Fx.compL (fun i z us => ∃ ys, us = strL ys ∧ ys.map (·.1) = (((lawFree e []).take i).filter fun k => !(k == n)).map Nm.str) ‹_› N R'.hh ⟨rfl, by decide, by decide⟩ (by decide) (by decide) (by decide) hfa (by o_head qo) ⟨[], rfl, rfl⟩ ?_ ?_
 ·intro i x st3 us C env3 ow s3 E3 hx le3 hJ N3 F3
  obtain ⟨ys, rfl, hys⟩ := hJ
  replace N3 : En env3 C [(".0", NameKind.local), ("one", NameKind.local), ("name", NameKind.cell)] [("name", L + 1)] _ _ := N3
  have CC3 : Cells st3 [("name", L + 1)] [("name", .str n.str t19)] := (CC25.clos hclo (by decide) (cb' := [("name", .str n.str t19)]) (List.forall_mem_cons.mpr ⟨⟨by o_head m_mem, by o_head m_mem⟩, fun z h => nomatch h⟩)).mono le3
  obtain ⟨k1, t1, hk, rfl⟩ := strL_get hxs hx
  refine tests_one ?_
  o_head m_go
  refine Fx.neT ‹_› ?_
  rw [Nm.str_beq]
  cases hb : (k1 == n) with
  | true =>
   o_head m_go
   refine ⟨_, St.le.refl _, ‹_›, ?_⟩
   rw [take_snoc hk, List.filter_append]
   exact ⟨ys, rfl, by simpa [hb] using hys⟩
  | false =>
   o_head m_go
   refine ⟨_, St.le.refl _, ‹_›, ?_⟩
   rw [take_snoc hk, List.filter_append]
   exact ⟨ys ++ [(k1.str, t1)], (strL_append _ [(k1.str, t1)]), by simpa [hb] using hys⟩
 ·intro st3 us n3 D s3 le3 hJ F3
  obtain ⟨ys, rfl, hys⟩ := hJ
  rw [strL_len hxs, List.take_length] at hys
  obtain ⟨le4, F4⟩ := Fx.freeze F3 F3.ow4
  have hD : Lst (st3.put D (lstO (strL ys) n3)) D (strL ys) := ⟨n3, St.put_self⟩
  have le5 := le3.trans le4
  clear F3
  generalize st3.put D (lstO (strL ys) n3) = st4 at F4 hD le5 le4
  refine Fx.mid (fun st' v => NmL st' v (if (lawFree e []).any (· == n) then lawFree (termE cq) [] else [])) F4 ?_ ?_
  ·o_head m_go
   refine Fx.inStrs ‹_› (hfa.mono le5).la ?_
   rw [any_str hxs]
   cases hin : (lawFree e []).any (· == n) with
   | true =>
    o_head m_go
    refine Fx.lstS (vs := []) ‹_› (Nat.zero_le _) fun l5 st5 s5 le6 hl5 F5 => ?_
    o_head m_go
    refine Fx.callA ‹_› (fun H => lawfree_all (termE cq) (bd := []) H (R'.le (by o_head qo)) (Rt25.mono (le5.trans le6)) ⟨l5, [], rfl, hl5, rfl⟩ (by show 0 + (termE cq).ht ≤ _; o_head qo) (by o_head qo)) fun v st6 s6 le7 F6 hfr => ?_
    exact ⟨_, le6.trans le7, F6, hfr⟩
   | false =>
    o_head m_go
    refine Fx.lstS (vs := []) ‹_› (Nat.zero_le _) fun l5 st5 s5 le6 hl5 F5 => ?_
    exact ⟨_, le6, F5, l5, [], rfl, hl5, rfl⟩
  intro v st5 s5 le6 F5 hfr
  obtain ⟨lb, zs, rfl, hlb, hzs⟩ := hfr
  have hlen5 : (strL zs).length ≤ 4 := by
   rw [strL_len hzs]
   split
   ·have h1 := lawFree_len (termE cq) []
    have h2 : 2 ^ (termE cq).ht ≤ 2 ^ 2 := Nat.pow_le_pow_right (by decide) Tht
    o_head qo
   ·exact Nat.zero_le _
  have hlen4 : (strL ys).length ≤ 128 := by
   have h1 := List.length_filter_le (fun k => !(k == n)) (lawFree e [])
   rw [strL_len hys]
   rw [strL_len hxs] at hns
   o_head qo
  refine Fx.addL F5 (hD.mono le6).la hlb.la (by o_head qo) fun l6 st6 s6 le7 hl6 F6 => ?_
  rw [strL_append] at hl6
  have hdue : (ys ++ zs).map (·.1) = (((lawFree e []).filter fun k => !(k == n)) ++ (if (lawFree e []).any (· == n) then lawFree (termE cq) [] else [])).map Nm.str := by
   rw [List.map_append, List.map_append, hys, hzs]
  have le8 := (le5.trans le6).trans le7
  have Re6 := Re25.mono le8
  have Rt6 := Rt25.mono le8
  have Rp6 := Rp25.mono le8
  have CC6 := CC25.mono le8
  clear F4 F5
  o_head m_go
  refine Fx.callSet ‹_› R'.in1.in1.hh hl6.la (strs_L _) (by rw [← strL_append, List.length_append]; o_head qo) fun S oS qs s7 F7 hS hm => ?_
  have hnd : qs.Nodup := by
   obtain ⟨es, ep, t, _, _, _, _, hnd, _⟩ := hS
   exact hnd
  have hpm := due_perm MP hnd (fun j => by rw [hm, hdue])
  have hq60 : qs.length ≤ 60 := by
   have h1 := nm_len (free_nodup put)
   rw [hpm.length_eq, List.length_map]
   o_head qo
  o_head m_go
  refine Fx.sortedSet F7 R'.hh hS hq60 fun la st8 s8 xs8 qs8 le8' F8 hl8 hs8 hp8 hsort8 => ?_
  have F9 := F8.drop (List.sublist_cons_self _ _)
  have le9 := (le5.trans le6).trans (le7.trans le8')
  have Rp9 := Rp6.mono le8'
  clear F8 F7 F6
  o_head m_go
  refine comp_mk [] ‹_› rfl rfl (by decide) ?_
  o_head m_go
  refine Fx.callM0 ‹_› (Rep.methN (Rp9.mono (St.le.refl _)) (m_free _ put)) ?_
  refine Fx.callA ‹_› (fun H => free_all put H (R'.le (by have := MP.ht; o_head qo)) Rp9) fun v st10 s10 le10 F10 hv => ?_
  obtain ⟨l10, vs10, rfl, hl10, hv10⟩ := hv
  refine Fx.compL (fun i z us => ∃ ws, us = strL ws ∧ ws.map (·.1) = (put.free.take i).map Nm.str) F10 N R'.hh ⟨rfl, by decide, by decide⟩ (by decide) (by decide) (by decide) hl10 (by have := hv10.len; have := nm_len (free_nodup put); o_head qo) ⟨[], rfl, rfl⟩ ?_ ?_
  ·intro i x st11 us C env11 ow s11 E11 hx le11 hJ N11 F11
   obtain ⟨ws, rfl, hws⟩ := hJ
   replace N11 : En env11 C [(".0", NameKind.local), ("v", NameKind.local)] [] _ _ := N11
   obtain ⟨k, kb, hk, rfl, Vk⟩ := (hv10.mono le11).get' hx
   refine tests_nil ?_
   o_head m_go
   refine ⟨_, St.le.refl _, ‹_›, ?_⟩
   rw [take_snoc hk]
   refine ⟨ws ++ [(k.str, _)], (strL_append _ [(k.str, _)]), by simp [hws]⟩
  intro st11 us n11 D2 s11 le11 hJ F11
  obtain ⟨ws, rfl, hws⟩ := hJ
  rw [hv10.len, List.take_length] at hws
  obtain ⟨le12, F12⟩ := Fx.freeze F11 F11.ow4
  have hD2 : Lst (st11.put D2 (lstO (strL ws) n11)) D2 (strL ws) := ⟨n11, St.put_self⟩
  clear F11
  generalize st11.put D2 (lstO (strL ws) n11) = st12 at F12 hD2 le12
  o_head m_go
  refine Fx.sortedL F12 hD2.la (strs_L _) (by have := nm_len (free_nodup put); rw [hws, List.length_map]; o_head qo) fun la2 st13 s13 xs13 qs13 le13 F13 hl13 hs13 hp13 hsort13 => ?_
  have le14 := le10.trans (le11.trans (le12.trans le13))
  rw [sorted_same hsort8 hsort13 (hp8.trans (hpm.trans (by rw [← hws]; exact hp13.symm)))] at hs8
  refine Fx.neLists F13 (by have := R'.u; o_head qo) (hl8.mono le14).la hl13.la hs8 hs13 ?_
  have Re14 := Re6.mono (le8'.trans le14)
  have Rt14 := Rt6.mono (le8'.trans le14)
  have Rp14 := Rp9.mono le14
  have CC14 := CC6.mono (le8'.trans le14)
  clear hsort13 hp13 hs13 hl13 hD2 hsort8 hp8 hs8 hl8 hm hS hdue hl6 hzs hlb hys hD hxs hfa hl10 hv10 hws hnd hpm F12 F10 F9 le14 le13 le12 le11 le10 le9 le8' le8 le7 le6 le5 le4 le3 Re6 Rt6 Rp6 CC6 Re25 Rt25 Rp25 CC25 Re23 Rt23 CC23 Re21 CC21 Re20 CC Re16 Re13 Re
  replace F13 := Fx.lsub (l' := (lc "put" (.ref pa) (lc "term" (.ref ta) (lc "box" (.ref b2) (lc "kept" (.str we t13) (lc "e" (.ref ea) (lc "world" (.int world tw) []))))))) F13 (by o_head m_sub)
  o_head m_go
  refine Fx.callR ‹_› (fun H => name_spec (n := .y) H (R'.le (by o_head qo))) fun a0 st15 s15 le15 F15 Ra0 => ?_
  o_head m_go
  refine Fx.callR ‹_› (fun H => name_spec (n := .mother) H (R'.le (by o_head qo))) fun am st16 s16 le16 F16 Ram => ?_
  o_head m_go
  refine Fx.callR ‹_› (fun H => name_spec (n := .y) H (R'.le (by o_head qo))) fun ay st17 s17 le17 F17 Ray => ?_
  o_head m_go
  refine Fx.callR ‹_› (fun H => mkApp H (R'.le (by o_head qo)) (Ram.mono le17) Ray) fun a1 st18 s18 le18 F18 Ra1 => ?_
  o_head m_go
  refine Fx.callR ‹_› (fun H => name_spec (n := .w) H (R'.le (by o_head qo))) fun a2 st19 s19 le19 F19 Ra2 => ?_
  o_head m_go
  refine Fx.callA ‹_› (fun H => name_spec (n := .rex) H (R'.le (by o_head qo))) fun v st20' s20' le20' F20 hv => ?_
  obtain ⟨a3, rfl, Ra3⟩ := hv
  o_head m_go
  refine Fx.lstS ‹_› (Nat.le_of_ble_eq_true rfl) fun l21 st21' s21' le21' hl21 F21 => ?_
  o_head m_go
  rename_i t22 s22 F22
  refine Fx.callTB F22 (fun H => take_spec H F22.ow1 hb21 F22.ow2 F22.ow5 (by decide) (by decide) (R'.le (by o_head qo))) fun t23 o23 st23 s23 le23 F23' z => ?_
  have F23 := F23'.drop (List.sublist_cons_self _ _)
  obtain ⟨hj0, hj4⟩ := fmod_b c3 4 (by decide)
  have le24 := le20'.trans (le21'.trans le23)
  obtain ⟨af, hxf, Raf⟩ := first_get hj0 hj4 (Ra0.mono (le16.trans (le17.trans (le18.trans (le19.trans le24))))) (Ra1.mono (le19.trans le24)) (Ra2.mono le24) (Ra3.mono (le21'.trans le23))
  refine Fx.itemL F23 (hl21.mono le23).la hj0 (by o_head qo) hxf ?_
  have le25 := le15.trans (le16.trans (le17.trans (le18.trans (le19.trans le24))))
  have Re25 := Re14.mono le25
  have Rt25 := Rt14.mono le25
  have Rp25 := Rp14.mono le25
  have CC25 := CC14.mono le25
  clear hxf le25 le24 F22 hl21 F21 F20 F19 F18 F17 F16 F15 Ra0 Ra1 Ra2 Ra3 Ram Ray le15 le16 le17 le18 le19 le20' le21' le23 Re14 Rt14 Rp14 CC14
  generalize c3.fmod 4 = ci at hj0 hj4 Raf
  o_head m_go
  refine Fx.callM ‹_› (Rep.methN (Re25.mono (St.le.refl _)) (m_substitute_bindings _ e)) ?_
  o_head m_go
  refine tup_mk ?_
  o_head m_go
  refine Fx.callR ‹_› (fun H => mkVar H (R'.le (by o_head qo))) fun vx st26 s26 le26 F26 Ivx => ?_
  o_head m_go
  refine Fx.tupS ‹_› (Nat.le_of_ble_eq_true rfl) fun tx st27 s27 le27 htx F27 => ?_
  o_head m_go
  refine tup_mk ?_
  o_head m_go
  refine Fx.callR ‹_› (fun H => mkVar H (R'.le (by o_head qo))) fun vy st28 s28 le28 F28 Ivy => ?_
  o_head m_go
  refine Fx.callR ‹_› (fun H => name_spec (n := .rex) H (R'.le (by o_head qo))) fun ar st29 s29 le29 F29 Rar => ?_
  o_head m_go
  refine Fx.tupS ‹_› (Nat.le_of_ble_eq_true rfl) fun ty st30 s30 le30 hty F30 => ?_
  o_head m_go
  refine Fx.lstS ‹_› (Nat.le_of_ble_eq_true rfl) fun lp st31 s31 le31 hlp F31 => ?_
  o_head m_go
  have Vx : VarAt st26 vx .x := ⟨_, Ivx⟩
  have Vy : VarAt st28 vy .y := ⟨_, Ivy⟩
  have le32 := le28.trans (le29.trans (le30.trans le31))
  have le33 := le26.trans (le27.trans le32)
  refine Fx.callBD F31 (R'.le (by o_head qo)) FS1.ex hlp (htx.mono le32) (hty.mono le31) (Vx.mono (le27.trans le32)) (Vy.mono (le29.trans (le30.trans le31))) (Raf.mono le33) (Rar.mono (le30.trans le31)) fun bd st34 s34 le34 F34 BD => ?_
  o_head m_go
  have le35 := le33.trans le34
  obtain ⟨fq1, fq2, fq3, fq4, fq5, fq6, fq7, fq8⟩ := first_sub hj0 hj4
  obtain ⟨both, hboth, BF, Bht, Btr⟩ := law_sub fq3 fq4 fq5 fq6 fq7 fq8 (n := 10) e.vars (union_nodup _) FE.fm (fun z => base_z1 FE.names) (by split <;> split <;> o_head qo)
  refine Fx.callR ‹_› (fun H => sub_spec (n := 10) (d' := dOf (firstR ci) (.nm .rex)) H (R'.le (by o_head qo)) (Re25.mono le35) BD (by o_head qo) (inner_ok hj0 hj4) dOf_none hboth) fun ab st36 s36 le36 F36 Rb36 => ?_
  have le37 := le35.trans le36
  have Re36 := Re25.mono le37
  have Rt36 := Rt25.mono le37
  have Rp36 := Rp25.mono le37
  have Rf36 := Raf.mono le37
  have CC36 := CC25.mono le37
  clear le37 le36 le35 le34 le33 le32 le31 le30 le29 le28 le27 le26 BD F34 F31 F30 F29 F28 F27 F26 F23 Re25 Rt25 Rp25 Raf CC25 htx hty hlp Ivx Ivy Vx Vy Rar hboth
  o_head m_go
  refine Fx.orB (c := isaE e 760) (isaE e 727) ‹_› (G := fun v s' => wpAny _ _ (storeName _ _ v) _ _ s') (fun G' hG => ?_) (fun s37 F37 => ?_)
  ·o_head m_go
   exact hG _ ‹_›
  o_head m_go
  refine Fx.ifMid (fun st' v => ∃ (tw : Addr) (tu : Ex), v = .ref tw ∧ Rep st' tw tu ∧ Fm tu ∧ tu.ht ≤ 7 ∧ (∀ W p, tr W p tu = tr W p e) ∧ ((isaE e 760 || isaE e 727) = true → ∃ b t, tu = .qu b .u t)) ‹_› (fun hq => ?_) (fun hq => ?_) ?_
  ·obtain ⟨b, n0, t0, rfl⟩ : ∃ b n0 t0, e = .qu b n0 t0 := by
    cases e with
    | qu b n0 t0 => exact ⟨b, n0, t0, rfl⟩
    | _ => exact absurd hq Bool.false_ne_true
   obtain ⟨q1, q2, q3, q4⟩ := law_turn FE (k := 7) (by decide)
   obtain ⟨v0, t1, I0, _, _⟩ := Re36.quI
   o_head m_go
   refine Fx.callM ‹_› (I0.meth (m_alpha _ b) rfl) ?_
   o_head m_go
   refine Fx.callR ‹_› (fun H => mkVar H (R'.le (by o_head qo))) fun vu st38 s38 le38 F38 Ivu => ?_
   have Vu : VarAt st38 vu .u := ⟨_, Ivu⟩
   o_head m_go
   refine Fx.callR ‹_› (fun H => alpha_spec (repl_all 7) H (R'.le (by o_head qo)) (Re36.mono le38) Vu (by have : t0.ht + 1 ≤ 7 := hht; o_head qo) q1) fun tw st39 s39 le39 F39 Rtw => ?_
   exact ⟨_, le38.trans le39, F39, tw, _, rfl, Rtw, q2, q3, q4, fun z => ⟨b, _, rfl⟩⟩
  ·o_head m_go
   exact ⟨_, St.le.refl _, ‹_›, ea, e, rfl, Re36, FE.fm, hht, fun z z => rfl, fun h => absurd h (by rw [hq]; exact Bool.false_ne_true)⟩
  intro v st40 s40 le40 F40 hv
  obtain ⟨atu, tu, rfl, Rtu, TF, Tht2, Ttr, Tq⟩ := hv
  generalize (isaE e 760 || isaE e 727) = bq at F40 Tq
  have Re40 := Re36.mono le40
  have Rt40 := Rt36.mono le40
  have Rp40 := Rp36.mono le40
  have Rf40 := Rf36.mono le40
  have Rb40 := Rb36.mono le40
  have CC40 := CC36.mono le40
  clear Re36 Rt36 Rp36 Rf36 Rb36 CC36 le40 F36 F37
  o_head m_go
  refine Fx.andF (G := fun b s' => if b = true then wpAny _ _ (execs [_] _) _ _ s' else wpAny _ _ (execs [] _) _ _ s') ‹_› (fun hq G' hG => ?_) (fun s41 F41 => ?_)
  ·obtain ⟨b, t0, rfl⟩ := Tq hq
   obtain ⟨v0, t1, I0, V0, _⟩ := Rtu.quI
   o_head m_go
   refine Fx.neT ‹_› ?_
   rw [show (Nm.u.str == (Str.ofString "u")) = true from by kernel_rfl]
   o_head m_go
   exact hG _ ‹_›
  clear Tq F40
  replace F41 := Fx.lsub (l' := (lc "turned" (.ref atu) (lc "both" (.ref ab) (lc "first" (.ref af) (lc "put" (.ref pa) (lc "term" (.ref ta) (lc "kept" (.str we t13) (lc "e" (.ref ea) (lc "world" (.int world tw) []))))))))) F41 (by o_head m_sub)
  refine Fx.hideL F41 fun lv hlv F41 => ?_
  have mm0 : (("turned" : Str), ((.ref atu) : Value)) ∈ lv := by rw [hlv]; o_head m_mem
  have mm1 : (("both" : Str), ((.ref ab) : Value)) ∈ lv := by rw [hlv]; o_head m_mem
  have mm2 : (("first" : Str), ((.ref af) : Value)) ∈ lv := by rw [hlv]; o_head m_mem
  have mm3 : (("put" : Str), ((.ref pa) : Value)) ∈ lv := by rw [hlv]; o_head m_mem
  have mm4 : (("term" : Str), ((.ref ta) : Value)) ∈ lv := by rw [hlv]; o_head m_mem
  have mm5 : (("kept" : Str), ((.str we t13) : Value)) ∈ lv := by rw [hlv]; o_head m_mem
  have mm6 : (("e" : Str), ((.ref ea) : Value)) ∈ lv := by rw [hlv]; o_head m_mem
  have mm7 : (("world" : Str), ((.int world tw) : Value)) ∈ lv := by rw [hlv]; o_head m_mem
  have nn0 : ∀ p ∈ lv, p.1 ≠ ("told" : Str) := by rw [hlv]; o_head m_ne
  have nn1 : ∀ p ∈ lv, p.1 ≠ ("number" : Str) := by rw [hlv]; o_head m_ne
  have nn2 : ∀ p ∈ lv, p.1 ≠ ("place" : Str) := by rw [hlv]; o_head m_ne
  have nn3 : ∀ p ∈ lv, p.1 ≠ ("meant" : Str) := by rw [hlv]; o_head m_ne
  have nn4 : ∀ p ∈ lv, p.1 ≠ ("rex" : Str) := by rw [hlv]; o_head m_ne
  have nn5 : ∀ p ∈ lv, p.1 ≠ ("x" : Str) := by rw [hlv]; o_head m_ne
  clear hlv
  o_head m_go
  refine Fx.lstW (vs := []) ‹_› (by decide) fun tda n42 s42 F42 => ?_
  o_head m_go
  refine Fx.rangeN ‹_› fun r t43 u43 v43 s43 hr F43 => ?_
  obtain ⟨T, hT⟩ := tell_ex FE (wdOf world)
  refine Fx.forR (n := 8) (fun i st' own' l' => l' = (_ : Loc) ∧ ∃ k, own' = ([(tda, lstO (bools ((tbl T).take i)) k)] : Owns)) F43 hr (by decide) R'.hh ⟨rfl, n42, rfl⟩ ?_ ?_
  ·rintro i tk st44 it o own' l' s44 E44 hi le44 ⟨rfl, k1, rfl⟩ F44
   obtain ⟨ca, cb, cc, hx1, hx2, hx3, hget⟩ := tbl_num T i hi
   o_head m_go
   refine Fx.callAppend (vs := bools ((tbl T).take i)) ‹_› ⟨k1, .inr (by o_head m_mem)⟩ ?_
   o_head m_go
   refine Fx.dispXYW ‹_› N (by o_head m_mem) (by o_head m_nam) hx1 hx2 hx3 fun dd st46 s46 le46 F46 P46 => ?_
   o_head m_go
   have le47 := (le44.trans le46)
   refine Fx.callV ‹_› (fun H => true_all e (m := 3) H (R'.le (by o_head qo)) (Re40.mono le47) P46 (by o_head qo) (hT ca cb cc)) fun st48 s48 le48 F48 => ?_
   o_head m_go
   refine Fx.appendAt [(it, o)] ‹_› (by simp [bools, tbl]; o_head qo) fun k2 s49 F49 => ?_
   o_head m_go
   refine ⟨st48, _, _, le46.trans le48, ⟨rfl, k2, rfl⟩, ?_⟩
   rw [take_snoc hget, show bools ((tbl T).take i ++ [T ca cb cc]) = bools ((tbl T).take i) ++ [.bool (T ca cb cc)] from List.map_append]
   exact (F49.lsub fun p hp => .tail _ hp)
  rintro st50 own' l' s50 le50 ⟨rfl, k50, rfl⟩ F50
  o_head m_go
  refine Fx.rangeN ‹_› fun r t51 u51 v51 s51 hr F51 => ?_
  obtain ⟨le52, F52⟩ := Fx.freeze F51 F51.ow4
  have hTd : Lst (st50.put tda (lstO (bools ((tbl T).take 8)) k50)) tda (bools (tbl T)) := ⟨k50, St.put_self⟩
  generalize st50.put tda (lstO (bools ((tbl T).take 8)) k50) = st52 at F52 hTd le52
  have le53 := le50.trans le52
  have Rtu53 := Rtu.mono le53
  have Re53 := Re40.mono le53
  have Rt53 := Rt40.mono le53
  have Rp53 := Rp40.mono le53
  have Rf53 := Rf40.mono le53
  have Rb53 := Rb40.mono le53
  have CC53 := CC40.mono le53
  clear F51 F50 F43 F42 F41 Re40 Rt40 Rp40 Rf40 Rb40 CC40 Rtu le50 le52 le53
  refine Fx.forR (n := 8) (fun i st' own' l' => l' = (_ : Loc) ∧ own' = ([] : Owns)) F52 hr (by decide) R'.hh ⟨rfl, rfl⟩ ?_ ?_
  ·rintro i tk st54 it o own' l' s54 E54 hi le54 ⟨rfl, rfl⟩ F54
   obtain ⟨ca, cb, cc, hx1, hx2, hx3, hget⟩ := tbl_num T i hi
   o_head m_go
   refine Fx.dispXYW ‹_› N (by o_head m_mem) (by o_head m_nam) hx1 hx2 hx3 fun dd st56 s56 le56 F56 P56 => ?_
   o_head m_go
   have le57 := le54.trans le56
   refine Fx.callV ‹_› (fun H => true_all tu (m := 3) H (R'.le (by o_head qo)) (Rtu53.mono le57) P56 (by o_head qo) ((Ttr _ _).trans (hT ca cb cc))) fun st58 s58 le58 F58 => ?_
   o_head m_go
   refine Fx.itemL F58 (hTd.mono (le57.trans le58)).la (by o_head qo) (by o_head qo) (by rw [Int.toNat_natCast]; exact bool_get hget) ?_
   refine Fx.neB ‹_› ?_
   rw [show (!(T ca cb cc == T ca cb cc)) = false from by simp]
   o_head m_go
   obtain ⟨kvs, D58, hk58, hkv58⟩ := P56.mono le58
   refine Fx.dicOf ‹_› D58 (by o_head qo) fun mo om s59 hom hgem F59 => ?_
   obtain ⟨tv, htv⟩ := term_th (wdOf world) cq ca cb cc
   have le59 := le57.trans le58
   have CC59 := CC53.mono le59
   o_head m_go
   refine Fx.callT ‹_› (fun H => thing_all (termE cq) (m := 3) H (R'.le (by o_head qo)) (Rt53.mono le59) (P56.mono le58) htv) fun t60 st60 s60 le60 F60 => ?_
   have CC60 := CC59.mono le60
   clear CC59
   o_head m_go
   refine Fx.dicSet ‹_› hom (by o_head qo) fun om2 s61 hom2 F61 => ?_
   have D61 := F61.dicS hom2
   obtain ⟨le62, F62⟩ := Fx.freeze F61 hgem
   have P62 : PlaceAt B (st60.put mo om2) mo ((plc ca cb cc).put n tv) 4 := ⟨_, D61, by have := stored_len kvs n.str (.int (bitI tv) t60); o_head qo, place_put hkv58⟩
   obtain ⟨xa, xb, xc, hxp⟩ := put_plc hnv ca cb cc tv
   rw [hxp] at P62
   generalize st60.put mo om2 = st62 at F62 P62 le62
   have le63 := le58.trans (le60.trans le62)
   have le64 := le57.trans le63
   clear F61 F60 F59 F58 F56 F54
   o_head m_go
   refine Fx.callV ‹_› (fun H => true_all put (m := 3) H (R'.le (by have := MP.ht; o_head qo)) (Rp53.mono le64) (P56.mono le63) (by have := MP.ht; o_head qo) ((MP.sem _ _ tv htv).trans (by rw [hxp]; exact hT xa xb xc))) fun st65 s65 le65 F65 => ?_
   o_head m_go
   refine Fx.placeItem (n := .x) (b := xa) ‹_› (P62.mono le65) rfl fun t66 s66 F66 => ?_
   o_head m_go
   refine Fx.placeItem (n := .y) (b := xb) ‹_› (P62.mono le65) rfl fun t67 s67 F67 => ?_
   refine Fx.mulI ‹_› (IntMulOk.of_left (by decide)) fun t68 s68 F68 => ?_
   o_head m_go
   refine Fx.placeItem (n := .w) (b := xc) ‹_› (P62.mono le65) rfl fun t69 s69 F69 => ?_
   refine Fx.mulI ‹_› (IntMulOk.of_left (by decide)) fun t70 s70 F70 => ?_
   o_head m_go
   refine Fx.itemL ‹_› (hTd.mono (le57.trans (le63.trans le65))).la (idx_ok xa xb xc).1 (idx_ok xa xb xc).2 (bool_get (tbl_get T xa xb xc)) ?_
   refine Fx.neB ‹_› ?_
   rw [show (!(T xa xb xc == T xa xb xc)) = false from by simp]
   have le71 := le63.trans le65
   have P71 := P56.mono le71
   clear F65 F66 F67 F68 F69 F70 P62 P56
   o_head m_go
   refine Fx.dispD (h0 := List.cons_ne_nil _ _) (hlen := Nat.le_of_ble_eq_true rfl) ‹_› fun d2 s72 hge2 F72 => ?_
   refine PySem.pairTrees_cons_walk ?_
   o_head m_go
   refine PySem.pairTrees_cons_walk ?_
   o_head m_go
   refine PySem.pairTrees_cons_walk ?_
   o_head m_go
   refine Fx.placeItem (n := .w) (b := cc) ‹_› P71 rfl fun t73 s73 F73 => ?_
   refine PySem.pairTrees_nil_walk ?_
   refine Fx.placeD (ca := false) (cb := (wdOf world).rex) hge2 F73 rfl (wbit_bit world 8) rfl fun st74 s74 le74 F74 P74 => ?_
   obtain ⟨xv, hxv1, hxv2⟩ := first_th hj0 hj4 (wdOf world) ca cb cc
   have le75 := le71.trans le74
   o_head m_go
   refine Fx.callT ‹_› (fun H => thing_all (firstE ci) (m := 3) H (R'.le (by have := (first_sub hj0 hj4).2.1; o_head qo)) (Rf53.mono (le57.trans le75)) P74 hxv1) fun t76 st76 s76 le76 F76 => ?_
   have P76 := P71.mono (le74.trans le76)
   have le77 := le57.trans (le75.trans le76)
   clear F74 F73 F72
   o_head m_go
   refine Fx.callV ‹_› (fun H => true_all both (m := 3) H (R'.le (by o_head qo)) (Rb53.mono le77) P76 (by o_head qo) ((Btr _ _ xv hxv2).trans ((upd_tr FE _ ca cb cc xv).trans (hT xv _ cc)))) fun st78 s78 le78 F78 => ?_
   o_head m_go
   refine Fx.mulI ‹_› (IntMulOk.of_left (by decide)) fun t79 s79 F79 => ?_
   o_head m_go
   refine Fx.placeItem (n := .w) (b := cc) ‹_› (P76.mono le78) rfl fun t80 s80 F80 => ?_
   refine Fx.mulI ‹_› (IntMulOk.of_left (by decide)) fun t81 s81 F81 => ?_
   o_head m_go
   have hwb : wbit world 8 = bitI (wdOf world).rex := wbit_bit world 8
   refine Fx.itemL ‹_› (hTd.mono (le77.trans le78)).la (by rw [hwb]; exact (idx_ok xv _ cc).1) (by rw [hwb]; exact (idx_ok xv _ cc).2) (by rw [hwb]; exact bool_get (tbl_get T xv _ cc)) ?_
   refine Fx.neB ‹_› ?_
   rw [show (!(T xv (wdOf world).rex cc == T xv (wdOf world).rex cc)) = false from by simp]
   o_head m_go
   exact ⟨st78, _, _, le56.trans (le75.trans (le76.trans le78)), ⟨rfl, rfl⟩, Fx.lsub ‹_› fun p hp => .tail _ (.tail _ (.tail _ (.tail _ (.tail _ hp))))⟩
  rintro st82 own' l' s82 le82 ⟨rfl, rfl⟩ F82
  have Re82 := Re53.mono le82
  obtain ⟨fs2, Ie2, _⟩ := Re82.inst
  o_head m_go
  refine Fx.callStr ‹_› (R'.in1.in1.le (by o_head qo)) Ie2 (strB_ex _ e) (fun H => hwe.2 H (R'.in1.in1.le (by o_head qo)) Re82) fun t83 st83 s83 le83 F83 => ?_
  o_head m_go
  exact Fx.ret k ‹_› fun st84 le84 => by show Value.bool (we == we) = _; rw [beq_self_eq_true]
noncomputable abbrev bs0 (w : World) (mg mb : Str → Option Value) (h : Heap) : Bs := { prog := lw.row.prog, w := w, mg := mg, mb := mb, g := hideAll h TT, gv := #[] }
theorem lookup_fst : ∀ {K : Frag} {a : Addr} {o : Obj}, K.lookup a = some o → a ∈ K.map (·.1)
 | [], _, _, e => nomatch e
 | (b, x) :: r, a, o, e => by
  by_cases q : a = b
  ·exact List.mem_cons.mpr (.inl q)
  ·have hb : (a == b) = false := beq_eq_false_iff_ne.mpr q
   rw [List.lookup_cons, hb] at e
   exact List.mem_cons_of_mem _ (lookup_fst e)
theorem frag_off : (fragAs.all fun a => !TT.contains a) = true := by kernel_rfl
theorem in_hide {P : Params} {h : Heap} (X : (hd.heap_39 P).In h) : (hd.heap_39 P).In (hideAll h TT) := fun a o e =>
 hideAll_get TT (X a o e) fun q => by
  have h1 := lookup_fst e
  rw [← frag_as P] at h1
  have h2 := List.all_eq_true.mp frag_off a h1
  rw [List.contains_iff_mem.mpr q] at h2
  cases h2
theorem ns_hide {h : Heap} {a : Addr} {m : Str → Option Value} (ha : a ∉ TT) (N : h.Ns a m) : (hideAll h TT).Ns a m := by
 obtain ⟨o, es, ep, h1, r⟩ := N
 exact ⟨o, es, ep, hideAll_get TT h1 ha, r⟩
theorem frag_1213 (P : Params) : ((hd.heap_39 P).lookup 1213).isSome = true := by kernel_rfl
theorem bs_ok {w : World} {s₀ : Shared} {h : Heap} {mg mb : Str → Option Value} {R : WRecords} (G : Ground vw loose0 R (XL vw []) w s₀ mg mb h) (Y : hk.says w h) : (bs0 w mg mb h).Ok where
 X := in_hide Y.1
 gl := ns_hide (by decide) G.T.g
 bl := ns_hide (by decide) G.T.b
 lim := let ⟨mc, h1, h2⟩ := G.T.nolimit; ⟨mc, ns_hide (by decide) h1, h2⟩
 bi := G.T.builtins
 bm := by
  obtain ⟨bm, ob, h1, h2, h3, h4, h5, h6⟩ := G.T.bmain
  refine ⟨bm, ob, h1, h2, fun q => ?_, hideAll_get TT h3 fun q => ?_, h4, h5, h6⟩
  ·obtain ⟨o, es, ep, k1, k2, _⟩ := G.T.g
   rw [← q, h3] at k1
   cases k1
   rw [h6] at k2
   cases k2
  ·rw [Y.2 _ q] at h3
   cases h3
   cases h4
 off := fun P hP => hideAll_none _ hP
 size := by
  show 1214 ≤ (hideAll h TT).objs.size
  rw [hideAll_size]
  obtain ⟨o, e⟩ := Option.isSome_iff_exists.mp (frag_1213 w.params)
  exact Heap.lt_size (Y.1 _ _ e)
theorem at0 {w : World} {s₀ s : Shared} {mg mb : Str → Option Value} {R : WRecords} (G : Ground vw loose0 R (XL vw []) w s₀ mg mb s.heap) (Y : hk.says w s.heap) (hg : s.gens = #[]) : At (bs0 w mg mb s.heap) (hideAll s.heap TT).get? s where
 ok := bs_ok G Y
 inv := ⟨fun b o e => of_hideAll _ e, ⟨.of_eq hg, fun k hk => absurd hk (Nat.not_lt_zero _)⟩, fun x hx => ⟨⟨#[], Y.2 _ (tabs_TT x hx), trivial, fun pos cv e => by cases e⟩⟩, Nat.le_of_eq (hideAll_size _ _)⟩
 le := fun b o e => of_hideAll _ e
 offT := fun P hP => hideAll_none _ hP
noncomputable def writesB (P : Params) (x : Addr × Addr × Str) : Bool := codeHdB (hd.heap_39 P) x.1 x.2.1
theorem codes0 (P : Params) : tabs.all (writesB P) = true := by kernel_rfl
theorem isTable0 {w : World} {h : Heap} (Y : hk.says w h) : ∀ x ∈ tabs, isCodeTable h x.2.1 := fun x hx => by
 obtain ⟨o, vs, _, _, _, _, _, _, _, h1, h2, h3, h4, _⟩ := codeHd_of Y.1 (List.all_eq_true.mp (codes0 w.params) x hx)
 exact ⟨x.1, o, vs, h1, h2, h3, h4⟩
theorem oldK0 {w : World} {s s' : Shared} {mg mb : Str → Option Value} (Y : hk.says w s.heap) (I : Inv (bs0 w mg mb s.heap) s') (X : Ext [] s.heap s'.heap) : OldK s.heap s'.heap := by
 have key : ∀ b o, s.heap.get? b = some o → (∃ x ∈ tabs, x.2.1 = b) ∨ s'.heap.get? b = some o := fun b o e => by
  by_cases hb : b ∈ TT
  ·exact .inl (TT_tabs b hb)
  ·exact .inr (X.1 b o hb (fun h => nomatch h) e)
 refine ⟨fun b o e => ?_, fun b o e => ?_⟩
 ·rcases key b o e with ⟨x, hx, rfl⟩ | h
  ·rw [Y.2 _ (tabs_TT x hx)] at e
   cases e
   obtain ⟨ps, h2, _⟩ := (I.tabs x hx).ex
   exact .inr (.inl ⟨isTable0 Y x hx, rfl, #[], ps, rfl, by rw [h2, Array.empty_append]⟩)
  ·exact .inl h
 ·rcases key b o e with ⟨x, hx, rfl⟩ | h
  ·obtain ⟨ps, h2, _⟩ := (I.tabs x hx).ex
   exact ⟨_, h2⟩
  ·exact ⟨o, h⟩
theorem glob_law (P : Params) : nsIn (hd.heap_39 P) mainGlobals law0.name = some (some (.ref 1213)) := by kernel_rfl
theorem ints0 {P : Params} {h : Heap} {R : WRecords} {xs : List WData} : ∀ {vs : List Value}, WellAll P h vs xs → WShape.hasItems R xs .int = true → (∀ v ∈ vs, ∃ c t, v = .int c t) ∧ vs.length = xs.length := by
 induction xs with
 | nil => intro vs a _; cases a; exact ⟨fun z h => (nomatch h), rfl⟩
 | cons x xs ih =>
  intro vs a hx
  obtain ⟨k1, k2⟩ := Bool.and_eq_true_iff.mp hx
  obtain ⟨i, rfl⟩ := hasW_int k1
  cases a with
  | cons a1 a2 =>
   obtain ⟨m1, m2⟩ := ih a2 k2
   cases a1
   exact ⟨List.forall_mem_cons.mpr ⟨⟨_, _, rfl⟩, m1⟩, congrArg (· + 1) m2⟩
theorem most0 {xs : List WData} (h : lw.row.toRowW.pre.holds [] { args := [.list xs] } = true) : xs.length ≤ 63 := by
 have e : lw.row.toRowW.pre = .and (.not (.lt (.lit (.int 63)) (.len (.arg 0)))) (.lit (.bool true)) := rfl
 rw [e] at h
 have e2 : less? (WData.int 63) (WData.int (xs.length : Int)) = some (decide ((63 : Int) < (xs.length : Int))) := rfl
 refine Nat.le_of_not_lt fun q => ?_
 have e3 : decide ((63 : Int) < (xs.length : Int)) = true := decide_eq_true (by o_head qo)
 simp [WTm.holds, WTm.value, e2, e3] at h
theorem walk0 : WalkO vw loose0 (XL vw []) hk.says lw.row.toRowW law0 [] fun f vs => PySem.call f vs := by
 intro w s₀ s₁ mg mb G Y a o pm cd doc dV kV h1 h2 h3 h4 h5 h6 args vals as hpre hlay hrd hwl hlo
 have A0 := at0 G Y h6
 have g := mg_of A0.ok.X A0.ok.gl (glob_law w.params)
 obtain rfl : 1213 = a := Value.ref.inj (Option.some.inj (g.symm.trans h5))
 obtain ⟨d, r, rfl, hd1, hr⟩ := hasAllW_cons (pre_splitW hpre).1
 obtain rfl := hasAllW_nil hr
 obtain ⟨xs, rfl, hi⟩ := hasW_list hd1
 have hm := most0 (pre_splitW hpre).2
 cases hwl with
 | cons hw hn =>
 cases hn
 cases hw with
 | @list a vs xs hl hall =>
 obtain ⟨k1, k2⟩ := ints0 hall hi
 have hno : a ∉ TT := fun q => by
  rw [Y.2 _ q] at hl
  cases hl
 refine law_spec A0 ⟨0, hideAll_get TT hl hno⟩ k1 (by rw [k2]; o_head qo) ⟨rfl, by decide, by decide⟩ ⟨⟨[], rfl, fun z h => (nomatch h)⟩, fun z h => (nomatch h)⟩ _ _ fun v s' I X os hv => ?_
 subst hv
 exact ⟨.inl ⟨_, _, [], rfl, fun z => rfl, ReadsW.bool true, by kernel_rfl, fun z => ⟨List.nodup_nil, fun z h => (nomatch h)⟩⟩, oldK0 Y I X, os, I.bare.1⟩
end
end Mine
set_option maxHeartbeats 4000000 in
theorem PySem.Challenge.cw_ao0014_01_holds : PySem.Challenge.rw_ao0014_01.Holds := by
 exact Mine.hd Mine.walk0
